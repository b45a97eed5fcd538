import JvmDerived
import JvmDerived.Pilot.@@N@@Statement
import JvmDerived.Pilot.@@N@@Code
set_option linter.unusedVariables false
set_option linter.unusedSimpArgs false
@@BLOCK:NumsL.lean.txt@@
@@BLOCK:TracedD.lean.txt@@
namespace Jvm.Pilot.@@N@@
open Jvm Jvm.ClassFile Sem Op Lib Jvm.Free Jvm.Stand Jvm.LawKit Jvm.RoadKit Bundle Jvm.Pilot.@@N@@.Jvm.D
section Own
variable {p : Program} {l : Launch} {e : Env} {R : Room} {s : State} {m : MethodId} {args : Array Value} {below : List Frame} {meth : Method} {c : Code} {T : State} {locs : List Loc} {cells slots : Nat} {Z : State} {a0 : Array Value} {h : Heap}
/-- a walk that goes forward: from S the run comes to an end of which P holds -/
def own_G (p : Program) (e : Env) (below : List Frame) (S : State) (P : Outcome → State → Prop) : Prop :=
  ∃ s₂ o, Steps p.tables e below S s₂ ∧ s₂.status = .running ∧ Ended s₂ below o ∧ P o s₂
/-- what a body leaves -/
def own_P (s : State) (Q : Option Value → Heap → List Loc → Prop) (kc ks : Nat) (o : Outcome) (U : State) : Prop := ∃ v L, o = .returned v ∧ Q v U.heap L ∧ FrameEnd s o U L kc ks
theorem oS {S S' : State} {P : Outcome → State → Prop} (k : ∀ t, Steps p.tables e below S' t → Steps p.tables e below S t) (h : own_G p e below S' P) : own_G p e below S P := by
  obtain ⟨s2, o, h1, h2⟩ := h; exact ⟨s2, o, k _ h1, h2⟩
theorem oW {Z : State} {a0 : Array Value} (hw : ∀ d ∈ tables_1, d.before a0 Z = true) (i : Nat) {d : Jvm.Cond} (q : tables_1[i]? = some d) : d.before a0 Z = true := hw _ (List.mem_of_getElem? q)
theorem own_cast {g g' : JFrame} {P : Outcome → State → Prop} (q : g = g') (k : own_G p e below (T.setTop g') P) : own_G p e below (T.setTop g) P := q ▸ k
theorem own_leave (X : Stand p l e R s m args below meth c T locs cells slots) {g : JFrame} {v : Option Value} {Q : Option Value → Heap → List Loc → Prop} {kc ks : Nat} (hlocks : meth.locks = false) (hv : meth.sig.returnType = none → v = none)
    (k : ∀ fs, (∀ (f : JFrame) (acts : List Action), f.method = m → f.locked = none → f.entered = [] → (doReturn e (T.setTop f) acts v).1 = T.setFrames fs) → Steps p.tables e below (T.setTop g) (T.setFrames fs))
    (eT : T.heap = h) (hc : cells ≤ kc) (hs : slots ≤ ks) (hq : Q v h locs) : own_G p e below (T.setTop g) (own_P s Q kc ks) := by
  obtain ⟨fs, hr, hrun, hended, hW, hsame⟩ := X.leave (v := v) hv hlocks
  exact ⟨_, _, k fs hr, hrun, hended, _, _, rfl, by show Q v T.heap locs; rw [eT]; exact hq, ⟨_, rfl⟩, hW, hsame.mono hc hs⟩
theorem own_retN (X : Stand p l e R s m args below meth c T locs cells slots) (hx : p.tables.exec = Jvm.exec) {pc : Nat} {Ls : Array Slot} {z : Int32} {t : FieldType} {rest : List Value} {Q : Option Value → Heap → List Loc → Prop} {kc ks : Nat} (hlocks : meth.locks = false) (hret : meth.sig.returnType = some t) (ht : t = .boolean ∨ t = .byte ∨ t = .char ∨ t = .short)
    (hd : decode c.code pc = .ok (.ireturn, 1)) (hn : nar t z = z) (eT : T.heap = h) (hc : cells ≤ kc) (hs : slots ≤ ks) (hq : Q (some (.int z)) h locs) : own_G p e below (T.setTop (mkF m pc Ls (.int z :: rest))) (own_P s Q kc ks) :=
  own_leave X (v := some (.int z)) hlocks (fun q => by rw [hret] at q; cases q) (fun fs hl => retN X hx hret ht hd (by rw [hn]; exact hl)) eT hc hs hq
theorem own_retI (X : Stand p l e R s m args below meth c T locs cells slots) (hx : p.tables.exec = Jvm.exec) {pc : Nat} {Ls : Array Slot} {z : Int32} {rest : List Value} {Q : Option Value → Heap → List Loc → Prop} {kc ks : Nat} (hlocks : meth.locks = false) (hret : meth.sig.returnType = some .int)
    (hd : decode c.code pc = .ok (.ireturn, 1)) (eT : T.heap = h) (hc : cells ≤ kc) (hs : slots ≤ ks) (hq : Q (some (.int z)) h locs) : own_G p e below (T.setTop (mkF m pc Ls (.int z :: rest))) (own_P s Q kc ks) :=
  own_leave X (v := some (.int z)) hlocks (fun q => by rw [hret] at q; cases q) (fun fs hl => retOut X hx hret rfl (Or.inl ⟨rfl, Or.inl rfl, _, rfl⟩) hd hl) eT hc hs hq
theorem own_retL (X : Stand p l e R s m args below meth c T locs cells slots) (hx : p.tables.exec = Jvm.exec) {pc : Nat} {Ls : Array Slot} {z : Int64} {rest : List Value} {Q : Option Value → Heap → List Loc → Prop} {kc ks : Nat} (hlocks : meth.locks = false) (hret : meth.sig.returnType = some .long)
    (hd : decode c.code pc = .ok (.lreturn, 1)) (eT : T.heap = h) (hc : cells ≤ kc) (hs : slots ≤ ks) (hq : Q (some (.long z)) h locs) : own_G p e below (T.setTop (mkF m pc Ls (.long z :: rest))) (own_P s Q kc ks) :=
  own_leave X (v := some (.long z)) hlocks (fun q => by rw [hret] at q; cases q) (fun fs hl => retOut X hx hret rfl (Or.inr (Or.inl ⟨rfl, rfl, _, rfl⟩)) hd hl) eT hc hs hq
theorem own_narR {t : FieldType} {w : Value} (h : w.isRef = true) : narrow t w = w := by
  rcases ref_cases h with rfl | ⟨a, rfl⟩ <;> cases t <;> rfl
theorem own_retA (X : Stand p l e R s m args below meth c T locs cells slots) (hx : p.tables.exec = Jvm.exec) {pc : Nat} {Ls : Array Slot} {w : Value} {t : FieldType} {rest : List Value} {Q : Option Value → Heap → List Loc → Prop} {kc ks : Nat} (hlocks : meth.locks = false) (hret : meth.sig.returnType = some t) (ht : t.isReference = true) (hw : w.isRef = true)
    (hd : decode c.code pc = .ok (.areturn, 1)) (eT : T.heap = h) (hc : cells ≤ kc) (hs : slots ≤ ks) (hq : Q (some w) h locs) : own_G p e below (T.setTop (mkF m pc Ls (w :: rest))) (own_P s Q kc ks) :=
  own_leave X (v := some w) hlocks (fun q => by rw [hret] at q; cases q) (fun fs hl => retOut X hx hret (own_narR hw) (Or.inr (Or.inr (Or.inr (Or.inr ⟨rfl, ht, hw⟩)))) hd hl) eT hc hs hq
theorem own_retV (X : Stand p l e R s m args below meth c T locs cells slots) (hx : p.tables.exec = Jvm.exec) {pc : Nat} {Ls : Array Slot} {Q : Option Value → Heap → List Loc → Prop} {kc ks : Nat} (hlocks : meth.locks = false) (hret : meth.sig.returnType = none)
    (hd : decode c.code pc = .ok (.return_, 1)) (eT : T.heap = h) (hc : cells ≤ kc) (hs : slots ≤ ks) (hq : Q none h locs) : own_G p e below (T.setTop (mkF m pc Ls [])) (own_P s Q kc ks) :=
  own_leave X (v := none) hlocks (fun _ => rfl) (fun fs hl => X.returnOut hx hret hd hl) eT hc hs hq
abbrev own_Met (l : Launch) (Z : State) (h : Heap) (y : MethodName) (bytes : ByteArray) (maxL : Nat) (ret : Option FieldType) (ws : List Jvm.Cond) (rm : Room) (as' : Array Value) (Q : Option Value → Heap → List Loc → Prop) (kc ks : Nat) : Prop :=
  MetFree l y (head1 (Jvm.Cond.code y bytes maxL ret :: ws) rm) (fun a U => a = as' ∧ Z.Warmed39 U.vm ∧ U.heap = h) (fun _ _ _ _ _ => True) (fun _ U o U' => ∃ v L, o = .returned v ∧ Q v U'.heap L ∧ FrameEnd U o U' L kc ks)
variable {own : String} {index : Nat} {y : MethodName} {bytes : ByteArray} {maxL : Nat} {ret : Option FieldType} {rm : Room} {W : Nat} {as' : Array Value} {Q : Option Value → Heap → List Loc → Prop}
abbrev own_After (p : Program) (l : Launch) (e : Env) (R : Room) (s : State) (m : MethodId) (args : Array Value) (below : List Frame) (meth : Method) (c : Code) (T : State) (locs : List Loc) (kc ks : Nat) (g : JFrame) (rest : List Value) (Q : Option Value → Heap → List Loc → Prop) (len : Nat := 3) : Prop :=
  ∃ (T' : State) (h' : Heap) (v : Option Value) (L : List Loc), Stand p l e R s m args below meth c T' (locs ++ L) kc ks ∧ T'.heap = h' ∧ Q v h' L ∧ ∀ target, Steps p.tables e below (T'.setTop { g with pc := g.pc + len, stack := v.toList ++ rest }) target → Steps p.tables e below (T.setTop g) target
theorem own_callS (X : Stand p l e R s m args below meth c T locs cells slots) (hx : p.tables.exec = Jvm.exec) (hZ : Z.Warmed39 s.vm) (hown : s.vm.findClass own = some m.cls) (eT : T.heap = h)
    (w1 : (Jvm.Cond.methodLink own index y).before a0 Z = true) (w2 : (Jvm.Cond.static y).before a0 Z = true) (w3 : (Jvm.Cond.initialized y.cls).before a0 Z = true) (w4 : (Jvm.Cond.code y bytes maxL ret).before a0 Z = true) (hy : y.cls ≠ "java/lang/invoke/MethodHandle" ∧ y.cls ≠ "java/lang/invoke/VarHandle")
    (hM : own_Met l Z h y bytes maxL ret [] rm as' Q rm.cells rm.slots)
    (hf : rm.frames + 1 ≤ R.frames) (hl : W + (maxL + 11) + rm.locals ≤ R.locals) (hc : cells + rm.cells ≤ R.cells) (hsl : slots + rm.slots ≤ R.slots)
    {g : JFrame} (hg : g.method = m) (hsize : g.locals.size = c.maxLocals) {argsL rest : List Value} (has : argsL.toArray = as') (hlen : ∀ sig, parseMethodDescriptor y.desc = some sig → argsL.length = sig.parameters.length)
    (hstack : g.stack = argsL.reverse ++ rest) (hW : 2 * g.monitorRoom + (rest.map fun v => v.category).sum ≤ W) (hd : decode c.code g.pc = .ok (.invokestatic index, 3)) :
    own_After p l e R s m args below meth c T locs (cells + rm.cells) (slots + rm.slots) g rest Q := by
  obtain ⟨v, vm1, ⟨T', L', k', n'⟩, -, X', ⟨Lc, hQ, l1, y1, z1⟩, st⟩ := Jvm.LawKit.callS X hx (y := y) hown (mvT hZ w1) (mvT hZ w2) (mvT hZ w3) (mvT hZ w4) hy (backOf (W := W) hM hZ w4 w3 hf hl) hg hsize hlen hstack hW hd (fun _ _ => ⟨has, eT, hc, hsl⟩)
  dsimp only [Pt.U, Pt.locs, Pt.cells, Pt.slots] at X' l1 y1 z1 st hQ
  subst l1 y1 z1
  exact ⟨T', _, v, Lc, X', rfl, hQ, st⟩
theorem own_callV (X : Stand p l e R s m args below meth c T locs cells slots) (hx : p.tables.exec = Jvm.exec) (hZ : Z.Warmed39 s.vm) (hown : s.vm.findClass own = some m.cls) (eT : T.heap = h) {z : MethodName} {C : String} {b : Addr}
    (w1 : (Jvm.Cond.methodLink own index y).before a0 Z = true) (w2 : (Jvm.Cond.declares y).before a0 Z = true) (nf : NotFace s y) (w3 : (Jvm.Cond.selects C y z).before a0 Z = true) (w5 : (Jvm.Cond.instanceMethod z).before a0 Z = true) (w6 : (Jvm.Cond.initialized z.cls).before a0 Z = true) (w4 : (Jvm.Cond.code z bytes maxL ret).before a0 Z = true) (hy : y.cls ≠ "java/lang/invoke/MethodHandle" ∧ y.cls ≠ "java/lang/invoke/VarHandle")
    (E : Exa Z h b C) (hM : own_Met l Z h z bytes maxL ret [] rm as' Q rm.cells rm.slots)
    (hf : rm.frames + 1 ≤ R.frames) (hl : W + (maxL + 11) + rm.locals ≤ R.locals) (hc : cells + rm.cells ≤ R.cells) (hsl : slots + rm.slots ≤ R.slots)
    {g : JFrame} (hg : g.method = m) (hsize : g.locals.size = c.maxLocals) {argsL rest : List Value} (has : (.ref b :: argsL).toArray = as') (hlen : ∀ sig, parseMethodDescriptor y.desc = some sig → argsL.length = sig.parameters.length)
    (hstack : g.stack = argsL.reverse ++ .ref b :: rest) (hW : 2 * g.monitorRoom + (rest.map fun v => v.category).sum ≤ W) (hd : decode c.code g.pc = .ok (.invokevirtual index, 3)) :
    own_After p l e R s m args below meth c T locs (cells + rm.cells) (slots + rm.slots) g rest Q := by
  obtain ⟨cq, kq, q1, q2, q3⟩ := isOf hZ eT E
  obtain ⟨v, vm1, ⟨T', L', k', n'⟩, -, X', ⟨Lc, hQ, l1, y1, z1⟩, st⟩ := X.virtualBack hx (y := y) (z := z) hown (mvT hZ w1) (mvT hZ w2) nf (mvT hZ w3) (mvT hZ w5) hy (backOf (W := W) hM hZ w4 w6 hf hl) q1 q3 hg hsize (Steps.refl _) hlen hstack hW hd (fun _ _ => ⟨has, eT, hc, hsl⟩)
  dsimp only [Pt.U, Pt.locs, Pt.cells, Pt.slots] at X' l1 y1 z1 st hQ
  subst l1 y1 z1
  exact ⟨T', _, v, Lc, X', rfl, hQ, fun _ k => st.trans k⟩
theorem own_callU (X : Stand p l e R s m args below meth c T locs cells slots) (hx : p.tables.exec = Jvm.exec) (hZ : Z.Warmed39 s.vm) (hown : s.vm.findClass own = some m.cls) (eT : T.heap = h) {z : MethodName} {C owner : String} {b : Addr}
    (w1 : (Jvm.Cond.methodLink own index y).before a0 Z = true) (w2 : (Jvm.Cond.sameMethod y.cls owner y.name y.desc).before a0 Z = true) (w7 : (Jvm.Cond.declares ⟨owner, y.name, y.desc⟩).before a0 Z = true) (w3 : (Jvm.Cond.selects C y z).before a0 Z = true) (w5 : (Jvm.Cond.instanceMethod z).before a0 Z = true) (w6 : (Jvm.Cond.initialized z.cls).before a0 Z = true) (w4 : (Jvm.Cond.code z bytes maxL ret).before a0 Z = true) (hy : owner ≠ "java/lang/invoke/MethodHandle" ∧ owner ≠ "java/lang/invoke/VarHandle")
    (E : Exa Z h b C) (hM : own_Met l Z h z bytes maxL ret [] rm as' Q rm.cells rm.slots)
    (hf : rm.frames + 1 ≤ R.frames) (hl : W + (maxL + 11) + rm.locals ≤ R.locals) (hc : cells + rm.cells ≤ R.cells) (hsl : slots + rm.slots ≤ R.slots)
    {g : JFrame} (hg : g.method = m) (hsize : g.locals.size = c.maxLocals) {argsL rest : List Value} (has : (.ref b :: argsL).toArray = as') (hlen : ∀ sig, parseMethodDescriptor y.desc = some sig → argsL.length = sig.parameters.length)
    (hstack : g.stack = argsL.reverse ++ .ref b :: rest) (hW : 2 * g.monitorRoom + (rest.map fun v => v.category).sum ≤ W) (hd : decode c.code g.pc = .ok (.invokevirtual index, 3)) :
    own_After p l e R s m args below meth c T locs (cells + rm.cells) (slots + rm.slots) g rest Q := by
  obtain ⟨cq, kq, q1, q2, q3⟩ := isOf hZ eT E
  obtain ⟨v, vm1, ⟨T', L', k', n'⟩, -, X', ⟨Lc, hQ, l1, y1, z1⟩, st⟩ := X.virtualBackUp hx (x := y) (y := z) (owner := owner) hown (mvT hZ w1) (mvT hZ w2) (mvT hZ w7) hy (mvT hZ w3) (mvT hZ w5) (backOf (W := W) hM hZ w4 w6 hf hl) q1 q3 hg hsize (Steps.refl _) hlen hstack hW hd (fun _ _ => ⟨has, eT, hc, hsl⟩)
  dsimp only [Pt.U, Pt.locs, Pt.cells, Pt.slots] at X' l1 y1 z1 st hQ
  subst l1 y1 z1
  exact ⟨T', _, v, Lc, X', rfl, hQ, fun _ k => st.trans k⟩
theorem own_callN (X : Stand p l e R s m args below meth c T locs cells slots) (hx : p.tables.exec = Jvm.exec) (hZ : Z.Warmed39 s.vm) (hown : s.vm.findClass own = some m.cls) (eT : T.heap = h) {b : Addr} (hy1 : y.name = "<init>")
    (w1 : (Jvm.Cond.methodLink own index y).before a0 Z = true) (w5 : (Jvm.Cond.instanceMethod y).before a0 Z = true) (w6 : (Jvm.Cond.initialized y.cls).before a0 Z = true) (w4 : (Jvm.Cond.code y bytes maxL none).before a0 Z = true) (hy : y.cls ≠ "java/lang/invoke/MethodHandle" ∧ y.cls ≠ "java/lang/invoke/VarHandle")
    (hM : own_Met l Z h y bytes maxL none [] rm as' Q rm.cells rm.slots)
    (hf : rm.frames + 1 ≤ R.frames) (hl : W + (maxL + 11) + rm.locals ≤ R.locals) (hc : cells + rm.cells ≤ R.cells) (hsl : slots + rm.slots ≤ R.slots)
    {g : JFrame} (hg : g.method = m) (hsize : g.locals.size = c.maxLocals) {argsL rest : List Value} (has : (.ref b :: argsL).toArray = as') (hlen : ∀ sig, parseMethodDescriptor y.desc = some sig → argsL.length = sig.parameters.length)
    (hstack : g.stack = argsL.reverse ++ .ref b :: rest) (hW : 2 * g.monitorRoom + (rest.map fun v => v.category).sum ≤ W) (hd : decode c.code g.pc = .ok (.invokespecial index, 3)) :
    own_After p l e R s m args below meth c T locs (cells + rm.cells) (slots + rm.slots) g rest Q := by
  obtain ⟨v, vm1, ⟨T', L', k', n'⟩, -, X', ⟨Lc, hQ, l1, y1, z1⟩, st⟩ := X.specialBack hx (y := y) hy1 hown (mvT hZ w1) (mvT hZ w5) (mvT hZ w4) hy (backOf (W := W) hM hZ w4 w6 hf hl) hg hsize (Steps.refl _) hlen hstack hW hd (fun _ _ => ⟨has, eT, hc, hsl⟩)
  dsimp only [Pt.U, Pt.locs, Pt.cells, Pt.slots] at X' l1 y1 z1 st hQ
  subst l1 y1 z1
  exact ⟨T', _, v, Lc, X', rfl, hQ, fun _ k => st.trans k⟩
theorem own_callI (X : Stand p l e R s m args below meth c T locs cells slots) (hx : p.tables.exec = Jvm.exec) (hZ : Z.Warmed39 s.vm) (hown : s.vm.findClass own = some m.cls) (eT : T.heap = h) {z : MethodName} {C : String} {b : Addr} {count : Nat}
    (w1 : (Jvm.Cond.methodLink own index y).before a0 Z = true) (w2 : (Jvm.Cond.declares y).before a0 Z = true) (w7 : (Jvm.Cond.interfaceMethod y.cls y.cls y.name y.desc).before a0 Z = true) (h7 : ((Jvm.Cond.interfaceMethod y.cls y.cls y.name y.desc).onTables && (Jvm.Cond.interfaceMethod y.cls y.cls y.name y.desc).keepsFace) = true) (w3 : (Jvm.Cond.selects C y z).before a0 Z = true) (w5 : (Jvm.Cond.instanceMethod z).before a0 Z = true) (w8 : (Jvm.Cond.publicMethod z).before a0 Z = true) (w9 : (Jvm.Cond.unhidden C y.name y.desc).before a0 Z = true) (w10 : (Jvm.Cond.castable C y.cls).before a0 Z = true) (w6 : (Jvm.Cond.initialized z.cls).before a0 Z = true) (w4 : (Jvm.Cond.code z bytes maxL ret).before a0 Z = true) (hy : y.cls ≠ "java/lang/invoke/MethodHandle" ∧ y.cls ≠ "java/lang/invoke/VarHandle")
    (E : Exa Z h b C) (hM : own_Met l Z h z bytes maxL ret [] rm as' Q rm.cells rm.slots)
    (hf : rm.frames + 1 ≤ R.frames) (hl : W + (maxL + 11) + rm.locals ≤ R.locals) (hc : cells + rm.cells ≤ R.cells) (hsl : slots + rm.slots ≤ R.slots)
    {g : JFrame} (hg : g.method = m) (hsize : g.locals.size = c.maxLocals) {argsL rest : List Value} (has : (.ref b :: argsL).toArray = as') (hlen : ∀ sig, parseMethodDescriptor y.desc = some sig → argsL.length = sig.parameters.length)
    (hstack : g.stack = argsL.reverse ++ .ref b :: rest) (hW : 2 * g.monitorRoom + (rest.map fun v => v.category).sum ≤ W) (hd : decode c.code g.pc = .ok (.invokeinterface index count, 5)) :
    own_After p l e R s m args below meth c T locs (cells + rm.cells) (slots + rm.slots) g rest Q 5 := by
  obtain ⟨cq, kq, q1, q2, q3⟩ := isOf hZ eT E
  obtain ⟨v, vm1, ⟨T', L', k', n'⟩, -, X', ⟨Lc, hQ, l1, y1, z1⟩, st⟩ := X.interfaceBack hx (xi := y) (y := z) hown (mvT hZ w1) (mvT hZ w2) (mvT hZ w7 h7) (mvT hZ w3) (mvT hZ w5) (mvT hZ w8) (mvT hZ w9) (mvT hZ w10) hy (backOf (W := W) hM hZ w4 w6 hf hl) q1 q2 q3 hg hsize (Steps.refl _) hlen hstack hW hd (fun _ _ => ⟨has, eT, hc, hsl⟩)
  dsimp only [Pt.U, Pt.locs, Pt.cells, Pt.slots] at X' l1 y1 z1 st hQ
  subst l1 y1 z1
  exact ⟨T', _, v, Lc, X', rfl, hQ, fun _ k => st.trans k⟩
theorem own_callP (X : Stand p l e R s m args below meth c T locs cells slots) (hx : p.tables.exec = Jvm.exec) (hZ : Z.Warmed39 s.vm) (hown : s.vm.findClass own = some m.cls) (eT : T.heap = h) {b : Addr} {C : String}
    (w1 : (Jvm.Cond.methodLink own index y).before a0 Z = true) (w5 : (Jvm.Cond.instanceMethod y).before a0 Z = true) (w3 : (Jvm.Cond.selects y.cls y y).before a0 Z = true) (w7 : (Jvm.Cond.privateMethod y).before a0 Z = true) (w6 : (Jvm.Cond.initialized y.cls).before a0 Z = true) (w4 : (Jvm.Cond.code y bytes maxL ret).before a0 Z = true) (hy : y.cls ≠ "java/lang/invoke/MethodHandle" ∧ y.cls ≠ "java/lang/invoke/VarHandle")
    (E : Exa Z h b C) (hM : own_Met l Z h y bytes maxL ret [] rm as' Q rm.cells rm.slots)
    (hf : rm.frames + 1 ≤ R.frames) (hl : W + (maxL + 11) + rm.locals ≤ R.locals) (hc : cells + rm.cells ≤ R.cells) (hsl : slots + rm.slots ≤ R.slots)
    {g : JFrame} (hg : g.method = m) (hsize : g.locals.size = c.maxLocals) {argsL rest : List Value} (has : (.ref b :: argsL).toArray = as') (hlen : ∀ sig, parseMethodDescriptor y.desc = some sig → argsL.length = sig.parameters.length)
    (hstack : g.stack = argsL.reverse ++ .ref b :: rest) (hW : 2 * g.monitorRoom + (rest.map fun v => v.category).sum ≤ W) (hd : decode c.code g.pc = .ok (.invokevirtual index, 3)) :
    own_After p l e R s m args below meth c T locs (cells + rm.cells) (slots + rm.slots) g rest Q := by
  obtain ⟨cell, hcell, hobj⟩ := E.cell
  obtain ⟨v, vm1, ⟨T', L', k', n'⟩, -, X', ⟨Lc, hQ, l1, y1, z1⟩, st⟩ := X.privateBack hx (y := y) hown (mvT hZ w1) (mvT hZ w5) (mvT hZ w3) (Cond.privateMethod_at (mvP (args := #[]) hZ w7)) (mvT hZ w4) hy (backOf (W := W) hM hZ w4 w6 hf hl) hg hsize (Steps.refl _) (by rw [eT]; exact hcell) hobj hlen hstack hW hd (fun _ _ => ⟨has, eT, hc, hsl⟩)
  dsimp only [Pt.U, Pt.locs, Pt.cells, Pt.slots] at X' l1 y1 z1 st hQ
  subst l1 y1 z1
  exact ⟨T', _, v, Lc, X', rfl, hQ, fun _ k => st.trans k⟩
theorem own_lsw (X : Stand p l e R s m args below meth c T locs cells slots) (hx : p.tables.exec = Jvm.exec) {g : JFrame} (hg : g.method = m) {k : Int32} {rest : List Value} (hs : g.stack = .int k :: rest) {dflt : Int} {pairs : Array (Int × Int)} {len : Nat} (hd : decode c.code g.pc = .ok (.lookupswitch dflt pairs, len))
    (hsorted : (pairs.toList.zip (pairs.toList.drop 1)).all (fun (a, next) => a.1 < next.1) = true) {a off : Int} (hfind : pairs.find? (·.1 == k.toInt) = some (a, off)) {pc0 pc' : Nat} (hpc : g.pc = pc0) (ho : 0 ≤ (pc0 : Int) + off) (hp : ((pc0 : Int) + off).toNat = pc') :
    ∀ t, Steps p.tables e below (T.setTop { g with pc := pc', stack := rest }) t → Steps p.tables e below (T.setTop g) t := by
  subst hpc hp; exact fun t hr => X.lookupswitchHit hx hg hs hd hsorted hfind ho t hr
theorem own_lswM (X : Stand p l e R s m args below meth c T locs cells slots) (hx : p.tables.exec = Jvm.exec) {g : JFrame} (hg : g.method = m) {k : Int32} {rest : List Value} (hs : g.stack = .int k :: rest) {dflt : Int} {pairs : Array (Int × Int)} {len : Nat} (hd : decode c.code g.pc = .ok (.lookupswitch dflt pairs, len))
    (hsorted : (pairs.toList.zip (pairs.toList.drop 1)).all (fun (a, next) => a.1 < next.1) = true) (hfind : pairs.find? (·.1 == k.toInt) = none) {pc0 pc' : Nat} (hpc : g.pc = pc0) (ho : 0 ≤ (pc0 : Int) + dflt) (hp : ((pc0 : Int) + dflt).toNat = pc') :
    ∀ t, Steps p.tables e below (T.setTop { g with pc := pc', stack := rest }) t → Steps p.tables e below (T.setTop g) t := by
  subst hpc hp; exact fun t hr => X.lookupswitchMiss hx hg hs hd hsorted hfind ho t hr
theorem own_rne {a b : Addr} (h : a ≠ b) : ¬ (Value.ref a = Value.ref b) := fun q => h (Value.ref.inj q)
def own_pl : Value → Bool
  | .int _ => true
  | .ref _ => true
  | .null => true
  | .long _ => true
  | _ => false
theorem own_eqv {args : Array Value} {f : State} {o : Option Outcome} {idx : List Nat} {t u : Term} {x y : Value} (ha : t.eval args f o idx s = some x) (hb : u.eval args f o idx s = some y) (h : (Jvm.Cond.eq t u).value args f o s idx = some true) (hk : own_pl y = true := by rfl) : x = y := by
  cases x <;> cases y <;> simp [Jvm.Cond.value, ha, hb, own_pl] at h hk ⊢ <;> first | exact h | exact h.symm
theorem own_fv {args : Array Value} {t u : Term} {O n d : String} {a : Addr} {y : Value} (ht : t.eval args s none [] s = some (.ref a)) (hu : u.eval args s none [] s = some y) (h : (Jvm.Cond.eq (.field t O n d) u).value args s none s [] = some true) (hk : own_pl y = true := by rfl) : Fld s s.heap a O n d y := by
  obtain ⟨x, y', e1, e2, -, -⟩ := cmp_v (Or.inl h)
  have q := own_eqv e1 hu h hk
  subst q
  exact Fld.start ((fld_at ht).symm.trans e1)
end Own
section OwnArr
variable {p : Program} {l : Launch} {e : Env} {R : Room} {s : State} {m : MethodId} {args : Array Value} {below : List Frame} {meth : Method} {c : Code} {T : State} {locs : List Loc} {cells slots : Nat} {Z : State} {a0 : Array Value} {h : Heap} {a : Addr} {k : ClassId} {ty : FieldType} {z j : Int32} {vs : List Value} {dv v : Value}
theorem own_newA (A : Arr Z h a (newA k ty z) ty) (q : ¬ z < 0) (hv : vs = List.replicate z.toNatClampNeg (defaultValue ty)) (hd : dv = defaultValue ty) : Arv Z h a k ty z vs dv := by
  subst hv hd; exact (Arv.new A q).pad (pad_rep [] _ _)
theorem own_newP (X : Stand p l e R s m args below meth c T locs cells slots) (hx : p.tables.exec = Jvm.exec) (hZ : Z.Warmed39 s.vm) {aty : ArrayType} (w : (Jvm.Cond.arrayClass (newarray.typeOf aty)).before a0 Z = true) (eT : T.heap = h) {nm : String} (hnm : "[" ++ (newarray.typeOf aty).toString = nm)
    {g : JFrame} (hg : g.method = m) (hd : decode c.code g.pc = .ok (.newarray aty, 2)) {n : Int32} {rest : List Value} (hs : g.stack = .int n :: rest) (hn : ¬ n < 0) {cap : Nat} (hcap : n.toNatClampNeg ≤ cap) (hb : cap * 8 ≤ 536870912) (hc : cells + 1 ≤ R.cells) (hl : slots + cap ≤ R.slots) :
    ∃ T' h' cA, Stand p l e R s m args below meth c T' locs (cells + 1) (slots + cap) ∧ T'.heap = h' ∧ Ext h h' ∧ Arr Z h' h.size (newA cA (newarray.typeOf aty) n) (newarray.typeOf aty) ∧ Exa Z h' h.size nm ∧
      ∀ target, Steps p.tables e below (T'.setTop { g with pc := g.pc + 2, stack := .ref h.size :: rest }) target → Steps p.tables e below (T.setTop g) target := by
  subst hnm eT
  obtain ⟨cA, kA, comp, h1, h2, h3, X', st⟩ := X.newarrayPrim hx (mvA hZ w) hg hd hs hn (Nat.le_trans (Nat.mul_le_mul hcap (by cases aty <;> decide : componentBytes (newarray.typeOf aty) ≤ 8)) hb) hc (by omega)
  rw [hZ.alike.findClass] at h1
  obtain ⟨kZ, z1, -⟩ := Vm.findClass_spec h1
  obtain ⟨k', z2, z3⟩ := hZ.alike.2.2 _ _ z1
  cases h2.symm.trans z2
  have hk : kZ.kind = .array comp (newarray.typeOf aty) := by rw [← h3, z3]
  have hN : (T.heap.push (newA cA (newarray.typeOf aty) n))[T.heap.size]? = some (newA cA (newarray.typeOf aty) n) := by simp
  have hE : Ext T.heap (T.heap.push (newA cA (newarray.typeOf aty) n)) := ext_of fun a q => Array.getElem?_push_lt q |>.trans (Array.getElem?_eq_getElem q).symm
  exact ⟨_, _, cA, X'.more (Nat.le_refl _) (by omega), rfl, hE, ⟨hN, ⟨by simp [newA], kZ, z1, comp, hk⟩, by simp [newA]⟩, ⟨_, kZ, hN, h1, z1, rfl, fun q => by rw [hk] at q; cases q⟩, st⟩
theorem own_len (X : Stand p l e R s m args below meth c T locs cells slots) (hx : p.tables.exec = Jvm.exec) (hZ : Z.Warmed39 s.vm) (eT : T.heap = h) (A : Arv Z h a k ty z vs dv) {g : JFrame} (hg : g.method = m) {rest : List Value} (hs : g.stack = .ref a :: rest) (hd : decode c.code g.pc = .ok (.arraylength, 1)) :
    ∀ target, Steps p.tables e below (T.setTop { g with pc := g.pc + 1, stack := .int z :: rest }) target → Steps p.tables e below (T.setTop g) target := by
  obtain ⟨cl, A1, q1, S, q3, H, G⟩ := A
  intro target hr
  refine X.arraylength hx (cell := cl) (by rw [eT]; exact A1.1) (State.isArrayOf_alike hZ.alike A1.2.1) hg hs hd target ?_
  rw [len_of S q3]; exact hr
theorem own_iaload (X : Stand p l e R s m args below meth c T locs cells slots) (hx : p.tables.exec = Jvm.exec) (hZ : Z.Warmed39 s.vm) (eT : T.heap = h) (A : Arv Z h a k .int z vs dv) (hj : ¬ j < 0 ∧ j < z) (hv : vs.getD j.toNatClampNeg dv = v) {g : JFrame} (hg : g.method = m) {rest : List Value} (hs : g.stack = .int j :: .ref a :: rest) (hd : decode c.code g.pc = .ok (.iaload, 1)) :
    ∀ target, Steps p.tables e below (T.setTop { g with pc := g.pc + 1, stack := v :: rest }) target → Steps p.tables e below (T.setTop g) target := by
  obtain ⟨cl, A1, q1, S, q3, H, G⟩ := A
  exact fun t k => X.iaload hx (by rw [eT]; exact A1.1) (State.isArrayOf_alike hZ.alike A1.2.1) A1.2.2 (inb_of S hj) (H.at (inb_of S hj) hv) hg hs hd t k
theorem own_baload (X : Stand p l e R s m args below meth c T locs cells slots) (hx : p.tables.exec = Jvm.exec) (hZ : Z.Warmed39 s.vm) (eT : T.heap = h) (A : Arv Z h a k .byte z vs dv) (hj : ¬ j < 0 ∧ j < z) (hv : vs.getD j.toNatClampNeg dv = v) {g : JFrame} (hg : g.method = m) {rest : List Value} (hs : g.stack = .int j :: .ref a :: rest) (hd : decode c.code g.pc = .ok (.baload, 1)) :
    ∀ target, Steps p.tables e below (T.setTop { g with pc := g.pc + 1, stack := v :: rest }) target → Steps p.tables e below (T.setTop g) target := by
  obtain ⟨cl, A1, q1, S, q3, H, G⟩ := A
  exact fun t k => X.baloadBytes hx (by rw [eT]; exact A1.1) (State.isArrayOf_alike hZ.alike A1.2.1) A1.2.2 (inb_of S hj) (H.at (inb_of S hj) hv) hg hs hd t k
theorem own_caload (X : Stand p l e R s m args below meth c T locs cells slots) (hx : p.tables.exec = Jvm.exec) (hZ : Z.Warmed39 s.vm) (eT : T.heap = h) (A : Arv Z h a k .char z vs dv) (hj : ¬ j < 0 ∧ j < z) (hv : vs.getD j.toNatClampNeg dv = v) {g : JFrame} (hg : g.method = m) {rest : List Value} (hs : g.stack = .int j :: .ref a :: rest) (hd : decode c.code g.pc = .ok (.caload, 1)) :
    ∀ target, Steps p.tables e below (T.setTop { g with pc := g.pc + 1, stack := v :: rest }) target → Steps p.tables e below (T.setTop g) target := by
  obtain ⟨cl, A1, q1, S, q3, H, G⟩ := A
  exact fun t k => X.caload hx (by rw [eT]; exact A1.1) (State.isArrayOf_alike hZ.alike A1.2.1) A1.2.2 (inb_of S hj) (H.at (inb_of S hj) hv) hg hs hd t k
theorem own_aaload (X : Stand p l e R s m args below meth c T locs cells slots) (hx : p.tables.exec = Jvm.exec) (hZ : Z.Warmed39 s.vm) (eT : T.heap = h) (A : Arv Z h a k ty z vs dv) (hty : ty.isReference = true) (hj : ¬ j < 0 ∧ j < z) (hv : vs.getD j.toNatClampNeg dv = v) {g : JFrame} (hg : g.method = m) {rest : List Value} (hs : g.stack = .int j :: .ref a :: rest) (hd : decode c.code g.pc = .ok (.aaload, 1)) :
    ∀ target, Steps p.tables e below (T.setTop { g with pc := g.pc + 1, stack := v :: rest }) target → Steps p.tables e below (T.setTop g) target := by
  obtain ⟨cl, A1, q1, S, q3, H, G⟩ := A
  exact fun t k => X.aaload hx (by rw [eT]; exact A1.1) (State.isArrayOf_alike hZ.alike A1.2.1) hty A1.2.2 (inb_of S hj) (H.at (inb_of S hj) hv) hg hs hd t k
theorem own_stB (X : Stand p l e R s m args below meth c T locs cells slots) (hx : p.tables.exec = Jvm.exec) (hZ : Z.Warmed39 s.vm) (eT : T.heap = h) (A : Arv Z h a k .byte z vs dv) {x x' : Int32} (i : Nat) (hn : nar .byte x = x') (hji : j.toNatClampNeg = i) (hj : ¬ j < 0 ∧ j < z) (hi : i < vs.length) {g : JFrame} (hg : g.method = m) {rest : List Value} (hs : g.stack = .int x :: .int j :: .ref a :: rest) (hd : decode c.code g.pc = .ok (.bastore, 1)) :
    ∃ T' h', Stand p l e R s m args below meth c T' (locs ++ [⟨a, i⟩]) cells slots ∧ T'.heap = h' ∧ Wr h h' a i (.int x') ∧ Arv Z h' a k .byte z (vs.set i (.int x')) dv ∧ ∀ target, Steps p.tables e below (T'.setTop { g with pc := g.pc + 1, stack := rest }) target → Steps p.tables e below (T.setTop g) target := by
  obtain ⟨cl, A1, q1, S, q3, H, G⟩ := A
  obtain ⟨T', h', X', e', W, st⟩ := stB X hx hZ eT A1 (inb_of S hj) hg hs hd
  subst hn hji
  exact ⟨T', h', X', e', W, Arv.set A1 q1 S q3 H G (fits_byte_narrow x) W _ rfl hi, st⟩
theorem own_stC (X : Stand p l e R s m args below meth c T locs cells slots) (hx : p.tables.exec = Jvm.exec) (hZ : Z.Warmed39 s.vm) (eT : T.heap = h) (A : Arv Z h a k .char z vs dv) {x x' : Int32} (i : Nat) (hn : nar .char x = x') (hji : j.toNatClampNeg = i) (hj : ¬ j < 0 ∧ j < z) (hi : i < vs.length) {g : JFrame} (hg : g.method = m) {rest : List Value} (hs : g.stack = .int x :: .int j :: .ref a :: rest) (hd : decode c.code g.pc = .ok (.castore, 1)) :
    ∃ T' h', Stand p l e R s m args below meth c T' (locs ++ [⟨a, i⟩]) cells slots ∧ T'.heap = h' ∧ Wr h h' a i (.int x') ∧ Arv Z h' a k .char z (vs.set i (.int x')) dv ∧ ∀ target, Steps p.tables e below (T'.setTop { g with pc := g.pc + 1, stack := rest }) target → Steps p.tables e below (T.setTop g) target := by
  obtain ⟨cl, A1, q1, S, q3, H, G⟩ := A
  obtain ⟨T', h', X', e', W, st⟩ := stC X hx hZ eT A1 (inb_of S hj) hg hs hd
  subst hn hji
  exact ⟨T', h', X', e', W, Arv.set A1 q1 S q3 H G (fits_nar_char x) W _ rfl hi, st⟩
theorem own_stI (X : Stand p l e R s m args below meth c T locs cells slots) (hx : p.tables.exec = Jvm.exec) (hZ : Z.Warmed39 s.vm) (eT : T.heap = h) (A : Arv Z h a k .int z vs dv) {x : Int32} (i : Nat) (hji : j.toNatClampNeg = i) (hj : ¬ j < 0 ∧ j < z) (hi : i < vs.length) {g : JFrame} (hg : g.method = m) {rest : List Value} (hs : g.stack = .int x :: .int j :: .ref a :: rest) (hd : decode c.code g.pc = .ok (.iastore, 1)) :
    ∃ T' h', Stand p l e R s m args below meth c T' (locs ++ [⟨a, i⟩]) cells slots ∧ T'.heap = h' ∧ Wr h h' a i (.int x) ∧ Arv Z h' a k .int z (vs.set i (.int x)) dv ∧ ∀ target, Steps p.tables e below (T'.setTop { g with pc := g.pc + 1, stack := rest }) target → Steps p.tables e below (T.setTop g) target := by
  obtain ⟨cl, A1, q1, S, q3, H, G⟩ := A
  obtain ⟨T', h', X', e', W, st⟩ := stI X hx hZ eT A1 (inb_of S hj) hg hs hd
  subst hji
  exact ⟨T', h', X', e', W, Arv.set A1 q1 S q3 H G rfl W _ rfl hi, st⟩
theorem own_stR (X : Stand p l e R s m args below meth c T locs cells slots) (hx : p.tables.exec = Jvm.exec) (hZ : Z.Warmed39 s.vm) (eT : T.heap = h) (A : Arv Z h a k ty z vs dv) (hty : ty.isReference = true) (i : Nat) (F : Sto Z h a v) (hf : fits ty v = true) (hji : j.toNatClampNeg = i) (hj : ¬ j < 0 ∧ j < z) (hi : i < vs.length) {g : JFrame} (hg : g.method = m) {rest : List Value} (hs : g.stack = v :: .int j :: .ref a :: rest) (hd : decode c.code g.pc = .ok (.aastore, 1)) :
    ∃ T' h', Stand p l e R s m args below meth c T' (locs ++ [⟨a, i⟩]) cells slots ∧ T'.heap = h' ∧ Wr h h' a i v ∧ Arv Z h' a k ty z (vs.set i v) dv ∧ ∀ target, Steps p.tables e below (T'.setTop { g with pc := g.pc + 1, stack := rest }) target → Steps p.tables e below (T.setTop g) target := by
  obtain ⟨cl, A1, q1, S, q3, H, G⟩ := A
  obtain ⟨T', h', X', e', W, st⟩ := stR X hx hZ eT A1 (inb_of S hj) hty F hg hs hd
  subst hji
  exact ⟨T', h', X', e', W, Arv.set A1 q1 S q3 H G hf W _ rfl hi, st⟩
theorem own_sto {C : String} {y : Addr} (A : Arv Z h a k ty z vs dv) (O : Ovr Z k C) (I : Ins Z h y C true) : Sto Z h a (.ref y) := by
  obtain ⟨cl, A1, q1, S, q3, H, G⟩ := A
  exact Sto.ofV A1 q1 O I
theorem own_narB (x : Int32) : nar .byte (x.toInt8.toInt32) = x.toInt8.toInt32 := Value.int.inj (XT.narrow_b x)
theorem own_narC (x : Int32) : nar .char (x.toUInt32.toUInt16.toUInt32.toInt32) = x.toUInt32.toUInt16.toUInt32.toInt32 := Value.int.inj (XT.narrow_c x)
theorem own_fitc {cl : Cell} (A : Arr Z h a cl ty) (H : Has cl vs dv) (G : ∀ i, i < cl.slots.size → fits ty (vs.getD i dv) = true) : FitC Z cl := fun i v hv => by
  obtain ⟨hi, q0⟩ := Array.getElem?_eq_some_iff.mp hv
  have q := G i hi
  have q2 := (H i hi).symm.trans hv
  rw [Option.some.inj q2] at q
  obtain ⟨hs, k, hk, comp, hkind⟩ := A.2.1
  simp [State.fitsSlot, State.slotType?, hk, hkind]; exact q
theorem own_clone (X : Stand p l e R s m args below meth c T locs cells slots) (hx : p.tables.exec = Jvm.exec) (hZ : Z.Warmed39 s.vm) {own ad : String} {index : Nat} (hown : s.vm.findClass own = some m.cls) (eT : T.heap = h)
    (w1 : (Jvm.Cond.methodLink own index ⟨ad, "clone", "()Ljava/lang/Object;"⟩).before a0 Z = true) (w2 : (Jvm.Cond.sameMethod ad "java/lang/Object" "clone" "()Ljava/lang/Object;").before a0 Z = true) (w3 : (Jvm.Cond.native ⟨"java/lang/Object", "clone", "()Ljava/lang/Object;"⟩).before a0 Z = true)
    (w4 : (Jvm.Cond.instanceMethod ⟨"java/lang/Object", "clone", "()Ljava/lang/Object;"⟩).before a0 Z = true) (w5 : (Jvm.Cond.selects ad ⟨ad, "clone", "()Ljava/lang/Object;"⟩ ⟨"java/lang/Object", "clone", "()Ljava/lang/Object;"⟩).before a0 Z = true) (w6 : (Jvm.Cond.castable ad "java/lang/Cloneable").before a0 Z = true)
    (A : Arv Z h a k ty z vs dv) (E : Exa Z h a ad) {g : JFrame} (hg : g.method = m) (hsize : g.locals.size = c.maxLocals) {rest : List Value} (hs : g.stack = .ref a :: rest) (hd : decode c.code g.pc = .ok (.invokevirtual index, 3))
    (hf : 1 ≤ R.frames) {W cap : Nat} (hW : 2 * g.monitorRoom + (rest.map fun v => v.category).sum ≤ W) (hl : W + 14 ≤ R.locals) (hcap : z.toNatClampNeg ≤ cap) (hc : cells + 1 ≤ R.cells) (hsl : slots + cap ≤ R.slots) :
    ∃ T' h', Stand p l e R s m args below meth c T' locs (cells + 1) (slots + cap) ∧ T'.heap = h' ∧ Ext h h' ∧ Arv Z h' h.size k ty z vs dv ∧ Exa Z h' h.size ad ∧
      ∀ target, Steps p.tables e below (T'.setTop { g with pc := g.pc + 3, stack := .ref h.size :: rest }) target → Steps p.tables e below (T.setTop g) target := by
  obtain ⟨cl, A1, q1, S, q3, H, G⟩ := A
  obtain ⟨T', h', X', e', E', A', E2, st⟩ := cloneA X hx hZ hown w1 w2 w3 w4 w5 w6 eT A1 E (own_fitc A1 H G) hg hsize hs hd hf hW hl (by rw [S]; exact hcap) hc hsl
  exact ⟨T', h', X', e', E', ⟨_, A', q1, S, q3, H, G⟩, E2, st⟩
end OwnArr
section OwnCase
variable {s : State} {args : Array Value} {t u : Term} {a : Addr} {ty : FieldType} {n j : Int32} {vs : List Value} {dv v : Value} {cl : Cell}
theorem own_ev {y : Value} (hb : u.eval args s none [] s = some y) (h : (Jvm.Cond.eq t u).value args s none s [] = some true) (hk : own_pl y = true := by rfl) : t.eval args s none [] s = some y := by
  obtain ⟨x, y', e1, e2, -, -⟩ := cmp_v (Or.inl h)
  rw [own_eqv e1 hb h hk] at e1; exact e1
theorem own_ev' {y : Value} (hb : t.eval args s none [] s = some y) (h : (Jvm.Cond.eq t u).value args s none s [] = some true) (hk : own_pl y = true := by rfl) : u.eval args s none [] s = some y := by
  obtain ⟨x, y', e1, e2, -, -⟩ := cmp_v (Or.inl h)
  cases hb.symm.trans e1
  cases y <;> cases y' <;> simp [Jvm.Cond.value, e1, e2, own_pl] at h hk ⊢ <;> simp_all
theorem own_elem (ev : t.eval args s none [] s = some (.ref a)) (hu : u.eval args s none [] s = some v) (h : (Jvm.Cond.eq (.elem t (.int j)) u).value args s none s [] = some true) (hc : s.heap[a]? = some cl) (hk : own_pl v = true := by rfl) : cl.slots[j.toNatClampNeg]? = some v := by
  have e1 := own_ev hu h hk
  obtain ⟨c', e3, e4, e5⟩ := elem_at e1 ev (Term.int_eval j)
  cases hc.symm.trans e3; exact e5
theorem own_arr (hf : Fit s) (ev : t.eval args s none [] s = some (.ref a)) (h1 : (Jvm.Cond.arrayOf t ty).value args s none s [] = some true) (h2 : (Jvm.Cond.eq (.length t) (.int n)).value args s none s [] = some true) (hn : ¬ n < 0) (hl : n.toNatClampNeg = vs.length)
    (he : ∀ cl : Cell, s.heap[a]? = some cl → s.arrayAt? a = some cl → cl.slots.size = n.toNatClampNeg → HasL cl 0 vs) : ∃ k, Arv s s.heap a k ty n vs dv := by
  obtain ⟨cl, A⟩ := Arr.start ev h1
  have e1 := own_ev (Term.int_eval n) h2
  obtain ⟨a', cl', b1, b2, b3⟩ := Term.length_spec e1
  cases ev.symm.trans b1
  have hc' := (State.arrayAt?_spec b2).1
  cases A.1.symm.trans hc'
  have hsz : cl.slots.size.toInt32 = n := (Value.int.inj b3).symm
  have hlt : cl.slots.size < 2 ^ 31 := by
    by_cases q : cl.slots.size < 2147483648
    · exact q
    · simp [Term.eval, ev, b2, q] at e1
  have hS : cl.slots.size = n.toNatClampNeg := by rw [← hsz]; simp only [Int32.toNatClampNeg, len_toInt hlt]; rfl
  exact ⟨_, Arv.start hf A hlt hsz hn hl (he cl hc' b2 hS)⟩
theorem own_allat {C nm d : String} {i : Nat} {b : Int32} (hi : j.toNatClampNeg = i) (hj : ¬ j < 0) (ev : (Term.static C nm d).eval args s none [] s = some (.ref a)) (hc : s.heap[a]? = some cl) (ha : s.arrayAt? a = some cl) (hlt : i < cl.slots.size) (hb : ¬ b ≤ j)
    (h : (Jvm.Cond.all (.static C nm d) (.or (.le (.int b) (.index 0)) (.eq (.elem (.static C nm d) (.index 0)) (.index 0)))).value args s none s [] = some true) : cl.slots[i]? = some (.int j) := by
  have h' := Cond.all_elim ev ha h i hlt
  subst hi
  have e1 : (Term.index 0).eval args s none [j.toNatClampNeg] s = some (.int j) := idx_at hj
  have e2 : (Jvm.Cond.le (.int b) (.index 0)).value args s none s [j.toNatClampNeg] = some false := by
    rw [Cond.le_ints (Term.int_eval b) e1]; simp [hb]
  rw [Cond.or_of_right e2] at h'
  obtain ⟨x, y, q1, q2, -, -⟩ := cmp_v (Or.inl h')
  have q := own_eqv q1 e1 h'
  subst q
  obtain ⟨c', e3, e4, e5⟩ := elem_at q1 (show (Term.static C nm d).eval args s none [j.toNatClampNeg] s = some (.ref a) from ev) e1
  cases hc.symm.trans e3; exact e5
end OwnCase
section OwnWide
variable {p : Program} {l : Launch} {e : Env} {R : Room} {s : State} {m : MethodId} {args : Array Value} {below : List Frame} {meth : Method} {c : Code} {T : State} {locs : List Loc} {cells slots : Nat} {Z : State} {a0 : Array Value} {h : Heap} {vm0 : Vm} {EL : List (String × Nat)} {sf : List Addr}
def own_PW (Z : State) (EL : List (String × Nat)) (s : State) (Q : Vm → Option Value → Heap → List Loc → Prop) (kc ks : Nat) (o : Outcome) (U : State) : Prop := ∃ v L, o = .returned v ∧ Q U.vm v U.heap L ∧ CHr Z EL s.vm s.heap U.vm U.heap ∧ ReturnedEndW s o U L kc ks
abbrev own_MetW (l : Launch) (Z : State) (EL : List (String × Nat)) (sf : List Addr) (h : Heap) (y : MethodName) (bytes : ByteArray) (maxL : Nat) (ret : Option FieldType) (ws : List Jvm.Cond) (rm : Room) (as' : Array Value) (Q : Vm → Option Value → Heap → List Loc → Prop) (kc ks : Nat) : Prop :=
  MetFree l y (head1 (Jvm.Cond.code y bytes maxL ret :: ws) rm) (fun a U => a = as' ∧ Z.Warmed39 U.vm ∧ U.heap = h ∧ CHv Z EL U.vm h ∧ ∀ x ∈ sf, Safe Z EL U.vm h x) (fun _ _ _ _ _ => True) (fun _ U o U' => ∃ v L, o = .returned v ∧ Q U'.vm v U'.heap L ∧ CHr Z EL U.vm U.heap U'.vm U'.heap ∧ ReturnedEndW U o U' L kc ks)
theorem own_safe0 {x : Addr} {vm : Vm} : Safe Z [] vm h x := fun ⟨_, hp, _⟩ => nomatch hp
theorem own_leaveW (X : Stand p l e R (s.setVm vm0) m args below meth c T locs cells slots) {g : JFrame} {v : Option Value} {Q : Vm → Option Value → Heap → List Loc → Prop} {kc ks : Nat} (hlocks : meth.locks = false) (hv : meth.sig.returnType = none → v = none)
    (k : ∀ fs, (∀ (f : JFrame) (acts : List Action), f.method = m → f.locked = none → f.entered = [] → (doReturn e (T.setTop f) acts v).1 = T.setFrames fs) → Steps p.tables e below (T.setTop g) (T.setFrames fs))
    {n : Nat} (hS : s.Since vm0 n) (hZ : Z.Warmed39 (s.setVm vm0).vm) (hEL : EW Z a0 EL) {h0 : Heap} (hh : s.heap = h0) (hR : CHr Z EL s.vm h0 vm0 h) (eT : T.heap = h) (hn : n ≤ h.size) (hc : cells ≤ kc) (hs : slots ≤ ks) (hq : CHr Z EL vm0 h T.vm h → Q T.vm v h locs) : own_G p e below (T.setTop g) (own_PW Z EL s Q kc ks) := by
  obtain ⟨fs, hr, hrun, hended, hW⟩ := X.leaveW hS (by rw [eT]; exact hn) (v := v) hv hlocks
  have A := CHv.at (h := h) X hZ hEL hR.1
  exact ⟨_, _, k fs hr, hrun, hended, _, _, rfl, by show Q T.vm v T.heap locs; rw [eT]; exact hq A, by show CHr Z EL s.vm s.heap T.vm T.heap; rw [eT, hh]; exact hR.trans A, hW.1, hW.2.1, hW.2.2.1, hW.2.2.2.mono hc hs⟩
theorem own_retNW (X : Stand p l e R (s.setVm vm0) m args below meth c T locs cells slots) (hx : p.tables.exec = Jvm.exec) {pc : Nat} {Ls : Array Slot} {z : Int32} {t : FieldType} {rest : List Value} {Q : Vm → Option Value → Heap → List Loc → Prop} {kc ks : Nat} (hlocks : meth.locks = false) (hret : meth.sig.returnType = some t) (ht : t = .boolean ∨ t = .byte ∨ t = .char ∨ t = .short)
    (hd : decode c.code pc = .ok (.ireturn, 1)) (hn : nar t z = z) {n : Nat} (hS : s.Since vm0 n) (hZ : Z.Warmed39 (s.setVm vm0).vm) (hEL : EW Z a0 EL) {h0 : Heap} (hh : s.heap = h0) (hR : CHr Z EL s.vm h0 vm0 h) (eT : T.heap = h) (hk : n ≤ h.size) (hc : cells ≤ kc) (hs : slots ≤ ks) (hq : CHr Z EL vm0 h T.vm h → Q T.vm (some (.int z)) h locs) : own_G p e below (T.setTop (mkF m pc Ls (.int z :: rest))) (own_PW Z EL s Q kc ks) :=
  own_leaveW X (v := some (.int z)) hlocks (fun q => by rw [hret] at q; cases q) (fun fs hl => retN X hx hret ht hd (by rw [hn]; exact hl)) hS hZ hEL hh hR eT hk hc hs hq
theorem own_retIW (X : Stand p l e R (s.setVm vm0) m args below meth c T locs cells slots) (hx : p.tables.exec = Jvm.exec) {pc : Nat} {Ls : Array Slot} {z : Int32} {rest : List Value} {Q : Vm → Option Value → Heap → List Loc → Prop} {kc ks : Nat} (hlocks : meth.locks = false) (hret : meth.sig.returnType = some .int)
    (hd : decode c.code pc = .ok (.ireturn, 1)) {n : Nat} (hS : s.Since vm0 n) (hZ : Z.Warmed39 (s.setVm vm0).vm) (hEL : EW Z a0 EL) {h0 : Heap} (hh : s.heap = h0) (hR : CHr Z EL s.vm h0 vm0 h) (eT : T.heap = h) (hk : n ≤ h.size) (hc : cells ≤ kc) (hs : slots ≤ ks) (hq : CHr Z EL vm0 h T.vm h → Q T.vm (some (.int z)) h locs) : own_G p e below (T.setTop (mkF m pc Ls (.int z :: rest))) (own_PW Z EL s Q kc ks) :=
  own_leaveW X (v := some (.int z)) hlocks (fun q => by rw [hret] at q; cases q) (fun fs hl => retOut X hx hret rfl (Or.inl ⟨rfl, Or.inl rfl, _, rfl⟩) hd hl) hS hZ hEL hh hR eT hk hc hs hq
theorem own_retAW (X : Stand p l e R (s.setVm vm0) m args below meth c T locs cells slots) (hx : p.tables.exec = Jvm.exec) {pc : Nat} {Ls : Array Slot} {w : Value} {t : FieldType} {rest : List Value} {Q : Vm → Option Value → Heap → List Loc → Prop} {kc ks : Nat} (hlocks : meth.locks = false) (hret : meth.sig.returnType = some t) (ht : t.isReference = true) (hw : w.isRef = true)
    (hd : decode c.code pc = .ok (.areturn, 1)) {n : Nat} (hS : s.Since vm0 n) (hZ : Z.Warmed39 (s.setVm vm0).vm) (hEL : EW Z a0 EL) {h0 : Heap} (hh : s.heap = h0) (hR : CHr Z EL s.vm h0 vm0 h) (eT : T.heap = h) (hk : n ≤ h.size) (hc : cells ≤ kc) (hs : slots ≤ ks) (hq : CHr Z EL vm0 h T.vm h → Q T.vm (some w) h locs) : own_G p e below (T.setTop (mkF m pc Ls (w :: rest))) (own_PW Z EL s Q kc ks) :=
  own_leaveW X (v := some w) hlocks (fun q => by rw [hret] at q; cases q) (fun fs hl => retOut X hx hret (own_narR hw) (Or.inr (Or.inr (Or.inr (Or.inr ⟨rfl, ht, hw⟩)))) hd hl) hS hZ hEL hh hR eT hk hc hs hq
theorem own_retVW (X : Stand p l e R (s.setVm vm0) m args below meth c T locs cells slots) (hx : p.tables.exec = Jvm.exec) {pc : Nat} {Ls : Array Slot} {Q : Vm → Option Value → Heap → List Loc → Prop} {kc ks : Nat} (hlocks : meth.locks = false) (hret : meth.sig.returnType = none)
    (hd : decode c.code pc = .ok (.return_, 1)) {n : Nat} (hS : s.Since vm0 n) (hZ : Z.Warmed39 (s.setVm vm0).vm) (hEL : EW Z a0 EL) {h0 : Heap} (hh : s.heap = h0) (hR : CHr Z EL s.vm h0 vm0 h) (eT : T.heap = h) (hk : n ≤ h.size) (hc : cells ≤ kc) (hs : slots ≤ ks) (hq : CHr Z EL vm0 h T.vm h → Q T.vm none h locs) : own_G p e below (T.setTop (mkF m pc Ls [])) (own_PW Z EL s Q kc ks) :=
  own_leaveW X (v := none) hlocks (fun _ => rfl) (fun fs hl => X.returnOut hx hret hd hl) hS hZ hEL hh hR eT hk hc hs hq
variable {own : String} {index : Nat} {y : MethodName} {bytes : ByteArray} {maxL : Nat} {ret : Option FieldType} {rm : Room} {W : Nat} {as' : Array Value} {Q : Vm → Option Value → Heap → List Loc → Prop}
theorem own_backW {len : Nat} (hM : own_MetW l Z EL sf h y bytes maxL ret [] rm as' Q rm.cells rm.slots)
    (hZ : Z.Warmed39 vm0) (wc : (Jvm.Cond.code y bytes maxL ret).before a0 Z = true) (wz : (Jvm.Cond.initialized y.cls).before a0 Z = true) (hf : rm.frames + 1 ≤ R.frames) (hl : W + (maxL + 11) + rm.locals ≤ R.locals) (hEL : EW Z a0 EL) (H : CHv Z EL vm0 h) (hsf : ∀ x ∈ sf, Safe Z EL vm0 h x) (hlt : ∀ x ∈ sf, x < h.size) :
    BackS l R p e below (s.setVm vm0) args y len W (fun A a => a = as' ∧ A.U.heap = h ∧ A.cells + rm.cells ≤ R.cells ∧ A.slots + rm.slots ≤ R.slots)
      (fun A _ v B => ∃ L, Q B.U.vm v B.U.heap L ∧ B.locs = A.locs ++ L ∧ B.cells = A.cells + rm.cells ∧ B.slots = A.slots + rm.slots ∧ CHr Z EL vm0 h B.U.vm B.U.heap) :=
  BackS.of_freeW (bytes := bytes) (maxL := maxL) (ret := ret) (E := fun _ first o t L k n => k = rm.cells ∧ n = rm.slots ∧ (∃ v, o = .returned v ∧ Q t.vm v t.heap L) ∧ CHr Z EL first.vm first.heap t.vm t.heap) hM hf hl
    (fun m meth c A a Y hp => have hU : Z.Warmed39 A.U.vm := wtrans (s := s.setVm vm0) hZ Y.warmed
      ⟨by show (Jvm.Cond.and _ .tt).before a A.U = true; rw [Cond.before_and, mv hU wc]; rfl, mv hU wc, mv hU wz, hp.2.2.1, hp.2.2.2⟩)
    (fun m meth c A a g mk Y hp => ⟨hp.1, wtrans (s := s.setVm vm0) hZ Y.warmed, hp.2.1, (CHv.at Y hZ hEL H).1, fun x q => (CHv.at Y hZ hEL H).safe (hlt x q) (hsf x q)⟩) (fun _ _ _ _ _ _ _ _ _ => trivial)
    (fun _ _ _ _ ⟨v, L, h1, h2, h3, h4⟩ => ⟨L, _, _, h4, rfl, rfl, ⟨v, h1, h2⟩, h3⟩)
    (fun m meth c A a g mk v t L k n Y hp _ _ ⟨e1, e2, ⟨v', e3, e4⟩, e5⟩ => by
      cases e3; subst e1 e2
      refine ⟨L, e4, rfl, rfl, rfl, (CHv.at Y hZ hEL H).trans ?_⟩
      rw [← hp.2.1]; exact e5)
abbrev own_AfterW (p : Program) (l : Launch) (e : Env) (R : Room) (s : State) (Z : State) (EL : List (String × Nat)) (own : String) (vm0 : Vm) (h : Heap) (m : MethodId) (args : Array Value) (below : List Frame) (meth : Method) (c : Code) (T : State) (locs : List Loc) (kc ks : Nat) (g : JFrame) (rest : List Value) (Q : Vm → Option Value → Heap → List Loc → Prop) (len : Nat := 3) : Prop :=
  ∃ (T' : State) (h' : Heap) (v : Option Value) (L : List Loc), Stand p l e R (s.setVm T'.vm) m args below meth c T' (locs ++ L) kc ks ∧ T'.heap = h' ∧ Q T'.vm v h' L ∧ s.Since T'.vm h'.size ∧ Z.Warmed39 (s.setVm T'.vm).vm ∧ (s.setVm T'.vm).vm.findClass own = some m.cls ∧ CHr Z EL vm0 h T'.vm h' ∧
    ∀ target, Steps p.tables e below (T'.setTop { g with pc := g.pc + len, stack := v.toList ++ rest }) target → Steps p.tables e below (T.setTop g) target
theorem own_callSW (X : Stand p l e R (s.setVm vm0) m args below meth c T locs cells slots) (hx : p.tables.exec = Jvm.exec) (hZ : Z.Warmed39 (s.setVm vm0).vm) (hown : (s.setVm vm0).vm.findClass own = some m.cls) (eT : T.heap = h)
    (w1 : (Jvm.Cond.methodLink own index y).before a0 Z = true) (w2 : (Jvm.Cond.static y).before a0 Z = true) (w3 : (Jvm.Cond.initialized y.cls).before a0 Z = true) (w4 : (Jvm.Cond.code y bytes maxL ret).before a0 Z = true) (hy : y.cls ≠ "java/lang/invoke/MethodHandle" ∧ y.cls ≠ "java/lang/invoke/VarHandle")
    {k0 : Nat} (hS : s.Since vm0 k0) (hk : k0 ≤ h.size) (hEL : EW Z a0 EL) (H : CHv Z EL vm0 h) (hsf : ∀ x ∈ sf, Safe Z EL vm0 h x) (hlt : ∀ x ∈ sf, x < h.size)
    (hM : own_MetW l Z EL sf h y bytes maxL ret [] rm as' Q rm.cells rm.slots)
    (hf : rm.frames + 1 ≤ R.frames) (hl : W + (maxL + 11) + rm.locals ≤ R.locals) (hc : cells + rm.cells ≤ R.cells) (hsl : slots + rm.slots ≤ R.slots)
    {g : JFrame} (hg : g.method = m) (hsize : g.locals.size = c.maxLocals) {argsL rest : List Value} (has : argsL.toArray = as') (hlen : ∀ sig, parseMethodDescriptor y.desc = some sig → argsL.length = sig.parameters.length)
    (hstack : g.stack = argsL.reverse ++ rest) (hW : 2 * g.monitorRoom + (rest.map fun v => v.category).sum ≤ W) (hd : decode c.code g.pc = .ok (.invokestatic index, 3)) :
    own_AfterW p l e R s Z EL own vm0 h m args below meth c T locs (cells + rm.cells) (slots + rm.slots) g rest Q := by
  obtain ⟨v, vm1, ⟨T', L', k', n'⟩, -, X', hS', hg', ⟨Lc, hQ, l1, y1, z1, hC⟩, st⟩ := callSS X hx (y := y) hown (mvT hZ w1) (mvT hZ w2) (mvT hZ w3) (mvT hZ w4) hy (own_backW (W := W) hM hZ w4 w3 hf hl hEL H hsf hlt) hg hsize hlen hstack hW hd (fun _ _ => ⟨has, eT, hc, hsl⟩)
  dsimp only [Pt.U, Pt.locs, Pt.cells, Pt.slots] at X' l1 y1 z1 st hQ hS' hg' hC
  subst l1 y1 z1
  obtain ⟨X2, hS2, hZ2, hown2⟩ := rebS hS (n1 := T.heap.size) (by rw [eT]; exact hk) X' hS' hg' hZ hown
  exact ⟨T', _, v, Lc, X2, rfl, hQ, hS2, hZ2, hown2, hC, fun _ k => st.trans k⟩
theorem own_callNW (X : Stand p l e R (s.setVm vm0) m args below meth c T locs cells slots) (hx : p.tables.exec = Jvm.exec) (hZ : Z.Warmed39 (s.setVm vm0).vm) (hown : (s.setVm vm0).vm.findClass own = some m.cls) (eT : T.heap = h) {b : Addr} (hy1 : y.name = "<init>")
    (w1 : (Jvm.Cond.methodLink own index y).before a0 Z = true) (w5 : (Jvm.Cond.instanceMethod y).before a0 Z = true) (w6 : (Jvm.Cond.initialized y.cls).before a0 Z = true) (w4 : (Jvm.Cond.code y bytes maxL none).before a0 Z = true) (hy : y.cls ≠ "java/lang/invoke/MethodHandle" ∧ y.cls ≠ "java/lang/invoke/VarHandle")
    {k0 : Nat} (hS : s.Since vm0 k0) (hk : k0 ≤ h.size) (hEL : EW Z a0 EL) (H : CHv Z EL vm0 h) (hsf : ∀ x ∈ sf, Safe Z EL vm0 h x) (hlt : ∀ x ∈ sf, x < h.size)
    (hM : own_MetW l Z EL sf h y bytes maxL none [] rm as' Q rm.cells rm.slots)
    (hf : rm.frames + 1 ≤ R.frames) (hl : W + (maxL + 11) + rm.locals ≤ R.locals) (hc : cells + rm.cells ≤ R.cells) (hsl : slots + rm.slots ≤ R.slots)
    {g : JFrame} (hg : g.method = m) (hsize : g.locals.size = c.maxLocals) {argsL rest : List Value} (has : (.ref b :: argsL).toArray = as') (hlen : ∀ sig, parseMethodDescriptor y.desc = some sig → argsL.length = sig.parameters.length)
    (hstack : g.stack = argsL.reverse ++ .ref b :: rest) (hW : 2 * g.monitorRoom + (rest.map fun v => v.category).sum ≤ W) (hd : decode c.code g.pc = .ok (.invokespecial index, 3)) :
    own_AfterW p l e R s Z EL own vm0 h m args below meth c T locs (cells + rm.cells) (slots + rm.slots) g rest Q := by
  obtain ⟨v, vm1, ⟨T', L', k', n'⟩, -, X', hS', hg', ⟨Lc, hQ, l1, y1, z1, hC⟩, st⟩ := X.specialBackS hx (y := y) hy1 hown (mvT hZ w1) (mvT hZ w5) (mvT hZ w4) hy (own_backW (W := W) hM hZ w4 w6 hf hl hEL H hsf hlt) hg hsize (Steps.refl _) hlen hstack hW hd (fun _ _ => ⟨has, eT, hc, hsl⟩)
  dsimp only [Pt.U, Pt.locs, Pt.cells, Pt.slots] at X' l1 y1 z1 st hQ hS' hg' hC
  subst l1 y1 z1
  obtain ⟨X2, hS2, hZ2, hown2⟩ := rebS hS (n1 := T.heap.size) (by rw [eT]; exact hk) X' hS' hg' hZ hown
  exact ⟨T', _, v, Lc, X2, rfl, hQ, hS2, hZ2, hown2, hC, fun _ k => st.trans k⟩
theorem own_sk (wS : ∀ d ∈ tables_1, d.before a0 Z = true) (h : Bundle.stringAtoms.all (fun w => tables_1.contains w) = true := by decide +kernel) : ∀ a ∈ Bundle.stringAtoms, a.before a0 Z = true := fun a ha => wS a (by
  have q := List.all_eq_true.mp h a ha
  exact List.contains_iff_mem.mp q)
end OwnWide
theorem own_bm32 {n : Int} (h1 : -2147483648 ≤ n) (h2 : n < 2147483648) : n.bmod (2 ^ 32) = n := Int.bmod_eq_of_le (by omega) (by omega)
theorem own_modlt (x : Int32) (n : Int32) (hn : 0 < n.toInt) : 0 ≤ ((x &&& 2147483647) % n).toInt ∧ ((x &&& 2147483647) % n).toInt < n.toInt := by
  have e := Jvm.Kit.i32_mask x 2147483647 (k := 31) (by decide) (by decide)
  rw [Int32.toInt_mod, e]
  have h0 : 0 ≤ x.toInt % 2 ^ 31 := Int.emod_nonneg _ (by decide)
  rw [Int.tmod_eq_emod_of_nonneg h0]
  exact ⟨Int.emod_nonneg _ (by omega), Int.emod_lt_of_pos _ hn⟩
theorem own_i32 {x : Int32} {k : Int32} (h : x.toInt = k.toInt) : x = k := Int32.toInt_inj.mp h
theorem own_in2 {x : Int32} (h : 0 ≤ x.toInt ∧ x.toInt < 2) : x = 0 ∨ x = 1 := by
  rcases (by omega : x.toInt = 0 ∨ x.toInt = 1) with q | q
  · exact .inl (own_i32 (k := 0) q)
  · exact .inr (own_i32 (k := 1) q)
theorem own_in3 {x : Int32} (h : 0 ≤ x.toInt ∧ x.toInt < 3) : x = 0 ∨ x = 1 ∨ x = 2 := by
  rcases (by omega : x.toInt = 0 ∨ x.toInt = 1 ∨ x.toInt = 2) with q | q | q
  · exact .inl (own_i32 (k := 0) q)
  · exact .inr (.inl (own_i32 (k := 1) q))
  · exact .inr (.inr (own_i32 (k := 2) q))
theorem own_in4 {x : Int32} (h : 0 ≤ x.toInt ∧ x.toInt < 4) : x = 0 ∨ x = 1 ∨ x = 2 ∨ x = 3 := by
  rcases (by omega : x.toInt = 0 ∨ x.toInt = 1 ∨ x.toInt = 2 ∨ x.toInt = 3) with q | q | q | q
  · exact .inl (own_i32 (k := 0) q)
  · exact .inr (.inl (own_i32 (k := 1) q))
  · exact .inr (.inr (.inl (own_i32 (k := 2) q)))
  · exact .inr (.inr (.inr (own_i32 (k := 3) q)))
theorem own_in5 {x : Int32} (h : 0 ≤ x.toInt ∧ x.toInt < 5) : x = 0 ∨ x = 1 ∨ x = 2 ∨ x = 3 ∨ x = 4 := by
  rcases (by omega : x.toInt = 0 ∨ x.toInt = 1 ∨ x.toInt = 2 ∨ x.toInt = 3 ∨ x.toInt = 4) with q | q | q | q | q
  · exact .inl (own_i32 (k := 0) q)
  · exact .inr (.inl (own_i32 (k := 1) q))
  · exact .inr (.inr (.inl (own_i32 (k := 2) q)))
  · exact .inr (.inr (.inr (.inl (own_i32 (k := 3) q))))
  · exact .inr (.inr (.inr (.inr (own_i32 (k := 4) q))))
theorem own_in6 {x : Int32} (h : 0 ≤ x.toInt ∧ x.toInt < 6) : x = 0 ∨ x = 1 ∨ x = 2 ∨ x = 3 ∨ x = 4 ∨ x = 5 := by
  rcases (by omega : x.toInt = 0 ∨ x.toInt = 1 ∨ x.toInt = 2 ∨ x.toInt = 3 ∨ x.toInt = 4 ∨ x.toInt = 5) with q | q | q | q | q | q
  · exact .inl (own_i32 (k := 0) q)
  · exact .inr (.inl (own_i32 (k := 1) q))
  · exact .inr (.inr (.inl (own_i32 (k := 2) q)))
  · exact .inr (.inr (.inr (.inl (own_i32 (k := 3) q))))
  · exact .inr (.inr (.inr (.inr (.inl (own_i32 (k := 4) q)))))
  · exact .inr (.inr (.inr (.inr (.inr (own_i32 (k := 5) q)))))
theorem own_in7 {x : Int32} (h : 0 ≤ x.toInt ∧ x.toInt < 7) : x = 0 ∨ x = 1 ∨ x = 2 ∨ x = 3 ∨ x = 4 ∨ x = 5 ∨ x = 6 := by
  rcases (by omega : x.toInt = 0 ∨ x.toInt = 1 ∨ x.toInt = 2 ∨ x.toInt = 3 ∨ x.toInt = 4 ∨ x.toInt = 5 ∨ x.toInt = 6) with q | q | q | q | q | q | q
  · exact .inl (own_i32 (k := 0) q)
  · exact .inr (.inl (own_i32 (k := 1) q))
  · exact .inr (.inr (.inl (own_i32 (k := 2) q)))
  · exact .inr (.inr (.inr (.inl (own_i32 (k := 3) q))))
  · exact .inr (.inr (.inr (.inr (.inl (own_i32 (k := 4) q)))))
  · exact .inr (.inr (.inr (.inr (.inr (.inl (own_i32 (k := 5) q))))))
  · exact .inr (.inr (.inr (.inr (.inr (.inr (own_i32 (k := 6) q))))))
theorem own_mk3 (x : Int32) : (x &&& 255).toUInt32.toUInt16.toUInt32.toInt32 = x &&& 255 := by
  have e := Jvm.Kit.i32_mask x 255 (k := 8) (by decide) (by decide)
  apply Int32.toInt_inj.mp
  have h1 : ((x &&& 255).toUInt32.toUInt16.toUInt32.toInt32).toInt = ((x &&& 255).toBitVec.toNat % 65536 : Nat) := by
    have hm : ((x &&& 255).toUInt32.toUInt16.toUInt32.toInt32).toBitVec.toNat = (x &&& 255).toBitVec.toNat % 65536 := by
      simp only [Int32.toBitVec_and, UInt32.toBitVec_toInt32] at *
      simp
      rw [show (255 : Nat) = 2 ^ 8 - 1 from rfl, Nat.and_two_pow_sub_one_eq_mod, Nat.and_two_pow_sub_one_eq_mod]; omega
    show ((x &&& 255).toUInt32.toUInt16.toUInt32.toInt32).toBitVec.toInt = _
    rw [BitVec.toInt_eq_toNat_cond, hm, if_pos (by omega)]
  have h2 : (x &&& 255).toBitVec.toInt = (x &&& 255).toInt := rfl
  have h3 : ((x &&& 255).toBitVec.toNat : Int) = (x &&& 255).toInt := by
    rw [← h2, BitVec.toInt_eq_toNat_cond]
    have : (x &&& 255).toBitVec.toInt = x.toInt % 2 ^ 8 := e
    rw [BitVec.toInt_eq_toNat_cond] at this
    split
    · rfl
    · rename_i hc; rw [if_neg hc] at this; have := (x &&& 255).toBitVec.isLt; omega
  rw [h1]; omega
theorem own_mk1 (x : Int32) : ¬ (255 < (x &&& 255)) := by
  have e := Jvm.Kit.i32_mask x 255 (k := 8) (by decide) (by decide)
  rw [Int32.lt_iff_toInt_lt, e]
  have e1 : (255 : Int32).toInt = 255 := rfl
  omega
theorem own_mk0 (x : Int32) : ¬ ((x &&& 255) < 0) := by
  have e := Jvm.Kit.i32_mask x 255 (k := 8) (by decide) (by decide)
  rw [Int32.lt_iff_toInt_lt, e]
  have e1 : (0 : Int32).toInt = 0 := rfl
  omega
theorem own_mk2 (x : Int32) : nar .char (x &&& 255) = x &&& 255 := own_mk3 x
theorem own_chr (x : Int32) : ∃ z : Int32, z = (x &&& 255).toUInt32.toUInt16.toUInt32.toInt32 ∧ ¬ (z < 0) ∧ ¬ (255 < z) ∧ nar .char z = z := by
  refine ⟨_, rfl, ?_, ?_, own_narC _⟩
  · rw [own_mk3]; exact own_mk0 x
  · rw [own_mk3]; exact own_mk1 x
section OwnMir
variable {p : Program} {l : Launch} {e : Env} {R : Room} {s : State} {m : MethodId} {args : Array Value} {below : List Frame} {meth : Method} {c : Code} {T : State} {locs : List Loc} {cells slots : Nat} {Z : State} {a0 : Array Value} {h : Heap}
variable {own : String} {index : Nat} {y : MethodName} {bytes : ByteArray} {maxL : Nat} {ret : Option FieldType} {rm : Room} {W : Nat} {as' : Array Value} {Q : Option Value → Heap → List Loc → Prop}
theorem own_nf {s : State} {args : Array Value} {C : String} {x y w : MethodName} (hsel : (Jvm.Cond.selects C x y).before args s = true) (q : y.cls = w.cls) : NotFace s w := fun r0 h0 => by
  obtain ⟨c2, r2, m2, q1, q2, q3, q4, kP, hkP, hkPi⟩ := Cond.selects_spec hsel
  have h1 := findClass_of_methodNamed h0
  have h2 := findClass_of_methodNamed q3
  rw [q] at h2
  have e : r0.cls = m2.cls := Option.some.inj (h1.symm.trans h2)
  exact ⟨kP, by rw [e]; exact hkP, hkPi⟩
/-- the class called C has its mirror, the object a -/
def Mir (Z : State) (C : String) (a : Addr) : Prop := ∃ (c : ClassId) (k : Class), Z.vm.findClass C = some c ∧ Z.vm.classes[c]? = some k ∧ k.mirror = some a ∧ ∃ cell : Cell, Z.heap[a]? = some cell ∧ cell.vm = .mirror c
theorem own_mir {Z : State} {C : String} (h : MirrorMade Z C) : ∃ a, Mir Z C a := by
  obtain ⟨c, k, a, h1, h2, h3, h4⟩ := h
  exact ⟨a, c, k, h1, h2, h3, h4⟩
theorem Mir.ne {Z : State} {C D : String} {a b : Addr} (M : Mir Z C a) (N : Mir Z D b) (q : C ≠ D) : @Ne Nat a b := fun e => by
  obtain ⟨c, k, h1, h2, -, cell, h4, h5⟩ := M
  obtain ⟨c', k', h1', h2', -, cell', h4', h5'⟩ := N
  subst e
  cases h4.symm.trans h4'
  have e2 : c = c' := by
    have := h5.symm.trans h5'
    injection this
  subst e2
  obtain ⟨x, hx, hn⟩ := Vm.findClass_spec h1
  obtain ⟨x', hx', hn'⟩ := Vm.findClass_spec h1'
  cases hx.symm.trans hx'
  exact q (hn.symm.trans hn')
theorem Mir.at {Z : State} {C : String} {a : Addr} {s : State} (hZ : Z.Warmed39 s.vm) (M : Mir Z C a) : ∃ (c : ClassId) (k : Class), s.vm.findClass C = some c ∧ s.vm.classes[c]? = some k ∧ k.mirror = some a := by
  obtain ⟨c, k, h1, h2, h3, -⟩ := M
  obtain ⟨k', hk', he⟩ := hZ.alike.2.2 _ _ h2
  exact ⟨c, k', by rw [hZ.alike.findClass]; exact h1, hk', by rw [he]; exact h3⟩
theorem own_ldcM (X : Stand p l e R s m args below meth c T locs cells slots) (hx : p.tables.exec = Jvm.exec) (hZ : Z.Warmed39 s.vm) {own C : String} {index : Nat} (hown : s.vm.findClass own = some m.cls) (w : (Jvm.Cond.classLink own index C).before a0 Z = true) {a : Addr} (M : Mir Z C a) (eT : T.heap = h)
    {g : JFrame} (hg : g.method = m) (hd : decode c.code g.pc = .ok (.ldc index, 2)) :
    ∃ T', Stand p l e R s m args below meth c T' locs cells slots ∧ T'.heap = h ∧ ∀ target, Steps p.tables e below (T'.setTop { g with pc := g.pc + 2, stack := .ref a :: g.stack }) target → Steps p.tables e below (T.setTop g) target := by
  obtain ⟨cc, k, h1, h2, h3⟩ := M.at hZ
  have hev : (Term.mirror C).eval args s none [] s = some (.ref a) := by simp [Term.eval, h1, h2, h3]
  obtain ⟨vm', X', st⟩ := X.ldcMirror hx hown (mvT hZ w) hev hg hd
  exact ⟨_, X', eT, st⟩
theorem own_gcI (X : Stand p l e R s m args below meth c T locs cells slots) (hx : p.tables.exec = Jvm.exec) (hZ : Z.Warmed39 s.vm) (hown : s.vm.findClass own = some m.cls) (eT : T.heap = h) {xi : MethodName} {C : String} {b mir : Addr} {count : Nat}
    (w1 : (Jvm.Cond.methodLink own index xi).before a0 Z = true) (w2 : (Jvm.Cond.declares Jvm.Stand.gcN).before a0 Z = true) (w7 : (Jvm.Cond.interfaceMethod xi.cls "java/lang/Object" xi.name xi.desc).before a0 Z = true) (w3 : (Jvm.Cond.selects C xi Jvm.Stand.gcN).before a0 Z = true) (w5 : (Jvm.Cond.instanceMethod Jvm.Stand.gcN).before a0 Z = true) (w8 : (Jvm.Cond.publicMethod Jvm.Stand.gcN).before a0 Z = true) (w9 : (Jvm.Cond.unhidden C xi.name xi.desc).before a0 Z = true) (w10 : (Jvm.Cond.castable C xi.cls).before a0 Z = true) (w11 : (Jvm.Cond.native Jvm.Stand.gcN).before a0 Z = true)
    (hy : xi.cls ≠ "java/lang/invoke/MethodHandle" ∧ xi.cls ≠ "java/lang/invoke/VarHandle") (hxo : xi.cls ≠ "java/lang/Object") (hname : xi.name = "getClass") (hdesc : xi.desc = "()Ljava/lang/Class;")
    (E : Exa Z h b C) (M : Mir Z C mir)
    {g : JFrame} (hg : g.method = m) (hsize : g.locals.size = c.maxLocals) {rest : List Value} (hstack : g.stack = .ref b :: rest) (hd : decode c.code g.pc = .ok (.invokeinterface index count, 5)) (hW : 2 * g.monitorRoom + (rest.map fun v => v.category).sum ≤ W) (hf : 1 ≤ R.frames) (hl : W + 14 ≤ R.locals) :
    ∃ T', Stand p l e R s m args below meth c T' locs cells slots ∧ T'.heap = h ∧ ∀ target, Steps p.tables e below (T'.setTop { g with pc := g.pc + 5, stack := .ref mir :: rest }) target → Steps p.tables e below (T.setTop g) target := by
  obtain ⟨cq, kq, q1, q2, q3⟩ := isOf hZ eT E
  obtain ⟨cc, k, h1, h2, h3⟩ := M.at hZ
  cases q1.symm.trans h1
  cases q2.symm.trans h2
  obtain ⟨vm', X', st⟩ := X.getClassOfI hx (xi := xi) hown (mvT hZ w1) (mvT hZ w2) (Jvm.Free.ULB.iface_rides hZ.alike w7) (mvT hZ w3) (mvT hZ w5) (mvT hZ w8) (mvT hZ w9) (mvT hZ w10) (mvT hZ w11) hy hxo hname hdesc q1 q2 q3 h3 hg hsize hstack hd hf
    (by have q : nativeFrameWords "java/lang/Object" "getClass" 1 + 11 = 14 := by decide
        rw [q]; omega)
  exact ⟨_, X', eT, st⟩
end OwnMir
section OwnUp
variable {p : Program} {l : Launch} {e : Env} {R : Room} {s : State} {m : MethodId} {args : Array Value} {below : List Frame} {meth : Method} {c : Code} {T : State} {locs : List Loc} {cells slots : Nat} {Z : State} {a0 : Array Value} {h : Heap}
variable {own : String} {index : Nat} {y : MethodName} {bytes : ByteArray} {maxL : Nat} {ret : Option FieldType} {rm : Room} {W : Nat} {as' : Array Value} {Q : Option Value → Heap → List Loc → Prop}
/-- an entry that names an interface's method which another class or interface declares: it links, by whatever road of access the word allows -/
theorem own_linkFF {args : Array Value} {s : State} {cls : String} {x : MethodName} {index d c : Nat} {ck ok : Class} {meth : Method} {mf : MethodId}
    (hd : s.vm.findClass cls = some d) (hc : s.vm.findClass x.cls = some c) (hck : s.vm.classes[c]? = some ck) (hvi : ck.isInterface = true) (hnone : ck.findMethod x.name x.desc = none)
    (hf : s.methodFound? x.cls x.name x.desc = some mf) (hok : s.vm.classes[mf.cls]? = some ok) (hm : ok.methods[mf.idx]? = some meth)
    (hcl0 : x.name ≠ "clone") (hx : x.cls ≠ "java/lang/invoke/MethodHandle" ∧ x.cls ≠ "java/lang/invoke/VarHandle")
    (h : (Jvm.Cond.methodLink cls index x).before args s = true) (pl : Platform) (hpl : pl.magicAccessors = ({} : Platform).magicAccessors) :
    ∃ ci, s.vm.MethodLinksFF pl d index ci c mf ∧ s.rightAt d index (.method mf) = true := by
  obtain ⟨k0, hk0, hname⟩ := Vm.findClass_spec hc
  cases hck.symm.trans hk0
  have hpoly : ∀ y, signaturePolymorphic ck y = false := fun y => by simp [signaturePolymorphic, hname, hx.1, hx.2]
  have hmeth : s.vm.method? mf = some meth := by simp [Vm.method?, hok, hm]
  have hff := State.faceFind_of_found hc hck hvi hpoly hnone hf
  simp only [Cond.before, Cond.holds, Cond.value, hd, hc] at h
  cases hme : s.memberEntry? cls index with
  | none => simp [hme] at h
  | some me =>
    obtain ⟨ci, via⟩ := me
    cases hcl : s.classLinks cls ci x.cls with
    | none => simp [hme, hcl, hf] at h
    | some linked =>
      cases hdk : s.vm.classes[d]? with
      | none => simp [hme, hcl, hdk, hf] at h
      | some dk =>
        simp only [hme, hcl, hdk, hck, hok, hmeth, hf, Option.bind_eq_bind, Option.bind_some, Option.pure_def, beq_iff_eq, bne_iff_ne, ne_eq, Option.some.injEq, Bool.and_eq_true, Option.isNone_iff_eq_none] at h
        obtain ⟨⟨⟨⟨⟨⟨⟨rfl, hnm⟩, hopen⟩, hvia⟩, -⟩, -⟩, hml⟩, hacc⟩ := h
        have hpa : s.vm.Plain meth.accessFlags mf.cls ok c d dk := by
          have h1 : plainAccess s.vm meth.accessFlags mf.cls ok c d dk = true := by
            rcases Bool.or_eq_true _ _ |>.mp hacc with q | q
            · exact q
            · simp [hcl0] at q
          simpa [Vm.Plain, plainAccess, or_assoc, and_assoc] using h1
        rw [hvi] at hvia
        subst hvia
        obtain ⟨cr, hcr, hlinks⟩ := State.classLinks_spec hd hcl pl hpl
        cases hc.symm.trans hcr
        obtain ⟨cp, hcp, hnames⟩ := State.names_spec hnm
        obtain ⟨dk', cf, hdk', hcf, rfl⟩ := State.poolOf?_spec hd hcp
        cases hdk.symm.trans hdk'
        obtain ⟨ci', nt, hent, hnt, -⟩ := namesOf?_method hnames
        have hent' : ci' = ci ∧ cf.constantPool[index]? = some (.interfaceMethodref ci nt) := by
          rcases hent with hent | hent <;> simp only [State.memberEntry?, hcp, Option.bind_eq_bind, Option.bind_some, hent, Option.some.injEq, Prod.mk.injEq] at hme
          · exact absurd hme.2 (by simp)
          · obtain ⟨rfl, -⟩ := hme
            exact ⟨rfl, hent⟩
        obtain ⟨rfl, hent''⟩ := hent'
        have hne : ci' ≠ index := fun he => by
          obtain ⟨_, cf', name', _, hd', hcf', _, hname', _⟩ := hlinks.here
          cases hdk.symm.trans hd'
          cases hcf.symm.trans hcf'
          subst he
          simp [ConstantPool.className?, hent''] at hname'
        have hdl : dk.loader = none := by
          obtain ⟨dk', _, _, _, hd', _, hl', _⟩ := hlinks.here
          cases hdk.symm.trans hd'; exact hl'
        refine ⟨ci', ⟨dk, cf, nt, x.name, x.desc, ck, ok, meth, hdk, hcf, hent'', hnt, hlinks, hne, hck, hvi, hpoly, hnone, hff, hok, hm, hdl.trans hml.symm, hpa, State.openOr_spec hd hdk hopen⟩, ?_⟩
        simp [State.rightAt, hdk, hcf, hnames, hf]
/-- the call through such an entry, on an object of class C: what the callee leaves -/
theorem own_callIU (X : Stand p l e R s m args below meth c T locs cells slots) (hx : p.tables.exec = Jvm.exec) (hZ : Z.Warmed39 s.vm) (hown : s.vm.findClass own = some m.cls) (eT : T.heap = h) {z : MethodName} {C J : String} {b : Addr} {count : Nat}
    (w1 : (Jvm.Cond.methodLink own index y).before a0 Z = true) (w2 : (Jvm.Cond.declares ⟨J, y.name, y.desc⟩).before a0 Z = true) (w7 : (Jvm.Cond.interfaceMethod y.cls J y.name y.desc).before a0 Z = true) (hxo : y.cls ≠ J) (hcl0 : y.name ≠ "clone") (w3 : (Jvm.Cond.selects C y z).before a0 Z = true) (w5 : (Jvm.Cond.instanceMethod z).before a0 Z = true) (w8 : (Jvm.Cond.publicMethod z).before a0 Z = true) (w9 : (Jvm.Cond.unhidden C y.name y.desc).before a0 Z = true) (w10 : (Jvm.Cond.castable C y.cls).before a0 Z = true) (w6 : (Jvm.Cond.initialized z.cls).before a0 Z = true) (w4 : (Jvm.Cond.code z bytes maxL ret).before a0 Z = true) (hy : y.cls ≠ "java/lang/invoke/MethodHandle" ∧ y.cls ≠ "java/lang/invoke/VarHandle")
    (E : Exa Z h b C) (hM : own_Met l Z h z bytes maxL ret [] rm as' Q rm.cells rm.slots)
    (hf : rm.frames + 1 ≤ R.frames) (hl : W + (maxL + 11) + rm.locals ≤ R.locals) (hc : cells + rm.cells ≤ R.cells) (hsl : slots + rm.slots ≤ R.slots)
    {g : JFrame} (hg : g.method = m) (hsize : g.locals.size = c.maxLocals) {argsL rest : List Value} (has : (.ref b :: argsL).toArray = as') (hlen : ∀ sig, parseMethodDescriptor y.desc = some sig → argsL.length = sig.parameters.length)
    (hstack : g.stack = argsL.reverse ++ .ref b :: rest) (hW : 2 * g.monitorRoom + (rest.map fun v => v.category).sum ≤ W) (hd : decode c.code g.pc = .ok (.invokeinterface index count, 5)) :
    own_After p l e R s m args below meth c T locs (cells + rm.cells) (slots + rm.slots) g rest Q 5 := by
  obtain ⟨cq, kq, q1, q2, cellB, hcellT, hclsB, hstatB⟩ := isOf hZ eT E
  have hpl : e.platform.magicAccessors = ({} : Platform).magicAccessors := by rw [X.admits.platform]
  obtain ⟨r0, r, hn, hrm, hstR, hsigR⟩ := Cond.declares_spec (mvT (args := args) hZ w2)
  obtain ⟨ok, hok, hokname⟩ := className_of_methodNamed hn
  have hmO : ok.methods[r0.idx]? = some r := by simpa [Vm.method?, hok] using hrm
  obtain ⟨cL, kL, r1, hcL, hkL, hiL, hfoundL, hn1⟩ := Cond.interfaceMethod_spec (Jvm.Free.ULB.iface_rides (a' := args) hZ.alike w7)
  cases hn.symm.trans hn1
  obtain ⟨hnameR, hdescR⟩ := name_of_methodNamed hn hrm
  obtain ⟨mk, methM, hnamed, hmethM, -, habM⟩ := Cond.instanceMethod_spec (mvT (args := args) hZ w5)
  obtain ⟨c2, r2, m2, p1, p2, p3, p4, -⟩ := Cond.selects_spec (mvT (args := args) hZ w3)
  cases q1.symm.trans p1
  cases hfoundL.symm.trans p2
  cases hnamed.symm.trans p3
  have hsel : selectMethod e.platform s.vm cellB.cls r0 = .method mk := by rw [Launch.admits_selectMethod X.admits, hclsB]; exact p4
  have hpub : hasFlag methM.accessFlags Acc.public_ = true := Cond.publicMethod_spec hnamed hmethM (mvT (args := args) hZ w8)
  have hway : ((cellB.cls :: s.vm.superclasses cellB.cls).any fun k => (declaredIn s.vm r.name r.desc k).any fun (_, z) => z.isPrivate || z.isStatic) = false := by
    rw [hnameR, hdescR, hclsB]; exact Cond.unhidden_spec q1 (mvT (args := args) hZ w9)
  obtain ⟨c3, t3, v1, v2, v3⟩ := Cond.castable_spec (mvT (args := args) hZ w10)
  cases q1.symm.trans v1
  cases hcL.symm.trans v2
  have hobj : ∀ z, cellB.vm ≠ .statics z := fun z q => by rw [q] at hstatB; cases hstatB
  have hinst : s.vm.assignable cellB.cls cL = true := by rw [hclsB]; exact v3
  have hkcell : s.vm.classes[cellB.cls]? = some kq := by rw [hclsB]; exact q2
  obtain ⟨kL', hkL', hnameL⟩ := Vm.findClass_spec hcL
  cases hkL.symm.trans hkL'
  have hpolyL : ∀ y, signaturePolymorphic kL y = false := fun u => by simp [signaturePolymorphic, hnameL, hy.1, hy.2]
  have hnone : kL.findMethod y.name y.desc = none := by
    cases hj : kL.findMethod y.name y.desc with
    | none => rfl
    | some j =>
      exfalso
      have hsome : (kL.methods[j]?).isSome := by
        obtain ⟨hlt, -, -⟩ := Array.findIdx?_eq_some_iff_getElem.mp hj
        simp [hlt]
      have h2 := State.methodFound?_declared hcL hkL hpolyL hj hsome
      rw [hfoundL] at h2
      have e1 : r0 = ⟨cL, j⟩ := Option.some.inj h2
      have e2 : r0.cls = cL := by rw [e1]
      rw [e2] at hok
      cases hkL.symm.trans hok
      exact hxo (hnameL.symm.trans hokname)
  obtain ⟨ci, hlk, hright⟩ := own_linkFF hown hcL hkL hiL hnone hfoundL hok hmO hcl0 hy (mvT (args := args) hZ w1) e.platform hpl
  have hE : s.MethodEntryUp e T.vm m.cls index cL r0 ci := State.methodEntryFF X.warmed hlk hright
  obtain ⟨dk, cfile, nt, _, _, ck, _, _, hdd, hcf, hcp, -, -, -, hck, hvia, -⟩ := hlk.here
  cases hkL.symm.trans hck
  have alike := hE.warmed.alike
  obtain ⟨dk2, hdk2, hres⟩ := hE.classReady
  obtain ⟨dk3, hdk3, hed⟩ := alike.2.2 _ _ hdd
  cases hdk2.symm.trans hdk3
  obtain ⟨ck2, hck2, hec⟩ := alike.2.2 _ _ hck
  obtain ⟨kcell2, hkcell2, -⟩ := alike.2.2 _ _ hkcell
  have X1 : Stand p l e R s m args below meth c (T.setVm (T.vm.calledUp m.cls ci index cL r0)) locs cells slots := X.noted hE.warmed
  have hst : ∀ target, (∀ acts, Steps p.tables e below (doInvoke e ((T.setVm (T.vm.calledUp m.cls ci index cL r0)).setTop { g with stack := rest }) acts mk (.ref b :: argsL).toArray).1 target) → Steps p.tables e below (T.setTop g) target := fun target hrest => by
    subst hg
    jvm_step X.here [hx, hd, invokeinterface.wp_coldFace (e := e) (s := T) (s₀ := s) (f := g) (count := count) X.here.top X.warmed hE hdd hcf (Or.inr hcp) hck hvia,
      invokeinterface.wp_ready (e := e) (s := T.setVm (T.vm.calledUp g.method.cls ci index cL r0)) (f := g) (count := count) (r := r) (meth := methM) (m := mk) (args := argsL) (rest := rest) (cell := cellB) (kcell := kcell2) (ck := dk2) (nk := ck2) (cf := cfile) (ci := ci) (nt := nt) (named := cL)
        X.here.top hE.ready (by show (T.vm.calledUp g.method.cls ci index cL r0).method? r0 = some r; rw [alike.method?]; exact hrm) hstR (hlen _ hsigR) hstack hcellT hobj hkcell2 hdk2 (by rw [hed]; exact hcf) hcp hres hck2 (by rw [hec]; exact hvia)
        (by show (T.vm.calledUp g.method.cls ci index cL r0).assignable cellB.cls cL = true; rw [alike.assignable]; exact hinst)
        (by show selectMethod e.platform (T.vm.calledUp g.method.cls ci index cL r0) cellB.cls r0 = .method mk; rw [alike.selectMethod]; exact hsel)
        (by show (T.vm.calledUp g.method.cls ci index cL r0).method? mk = some methM; rw [alike.method?]; exact hmethM)
        (Or.inr (Or.inr (by show ((cellB.cls :: (T.vm.calledUp g.method.cls ci index cL r0).superclasses cellB.cls).any fun k => (declaredIn (T.vm.calledUp g.method.cls ci index cL r0) r.name r.desc k).any fun (_, y) => y.isPrivate || y.isStatic) = false; simp only [alike.superclasses, alike.declaredIn]; exact hway)))
        (Or.inl hpub) habM]
    exact hrest
  obtain ⟨v, ⟨T', L', k', n'⟩, X', ⟨Lc, hQ, l1, y1, z1⟩, st⟩ := backOf (W := W) (len := 5) hM hZ w4 w6 hf hl m meth c ⟨T.setVm (T.vm.calledUp m.cls ci index cL r0), locs, cells, slots⟩ { g with stack := rest } (.invokeinterface index count) mk (.ref b :: argsL).toArray X1 hg hsize hd hW (X1.named hnamed) ⟨has, eT, hc, hsl⟩
  dsimp only [Pt.U, Pt.locs, Pt.cells, Pt.slots] at X' l1 y1 z1 st hQ
  subst l1 y1 z1
  exact ⟨T', _, v, Lc, X', rfl, hQ, fun _ k => ((hst _ fun acts => by rw [doInvoke_state]; exact Steps.refl _).trans st).trans k⟩
/-- a private method is selected, whatever the class: no word for it is needed -/
theorem own_selP {Z : State} {a0 : Array Value} {C : String} {x w y : MethodName} (w1 : (Jvm.Cond.instanceMethod y).before a0 Z = true) (w7 : (Jvm.Cond.privateMethod y).before a0 Z = true) (ws : (Jvm.Cond.selects C x w).before a0 Z = true) (q : w.cls = y.cls) (hy : y.cls ≠ "java/lang/invoke/MethodHandle" ∧ y.cls ≠ "java/lang/invoke/VarHandle") : (Jvm.Cond.selects y.cls y y).before a0 Z = true := by
  obtain ⟨mk, methM, hnamed, hmethM, -, -⟩ := Cond.instanceMethod_spec w1
  have hp := Cond.privateMethod_at w7 mk methM hnamed hmethM
  have hc := findClass_of_methodNamed hnamed
  obtain ⟨k, hk, hkn⟩ := own_nf ws q mk hnamed
  obtain ⟨k', hk', hname⟩ := Vm.findClass_spec hc
  cases hk.symm.trans hk'
  have hpoly : ∀ u, signaturePolymorphic k u = false := fun u => by simp [signaturePolymorphic, hname, hy.1, hy.2]
  have hj : ∃ j, k.findMethod y.name y.desc = some j ∧ mk = ⟨mk.cls, j⟩ := by
    have h2 := hnamed
    simp only [State.methodNamed?, hc, hk, Option.bind_eq_bind, Option.bind_some, Option.pure_def] at h2
    cases hf : k.findMethod y.name y.desc with
    | none => simp [hf] at h2
    | some j => simp [hf] at h2; exact ⟨j, rfl, h2.symm⟩
  obtain ⟨j, hj, hmk⟩ := hj
  have hsome : (k.methods[j]?).isSome := by
    obtain ⟨hlt, -, -⟩ := Array.findIdx?_eq_some_iff_getElem.mp hj
    simp [hlt]
  have hfound : Z.methodFound? y.cls y.name y.desc = some mk := by rw [hmk]; exact State.methodFound?_declared hc hk hpoly hj hsome
  simp [Cond.before, Cond.holds, Cond.value, hc, hfound, hnamed, selectMethod, hmethM, hp, hk, hkn]
end OwnUp
abbrev own_T (n : Nat) : Jvm.Cond := (tables_1[n]?).getD (Jvm.Cond.code x code maxLocals ret)
abbrev own_W (a0 : Array Value) (Z : State) : Prop := ∀ n : Nat, (own_T n).before a0 Z = true
theorem own_gd {α : Type} (l : List α) (d : α) (n : Nat) : (l[n]?).getD d ∈ d :: l := by
  cases h : l[n]? with
  | none => exact List.mem_cons_self
  | some a => exact List.mem_cons_of_mem _ (List.mem_of_getElem? h)
section OwnBrief
variable {p : Program} {l : Launch} {e : Env} {R : Room} {s : State} {m : MethodId} {args : Array Value} {below : List Frame} {meth : Method} {c : Code} {T : State} {locs : List Loc} {cells slots : Nat} {Z : State} {a0 : Array Value} {h : Heap}
variable {own : String} {index : Nat} {y : MethodName} {bytes : ByteArray} {maxL : Nat} {ret : Option FieldType} {rm : Room} {W : Nat} {as' : Array Value} {Q : Option Value → Heap → List Loc → Prop}
abbrev own_R (f c s l : Nat) : Room := { frames := f, cells := c, slots := s, locals := l }
theorem own_go {ws : List Jvm.Cond} {kc ks : Nat} (pn : plainFor y = true)
    (k : ∀ (p : Program) (e : Env) (s : State) (m : MethodId) (below : List Frame) (meth : Method) (c : Code) (s₁ : State), meth.locks = false → meth.sig.returnType = ret → meth.name = y.name → c.maxLocals = maxL → Z.Warmed39 s.vm → p.tables.exec = Jvm.exec → c.code = bytes → s.vm.findClass y.cls = some m.cls → Stand p l e rm s m as' below meth c s₁ [] 0 0 → s₁.heap = h →
      own_G p e below (s₁.setTop (entryFrame m as' maxL)) (own_P s Q kc ks)) : own_Met l Z h y bytes maxL ret ws rm as' Q kc ks := by
  refine MetFree.of_bodySF pn hisR ?_
  intro p e s m args below meth c s₁ Bd hml0 hP hK
  obtain ⟨rfl, hZ, hh⟩ := hP
  exact k p e s m below meth c s₁ Bd.notSynchronized Bd.returns (name_of_methodNamed Bd.named Bd.method).1 hml0 hZ Bd.exec Bd.bytes (findClass_of_methodNamed Bd.named) (Stand.of_body Bd) (by rw [← hh, Bd.state]; rfl)
theorem own_cS (X : Stand p l e R s m args below meth c T locs cells slots) (hx : p.tables.exec = Jvm.exec) (hZ : Z.Warmed39 s.vm) (hown : s.vm.findClass own = some m.cls) (eT : T.heap = h)
    (w1 : (Jvm.Cond.methodLink own index y).before a0 Z = true) (w2 : (Jvm.Cond.static y).before a0 Z = true) (w3 : (Jvm.Cond.initialized y.cls).before a0 Z = true) (w4 : (Jvm.Cond.code y bytes maxL ret).before a0 Z = true) (hy : y.cls ≠ "java/lang/invoke/MethodHandle" ∧ y.cls ≠ "java/lang/invoke/VarHandle")
    (hM : own_Met l Z h y bytes maxL ret [] rm as' Q rm.cells rm.slots)
    (argsL rest : List Value) {k pc : Nat} {Ls : Array Slot} (hml : c.maxLocals = k) (hlen : ∀ sig, parseMethodDescriptor y.desc = some sig → argsL.length = sig.parameters.length) (hd : decode c.code pc = .ok (.invokestatic index, 3)) {P : Outcome → State → Prop}
    (K : ∀ T' h' v L', Stand p l e R s m args below meth c T' (locs ++ L') (cells + rm.cells) (slots + rm.slots) → T'.heap = h' → Q v h' L' → own_G p e below (T'.setTop (mkF m (pc + 3) Ls (v.toList ++ rest))) P)
    (has : argsL.toArray = as' := by rfl) (hs : Ls.size = k := by rfl) (hW : (rest.map fun v => v.category).sum ≤ W := by exact Nat.le_of_eq rfl) (hf : rm.frames + 1 ≤ R.frames := by decide) (hl : W + (maxL + 11) + rm.locals ≤ R.locals := by decide) (hc : cells + rm.cells ≤ R.cells := by decide) (hsl : slots + rm.slots ≤ R.slots := by decide) :
    own_G p e below (T.setTop (mkF m pc Ls (argsL.reverse ++ rest))) P := by
  obtain ⟨T', h', v, L', X', e', q, st⟩ := own_callS X hx hZ hown eT w1 w2 w3 w4 hy hM hf hl hc hsl (g := mkF m pc Ls (argsL.reverse ++ rest)) rfl (by rw [hml]; exact hs) has hlen rfl (by show 2 * 0 + _ ≤ _; omega) hd
  exact oS st (K T' h' v L' X' e' q)
theorem own_cV (X : Stand p l e R s m args below meth c T locs cells slots) (hx : p.tables.exec = Jvm.exec) (hZ : Z.Warmed39 s.vm) (hown : s.vm.findClass own = some m.cls) (eT : T.heap = h) {z : MethodName} {C : String} {b : Addr}
    (w1 : (Jvm.Cond.methodLink own index y).before a0 Z = true) (w2 : (Jvm.Cond.declares y).before a0 Z = true) (nf : NotFace s y) (w3 : (Jvm.Cond.selects C y z).before a0 Z = true) (w5 : (Jvm.Cond.instanceMethod z).before a0 Z = true) (w6 : (Jvm.Cond.initialized z.cls).before a0 Z = true) (w4 : (Jvm.Cond.code z bytes maxL ret).before a0 Z = true) (hy : y.cls ≠ "java/lang/invoke/MethodHandle" ∧ y.cls ≠ "java/lang/invoke/VarHandle")
    (E : Exa Z h b C) (hM : own_Met l Z h z bytes maxL ret [] rm as' Q rm.cells rm.slots)
    (argsL rest : List Value) {k pc : Nat} {Ls : Array Slot} (hml : c.maxLocals = k) (hlen : ∀ sig, parseMethodDescriptor y.desc = some sig → argsL.length = sig.parameters.length) (hd : decode c.code pc = .ok (.invokevirtual index, 3)) {P : Outcome → State → Prop}
    (K : ∀ T' h' v L', Stand p l e R s m args below meth c T' (locs ++ L') (cells + rm.cells) (slots + rm.slots) → T'.heap = h' → Q v h' L' → own_G p e below (T'.setTop (mkF m (pc + 3) Ls (v.toList ++ rest))) P)
    (has : (.ref b :: argsL).toArray = as' := by rfl) (hs : Ls.size = k := by rfl) (hW : (rest.map fun v => v.category).sum ≤ W := by exact Nat.le_of_eq rfl) (hf : rm.frames + 1 ≤ R.frames := by decide) (hl : W + (maxL + 11) + rm.locals ≤ R.locals := by decide) (hc : cells + rm.cells ≤ R.cells := by decide) (hsl : slots + rm.slots ≤ R.slots := by decide) :
    own_G p e below (T.setTop (mkF m pc Ls (argsL.reverse ++ .ref b :: rest))) P := by
  obtain ⟨T', h', v, L', X', e', q, st⟩ := own_callV X hx hZ hown eT w1 w2 nf w3 w5 w6 w4 hy E hM hf hl hc hsl (g := mkF m pc Ls (argsL.reverse ++ .ref b :: rest)) rfl (by rw [hml]; exact hs) has hlen rfl (by show 2 * 0 + _ ≤ _; omega) hd
  exact oS st (K T' h' v L' X' e' q)
theorem own_cU (X : Stand p l e R s m args below meth c T locs cells slots) (hx : p.tables.exec = Jvm.exec) (hZ : Z.Warmed39 s.vm) (hown : s.vm.findClass own = some m.cls) (eT : T.heap = h) {z : MethodName} {C owner : String} {b : Addr}
    (w1 : (Jvm.Cond.methodLink own index y).before a0 Z = true) (w2 : (Jvm.Cond.sameMethod y.cls owner y.name y.desc).before a0 Z = true) (w7 : (Jvm.Cond.declares ⟨owner, y.name, y.desc⟩).before a0 Z = true) (w3 : (Jvm.Cond.selects C y z).before a0 Z = true) (w5 : (Jvm.Cond.instanceMethod z).before a0 Z = true) (w6 : (Jvm.Cond.initialized z.cls).before a0 Z = true) (w4 : (Jvm.Cond.code z bytes maxL ret).before a0 Z = true) (hy : owner ≠ "java/lang/invoke/MethodHandle" ∧ owner ≠ "java/lang/invoke/VarHandle")
    (E : Exa Z h b C) (hM : own_Met l Z h z bytes maxL ret [] rm as' Q rm.cells rm.slots)
    (argsL rest : List Value) {k pc : Nat} {Ls : Array Slot} (hml : c.maxLocals = k) (hlen : ∀ sig, parseMethodDescriptor y.desc = some sig → argsL.length = sig.parameters.length) (hd : decode c.code pc = .ok (.invokevirtual index, 3)) {P : Outcome → State → Prop}
    (K : ∀ T' h' v L', Stand p l e R s m args below meth c T' (locs ++ L') (cells + rm.cells) (slots + rm.slots) → T'.heap = h' → Q v h' L' → own_G p e below (T'.setTop (mkF m (pc + 3) Ls (v.toList ++ rest))) P)
    (has : (.ref b :: argsL).toArray = as' := by rfl) (hs : Ls.size = k := by rfl) (hW : (rest.map fun v => v.category).sum ≤ W := by exact Nat.le_of_eq rfl) (hf : rm.frames + 1 ≤ R.frames := by decide) (hl : W + (maxL + 11) + rm.locals ≤ R.locals := by decide) (hc : cells + rm.cells ≤ R.cells := by decide) (hsl : slots + rm.slots ≤ R.slots := by decide) :
    own_G p e below (T.setTop (mkF m pc Ls (argsL.reverse ++ .ref b :: rest))) P := by
  obtain ⟨T', h', v, L', X', e', q, st⟩ := own_callU X hx hZ hown eT w1 w2 w7 w3 w5 w6 w4 hy E hM hf hl hc hsl (g := mkF m pc Ls (argsL.reverse ++ .ref b :: rest)) rfl (by rw [hml]; exact hs) has hlen rfl (by show 2 * 0 + _ ≤ _; omega) hd
  exact oS st (K T' h' v L' X' e' q)
theorem own_cN (X : Stand p l e R s m args below meth c T locs cells slots) (hx : p.tables.exec = Jvm.exec) (hZ : Z.Warmed39 s.vm) (hown : s.vm.findClass own = some m.cls) (eT : T.heap = h) {b : Addr} (hy1 : y.name = "<init>")
    (w1 : (Jvm.Cond.methodLink own index y).before a0 Z = true) (w5 : (Jvm.Cond.instanceMethod y).before a0 Z = true) (w6 : (Jvm.Cond.initialized y.cls).before a0 Z = true) (w4 : (Jvm.Cond.code y bytes maxL none).before a0 Z = true) (hy : y.cls ≠ "java/lang/invoke/MethodHandle" ∧ y.cls ≠ "java/lang/invoke/VarHandle")
    (hM : own_Met l Z h y bytes maxL none [] rm as' Q rm.cells rm.slots)
    (argsL rest : List Value) {k pc : Nat} {Ls : Array Slot} (hml : c.maxLocals = k) (hlen : ∀ sig, parseMethodDescriptor y.desc = some sig → argsL.length = sig.parameters.length) (hd : decode c.code pc = .ok (.invokespecial index, 3)) {P : Outcome → State → Prop}
    (K : ∀ T' h' v L', Stand p l e R s m args below meth c T' (locs ++ L') (cells + rm.cells) (slots + rm.slots) → T'.heap = h' → Q v h' L' → own_G p e below (T'.setTop (mkF m (pc + 3) Ls (v.toList ++ rest))) P)
    (has : (.ref b :: argsL).toArray = as' := by rfl) (hs : Ls.size = k := by rfl) (hW : (rest.map fun v => v.category).sum ≤ W := by exact Nat.le_of_eq rfl) (hf : rm.frames + 1 ≤ R.frames := by decide) (hl : W + (maxL + 11) + rm.locals ≤ R.locals := by decide) (hc : cells + rm.cells ≤ R.cells := by decide) (hsl : slots + rm.slots ≤ R.slots := by decide) :
    own_G p e below (T.setTop (mkF m pc Ls (argsL.reverse ++ .ref b :: rest))) P := by
  obtain ⟨T', h', v, L', X', e', q, st⟩ := own_callN X hx hZ hown eT hy1 w1 w5 w6 w4 hy hM hf hl hc hsl (g := mkF m pc Ls (argsL.reverse ++ .ref b :: rest)) rfl (by rw [hml]; exact hs) has hlen rfl (by show 2 * 0 + _ ≤ _; omega) hd
  exact oS st (K T' h' v L' X' e' q)
theorem own_cI (X : Stand p l e R s m args below meth c T locs cells slots) (hx : p.tables.exec = Jvm.exec) (hZ : Z.Warmed39 s.vm) (hown : s.vm.findClass own = some m.cls) (eT : T.heap = h) {z : MethodName} {C : String} {b : Addr} {count : Nat}
    (w1 : (Jvm.Cond.methodLink own index y).before a0 Z = true) (w2 : (Jvm.Cond.declares y).before a0 Z = true) (w7 : (Jvm.Cond.interfaceMethod y.cls y.cls y.name y.desc).before a0 Z = true) (h7 : ((Jvm.Cond.interfaceMethod y.cls y.cls y.name y.desc).onTables && (Jvm.Cond.interfaceMethod y.cls y.cls y.name y.desc).keepsFace) = true) (w3 : (Jvm.Cond.selects C y z).before a0 Z = true) (w5 : (Jvm.Cond.instanceMethod z).before a0 Z = true) (w8 : (Jvm.Cond.publicMethod z).before a0 Z = true) (w9 : (Jvm.Cond.unhidden C y.name y.desc).before a0 Z = true) (w10 : (Jvm.Cond.castable C y.cls).before a0 Z = true) (w6 : (Jvm.Cond.initialized z.cls).before a0 Z = true) (w4 : (Jvm.Cond.code z bytes maxL ret).before a0 Z = true) (hy : y.cls ≠ "java/lang/invoke/MethodHandle" ∧ y.cls ≠ "java/lang/invoke/VarHandle")
    (E : Exa Z h b C) (hM : own_Met l Z h z bytes maxL ret [] rm as' Q rm.cells rm.slots)
    (argsL rest : List Value) {k pc : Nat} {Ls : Array Slot} (hml : c.maxLocals = k) (hlen : ∀ sig, parseMethodDescriptor y.desc = some sig → argsL.length = sig.parameters.length) (hd : decode c.code pc = .ok (.invokeinterface index count, 5)) {P : Outcome → State → Prop}
    (K : ∀ T' h' v L', Stand p l e R s m args below meth c T' (locs ++ L') (cells + rm.cells) (slots + rm.slots) → T'.heap = h' → Q v h' L' → own_G p e below (T'.setTop (mkF m (pc + 5) Ls (v.toList ++ rest))) P)
    (has : (.ref b :: argsL).toArray = as' := by rfl) (hs : Ls.size = k := by rfl) (hW : (rest.map fun v => v.category).sum ≤ W := by exact Nat.le_of_eq rfl) (hf : rm.frames + 1 ≤ R.frames := by decide) (hl : W + (maxL + 11) + rm.locals ≤ R.locals := by decide) (hc : cells + rm.cells ≤ R.cells := by decide) (hsl : slots + rm.slots ≤ R.slots := by decide) :
    own_G p e below (T.setTop (mkF m pc Ls (argsL.reverse ++ .ref b :: rest))) P := by
  obtain ⟨T', h', v, L', X', e', q, st⟩ := own_callI X hx hZ hown eT w1 w2 w7 h7 w3 w5 w8 w9 w10 w6 w4 hy E hM hf hl hc hsl (g := mkF m pc Ls (argsL.reverse ++ .ref b :: rest)) rfl (by rw [hml]; exact hs) has hlen rfl (by show 2 * 0 + _ ≤ _; omega) hd
  exact oS st (K T' h' v L' X' e' q)
theorem own_cP (X : Stand p l e R s m args below meth c T locs cells slots) (hx : p.tables.exec = Jvm.exec) (hZ : Z.Warmed39 s.vm) (hown : s.vm.findClass own = some m.cls) (eT : T.heap = h) {b : Addr} {C : String}
    (w1 : (Jvm.Cond.methodLink own index y).before a0 Z = true) (w5 : (Jvm.Cond.instanceMethod y).before a0 Z = true) (w3 : (Jvm.Cond.selects y.cls y y).before a0 Z = true) (w7 : (Jvm.Cond.privateMethod y).before a0 Z = true) (w6 : (Jvm.Cond.initialized y.cls).before a0 Z = true) (w4 : (Jvm.Cond.code y bytes maxL ret).before a0 Z = true) (hy : y.cls ≠ "java/lang/invoke/MethodHandle" ∧ y.cls ≠ "java/lang/invoke/VarHandle")
    (E : Exa Z h b C) (hM : own_Met l Z h y bytes maxL ret [] rm as' Q rm.cells rm.slots)
    (argsL rest : List Value) {k pc : Nat} {Ls : Array Slot} (hml : c.maxLocals = k) (hlen : ∀ sig, parseMethodDescriptor y.desc = some sig → argsL.length = sig.parameters.length) (hd : decode c.code pc = .ok (.invokevirtual index, 3)) {P : Outcome → State → Prop}
    (K : ∀ T' h' v L', Stand p l e R s m args below meth c T' (locs ++ L') (cells + rm.cells) (slots + rm.slots) → T'.heap = h' → Q v h' L' → own_G p e below (T'.setTop (mkF m (pc + 3) Ls (v.toList ++ rest))) P)
    (has : (.ref b :: argsL).toArray = as' := by rfl) (hs : Ls.size = k := by rfl) (hW : (rest.map fun v => v.category).sum ≤ W := by exact Nat.le_of_eq rfl) (hf : rm.frames + 1 ≤ R.frames := by decide) (hl : W + (maxL + 11) + rm.locals ≤ R.locals := by decide) (hc : cells + rm.cells ≤ R.cells := by decide) (hsl : slots + rm.slots ≤ R.slots := by decide) :
    own_G p e below (T.setTop (mkF m pc Ls (argsL.reverse ++ .ref b :: rest))) P := by
  obtain ⟨T', h', v, L', X', e', q, st⟩ := own_callP X hx hZ hown eT w1 w5 w3 w7 w6 w4 hy E hM hf hl hc hsl (g := mkF m pc Ls (argsL.reverse ++ .ref b :: rest)) rfl (by rw [hml]; exact hs) has hlen rfl (by show 2 * 0 + _ ≤ _; omega) hd
  exact oS st (K T' h' v L' X' e' q)
theorem own_cIU (X : Stand p l e R s m args below meth c T locs cells slots) (hx : p.tables.exec = Jvm.exec) (hZ : Z.Warmed39 s.vm) (hown : s.vm.findClass own = some m.cls) (eT : T.heap = h) {z : MethodName} {C J : String} {b : Addr} {count : Nat}
    (w1 : (Jvm.Cond.methodLink own index y).before a0 Z = true) (w2 : (Jvm.Cond.declares ⟨J, y.name, y.desc⟩).before a0 Z = true) (w7 : (Jvm.Cond.interfaceMethod y.cls J y.name y.desc).before a0 Z = true) (hxo : y.cls ≠ J) (hcl0 : y.name ≠ "clone") (w3 : (Jvm.Cond.selects C y z).before a0 Z = true) (w5 : (Jvm.Cond.instanceMethod z).before a0 Z = true) (w8 : (Jvm.Cond.publicMethod z).before a0 Z = true) (w9 : (Jvm.Cond.unhidden C y.name y.desc).before a0 Z = true) (w10 : (Jvm.Cond.castable C y.cls).before a0 Z = true) (w6 : (Jvm.Cond.initialized z.cls).before a0 Z = true) (w4 : (Jvm.Cond.code z bytes maxL ret).before a0 Z = true) (hy : y.cls ≠ "java/lang/invoke/MethodHandle" ∧ y.cls ≠ "java/lang/invoke/VarHandle")
    (E : Exa Z h b C) (hM : own_Met l Z h z bytes maxL ret [] rm as' Q rm.cells rm.slots)
    (argsL rest : List Value) {k pc : Nat} {Ls : Array Slot} (hml : c.maxLocals = k) (hlen : ∀ sig, parseMethodDescriptor y.desc = some sig → argsL.length = sig.parameters.length) (hd : decode c.code pc = .ok (.invokeinterface index count, 5)) {P : Outcome → State → Prop}
    (K : ∀ T' h' v L', Stand p l e R s m args below meth c T' (locs ++ L') (cells + rm.cells) (slots + rm.slots) → T'.heap = h' → Q v h' L' → own_G p e below (T'.setTop (mkF m (pc + 5) Ls (v.toList ++ rest))) P)
    (has : (.ref b :: argsL).toArray = as' := by rfl) (hs : Ls.size = k := by rfl) (hW : (rest.map fun v => v.category).sum ≤ W := by exact Nat.le_of_eq rfl) (hf : rm.frames + 1 ≤ R.frames := by decide) (hl : W + (maxL + 11) + rm.locals ≤ R.locals := by decide) (hc : cells + rm.cells ≤ R.cells := by decide) (hsl : slots + rm.slots ≤ R.slots := by decide) :
    own_G p e below (T.setTop (mkF m pc Ls (argsL.reverse ++ .ref b :: rest))) P := by
  obtain ⟨T', h', v, L', X', e', q, st⟩ := own_callIU X hx hZ hown eT w1 w2 w7 hxo hcl0 w3 w5 w8 w9 w10 w6 w4 hy E hM hf hl hc hsl (g := mkF m pc Ls (argsL.reverse ++ .ref b :: rest)) rfl (by rw [hml]; exact hs) has hlen rfl (by show 2 * 0 + _ ≤ _; omega) hd
  exact oS st (K T' h' v L' X' e' q)
theorem own_gF (X : Stand p l e R s m args below meth c T locs cells slots) (hx : p.tables.exec = Jvm.exec) (hZ : Z.Warmed39 s.vm) (hown : s.vm.findClass own = some m.cls) {O n d : String} (w : (Jvm.Cond.fieldLink own index O n d).before a0 Z = true) (eT : T.heap = h) {a : Addr} {v : Value} (F : Fld Z h a O n d v) {pc : Nat} {Ls : Array Slot} {rest : List Value} (hd : decode c.code pc = .ok (.getfield index, 3)) {P : Outcome → State → Prop}
    (K : ∀ T', Stand p l e R s m args below meth c T' locs cells slots → T'.heap = h → own_G p e below (T'.setTop (mkF m (pc + 3) Ls (v :: rest))) P) : own_G p e below (T.setTop (mkF m pc Ls (.ref a :: rest))) P := by
  obtain ⟨T', X', e', st⟩ := getF X hx hZ hown (host := "") (Or.inl w) Via.refl eT F (g := mkF m pc Ls (.ref a :: rest)) rfl rfl hd
  exact oS st (K T' X' e')
theorem own_pF (X : Stand p l e R s m args below meth c T locs cells slots) (hx : p.tables.exec = Jvm.exec) (hZ : Z.Warmed39 s.vm) (hown : s.vm.findClass own = some m.cls) {O n d C : String} {kk : Nat} {ty : FieldType} (w : (Jvm.Cond.fieldLink own index O n d).before a0 Z = true) (eT : T.heap = h) {a : Addr} {v old : Value} (F : Fld Z h a O n d old) (E : Exa Z h a C) (L : (Jvm.Cond.lays C O n d).before a0 Z = true ∨ ((Jvm.Cond.laysFinal C O n d).before a0 Z = true ∧ own = O ∧ meth.name = "<init>")) (wi : (Jvm.Cond.instantiable C kk).before a0 Z = true) (hn : narrow ty v = v) (hf : fits ty v = true)
    {pc : Nat} {Ls : Array Slot} {rest : List Value} (hd : decode c.code pc = .ok (.putfield index, 3)) {P : Outcome → State → Prop}
    (K : ∀ T' h', Stand p l e R s m args below meth c T' (locs ++ [⟨a, Jvm.RoadKit.slotOf Z O n d⟩]) cells slots → T'.heap = h' → Wr h h' a (Jvm.RoadKit.slotOf Z O n d) v → own_G p e below (T'.setTop (mkF m (pc + 3) Ls rest)) P) (hty : parseFieldDescriptor d = some ty := by decide) : own_G p e below (T.setTop (mkF m pc Ls (v :: .ref a :: rest))) P := by
  obtain ⟨T', h', X', e', W', st⟩ := putF X hx hZ hown (host := "") (Or.inl w) Via.refl eT F E L wi hty hn hf (g := mkF m pc Ls (v :: .ref a :: rest)) rfl rfl hd
  exact oS st (K T' h' X' e' W')
theorem own_cY (X : Stand p l e R s m args below meth c T locs cells slots) (hx : p.tables.exec = Jvm.exec) (hZ : Z.Warmed39 s.vm) (hown : s.vm.findClass own = some m.cls) {K0 : String} (w : (Jvm.Cond.classLink own index K0).before a0 Z = true) (eT : T.heap = h) {a : Addr} (F : Ins Z h a K0 true) {pc : Nat} {Ls : Array Slot} {rest : List Value} (hd : decode c.code pc = .ok (.checkcast index, 3)) {P : Outcome → State → Prop}
    (K : ∀ T', Stand p l e R s m args below meth c T' locs cells slots → T'.heap = h → own_G p e below (T'.setTop (mkF m (pc + 3) Ls (.ref a :: rest))) P) : own_G p e below (T.setTop (mkF m pc Ls (.ref a :: rest))) P := by
  obtain ⟨T', X', e', st⟩ := castY X hx hZ hown w eT F (g := mkF m pc Ls (.ref a :: rest)) rfl rfl hd
  exact oS st (K T' X' e')
variable {pc pc0 pc' : Nat} {Ls l' : Array Slot} {sk : List Value} {P : Outcome → State → Prop}
theorem oAN (X : Stand p l e R s m args below meth c T locs cells slots) (hx : p.tables.exec = Jvm.exec) (hby : c.code = bytes) {k : Fin 4} {v : Value} (hd : decode bytes pc = .ok (.aload_n k, 1)) (hl : Ls[k.val]? = some (.val v)) (hv : v.isRef = true) (K : own_G p e below (T.setTop (mkF m (pc + 1) Ls (v :: sk))) P) : own_G p e below (T.setTop (mkF m pc Ls (sk))) P := oS (fun _ => XS.aloadN X.here hx rfl (hb hby hd) hl hv) K
theorem oAL (X : Stand p l e R s m args below meth c T locs cells slots) (hx : p.tables.exec = Jvm.exec) (hby : c.code = bytes) {k : Nat} {v : Value} (hd : decode bytes pc = .ok (.aload k, 2)) (hl : Ls[k]? = some (.val v)) (hv : v.isRef = true) (K : own_G p e below (T.setTop (mkF m (pc + 2) Ls (v :: sk))) P) : own_G p e below (T.setTop (mkF m pc Ls (sk))) P := oS (fun _ => XS.aload X.here hx rfl (hb hby hd) hl hv) K
theorem oIN (X : Stand p l e R s m args below meth c T locs cells slots) (hx : p.tables.exec = Jvm.exec) (hby : c.code = bytes) {k : Fin 4} {v : Int32} (hd : decode bytes pc = .ok (.iload_n k, 1)) (hl : Ls[k.val]? = some (.val (.int v))) (K : own_G p e below (T.setTop (mkF m (pc + 1) Ls (.int v :: sk))) P) : own_G p e below (T.setTop (mkF m pc Ls (sk))) P := oS (fun _ => XS.iloadN X.here hx rfl (hb hby hd) hl) K
theorem oIL (X : Stand p l e R s m args below meth c T locs cells slots) (hx : p.tables.exec = Jvm.exec) (hby : c.code = bytes) {k : Nat} {v : Int32} (hd : decode bytes pc = .ok (.iload k, 2)) (hl : Ls[k]? = some (.val (.int v))) (K : own_G p e below (T.setTop (mkF m (pc + 2) Ls (.int v :: sk))) P) : own_G p e below (T.setTop (mkF m pc Ls (sk))) P := oS (fun _ => XS.iload X.here hx rfl (hb hby hd) hl) K
theorem oIC (X : Stand p l e R s m args below meth c T locs cells slots) (hx : p.tables.exec = Jvm.exec) (hby : c.code = bytes) {i : Int} (hd : decode bytes pc = .ok (.iconst i, 1)) (K : own_G p e below (T.setTop (mkF m (pc + 1) Ls (.int (Int32.ofInt i) :: sk))) P) : own_G p e below (T.setTop (mkF m pc Ls (sk))) P := oS (fun _ => XS.iconst X.here hx rfl (hb hby hd) ) K
theorem oIS (X : Stand p l e R s m args below meth c T locs cells slots) (hx : p.tables.exec = Jvm.exec) (hby : c.code = bytes) {k : Nat} {x : Int32} (hd : decode bytes pc = .ok (.istore k, 2)) (hl : storeLocals Ls k (.int x) = some l') (K : own_G p e below (T.setTop (mkF m (pc + 2) l' (sk))) P) : own_G p e below (T.setTop (mkF m pc Ls (.int x :: sk))) P := oS (fun _ => XS.istore X.here hx rfl (hb hby hd) rfl hl) K
theorem oISN (X : Stand p l e R s m args below meth c T locs cells slots) (hx : p.tables.exec = Jvm.exec) (hby : c.code = bytes) {k : Fin 4} {x : Int32} (hd : decode bytes pc = .ok (.istore_n k, 1)) (hl : storeLocals Ls k.val (.int x) = some l') (K : own_G p e below (T.setTop (mkF m (pc + 1) l' (sk))) P) : own_G p e below (T.setTop (mkF m pc Ls (.int x :: sk))) P := oS (fun _ => XS.istoreN X.here hx rfl (hb hby hd) rfl hl) K
theorem oAS (X : Stand p l e R s m args below meth c T locs cells slots) (hx : p.tables.exec = Jvm.exec) (hby : c.code = bytes) {k : Nat} {x : Value} (hd : decode bytes pc = .ok (.astore k, 2)) (hv : x.isRef = true) (hl : storeLocals Ls k x = some l') (K : own_G p e below (T.setTop (mkF m (pc + 2) l' (sk))) P) : own_G p e below (T.setTop (mkF m pc Ls (x :: sk))) P := oS (fun _ => XS.astore X.here hx rfl (hb hby hd) rfl hv hl) K
theorem oASN (X : Stand p l e R s m args below meth c T locs cells slots) (hx : p.tables.exec = Jvm.exec) (hby : c.code = bytes) {k : Fin 4} {x : Value} (hd : decode bytes pc = .ok (.astore_n k, 1)) (hv : x.isRef = true) (hl : storeLocals Ls k.val x = some l') (K : own_G p e below (T.setTop (mkF m (pc + 1) l' (sk))) P) : own_G p e below (T.setTop (mkF m pc Ls (x :: sk))) P := oS (fun _ => XS.astoreN X.here hx rfl (hb hby hd) rfl hv hl) K
theorem oNI (X : Stand p l e R s m args below meth c T locs cells slots) (hx : p.tables.exec = Jvm.exec) (hby : c.code = bytes) {cd : ClassFile.Cond} {o : Int} {x y : Int32} (hd : decode bytes pc = .ok (.if_icmp cd o, 3)) (hc : if_icmp.holds cd x y = false) (K : own_G p e below (T.setTop (mkF m (pc + 3) Ls (sk))) P) : own_G p e below (T.setTop (mkF m pc Ls (.int y :: .int x :: sk))) P := oS (fun _ => XS.icmpNo X.here hx rfl (hb hby hd) rfl hc) K
theorem oN0 (X : Stand p l e R s m args below meth c T locs cells slots) (hx : p.tables.exec = Jvm.exec) (hby : c.code = bytes) {cd : ClassFile.Cond} {o : Int} {x : Int32} (hd : decode bytes pc = .ok (.ifCond cd o, 3)) (hc : ifCond.holds cd x = false) (K : own_G p e below (T.setTop (mkF m (pc + 3) Ls (sk))) P) : own_G p e below (T.setTop (mkF m pc Ls (.int x :: sk))) P := oS (fun _ => XS.ifNo X.here hx rfl (hb hby hd) rfl hc) K
theorem oYI (X : Stand p l e R s m args below meth c T locs cells slots) (hx : p.tables.exec = Jvm.exec) (hby : c.code = bytes) {cd : ClassFile.Cond} {o : Int} {x y : Int32} (hd : decode bytes pc0 = .ok (.if_icmp cd o, 3)) (hc : if_icmp.holds cd x y = true) (K : own_G p e below (T.setTop (mkF m pc' Ls sk)) P) (hpc : pc = pc0 := by rfl) (ho : 0 ≤ (pc0 : Int) + o := by decide) (hp : ((pc0 : Int) + o).toNat = pc' := by decide) : own_G p e below (T.setTop (mkF m pc Ls (.int y :: .int x :: sk))) P := oS (fun _ => XS.icmpYes X.here hx rfl hpc (by subst hpc; exact hb hby hd) rfl hc ho hp) K
theorem oY0 (X : Stand p l e R s m args below meth c T locs cells slots) (hx : p.tables.exec = Jvm.exec) (hby : c.code = bytes) {cd : ClassFile.Cond} {o : Int} {x : Int32} (hd : decode bytes pc0 = .ok (.ifCond cd o, 3)) (hc : ifCond.holds cd x = true) (K : own_G p e below (T.setTop (mkF m pc' Ls sk)) P) (hpc : pc = pc0 := by rfl) (ho : 0 ≤ (pc0 : Int) + o := by decide) (hp : ((pc0 : Int) + o).toNat = pc' := by decide) : own_G p e below (T.setTop (mkF m pc Ls (.int x :: sk))) P := oS (fun _ => XS.ifYes X.here hx rfl hpc (by subst hpc; exact hb hby hd) rfl hc ho hp) K
theorem oGO (X : Stand p l e R s m args below meth c T locs cells slots) (hx : p.tables.exec = Jvm.exec) (hby : c.code = bytes) {o : Int} (hd : decode bytes pc0 = .ok (.goto o, 3)) (K : own_G p e below (T.setTop (mkF m pc' Ls sk)) P) (hpc : pc = pc0 := by rfl) (ho : 0 ≤ (pc0 : Int) + o := by decide) (hp : ((pc0 : Int) + o).toNat = pc' := by decide) : own_G p e below (T.setTop (mkF m pc Ls (sk))) P := oS (fun _ => XS.goto X.here hx rfl hpc (by subst hpc; exact hb hby hd)  ho hp) K
end OwnBrief
section OwnSup
variable {p : Program} {l : Launch} {e : Env} {R : Room} {s : State} {m : MethodId} {args : Array Value} {below : List Frame} {meth : Method} {c : Code} {T : State} {locs : List Loc} {cells slots : Nat} {Z : State} {a0 : Array Value} {h : Heap}
variable {own : String} {index : Nat} {y : MethodName} {bytes : ByteArray} {maxL : Nat} {ret : Option FieldType} {rm : Room} {W : Nat} {as' : Array Value} {Q : Option Value → Heap → List Loc → Prop}
theorem own_same {y : MethodName} (w2 : (Jvm.Cond.declares y).before a0 Z = true) (nf : NotFace Z y) (hy : y.cls ≠ "java/lang/invoke/MethodHandle" ∧ y.cls ≠ "java/lang/invoke/VarHandle") : (Jvm.Cond.sameMethod y.cls y.cls y.name y.desc).before a0 Z = true := by
  obtain ⟨r0, r, hn, hrm, hst, hsig⟩ := Cond.declares_spec w2
  obtain ⟨kr, hkr, hni⟩ := nf r0 hn
  have hc := findClass_of_methodNamed hn
  have hf := State.methodFound?_of_named hn hy
  have hn' : Z.methodNamed? ⟨y.cls, y.name, y.desc⟩ = some r0 := hn
  simp [Cond.before, Cond.holds, Cond.value, hc, hf, hn', hkr, hni]
theorem own_callX (X : Stand p l e R s m args below meth c T locs cells slots) (hx : p.tables.exec = Jvm.exec) (hZ : Z.Warmed39 s.vm) (hown : s.vm.findClass own = some m.cls) (eT : T.heap = h) {C : String} {b : Addr}
    (w1 : (Jvm.Cond.methodLink own index y).before a0 Z = true) (w2 : (Jvm.Cond.declares y).before a0 Z = true) (nf : NotFace Z y) (w5 : (Jvm.Cond.instanceMethod y).before a0 Z = true) (w8 : (Jvm.Cond.superclass own y.cls).before a0 Z = true) (hn : y.name ≠ "<init>") (w6 : (Jvm.Cond.initialized y.cls).before a0 Z = true) (w4 : (Jvm.Cond.code y bytes maxL ret).before a0 Z = true) (hy : y.cls ≠ "java/lang/invoke/MethodHandle" ∧ y.cls ≠ "java/lang/invoke/VarHandle")
    (E : Exa Z h b C) (hM : own_Met l Z h y bytes maxL ret [] rm as' Q rm.cells rm.slots)
    (hf : rm.frames + 1 ≤ R.frames) (hl : W + (maxL + 11) + rm.locals ≤ R.locals) (hc : cells + rm.cells ≤ R.cells) (hsl : slots + rm.slots ≤ R.slots)
    {g : JFrame} (hg : g.method = m) (hsize : g.locals.size = c.maxLocals) {argsL rest : List Value} (has : (.ref b :: argsL).toArray = as') (hlen : ∀ sig, parseMethodDescriptor y.desc = some sig → argsL.length = sig.parameters.length)
    (hstack : g.stack = argsL.reverse ++ .ref b :: rest) (hW : 2 * g.monitorRoom + (rest.map fun v => v.category).sum ≤ W) (hd : decode c.code g.pc = .ok (.invokespecial index, 3)) :
    own_After p l e R s m args below meth c T locs (cells + rm.cells) (slots + rm.slots) g rest Q := by
  obtain ⟨v, vm1, ⟨T', L', k', n'⟩, -, X', ⟨Lc, hQ, l1, y1, z1⟩, st⟩ := superBack X hx hZ hown w1 (own_same w2 nf hy) w5 w8 hn (backOf (W := W) hM hZ w4 w6 hf hl) eT (Ins.self E) hg hsize w4 hlen hstack hW hd (fun _ _ => ⟨has, eT, hc, hsl⟩)
  dsimp only [Pt.U, Pt.locs, Pt.cells, Pt.slots] at X' l1 y1 z1 st hQ
  subst l1 y1 z1
  exact ⟨T', _, v, Lc, X', rfl, hQ, fun _ k => st.trans k⟩
end OwnSup
section OwnBriefX
variable {p : Program} {l : Launch} {e : Env} {R : Room} {s : State} {m : MethodId} {args : Array Value} {below : List Frame} {meth : Method} {c : Code} {T : State} {locs : List Loc} {cells slots : Nat} {Z : State} {a0 : Array Value} {h : Heap}
variable {own : String} {index : Nat} {y : MethodName} {bytes : ByteArray} {maxL : Nat} {ret : Option FieldType} {rm : Room} {W : Nat} {as' : Array Value} {Q : Option Value → Heap → List Loc → Prop}
theorem own_cX (X : Stand p l e R s m args below meth c T locs cells slots) (hx : p.tables.exec = Jvm.exec) (hZ : Z.Warmed39 s.vm) (hown : s.vm.findClass own = some m.cls) (eT : T.heap = h) {C : String} {b : Addr}
    (w1 : (Jvm.Cond.methodLink own index y).before a0 Z = true) (w2 : (Jvm.Cond.declares y).before a0 Z = true) (nf : NotFace Z y) (w5 : (Jvm.Cond.instanceMethod y).before a0 Z = true) (w8 : (Jvm.Cond.superclass own y.cls).before a0 Z = true) (hn : y.name ≠ "<init>") (w6 : (Jvm.Cond.initialized y.cls).before a0 Z = true) (w4 : (Jvm.Cond.code y bytes maxL ret).before a0 Z = true) (hy : y.cls ≠ "java/lang/invoke/MethodHandle" ∧ y.cls ≠ "java/lang/invoke/VarHandle")
    (E : Exa Z h b C) (hM : own_Met l Z h y bytes maxL ret [] rm as' Q rm.cells rm.slots)
    (argsL rest : List Value) {k pc : Nat} {Ls : Array Slot} (hml : c.maxLocals = k) (hlen : ∀ sig, parseMethodDescriptor y.desc = some sig → argsL.length = sig.parameters.length) (hd : decode c.code pc = .ok (.invokespecial index, 3)) {P : Outcome → State → Prop}
    (K : ∀ T' h' v L', Stand p l e R s m args below meth c T' (locs ++ L') (cells + rm.cells) (slots + rm.slots) → T'.heap = h' → Q v h' L' → own_G p e below (T'.setTop (mkF m (pc + 3) Ls (v.toList ++ rest))) P)
    (has : (.ref b :: argsL).toArray = as' := by rfl) (hs : Ls.size = k := by rfl) (hW : (rest.map fun v => v.category).sum ≤ W := by exact Nat.le_of_eq rfl) (hf : rm.frames + 1 ≤ R.frames := by decide) (hl : W + (maxL + 11) + rm.locals ≤ R.locals := by decide) (hc : cells + rm.cells ≤ R.cells := by decide) (hsl : slots + rm.slots ≤ R.slots := by decide) :
    own_G p e below (T.setTop (mkF m pc Ls (argsL.reverse ++ .ref b :: rest))) P := by
  obtain ⟨T', h', v, L', X', e', q, st⟩ := own_callX X hx hZ hown eT w1 w2 nf w5 w8 hn w6 w4 hy E hM hf hl hc hsl (g := mkF m pc Ls (argsL.reverse ++ .ref b :: rest)) rfl (by rw [hml]; exact hs) has hlen rfl (by show 2 * 0 + _ ≤ _; omega) hd
  exact oS st (K T' h' v L' X' e' q)
end OwnBriefX
section OwnThr
variable {p : Program} {l : Launch} {e : Env} {R : Room} {s : State} {m : MethodId} {args : Array Value} {below : List Frame} {meth : Method} {c : Code} {T : State} {locs : List Loc} {cells slots : Nat} {Z : State} {a0 : Array Value} {h : Heap}
abbrev own_rc : String := "com/example/keelrate/keelrate/InputRefusedException"
abbrev own_ste : String := "[Ljava/lang/StackTraceElement;"
theorem own_ff {C n d : String} {c c' i i' : Nat} {k k' : Class} {f f' : Field} (h : s.fieldFound? C n d = some (c, k, i, f)) (h' : s.fieldFound? C n d = some (c', k', i', f')) : c = c' ∧ k = k' ∧ i = i' ∧ f = f' := by
  have q := Option.some.inj (h.symm.trans h')
  simp only [Prod.mk.injEq] at q
  exact q
theorem own_tc (hw : own_W a0 Z) (hZ : Z.Warmed39 s.vm) {pl : Platform} (howns : pl.frameOwnsMonitors = true) (hfin : pl.finalization = false) (hpl : pl.magicAccessors = ({} : Platform).magicAccessors) :
    ∃ T : ThrowableC, T.Links pl s ∧ s.vm.findClass Jvm.Bundle.tN = some T.cT ∧ s.methodNamed? Jvm.Bundle.tFill = some T.fill ∧ s.methodNamed? Jvm.Bundle.tFill0 = some T.fill0 ∧ s.fieldFound? Jvm.Bundle.tN "stackTrace" Jvm.Bundle.steD = some (T.cT, T.kT, T.i17, T.fStack) ∧ s.fieldFound? Jvm.Bundle.tN "UNASSIGNED_STACK" Jvm.Bundle.steD = some (T.cT, T.kT, T.i13, T.fUnassigned) ∧ T.fStack.name = "stackTrace" ∧ T.fStack.type = .array (.object "java/lang/StackTraceElement") := by
  obtain ⟨⟨c, i0⟩, meth0, hn0, hm0, hnat0, hcode0, hlocks0, hsig0⟩ := Cond.native_spec (x := Jvm.Bundle.tFill0) (mvT (args := #[]) hZ (hw 172))
  have hc : s.vm.findClass Jvm.Bundle.tN = some c := findClass_of_methodNamed hn0
  obtain ⟨k, hk, hname⟩ := Vm.findClass_spec hc
  have hboot := Vm.findClass_boot hc hk
  have hinit := Cond.initialized_spec hc hk (mvT (args := #[]) hZ (hw 151))
  obtain ⟨_, k1, _, _, hk1, _, _, hord, _, hni⟩ := Cond.superclass_spec (sup := "java/lang/Object") hc (mvT (args := #[]) hZ (hw 169))
  have e1 : k = k1 := Option.some.inj (hk.symm.trans hk1)
  subst e1
  obtain ⟨iF, methF, hnF, hmF, hatF, hstF, habF, -, -⟩ := Cond.ownMethod (x := Jvm.Bundle.tFill) hc hk (mvT (args := #[]) hZ (hw 164))
  obtain ⟨methF', cF, hmF', hcF, hbF, hlF, hrF, hlkF, -, hsigF⟩ := Cond.codeSync_spec (bytes := jdk_78_method_18_code) (maxLocals := 1) (ret := some (.object "java/lang/Throwable")) hnF (mvT (args := #[]) hZ (hw 170))
  have e2 : methF = methF' := Option.some.inj (hmF.symm.trans hmF')
  subst e2
  obtain ⟨i0', meth0', hn0', hm0', hat0, hst0, hab0, hnm0, hds0⟩ := Cond.ownMethod (x := Jvm.Bundle.tFill0) hc hk (mvT (args := #[]) hZ (hw 171))
  have e3 : i0 = i0' := by have := Option.some.inj (hn0.symm.trans hn0'); simpa using this
  subst e3
  have e4 : meth0 = meth0' := Option.some.inj (hm0.symm.trans hm0')
  subst e4
  obtain ⟨iZ, methZ, hnZ, hmZ, hatZ, -, -, -, -⟩ := Cond.ownMethod (x := Jvm.Bundle.tInit0) hc hk (mvT (args := #[]) hZ (hw 173))
  obtain ⟨methZ', cZ, hmZ', hcZ, hbZ, hlZ, -, hlkZ, -, -⟩ := Cond.code_spec (bytes := jdk_78_method_1_code) (maxLocals := 1) (ret := none) hnZ (mvT (args := #[]) hZ (hw 174))
  have e5 : methZ = methZ' := Option.some.inj (hmZ.symm.trans hmZ')
  subst e5
  obtain ⟨mO, methO, hnO, hmO, hstO, habO⟩ := Cond.instanceMethod_spec (x := Jvm.Bundle.oInit) (mvT (args := #[]) hZ (hw 12))
  obtain ⟨methO', cO, hmO', hcO, hbO, hlO, -, hlkO, -, hsigO⟩ := Cond.code_spec (bytes := object_method_1_code) (maxLocals := 1) (ret := none) hnO (mvT (args := #[]) hZ (hw 13))
  have e6 : methO = methO' := Option.some.inj (hmO.symm.trans hmO')
  subst e6
  obtain ⟨kO, hkO, hnameO⟩ := Vm.findClass_spec (findClass_of_methodNamed hnO)
  obtain ⟨hnmO, hdsO⟩ := name_of_methodNamed hnO hmO
  obtain ⟨ci1, n1, cf, hl1, hr1, hcf, hp1⟩ := Cond.linkedMethod (index := 1) hc hk hnO (mvT (args := #[]) hZ (hw 153)) pl hpl
  obtain ⟨ci27, n27, cf', hl27, hr27, hcf', hp27⟩ := Cond.linkedMethod (index := 27) hc hk hnF (mvT (args := #[]) hZ (hw 162)) pl hpl
  have e7 : cf = cf' := Option.some.inj (hcf.symm.trans hcf')
  subst e7
  obtain ⟨ci202, n202, cf', hl202, hr202, hcf', hp202⟩ := Cond.linkedMethod (index := 202) hc hk hn0 (mvT (args := #[]) hZ (hw 175)) pl hpl
  have e7 : cf = cf' := Option.some.inj (hcf.symm.trans hcf')
  subst e7
  obtain ⟨ci7, i7, f7, hk7, hg7, ha7, hs7, hf7, hn7, ht7, hff7⟩ := Cond.ownField (C' := Jvm.Bundle.tN) (C := Jvm.Bundle.tN) (name := "cause") (desc := "Ljava/lang/Throwable;") (index := 7) (t := .object "java/lang/Throwable") hc hk (by decide +kernel) (mvT (args := #[]) hZ (hw 154)) (mvT (args := #[]) hZ (hw 176)) pl hpl
  obtain ⟨ci17, i17, f17, hk17, hg17, ha17, hs17, hf17, hn17, ht17, hff17⟩ := Cond.ownField (C' := Jvm.Bundle.tN) (C := Jvm.Bundle.tN) (name := "stackTrace") (desc := own_ste) (index := 17) (t := .array (.object "java/lang/StackTraceElement")) hc hk (by decide +kernel) (mvT (args := #[]) hZ (hw 157)) (mvT (args := #[]) hZ (hw 177)) pl hpl
  obtain ⟨ci24, i24, f24, hk24, hg24, ha24, hs24, hf24, hn24, ht24, hff24⟩ := Cond.ownField (C' := own_rc) (C := Jvm.Bundle.tN) (name := "suppressedExceptions") (desc := "Ljava/util/List;") (index := 24) (t := .object "java/util/List") hc hk (by decide +kernel) (mvT (args := #[]) hZ (hw 160)) (mvT (args := #[]) hZ (hw 161)) pl hpl
  obtain ⟨ci13, c13, k13, i13, f13, hff13, hk13, hg13⟩ := Cond.fieldLink_spec (index := 13) (ref := Jvm.Bundle.tN) (name := "UNASSIGNED_STACK") (desc := own_ste) hc (mvT (args := #[]) hZ (hw 156)) pl hpl
  obtain ⟨cy, ky, iy, fy, a13, cely, y1, y2, hsy, y4, -⟩ := Cond.laysStatic_spec (owner := Jvm.Bundle.tN) (name := "UNASSIGNED_STACK") (desc := own_ste) (hw 182)
  obtain ⟨ky', y5, y6⟩ := State.fieldFound?_setVm (s := Z) hZ.alike y2
  obtain ⟨w1, w2, w3, w4⟩ := own_ff hff13 (show s.fieldFound? Jvm.Bundle.tN "UNASSIGNED_STACK" own_ste = _ from y5)
  have w5 : c = c13 := Option.some.inj (hc.symm.trans (show s.vm.findClass Jvm.Bundle.tN = some _ by rw [hZ.alike.findClass, w1]; exact y1))
  subst w5
  obtain ⟨y7, ha13⟩ := State.fieldFound?_spec hff13
  have w6 : k = k13 := Option.some.inj (hk.symm.trans y7)
  subst w6
  have hsta13 : k.statics = some a13 := by rw [w2, y6]; exact y4
  have hs13 : f13.isStatic = true := by rw [w4]; exact hsy
  obtain ⟨ci20, c20, k20, i20, f20, hff20, hk20, hg20⟩ := Cond.fieldLink_spec (index := 20) (ref := Jvm.Bundle.tN) (name := "SUPPRESSED_SENTINEL") (desc := "Ljava/util/List;") hc (mvT (args := #[]) hZ (hw 159)) pl hpl
  obtain ⟨cy, ky, iy, fy, a20, cely, y1, y2, hsy, y4, -⟩ := Cond.laysStatic_spec (owner := Jvm.Bundle.tN) (name := "SUPPRESSED_SENTINEL") (desc := "Ljava/util/List;") (hw 183)
  obtain ⟨ky', y5, y6⟩ := State.fieldFound?_setVm (s := Z) hZ.alike y2
  obtain ⟨w1, w2, w3, w4⟩ := own_ff hff20 (show s.fieldFound? Jvm.Bundle.tN "SUPPRESSED_SENTINEL" "Ljava/util/List;" = _ from y5)
  have w5 : c = c20 := Option.some.inj (hc.symm.trans (show s.vm.findClass Jvm.Bundle.tN = some _ by rw [hZ.alike.findClass, w1]; exact y1))
  subst w5
  obtain ⟨y7, ha20⟩ := State.fieldFound?_spec hff20
  have w6 : k = k20 := Option.some.inj (hk.symm.trans y7)
  subst w6
  have hsta20 : k.statics = some a20 := by rw [w2, y6]; exact y4
  have hs20 : f20.isStatic = true := by rw [w4]; exact hsy
  obtain ⟨_, _, cM, kM, iM, fM, _, _, hffM, hsM, hfM, _⟩ := Cond.lays_spec (cls := Jvm.Bundle.tN) (owner := Jvm.Bundle.tN) (name := "detailMessage") (desc := "Ljava/lang/String;") (mvT (args := #[]) hZ (hw 178))
  obtain ⟨_, _, _, _, _, g17, v1, _, v2, _, _, _, _, d17, v3, _, v4, _⟩ := Cond.lays_spec (cls := own_rc) (owner := Jvm.Bundle.tN) (name := "stackTrace") (desc := own_ste) (mvT (args := #[]) hZ (hw 158))
  obtain ⟨_, _, _, _, _, g24, u1, _, u2, _, _, _, _, d24, u3, _, u4, _⟩ := Cond.lays_spec (cls := own_rc) (owner := Jvm.Bundle.tN) (name := "suppressedExceptions") (desc := "Ljava/util/List;") (mvT (args := #[]) hZ (hw 161))
  obtain ⟨-, -, -, e17⟩ := own_ff hff17 v2
  subst e17
  obtain ⟨-, -, -, e24⟩ := own_ff hff24 u2
  subst e24
  cases Option.some.inj (v1.symm.trans u1)
  have hapart : f17.slot ≠ f24.slot := fun he => by
    rw [he] at v3
    cases Option.some.inj (v3.symm.trans u3)
    have : ("stackTrace" : String) = "suppressedExceptions" := by rw [← hn17, ← hn24, ← v4, ← u4]
    exact absurd this (by decide)
  have pF : methF.sig.parameters = [] := by
    have : (parseMethodDescriptor Jvm.Bundle.tFill.desc).map (·.parameters) = some [] := by decide +kernel
    rw [hsigF] at this; simpa using this
  have p0 : meth0.sig.parameters = [.int] := by
    have : (parseMethodDescriptor Jvm.Bundle.tFill0.desc).map (·.parameters) = some [.int] := by decide +kernel
    rw [hsig0] at this; simpa using this
  have pO : methO.sig.parameters.length = 0 := by
    have : (parseMethodDescriptor Jvm.Bundle.oInit.desc).map (·.parameters) = some [] := by decide +kernel
    rw [hsigO] at this
    have : methO.sig.parameters = [] := by simpa using this
    rw [this]; rfl
  refine ⟨{ cT := c, kT := k, cO := c, aS := a13, fillIdx := iF, fill0Idx := i0, initSIdx := iZ, obj := mO, kObj := kO, methFill := methF, methFill0 := meth0, methInitS := methZ, methObj := methO, codeFill := cF, codeInitS := cZ, codeObj := cO,
            fBack := f7, fDepth := f7, fStack := f17, fCause := f7, fSupp := f24, fMsg := fM, fUnassigned := f13, fSentinel := f20, cfT := cf, ci1 := ci1, n1 := n1, ci27 := ci27, n27 := n27, ci202 := ci202, n202 := n202,
            ci7 := ci7, i7 := i7, ci13 := ci13, i13 := i13, ci17 := ci17, i17 := i17, ci20 := ci20, i20 := i20, ci24 := ci24, i24 := i24 }, ?_, hc, hnF, hn0, hff17, hff13, hn17, ht17⟩
  exact { owns := howns, noFinalization := hfin, cls := hk, name := hname, boot := hboot, notInterface := hni, initialized := hinit, statics := hsta13,
          fillAt := hatF, fillCode := hcF, fillBytes := hbF.trans (by decide +kernel), fillLocals := hlF, fillLocks := hlkF, fillStatic := hstF, fillAbstract := habF, fillReturns := hrF, fillParams := pF,
          fill0At := hat0, fill0Name := hnm0, fill0Desc := hds0, fill0Params := p0, fill0Static := hst0, fill0Native := hnat0, fill0Code := hcode0, fill0Locks := hlocks0, fill0Abstract := hab0,
          stackInstance := hs17, stackNotFinal := hf17, unassignedStatic := hs13,
          objClass := hkO, objClassName := hnameO, objMethod := hmO, objName := hnmO, objStatic := hstO, objAbstract := habO, objFound := by rw [hdsO]; exact lookupSpecial_of_named hnO hmO hstO, objParams := pO,
          objCode := hcO, objBytes := hbO.trans (by decide +kernel), objLocks := hlkO, causeInstance := hs7, causeNotFinal := hf7, sentinelStatic := hs20, suppInstance := hs24, suppNotFinal := hf24, msgInstance := hsM, msgNotFinal := hfM, stackApartSupp := hapart,
          file := hcf, mlink1 := hl1, mright1 := hr1, pool1 := hp1, mlink27 := hl27, mright27 := hr27, pool27 := hp27, mlink202 := hl202, mright202 := hr202, pool202 := hp202,
          link7 := hk7, right7 := hg7, at7 := ha7, link13 := hk13, right13 := hg13, at13 := ha13, link17 := hk17, right17 := hg17, at17 := ha17, link20 := hk20, right20 := hg20, at20 := ha20, link24 := hk24, right24 := hg24, at24 := ha24 }
theorem own_fill (hw : own_W a0 Z) (X : Stand p l e R s m args below meth c T locs cells slots) (hx : p.tables.exec = Jvm.exec) (hl : l.stackTraces = true) (hZ : Z.Warmed39 s.vm) (hown : s.vm.findClass "java/lang/Throwable" = some m.cls) (hTK : s.vm.MethodsKnown) (hBelow : s.vm.FramesKnown below)
    {h0 : Heap} (hh : s.heap = h0) (eT : T.heap = h) {a : Addr} (K0 : Keep h0 h [a]) (hsz : h.size = h0.size) (hlocs : ∀ y ∈ locs, y.base = a)
    (E : Exa Z h a own_rc) (N : Unt h a) {u : Value} (hu : u.isRef = true) (S : Sta Z h "java/lang/Throwable" "UNASSIGNED_STACK" own_ste u) (F1 : Fld Z h a "java/lang/Throwable" "stackTrace" own_ste u) (F2 : Fld Z h a "java/lang/Throwable" "backtrace" "Ljava/lang/Object;" .null) {w : Value} (F3 : Fld Z h a "java/lang/Throwable" "detailMessage" "Ljava/lang/String;" w)
    {pc : Nat} {Ls : Array Slot} (hLs : Ls.size = c.maxLocals) (hd : decode c.code pc = .ok (.invokevirtual 27, 3)) (hf : 3 ≤ R.frames) (hlo : 42 ≤ R.locals) (hc : cells + 1 ≤ R.cells) (hsl : slots + 2752 ≤ R.slots) :
    ∃ (T' : State) (h' : Heap) (L : List Loc), Stand p l e R s m args below meth c T' (locs ++ L) (cells + 1) (slots + 2752) ∧ T'.heap = h' ∧ (∀ y ∈ L, y.base = a) ∧ Keep h h' [a] ∧ Fld Z h' a "java/lang/Throwable" "detailMessage" "Ljava/lang/String;" w ∧ ∀ t, Steps p.tables e below (T'.setTop (mkF m (pc + 3) Ls [.ref a])) t → Steps p.tables e below (T.setTop (mkF m pc Ls [.ref a])) t := by
  have htr : e.platform.stackTraces = true := by rw [X.admits.platform]; exact hl
  have howns : e.platform.frameOwnsMonitors = true := by rw [X.admits.platform]
  have hfin : e.platform.finalization = false := by rw [X.admits.platform]
  have hpl : e.platform.magicAccessors = ({} : Platform).magicAccessors := by rw [X.admits.platform]
  obtain ⟨T₀, LK, hfT, hfill, hfill0, hffS, hffU, hnS, htS⟩ := own_tc hw hZ howns hfin hpl
  have E0 := E
  obtain ⟨cell, kc, h1, h2, h3, h4, h5⟩ := E
  obtain ⟨c2, u1, u2, u3⟩ := N
  cases h1.symm.trans u1
  obtain ⟨c4, k2, i1, i2, i3, -⟩ := Cond.instantiable_spec (show (Jvm.Cond.instantiable own_rc 6).before a0 Z = true from hw 27)
  cases h2.symm.trans i1
  cases h3.symm.trans i2
  obtain ⟨kX, hk, hke⟩ := hZ.alike.2.2 _ _ h3
  have hfound : s.vm.findClass own_rc = some cell.cls := by rw [hZ.alike.findClass]; exact h2
  have hord : kX.kind = .ordinary := by rw [hke]; exact i3
  have hsz' : cell.slots.size = kX.instanceTypes.size := by rw [hke]; exact h5 i3
  obtain ⟨cfU, iU, kU, fU, st, cellS, g1, g2, g3, g4, g5, g6, g7⟩ := S
  obtain ⟨kU', q1, q2⟩ := State.fieldFound?_setVm (s := Z) hZ.alike g1
  obtain ⟨-, v2, -, v4⟩ := own_ff hffU (show s.fieldFound? Jvm.Bundle.tN "UNASSIGNED_STACK" Jvm.Bundle.steD = _ from q1)
  have hst : st = T₀.aS := Option.some.inj ((show T₀.kT.statics = some st by rw [v2, q2]; exact g4).symm.trans LK.statics)
  have g7' : cellS.slots[T₀.fUnassigned.slot]? = some u := by rw [v4]; exact g7
  have hneS : T₀.aS ≠ a := fun q => by
    rw [← hst] at q; subst q
    cases h1.symm.trans g5
    rw [u2] at g6; cases g6
  have hsel0 : selectMethod e.platform s.vm cell.cls T₀.fill0 = .method T₀.fill0 := by
    obtain ⟨c2, r2, m2, q1, q2, q3, q4, -⟩ := Cond.selects_spec (show (Jvm.Cond.selects own_rc Jvm.Bundle.tFill0 Jvm.Bundle.tFill0).before #[] s = true from mvT hZ (hw 184))
    cases Option.some.inj (q1.symm.trans hfound)
    cases Option.some.inj (q2.symm.trans (State.methodFound?_of_named hfill0 (by decide)))
    cases Option.some.inj (q3.symm.trans hfill0)
    rw [Launch.admits_selectMethod X.admits]; exact q4
  obtain ⟨ci198, i198, fB, hk198, hg198, ha198, hsB, -, hnB, htB, hffB⟩ := Cond.ownField (C' := Jvm.Bundle.tN) (C := Jvm.Bundle.tN) (name := "backtrace") (desc := "Ljava/lang/Object;") (index := 198) (t := .object "java/lang/Object") hfT LK.cls (by decide +kernel) (mvT (args := #[]) hZ (hw 180)) (mvT (args := #[]) hZ (hw 181)) e.platform hpl
  obtain ⟨cD1, kD1, cD, kD, iD, fD, -, -, hffD, hstD, -⟩ := Cond.lays_spec (cls := own_rc) (owner := Jvm.Bundle.tN) (name := "depth") (desc := "I") (mvT (args := #[]) hZ (hw 187))
  cases Option.some.inj ((Cond.lays_declared (cls := own_rc) (mvT (args := #[]) hZ (hw 187)) hffD).symm.trans hfT)
  obtain ⟨hkD, hatD⟩ := State.fieldFound?_spec hffD
  cases Option.some.inj (hkD.symm.trans LK.cls)
  obtain ⟨hnD, htD⟩ := State.fieldFound?_type hffD (t := .int) (by decide +kernel)
  have hfb := Cond.soleField_find (name := "backtrace") hfT LK.cls (mvT (args := #[]) hZ (hw 167)) ha198 hnB hsB
  have hfd := Cond.soleField_find (name := "depth") hfT LK.cls (mvT (args := #[]) hZ (hw 168)) hatD hnD hstD
  obtain ⟨comp, cO, kO, -, -, hkO, hkindO, hO⟩ := Cond.arrayOver_spec (show (Jvm.Cond.arrayOver (.object "java/lang/Object")).before a0 s = true from Cond.arrayOver_alike hZ.alike (hw 166))
  obtain ⟨tyS, dS, hdS, hdnS⟩ := Cond.laysAt hfound hk hffS (mvT (args := #[]) hZ (hw 158))
  obtain ⟨tyB, dB, hdB, hdnB⟩ := Cond.laysAt hfound hk hffB (mvT (args := #[]) hZ (hw 186))
  obtain ⟨tyD, dD, hdD, hdnD⟩ := Cond.laysAt hfound hk hffD (mvT (args := #[]) hZ (hw 187))
  obtain ⟨cM, cfM, kM, iM, fM, m1, m2, m3, m4, m5, m6, m7⟩ := F3
  cases h1.symm.trans m1
  obtain ⟨kM', qm1, qm2⟩ := State.fieldFound?_setVm (s := Z) hZ.alike m2
  have hffM : s.fieldFound? Jvm.Bundle.tN "detailMessage" "Ljava/lang/String;" = some (cfM, kM', iM, fM) := qm1
  obtain ⟨tyM, dM, hdM, hdnM⟩ := Cond.laysAt hfound hk hffM (mvT (args := #[]) hZ (hw 185))
  have nmM : fM.name = "detailMessage" := (State.fieldFound?_type hffM (t := .object "java/lang/String") (by decide +kernel)).1
  have mS := Cond.laysApart hdM hdS hdnM hdnS (by rw [nmM, hnS]; decide)
  have mB := Cond.laysApart hdM hdB hdnM hdnB (by rw [nmM, hnB]; decide)
  have mD := Cond.laysApart hdM hdD hdnM hdnD (by rw [nmM, hnD]; decide)
  obtain ⟨cB, cfB, kB, iB, fB', b1, b2, -, -, -, -, b7⟩ := F2
  cases h1.symm.trans b1
  obtain ⟨kB', qb1, -⟩ := State.fieldFound?_setVm (s := Z) hZ.alike b2
  obtain ⟨-, -, -, v5⟩ := own_ff hffB (show s.fieldFound? Jvm.Bundle.tN "backtrace" "Ljava/lang/Object;" = _ from qb1)
  have b7' : cell.slots[fB.slot]? = some .null := by rw [v5]; exact b7
  obtain ⟨cS, cfS, kS, iS, fS', s1, s2, -, -, -, -, s7⟩ := F1
  cases h1.symm.trans s1
  obtain ⟨kS', qs1, -⟩ := State.fieldFound?_setVm (s := Z) hZ.alike s2
  obtain ⟨-, -, -, v6⟩ := own_ff hffS (show s.fieldFound? Jvm.Bundle.tN "stackTrace" Jvm.Bundle.steD = _ from qs1)
  have s7' : cell.slots[T₀.fStack.slot]? = some u := by rw [v6]; exact s7
  have tk : ∀ {f : Field} {v : Value}, kX.instanceTypes[f.slot]? = some f.type → fits f.type v = true → Jvm.Takes s cell f v := fun {f v} h1 h2 => by
    obtain ⟨q1, q2⟩ := Takes.of_laid (v := v) hk hord h1 h2
    exact ⟨by rw [hsz']; simpa using q1, by rw [u2]; exact q2⟩
  obtain ⟨vr, vm6, ⟨T6, L6, c6, n6⟩, hW6, X6, ⟨hv6, C6, n, hn, hD6, r1, r2, r3, r4, hL6, hc6, hn6'⟩, st27⟩ := X.virtualBack hx (own := Jvm.Bundle.tN) (C := own_rc) (index := 27) (y := Jvm.Bundle.tFill) (z := Jvm.Bundle.tFill) hown (mvT hZ (hw 162)) (mvT hZ (hw 163)) (notFace_of_selects (mvT (args := #[]) hZ (hw 165))) (mvT hZ (hw 165)) (mvT hZ (hw 164)) (by decide)
    (Jvm.Free.Exc.fillPaysAny (l := l) (W := 0) hx htr T₀ LK hfill (u0 := ⟨u, hu⟩) (self := a) (cell := cell) (cellS := cellS) (fun _ => by rw [u2]; simp) (by rw [u2]; simp) (by rw [u3]) (by rw [u3]) s7' hsel0 hneS (fun q => by rw [q] at g6; cases g6) g7' (tk tyS (by rw [htS]; exact Jvm.fits_refV_array _ ⟨u, hu⟩))
      ⟨{ ci198 := ci198, i198 := i198, fBack := fB }, ⟨hk198, hg198, ha198, hsB⟩, b7'⟩ hTK hBelow hfT hO hkO hkindO hfb hfd (fun x => tk tyB (by rw [htB]; rfl)) (fun x => tk tyD (by rw [htD]; rfl)) (by omega) (by omega))
    (b := a) (cB := cell.cls) hfound ⟨cell, by rw [eT]; exact h1, rfl, by rw [u2]; rfl⟩ (g := mkF m pc Ls [.ref a]) rfl hLs (Steps.refl _) (argsL := []) (rest := [])
    (fun sig h => by rw [show parseMethodDescriptor Jvm.Bundle.tFill.desc = some ⟨[], some (.object Jvm.Bundle.tN)⟩ from by decide +kernel] at h; rw [← Option.some.inj h]; rfl) rfl (by show 2 * 0 + 0 ≤ 0; decide) hd
    (fun vmx hWx => ⟨rfl, hc, hsl, by show T.heap[a]? = some cell; rw [eT]; exact h1, by show T.heap[T₀.aS]? = some cellS; rw [eT, ← hst]; exact g5⟩)
  dsimp only [Pt.U, Pt.locs, Pt.cells, Pt.slots] at X6 hD6 hL6 hc6 hn6' st27
  subst hv6 hL6 hc6 hn6'
  have hb : ∀ y ∈ locs ++ [⟨a, fB.slot⟩, ⟨a, fD.slot⟩, ⟨a, T₀.fStack.slot⟩], y.base = a := fun y hy => by
    rcases List.mem_append.mp hy with q | q
    · exact hlocs y q
    · simp only [List.mem_cons, List.not_mem_nil, or_false] at q
      rcases q with rfl | rfl | rfl <;> rfl
  refine ⟨T6, T6.heap, _, X6.more (Nat.le_refl _) (Nat.add_le_add_left hn _), rfl, fun y hy => hb y (List.mem_append_right _ hy), ?_, ⟨C6, cfM, kM, iM, fM, hD6, m2, m3, by rw [r2]; exact m4, by rw [r2]; exact m5, by rw [r1]; exact m6, (r4 _ mB mD mS).trans m7⟩, fun _ k => st27.trans k⟩
  have hsame : s.heap.size ≤ T6.heap.size := X6.same.2.1
  have hcells : ∀ (y : Addr) (cy : Cell), y ≠ a → h[y]? = some cy → T6.heap[y]? = some cy := fun y cy hne hy => by
    have hlt : y < h0.size := by rw [← hsz]; exact (Array.getElem?_eq_some_iff.mp hy).1
    have q0 : h0[y]? = some h0[y] := Array.getElem?_eq_getElem hlt
    have q1 := K0.2.1 y _ q0 (by simpa using hne)
    have q2 : h0[y] = cy := Option.some.inj (q1.symm.trans hy)
    obtain ⟨c', w1, w2, w3, w4⟩ := X6.same.2.2.2.2.2 y cy (by rw [hh, q0, q2])
    have w5 : c'.slots = cy.slots := Array.ext_getElem? fun i => w4 i fun hm => hne (hb _ hm)
    have w6 : T6.heap[y]? = some c' := w1
    rw [w6, w2, w5]
  refine ⟨by rw [hsz, ← hh]; exact hsame, fun y cy hy hne => hcells y cy (by simpa using hne) hy, fun y cy hy => ?_⟩
  by_cases q : y = a
  · subst q
    cases h1.symm.trans hy
    exact ⟨C6, hD6, r1, r2, r3⟩
  · exact ⟨cy, hcells y cy q hy, rfl, rfl, rfl⟩
end OwnThr
section OwnK
variable {p : Program} {l : Launch} {e : Env} {R : Room} {s : State} {m : MethodId} {args : Array Value} {below : List Frame} {meth : Method} {c : Code} {T : State} {locs : List Loc} {cells slots : Nat} {Z : State} {a0 : Array Value} {h : Heap}
variable {own : String} {index : Nat} {y : MethodName} {bytes : ByteArray} {maxL : Nat} {ret : Option FieldType} {rm : Room} {W : Nat} {as' : Array Value} {Q : Option Value → Heap → List Loc → Prop}
abbrev own_KN : Program → Env → List Frame → State → Array Value → Prop := fun _ _ bl s _ => s.vm.MethodsKnown ∧ s.vm.FramesKnown bl
abbrev own_MetK (l : Launch) (Z : State) (h : Heap) (y : MethodName) (bytes : ByteArray) (maxL : Nat) (ret : Option FieldType) (ws : List Jvm.Cond) (rm : Room) (as' : Array Value) (Q : Option Value → Heap → List Loc → Prop) (kc ks : Nat) : Prop :=
  MetFree l y (head1 (Jvm.Cond.code y bytes maxL ret :: ws) rm) (fun a U => a = as' ∧ Z.Warmed39 U.vm ∧ U.heap = h) own_KN (fun _ U o U' => ∃ v L, o = .returned v ∧ Q v U'.heap L ∧ FrameEnd U o U' L kc ks)
theorem own_goK {ws : List Jvm.Cond} {kc ks : Nat} (pn : plainFor y = true)
    (k : ∀ (p : Program) (e : Env) (s : State) (m : MethodId) (below : List Frame) (meth : Method) (c : Code) (s₁ : State), meth.locks = false → meth.sig.returnType = ret → meth.name = y.name → c.maxLocals = maxL → Z.Warmed39 s.vm → p.tables.exec = Jvm.exec → c.code = bytes → s.vm.findClass y.cls = some m.cls → s.vm.MethodsKnown → s.vm.FramesKnown below → s.heap = h → Stand p l e rm s m as' below meth c s₁ [] 0 0 → s₁.heap = h →
      own_G p e below (s₁.setTop (entryFrame m as' maxL)) (own_P s Q kc ks)) : own_MetK l Z h y bytes maxL ret ws rm as' Q kc ks := by
  refine MetFree.of_bodySF pn hisR ?_
  intro p e s m args below meth c s₁ Bd hml0 hP hK
  obtain ⟨rfl, hZ, hh⟩ := hP
  exact k p e s m below meth c s₁ Bd.notSynchronized Bd.returns (name_of_methodNamed Bd.named Bd.method).1 hml0 hZ Bd.exec Bd.bytes (findClass_of_methodNamed Bd.named) hK.1 hK.2 hh (Stand.of_body Bd) (by rw [← hh, Bd.state]; rfl)
theorem own_callNK (X : Stand p l e R s m args below meth c T locs cells slots) (hx : p.tables.exec = Jvm.exec) (hZ : Z.Warmed39 s.vm) (hown : s.vm.findClass own = some m.cls) (hTK : s.vm.MethodsKnown) (hBelow : s.vm.FramesKnown below) (eT : T.heap = h) {b : Addr} (hy1 : y.name = "<init>")
    (w1 : (Jvm.Cond.methodLink own index y).before a0 Z = true) (w5 : (Jvm.Cond.instanceMethod y).before a0 Z = true) (w6 : (Jvm.Cond.initialized y.cls).before a0 Z = true) (w4 : (Jvm.Cond.code y bytes maxL none).before a0 Z = true) (hy : y.cls ≠ "java/lang/invoke/MethodHandle" ∧ y.cls ≠ "java/lang/invoke/VarHandle")
    (hM : own_MetK l Z h y bytes maxL none [] rm as' Q rm.cells rm.slots)
    (hf : rm.frames + 1 ≤ R.frames) (hl : W + (maxL + 11) + rm.locals ≤ R.locals) (hc : cells + rm.cells ≤ R.cells) (hsl : slots + rm.slots ≤ R.slots)
    {g : JFrame} (hg : g.method = m) (hsize : g.locals.size = c.maxLocals) {argsL rest : List Value} (has : (.ref b :: argsL).toArray = as') (hlen : ∀ sig, parseMethodDescriptor y.desc = some sig → argsL.length = sig.parameters.length)
    (hstack : g.stack = argsL.reverse ++ .ref b :: rest) (hW : 2 * g.monitorRoom + (rest.map fun v => v.category).sum ≤ W) (hd : decode c.code g.pc = .ok (.invokespecial index, 3)) :
    own_After p l e R s m args below meth c T locs (cells + rm.cells) (slots + rm.slots) g rest Q := by
  obtain ⟨v, vm1, ⟨T', L', k', n'⟩, -, X', ⟨Lc, hQ, l1, y1, z1⟩, st⟩ := X.specialBack hx (y := y) hy1 hown (mvT hZ w1) (mvT hZ w5) (mvT hZ w4) hy (backOfKL (W := W) hM hZ w4 w6 hf hl hTK hBelow) hg hsize (Steps.refl _) hlen hstack hW hd (fun _ _ => ⟨has, eT, hc, hsl⟩)
  dsimp only [Pt.U, Pt.locs, Pt.cells, Pt.slots] at X' l1 y1 z1 st hQ
  subst l1 y1 z1
  exact ⟨T', _, v, Lc, X', rfl, hQ, fun _ k => st.trans k⟩
theorem own_dk1_0 : decode jdk_78_method_2_code 0 = .ok (.aload_n 0, 1) := by decide +kernel
theorem own_dk1_1 : decode jdk_78_method_2_code 1 = .ok (.invokespecial 1, 3) := by decide +kernel
theorem own_dk1_4 : decode jdk_78_method_2_code 4 = .ok (.aload_n 0, 1) := by decide +kernel
theorem own_dk1_5 : decode jdk_78_method_2_code 5 = .ok (.aload_n 0, 1) := by decide +kernel
theorem own_dk1_6 : decode jdk_78_method_2_code 6 = .ok (.putfield 7, 3) := by decide +kernel
theorem own_dk1_9 : decode jdk_78_method_2_code 9 = .ok (.aload_n 0, 1) := by decide +kernel
theorem own_dk1_10 : decode jdk_78_method_2_code 10 = .ok (.getstatic 13, 3) := by decide +kernel
theorem own_dk1_13 : decode jdk_78_method_2_code 13 = .ok (.putfield 17, 3) := by decide +kernel
theorem own_dk1_16 : decode jdk_78_method_2_code 16 = .ok (.aload_n 0, 1) := by decide +kernel
theorem own_dk1_17 : decode jdk_78_method_2_code 17 = .ok (.getstatic 20, 3) := by decide +kernel
theorem own_dk1_20 : decode jdk_78_method_2_code 20 = .ok (.putfield 24, 3) := by decide +kernel
theorem own_dk1_23 : decode jdk_78_method_2_code 23 = .ok (.aload_n 0, 1) := by decide +kernel
theorem own_dk1_24 : decode jdk_78_method_2_code 24 = .ok (.invokevirtual 27, 3) := by decide +kernel
theorem own_dk1_27 : decode jdk_78_method_2_code 27 = .ok (.pop, 1) := by decide +kernel
theorem own_dk1_28 : decode jdk_78_method_2_code 28 = .ok (.aload_n 0, 1) := by decide +kernel
theorem own_dk1_29 : decode jdk_78_method_2_code 29 = .ok (.aload_n 1, 1) := by decide +kernel
theorem own_dk1_30 : decode jdk_78_method_2_code 30 = .ok (.putfield 31, 3) := by decide +kernel
theorem own_dk1_33 : decode jdk_78_method_2_code 33 = .ok (.return_, 1) := by decide +kernel
theorem own_dk2_0 : decode jdk_59_method_2_code 0 = .ok (.aload_n 0, 1) := by decide +kernel
theorem own_dk2_1 : decode jdk_59_method_2_code 1 = .ok (.aload_n 1, 1) := by decide +kernel
theorem own_dk2_2 : decode jdk_59_method_2_code 2 = .ok (.invokespecial 7, 3) := by decide +kernel
theorem own_dk2_5 : decode jdk_59_method_2_code 5 = .ok (.return_, 1) := by decide +kernel
theorem own_dk3_0 : decode prog_9_method_1_code 0 = .ok (.aload_n 0, 1) := by decide +kernel
theorem own_dk3_1 : decode prog_9_method_1_code 1 = .ok (.aload_n 1, 1) := by decide +kernel
theorem own_dk3_2 : decode prog_9_method_1_code 2 = .ok (.invokespecial 1, 3) := by decide +kernel
theorem own_dk3_5 : decode prog_9_method_1_code 5 = .ok (.return_, 1) := by decide +kernel
theorem own_pdS : parseMethodDescriptor "(Ljava/lang/String;)V" = some ⟨[.object "java/lang/String"], none⟩ := by decide +kernel
theorem own_k1 (l : Launch) (hl : l.stackTraces = true) (Z : State) (a0 : Array Value) (hw : own_W a0 Z) (ws : List Jvm.Cond) (a msg us sen : Nat) (h0 : Heap) (n0 : Nat) (O0 : Old Z n0 h0) (E : Exa Z h0 a own_rc) (hn : n0 ≤ a) (U : Unt h0 a) (S1 : Sta Z Z.heap "java/lang/Throwable" "UNASSIGNED_STACK" own_ste (.ref us)) (S2 : Sta Z Z.heap "java/lang/Throwable" "SUPPRESSED_SENTINEL" "Ljava/util/List;" (.ref sen)) (G1 : Fld Z h0 a "java/lang/Throwable" "cause" "Ljava/lang/Throwable;" .null) (G2 : Fld Z h0 a "java/lang/Throwable" "stackTrace" own_ste .null) (G3 : Fld Z h0 a "java/lang/Throwable" "suppressedExceptions" "Ljava/util/List;" .null) (G4 : Fld Z h0 a "java/lang/Throwable" "backtrace" "Ljava/lang/Object;" .null) (G5 : Fld Z h0 a "java/lang/Throwable" "detailMessage" "Ljava/lang/String;" .null) :
    own_MetK l Z h0 (⟨"java/lang/Throwable", "<init>", "(Ljava/lang/String;)V"⟩ : MethodName) jdk_78_method_2_code 2 none ws (own_R 3 1 2752 42) #[.ref a, .ref msg] (fun v h L => v = none ∧ (∀ y ∈ L, y.base = a) ∧ Keep h0 h [a] ∧ Fld Z h a "java/lang/Throwable" "detailMessage" "Ljava/lang/String;" (.ref msg)) 1 2752 := own_goK (by decide +kernel) fun p e s m below meth c s₁ hns hrt hnm hml hZ hx hby hown hTK hBelow hh X0 e0 => by
  show own_G p e below (s₁.setTop (mkF m 0 #[rv a, rv msg] [])) _
  refine oAN X0 hx hby own_dk1_0 rfl rfl ?_
  obtain ⟨T1, X1, e1, s1⟩ := initO X0 hx hZ hown (hw 153) (hw 12) (hw 13) e0 (g := (mkF m 1 #[rv a, rv msg] [(.ref a)])) rfl (by rw [hml]; rfl) rfl (hb hby own_dk1_1) (by decide) (W := 0) (by show 2 * 0 + _ ≤ _; exact Nat.le_of_eq rfl) (by decide)
  refine oS s1 ?_
  refine oAN X1 hx hby own_dk1_4 rfl rfl ?_
  refine oAN X1 hx hby own_dk1_5 rfl rfl ?_
  show own_G p e below (T1.setTop (mkF m 6 #[rv a, rv msg] [(.ref a), (.ref a)])) _
  refine own_pF X1 hx hZ hown (hw 154) e1 G1 E (Or.inl (hw 155)) (hw 27) (ty := (.object "java/lang/Throwable")) rfl rfl (hb hby own_dk1_6) fun T2 h2 X2 e2 W2 => ?_
  refine oAN X2 hx hby own_dk1_9 rfl rfl ?_
  have O2 : Old Z n0 h2 := O0.wr W2 hn
  obtain ⟨T3, X3, e3, s3⟩ := getS X2 hx hZ hown (host := "") (hw 156) Via.refl e2 (Sta.ext O2.2 S1) (g := (mkF m 10 #[rv a, rv msg] [(.ref a)])) rfl (hb hby own_dk1_10)
  refine oS s3 ?_
  have E2 := Exa.wr W2 E
  refine own_pF X3 hx hZ hown (hw 157) e3 (Fld.other W2 G2 (Or.inr (slot_ne (C := own_rc) (Or.inl (hw 158)) (Or.inl (hw 155)) (by decide) (t := (.array (.object "java/lang/StackTraceElement"))) (t' := (.object "java/lang/Throwable")) (by decide) (by decide)))) E2 (Or.inl (hw 158)) (hw 27) (ty := (.array (.object "java/lang/StackTraceElement"))) rfl rfl (hb hby own_dk1_13) fun T4 h4 X4 e4 W4 => ?_
  show own_G p e below (T4.setTop (mkF m 16 #[rv a, rv msg] [])) _
  refine oAN X4 hx hby own_dk1_16 rfl rfl ?_
  have O4 : Old Z n0 h4 := O2.wr W4 hn
  obtain ⟨T5, X5, e5, s5⟩ := getS X4 hx hZ hown (host := "") (hw 159) Via.refl e4 (Sta.ext O4.2 S2) (g := (mkF m 17 #[rv a, rv msg] [(.ref a)])) rfl (hb hby own_dk1_17)
  refine oS s5 ?_
  have E4 := Exa.wr W4 E2
  refine own_pF X5 hx hZ hown (hw 160) e5 (Fld.other W4 (Fld.other W2 G3 (Or.inr (slot_ne (C := own_rc) (Or.inl (hw 161)) (Or.inl (hw 155)) (by decide) (t := (.object "java/util/List")) (t' := (.object "java/lang/Throwable")) (by decide) (by decide)))) (Or.inr (slot_ne (C := own_rc) (Or.inl (hw 161)) (Or.inl (hw 158)) (by decide) (t := (.object "java/util/List")) (t' := (.array (.object "java/lang/StackTraceElement"))) (by decide) (by decide)))) E4 (Or.inl (hw 161)) (hw 27) (ty := (.object "java/util/List")) rfl rfl (hb hby own_dk1_20) fun T6 h6 X6 e6 W6 => ?_
  refine oAN X6 hx hby own_dk1_23 rfl rfl ?_
  have O6 : Old Z n0 h6 := O4.wr W6 hn
  have E6 := Exa.wr W6 E4
  have K6 : Keep h0 h6 [a] := (((Keep.refl h0 [a]).wr W2 (Or.inl (by simp))).wr W4 (Or.inl (by simp))).wr W6 (Or.inl (by simp))
  have hsz : h6.size = h0.size := (W6.size.trans W4.size).trans W2.size
  obtain ⟨T7, h7, L7, X7, e7, b7, K7, F7, s7⟩ := own_fill hw X6 hx hl hZ hown hTK hBelow hh e6 K6 hsz (by simp) E6 (Unt.wr W6 (Unt.wr W4 (Unt.wr W2 U))) (u := .ref us) rfl (Sta.ext O6.2 S1) (Fld.other W6 (Fld.same W4 (Fld.other W2 G2 (Or.inr (slot_ne (C := own_rc) (Or.inl (hw 158)) (Or.inl (hw 155)) (by decide) (t := (.array (.object "java/lang/StackTraceElement"))) (t' := (.object "java/lang/Throwable")) (by decide) (by decide))))) (Or.inr (slot_ne (C := own_rc) (Or.inl (hw 158)) (Or.inl (hw 161)) (by decide) (t := (.array (.object "java/lang/StackTraceElement"))) (t' := (.object "java/util/List")) (by decide) (by decide)))) (Fld.other W6 (Fld.other W4 (Fld.other W2 G4 (Or.inr (slot_ne (C := own_rc) (Or.inl (hw 186)) (Or.inl (hw 155)) (by decide) (t := (.object "java/lang/Object")) (t' := (.object "java/lang/Throwable")) (by decide) (by decide)))) (Or.inr (slot_ne (C := own_rc) (Or.inl (hw 186)) (Or.inl (hw 158)) (by decide) (t := (.object "java/lang/Object")) (t' := (.array (.object "java/lang/StackTraceElement"))) (by decide) (by decide)))) (Or.inr (slot_ne (C := own_rc) (Or.inl (hw 186)) (Or.inl (hw 161)) (by decide) (t := (.object "java/lang/Object")) (t' := (.object "java/util/List")) (by decide) (by decide)))) (Fld.other W6 (Fld.other W4 (Fld.other W2 G5 (Or.inr (slot_ne (C := own_rc) (Or.inl (hw 185)) (Or.inl (hw 155)) (by decide) (t := (.object "java/lang/String")) (t' := (.object "java/lang/Throwable")) (by decide) (by decide)))) (Or.inr (slot_ne (C := own_rc) (Or.inl (hw 185)) (Or.inl (hw 158)) (by decide) (t := (.object "java/lang/String")) (t' := (.array (.object "java/lang/StackTraceElement"))) (by decide) (by decide)))) (Or.inr (slot_ne (C := own_rc) (Or.inl (hw 185)) (Or.inl (hw 161)) (by decide) (t := (.object "java/lang/String")) (t' := (.object "java/util/List")) (by decide) (by decide)))) (pc := 24) (Ls := #[rv a, rv msg]) (by rw [hml]; rfl) (hb hby own_dk1_24) (by decide) (by decide) (by decide) (by decide)
  refine oS s7 ?_
  refine oS (fun _ => XS.pop X7.here hx rfl (hb hby own_dk1_27) rfl rfl) ?_
  refine oAN X7 hx hby own_dk1_28 rfl rfl ?_
  refine oAN X7 hx hby own_dk1_29 rfl rfl ?_
  show own_G p e below (T7.setTop (mkF m 30 #[rv a, rv msg] [(.ref msg), (.ref a)])) _
  refine own_pF X7 hx hZ hown (hw 189) e7 F7 (E6.keep K7) (Or.inl (hw 185)) (hw 27) (ty := (.object "java/lang/String")) rfl rfl (hb hby own_dk1_30) fun T8 h8 X8 e8 W8 => ?_
  have K8 : Keep h0 h8 [a] := (K6.trans K7 (fun x q => Or.inl q)).wr W8 (Or.inl (by simp))
  exact own_retV X8 hx hns hrt (hb hby own_dk1_33) e8 (by decide) (by decide) ⟨rfl, fun y hy => by
    rcases List.mem_append.mp hy with hy | hy
    · rcases List.mem_append.mp hy with hy | hy
      · simp only [List.mem_append, List.mem_singleton, List.not_mem_nil, false_or, or_assoc] at hy
        rcases hy with rfl | rfl | rfl <;> rfl
      · exact b7 y hy
    · cases List.mem_singleton.mp hy; rfl, K8, Fld.same W8 F7⟩
theorem own_k2 (l : Launch) (hl : l.stackTraces = true) (Z : State) (a0 : Array Value) (hw : own_W a0 Z) (ws : List Jvm.Cond) (a msg us sen : Nat) (h0 : Heap) (n0 : Nat) (O0 : Old Z n0 h0) (E : Exa Z h0 a own_rc) (hn : n0 ≤ a) (U : Unt h0 a) (S1 : Sta Z Z.heap "java/lang/Throwable" "UNASSIGNED_STACK" own_ste (.ref us)) (S2 : Sta Z Z.heap "java/lang/Throwable" "SUPPRESSED_SENTINEL" "Ljava/util/List;" (.ref sen)) (G1 : Fld Z h0 a "java/lang/Throwable" "cause" "Ljava/lang/Throwable;" .null) (G2 : Fld Z h0 a "java/lang/Throwable" "stackTrace" own_ste .null) (G3 : Fld Z h0 a "java/lang/Throwable" "suppressedExceptions" "Ljava/util/List;" .null) (G4 : Fld Z h0 a "java/lang/Throwable" "backtrace" "Ljava/lang/Object;" .null) (G5 : Fld Z h0 a "java/lang/Throwable" "detailMessage" "Ljava/lang/String;" .null) :
    own_MetK l Z h0 (⟨"java/lang/Exception", "<init>", "(Ljava/lang/String;)V"⟩ : MethodName) jdk_59_method_2_code 2 none ws (own_R 4 1 2752 55) #[.ref a, .ref msg] (fun v h L => v = none ∧ (∀ y ∈ L, y.base = a) ∧ Keep h0 h [a] ∧ Fld Z h a "java/lang/Throwable" "detailMessage" "Ljava/lang/String;" (.ref msg)) 1 2752 := own_goK (by decide +kernel) fun p e s m below meth c s₁ hns hrt hnm hml hZ hx hby hown hTK hBelow hh X0 e0 => by
  show own_G p e below (s₁.setTop (mkF m 0 #[rv a, rv msg] [])) _
  refine oAN X0 hx hby own_dk2_0 rfl rfl ?_
  refine oAN X0 hx hby own_dk2_1 rfl rfl ?_
  obtain ⟨T1, h1, v1, L1, X1, e1, q1, s1⟩ := own_callNK X0 hx hZ hown hTK hBelow e0 (y := (⟨"java/lang/Throwable", "<init>", "(Ljava/lang/String;)V"⟩ : MethodName)) (b := a) rfl (hw 147) (hw 148) (hw 151) (hw 152) (by decide) (W := 0) (own_k1 l hl Z a0 hw [] a msg us sen h0 n0 O0 E hn U S1 S2 G1 G2 G3 G4 G5) (by decide) (by decide) (by decide) (by decide) (g := mkF m 2 #[rv a, rv msg] [.ref msg, .ref a]) rfl (by rw [hml]; rfl) (argsL := [.ref msg]) (rest := []) rfl (lenOf own_pdS rfl) rfl (by show 2 * 0 + _ ≤ _; exact Nat.le_of_eq rfl) (hb hby own_dk2_2)
  refine oS s1 ?_
  obtain ⟨rfl, b1, K1, F1⟩ := q1
  exact own_retV X1 hx hns hrt (hb hby own_dk2_5) e1 (by decide) (by decide) ⟨rfl, fun y hy => b1 y (by simpa using hy), K1, F1⟩
theorem own_k3 (l : Launch) (hl : l.stackTraces = true) (Z : State) (a0 : Array Value) (hw : own_W a0 Z) (ws : List Jvm.Cond) (a msg us sen : Nat) (h0 : Heap) (n0 : Nat) (O0 : Old Z n0 h0) (E : Exa Z h0 a own_rc) (hn : n0 ≤ a) (U : Unt h0 a) (S1 : Sta Z Z.heap "java/lang/Throwable" "UNASSIGNED_STACK" own_ste (.ref us)) (S2 : Sta Z Z.heap "java/lang/Throwable" "SUPPRESSED_SENTINEL" "Ljava/util/List;" (.ref sen)) (G1 : Fld Z h0 a "java/lang/Throwable" "cause" "Ljava/lang/Throwable;" .null) (G2 : Fld Z h0 a "java/lang/Throwable" "stackTrace" own_ste .null) (G3 : Fld Z h0 a "java/lang/Throwable" "suppressedExceptions" "Ljava/util/List;" .null) (G4 : Fld Z h0 a "java/lang/Throwable" "backtrace" "Ljava/lang/Object;" .null) (G5 : Fld Z h0 a "java/lang/Throwable" "detailMessage" "Ljava/lang/String;" .null) :
    own_MetK l Z h0 (⟨"com/example/keelrate/keelrate/InputRefusedException", "<init>", "(Ljava/lang/String;)V"⟩ : MethodName) prog_9_method_1_code 2 none ws (own_R 5 1 2752 68) #[.ref a, .ref msg] (fun v h L => v = none ∧ (∀ y ∈ L, y.base = a) ∧ Keep h0 h [a] ∧ Fld Z h a "java/lang/Throwable" "detailMessage" "Ljava/lang/String;" (.ref msg)) 1 2752 := own_goK (by decide +kernel) fun p e s m below meth c s₁ hns hrt hnm hml hZ hx hby hown hTK hBelow hh X0 e0 => by
  show own_G p e below (s₁.setTop (mkF m 0 #[rv a, rv msg] [])) _
  refine oAN X0 hx hby own_dk3_0 rfl rfl ?_
  refine oAN X0 hx hby own_dk3_1 rfl rfl ?_
  obtain ⟨T1, h1, v1, L1, X1, e1, q1, s1⟩ := own_callNK X0 hx hZ hown hTK hBelow e0 (y := (⟨"java/lang/Exception", "<init>", "(Ljava/lang/String;)V"⟩ : MethodName)) (b := a) rfl (hw 142) (hw 143) (hw 145) (hw 146) (by decide) (W := 0) (own_k2 l hl Z a0 hw [] a msg us sen h0 n0 O0 E hn U S1 S2 G1 G2 G3 G4 G5) (by decide) (by decide) (by decide) (by decide) (g := mkF m 2 #[rv a, rv msg] [.ref msg, .ref a]) rfl (by rw [hml]; rfl) (argsL := [.ref msg]) (rest := []) rfl (lenOf own_pdS rfl) rfl (by show 2 * 0 + _ ≤ _; exact Nat.le_of_eq rfl) (hb hby own_dk3_2)
  refine oS s1 ?_
  obtain ⟨rfl, b1, K1, F1⟩ := q1
  exact own_retV X1 hx hns hrt (hb hby own_dk3_5) e1 (by decide) (by decide) ⟨rfl, fun y hy => b1 y (by simpa using hy), K1, F1⟩
end OwnK
section OwnWideK
variable {p : Program} {l : Launch} {e : Env} {R : Room} {s : State} {m : MethodId} {args : Array Value} {below : List Frame} {meth : Method} {c : Code} {T : State} {locs : List Loc} {cells slots : Nat} {Z : State} {a0 : Array Value} {h : Heap} {vm0 : Vm} {EL : List (String × Nat)} {sf : List Addr}
abbrev own_KF : Program → Env → List Frame → State → Array Value → Prop := fun _ _ _ s _ => Jvm.D.framesKnown s = true ∧ Jvm.D.tablesKnown s = true
abbrev own_MetWK (K : Program → Env → List Frame → State → Array Value → Prop) (l : Launch) (Z : State) (EL : List (String × Nat)) (sf : List Addr) (h : Heap) (y : MethodName) (bytes : ByteArray) (maxL : Nat) (ret : Option FieldType) (ws : List Jvm.Cond) (rm : Room) (as' : Array Value) (Q : Vm → Option Value → Heap → List Loc → Prop) (kc ks : Nat) : Prop :=
  MetFree l y (head1 (Jvm.Cond.code y bytes maxL ret :: ws) rm) (fun a U => a = as' ∧ Z.Warmed39 U.vm ∧ U.heap = h ∧ CHv Z EL U.vm h ∧ ∀ x ∈ sf, Safe Z EL U.vm h x) K (fun _ U o U' => ∃ v L, o = .returned v ∧ Q U'.vm v U'.heap L ∧ CHr Z EL U.vm U.heap U'.vm U'.heap ∧ ReturnedEndW U o U' L kc ks)
variable {own : String} {index : Nat} {y : MethodName} {bytes : ByteArray} {maxL : Nat} {ret : Option FieldType} {rm : Room} {W : Nat} {as' : Array Value} {Q : Vm → Option Value → Heap → List Loc → Prop}
theorem own_backWK {len : Nat} (hM : own_MetWK own_KN l Z EL sf h y bytes maxL ret [] rm as' Q rm.cells rm.slots)
    (hZ : Z.Warmed39 vm0) (wc : (Jvm.Cond.code y bytes maxL ret).before a0 Z = true) (wz : (Jvm.Cond.initialized y.cls).before a0 Z = true) (hf : rm.frames + 1 ≤ R.frames) (hl : W + (maxL + 11) + rm.locals ≤ R.locals) (hEL : EW Z a0 EL) (H : CHv Z EL vm0 h) (hsf : ∀ x ∈ sf, Safe Z EL vm0 h x) (hlt : ∀ x ∈ sf, x < h.size) (hTK : vm0.MethodsKnown) (hBelow : vm0.FramesKnown below) :
    BackS l R p e below (s.setVm vm0) args y len W (fun A a => a = as' ∧ A.U.heap = h ∧ A.cells + rm.cells ≤ R.cells ∧ A.slots + rm.slots ≤ R.slots)
      (fun A _ v B => ∃ L, Q B.U.vm v B.U.heap L ∧ B.locs = A.locs ++ L ∧ B.cells = A.cells + rm.cells ∧ B.slots = A.slots + rm.slots ∧ CHr Z EL vm0 h B.U.vm B.U.heap) :=
  BackS.of_freeWG (bytes := bytes) (maxL := maxL) (ret := ret) (E := fun _ first o t L k n => k = rm.cells ∧ n = rm.slots ∧ (∃ v, o = .returned v ∧ Q t.vm v t.heap L) ∧ CHr Z EL first.vm first.heap t.vm t.heap) hM hf hl
    (fun m meth c A a Y hp => have hU : Z.Warmed39 A.U.vm := wtrans (s := s.setVm vm0) hZ Y.warmed
      ⟨by show (Jvm.Cond.and _ .tt).before a A.U = true; rw [Cond.before_and, mv hU wc]; rfl, mv hU wc, mv hU wz, hp.2.2.1, hp.2.2.2⟩)
    (fun m meth c A a g mk Y hp => ⟨hp.1, wtrans (s := s.setVm vm0) hZ Y.warmed, hp.2.1, (CHv.at Y hZ hEL H).1, fun x q => (CHv.at Y hZ hEL H).safe (hlt x q) (hsf x q)⟩) (fun m meth c A a g mk Y _ hg => known_frames Y hg hTK hBelow)
    (fun _ _ _ _ ⟨v, L, h1, h2, h3, h4⟩ => ⟨L, _, _, h4, rfl, rfl, ⟨v, h1, h2⟩, h3⟩)
    (fun m meth c A a g mk v t L k n Y hp _ _ ⟨e1, e2, ⟨v', e3, e4⟩, e5⟩ => by
      cases e3; subst e1 e2
      refine ⟨L, e4, rfl, rfl, rfl, (CHv.at Y hZ hEL H).trans ?_⟩
      rw [← hp.2.1]; exact e5)
theorem own_callSWK (X : Stand p l e R (s.setVm vm0) m args below meth c T locs cells slots) (hx : p.tables.exec = Jvm.exec) (hZ : Z.Warmed39 (s.setVm vm0).vm) (hown : (s.setVm vm0).vm.findClass own = some m.cls) (eT : T.heap = h)
    (w1 : (Jvm.Cond.methodLink own index y).before a0 Z = true) (w2 : (Jvm.Cond.static y).before a0 Z = true) (w3 : (Jvm.Cond.initialized y.cls).before a0 Z = true) (w4 : (Jvm.Cond.code y bytes maxL ret).before a0 Z = true) (hy : y.cls ≠ "java/lang/invoke/MethodHandle" ∧ y.cls ≠ "java/lang/invoke/VarHandle")
    {k0 : Nat} (hS : s.Since vm0 k0) (hk : k0 ≤ h.size) (hEL : EW Z a0 EL) (H : CHv Z EL vm0 h) (hsf : ∀ x ∈ sf, Safe Z EL vm0 h x) (hlt : ∀ x ∈ sf, x < h.size) (hTK : vm0.MethodsKnown) (hBelow : vm0.FramesKnown below)
    (hM : own_MetWK own_KN l Z EL sf h y bytes maxL ret [] rm as' Q rm.cells rm.slots)
    (hf : rm.frames + 1 ≤ R.frames) (hl : W + (maxL + 11) + rm.locals ≤ R.locals) (hc : cells + rm.cells ≤ R.cells) (hsl : slots + rm.slots ≤ R.slots)
    {g : JFrame} (hg : g.method = m) (hsize : g.locals.size = c.maxLocals) {argsL rest : List Value} (has : argsL.toArray = as') (hlen : ∀ sig, parseMethodDescriptor y.desc = some sig → argsL.length = sig.parameters.length)
    (hstack : g.stack = argsL.reverse ++ rest) (hW : 2 * g.monitorRoom + (rest.map fun v => v.category).sum ≤ W) (hd : decode c.code g.pc = .ok (.invokestatic index, 3)) :
    own_AfterW p l e R s Z EL own vm0 h m args below meth c T locs (cells + rm.cells) (slots + rm.slots) g rest Q := by
  obtain ⟨v, vm1, ⟨T', L', k', n'⟩, -, X', hS', hg', ⟨Lc, hQ, l1, y1, z1, hC⟩, st⟩ := callSS X hx (y := y) hown (mvT hZ w1) (mvT hZ w2) (mvT hZ w3) (mvT hZ w4) hy (own_backWK (W := W) hM hZ w4 w3 hf hl hEL H hsf hlt hTK hBelow) hg hsize hlen hstack hW hd (fun _ _ => ⟨has, eT, hc, hsl⟩)
  dsimp only [Pt.U, Pt.locs, Pt.cells, Pt.slots] at X' l1 y1 z1 st hQ hS' hg' hC
  subst l1 y1 z1
  obtain ⟨X2, hS2, hZ2, hown2⟩ := rebS hS (n1 := T.heap.size) (by rw [eT]; exact hk) X' hS' hg' hZ hown
  exact ⟨T', _, v, Lc, X2, rfl, hQ, hS2, hZ2, hown2, hC, fun _ k => st.trans k⟩
theorem own_Wall (hw : own_W a0 Z) : ∀ d ∈ tables_1, d.before a0 Z = true := fun d hd => by
  obtain ⟨i, hi⟩ := List.mem_iff_getElem?.mp hd
  have q := hw i
  rw [own_T, hi] at q
  exact q
end OwnWideK
section OwnChar
theorem own_dc1_0 : decode jdk_41_method_11_code 0 = .ok (.iload_n 0, 1) := by decide +kernel
theorem own_dc1_1 : decode jdk_41_method_11_code 1 = .ok (.ifCond .lt 8, 3) := by decide +kernel
theorem own_dc1_4 : decode jdk_41_method_11_code 4 = .ok (.iload_n 0, 1) := by decide +kernel
theorem own_dc1_5 : decode jdk_41_method_11_code 5 = .ok (.iload_n 1, 1) := by decide +kernel
theorem own_dc1_6 : decode jdk_41_method_11_code 6 = .ok (.if_icmp .lt 10, 3) := by decide +kernel
theorem own_dc1_16 : decode jdk_41_method_11_code 16 = .ok (.iload_n 0, 1) := by decide +kernel
theorem own_dc1_17 : decode jdk_41_method_11_code 17 = .ok (.ireturn, 1) := by decide +kernel
theorem own_c1 (l : Launch) (Z : State) (a0 : Array Value) (hw : own_W a0 Z) (ws : List Jvm.Cond) (i n : Int32) (f : Value) (hf : f.isRef = true) (h0 : Heap) (hi : ¬ i < 0) (hn : i < n) :
    own_Met l Z h0 (⟨"jdk/internal/util/Preconditions", "checkIndex", "(IILjava/util/function/BiFunction;)I"⟩ : MethodName) jdk_41_method_11_code 3 (some .int) ws (own_R 0 0 0 0) #[.int i, .int n, f] (fun v h L => v = some (.int i) ∧ L = [] ∧ h = h0) 0 0 := own_go (by decide +kernel) fun p e s m below meth c s₁ hns hrt hnm hml hZ hx hby hown X0 e0 => by
  rcases ref_cases hf with rfl | ⟨fa, rfl⟩
  · skip
    show own_G p e below (s₁.setTop (mkF m 0 #[iv i, iv n, .val .null] [])) _
    refine oIN X0 hx hby own_dc1_0 rfl ?_
    refine oN0 X0 hx hby own_dc1_1 (XT.i0_lt_f hi) ?_
    refine oIN X0 hx hby own_dc1_4 rfl ?_
    refine oIN X0 hx hby own_dc1_5 rfl ?_
    refine oYI X0 hx hby (pc' := 16) own_dc1_6 (XT.ii_lt_t hn) ?_
    refine oIN X0 hx hby own_dc1_16 rfl ?_
    exact own_retI X0 hx hns hrt (hb hby own_dc1_17) e0 (by decide) (by decide) ⟨rfl, rfl, rfl⟩
  · skip
    show own_G p e below (s₁.setTop (mkF m 0 #[iv i, iv n, rv fa] [])) _
    refine oIN X0 hx hby own_dc1_0 rfl ?_
    refine oN0 X0 hx hby own_dc1_1 (XT.i0_lt_f hi) ?_
    refine oIN X0 hx hby own_dc1_4 rfl ?_
    refine oIN X0 hx hby own_dc1_5 rfl ?_
    refine oYI X0 hx hby (pc' := 16) own_dc1_6 (XT.ii_lt_t hn) ?_
    refine oIN X0 hx hby own_dc1_16 rfl ?_
    exact own_retI X0 hx hns hrt (hb hby own_dc1_17) e0 (by decide) (by decide) ⟨rfl, rfl, rfl⟩
theorem own_dc2_0 : decode jdk_42_method_155_code 0 = .ok (.iload_n 0, 1) := by decide +kernel
theorem own_dc2_1 : decode jdk_42_method_155_code 1 = .ok (.iload_n 1, 1) := by decide +kernel
theorem own_dc2_2 : decode jdk_42_method_155_code 2 = .ok (.getstatic 1053, 3) := by decide +kernel
theorem own_dc2_5 : decode jdk_42_method_155_code 5 = .ok (.invokestatic 1059, 3) := by decide +kernel
theorem own_dc2_8 : decode jdk_42_method_155_code 8 = .ok (.pop, 1) := by decide +kernel
theorem own_dc2_9 : decode jdk_42_method_155_code 9 = .ok (.return_, 1) := by decide +kernel
theorem own_pc1 : parseMethodDescriptor "(IILjava/util/function/BiFunction;)I" = some ⟨[.int, .int, .object "java/util/function/BiFunction"], some .int⟩ := by decide +kernel
theorem own_c2 (l : Launch) (Z : State) (a0 : Array Value) (hw : own_W a0 Z) (ws : List Jvm.Cond) (i n : Int32) (f : Value) (hf : f.isRef = true) (h0 : Heap) (n0 : Nat) (O0 : Old Z n0 h0) (S : Sta Z Z.heap "jdk/internal/util/Preconditions" "SIOOBE_FORMATTER" "Ljava/util/function/BiFunction;" f) (hi : ¬ i < 0) (hn : i < n) :
    own_Met l Z h0 (⟨"java/lang/String", "checkIndex", "(II)V"⟩ : MethodName) jdk_42_method_155_code 2 none ws (own_R 1 0 0 14) #[.int i, .int n] (fun v h L => v = none ∧ L = [] ∧ h = h0) 0 0 := own_go (by decide +kernel) fun p e s m below meth c s₁ hns hrt hnm hml hZ hx hby hown X0 e0 => by
  show own_G p e below (s₁.setTop (mkF m 0 #[iv i, iv n] [])) _
  refine oIN X0 hx hby own_dc2_0 rfl ?_
  refine oIN X0 hx hby own_dc2_1 rfl ?_
  obtain ⟨T1, X1, e1, s1⟩ := getS X0 hx hZ hown (host := "") (hw 219) Via.refl e0 (Sta.ext O0.2 S) (g := (mkF m 2 #[iv i, iv n] [.int n, .int i])) rfl (hb hby own_dc2_2)
  refine oS s1 ?_
  have hc : (f.category) = 1 := by rcases ref_cases hf with rfl | ⟨fa, rfl⟩ <;> rfl
  obtain ⟨T2, h2, v2, L2, X2, e2, q2, s2⟩ := own_callS X1 hx hZ hown e1 (y := ⟨"jdk/internal/util/Preconditions", "checkIndex", "(IILjava/util/function/BiFunction;)I"⟩) (hw 221) (hw 222) (hw 220) (hw 223) (by decide) (W := 0) (own_c1 l Z a0 hw [] i n f hf h0 hi hn) (by decide) (by decide) (by decide) (by decide) (g := mkF m 5 #[iv i, iv n] [f, .int n, .int i]) rfl (by rw [hml]; rfl) (argsL := [.int i, .int n, f]) (rest := []) rfl (lenOf own_pc1 rfl) rfl (by show 2 * 0 + _ ≤ _; exact Nat.le_of_eq rfl) (hb hby own_dc2_5)
  refine oS s2 ?_
  obtain ⟨rfl, rfl, rfl⟩ := q2
  refine oS (fun _ => XS.pop X2.here hx rfl (hb hby own_dc2_8) rfl rfl) ?_
  exact own_retV X2 hx hns hrt (hb hby own_dc2_9) e2 (by decide) (by decide) ⟨rfl, rfl, rfl⟩
theorem own_dc3_0 : decode jdk_43_method_2_code 0 = .ok (.iload_n 1, 1) := by decide +kernel
theorem own_dc3_1 : decode jdk_43_method_2_code 1 = .ok (.aload_n 0, 1) := by decide +kernel
theorem own_dc3_2 : decode jdk_43_method_2_code 2 = .ok (.arraylength, 1) := by decide +kernel
theorem own_dc3_3 : decode jdk_43_method_2_code 3 = .ok (.invokestatic 9, 3) := by decide +kernel
theorem own_dc3_6 : decode jdk_43_method_2_code 6 = .ok (.aload_n 0, 1) := by decide +kernel
theorem own_dc3_7 : decode jdk_43_method_2_code 7 = .ok (.iload_n 1, 1) := by decide +kernel
theorem own_dc3_8 : decode jdk_43_method_2_code 8 = .ok (.baload, 1) := by decide +kernel
theorem own_dc3_9 : decode jdk_43_method_2_code 9 = .ok (.sipush 255, 3) := by decide +kernel
theorem own_dc3_12 : decode jdk_43_method_2_code 12 = .ok (.iand, 1) := by decide +kernel
theorem own_dc3_13 : decode jdk_43_method_2_code 13 = .ok (.i2c, 1) := by decide +kernel
theorem own_dc3_14 : decode jdk_43_method_2_code 14 = .ok (.ireturn, 1) := by decide +kernel
theorem own_pc2 : parseMethodDescriptor "(II)V" = some ⟨[.int, .int], none⟩ := by decide +kernel
abbrev own_ch (q : Int32) : Int32 := (q &&& 255).toUInt32.toUInt16.toUInt32.toInt32
theorem own_c3 (l : Launch) (Z : State) (a0 : Array Value) (hw : own_W a0 Z) (ws : List Jvm.Cond) (b : Nat) (kk : ClassId) (z : Int32) (vs : List Value) (i q : Int32) (f : Value) (hf : f.isRef = true) (h0 : Heap) (n0 : Nat) (O0 : Old Z n0 h0) (S : Sta Z Z.heap "jdk/internal/util/Preconditions" "SIOOBE_FORMATTER" "Ljava/util/function/BiFunction;" f) (A : Arv Z h0 b kk .byte z vs (.int 0)) (hi : ¬ i < 0 ∧ i < z) (hv : vs.getD i.toNatClampNeg (.int 0) = .int q) :
    own_Met l Z h0 (⟨"java/lang/StringLatin1", "charAt", "([BI)C"⟩ : MethodName) jdk_43_method_2_code 2 (some .char) ws (own_R 2 0 0 27) #[.ref b, .int i] (fun v h L => v = some (.int (own_ch q)) ∧ L = [] ∧ h = h0) 0 0 := own_go (by decide +kernel) fun p e s m below meth c s₁ hns hrt hnm hml hZ hx hby hown X0 e0 => by
  show own_G p e below (s₁.setTop (mkF m 0 #[rv b, iv i] [])) _
  refine oIN X0 hx hby own_dc3_0 rfl ?_
  refine oAN X0 hx hby own_dc3_1 rfl rfl ?_
  refine oS (own_len X0 hx hZ e0 A rfl rfl (hb hby own_dc3_2)) ?_
  obtain ⟨T2, h2, v2, L2, X2, e2, q2, s2⟩ := own_callS X0 hx hZ hown e0 (y := ⟨"java/lang/String", "checkIndex", "(II)V"⟩) (hw 216) (hw 217) (hw 3) (hw 218) (by decide) (W := 0) (own_c2 l Z a0 hw [] i z f hf h0 n0 O0 S hi.1 hi.2) (by decide) (by decide) (by decide) (by decide) (g := mkF m 3 #[rv b, iv i] [.int z, .int i]) rfl (by rw [hml]; rfl) (argsL := [.int i, .int z]) (rest := []) rfl (lenOf own_pc2 rfl) rfl (by show 2 * 0 + _ ≤ _; exact Nat.le_of_eq rfl) (hb hby own_dc3_3)
  refine oS s2 ?_
  obtain ⟨rfl, rfl, rfl⟩ := q2
  refine oAN X2 hx hby own_dc3_6 rfl rfl ?_
  refine oIN X2 hx hby own_dc3_7 rfl ?_
  refine oS (own_baload X2 hx hZ e2 A hi hv rfl rfl (hb hby own_dc3_8)) ?_
  refine oS (fun _ => XS.sipush X2.here hx rfl (hb hby own_dc3_9)) ?_
  refine oS (fun _ => XS.iand X2.here hx rfl (hb hby own_dc3_12) rfl) ?_
  refine oS (fun _ => XS.i2c X2.here hx rfl (hb hby own_dc3_13) rfl) ?_
  exact own_retN X2 hx (t := .char) hns hrt (by simp) (hb hby own_dc3_14) (own_narC _) e2 (by decide) (by decide) ⟨rfl, rfl, rfl⟩
theorem own_dc4_0 : decode jdk_42_method_154_code 0 = .ok (.getstatic 38, 3) := by decide +kernel
theorem own_dc4_3 : decode jdk_42_method_154_code 3 = .ok (.ifCond .eq 14, 3) := by decide +kernel
theorem own_dc4_6 : decode jdk_42_method_154_code 6 = .ok (.aload_n 0, 1) := by decide +kernel
theorem own_dc4_7 : decode jdk_42_method_154_code 7 = .ok (.getfield 15, 3) := by decide +kernel
theorem own_dc4_10 : decode jdk_42_method_154_code 10 = .ok (.ifCond .ne 7, 3) := by decide +kernel
theorem own_dc4_13 : decode jdk_42_method_154_code 13 = .ok (.iconst 1, 1) := by decide +kernel
theorem own_dc4_14 : decode jdk_42_method_154_code 14 = .ok (.goto 4, 3) := by decide +kernel
theorem own_dc4_18 : decode jdk_42_method_154_code 18 = .ok (.ireturn, 1) := by decide +kernel
theorem own_c4 (l : Launch) (Z : State) (a0 : Array Value) (hw : own_W a0 Z) (ws : List Jvm.Cond) (a : Nat) (h0 : Heap) (n0 : Nat) (O0 : Old Z n0 h0) (cs : Int32) (hcs : ¬ cs = 0) (SC : Sta Z Z.heap "java/lang/String" "COMPACT_STRINGS" "Z" (.int cs)) (FC : Fld Z h0 a "java/lang/String" "coder" "B" (.int 0)) :
    own_Met l Z h0 (⟨"java/lang/String", "isLatin1", "()Z"⟩ : MethodName) jdk_42_method_154_code 1 (some .boolean) ws (own_R 0 0 0 0) #[.ref a] (fun v h L => v = some (.int 1) ∧ L = [] ∧ h = h0) 0 0 := own_go (by decide +kernel) fun p e s m below meth c s₁ hns hrt hnm hml hZ hx hby hown X0 e0 => by
  show own_G p e below (s₁.setTop (mkF m 0 #[rv a] [])) _
  obtain ⟨T1, X1, e1, s1⟩ := getS X0 hx hZ hown (host := "") (hw 67) Via.refl e0 (Sta.ext O0.2 SC) (g := (mkF m 0 #[rv a] [])) rfl (hb hby own_dc4_0)
  refine oS s1 ?_
  refine oN0 X1 hx hby own_dc4_3 (XT.i0_eq_f hcs) ?_
  refine oAN X1 hx hby own_dc4_6 rfl rfl ?_
  refine own_gF X1 hx hZ hown (hw 21) e1 FC (hb hby own_dc4_7) fun T2 X2 e2 => ?_
  refine oN0 X2 hx hby own_dc4_10 (XT.i0_ne_f (by decide)) ?_
  refine oIC X2 hx hby own_dc4_13 ?_
  refine oGO X2 hx hby (pc' := 18) own_dc4_14 ?_
  exact own_retN X2 hx (t := .boolean) hns hrt (by simp) (hb hby own_dc4_18) (by decide) e2 (by decide) (by decide) ⟨rfl, rfl, rfl⟩
theorem own_dc5_0 : decode jdk_42_method_56_code 0 = .ok (.aload_n 0, 1) := by decide +kernel
theorem own_dc5_1 : decode jdk_42_method_56_code 1 = .ok (.invokevirtual 492, 3) := by decide +kernel
theorem own_dc5_4 : decode jdk_42_method_56_code 4 = .ok (.ifCond .eq 12, 3) := by decide +kernel
theorem own_dc5_7 : decode jdk_42_method_56_code 7 = .ok (.aload_n 0, 1) := by decide +kernel
theorem own_dc5_8 : decode jdk_42_method_56_code 8 = .ok (.getfield 9, 3) := by decide +kernel
theorem own_dc5_11 : decode jdk_42_method_56_code 11 = .ok (.iload_n 1, 1) := by decide +kernel
theorem own_dc5_12 : decode jdk_42_method_56_code 12 = .ok (.invokestatic 495, 3) := by decide +kernel
theorem own_dc5_15 : decode jdk_42_method_56_code 15 = .ok (.ireturn, 1) := by decide +kernel
theorem own_pc4 : parseMethodDescriptor "()Z" = some ⟨[], some .boolean⟩ := by decide +kernel
theorem own_pc3 : parseMethodDescriptor "([BI)C" = some ⟨[.array .byte, .int], some .char⟩ := by decide +kernel
theorem own_c5 (l : Launch) (Z : State) (a0 : Array Value) (hw : own_W a0 Z) (ws : List Jvm.Cond) (a : Nat) (b : Nat) (kk : ClassId) (z : Int32) (vs : List Value) (i q : Int32) (f : Value) (hf : f.isRef = true) (h0 : Heap) (n0 : Nat) (O0 : Old Z n0 h0) (S : Sta Z Z.heap "jdk/internal/util/Preconditions" "SIOOBE_FORMATTER" "Ljava/util/function/BiFunction;" f) (cs : Int32) (hcs : ¬ cs = 0) (SC : Sta Z Z.heap "java/lang/String" "COMPACT_STRINGS" "Z" (.int cs)) (E : Exa Z h0 a "java/lang/String") (FC : Fld Z h0 a "java/lang/String" "coder" "B" (.int 0)) (FV : Fld Z h0 a "java/lang/String" "value" "[B" (.ref b)) (A : Arv Z h0 b kk .byte z vs (.int 0)) (hi : ¬ i < 0 ∧ i < z) (hv : vs.getD i.toNatClampNeg (.int 0) = .int q) :
    own_Met l Z h0 (⟨"java/lang/String", "charAt", "(I)C"⟩ : MethodName) jdk_42_method_56_code 2 (some .char) ws (own_R 3 0 0 40) #[.ref a, .int i] (fun v h L => v = some (.int (own_ch q)) ∧ L = [] ∧ h = h0) 0 0 := own_go (by decide +kernel) fun p e s m below meth c s₁ hns hrt hnm hml hZ hx hby hown X0 e0 => by
  show own_G p e below (s₁.setTop (mkF m 0 #[rv a, iv i] [])) _
  refine oAN X0 hx hby own_dc5_0 rfl rfl ?_
  obtain ⟨T1, h1, v1, L1, X1, e1, q1, s1⟩ := own_callV X0 hx hZ hown e0 (y := ⟨"java/lang/String", "isLatin1", "()Z"⟩) (z := ⟨"java/lang/String", "isLatin1", "()Z"⟩) (C := "java/lang/String") (b := a) (hw 207) (hw 208) (notFace_of_selects (args := #[]) (mvT hZ (hw 210))) (hw 210) (hw 209) (hw 3) (hw 211) (by decide) E (W := 0) (own_c4 l Z a0 hw [] a h0 n0 O0 cs hcs SC FC) (by decide) (by decide) (by decide) (by decide) (g := mkF m 1 #[rv a, iv i] [.ref a]) rfl (by rw [hml]; rfl) (argsL := []) (rest := []) rfl (lenOf own_pc4 rfl) rfl (by show 2 * 0 + _ ≤ _; exact Nat.le_of_eq rfl) (hb hby own_dc5_1)
  refine oS s1 ?_
  obtain ⟨rfl, rfl, rfl⟩ := q1
  refine oN0 X1 hx hby own_dc5_4 (XT.i0_eq_f (by decide)) ?_
  refine oAN X1 hx hby own_dc5_7 rfl rfl ?_
  refine own_gF X1 hx hZ hown (hw 20) e1 FV (hb hby own_dc5_8) fun T2 X2 e2 => ?_
  refine oIN X2 hx hby own_dc5_11 rfl ?_
  obtain ⟨T3, h3, v3, L3, X3, e3, q3, s3⟩ := own_callS X2 hx hZ hown e2 (y := ⟨"java/lang/StringLatin1", "charAt", "([BI)C"⟩) (hw 212) (hw 213) (hw 214) (hw 215) (by decide) (W := 0) (own_c3 l Z a0 hw [] b kk z vs i q f hf _ n0 O0 S A hi hv) (by decide) (by decide) (by decide) (by decide) (g := mkF m 12 #[rv a, iv i] [.int i, .ref b]) rfl (by rw [hml]; rfl) (argsL := [.ref b, .int i]) (rest := []) rfl (lenOf own_pc3 rfl) rfl (by show 2 * 0 + _ ≤ _; exact Nat.le_of_eq rfl) (hb hby own_dc5_12)
  refine oS s3 ?_
  obtain ⟨rfl, rfl, rfl⟩ := q3
  exact own_retN X3 hx (t := .char) hns hrt (by simp) (hb hby own_dc5_15) (own_narC _) e3 (by decide) (by decide) ⟨rfl, rfl, rfl⟩
theorem own_dc6_0 : decode method_3_code 0 = .ok (.aload_n 0, 1) := by decide +kernel
theorem own_dc6_1 : decode method_3_code 1 = .ok (.iload_n 1, 1) := by decide +kernel
theorem own_dc6_2 : decode method_3_code 2 = .ok (.iload_n 3, 1) := by decide +kernel
theorem own_dc6_3 : decode method_3_code 3 = .ok (.iadd, 1) := by decide +kernel
theorem own_dc6_4 : decode method_3_code 4 = .ok (.invokevirtual 28, 3) := by decide +kernel
theorem own_dc6_7 : decode method_3_code 7 = .ok (.aload_n 2, 1) := by decide +kernel
theorem own_dc6_8 : decode method_3_code 8 = .ok (.iload_n 3, 1) := by decide +kernel
theorem own_dc6_9 : decode method_3_code 9 = .ok (.invokevirtual 28, 3) := by decide +kernel
theorem own_dc6_12 : decode method_3_code 12 = .ok (.if_icmp .ne 7, 3) := by decide +kernel
theorem own_dc6_15 : decode method_3_code 15 = .ok (.iconst 1, 1) := by decide +kernel
theorem own_dc6_16 : decode method_3_code 16 = .ok (.goto 4, 3) := by decide +kernel
theorem own_dc6_20 : decode method_3_code 20 = .ok (.ireturn, 1) := by decide +kernel
theorem own_pc5 : parseMethodDescriptor "(I)C" = some ⟨[.int], some .char⟩ := by decide +kernel
theorem own_c6 (l : Launch) (Z : State) (a0 : Array Value) (hw : own_W a0 Z) (ws : List Jvm.Cond) (a1 a2 b1 b2 : Nat) (k1 k2 : ClassId) (z1 z2 : Int32) (vs1 vs2 : List Value) (n k q : Int32) (f : Value) (hf : f.isRef = true) (h0 : Heap) (n0 : Nat) (O0 : Old Z n0 h0) (S : Sta Z Z.heap "jdk/internal/util/Preconditions" "SIOOBE_FORMATTER" "Ljava/util/function/BiFunction;" f) (cs : Int32) (hcs : ¬ cs = 0) (SC : Sta Z Z.heap "java/lang/String" "COMPACT_STRINGS" "Z" (.int cs))
    (E1 : Exa Z h0 a1 "java/lang/String") (FC1 : Fld Z h0 a1 "java/lang/String" "coder" "B" (.int 0)) (FV1 : Fld Z h0 a1 "java/lang/String" "value" "[B" (.ref b1)) (A1 : Arv Z h0 b1 k1 .byte z1 vs1 (.int 0)) (hi1 : ¬ (n + k) < 0 ∧ (n + k) < z1) (hv1 : vs1.getD (n + k).toNatClampNeg (.int 0) = .int q)
    (E2 : Exa Z h0 a2 "java/lang/String") (FC2 : Fld Z h0 a2 "java/lang/String" "coder" "B" (.int 0)) (FV2 : Fld Z h0 a2 "java/lang/String" "value" "[B" (.ref b2)) (A2 : Arv Z h0 b2 k2 .byte z2 vs2 (.int 0)) (hi2 : ¬ k < 0 ∧ k < z2) (hv2 : vs2.getD k.toNatClampNeg (.int 0) = .int q) :
    own_Met l Z h0 (⟨"com/example/keelrate/keelrate/cli/InputFileNotUtf8PinLaw", "at", "(Ljava/lang/String;ILjava/lang/String;I)Z"⟩ : MethodName) method_3_code 4 (some .boolean) ws (own_R 4 0 0 54) #[.ref a1, .int n, .ref a2, .int k] (fun v h L => v = some (.int 1) ∧ L = [] ∧ h = h0) 0 0 := own_go (by decide +kernel) fun p e s m below meth c s₁ hns hrt hnm hml hZ hx hby hown X0 e0 => by
  show own_G p e below (s₁.setTop (mkF m 0 #[rv a1, iv n, rv a2, iv k] [])) _
  refine oAN X0 hx hby own_dc6_0 rfl rfl ?_
  refine oIN X0 hx hby own_dc6_1 rfl ?_
  refine oIN X0 hx hby own_dc6_2 rfl ?_
  refine oS (fun _ => XS.iadd X0.here hx rfl (hb hby own_dc6_3) rfl) ?_
  obtain ⟨T1, h1, v1, L1, X1, e1, q1, s1⟩ := own_callV X0 hx hZ hown e0 (y := ⟨"java/lang/String", "charAt", "(I)C"⟩) (z := ⟨"java/lang/String", "charAt", "(I)C"⟩) (C := "java/lang/String") (b := a1) (hw 202) (hw 203) (notFace_of_selects (args := #[]) (mvT hZ (hw 205))) (hw 205) (hw 204) (hw 3) (hw 206) (by decide) E1 (W := 0) (own_c5 l Z a0 hw [] a1 b1 k1 z1 vs1 (n + k) q f hf _ n0 O0 S cs hcs SC E1 FC1 FV1 A1 hi1 hv1) (by decide) (by decide) (by decide) (by decide) (g := mkF m 4 #[rv a1, iv n, rv a2, iv k] [.int (n + k), .ref a1]) rfl (by rw [hml]; rfl) (argsL := [.int (n + k)]) (rest := []) rfl (lenOf own_pc5 rfl) rfl (by show 2 * 0 + _ ≤ _; exact Nat.le_of_eq rfl) (hb hby own_dc6_4)
  refine oS s1 ?_
  obtain ⟨rfl, rfl, rfl⟩ := q1
  refine oAN X1 hx hby own_dc6_7 rfl rfl ?_
  refine oIN X1 hx hby own_dc6_8 rfl ?_
  obtain ⟨T2, h2, v2, L2, X2, e2, q2, s2⟩ := own_callV X1 hx hZ hown e1 (y := ⟨"java/lang/String", "charAt", "(I)C"⟩) (z := ⟨"java/lang/String", "charAt", "(I)C"⟩) (C := "java/lang/String") (b := a2) (hw 202) (hw 203) (notFace_of_selects (args := #[]) (mvT hZ (hw 205))) (hw 205) (hw 204) (hw 3) (hw 206) (by decide) E2 (W := 1) (own_c5 l Z a0 hw [] a2 b2 k2 z2 vs2 k q f hf _ n0 O0 S cs hcs SC E2 FC2 FV2 A2 hi2 hv2) (by decide) (by decide) (by decide) (by decide) (g := mkF m 9 #[rv a1, iv n, rv a2, iv k] [.int k, .ref a2, .int (own_ch q)]) rfl (by rw [hml]; rfl) (argsL := [.int (k)]) (rest := [.int (own_ch q)]) rfl (lenOf own_pc5 rfl) rfl (by show 2 * 0 + _ ≤ _; exact Nat.le_of_eq rfl) (hb hby own_dc6_9)
  refine oS s2 ?_
  obtain ⟨rfl, rfl, rfl⟩ := q2
  refine oNI X2 hx hby own_dc6_12 (XT.ii_ne_f rfl) ?_
  refine oIC X2 hx hby own_dc6_15 ?_
  refine oGO X2 hx hby (pc' := 20) own_dc6_16 ?_
  exact own_retN X2 hx (t := .boolean) hns hrt (by simp) (hb hby own_dc6_20) (by decide) e2 (by decide) (by decide) ⟨rfl, rfl, rfl⟩
theorem own_chb {c : Int32} (h1 : ¬ (c < 0)) (h2 : ¬ (255 < c)) : own_ch (c.toInt8.toInt32) = c := by
  have cx := c_i2b c
  have e := Jvm.Kit.i32_mask (c.toInt8.toInt32) 255 (k := 8) (by decide) (by decide)
  rw [Int32.lt_iff_toInt_lt] at h1 h2
  have e0 : (0 : Int32).toInt = 0 := rfl
  have e1 : (255 : Int32).toInt = 255 := rfl
  show (c.toInt8.toInt32 &&& 255).toUInt32.toUInt16.toUInt32.toInt32 = c
  rw [own_mk3]
  apply Int32.toInt_inj.mp
  rw [e]; omega
end OwnChar
theorem own_and3 (x : Int32) : 0 ≤ (x &&& 3).toInt ∧ (x &&& 3).toInt < 4 := by
  have e := Jvm.Kit.i32_mask x 3 (k := 2) (by decide) (by decide)
  rw [e]; omega
set_option maxRecDepth 65536
set_option maxHeartbeats 40000000
abbrev B0 := jdk_42_method_3_code
abbrev B1 := jdk_42_method_149_code
abbrev B2 := prog_20_method_3_code
abbrev B3 := jdk_67_method_1_code
abbrev B4 := jdk_68_method_2_code
abbrev B5 := jdk_67_method_7_code
abbrev B6 := jdk_68_method_22_code
abbrev B7 := jdk_42_method_54_code
abbrev B8 := jdk_42_method_152_code
abbrev B9 := jdk_68_method_9_code
abbrev B00 := jdk_68_method_73_code
abbrev B01 := jdk_68_method_71_code
abbrev B02 := jdk_42_method_147_code
abbrev B03 := jdk_67_method_42_code
abbrev B04 := jdk_42_method_53_code
abbrev B05 := jdk_42_method_150_code
abbrev B06 := jdk_68_method_64_code
abbrev B07 := jdk_67_method_93_code
abbrev B08 := jdk_68_method_6_code
abbrev B09 := jdk_68_method_68_code
abbrev B0a := jdk_65_method_132_code
abbrev B0b := jdk_78_method_6_code
abbrev B0c := jdk_52_method_16_code
abbrev B0d := jdk_52_method_21_code
abbrev B0e := jdk_52_method_15_code
abbrev B0f := jdk_68_method_10_code
abbrev B0g := jdk_48_method_27_code
abbrev B0h := jdk_29_method_65_code
abbrev B0i := jdk_65_method_121_code
abbrev B0j := jdk_29_method_69_code
abbrev B0k := jdk_65_method_133_code
abbrev B0l := jdk_65_method_131_code
abbrev mN0 : MethodName := ⟨"java/lang/String", "<init>", "([CIILjava/lang/Void;)V"⟩
abbrev mN1 : MethodName := ⟨"java/lang/String", "<init>", "([C)V"⟩
abbrev mN2 : MethodName := ⟨"java/lang/AbstractStringBuilder", "<init>", "(I)V"⟩
abbrev mN3 : MethodName := ⟨"java/lang/StringBuilder", "<init>", "()V"⟩
abbrev mN4 : MethodName := ⟨"java/lang/String", "coder", "()B"⟩
abbrev mN5 : MethodName := ⟨"java/lang/String", "length", "()I"⟩
abbrev mN6 : MethodName := ⟨"java/lang/AbstractStringBuilder", "ensureCapacityInternal", "(I)V"⟩
abbrev mN7 : MethodName := ⟨"java/lang/AbstractStringBuilder", "inflateIfNeededFor", "(Ljava/lang/String;)V"⟩
abbrev mN8 : MethodName := ⟨"java/lang/String", "getBytes", "([BIB)V"⟩
abbrev mN9 : MethodName := ⟨"java/lang/AbstractStringBuilder", "putStringAt", "(ILjava/lang/String;)V"⟩
abbrev mN10 : MethodName := ⟨"java/lang/AbstractStringBuilder", "append", "(Ljava/lang/String;)Ljava/lang/AbstractStringBuilder;"⟩
abbrev mN11 : MethodName := ⟨"java/lang/StringBuilder", "append", "(Ljava/lang/String;)Ljava/lang/StringBuilder;"⟩
abbrev mN12 : MethodName := ⟨"java/lang/AbstractStringBuilder", "getValue", "()[B"⟩
abbrev mN13 : MethodName := ⟨"java/lang/AbstractStringBuilder", "length", "()I"⟩
abbrev mN14 : MethodName := ⟨"java/lang/StringBuilder", "length", "()I"⟩
abbrev mN15 : MethodName := ⟨"java/lang/AbstractStringBuilder", "isLatin1", "()Z"⟩
abbrev mN16 : MethodName := ⟨"java/util/Arrays", "copyOfRange", "([BII)[B"⟩
abbrev mN17 : MethodName := ⟨"java/lang/String", "<init>", "(Ljava/lang/AbstractStringBuilder;Ljava/lang/Void;)V"⟩
abbrev mN18 : MethodName := ⟨"java/lang/String", "<init>", "(Ljava/lang/StringBuilder;)V"⟩
abbrev mN19 : MethodName := ⟨"java/lang/StringBuilder", "toString", "()Ljava/lang/String;"⟩
abbrev mN20 : MethodName := ⟨"com/example/keelrate/keelrate/cli/InputFile", "notUtf8", "(Ljava/lang/String;)Lcom/example/keelrate/keelrate/InputRefusedException;"⟩
abbrev mN21 : MethodName := ⟨"java/lang/Throwable", "getMessage", "()Ljava/lang/String;"⟩
abbrev mN22 : MethodName := ⟨"java/lang/StringUTF16", "compress", "([CI[BII)I"⟩
abbrev mN23 : MethodName := ⟨"java/lang/StringUTF16", "compress", "([CII)[B"⟩
abbrev mN24 : MethodName := ⟨"java/lang/StringUTF16", "coderFromArrayLen", "([BI)B"⟩
abbrev mN25 : MethodName := ⟨"java/lang/Math", "max", "(II)I"⟩
abbrev mN26 : MethodName := ⟨"jdk/internal/util/ArraysSupport", "newLength", "(III)I"⟩
abbrev mN27 : MethodName := ⟨"java/lang/AbstractStringBuilder", "newCapacity", "(I)I"⟩
abbrev mN28 : MethodName := ⟨"java/lang/Math", "min", "(II)I"⟩
abbrev mN29 : MethodName := ⟨"java/util/Arrays", "copyOf", "([BI)[B"⟩
abbrev mN30 : MethodName := ⟨"java/util/Arrays", "checkLength", "(II)V"⟩
abbrev mN31 : MethodName := ⟨"java/util/Arrays", "copyOfRangeByte", "([BII)[B"⟩
abbrev mN32 : MethodName := ⟨"com/example/keelrate/keelrate/InputRefusedException", "getMessage", "()Ljava/lang/String;"⟩
abbrev cN0 : String := "com/example/keelrate/keelrate/cli/InputFile"
abbrev cN1 : String := "com/example/keelrate/keelrate/cli/InputFileNotUtf8PinLaw"
abbrev cN2 : String := "java/lang/String"
abbrev cN3 : String := "java/lang/AbstractStringBuilder"
abbrev cN4 : String := "java/lang/StringBuilder"
abbrev cN5 : String := "com/example/keelrate/keelrate/InputRefusedException"
abbrev cN6 : String := "java/lang/Throwable"
abbrev cN7 : String := "Ljava/lang/String;"
abbrev cN8 : String := "UNASSIGNED_STACK"
abbrev cN9 : String := "[Ljava/lang/StackTraceElement;"
abbrev cN10 : String := "SUPPRESSED_SENTINEL"
abbrev cN11 : String := "Ljava/util/List;"
abbrev cN12 : String := "Ljava/lang/Throwable;"
abbrev cN13 : String := "java/lang/StackTraceElement"
abbrev cN14 : String := "suppressedExceptions"
abbrev cN15 : String := "Ljava/lang/Object;"
abbrev cN16 : String := "java/lang/Object"
abbrev own_EL : List (String × Nat) := [(cN0, 103), (cN1, 32), (cN2, 7)]
theorem own_ef0 (m : MethodId) (x0 : Int32) (x1 : Int32) (x2 : Int32) (x3 : Int32) : entryFrame m #[(.int x0), (.int x1), (.int x2), (.int x3)] maxLocals = mkF m 0 #[.val (.int x0), .val (.int x1), .val (.int x2), .val (.int x3), .unset, .unset, .unset, .unset, .unset, .unset, .unset, .unset, .unset, .unset] [] := by first | (simp [entryFrame, mkF, argsToLocals, Value.category, maxLocals]; done) | rfl
theorem own_ef1 (m : MethodId) (x0 : Addr) (x1 : Addr) : entryFrame m #[(.ref x0), (.ref x1)] 2 = mkF m 0 #[.val (.ref x0), .val (.ref x1)] [] := by first | (simp [entryFrame, mkF, argsToLocals, Value.category]; done) | rfl
theorem dd0_0 : decode B0 0 = .ok (.aload_n 0, 1) := by decide +kernel
theorem dd0_1 : decode B0 1 = .ok (.aload_n 1, 1) := by decide +kernel
theorem dd0_2 : decode B0 2 = .ok (.iconst 0, 1) := by decide +kernel
theorem dd0_3 : decode B0 3 = .ok (.aload_n 1, 1) := by decide +kernel
theorem dd0_4 : decode B0 4 = .ok (.arraylength, 1) := by decide +kernel
theorem dd0_5 : decode B0 5 = .ok (.aconst_null, 1) := by decide +kernel
theorem own_ef2 (m : MethodId) (x0 : Addr) (x1 : Addr) (x2 : Int32) (x3 : Int32) : entryFrame m #[(.ref x0), (.ref x1), (.int x2), (.int x3), .null] 6 = mkF m 0 #[.val (.ref x0), .val (.ref x1), .val (.int x2), .val (.int x3), .val .null, .unset] [] := by first | (simp [entryFrame, mkF, argsToLocals, Value.category]; done) | rfl
theorem dd1_0 : decode B1 0 = .ok (.aload_n 0, 1) := by decide +kernel
theorem dd1_1 : decode B1 1 = .ok (.invokespecial 1, 3) := by decide +kernel
theorem dd1_4 : decode B1 4 = .ok (.iload_n 3, 1) := by decide +kernel
theorem dd1_5 : decode B1 5 = .ok (.ifCond .ne 22, 3) := by decide +kernel
theorem dd1_8 : decode B1 8 = .ok (.aload_n 0, 1) := by decide +kernel
theorem dd1_9 : decode B1 9 = .ok (.ldc 7, 2) := by decide +kernel
theorem dd1_11 : decode B1 11 = .ok (.getfield 9, 3) := by decide +kernel
theorem dd1_14 : decode B1 14 = .ok (.putfield 9, 3) := by decide +kernel
theorem dd1_17 : decode B1 17 = .ok (.aload_n 0, 1) := by decide +kernel
theorem dd1_18 : decode B1 18 = .ok (.ldc 7, 2) := by decide +kernel
theorem dd1_20 : decode B1 20 = .ok (.getfield 15, 3) := by decide +kernel
theorem dd1_23 : decode B1 23 = .ok (.putfield 15, 3) := by decide +kernel
theorem dd1_26 : decode B1 26 = .ok (.return_, 1) := by decide +kernel
def own_Q6 (Z : State) (ob_59 : Nat) (ob_44 : Nat) (kk_42 : ClassId) (h0 : Heap) (n0 : Nat) (vm : Vm) (v : Option Value) (h : Heap) (L : List Loc) : Prop := (∃ ob_91 : Nat, ∃ kk_92 : ClassId, v = none ∧ Fr n0 L ∧ Keep h0 h [ob_59] ∧ Fld Z h ob_59 cN2 "value" "[B" (.ref ob_91) ∧ Exa Z h ob_59 cN2 ∧ Fld Z h ob_59 cN2 "coder" "B" (.int 0) ∧ Arv Z h ob_91 kk_92 .byte 0 [] (.int 0) ∧ @LT.lt Nat instLTNat ob_91 h.size)
theorem own_pn0 : plainFor mN0 = true := by decide +kernel
theorem own_rm6 (l : Launch) (Z : State) (a0 : Array Value) (hw : own_W a0 Z) (hEL : EW Z a0 own_EL) (ws : List Jvm.Cond) (o0 : Nat) (o1 : Nat) (m0 : ClassId) (h0 : Heap) (n0 : Nat) (Z0 : n0 ≤ h0.size) (O0 : Old Z n0 h0) (I5 : @LT.lt Nat instLTNat o0 h0.size) (I1 : Arv Z h0 o1 m0 .char 0 [] (.int 0)) (I2 : Fld Z h0 o0 cN2 "value" "[B" .null) (I3 : Exa Z h0 o0 cN2) (I0 : n0 ≤ o0) (I6 : @LT.lt Nat instLTNat o1 h0.size) (I4 : Fld Z h0 o0 cN2 "coder" "B" (.int 0)) :
 own_MetW l Z own_EL [o0] h0 mN0 B1 6 (Option.none : Option FieldType) ws ({ frames := 1, cells := 4, slots := 8, locals := 12 } : Room) #[(.ref o0), (.ref o1), (.int 0), (.int 0), .null] (own_Q6 Z o0 o1 m0 h0 n0) 4 8 := by
 refine MetFree.of_bodySF own_pn0 hisR ?_
 intro p e s m args below meth c s₁ Bd hml0 hP hK
 obtain ⟨rfl, hZ, hh, hCH, hsf⟩ := hP
 have hx := Bd.exec
 have hby := Bd.bytes
 have hml : c.maxLocals = 6 := hml0
 have hown : (s.setVm s.vm).vm.findClass cN2 = some m.cls := findClass_of_methodNamed Bd.named
 have hnm := (name_of_methodNamed Bd.named Bd.method).1
 have hZ : Z.Warmed39 (s.setVm s.vm).vm := hZ
 have hS : s.Since s.vm 0 := (State.WarmedH.refl s).since 0
 have X2 : Stand p l e ({ frames := 1, cells := 4, slots := 8, locals := 12 } : Room) (s.setVm s.vm) m #[(.ref o0), (.ref o1), (.int 0), (.int 0), .null] below meth c s₁ [] 0 0 := Stand.of_body Bd
 have e0 : s₁.heap = h0 := by rw [← hh, Bd.state]; rfl
 have hR : CHr Z own_EL s.vm h0 s.vm h0 := CHr.refl hCH
 have N1 := Fr.nil n0
 show own_G p e below (s₁.setTop (entryFrame m #[(.ref o0), (.ref o1), (.int 0), (.int 0), .null] 6)) (own_PW Z own_EL s (own_Q6 Z o0 o1 m0 h0 n0) 4 8)
 refine own_cast (own_ef2 m o0 o1 0 0) ?_
 show own_G p e below (s₁.setTop (mkF m 0 #[rv o0, rv o1, iv 0, iv 0, .val .null, .unset] [])) _
 refine oS (fun _ => XS.aloadN X2.here hx rfl (hb hby dd1_0) rfl rfl) ?_
 obtain ⟨T2, X0, e1, s0⟩ := initO X2 hx hZ hown (hw 11) (hw 12) (hw 13) e0 (g := (mkF m 1 #[rv o0, rv o1, iv 0, iv 0, .val .null, .unset] [(.ref o0)])) rfl (by rw [hml]; rfl) rfl (hb hby dd1_1) (by decide) (W := 0) (by show 2 * 0 + _ ≤ _; exact Nat.le_of_eq rfl) (by decide)
 refine oS s0 ?_
 refine oS (fun _ => XS.iloadN X0.here hx rfl (hb hby dd1_4) rfl) ?_
 refine oS (fun _ => XS.ifNo X0.here hx rfl (hb hby dd1_5) rfl (XT.i0_ne_f (by decide))) ?_
 refine oS (fun _ => XS.aloadN X0.here hx rfl (hb hby dd1_8) rfl rfl) ?_
 obtain ⟨o3, T0, h1, k0, o2, m1, X4, e2, E0, hS, hk, hZ, hown, F03, F04, F4, F5, y0, y1, A1, L0, M0, s1⟩ := ldcCH X0 hx hZ hown (hw 14) (own_sk (own_Wall hw)) e1 hS (by omega) hEL (by decide) hR.1 (vs := []) (z := 0) ⟨by decide, by decide +kernel⟩ (by decide) rfl (g := (mkF m 9 #[rv o0, rv o1, iv 0, iv 0, .val .null, .unset] [(.ref o0)])) rfl (hb hby dd1_9) (n := 0) (by decide) (by decide) (by decide) (by decide)
 have z0 := E0.1
 refine oS s1 ?_
 have R0 : CHr Z own_EL s.vm h0 T0.vm h1 := hR.trans A1
 have y8 : @LT.lt Nat instLTNat o3 h1.size := y0
 have y9 : @LT.lt Nat instLTNat o2 h1.size := y1
 have y2 : @LT.lt Nat instLTNat o0 h0.size := by omega
 have S0 := A1.safe y2 (hsf o0 (by simp))
 have N4 : @Ne Nat o0 o3 := (M0 o0 S0).1
 have N0 : @Ne Nat o0 o2 := (M0 o0 S0).2
 have F6 := I1.ext E0
 have S1 : Safe Z own_EL T0.vm h1 o1 := Safe.arv hZ.alike F6 (by decide)
 have N5 : @Ne Nat o1 o3 := (M0 o1 S1).1
 have N6 : @Ne Nat o1 o2 := (M0 o1 S1).2
 show own_G p e below (T0.setTop (mkF m 11 #[rv o0, rv o1, iv 0, iv 0, .val .null, .unset] [(.ref o3), (.ref o0)])) _
 obtain ⟨T3, X5, e3, s2⟩ := getF X4 hx hZ hown (host := "") (Or.inl (hw 20)) Via.refl e2 F4 (g := (mkF m 11 #[rv o0, rv o1, iv 0, iv 0, .val .null, .unset] [(.ref o3), (.ref o0)])) rfl rfl (hb hby dd1_11)
 refine oS s2 ?_
 have F0 := Fld.ext E0 I2
 have F1 := Exa.ext E0 I3
 obtain ⟨T4, h2, X1, e4, W0, s3⟩ := putF X5 hx hZ hown (host := "") (Or.inl (hw 20)) Via.refl e3 F0 F1 (Or.inr ⟨(hw 16), rfl, hnm⟩) (hw 2) (ty := (.array .byte)) (by decide) rfl rfl (g := (mkF m 14 #[rv o0, rv o1, iv 0, iv 0, .val .null, .unset] [(.ref o2), (.ref o0)])) rfl rfl (hb hby dd1_14)
 have N2 := Fr.snoc X1 N1 I0
 have z1 := W0.size
 have F7 := Fld.same W0 F0
 refine oS s3 ?_
 have R1 : CHr Z own_EL s.vm h0 T0.vm h2 := R0.trans (CHr.wr W0 S0 R0.1)
 refine oS (fun _ => XS.aloadN X1.here hx rfl (hb hby dd1_17) rfl rfl) ?_
 obtain ⟨o4, T1, h3, k1, o5, m2, X6, e5, E1, hS, hk, hZ, hown, F05, F8, F06, F07, y3, y4, A0, L1, M1, s4⟩ := ldcCH X1 hx hZ hown (hw 14) (own_sk (own_Wall hw)) e4 hS (by omega) hEL (by decide) R1.1 (vs := []) (z := 0) ⟨by decide, by decide +kernel⟩ (by decide) rfl (g := (mkF m 18 #[rv o0, rv o1, iv 0, iv 0, .val .null, .unset] [(.ref o0)])) rfl (hb hby dd1_18) (n := 0) (by decide) (by decide) (by decide) (by decide)
 have z2 := E1.1
 refine oS s4 ?_
 have R2 : CHr Z own_EL s.vm h0 T1.vm h3 := R1.trans A0
 have y00 : @LT.lt Nat instLTNat o4 h3.size := y3
 have y01 : @LT.lt Nat instLTNat o5 h3.size := y4
 have S4 := Safe.wr W0 S0 R0.1 S0
 have y5 : @LT.lt Nat instLTNat o0 h2.size := by omega
 have S2 := A0.safe y5 S4
 have N7 : @Ne Nat o0 o4 := (M1 o0 S2).1
 have N8 : @Ne Nat o0 o5 := (M1 o0 S2).2
 have S5 := Safe.wr W0 S0 R0.1 S1
 have y6 : @LT.lt Nat instLTNat o1 h2.size := by omega
 have S3 := A0.safe y6 S5
 have N9 : @Ne Nat o1 o4 := (M1 o1 S3).1
 have N00 : @Ne Nat o1 o5 := (M1 o1 S3).2
 show own_G p e below (T1.setTop (mkF m 20 #[rv o0, rv o1, iv 0, iv 0, .val .null, .unset] [(.ref o4), (.ref o0)])) _
 obtain ⟨T5, X7, e6, s5⟩ := getF X6 hx hZ hown (host := "") (Or.inl (hw 21)) Via.refl e5 F8 (g := (mkF m 20 #[rv o0, rv o1, iv 0, iv 0, .val .null, .unset] [(.ref o4), (.ref o0)])) rfl rfl (hb hby dd1_20)
 refine oS s5 ?_
 have F2 := Fld.ext E1 (Fld.other W0 (Fld.ext E0 I4) (Or.inr (slot_ne (C := cN2) (Or.inr (hw 17)) (Or.inr (hw 16)) (by decide) (t := .byte) (t' := (.array .byte)) (by decide) (by decide))))
 have F3 := Exa.ext E1 (Exa.wr W0 F1)
 obtain ⟨T6, h4, X3, e7, W1, s6⟩ := putF X7 hx hZ hown (host := "") (Or.inl (hw 21)) Via.refl e6 F2 F3 (Or.inr ⟨(hw 17), rfl, hnm⟩) (hw 2) (ty := .byte) (by decide) (by decide) (by decide) (g := (mkF m 23 #[rv o0, rv o1, iv 0, iv 0, .val .null, .unset] [(.int 0), (.ref o0)])) rfl rfl (hb hby dd1_23)
 have N3 := Fr.snoc X3 N2 I0
 have z3 := W1.size
 have F9 := Fld.same W1 F2
 refine oS s6 ?_
 have R3 : CHr Z own_EL s.vm h0 T1.vm h4 := R2.trans (CHr.wr W1 S2 R2.1)
 have F00 := Fld.other W1 (Fld.ext E1 F7) (Or.inr (slot_ne (C := cN2) (Or.inr (hw 16)) (Or.inr (hw 17)) (by decide) (t := (.array .byte)) (t' := .byte) (by decide) (by decide)))
 have F01 := Exa.wr W1 F3
 have F02 := ((F5.other W0 (Ne.symm N0)).ext E1).other W1 (Ne.symm N0)
 have y7 : @LT.lt Nat instLTNat o2 h4.size := by omega
 have K0 : Keep h0 h4 [o0] := (((((Keep.refl h0 [o0]).ext E0).wr W0 (Or.inl (by simp))).ext E1).wr W1 (Or.inl (by simp)))
 exact own_retVW X3 hx Bd.notSynchronized Bd.returns (hb hby dd1_26) hS hZ hEL hh R3 e7 (by omega) (by decide) (by decide) (fun hA => ⟨o2, m1, rfl, N3, K0, F00, F01, F9, F02, y7⟩)
theorem own_pd0 : parseMethodDescriptor "([CIILjava/lang/Void;)V" = some ⟨[(.array .char), .int, .int, (.object "java/lang/Void")], none⟩ := by decide +kernel
theorem dd0_6 : decode B0 6 = .ok (.invokespecial 27, 3) := by decide +kernel
theorem dd0_9 : decode B0 9 = .ok (.return_, 1) := by decide +kernel
def own_Q4 (Z : State) (ob_59 : Nat) (ob_44 : Nat) (kk_42 : ClassId) (h0 : Heap) (n0 : Nat) (vm : Vm) (v : Option Value) (h : Heap) (L : List Loc) : Prop := (∃ ob_209 : Nat, ∃ kk_210 : ClassId, v = none ∧ Fr n0 L ∧ Keep h0 h [ob_59] ∧ Fld Z h ob_59 cN2 "value" "[B" (.ref ob_209) ∧ Exa Z h ob_59 cN2 ∧ Fld Z h ob_59 cN2 "coder" "B" (.int 0) ∧ Arv Z h ob_209 kk_210 .byte 0 [] (.int 0) ∧ @LT.lt Nat instLTNat ob_209 h.size)
theorem own_pn1 : plainFor mN1 = true := by decide +kernel
theorem own_rm4 (l : Launch) (Z : State) (a0 : Array Value) (hw : own_W a0 Z) (hEL : EW Z a0 own_EL) (ws : List Jvm.Cond) (o0 : Nat) (o1 : Nat) (m0 : ClassId) (h0 : Heap) (n0 : Nat) (Z0 : n0 ≤ h0.size) (O0 : Old Z n0 h0) (I0 : Arv Z h0 o1 m0 .char 0 [] (.int 0)) (I1 : @LT.lt Nat instLTNat o0 h0.size) (I2 : Fld Z h0 o0 cN2 "value" "[B" .null) (I3 : Exa Z h0 o0 cN2) (I4 : n0 ≤ o0) (I6 : @LT.lt Nat instLTNat o1 h0.size) (I5 : Fld Z h0 o0 cN2 "coder" "B" (.int 0)) :
 own_MetW l Z own_EL [o0] h0 mN1 B0 2 (Option.none : Option FieldType) ws ({ frames := 2, cells := 4, slots := 8, locals := 29 } : Room) #[(.ref o0), (.ref o1)] (own_Q4 Z o0 o1 m0 h0 n0) 4 8 := by
 refine MetFree.of_bodySF own_pn1 hisR ?_
 intro p e s m args below meth c s₁ Bd hml0 hP hK
 obtain ⟨rfl, hZ, hh, hCH, hsf⟩ := hP
 have hx := Bd.exec
 have hby := Bd.bytes
 have hml : c.maxLocals = 2 := hml0
 have hown : (s.setVm s.vm).vm.findClass cN2 = some m.cls := findClass_of_methodNamed Bd.named
 have hnm := (name_of_methodNamed Bd.named Bd.method).1
 have hZ : Z.Warmed39 (s.setVm s.vm).vm := hZ
 have hS : s.Since s.vm 0 := (State.WarmedH.refl s).since 0
 have X0 : Stand p l e ({ frames := 2, cells := 4, slots := 8, locals := 29 } : Room) (s.setVm s.vm) m #[(.ref o0), (.ref o1)] below meth c s₁ [] 0 0 := Stand.of_body Bd
 have e0 : s₁.heap = h0 := by rw [← hh, Bd.state]; rfl
 have hR : CHr Z own_EL s.vm h0 s.vm h0 := CHr.refl hCH
 have N0 := Fr.nil n0
 show own_G p e below (s₁.setTop (entryFrame m #[(.ref o0), (.ref o1)] 2)) (own_PW Z own_EL s (own_Q4 Z o0 o1 m0 h0 n0) 4 8)
 refine own_cast (own_ef1 m o0 o1) ?_
 show own_G p e below (s₁.setTop (mkF m 0 #[rv o0, rv o1] [])) _
 refine oS (fun _ => XS.aloadN X0.here hx rfl (hb hby dd0_0) rfl rfl) ?_
 refine oS (fun _ => XS.aloadN X0.here hx rfl (hb hby dd0_1) rfl rfl) ?_
 refine oS (fun _ => XS.iconst X0.here hx rfl (hb hby dd0_2) ) ?_
 refine oS (fun _ => XS.aloadN X0.here hx rfl (hb hby dd0_3) rfl rfl) ?_
 refine oS (own_len X0 hx hZ e0 I0 rfl rfl (hb hby dd0_4)) ?_
 refine oS (fun _ => XS.aconstNull X0.here hx rfl (hb hby dd0_5) ) ?_
 have y0 : @LT.lt Nat instLTNat o0 h0.size := by omega
 have y1 : @LT.lt Nat instLTNat o1 h0.size := by omega
 obtain ⟨T0, h1, v0, L0, X1, e1, q0, hS, hZ, hown, A0, s0⟩ := own_callNW X0 hx hZ hown e0 (y := mN0) (b := o0) (sf := [o0]) rfl (hw 7) (hw 8) (hw 3) (hw 10) (by decide) hS (by omega) hEL hR.1 (sfS (hsf o0 (by simp)) sf0) (allS I1 all0) (W := 0) (own_rm6 l Z a0 hw hEL [] o0 o1 m0 h0 n0 Z0 O0 y0 I0 I2 I3 I4 y1 I5) (by decide) (by decide) (by decide) (by decide) (g := (mkF m 6 #[rv o0, rv o1] [.null, (.int 0), (.int 0), (.ref o1), (.ref o0)])) rfl (by rw [hml]; rfl) (argsL := [(.ref o1), (.int 0), (.int 0), .null]) (rest := []) rfl (lenOf own_pd0 rfl) rfl (by show 2 * 0 + _ ≤ _; exact Nat.le_of_eq rfl) (hb hby dd0_6)
 refine oS s0 ?_
 obtain ⟨o2, m1, rfl, N1, K0, F0, F1, F2, F3, F4⟩ := q0
 have N2 := Fr.app N0 N1
 have R0 : CHr Z own_EL s.vm h0 T0.vm h1 := hR.trans A0
 have z0 := K0.1
 have K1 : Keep h0 h1 [o0] := ((Keep.refl h0 [o0]).trans K0 (allS (Or.inl (by simp)) all0))
 exact own_retVW X1 hx Bd.notSynchronized Bd.returns (hb hby dd0_9) hS hZ hEL hh R0 e1 (by omega) (by decide) (by decide) (fun hA => ⟨o2, m1, rfl, N2, K1, F0, F1, F2, F3, F4⟩)
theorem own_pd1 : parseMethodDescriptor "([C)V" = some ⟨[(.array .char)], none⟩ := by decide +kernel
theorem own_ef3 (m : MethodId) (x0 : Addr) : entryFrame m #[(.ref x0)] 1 = mkF m 0 #[.val (.ref x0)] [] := by first | (simp [entryFrame, mkF, argsToLocals, Value.category]; done) | rfl
theorem dd2_0 : decode B2 0 = .ok (.new 99, 3) := by decide +kernel
theorem dd2_3 : decode B2 3 = .ok (.dup, 1) := by decide +kernel
theorem dd2_4 : decode B2 4 = .ok (.new 25, 3) := by decide +kernel
theorem dd2_7 : decode B2 7 = .ok (.dup, 1) := by decide +kernel
theorem dd3_0 : decode B3 0 = .ok (.aload_n 0, 1) := by decide +kernel
theorem dd3_1 : decode B3 1 = .ok (.bipush 16, 2) := by decide +kernel
theorem own_ef4 (m : MethodId) (x0 : Addr) (x1 : Int32) : entryFrame m #[(.ref x0), (.int x1)] 2 = mkF m 0 #[.val (.ref x0), .val (.int x1)] [] := by first | (simp [entryFrame, mkF, argsToLocals, Value.category]; done) | rfl
theorem dd4_0 : decode B4 0 = .ok (.aload_n 0, 1) := by decide +kernel
theorem dd4_1 : decode B4 1 = .ok (.invokespecial 3, 3) := by decide +kernel
theorem dd4_4 : decode B4 4 = .ok (.getstatic 18, 3) := by decide +kernel
theorem dd4_7 : decode B4 7 = .ok (.ifCond .eq 18, 3) := by decide +kernel
theorem dd4_10 : decode B4 10 = .ok (.aload_n 0, 1) := by decide +kernel
theorem dd4_11 : decode B4 11 = .ok (.iload_n 1, 1) := by decide +kernel
theorem dd4_12 : decode B4 12 = .ok (.newarray .byte, 2) := by decide +kernel
theorem dd4_14 : decode B4 14 = .ok (.putfield 15, 3) := by decide +kernel
theorem dd4_17 : decode B4 17 = .ok (.aload_n 0, 1) := by decide +kernel
theorem dd4_18 : decode B4 18 = .ok (.iconst 0, 1) := by decide +kernel
theorem dd4_19 : decode B4 19 = .ok (.putfield 22, 3) := by decide +kernel
theorem dd4_22 : decode B4 22 = .ok (.goto 16, 3) := by decide +kernel
theorem dd4_38 : decode B4 38 = .ok (.return_, 1) := by decide +kernel
theorem own_pn2 : plainFor mN2 = true := by decide +kernel
theorem own_rm9 (l : Launch) (Z : State) (a0 : Array Value) (hw : own_W a0 Z) (ws : List Jvm.Cond) (i0 : Int32) (o0 : Nat) (h0 : Heap) (n0 : Nat) (Z0 : n0 ≤ h0.size) (O0 : Old Z n0 h0) (I1 : Sta Z Z.heap cN2 "COMPACT_STRINGS" "Z" (.int i0)) (I2 : ¬ (i0 = 0)) (I3 : Fld Z h0 o0 cN3 "value" "[B" .null) (I4 : Exa Z h0 o0 cN4) (I0 : n0 ≤ o0) (I5 : Fld Z h0 o0 cN3 "coder" "B" (.int 0)) (I6 : Fld Z h0 o0 cN3 "count" "I" (.int 0)) (I7 : @LT.lt Nat instLTNat o0 h0.size) :
 own_Met l Z h0 mN2 B4 2 (Option.none : Option FieldType) ws (own_R 1 1 16 12) #[(.ref o0), (.int 16)] (fun v h L => (∃ o1 : Nat, ∃ m0 : ClassId, v = none ∧ Fr n0 L ∧ Keep h0 h [o0] ∧ h0.size ≤ o1 ∧ Fld Z h o0 cN3 "value" "[B" (.ref o1) ∧ Exa Z h o0 cN4 ∧ Fld Z h o0 cN3 "coder" "B" (.int 0) ∧ Fld Z h o0 cN3 "count" "I" (.int 0) ∧ Arv Z h o1 m0 .byte 16 [(.int 0), (.int 0), (.int 0), (.int 0), (.int 0), (.int 0), (.int 0), (.int 0), (.int 0), (.int 0), (.int 0), (.int 0), (.int 0), (.int 0), (.int 0), (.int 0)] (.int 0) ∧ Exa Z h o1 "[B" ∧ @LT.lt Nat instLTNat o1 h.size)) 1 16 := own_go own_pn2 fun p e s m below meth c s₁ hns hrt hnm hml hZ hx hby hown X3 e0 => by
 have N1 := Fr.nil n0
 refine own_cast (own_ef4 m o0 16) ?_
 refine oAN X3 hx hby dd4_0 rfl rfl ?_
 obtain ⟨T1, X4, e1, s1⟩ := initO X3 hx hZ hown (hw 41) (hw 12) (hw 13) e0 (g := (mkF m 1 #[rv o0, iv 16] [(.ref o0)])) rfl (by rw [hml]; rfl) rfl (hb hby dd4_1) (by decide) (W := 0) (by show 2 * 0 + _ ≤ _; exact Nat.le_of_eq rfl) (by decide)
 refine oS s1 ?_
 have F5 := Sta.ext O0.2 I1
 obtain ⟨T2, X0, e2, s2⟩ := getS X4 hx hZ hown (host := "") (hw 42) Via.refl e1 F5 (g := (mkF m 4 #[rv o0, iv 16] [])) rfl (hb hby dd4_4)
 refine oS s2 ?_
 refine oN0 X0 hx hby dd4_7 (XT.i0_eq_f I2) ?_
 refine oAN X0 hx hby dd4_10 rfl rfl ?_
 refine oIN X0 hx hby dd4_11 rfl ?_
 obtain ⟨T3, h1, m0, X5, e3, E0, A0, B0, s0⟩ := own_newP X0 hx hZ (aty := .byte) (hw 15) e2 (nm := "[B") rfl (g := (mkF m 12 #[rv o0, iv 16] [(.int 16), (.ref o0)])) rfl (hb hby dd4_12) (n := 16) (rest := [(.ref o0)]) rfl (by decide) (cap := 16) (by decide) (by decide) (by decide) (by decide)
 obtain ⟨o1, g0⟩ : ∃ z, z = h0.size := ⟨_, rfl⟩
 rw [← g0] at A0 B0 s0
 have F0 : Arv Z h1 o1 m0 .byte 16 [(.int 0), (.int 0), (.int 0), (.int 0), (.int 0), (.int 0), (.int 0), (.int 0), (.int 0), (.int 0), (.int 0), (.int 0), (.int 0), (.int 0), (.int 0), (.int 0)] (.int 0) := own_newA A0 (by decide) rfl rfl
 have z0 := E0.1
 have y1 : @LT.lt Nat instLTNat o1 h1.size := F0.lt
 refine oS s0 ?_
 have F1 := Fld.ext E0 I3
 have F2 := Exa.ext E0 I4
 refine own_pF X5 hx hZ hown (hw 43) e3 F1 F2 (Or.inl (hw 44)) (hw 30) (ty := (.array .byte)) rfl rfl (hb hby dd4_14) fun T0 h3 X1 e4 W0 => ?_
 have N2 := Fr.snoc X1 N1 I0
 have z1 := W0.size
 have F6 := Fld.same W0 F1
 refine oAN X1 hx hby dd4_17 rfl rfl ?_
 refine oIC X1 hx hby dd4_18 ?_
 show own_G p e below (T0.setTop (mkF m 19 #[rv o0, iv 16] [(.int 0), (.ref o0)])) _
 have F3 := Fld.other W0 (Fld.ext E0 I5) (Or.inr (slot_ne (C := cN4) (Or.inl (hw 46)) (Or.inl (hw 44)) (by decide) (t := .byte) (t' := (.array .byte)) (by decide) (by decide)))
 have F4 := Exa.wr W0 F2
 refine own_pF X1 hx hZ hown (hw 45) e4 F3 F4 (Or.inl (hw 46)) (hw 30) (ty := .byte) (by decide) (by decide) (hb hby dd4_19) fun T4 h2 X2 e5 W1 => ?_
 have N3 := Fr.snoc X2 N2 I0
 have z2 := W1.size
 have F7 := Fld.same W1 F3
 refine oGO X2 hx hby (pc' := 38) dd4_22 ?_
 have F8 := Fld.other W1 F6 (Or.inr (slot_ne (C := cN4) (Or.inl (hw 44)) (Or.inl (hw 46)) (by decide) (t := (.array .byte)) (t' := .byte) (by decide) (by decide)))
 have F9 := Exa.wr W1 F4
 have F00 := Fld.other W1 (Fld.other W0 (Fld.ext E0 I6) (Or.inr (slot_ne (C := cN4) (Or.inl (hw 69)) (Or.inl (hw 44)) (by decide) (t := .int) (t' := (.array .byte)) (by decide) (by decide)))) (Or.inr (slot_ne (C := cN4) (Or.inl (hw 69)) (Or.inl (hw 46)) (by decide) (t := .int) (t' := .byte) (by decide) (by decide)))
 have N0 : @Ne Nat o1 o0 := by omega
 have F01 := (F0.other W0 N0).other W1 N0
 have F02 := Exa.wr W1 (Exa.wr W0 B0)
 have y0 : @LT.lt Nat instLTNat o1 h2.size := by omega
 have K0 : Keep h0 h2 [o0] := ((((Keep.refl h0 [o0]).ext E0).wr W0 (Or.inl (by simp))).wr W1 (Or.inl (by simp)))
 exact own_retV X2 hx hns hrt (hb hby dd4_38) e5 (by decide) (by decide) (⟨o1, m0, rfl, N3, K0, (by omega), F8, F9, F7, F00, F01, F02, y0⟩)
theorem own_pd2 : parseMethodDescriptor "(I)V" = some ⟨[.int], none⟩ := by decide +kernel
theorem dd3_3 : decode B3 3 = .ok (.invokespecial 1, 3) := by decide +kernel
theorem dd3_6 : decode B3 6 = .ok (.return_, 1) := by decide +kernel
theorem own_pn3 : plainFor mN3 = true := by decide +kernel
theorem own_rm8 (l : Launch) (Z : State) (a0 : Array Value) (hw : own_W a0 Z) (ws : List Jvm.Cond) (i0 : Int32) (o0 : Nat) (h0 : Heap) (n0 : Nat) (Z0 : n0 ≤ h0.size) (O0 : Old Z n0 h0) (I0 : Sta Z Z.heap cN2 "COMPACT_STRINGS" "Z" (.int i0)) (I1 : ¬ (i0 = 0)) (I2 : Fld Z h0 o0 cN3 "value" "[B" .null) (I3 : Exa Z h0 o0 cN4) (I4 : n0 ≤ o0) (I5 : Fld Z h0 o0 cN3 "coder" "B" (.int 0)) (I6 : Fld Z h0 o0 cN3 "count" "I" (.int 0)) (I7 : @LT.lt Nat instLTNat o0 h0.size) :
 own_Met l Z h0 mN3 B3 1 (Option.none : Option FieldType) ws (own_R 2 1 16 25) #[(.ref o0)] (fun v h L => (∃ o1 : Nat, ∃ m0 : ClassId, v = none ∧ Fr n0 L ∧ Keep h0 h [o0] ∧ h0.size ≤ o1 ∧ Fld Z h o0 cN3 "value" "[B" (.ref o1) ∧ Exa Z h o0 cN4 ∧ Fld Z h o0 cN3 "coder" "B" (.int 0) ∧ Fld Z h o0 cN3 "count" "I" (.int 0) ∧ Arv Z h o1 m0 .byte 16 [(.int 0), (.int 0), (.int 0), (.int 0), (.int 0), (.int 0), (.int 0), (.int 0), (.int 0), (.int 0), (.int 0), (.int 0), (.int 0), (.int 0), (.int 0), (.int 0)] (.int 0) ∧ Exa Z h o1 "[B" ∧ @LT.lt Nat instLTNat o1 h.size)) 1 16 := own_go own_pn3 fun p e s m below meth c s₁ hns hrt hnm hml hZ hx hby hown X0 e0 => by
 have N0 := Fr.nil n0
 refine own_cast (own_ef3 m o0) ?_
 refine oAN X0 hx hby dd3_0 rfl rfl ?_
 refine oS (fun _ => XS.bipush X0.here hx rfl (hb hby dd3_1) ) ?_
 have y0 : @LT.lt Nat instLTNat o0 h0.size := by omega
 refine own_cN X0 hx hZ hown e0 (y := mN2) (b := o0) rfl (hw 35) (hw 36) (hw 39) (hw 40) (by decide) (W := 0) (own_rm9 l Z a0 hw [] i0 o0 h0 n0 Z0 O0 I0 I1 I2 I3 I4 I5 I6 y0) [(.int 16)] [] hml (lenOf own_pd2 rfl) (hb hby dd3_3) fun T0 h1 v0 L0 X1 e1 q0 => ?_
 obtain ⟨o1, m0, rfl, N1, K0, F6, F0, F1, F2, F3, F4, F5, F7⟩ := q0
 have N2 := Fr.app N0 N1
 have z0 := K0.1
 have y1 : @LT.lt Nat instLTNat o1 h1.size := by omega
 have K1 : Keep h0 h1 [o0] := ((Keep.refl h0 [o0]).trans K0 (allS (Or.inl (by simp)) all0))
 exact own_retV X1 hx hns hrt (hb hby dd3_6) e1 (by decide) (by decide) (⟨o1, m0, rfl, N2, K1, (by omega), F0, F1, F2, F3, F4, F5, y1⟩)
theorem own_pd3 : parseMethodDescriptor "()V" = some ⟨[], none⟩ := by decide +kernel
theorem dd2_8 : decode B2 8 = .ok (.invokespecial 27, 3) := by decide +kernel
theorem dd2_11 : decode B2 11 = .ok (.aload_n 0, 1) := by decide +kernel
theorem dd5_0 : decode B5 0 = .ok (.aload_n 0, 1) := by decide +kernel
theorem dd5_1 : decode B5 1 = .ok (.aload_n 1, 1) := by decide +kernel
theorem own_ef5 (m : MethodId) (x0 : Addr) (x1 : Addr) : entryFrame m #[(.ref x0), (.ref x1)] 3 = mkF m 0 #[.val (.ref x0), .val (.ref x1), .unset] [] := by first | (simp [entryFrame, mkF, argsToLocals, Value.category]; done) | rfl
theorem dd6_0 : decode B6 0 = .ok (.aload_n 1, 1) := by decide +kernel
theorem dd6_1 : decode B6 1 = .ok (.ifnonnull 8, 3) := by decide +kernel
theorem dd6_9 : decode B6 9 = .ok (.aload_n 1, 1) := by decide +kernel
theorem dd7_0 : decode B7 0 = .ok (.aload_n 0, 1) := by decide +kernel
theorem dd7_1 : decode B7 1 = .ok (.getfield 9, 3) := by decide +kernel
theorem dd7_4 : decode B7 4 = .ok (.arraylength, 1) := by decide +kernel
theorem dd7_5 : decode B7 5 = .ok (.aload_n 0, 1) := by decide +kernel
theorem dd8_0 : decode B8 0 = .ok (.getstatic 38, 3) := by decide +kernel
theorem dd8_3 : decode B8 3 = .ok (.ifCond .eq 10, 3) := by decide +kernel
theorem dd8_6 : decode B8 6 = .ok (.aload_n 0, 1) := by decide +kernel
theorem dd8_7 : decode B8 7 = .ok (.getfield 15, 3) := by decide +kernel
theorem dd8_10 : decode B8 10 = .ok (.goto 4, 3) := by decide +kernel
theorem dd8_14 : decode B8 14 = .ok (.ireturn, 1) := by decide +kernel
theorem own_pn4 : plainFor mN4 = true := by decide +kernel
theorem own_rm13 (l : Launch) (Z : State) (a0 : Array Value) (hw : own_W a0 Z) (ws : List Jvm.Cond) (i0 : Int32) (o0 : Nat) (h0 : Heap) (n0 : Nat) (Z0 : n0 ≤ h0.size) (O0 : Old Z n0 h0) (I0 : Sta Z Z.heap cN2 "COMPACT_STRINGS" "Z" (.int i0)) (I1 : ¬ (i0 = 0)) (I2 : Fld Z h0 o0 cN2 "coder" "B" (.int 0)) :
 own_Met l Z h0 mN4 B8 1 (Option.some FieldType.byte) ws (own_R 0 0 0 0) #[(.ref o0)] (fun v h L => (v = some (.int 0) ∧ Fr n0 L ∧ h = h0)) 0 0 := own_go own_pn4 fun p e s m below meth c s₁ hns hrt hnm hml hZ hx hby hown X2 e0 => by
 have N0 := Fr.nil n0
 refine own_cast (own_ef3 m o0) ?_
 have F0 := Sta.ext O0.2 I0
 obtain ⟨T0, X0, e1, s0⟩ := getS X2 hx hZ hown (host := "") (hw 67) Via.refl e0 F0 (g := (mkF m 0 #[rv o0] [])) rfl (hb hby dd8_0)
 refine oS s0 ?_
 refine oN0 X0 hx hby dd8_3 (XT.i0_eq_f I1) ?_
 refine oAN X0 hx hby dd8_6 rfl rfl ?_
 refine own_gF X0 hx hZ hown (hw 21) e1 I2 (hb hby dd8_7) fun T1 X1 e2 => ?_
 refine oGO X1 hx hby (pc' := 14) dd8_10 ?_
 exact own_retN X1 hx (t := .byte) hns hrt (by simp) (hb hby dd8_14) (by decide) e2 (by decide) (by decide) (⟨rfl, N0, rfl⟩)
theorem own_pd4 : parseMethodDescriptor "()B" = some ⟨[], (some .byte)⟩ := by decide +kernel
theorem dd7_6 : decode B7 6 = .ok (.invokevirtual 335, 3) := by decide +kernel
theorem dd7_9 : decode B7 9 = .ok (.ishr, 1) := by decide +kernel
theorem dd7_10 : decode B7 10 = .ok (.ireturn, 1) := by decide +kernel
theorem own_pn5 : plainFor mN5 = true := by decide +kernel
theorem own_rm12 (l : Launch) (Z : State) (a0 : Array Value) (hw : own_W a0 Z) (ws : List Jvm.Cond) (i0 : Int32) (m0 : ClassId) (o0 o1 : Nat) (h0 : Heap) (n0 : Nat) (Z0 : n0 ≤ h0.size) (O0 : Old Z n0 h0) (I0 : Fld Z h0 o0 cN2 "value" "[B" (.ref o1)) (I1 : Arv Z h0 o1 m0 .byte 0 [] (.int 0)) (I2 : Sta Z Z.heap cN2 "COMPACT_STRINGS" "Z" (.int i0)) (I3 : ¬ (i0 = 0)) (I4 : Fld Z h0 o0 cN2 "coder" "B" (.int 0)) (I5 : Exa Z h0 o0 cN2) :
 own_Met l Z h0 mN5 B7 1 (Option.some FieldType.int) ws (own_R 1 0 0 13) #[(.ref o0)] (fun v h L => (v = some (.int 0) ∧ Fr n0 L ∧ h = h0)) 0 0 := own_go own_pn5 fun p e s m below meth c s₁ hns hrt hnm hml hZ hx hby hown X1 e1 => by
 have N0 := Fr.nil n0
 refine own_cast (own_ef3 m o0) ?_
 refine oAN X1 hx hby dd7_0 rfl rfl ?_
 refine own_gF X1 hx hZ hown (hw 20) e1 I0 (hb hby dd7_1) fun T0 X0 e0 => ?_
 refine oS (own_len X0 hx hZ e0 I1 rfl rfl (hb hby dd7_4)) ?_
 refine oAN X0 hx hby dd7_5 rfl rfl ?_
 refine own_cV X0 hx hZ hown e0 (y := mN4) (z := mN4) (b := o0) (hw 62) (hw 63) (notFace_of_selects (args := #[]) (mvT hZ (hw 65))) (hw 65) (hw 64) (hw 3) (hw 66) (by decide) I5 (W := 1) (own_rm13 l Z a0 hw [] i0 o0 h0 n0 Z0 O0 I2 I3 I4) [] [(.int 0)] hml (lenOf own_pd4 rfl) (hb hby dd7_6) fun T1 h1 v0 L0 X2 e2 q0 => ?_
 obtain ⟨rfl, N1, K0⟩ := q0
 have N2 := Fr.app N0 N1
 have e3 := e2.trans K0
 refine oS (fun _ => XT.ishr X2.here hx rfl (hb hby dd7_9) rfl) ?_
 exact own_retI X2 hx hns hrt (hb hby dd7_10) e3 (by decide) (by decide) (⟨rfl, N2, rfl⟩)
theorem own_pd5 : parseMethodDescriptor "()I" = some ⟨[], (some .int)⟩ := by decide +kernel
theorem dd6_10 : decode B6 10 = .ok (.invokevirtual 32, 3) := by decide +kernel
theorem dd6_13 : decode B6 13 = .ok (.istore_n 2, 1) := by decide +kernel
theorem dd6_14 : decode B6 14 = .ok (.aload_n 0, 1) := by decide +kernel
theorem dd6_15 : decode B6 15 = .ok (.aload_n 0, 1) := by decide +kernel
theorem dd6_16 : decode B6 16 = .ok (.getfield 79, 3) := by decide +kernel
theorem dd6_19 : decode B6 19 = .ok (.iload_n 2, 1) := by decide +kernel
theorem dd6_20 : decode B6 20 = .ok (.iadd, 1) := by decide +kernel
theorem own_ef6 (m : MethodId) (x0 : Addr) (x1 : Int32) : entryFrame m #[(.ref x0), (.int x1)] 3 = mkF m 0 #[.val (.ref x0), .val (.int x1), .unset] [] := by first | (simp [entryFrame, mkF, argsToLocals, Value.category]; done) | rfl
theorem dd9_0 : decode B9 0 = .ok (.aload_n 0, 1) := by decide +kernel
theorem dd9_1 : decode B9 1 = .ok (.getfield 15, 3) := by decide +kernel
theorem dd9_4 : decode B9 4 = .ok (.arraylength, 1) := by decide +kernel
theorem dd9_5 : decode B9 5 = .ok (.aload_n 0, 1) := by decide +kernel
theorem dd9_6 : decode B9 6 = .ok (.getfield 22, 3) := by decide +kernel
theorem dd9_9 : decode B9 9 = .ok (.ishr, 1) := by decide +kernel
theorem dd9_10 : decode B9 10 = .ok (.istore_n 2, 1) := by decide +kernel
theorem dd9_11 : decode B9 11 = .ok (.iload_n 1, 1) := by decide +kernel
theorem dd9_12 : decode B9 12 = .ok (.iload_n 2, 1) := by decide +kernel
theorem dd9_13 : decode B9 13 = .ok (.isub, 1) := by decide +kernel
theorem dd9_14 : decode B9 14 = .ok (.ifCond .le 24, 3) := by decide +kernel
theorem dd9_38 : decode B9 38 = .ok (.return_, 1) := by decide +kernel
theorem own_pn6 : plainFor mN6 = true := by decide +kernel
theorem own_rm14 (l : Launch) (Z : State) (a0 : Array Value) (hw : own_W a0 Z) (ws : List Jvm.Cond) (m0 : ClassId) (o0 o1 : Nat) (h0 : Heap) (n0 : Nat) (Z0 : n0 ≤ h0.size) (O0 : Old Z n0 h0) (I0 : Fld Z h0 o0 cN3 "value" "[B" (.ref o1)) (I1 : Arv Z h0 o1 m0 .byte 16 [(.int 0), (.int 0), (.int 0), (.int 0), (.int 0), (.int 0), (.int 0), (.int 0), (.int 0), (.int 0), (.int 0), (.int 0), (.int 0), (.int 0), (.int 0), (.int 0)] (.int 0)) (I2 : Fld Z h0 o0 cN3 "coder" "B" (.int 0)) :
 own_Met l Z h0 mN6 B9 3 (Option.none : Option FieldType) ws (own_R 0 0 0 0) #[(.ref o0), (.int 0)] (fun v h L => (v = none ∧ Fr n0 L ∧ h = h0)) 0 0 := own_go own_pn6 fun p e s m below meth c s₁ hns hrt hnm hml hZ hx hby hown X2 e1 => by
 have N0 := Fr.nil n0
 refine own_cast (own_ef6 m o0 0) ?_
 refine oAN X2 hx hby dd9_0 rfl rfl ?_
 refine own_gF X2 hx hZ hown (hw 43) e1 I0 (hb hby dd9_1) fun T1 X1 e0 => ?_
 refine oS (own_len X1 hx hZ e0 I1 rfl rfl (hb hby dd9_4)) ?_
 refine oAN X1 hx hby dd9_5 rfl rfl ?_
 refine own_gF X1 hx hZ hown (hw 45) e0 I2 (hb hby dd9_6) fun T0 X0 e2 => ?_
 refine oS (fun _ => XT.ishr X0.here hx rfl (hb hby dd9_9) rfl) ?_
 refine oISN X0 hx hby dd9_10 (l' := #[rv o0, iv 0, iv 16]) rfl ?_
 refine oIN X0 hx hby dd9_11 rfl ?_
 refine oIN X0 hx hby dd9_12 rfl ?_
 refine oS (fun _ => XS.isub X0.here hx rfl (hb hby dd9_13) rfl) ?_
 show own_G p e below (T0.setTop (mkF m 14 #[rv o0, iv 0, iv 16] [(.int (-16))])) _
 refine oY0 X0 hx hby (pc' := 38) dd9_14 (XT.i0_le_t (by decide)) ?_
 exact own_retV X0 hx hns hrt (hb hby dd9_38) e2 (by decide) (by decide) (⟨rfl, N0, rfl⟩)
theorem dd6_21 : decode B6 21 = .ok (.invokevirtual 100, 3) := by decide +kernel
theorem dd6_24 : decode B6 24 = .ok (.aload_n 0, 1) := by decide +kernel
theorem dd6_25 : decode B6 25 = .ok (.aload_n 0, 1) := by decide +kernel
theorem dd6_26 : decode B6 26 = .ok (.getfield 79, 3) := by decide +kernel
theorem dd6_29 : decode B6 29 = .ok (.aload_n 1, 1) := by decide +kernel
theorem own_ef7 (m : MethodId) (x0 : Addr) (x1 : Int32) (x2 : Addr) : entryFrame m #[(.ref x0), (.int x1), (.ref x2)] 3 = mkF m 0 #[.val (.ref x0), .val (.int x1), .val (.ref x2)] [] := by first | (simp [entryFrame, mkF, argsToLocals, Value.category]; done) | rfl
theorem dd10_0 : decode B00 0 = .ok (.aload_n 0, 1) := by decide +kernel
theorem dd10_1 : decode B00 1 = .ok (.aload_n 2, 1) := by decide +kernel
theorem dd11_0 : decode B01 0 = .ok (.getstatic 18, 3) := by decide +kernel
theorem dd11_3 : decode B01 3 = .ok (.ifCond .eq 18, 3) := by decide +kernel
theorem dd11_6 : decode B01 6 = .ok (.aload_n 0, 1) := by decide +kernel
theorem dd11_7 : decode B01 7 = .ok (.getfield 22, 3) := by decide +kernel
theorem dd11_10 : decode B01 10 = .ok (.aload_n 1, 1) := by decide +kernel
theorem dd11_11 : decode B01 11 = .ok (.invokevirtual 40, 3) := by decide +kernel
theorem dd11_14 : decode B01 14 = .ok (.if_icmp .eq 7, 3) := by decide +kernel
theorem dd11_21 : decode B01 21 = .ok (.return_, 1) := by decide +kernel
theorem own_pn7 : plainFor mN7 = true := by decide +kernel
theorem own_rm16 (l : Launch) (Z : State) (a0 : Array Value) (hw : own_W a0 Z) (ws : List Jvm.Cond) (i0 : Int32) (o1 o0 : Nat) (h0 : Heap) (n0 : Nat) (Z0 : n0 ≤ h0.size) (O0 : Old Z n0 h0) (I0 : Sta Z Z.heap cN2 "COMPACT_STRINGS" "Z" (.int i0)) (I1 : ¬ (i0 = 0)) (I2 : Fld Z h0 o1 cN3 "coder" "B" (.int 0)) (I3 : Fld Z h0 o0 cN2 "coder" "B" (.int 0)) (I4 : Exa Z h0 o0 cN2) :
 own_Met l Z h0 mN7 B01 2 (Option.none : Option FieldType) ws (own_R 1 0 0 13) #[(.ref o1), (.ref o0)] (fun v h L => (v = none ∧ Fr n0 L ∧ h = h0)) 0 0 := own_go own_pn7 fun p e s m below meth c s₁ hns hrt hnm hml hZ hx hby hown X3 e0 => by
 have N0 := Fr.nil n0
 refine own_cast (own_ef1 m o1 o0) ?_
 have F0 := Sta.ext O0.2 I0
 obtain ⟨T0, X0, e1, s0⟩ := getS X3 hx hZ hown (host := "") (hw 42) Via.refl e0 F0 (g := (mkF m 0 #[rv o1, rv o0] [])) rfl (hb hby dd11_0)
 refine oS s0 ?_
 refine oN0 X0 hx hby dd11_3 (XT.i0_eq_f I1) ?_
 refine oAN X0 hx hby dd11_6 rfl rfl ?_
 refine own_gF X0 hx hZ hown (hw 45) e1 I2 (hb hby dd11_7) fun T1 X1 e2 => ?_
 refine oAN X1 hx hby dd11_10 rfl rfl ?_
 refine own_cV X1 hx hZ hown e2 (y := mN4) (z := mN4) (b := o0) (hw 85) (hw 63) (notFace_of_selects (args := #[]) (mvT hZ (hw 65))) (hw 65) (hw 64) (hw 3) (hw 66) (by decide) I4 (W := 1) (own_rm13 l Z a0 hw [] i0 o0 h0 n0 Z0 O0 I0 I1 I3) [] [(.int 0)] hml (lenOf own_pd4 rfl) (hb hby dd11_11) fun T2 h1 v0 L0 X2 e3 q0 => ?_
 obtain ⟨rfl, N1, K0⟩ := q0
 have N2 := Fr.app N0 N1
 have e4 := e3.trans K0
 refine oYI X2 hx hby (pc' := 21) dd11_14 (XT.ii_eq_t (by decide)) ?_
 exact own_retV X2 hx hns hrt (hb hby dd11_21) e4 (by decide) (by decide) (⟨rfl, N2, rfl⟩)
theorem own_pd6 : parseMethodDescriptor "(Ljava/lang/String;)V" = some ⟨[(.object cN2)], none⟩ := by decide +kernel
theorem dd10_2 : decode B00 2 = .ok (.invokevirtual 397, 3) := by decide +kernel
theorem dd10_5 : decode B00 5 = .ok (.aload_n 2, 1) := by decide +kernel
theorem dd10_6 : decode B00 6 = .ok (.aload_n 0, 1) := by decide +kernel
theorem dd10_7 : decode B00 7 = .ok (.getfield 15, 3) := by decide +kernel
theorem dd10_10 : decode B00 10 = .ok (.iload_n 1, 1) := by decide +kernel
theorem dd10_11 : decode B00 11 = .ok (.aload_n 0, 1) := by decide +kernel
theorem dd10_12 : decode B00 12 = .ok (.getfield 22, 3) := by decide +kernel
theorem own_ef8 (m : MethodId) (x0 : Addr) (x1 : Addr) (x2 : Int32) (x3 : Int32) : entryFrame m #[(.ref x0), (.ref x1), (.int x2), (.int x3)] 4 = mkF m 0 #[.val (.ref x0), .val (.ref x1), .val (.int x2), .val (.int x3)] [] := by first | (simp [entryFrame, mkF, argsToLocals, Value.category]; done) | rfl
theorem dd12_0 : decode B02 0 = .ok (.aload_n 0, 1) := by decide +kernel
theorem dd12_1 : decode B02 1 = .ok (.invokevirtual 335, 3) := by decide +kernel
theorem dd12_4 : decode B02 4 = .ok (.iload_n 3, 1) := by decide +kernel
theorem dd12_5 : decode B02 5 = .ok (.if_icmp .ne 23, 3) := by decide +kernel
theorem dd12_8 : decode B02 8 = .ok (.aload_n 0, 1) := by decide +kernel
theorem dd12_9 : decode B02 9 = .ok (.getfield 9, 3) := by decide +kernel
theorem dd12_12 : decode B02 12 = .ok (.iconst 0, 1) := by decide +kernel
theorem dd12_13 : decode B02 13 = .ok (.aload_n 1, 1) := by decide +kernel
theorem dd12_14 : decode B02 14 = .ok (.iload_n 2, 1) := by decide +kernel
theorem dd12_15 : decode B02 15 = .ok (.iload_n 3, 1) := by decide +kernel
theorem dd12_16 : decode B02 16 = .ok (.ishl, 1) := by decide +kernel
theorem dd12_17 : decode B02 17 = .ok (.aload_n 0, 1) := by decide +kernel
theorem dd12_18 : decode B02 18 = .ok (.getfield 9, 3) := by decide +kernel
theorem dd12_21 : decode B02 21 = .ok (.arraylength, 1) := by decide +kernel
theorem dd12_22 : decode B02 22 = .ok (.invokestatic 212, 3) := by decide +kernel
theorem dd12_25 : decode B02 25 = .ok (.goto 18, 3) := by decide +kernel
theorem dd12_43 : decode B02 43 = .ok (.return_, 1) := by decide +kernel
theorem own_pn8 : plainFor mN8 = true := by decide +kernel
theorem own_rm17 (l : Launch) (Z : State) (a0 : Array Value) (hw : own_W a0 Z) (ws : List Jvm.Cond) (i0 : Int32) (m1 m0 : ClassId) (o1 o0 o2 : Nat) (h0 : Heap) (n0 : Nat) (Z0 : n0 ≤ h0.size) (O0 : Old Z n0 h0) (I2 : Sta Z Z.heap cN2 "COMPACT_STRINGS" "Z" (.int i0)) (I3 : ¬ (i0 = 0)) (I4 : Fld Z h0 o1 cN2 "coder" "B" (.int 0)) (I5 : Exa Z h0 o1 cN2) (I0 : Fld Z h0 o1 cN2 "value" "[B" (.ref o2)) (I1 : Arv Z h0 o2 m1 .byte 0 [] (.int 0)) (I6 : Arv Z h0 o0 m0 .byte 16 [(.int 0), (.int 0), (.int 0), (.int 0), (.int 0), (.int 0), (.int 0), (.int 0), (.int 0), (.int 0), (.int 0), (.int 0), (.int 0), (.int 0), (.int 0), (.int 0)] (.int 0)) (I7 : n0 ≤ o0) (I8 : Exa Z h0 o0 "[B") :
 own_Met l Z h0 mN8 B02 4 (Option.none : Option FieldType) ws (own_R 1 0 0 18) #[(.ref o1), (.ref o0), (.int 0), (.int 0)] (fun v h L => (v = none ∧ Fr n0 L ∧ Keep h0 h [o0] ∧ Arv Z h o0 m0 .byte 16 [(.int 0), (.int 0), (.int 0), (.int 0), (.int 0), (.int 0), (.int 0), (.int 0), (.int 0), (.int 0), (.int 0), (.int 0), (.int 0), (.int 0), (.int 0), (.int 0)] (.int 0) ∧ Exa Z h o0 "[B")) 0 0 := own_go own_pn8 fun p e s m below meth c s₁ hns hrt hnm hml hZ hx hby hown X2 e1 => by
 have N0 := Fr.nil n0
 refine own_cast (own_ef8 m o1 o0 0 0) ?_
 refine oAN X2 hx hby dd12_0 rfl rfl ?_
 refine own_cV X2 hx hZ hown e1 (y := mN4) (z := mN4) (b := o1) (hw 62) (hw 63) (notFace_of_selects (args := #[]) (mvT hZ (hw 65))) (hw 65) (hw 64) (hw 3) (hw 66) (by decide) I5 (W := 0) (own_rm13 l Z a0 hw [] i0 o1 h0 n0 Z0 O0 I2 I3 I4) [] [] hml (lenOf own_pd4 rfl) (hb hby dd12_1) fun T1 h2 v0 L0 X1 e2 q0 => ?_
 obtain ⟨rfl, N1, K1⟩ := q0
 have N2 := Fr.app N0 N1
 have e3 := e2.trans K1
 refine oIN X1 hx hby dd12_4 rfl ?_
 refine oNI X1 hx hby dd12_5 (XT.ii_ne_f (by decide)) ?_
 refine oAN X1 hx hby dd12_8 rfl rfl ?_
 refine own_gF X1 hx hZ hown (hw 20) e3 I0 (hb hby dd12_9) fun T0 X0 e4 => ?_
 refine oIC X0 hx hby dd12_12 ?_
 refine oAN X0 hx hby dd12_13 rfl rfl ?_
 refine oIN X0 hx hby dd12_14 rfl ?_
 refine oIN X0 hx hby dd12_15 rfl ?_
 show own_G p e below (T0.setTop (mkF m 16 #[rv o1, rv o0, iv 0, iv 0] [(.int 0), (.int 0), (.ref o0), (.int 0), (.ref o2)])) _
 refine oS (fun _ => XT.ishl X0.here hx rfl (hb hby dd12_16) rfl) ?_
 refine oAN X0 hx hby dd12_17 rfl rfl ?_
 refine own_gF X0 hx hZ hown (hw 20) e4 I0 (hb hby dd12_18) fun T2 X3 e0 => ?_
 refine oS (own_len X3 hx hZ e0 I1 rfl rfl (hb hby dd12_21)) ?_
 obtain ⟨T3, h1, L1, X4, e5, N3, K0, A0, s0⟩ := cpA X3 hx hZ hown (hw 91) (hw 94) (hw 92) (hw 93) e0 I1 I6 (us := []) (Or.inl ⟨rfl, rfl⟩) (by decide) (by decide) (by decide) (by decide) (by decide) rfl (Nat.le_of_ble_eq_true rfl) N2 I7 (g := (mkF m 22 #[rv o1, rv o0, iv 0, iv 0] [(.int 0), (.int 0), (.ref o0), (.int 0), (.ref o2)])) rfl (by rw [hml]; rfl) (rest := []) rfl (hb hby dd12_22) (by decide) (W := 0) (by show 2 * 0 + _ ≤ _; exact Nat.le_of_eq rfl) (by decide)
 have z0 := K0.1
 have F0 : Arv Z h1 o0 m0 .byte 16 [(.int 0), (.int 0), (.int 0), (.int 0), (.int 0), (.int 0), (.int 0), (.int 0), (.int 0), (.int 0), (.int 0), (.int 0), (.int 0), (.int 0), (.int 0), (.int 0)] (.int 0) := A0
 refine oS s0 ?_
 refine oGO X4 hx hby (pc' := 43) dd12_25 ?_
 have F1 := I8.keep K0
 have K2 : Keep h0 h1 [o0] := ((Keep.refl h0 [o0]).trans K0 (allS (Or.inl (by simp)) all0))
 exact own_retV X4 hx hns hrt (hb hby dd12_43) e5 (by decide) (by decide) (⟨rfl, N3, K2, F0, F1⟩)
theorem own_pd7 : parseMethodDescriptor "([BIB)V" = some ⟨[(.array .byte), .int, .byte], none⟩ := by decide +kernel
theorem dd10_15 : decode B00 15 = .ok (.invokevirtual 399, 3) := by decide +kernel
theorem dd10_18 : decode B00 18 = .ok (.return_, 1) := by decide +kernel
theorem own_pn9 : plainFor mN9 = true := by decide +kernel
theorem own_rm15 (l : Launch) (Z : State) (a0 : Array Value) (hw : own_W a0 Z) (ws : List Jvm.Cond) (i0 : Int32) (m1 m0 : ClassId) (o2 o1 o0 o3 : Nat) (h0 : Heap) (n0 : Nat) (Z0 : n0 ≤ h0.size) (O0 : Old Z n0 h0) (I1 : Sta Z Z.heap cN2 "COMPACT_STRINGS" "Z" (.int i0)) (I2 : ¬ (i0 = 0)) (I3 : Fld Z h0 o2 cN3 "coder" "B" (.int 0)) (I4 : Fld Z h0 o1 cN2 "coder" "B" (.int 0)) (I0 : Exa Z h0 o1 cN2) (I5 : Exa Z h0 o2 cN4) (I6 : Fld Z h0 o2 cN3 "value" "[B" (.ref o0)) (I7 : Fld Z h0 o1 cN2 "value" "[B" (.ref o3)) (I8 : Arv Z h0 o3 m1 .byte 0 [] (.int 0)) (I9 : Arv Z h0 o0 m0 .byte 16 [(.int 0), (.int 0), (.int 0), (.int 0), (.int 0), (.int 0), (.int 0), (.int 0), (.int 0), (.int 0), (.int 0), (.int 0), (.int 0), (.int 0), (.int 0), (.int 0)] (.int 0)) (I00 : n0 ≤ o0) (I01 : Exa Z h0 o0 "[B") :
 own_Met l Z h0 mN9 B00 3 (Option.none : Option FieldType) ws (own_R 2 0 0 33) #[(.ref o2), (.int 0), (.ref o1)] (fun v h L => (v = none ∧ Fr n0 L ∧ Keep h0 h [o0] ∧ Arv Z h o0 m0 .byte 16 [(.int 0), (.int 0), (.int 0), (.int 0), (.int 0), (.int 0), (.int 0), (.int 0), (.int 0), (.int 0), (.int 0), (.int 0), (.int 0), (.int 0), (.int 0), (.int 0)] (.int 0) ∧ Exa Z h o0 "[B")) 0 0 := own_go own_pn9 fun p e s m below meth c s₁ hns hrt hnm hml hZ hx hby hown X0 e0 => by
 have N0 := Fr.nil n0
 refine own_cast (own_ef7 m o2 0 o1) ?_
 refine oAN X0 hx hby dd10_0 rfl rfl ?_
 refine oAN X0 hx hby dd10_1 rfl rfl ?_
 refine own_cP X0 hx hZ hown e0 (y := mN7) (b := o2) (hw 80) (hw 81) (own_selP (hw 81) (hw 82) (hw 73) rfl (by decide)) (hw 82) (hw 39) (hw 84) (by decide) I5 (W := 0) (own_rm16 l Z a0 hw [] i0 o2 o1 h0 n0 Z0 O0 I1 I2 I3 I4 I0) [(.ref o1)] [] hml (lenOf own_pd6 rfl) (hb hby dd10_2) fun T1 h2 v0 L0 X1 e1 q0 => ?_
 obtain ⟨rfl, N1, K1⟩ := q0
 have N2 := Fr.app N0 N1
 have e2 := e1.trans K1
 refine oAN X1 hx hby dd10_5 rfl rfl ?_
 refine oAN X1 hx hby dd10_6 rfl rfl ?_
 refine own_gF X1 hx hZ hown (hw 43) e2 I6 (hb hby dd10_7) fun T2 X2 e3 => ?_
 refine oIN X2 hx hby dd10_10 rfl ?_
 refine oAN X2 hx hby dd10_11 rfl rfl ?_
 refine own_gF X2 hx hZ hown (hw 45) e3 I3 (hb hby dd10_12) fun T3 X3 e4 => ?_
 refine own_cV X3 hx hZ hown e4 (y := mN8) (z := mN8) (b := o1) (hw 86) (hw 87) (notFace_of_selects (args := #[]) (mvT hZ (hw 89))) (hw 89) (hw 88) (hw 3) (hw 90) (by decide) I0 (W := 0) (own_rm17 l Z a0 hw [] i0 m1 m0 o1 o0 o3 h0 n0 Z0 O0 I1 I2 I4 I0 I7 I8 I9 I00 I01) [(.ref o0), (.int 0), (.int 0)] [] hml (lenOf own_pd7 rfl) (hb hby dd10_15) fun T0 h1 v1 L1 X4 e5 q1 => ?_
 obtain ⟨rfl, N3, K0, F0, F1⟩ := q1
 have N4 := Fr.app N2 N3
 have z0 := K0.1
 show own_G p e below (T0.setTop (mkF m 18 #[rv o2, iv 0, rv o1] [])) _
 have K2 : Keep h0 h1 [o0] := ((Keep.refl h0 [o0]).trans K0 (allS (Or.inl (by simp)) all0))
 exact own_retV X4 hx hns hrt (hb hby dd10_18) e5 (by decide) (by decide) (⟨rfl, N4, K2, F0, F1⟩)
theorem own_pd8 : parseMethodDescriptor "(ILjava/lang/String;)V" = some ⟨[.int, (.object cN2)], none⟩ := by decide +kernel
theorem dd6_30 : decode B6 30 = .ok (.invokevirtual 208, 3) := by decide +kernel
theorem dd6_33 : decode B6 33 = .ok (.aload_n 0, 1) := by decide +kernel
theorem dd6_34 : decode B6 34 = .ok (.dup, 1) := by decide +kernel
theorem dd6_35 : decode B6 35 = .ok (.getfield 79, 3) := by decide +kernel
theorem dd6_38 : decode B6 38 = .ok (.iload_n 2, 1) := by decide +kernel
theorem dd6_39 : decode B6 39 = .ok (.iadd, 1) := by decide +kernel
theorem dd6_40 : decode B6 40 = .ok (.putfield 79, 3) := by decide +kernel
theorem dd6_43 : decode B6 43 = .ok (.aload_n 0, 1) := by decide +kernel
theorem dd6_44 : decode B6 44 = .ok (.areturn, 1) := by decide +kernel
theorem own_pn10 : plainFor mN10 = true := by decide +kernel
theorem own_rm11 (l : Launch) (Z : State) (a0 : Array Value) (hw : own_W a0 Z) (ws : List Jvm.Cond) (i0 : Int32) (m1 m0 : ClassId) (o0 o2 o3 o1 : Nat) (h0 : Heap) (n0 : Nat) (Z0 : n0 ≤ h0.size) (O0 : Old Z n0 h0) (I6 : Fld Z h0 o2 cN2 "value" "[B" (.ref o3)) (I7 : Arv Z h0 o3 m1 .byte 0 [] (.int 0)) (I8 : Sta Z Z.heap cN2 "COMPACT_STRINGS" "Z" (.int i0)) (I9 : ¬ (i0 = 0)) (I00 : Fld Z h0 o2 cN2 "coder" "B" (.int 0)) (I2 : Exa Z h0 o2 cN2) (I3 : Fld Z h0 o0 cN3 "count" "I" (.int 0)) (I4 : Fld Z h0 o0 cN3 "value" "[B" (.ref o1)) (I01 : Arv Z h0 o1 m0 .byte 16 [(.int 0), (.int 0), (.int 0), (.int 0), (.int 0), (.int 0), (.int 0), (.int 0), (.int 0), (.int 0), (.int 0), (.int 0), (.int 0), (.int 0), (.int 0), (.int 0)] (.int 0)) (I5 : Fld Z h0 o0 cN3 "coder" "B" (.int 0)) (I0 : Exa Z h0 o0 cN4) (I02 : n0 ≤ o1) (I03 : Exa Z h0 o1 "[B") (I1 : @Ne Nat o0 o1) (I04 : n0 ≤ o0) :
 own_Met l Z h0 mN10 B6 3 (Option.some (FieldType.object cN3)) ws (own_R 3 0 0 47) #[(.ref o0), (.ref o2)] (fun v h L => (v = some (.ref o0) ∧ Fr n0 L ∧ Keep h0 h [o1, o0] ∧ Arv Z h o1 m0 .byte 16 [(.int 0), (.int 0), (.int 0), (.int 0), (.int 0), (.int 0), (.int 0), (.int 0), (.int 0), (.int 0), (.int 0), (.int 0), (.int 0), (.int 0), (.int 0), (.int 0)] (.int 0) ∧ Exa Z h o1 "[B" ∧ Fld Z h o0 cN3 "count" "I" (.int 0) ∧ Exa Z h o0 cN4 ∧ Fld Z h o0 cN3 "value" "[B" (.ref o1) ∧ Fld Z h o0 cN3 "coder" "B" (.int 0))) 0 0 := own_go own_pn10 fun p e s m below meth c s₁ hns hrt hnm hml hZ hx hby hown X0 e0 => by
 have N0 := Fr.nil n0
 refine own_cast (own_ef5 m o0 o2) ?_
 refine oAN X0 hx hby dd6_0 rfl rfl ?_
 refine oS (fun _ => XT.ifnonnullYes X0.here hx rfl (pc0 := 1) (pc' := 9) rfl (hb hby dd6_1) rfl (by decide) (by decide)) ?_
 refine oAN X0 hx hby dd6_9 rfl rfl ?_
 refine own_cV X0 hx hZ hown e0 (y := mN5) (z := mN5) (b := o2) (hw 57) (hw 58) (notFace_of_selects (args := #[]) (mvT hZ (hw 60))) (hw 60) (hw 59) (hw 3) (hw 61) (by decide) I2 (W := 0) (own_rm12 l Z a0 hw [] i0 m1 o2 o3 h0 n0 Z0 O0 I6 I7 I8 I9 I00 I2) [] [] hml (lenOf own_pd5 rfl) (hb hby dd6_10) fun T2 h2 v0 L0 X1 e1 q0 => ?_
 obtain ⟨rfl, N1, K1⟩ := q0
 have N2 := Fr.app N0 N1
 have e2 := e1.trans K1
 refine oISN X1 hx hby dd6_13 (l' := #[rv o0, rv o2, iv 0]) rfl ?_
 refine oAN X1 hx hby dd6_14 rfl rfl ?_
 refine oAN X1 hx hby dd6_15 rfl rfl ?_
 refine own_gF X1 hx hZ hown (hw 68) e2 I3 (hb hby dd6_16) fun T0 X2 e3 => ?_
 refine oIN X2 hx hby dd6_19 rfl ?_
 refine oS (fun _ => XS.iadd X2.here hx rfl (hb hby dd6_20) rfl) ?_
 show own_G p e below (T0.setTop (mkF m 21 #[rv o0, rv o2, iv 0] [(.int 0), (.ref o0)])) _
 refine own_cP X2 hx hZ hown e3 (y := mN6) (b := o0) (hw 70) (hw 71) (own_selP (hw 71) (hw 72) (hw 73) rfl (by decide)) (hw 72) (hw 39) (hw 74) (by decide) I0 (W := 0) (own_rm14 l Z a0 hw [] m0 o0 o1 h0 n0 Z0 O0 I4 I01 I5) [(.int 0)] [] hml (lenOf own_pd2 rfl) (hb hby dd6_21) fun T3 h3 v1 L1 X3 e4 q1 => ?_
 obtain ⟨rfl, N3, K2⟩ := q1
 have N4 := Fr.app N2 N3
 have e5 := e4.trans K2
 refine oAN X3 hx hby dd6_24 rfl rfl ?_
 refine oAN X3 hx hby dd6_25 rfl rfl ?_
 refine own_gF X3 hx hZ hown (hw 68) e5 I3 (hb hby dd6_26) fun T4 X7 e6 => ?_
 refine oAN X7 hx hby dd6_29 rfl rfl ?_
 refine own_cP X7 hx hZ hown e6 (y := mN9) (b := o0) (hw 75) (hw 76) (own_selP (hw 76) (hw 77) (hw 73) rfl (by decide)) (hw 77) (hw 39) (hw 79) (by decide) I0 (W := 0) (own_rm15 l Z a0 hw [] i0 m1 m0 o0 o2 o1 o3 h0 n0 Z0 O0 I8 I9 I5 I00 I2 I0 I4 I6 I7 I01 I02 I03) [(.int 0), (.ref o2)] [] hml (lenOf own_pd8 rfl) (hb hby dd6_30) fun T5 h4 v2 L2 X4 e7 q2 => ?_
 obtain ⟨rfl, N5, K0, F2, F3⟩ := q2
 have N6 := Fr.app N4 N5
 have z0 := K0.1
 refine oAN X4 hx hby dd6_33 rfl rfl ?_
 refine oS (fun _ => XS.dup X4.here hx rfl (hb hby dd6_34) rfl rfl) ?_
 have F0 := I3.keep K0 (ninS I1 nin0)
 refine own_gF X4 hx hZ hown (hw 68) e7 F0 (hb hby dd6_35) fun T1 X5 e8 => ?_
 refine oIN X5 hx hby dd6_38 rfl ?_
 show own_G p e below (T1.setTop (mkF m 39 #[rv o0, rv o2, iv 0] [(.int 0), (.int 0), (.ref o0)])) _
 refine oS (fun _ => XS.iadd X5.here hx rfl (hb hby dd6_39) rfl) ?_
 have F1 := I0.keep K0
 refine own_pF X5 hx hZ hown (hw 68) e8 F0 F1 (Or.inl (hw 69)) (hw 30) (ty := .int) rfl rfl (hb hby dd6_40) fun T6 h1 X6 e9 W0 => ?_
 have N7 := Fr.snoc X6 N6 I04
 have z1 := W0.size
 have F4 := Fld.same W0 F0
 refine oAN X6 hx hby dd6_43 rfl rfl ?_
 have F5 := F2.other W0 (Ne.symm I1)
 have F6 := Exa.wr W0 F3
 have F7 := Exa.wr W0 F1
 have F8 := Fld.other W0 (I4.keep K0 (ninS I1 nin0)) (Or.inr (slot_ne (C := cN4) (Or.inl (hw 44)) (Or.inl (hw 69)) (by decide) (t := (.array .byte)) (t' := .int) (by decide) (by decide)))
 have F9 := Fld.other W0 (I5.keep K0 (ninS I1 nin0)) (Or.inr (slot_ne (C := cN4) (Or.inl (hw 46)) (Or.inl (hw 69)) (by decide) (t := .byte) (t' := .int) (by decide) (by decide)))
 have K3 : Keep h0 h1 [o1, o0] := (((Keep.refl h0 [o1, o0]).trans K0 (allS (Or.inl (by simp)) all0)).wr W0 (Or.inl (by simp)))
 exact own_retA X6 hx hns hrt rfl rfl (hb hby dd6_44) e9 (by decide) (by decide) (⟨rfl, N7, K3, F5, F6, F4, F7, F8, F9⟩)
theorem own_pd9 : parseMethodDescriptor "(Ljava/lang/String;)Ljava/lang/AbstractStringBuilder;" = some ⟨[(.object cN2)], (some (.object cN3))⟩ := by decide +kernel
theorem dd5_2 : decode B5 2 = .ok (.invokespecial 29, 3) := by decide +kernel
theorem dd5_5 : decode B5 5 = .ok (.pop, 1) := by decide +kernel
theorem dd5_6 : decode B5 6 = .ok (.aload_n 0, 1) := by decide +kernel
theorem dd5_7 : decode B5 7 = .ok (.areturn, 1) := by decide +kernel
theorem own_pn11 : plainFor mN11 = true := by decide +kernel
theorem own_rm10 (l : Launch) (Z : State) (a0 : Array Value) (hw : own_W a0 Z) (ws : List Jvm.Cond) (i0 : Int32) (m1 m0 : ClassId) (o0 o2 o3 o1 : Nat) (h0 : Heap) (n0 : Nat) (Z0 : n0 ≤ h0.size) (O0 : Old Z n0 h0) (I1 : Fld Z h0 o2 cN2 "value" "[B" (.ref o3)) (I2 : Arv Z h0 o3 m1 .byte 0 [] (.int 0)) (I3 : Sta Z Z.heap cN2 "COMPACT_STRINGS" "Z" (.int i0)) (I4 : ¬ (i0 = 0)) (I5 : Fld Z h0 o2 cN2 "coder" "B" (.int 0)) (I6 : Exa Z h0 o2 cN2) (I7 : Fld Z h0 o0 cN3 "count" "I" (.int 0)) (I8 : Fld Z h0 o0 cN3 "value" "[B" (.ref o1)) (I9 : Arv Z h0 o1 m0 .byte 16 [(.int 0), (.int 0), (.int 0), (.int 0), (.int 0), (.int 0), (.int 0), (.int 0), (.int 0), (.int 0), (.int 0), (.int 0), (.int 0), (.int 0), (.int 0), (.int 0)] (.int 0)) (I00 : Fld Z h0 o0 cN3 "coder" "B" (.int 0)) (I0 : Exa Z h0 o0 cN4) (I01 : n0 ≤ o1) (I02 : Exa Z h0 o1 "[B") (I03 : @Ne Nat o0 o1) (I04 : n0 ≤ o0) :
 own_Met l Z h0 mN11 B5 2 (Option.some (FieldType.object cN4)) ws (own_R 4 0 0 61) #[(.ref o0), (.ref o2)] (fun v h L => (v = some (.ref o0) ∧ Fr n0 L ∧ Keep h0 h [o1, o0] ∧ Arv Z h o1 m0 .byte 16 [(.int 0), (.int 0), (.int 0), (.int 0), (.int 0), (.int 0), (.int 0), (.int 0), (.int 0), (.int 0), (.int 0), (.int 0), (.int 0), (.int 0), (.int 0), (.int 0)] (.int 0) ∧ Exa Z h o1 "[B" ∧ Fld Z h o0 cN3 "count" "I" (.int 0) ∧ Exa Z h o0 cN4 ∧ Fld Z h o0 cN3 "value" "[B" (.ref o1) ∧ Fld Z h o0 cN3 "coder" "B" (.int 0))) 0 0 := own_go own_pn11 fun p e s m below meth c s₁ hns hrt hnm hml hZ hx hby hown X0 e0 => by
 have N0 := Fr.nil n0
 refine own_cast (own_ef1 m o0 o2) ?_
 refine oAN X0 hx hby dd5_0 rfl rfl ?_
 refine oAN X0 hx hby dd5_1 rfl rfl ?_
 refine own_cX X0 hx hZ hown e0 (y := mN10) (b := o0) (hw 52) (hw 55) (own_nf (hw 73) rfl) (hw 53) (hw 54) (by decide) (hw 39) (hw 56) (by decide) I0 (W := 0) (own_rm11 l Z a0 hw [] i0 m1 m0 o0 o2 o3 o1 h0 n0 Z0 O0 I1 I2 I3 I4 I5 I6 I7 I8 I9 I00 I0 I01 I02 I03 I04) [(.ref o2)] [] hml (lenOf own_pd9 rfl) (hb hby dd5_2) fun T0 h1 v0 L0 X1 e1 q0 => ?_
 obtain ⟨rfl, N1, K0, F0, F1, F2, F3, F4, F5⟩ := q0
 have N2 := Fr.app N0 N1
 have z0 := K0.1
 refine oS (fun _ => XT.pop X1.here hx rfl (hb hby dd5_5) rfl rfl) ?_
 refine oAN X1 hx hby dd5_6 rfl rfl ?_
 have K1 : Keep h0 h1 [o1, o0] := ((Keep.refl h0 [o1, o0]).trans K0 (allS (Or.inl (by simp)) (allS (Or.inl (by simp)) all0)))
 exact own_retA X1 hx hns hrt rfl rfl (hb hby dd5_7) e1 (by decide) (by decide) (⟨rfl, N2, K1, F0, F1, F2, F3, F4, F5⟩)
theorem own_pd10 : parseMethodDescriptor "(Ljava/lang/String;)Ljava/lang/StringBuilder;" = some ⟨[(.object cN2)], (some (.object cN4))⟩ := by decide +kernel
theorem dd2_12 : decode B2 12 = .ok (.invokevirtual 30, 3) := by decide +kernel
theorem dd2_15 : decode B2 15 = .ok (.ldc 103, 2) := by decide +kernel
theorem own_rm21 (l : Launch) (Z : State) (a0 : Array Value) (hw : own_W a0 Z) (ws : List Jvm.Cond) (i0 : Int32) (m0 : ClassId) (o0 o1 : Nat) (h0 : Heap) (n0 : Nat) (Z0 : n0 ≤ h0.size) (O0 : Old Z n0 h0) (I0 : Fld Z h0 o0 cN2 "value" "[B" (.ref o1)) (I1 : Arv Z h0 o1 m0 .byte 16 [(.int 58), (.int 32), (.int 110), (.int 111), (.int 116), (.int 32), (.int 85), (.int 84), (.int 70), (.int 45), (.int 56), (.int 32), (.int 116), (.int 101), (.int 120), (.int 116)] (.int 0)) (I2 : Sta Z Z.heap cN2 "COMPACT_STRINGS" "Z" (.int i0)) (I3 : ¬ (i0 = 0)) (I4 : Fld Z h0 o0 cN2 "coder" "B" (.int 0)) (I5 : Exa Z h0 o0 cN2) :
 own_Met l Z h0 mN5 B7 1 (Option.some FieldType.int) ws (own_R 1 0 0 13) #[(.ref o0)] (fun v h L => (v = some (.int 16) ∧ Fr n0 L ∧ h = h0)) 0 0 := own_go own_pn5 fun p e s m below meth c s₁ hns hrt hnm hml hZ hx hby hown X1 e1 => by
 have N0 := Fr.nil n0
 refine own_cast (own_ef3 m o0) ?_
 refine oAN X1 hx hby dd7_0 rfl rfl ?_
 refine own_gF X1 hx hZ hown (hw 20) e1 I0 (hb hby dd7_1) fun T0 X0 e0 => ?_
 refine oS (own_len X0 hx hZ e0 I1 rfl rfl (hb hby dd7_4)) ?_
 refine oAN X0 hx hby dd7_5 rfl rfl ?_
 refine own_cV X0 hx hZ hown e0 (y := mN4) (z := mN4) (b := o0) (hw 62) (hw 63) (notFace_of_selects (args := #[]) (mvT hZ (hw 65))) (hw 65) (hw 64) (hw 3) (hw 66) (by decide) I5 (W := 1) (own_rm13 l Z a0 hw [] i0 o0 h0 n0 Z0 O0 I2 I3 I4) [] [(.int 16)] hml (lenOf own_pd4 rfl) (hb hby dd7_6) fun T1 h1 v0 L0 X2 e2 q0 => ?_
 obtain ⟨rfl, N1, K0⟩ := q0
 have N2 := Fr.app N0 N1
 have e3 := e2.trans K0
 refine oS (fun _ => XT.ishr X2.here hx rfl (hb hby dd7_9) rfl) ?_
 exact own_retI X2 hx hns hrt (hb hby dd7_10) e3 (by decide) (by decide) (⟨rfl, N2, rfl⟩)
theorem own_rm22 (l : Launch) (Z : State) (a0 : Array Value) (hw : own_W a0 Z) (ws : List Jvm.Cond) (m0 : ClassId) (o0 o1 : Nat) (h0 : Heap) (n0 : Nat) (Z0 : n0 ≤ h0.size) (O0 : Old Z n0 h0) (I0 : Fld Z h0 o0 cN3 "value" "[B" (.ref o1)) (I1 : Arv Z h0 o1 m0 .byte 16 [(.int 0), (.int 0), (.int 0), (.int 0), (.int 0), (.int 0), (.int 0), (.int 0), (.int 0), (.int 0), (.int 0), (.int 0), (.int 0), (.int 0), (.int 0), (.int 0)] (.int 0)) (I2 : Fld Z h0 o0 cN3 "coder" "B" (.int 0)) :
 own_Met l Z h0 mN6 B9 3 (Option.none : Option FieldType) ws (own_R 0 0 0 0) #[(.ref o0), (.int 16)] (fun v h L => (v = none ∧ Fr n0 L ∧ h = h0)) 0 0 := own_go own_pn6 fun p e s m below meth c s₁ hns hrt hnm hml hZ hx hby hown X2 e1 => by
 have N0 := Fr.nil n0
 refine own_cast (own_ef6 m o0 16) ?_
 refine oAN X2 hx hby dd9_0 rfl rfl ?_
 refine own_gF X2 hx hZ hown (hw 43) e1 I0 (hb hby dd9_1) fun T1 X1 e0 => ?_
 refine oS (own_len X1 hx hZ e0 I1 rfl rfl (hb hby dd9_4)) ?_
 refine oAN X1 hx hby dd9_5 rfl rfl ?_
 refine own_gF X1 hx hZ hown (hw 45) e0 I2 (hb hby dd9_6) fun T0 X0 e2 => ?_
 refine oS (fun _ => XT.ishr X0.here hx rfl (hb hby dd9_9) rfl) ?_
 refine oISN X0 hx hby dd9_10 (l' := #[rv o0, iv 16, iv 16]) rfl ?_
 refine oIN X0 hx hby dd9_11 rfl ?_
 refine oIN X0 hx hby dd9_12 rfl ?_
 refine oS (fun _ => XS.isub X0.here hx rfl (hb hby dd9_13) rfl) ?_
 show own_G p e below (T0.setTop (mkF m 14 #[rv o0, iv 16, iv 16] [(.int 0)])) _
 refine oY0 X0 hx hby (pc' := 38) dd9_14 (XT.i0_le_t (by decide)) ?_
 exact own_retV X0 hx hns hrt (hb hby dd9_38) e2 (by decide) (by decide) (⟨rfl, N0, rfl⟩)
theorem own_rm24 (l : Launch) (Z : State) (a0 : Array Value) (hw : own_W a0 Z) (ws : List Jvm.Cond) (i0 : Int32) (m1 m0 : ClassId) (o1 o0 o2 : Nat) (h0 : Heap) (n0 : Nat) (Z0 : n0 ≤ h0.size) (O0 : Old Z n0 h0) (I2 : Sta Z Z.heap cN2 "COMPACT_STRINGS" "Z" (.int i0)) (I3 : ¬ (i0 = 0)) (I4 : Fld Z h0 o1 cN2 "coder" "B" (.int 0)) (I5 : Exa Z h0 o1 cN2) (I0 : Fld Z h0 o1 cN2 "value" "[B" (.ref o2)) (I1 : Arv Z h0 o2 m1 .byte 16 [(.int 58), (.int 32), (.int 110), (.int 111), (.int 116), (.int 32), (.int 85), (.int 84), (.int 70), (.int 45), (.int 56), (.int 32), (.int 116), (.int 101), (.int 120), (.int 116)] (.int 0)) (I6 : Arv Z h0 o0 m0 .byte 16 [(.int 0), (.int 0), (.int 0), (.int 0), (.int 0), (.int 0), (.int 0), (.int 0), (.int 0), (.int 0), (.int 0), (.int 0), (.int 0), (.int 0), (.int 0), (.int 0)] (.int 0)) (I7 : n0 ≤ o0) (I8 : Exa Z h0 o0 "[B") :
 own_Met l Z h0 mN8 B02 4 (Option.none : Option FieldType) ws (own_R 1 0 0 18) #[(.ref o1), (.ref o0), (.int 0), (.int 0)] (fun v h L => (v = none ∧ Fr n0 L ∧ Keep h0 h [o0] ∧ Arv Z h o0 m0 .byte 16 [(.int 58), (.int 32), (.int 110), (.int 111), (.int 116), (.int 32), (.int 85), (.int 84), (.int 70), (.int 45), (.int 56), (.int 32), (.int 116), (.int 101), (.int 120), (.int 116)] (.int 0) ∧ Exa Z h o0 "[B")) 0 0 := own_go own_pn8 fun p e s m below meth c s₁ hns hrt hnm hml hZ hx hby hown X2 e1 => by
 have N0 := Fr.nil n0
 refine own_cast (own_ef8 m o1 o0 0 0) ?_
 refine oAN X2 hx hby dd12_0 rfl rfl ?_
 refine own_cV X2 hx hZ hown e1 (y := mN4) (z := mN4) (b := o1) (hw 62) (hw 63) (notFace_of_selects (args := #[]) (mvT hZ (hw 65))) (hw 65) (hw 64) (hw 3) (hw 66) (by decide) I5 (W := 0) (own_rm13 l Z a0 hw [] i0 o1 h0 n0 Z0 O0 I2 I3 I4) [] [] hml (lenOf own_pd4 rfl) (hb hby dd12_1) fun T1 h2 v0 L0 X1 e2 q0 => ?_
 obtain ⟨rfl, N1, K1⟩ := q0
 have N2 := Fr.app N0 N1
 have e3 := e2.trans K1
 refine oIN X1 hx hby dd12_4 rfl ?_
 refine oNI X1 hx hby dd12_5 (XT.ii_ne_f (by decide)) ?_
 refine oAN X1 hx hby dd12_8 rfl rfl ?_
 refine own_gF X1 hx hZ hown (hw 20) e3 I0 (hb hby dd12_9) fun T0 X0 e4 => ?_
 refine oIC X0 hx hby dd12_12 ?_
 refine oAN X0 hx hby dd12_13 rfl rfl ?_
 refine oIN X0 hx hby dd12_14 rfl ?_
 refine oIN X0 hx hby dd12_15 rfl ?_
 show own_G p e below (T0.setTop (mkF m 16 #[rv o1, rv o0, iv 0, iv 0] [(.int 0), (.int 0), (.ref o0), (.int 0), (.ref o2)])) _
 refine oS (fun _ => XT.ishl X0.here hx rfl (hb hby dd12_16) rfl) ?_
 refine oAN X0 hx hby dd12_17 rfl rfl ?_
 refine own_gF X0 hx hZ hown (hw 20) e4 I0 (hb hby dd12_18) fun T2 X3 e0 => ?_
 refine oS (own_len X3 hx hZ e0 I1 rfl rfl (hb hby dd12_21)) ?_
 obtain ⟨T3, h1, L1, X4, e5, N3, K0, A0, s0⟩ := cpA X3 hx hZ hown (hw 91) (hw 94) (hw 92) (hw 93) e0 I1 I6 (us := [(.int 58), (.int 32), (.int 110), (.int 111), (.int 116), (.int 32), (.int 85), (.int 84), (.int 70), (.int 45), (.int 56), (.int 32), (.int 116), (.int 101), (.int 120), (.int 116)]) (Or.inl ⟨rfl, rfl⟩) (by decide) (by decide) (by decide) (by decide) (by decide) rfl (Nat.le_of_ble_eq_true rfl) N2 I7 (g := (mkF m 22 #[rv o1, rv o0, iv 0, iv 0] [(.int 16), (.int 0), (.ref o0), (.int 0), (.ref o2)])) rfl (by rw [hml]; rfl) (rest := []) rfl (hb hby dd12_22) (by decide) (W := 0) (by show 2 * 0 + _ ≤ _; exact Nat.le_of_eq rfl) (by decide)
 have z0 := K0.1
 have F0 : Arv Z h1 o0 m0 .byte 16 [(.int 58), (.int 32), (.int 110), (.int 111), (.int 116), (.int 32), (.int 85), (.int 84), (.int 70), (.int 45), (.int 56), (.int 32), (.int 116), (.int 101), (.int 120), (.int 116)] (.int 0) := A0
 refine oS s0 ?_
 refine oGO X4 hx hby (pc' := 43) dd12_25 ?_
 have F1 := I8.keep K0
 have K2 : Keep h0 h1 [o0] := ((Keep.refl h0 [o0]).trans K0 (allS (Or.inl (by simp)) all0))
 exact own_retV X4 hx hns hrt (hb hby dd12_43) e5 (by decide) (by decide) (⟨rfl, N3, K2, F0, F1⟩)
theorem own_rm23 (l : Launch) (Z : State) (a0 : Array Value) (hw : own_W a0 Z) (ws : List Jvm.Cond) (i0 : Int32) (m1 m0 : ClassId) (o2 o1 o0 o3 : Nat) (h0 : Heap) (n0 : Nat) (Z0 : n0 ≤ h0.size) (O0 : Old Z n0 h0) (I1 : Sta Z Z.heap cN2 "COMPACT_STRINGS" "Z" (.int i0)) (I2 : ¬ (i0 = 0)) (I3 : Fld Z h0 o2 cN3 "coder" "B" (.int 0)) (I4 : Fld Z h0 o1 cN2 "coder" "B" (.int 0)) (I0 : Exa Z h0 o1 cN2) (I5 : Exa Z h0 o2 cN4) (I6 : Fld Z h0 o2 cN3 "value" "[B" (.ref o0)) (I7 : Fld Z h0 o1 cN2 "value" "[B" (.ref o3)) (I8 : Arv Z h0 o3 m1 .byte 16 [(.int 58), (.int 32), (.int 110), (.int 111), (.int 116), (.int 32), (.int 85), (.int 84), (.int 70), (.int 45), (.int 56), (.int 32), (.int 116), (.int 101), (.int 120), (.int 116)] (.int 0)) (I9 : Arv Z h0 o0 m0 .byte 16 [(.int 0), (.int 0), (.int 0), (.int 0), (.int 0), (.int 0), (.int 0), (.int 0), (.int 0), (.int 0), (.int 0), (.int 0), (.int 0), (.int 0), (.int 0), (.int 0)] (.int 0)) (I00 : n0 ≤ o0) (I01 : Exa Z h0 o0 "[B") :
 own_Met l Z h0 mN9 B00 3 (Option.none : Option FieldType) ws (own_R 2 0 0 33) #[(.ref o2), (.int 0), (.ref o1)] (fun v h L => (v = none ∧ Fr n0 L ∧ Keep h0 h [o0] ∧ Arv Z h o0 m0 .byte 16 [(.int 58), (.int 32), (.int 110), (.int 111), (.int 116), (.int 32), (.int 85), (.int 84), (.int 70), (.int 45), (.int 56), (.int 32), (.int 116), (.int 101), (.int 120), (.int 116)] (.int 0) ∧ Exa Z h o0 "[B")) 0 0 := own_go own_pn9 fun p e s m below meth c s₁ hns hrt hnm hml hZ hx hby hown X0 e0 => by
 have N0 := Fr.nil n0
 refine own_cast (own_ef7 m o2 0 o1) ?_
 refine oAN X0 hx hby dd10_0 rfl rfl ?_
 refine oAN X0 hx hby dd10_1 rfl rfl ?_
 refine own_cP X0 hx hZ hown e0 (y := mN7) (b := o2) (hw 80) (hw 81) (own_selP (hw 81) (hw 82) (hw 73) rfl (by decide)) (hw 82) (hw 39) (hw 84) (by decide) I5 (W := 0) (own_rm16 l Z a0 hw [] i0 o2 o1 h0 n0 Z0 O0 I1 I2 I3 I4 I0) [(.ref o1)] [] hml (lenOf own_pd6 rfl) (hb hby dd10_2) fun T1 h2 v0 L0 X1 e1 q0 => ?_
 obtain ⟨rfl, N1, K1⟩ := q0
 have N2 := Fr.app N0 N1
 have e2 := e1.trans K1
 refine oAN X1 hx hby dd10_5 rfl rfl ?_
 refine oAN X1 hx hby dd10_6 rfl rfl ?_
 refine own_gF X1 hx hZ hown (hw 43) e2 I6 (hb hby dd10_7) fun T2 X2 e3 => ?_
 refine oIN X2 hx hby dd10_10 rfl ?_
 refine oAN X2 hx hby dd10_11 rfl rfl ?_
 refine own_gF X2 hx hZ hown (hw 45) e3 I3 (hb hby dd10_12) fun T3 X3 e4 => ?_
 refine own_cV X3 hx hZ hown e4 (y := mN8) (z := mN8) (b := o1) (hw 86) (hw 87) (notFace_of_selects (args := #[]) (mvT hZ (hw 89))) (hw 89) (hw 88) (hw 3) (hw 90) (by decide) I0 (W := 0) (own_rm24 l Z a0 hw [] i0 m1 m0 o1 o0 o3 h0 n0 Z0 O0 I1 I2 I4 I0 I7 I8 I9 I00 I01) [(.ref o0), (.int 0), (.int 0)] [] hml (lenOf own_pd7 rfl) (hb hby dd10_15) fun T0 h1 v1 L1 X4 e5 q1 => ?_
 obtain ⟨rfl, N3, K0, F0, F1⟩ := q1
 have N4 := Fr.app N2 N3
 have z0 := K0.1
 show own_G p e below (T0.setTop (mkF m 18 #[rv o2, iv 0, rv o1] [])) _
 have K2 : Keep h0 h1 [o0] := ((Keep.refl h0 [o0]).trans K0 (allS (Or.inl (by simp)) all0))
 exact own_retV X4 hx hns hrt (hb hby dd10_18) e5 (by decide) (by decide) (⟨rfl, N4, K2, F0, F1⟩)
theorem own_rm20 (l : Launch) (Z : State) (a0 : Array Value) (hw : own_W a0 Z) (ws : List Jvm.Cond) (i0 : Int32) (m1 m0 : ClassId) (o0 o2 o3 o1 : Nat) (h0 : Heap) (n0 : Nat) (Z0 : n0 ≤ h0.size) (O0 : Old Z n0 h0) (I6 : Fld Z h0 o2 cN2 "value" "[B" (.ref o3)) (I7 : Arv Z h0 o3 m1 .byte 16 [(.int 58), (.int 32), (.int 110), (.int 111), (.int 116), (.int 32), (.int 85), (.int 84), (.int 70), (.int 45), (.int 56), (.int 32), (.int 116), (.int 101), (.int 120), (.int 116)] (.int 0)) (I8 : Sta Z Z.heap cN2 "COMPACT_STRINGS" "Z" (.int i0)) (I9 : ¬ (i0 = 0)) (I00 : Fld Z h0 o2 cN2 "coder" "B" (.int 0)) (I2 : Exa Z h0 o2 cN2) (I3 : Fld Z h0 o0 cN3 "count" "I" (.int 0)) (I4 : Fld Z h0 o0 cN3 "value" "[B" (.ref o1)) (I01 : Arv Z h0 o1 m0 .byte 16 [(.int 0), (.int 0), (.int 0), (.int 0), (.int 0), (.int 0), (.int 0), (.int 0), (.int 0), (.int 0), (.int 0), (.int 0), (.int 0), (.int 0), (.int 0), (.int 0)] (.int 0)) (I5 : Fld Z h0 o0 cN3 "coder" "B" (.int 0)) (I0 : Exa Z h0 o0 cN4) (I02 : n0 ≤ o1) (I03 : Exa Z h0 o1 "[B") (I1 : @Ne Nat o0 o1) (I04 : n0 ≤ o0) :
 own_Met l Z h0 mN10 B6 3 (Option.some (FieldType.object cN3)) ws (own_R 3 0 0 47) #[(.ref o0), (.ref o2)] (fun v h L => (v = some (.ref o0) ∧ Fr n0 L ∧ Keep h0 h [o1, o0] ∧ Arv Z h o1 m0 .byte 16 [(.int 58), (.int 32), (.int 110), (.int 111), (.int 116), (.int 32), (.int 85), (.int 84), (.int 70), (.int 45), (.int 56), (.int 32), (.int 116), (.int 101), (.int 120), (.int 116)] (.int 0) ∧ Exa Z h o1 "[B" ∧ Fld Z h o0 cN3 "count" "I" (.int 16) ∧ Exa Z h o0 cN4 ∧ Fld Z h o0 cN3 "value" "[B" (.ref o1) ∧ Fld Z h o0 cN3 "coder" "B" (.int 0))) 0 0 := own_go own_pn10 fun p e s m below meth c s₁ hns hrt hnm hml hZ hx hby hown X0 e0 => by
 have N0 := Fr.nil n0
 refine own_cast (own_ef5 m o0 o2) ?_
 refine oAN X0 hx hby dd6_0 rfl rfl ?_
 refine oS (fun _ => XT.ifnonnullYes X0.here hx rfl (pc0 := 1) (pc' := 9) rfl (hb hby dd6_1) rfl (by decide) (by decide)) ?_
 refine oAN X0 hx hby dd6_9 rfl rfl ?_
 refine own_cV X0 hx hZ hown e0 (y := mN5) (z := mN5) (b := o2) (hw 57) (hw 58) (notFace_of_selects (args := #[]) (mvT hZ (hw 60))) (hw 60) (hw 59) (hw 3) (hw 61) (by decide) I2 (W := 0) (own_rm21 l Z a0 hw [] i0 m1 o2 o3 h0 n0 Z0 O0 I6 I7 I8 I9 I00 I2) [] [] hml (lenOf own_pd5 rfl) (hb hby dd6_10) fun T2 h2 v0 L0 X1 e1 q0 => ?_
 obtain ⟨rfl, N1, K1⟩ := q0
 have N2 := Fr.app N0 N1
 have e2 := e1.trans K1
 refine oISN X1 hx hby dd6_13 (l' := #[rv o0, rv o2, iv 16]) rfl ?_
 refine oAN X1 hx hby dd6_14 rfl rfl ?_
 refine oAN X1 hx hby dd6_15 rfl rfl ?_
 refine own_gF X1 hx hZ hown (hw 68) e2 I3 (hb hby dd6_16) fun T0 X2 e3 => ?_
 refine oIN X2 hx hby dd6_19 rfl ?_
 refine oS (fun _ => XS.iadd X2.here hx rfl (hb hby dd6_20) rfl) ?_
 show own_G p e below (T0.setTop (mkF m 21 #[rv o0, rv o2, iv 16] [(.int 16), (.ref o0)])) _
 refine own_cP X2 hx hZ hown e3 (y := mN6) (b := o0) (hw 70) (hw 71) (own_selP (hw 71) (hw 72) (hw 73) rfl (by decide)) (hw 72) (hw 39) (hw 74) (by decide) I0 (W := 0) (own_rm22 l Z a0 hw [] m0 o0 o1 h0 n0 Z0 O0 I4 I01 I5) [(.int 16)] [] hml (lenOf own_pd2 rfl) (hb hby dd6_21) fun T3 h3 v1 L1 X3 e4 q1 => ?_
 obtain ⟨rfl, N3, K2⟩ := q1
 have N4 := Fr.app N2 N3
 have e5 := e4.trans K2
 refine oAN X3 hx hby dd6_24 rfl rfl ?_
 refine oAN X3 hx hby dd6_25 rfl rfl ?_
 refine own_gF X3 hx hZ hown (hw 68) e5 I3 (hb hby dd6_26) fun T4 X7 e6 => ?_
 refine oAN X7 hx hby dd6_29 rfl rfl ?_
 refine own_cP X7 hx hZ hown e6 (y := mN9) (b := o0) (hw 75) (hw 76) (own_selP (hw 76) (hw 77) (hw 73) rfl (by decide)) (hw 77) (hw 39) (hw 79) (by decide) I0 (W := 0) (own_rm23 l Z a0 hw [] i0 m1 m0 o0 o2 o1 o3 h0 n0 Z0 O0 I8 I9 I5 I00 I2 I0 I4 I6 I7 I01 I02 I03) [(.int 0), (.ref o2)] [] hml (lenOf own_pd8 rfl) (hb hby dd6_30) fun T5 h4 v2 L2 X4 e7 q2 => ?_
 obtain ⟨rfl, N5, K0, F2, F3⟩ := q2
 have N6 := Fr.app N4 N5
 have z0 := K0.1
 refine oAN X4 hx hby dd6_33 rfl rfl ?_
 refine oS (fun _ => XS.dup X4.here hx rfl (hb hby dd6_34) rfl rfl) ?_
 have F0 := I3.keep K0 (ninS I1 nin0)
 refine own_gF X4 hx hZ hown (hw 68) e7 F0 (hb hby dd6_35) fun T1 X5 e8 => ?_
 refine oIN X5 hx hby dd6_38 rfl ?_
 show own_G p e below (T1.setTop (mkF m 39 #[rv o0, rv o2, iv 16] [(.int 16), (.int 0), (.ref o0)])) _
 refine oS (fun _ => XS.iadd X5.here hx rfl (hb hby dd6_39) rfl) ?_
 have F1 := I0.keep K0
 refine own_pF X5 hx hZ hown (hw 68) e8 F0 F1 (Or.inl (hw 69)) (hw 30) (ty := .int) rfl rfl (hb hby dd6_40) fun T6 h1 X6 e9 W0 => ?_
 have N7 := Fr.snoc X6 N6 I04
 have z1 := W0.size
 have F4 := Fld.same W0 F0
 refine oAN X6 hx hby dd6_43 rfl rfl ?_
 have F5 := F2.other W0 (Ne.symm I1)
 have F6 := Exa.wr W0 F3
 have F7 := Exa.wr W0 F1
 have F8 := Fld.other W0 (I4.keep K0 (ninS I1 nin0)) (Or.inr (slot_ne (C := cN4) (Or.inl (hw 44)) (Or.inl (hw 69)) (by decide) (t := (.array .byte)) (t' := .int) (by decide) (by decide)))
 have F9 := Fld.other W0 (I5.keep K0 (ninS I1 nin0)) (Or.inr (slot_ne (C := cN4) (Or.inl (hw 46)) (Or.inl (hw 69)) (by decide) (t := .byte) (t' := .int) (by decide) (by decide)))
 have K3 : Keep h0 h1 [o1, o0] := (((Keep.refl h0 [o1, o0]).trans K0 (allS (Or.inl (by simp)) all0)).wr W0 (Or.inl (by simp)))
 exact own_retA X6 hx hns hrt rfl rfl (hb hby dd6_44) e9 (by decide) (by decide) (⟨rfl, N7, K3, F5, F6, F4, F7, F8, F9⟩)
theorem own_rm19 (l : Launch) (Z : State) (a0 : Array Value) (hw : own_W a0 Z) (ws : List Jvm.Cond) (i0 : Int32) (m1 m0 : ClassId) (o0 o2 o3 o1 : Nat) (h0 : Heap) (n0 : Nat) (Z0 : n0 ≤ h0.size) (O0 : Old Z n0 h0) (I1 : Fld Z h0 o2 cN2 "value" "[B" (.ref o3)) (I2 : Arv Z h0 o3 m1 .byte 16 [(.int 58), (.int 32), (.int 110), (.int 111), (.int 116), (.int 32), (.int 85), (.int 84), (.int 70), (.int 45), (.int 56), (.int 32), (.int 116), (.int 101), (.int 120), (.int 116)] (.int 0)) (I3 : Sta Z Z.heap cN2 "COMPACT_STRINGS" "Z" (.int i0)) (I4 : ¬ (i0 = 0)) (I5 : Fld Z h0 o2 cN2 "coder" "B" (.int 0)) (I6 : Exa Z h0 o2 cN2) (I7 : Fld Z h0 o0 cN3 "count" "I" (.int 0)) (I8 : Fld Z h0 o0 cN3 "value" "[B" (.ref o1)) (I9 : Arv Z h0 o1 m0 .byte 16 [(.int 0), (.int 0), (.int 0), (.int 0), (.int 0), (.int 0), (.int 0), (.int 0), (.int 0), (.int 0), (.int 0), (.int 0), (.int 0), (.int 0), (.int 0), (.int 0)] (.int 0)) (I00 : Fld Z h0 o0 cN3 "coder" "B" (.int 0)) (I0 : Exa Z h0 o0 cN4) (I01 : n0 ≤ o1) (I02 : Exa Z h0 o1 "[B") (I03 : @Ne Nat o0 o1) (I04 : n0 ≤ o0) :
 own_Met l Z h0 mN11 B5 2 (Option.some (FieldType.object cN4)) ws (own_R 4 0 0 61) #[(.ref o0), (.ref o2)] (fun v h L => (v = some (.ref o0) ∧ Fr n0 L ∧ Keep h0 h [o1, o0] ∧ Arv Z h o1 m0 .byte 16 [(.int 58), (.int 32), (.int 110), (.int 111), (.int 116), (.int 32), (.int 85), (.int 84), (.int 70), (.int 45), (.int 56), (.int 32), (.int 116), (.int 101), (.int 120), (.int 116)] (.int 0) ∧ Exa Z h o1 "[B" ∧ Fld Z h o0 cN3 "count" "I" (.int 16) ∧ Exa Z h o0 cN4 ∧ Fld Z h o0 cN3 "value" "[B" (.ref o1) ∧ Fld Z h o0 cN3 "coder" "B" (.int 0))) 0 0 := own_go own_pn11 fun p e s m below meth c s₁ hns hrt hnm hml hZ hx hby hown X0 e0 => by
 have N0 := Fr.nil n0
 refine own_cast (own_ef1 m o0 o2) ?_
 refine oAN X0 hx hby dd5_0 rfl rfl ?_
 refine oAN X0 hx hby dd5_1 rfl rfl ?_
 refine own_cX X0 hx hZ hown e0 (y := mN10) (b := o0) (hw 52) (hw 55) (own_nf (hw 73) rfl) (hw 53) (hw 54) (by decide) (hw 39) (hw 56) (by decide) I0 (W := 0) (own_rm20 l Z a0 hw [] i0 m1 m0 o0 o2 o3 o1 h0 n0 Z0 O0 I1 I2 I3 I4 I5 I6 I7 I8 I9 I00 I0 I01 I02 I03 I04) [(.ref o2)] [] hml (lenOf own_pd9 rfl) (hb hby dd5_2) fun T0 h1 v0 L0 X1 e1 q0 => ?_
 obtain ⟨rfl, N1, K0, F0, F1, F2, F3, F4, F5⟩ := q0
 have N2 := Fr.app N0 N1
 have z0 := K0.1
 refine oS (fun _ => XT.pop X1.here hx rfl (hb hby dd5_5) rfl rfl) ?_
 refine oAN X1 hx hby dd5_6 rfl rfl ?_
 have K1 : Keep h0 h1 [o1, o0] := ((Keep.refl h0 [o1, o0]).trans K0 (allS (Or.inl (by simp)) (allS (Or.inl (by simp)) all0)))
 exact own_retA X1 hx hns hrt rfl rfl (hb hby dd5_7) e1 (by decide) (by decide) (⟨rfl, N2, K1, F0, F1, F2, F3, F4, F5⟩)
theorem dd2_17 : decode B2 17 = .ok (.invokevirtual 30, 3) := by decide +kernel
theorem dd13_0 : decode B03 0 = .ok (.new 18, 3) := by decide +kernel
theorem dd13_3 : decode B03 3 = .ok (.dup, 1) := by decide +kernel
theorem dd13_4 : decode B03 4 = .ok (.aload_n 0, 1) := by decide +kernel
theorem dd14_0 : decode B04 0 = .ok (.aload_n 0, 1) := by decide +kernel
theorem dd14_1 : decode B04 1 = .ok (.aload_n 1, 1) := by decide +kernel
theorem dd14_2 : decode B04 2 = .ok (.aconst_null, 1) := by decide +kernel
theorem own_ef9 (m : MethodId) (x0 : Addr) (x1 : Addr) : entryFrame m #[(.ref x0), (.ref x1), .null] 5 = mkF m 0 #[.val (.ref x0), .val (.ref x1), .val .null, .unset, .unset] [] := by first | (simp [entryFrame, mkF, argsToLocals, Value.category]; done) | rfl
theorem dd15_0 : decode B05 0 = .ok (.aload_n 0, 1) := by decide +kernel
theorem dd15_1 : decode B05 1 = .ok (.invokespecial 1, 3) := by decide +kernel
theorem dd15_4 : decode B05 4 = .ok (.aload_n 1, 1) := by decide +kernel
theorem dd16_0 : decode B06 0 = .ok (.aload_n 0, 1) := by decide +kernel
theorem dd16_1 : decode B06 1 = .ok (.getfield 15, 3) := by decide +kernel
theorem dd16_4 : decode B06 4 = .ok (.areturn, 1) := by decide +kernel
theorem own_pn12 : plainFor mN12 = true := by decide +kernel
theorem own_rm28 (l : Launch) (Z : State) (a0 : Array Value) (hw : own_W a0 Z) (ws : List Jvm.Cond) (o0 o1 : Nat) (h0 : Heap) (n0 : Nat) (Z0 : n0 ≤ h0.size) (O0 : Old Z n0 h0) (I0 : Fld Z h0 o0 cN3 "value" "[B" (.ref o1)) :
 own_Met l Z h0 mN12 B06 1 (Option.some (FieldType.array FieldType.byte)) ws (own_R 0 0 0 0) #[(.ref o0)] (fun v h L => (v = some (.ref o1) ∧ Fr n0 L ∧ h = h0)) 0 0 := own_go own_pn12 fun p e s m below meth c s₁ hns hrt hnm hml hZ hx hby hown X0 e0 => by
 have N0 := Fr.nil n0
 refine own_cast (own_ef3 m o0) ?_
 refine oAN X0 hx hby dd16_0 rfl rfl ?_
 refine own_gF X0 hx hZ hown (hw 43) e0 I0 (hb hby dd16_1) fun T0 X1 e1 => ?_
 exact own_retA X1 hx hns hrt rfl rfl (hb hby dd16_4) e1 (by decide) (by decide) (⟨rfl, N0, rfl⟩)
theorem own_pd11 : parseMethodDescriptor "()[B" = some ⟨[], (some (.array .byte))⟩ := by decide +kernel
theorem dd15_5 : decode B05 5 = .ok (.invokevirtual 552, 3) := by decide +kernel
theorem dd15_8 : decode B05 8 = .ok (.astore_n 3, 1) := by decide +kernel
theorem dd15_9 : decode B05 9 = .ok (.aload_n 1, 1) := by decide +kernel
theorem dd17_0 : decode B07 0 = .ok (.aload_n 0, 1) := by decide +kernel
theorem dd18_0 : decode B08 0 = .ok (.aload_n 0, 1) := by decide +kernel
theorem dd18_1 : decode B08 1 = .ok (.getfield 79, 3) := by decide +kernel
theorem dd18_4 : decode B08 4 = .ok (.ireturn, 1) := by decide +kernel
theorem own_pn13 : plainFor mN13 = true := by decide +kernel
theorem own_rm30 (l : Launch) (Z : State) (a0 : Array Value) (hw : own_W a0 Z) (ws : List Jvm.Cond) (o0 : Nat) (h0 : Heap) (n0 : Nat) (Z0 : n0 ≤ h0.size) (O0 : Old Z n0 h0) (I0 : Fld Z h0 o0 cN3 "count" "I" (.int 16)) :
 own_Met l Z h0 mN13 B08 1 (Option.some FieldType.int) ws (own_R 0 0 0 0) #[(.ref o0)] (fun v h L => (v = some (.int 16) ∧ Fr n0 L ∧ h = h0)) 0 0 := own_go own_pn13 fun p e s m below meth c s₁ hns hrt hnm hml hZ hx hby hown X0 e0 => by
 have N0 := Fr.nil n0
 refine own_cast (own_ef3 m o0) ?_
 refine oAN X0 hx hby dd18_0 rfl rfl ?_
 refine own_gF X0 hx hZ hown (hw 68) e0 I0 (hb hby dd18_1) fun T0 X1 e1 => ?_
 exact own_retI X1 hx hns hrt (hb hby dd18_4) e1 (by decide) (by decide) (⟨rfl, N0, rfl⟩)
theorem dd17_1 : decode B07 1 = .ok (.invokespecial 343, 3) := by decide +kernel
theorem dd17_4 : decode B07 4 = .ok (.ireturn, 1) := by decide +kernel
theorem own_pn14 : plainFor mN14 = true := by decide +kernel
theorem own_rm29 (l : Launch) (Z : State) (a0 : Array Value) (hw : own_W a0 Z) (ws : List Jvm.Cond) (o0 : Nat) (h0 : Heap) (n0 : Nat) (Z0 : n0 ≤ h0.size) (O0 : Old Z n0 h0) (I0 : Fld Z h0 o0 cN3 "count" "I" (.int 16)) (I1 : Exa Z h0 o0 cN4) :
 own_Met l Z h0 mN14 B07 1 (Option.some FieldType.int) ws (own_R 1 0 0 12) #[(.ref o0)] (fun v h L => (v = some (.int 16) ∧ Fr n0 L ∧ h = h0)) 0 0 := own_go own_pn14 fun p e s m below meth c s₁ hns hrt hnm hml hZ hx hby hown X0 e0 => by
 have N0 := Fr.nil n0
 refine own_cast (own_ef3 m o0) ?_
 refine oAN X0 hx hby dd17_0 rfl rfl ?_
 refine own_cX X0 hx hZ hown e0 (y := mN13) (b := o0) (hw 119) (hw 114) (own_nf (hw 73) rfl) (hw 115) (hw 54) (by decide) (hw 39) (hw 120) (by decide) I1 (W := 0) (own_rm30 l Z a0 hw [] o0 h0 n0 Z0 O0 I0) [] [] hml (lenOf own_pd5 rfl) (hb hby dd17_1) fun T0 h1 v0 L0 X1 e1 q0 => ?_
 obtain ⟨rfl, N1, K0⟩ := q0
 have N2 := Fr.app N0 N1
 have e2 := e1.trans K0
 exact own_retI X1 hx hns hrt (hb hby dd17_4) e2 (by decide) (by decide) (⟨rfl, N2, rfl⟩)
theorem dd15_10 : decode B05 10 = .ok (.invokevirtual 549, 3) := by decide +kernel
theorem dd15_13 : decode B05 13 = .ok (.istore 4, 2) := by decide +kernel
theorem dd15_15 : decode B05 15 = .ok (.aload_n 1, 1) := by decide +kernel
theorem dd19_0 : decode B09 0 = .ok (.getstatic 18, 3) := by decide +kernel
theorem dd19_3 : decode B09 3 = .ok (.ifCond .eq 14, 3) := by decide +kernel
theorem dd19_6 : decode B09 6 = .ok (.aload_n 0, 1) := by decide +kernel
theorem dd19_7 : decode B09 7 = .ok (.getfield 22, 3) := by decide +kernel
theorem dd19_10 : decode B09 10 = .ok (.ifCond .ne 7, 3) := by decide +kernel
theorem dd19_13 : decode B09 13 = .ok (.iconst 1, 1) := by decide +kernel
theorem dd19_14 : decode B09 14 = .ok (.goto 4, 3) := by decide +kernel
theorem dd19_18 : decode B09 18 = .ok (.ireturn, 1) := by decide +kernel
theorem own_pn15 : plainFor mN15 = true := by decide +kernel
theorem own_rm31 (l : Launch) (Z : State) (a0 : Array Value) (hw : own_W a0 Z) (ws : List Jvm.Cond) (i0 : Int32) (o0 : Nat) (h0 : Heap) (n0 : Nat) (Z0 : n0 ≤ h0.size) (O0 : Old Z n0 h0) (I0 : Sta Z Z.heap cN2 "COMPACT_STRINGS" "Z" (.int i0)) (I1 : ¬ (i0 = 0)) (I2 : Fld Z h0 o0 cN3 "coder" "B" (.int 0)) :
 own_Met l Z h0 mN15 B09 1 (Option.some FieldType.boolean) ws (own_R 0 0 0 0) #[(.ref o0)] (fun v h L => (v = some (.int 1) ∧ Fr n0 L ∧ h = h0)) 0 0 := own_go own_pn15 fun p e s m below meth c s₁ hns hrt hnm hml hZ hx hby hown X2 e0 => by
 have N0 := Fr.nil n0
 refine own_cast (own_ef3 m o0) ?_
 have F0 := Sta.ext O0.2 I0
 obtain ⟨T0, X1, e1, s0⟩ := getS X2 hx hZ hown (host := "") (hw 42) Via.refl e0 F0 (g := (mkF m 0 #[rv o0] [])) rfl (hb hby dd19_0)
 refine oS s0 ?_
 refine oN0 X1 hx hby dd19_3 (XT.i0_eq_f I1) ?_
 refine oAN X1 hx hby dd19_6 rfl rfl ?_
 refine own_gF X1 hx hZ hown (hw 45) e1 I2 (hb hby dd19_7) fun T1 X0 e2 => ?_
 refine oN0 X0 hx hby dd19_10 (XT.i0_ne_f (by decide)) ?_
 refine oIC X0 hx hby dd19_13 ?_
 refine oGO X0 hx hby (pc' := 18) dd19_14 ?_
 exact own_retN X0 hx (t := .boolean) hns hrt (by simp) (hb hby dd19_18) (by decide) e2 (by decide) (by decide) (⟨rfl, N0, rfl⟩)
theorem own_pd12 : parseMethodDescriptor "()Z" = some ⟨[], (some .boolean)⟩ := by decide +kernel
theorem dd15_16 : decode B05 16 = .ok (.invokevirtual 1047, 3) := by decide +kernel
theorem dd15_19 : decode B05 19 = .ok (.ifCond .eq 22, 3) := by decide +kernel
theorem dd15_22 : decode B05 22 = .ok (.aload_n 0, 1) := by decide +kernel
theorem dd15_23 : decode B05 23 = .ok (.iconst 0, 1) := by decide +kernel
theorem dd15_24 : decode B05 24 = .ok (.putfield 15, 3) := by decide +kernel
theorem dd15_27 : decode B05 27 = .ok (.aload_n 0, 1) := by decide +kernel
theorem dd15_28 : decode B05 28 = .ok (.aload_n 3, 1) := by decide +kernel
theorem dd15_29 : decode B05 29 = .ok (.iconst 0, 1) := by decide +kernel
theorem dd15_30 : decode B05 30 = .ok (.iload 4, 2) := by decide +kernel
theorem own_ef10 (m : MethodId) (x0 : Addr) (x1 : Int32) (x2 : Int32) : entryFrame m #[(.ref x0), (.int x1), (.int x2)] 3 = mkF m 0 #[.val (.ref x0), .val (.int x1), .val (.int x2)] [] := by first | (simp [entryFrame, mkF, argsToLocals, Value.category]; done) | rfl
theorem dd20_0 : decode B0a 0 = .ok (.iload_n 1, 1) := by decide +kernel
theorem dd20_1 : decode B0a 1 = .ok (.ifCond .ne 9, 3) := by decide +kernel
theorem dd20_4 : decode B0a 4 = .ok (.iload_n 2, 1) := by decide +kernel
theorem dd20_5 : decode B0a 5 = .ok (.aload_n 0, 1) := by decide +kernel
theorem dd20_6 : decode B0a 6 = .ok (.arraylength, 1) := by decide +kernel
theorem dd20_7 : decode B0a 7 = .ok (.if_icmp .eq 10, 3) := by decide +kernel
theorem dd20_17 : decode B0a 17 = .ok (.aload_n 0, 1) := by decide +kernel
theorem dd20_18 : decode B0a 18 = .ok (.invokevirtual 310, 3) := by decide +kernel
theorem dd20_21 : decode B0a 21 = .ok (.checkcast 311, 3) := by decide +kernel
theorem dd20_24 : decode B0a 24 = .ok (.areturn, 1) := by decide +kernel
theorem own_pn16 : plainFor mN16 = true := by decide +kernel
theorem own_rm32 (l : Launch) (Z : State) (a0 : Array Value) (hw : own_W a0 Z) (ws : List Jvm.Cond) (m0 : ClassId) (o1 : Nat) (h0 : Heap) (n0 : Nat) (Z0 : n0 ≤ h0.size) (O0 : Old Z n0 h0) (I0 : Arv Z h0 o1 m0 .byte 16 [(.int 58), (.int 32), (.int 110), (.int 111), (.int 116), (.int 32), (.int 85), (.int 84), (.int 70), (.int 45), (.int 56), (.int 32), (.int 116), (.int 101), (.int 120), (.int 116)] (.int 0)) (I1 : Exa Z h0 o1 "[B") :
 own_Met l Z h0 mN16 B0a 3 (Option.some (FieldType.array FieldType.byte)) ws (own_R 1 1 16 14) #[(.ref o1), (.int 0), (.int 16)] (fun v h L => (∃ o0 : Nat, v = some (.ref o0) ∧ Fr n0 L ∧ Keep h0 h [] ∧ h0.size ≤ o0 ∧ Arv Z h o0 m0 .byte 16 [(.int 58), (.int 32), (.int 110), (.int 111), (.int 116), (.int 32), (.int 85), (.int 84), (.int 70), (.int 45), (.int 56), (.int 32), (.int 116), (.int 101), (.int 120), (.int 116)] (.int 0) ∧ Exa Z h o0 "[B" ∧ @LT.lt Nat instLTNat o0 h.size)) 1 16 := own_go own_pn16 fun p e s m below meth c s₁ hns hrt hnm hml hZ hx hby hown X0 e0 => by
 have N0 := Fr.nil n0
 refine own_cast (own_ef10 m o1 0 16) ?_
 refine oIN X0 hx hby dd20_0 rfl ?_
 refine oN0 X0 hx hby dd20_1 (XT.i0_ne_f (by decide)) ?_
 refine oIN X0 hx hby dd20_4 rfl ?_
 refine oAN X0 hx hby dd20_5 rfl rfl ?_
 refine oS (own_len X0 hx hZ e0 I0 rfl rfl (hb hby dd20_6)) ?_
 refine oYI X0 hx hby (pc' := 17) dd20_7 (XT.ii_eq_t (by decide)) ?_
 refine oAN X0 hx hby dd20_17 rfl rfl ?_
 obtain ⟨T0, h1, X1, e1, E0, A0, B0, s0⟩ := own_clone X0 hx hZ (ad := "[B") hown e0 (hw 130) (hw 131) (hw 135) (hw 133) (hw 134) (hw 136) I0 I1 (g := (mkF m 18 #[rv o1, iv 0, iv 16] [(.ref o1)])) rfl (by rw [hml]; rfl) rfl (hb hby dd20_18) (by decide) (W := 0) (cap := 16) (by show 2 * 0 + _ ≤ _; exact Nat.le_of_eq rfl) (by decide) (by decide) (by decide) (by decide)
 obtain ⟨o0, g0⟩ : ∃ z, z = h0.size := ⟨_, rfl⟩
 rw [← g0] at A0 B0 s0
 have z0 := E0.1
 have y1 : @LT.lt Nat instLTNat o0 h1.size := A0.lt
 refine oS s0 ?_
 refine own_cY X1 hx hZ hown (hw 137) e1 (Ins.self B0) (hb hby dd20_21) fun T1 X2 e2 => ?_
 have y0 : @LT.lt Nat instLTNat o0 h1.size := by omega
 have K0 : Keep h0 h1 [] := ((Keep.refl h0 []).ext E0)
 exact own_retA X2 hx hns hrt rfl rfl (hb hby dd20_24) e2 (by decide) (by decide) (⟨o0, rfl, N0, K0, (by omega), A0, B0, y0⟩)
theorem own_pd13 : parseMethodDescriptor "([BII)[B" = some ⟨[(.array .byte), .int, .int], (some (.array .byte))⟩ := by decide +kernel
theorem dd15_32 : decode B05 32 = .ok (.invokestatic 54, 3) := by decide +kernel
theorem dd15_35 : decode B05 35 = .ok (.putfield 9, 3) := by decide +kernel
theorem dd15_38 : decode B05 38 = .ok (.goto 59, 3) := by decide +kernel
theorem dd15_97 : decode B05 97 = .ok (.return_, 1) := by decide +kernel
theorem own_pn17 : plainFor mN17 = true := by decide +kernel
theorem own_rm27 (l : Launch) (Z : State) (a0 : Array Value) (hw : own_W a0 Z) (ws : List Jvm.Cond) (i0 : Int32) (m0 : ClassId) (o0 o1 o2 : Nat) (h0 : Heap) (n0 : Nat) (Z0 : n0 ≤ h0.size) (O0 : Old Z n0 h0) (I4 : Fld Z h0 o1 cN3 "value" "[B" (.ref o2)) (I0 : Exa Z h0 o1 cN4) (I5 : Fld Z h0 o1 cN3 "count" "I" (.int 16)) (I6 : Sta Z Z.heap cN2 "COMPACT_STRINGS" "Z" (.int i0)) (I7 : ¬ (i0 = 0)) (I8 : Fld Z h0 o1 cN3 "coder" "B" (.int 0)) (I2 : Fld Z h0 o0 cN2 "coder" "B" (.int 0)) (I3 : Exa Z h0 o0 cN2) (I1 : n0 ≤ o0) (I9 : Arv Z h0 o2 m0 .byte 16 [(.int 58), (.int 32), (.int 110), (.int 111), (.int 116), (.int 32), (.int 85), (.int 84), (.int 70), (.int 45), (.int 56), (.int 32), (.int 116), (.int 101), (.int 120), (.int 116)] (.int 0)) (I00 : @Ne Nat o2 o0) (I01 : Exa Z h0 o2 "[B") (I02 : Fld Z h0 o0 cN2 "value" "[B" .null) (I03 : @LT.lt Nat instLTNat o0 h0.size) :
 own_Met l Z h0 mN17 B05 5 (Option.none : Option FieldType) ws (own_R 2 1 16 29) #[(.ref o0), (.ref o1), .null] (fun v h L => (∃ o3 : Nat, v = none ∧ Fr n0 L ∧ Keep h0 h [o0] ∧ h0.size ≤ o3 ∧ Fld Z h o0 cN2 "coder" "B" (.int 0) ∧ Fld Z h o0 cN2 "value" "[B" (.ref o3) ∧ Exa Z h o0 cN2 ∧ Arv Z h o3 m0 .byte 16 [(.int 58), (.int 32), (.int 110), (.int 111), (.int 116), (.int 32), (.int 85), (.int 84), (.int 70), (.int 45), (.int 56), (.int 32), (.int 116), (.int 101), (.int 120), (.int 116)] (.int 0) ∧ Exa Z h o3 "[B" ∧ @LT.lt Nat instLTNat o3 h.size)) 1 16 := own_go own_pn17 fun p e s m below meth c s₁ hns hrt hnm hml hZ hx hby hown X5 e0 => by
 have N0 := Fr.nil n0
 refine own_cast (own_ef9 m o0 o1) ?_
 refine oAN X5 hx hby dd15_0 rfl rfl ?_
 obtain ⟨T2, X6, e1, s0⟩ := initO X5 hx hZ hown (hw 11) (hw 12) (hw 13) e0 (g := (mkF m 1 #[rv o0, rv o1, .val .null, .unset, .unset] [(.ref o0)])) rfl (by rw [hml]; rfl) rfl (hb hby dd15_1) (by decide) (W := 0) (by show 2 * 0 + _ ≤ _; exact Nat.le_of_eq rfl) (by decide)
 refine oS s0 ?_
 refine oAN X6 hx hby dd15_4 rfl rfl ?_
 refine own_cV X6 hx hZ hown e1 (y := mN12) (z := mN12) (b := o1) (hw 108) (hw 109) (notFace_of_selects (args := #[]) (mvT hZ (hw 111))) (hw 111) (hw 110) (hw 39) (hw 112) (by decide) I0 (W := 0) (own_rm28 l Z a0 hw [] o1 o2 h0 n0 Z0 O0 I4) [] [] hml (lenOf own_pd11 rfl) (hb hby dd15_5) fun T3 h3 v0 L0 X2 e2 q0 => ?_
 obtain ⟨rfl, N1, K1⟩ := q0
 have N2 := Fr.app N0 N1
 have e3 := e2.trans K1
 refine oASN X2 hx hby dd15_8 rfl (l' := #[rv o0, rv o1, .val .null, rv o2, .unset]) rfl ?_
 refine oAN X2 hx hby dd15_9 rfl rfl ?_
 refine own_cV X2 hx hZ hown e3 (y := mN13) (z := mN14) (b := o1) (hw 113) (hw 114) (own_nf (args := #[]) (mvT hZ (hw 237)) rfl) (hw 116) (hw 117) (hw 31) (hw 118) (by decide) I0 (W := 0) (own_rm29 l Z a0 hw [] o1 h0 n0 Z0 O0 I5 I0) [] [] hml (lenOf own_pd5 rfl) (hb hby dd15_10) fun T4 h4 v1 L1 X3 e4 q1 => ?_
 obtain ⟨rfl, N3, K2⟩ := q1
 have N4 := Fr.app N2 N3
 have e5 := e4.trans K2
 refine oIS X3 hx hby dd15_13 (l' := #[rv o0, rv o1, .val .null, rv o2, iv 16]) rfl ?_
 refine oAN X3 hx hby dd15_15 rfl rfl ?_
 refine own_cV X3 hx hZ hown e5 (y := mN15) (z := mN15) (b := o1) (hw 121) (hw 122) (notFace_of_selects (args := #[]) (mvT hZ (hw 124))) (hw 124) (hw 123) (hw 39) (hw 125) (by decide) I0 (W := 0) (own_rm31 l Z a0 hw [] i0 o1 h0 n0 Z0 O0 I6 I7 I8) [] [] hml (lenOf own_pd12 rfl) (hb hby dd15_16) fun T0 h5 v2 L2 X1 e6 q2 => ?_
 obtain ⟨rfl, N5, K3⟩ := q2
 have N6 := Fr.app N4 N5
 have e7 := e6.trans K3
 show own_G p e below (T0.setTop (mkF m 19 #[rv o0, rv o1, .val .null, rv o2, iv 16] [(.int 1)])) _
 refine oN0 X1 hx hby dd15_19 (XT.i0_eq_f (by decide)) ?_
 refine oAN X1 hx hby dd15_22 rfl rfl ?_
 refine oIC X1 hx hby dd15_23 ?_
 refine own_pF X1 hx hZ hown (hw 21) e7 I2 I3 (Or.inr ⟨(hw 17), rfl, hnm⟩) (hw 2) (ty := .byte) (by decide) (by decide) (hb hby dd15_24) fun T5 h1 X0 e8 W0 => ?_
 have N7 := Fr.snoc X0 N6 I1
 have z0 := W0.size
 have F2 := Fld.same W0 I2
 refine oAN X0 hx hby dd15_27 rfl rfl ?_
 refine oAN X0 hx hby dd15_28 rfl rfl ?_
 refine oIC X0 hx hby dd15_29 ?_
 refine oIL X0 hx hby dd15_30 rfl ?_
 have F3 := I9.other W0 I00
 have F4 := Exa.wr W0 I01
 have O1 : Old Z n0 h1 := O0.wr W0 I1
 have Z1 : n0 ≤ h1.size := by omega
 refine own_cS X0 hx hZ hown e8 (y := mN16) (hw 126) (hw 127) (hw 128) (hw 129) (by decide) (W := 1) (own_rm32 l Z a0 hw [] m0 o2 h1 n0 Z1 O1 F3 F4) [(.ref o2), (.int 0), (.int 16)] [(.ref o0)] hml (lenOf own_pd13 rfl) (hb hby dd15_32) fun T6 h6 v3 L3 X7 e9 q3 => ?_
 obtain ⟨o3, rfl, N8, K0, F02, F5, F6, F03⟩ := q3
 have N9 := Fr.app N7 N8
 have z1 := K0.1
 have F0 := (Fld.other W0 I02 (Or.inr (slot_ne (C := cN2) (Or.inr (hw 16)) (Or.inr (hw 17)) (by decide) (t := (.array .byte)) (t' := .byte) (by decide) (by decide)))).keep K0 nin0
 have F1 := (Exa.wr W0 I3).keep K0
 refine own_pF X7 hx hZ hown (hw 20) e9 F0 F1 (Or.inr ⟨(hw 16), rfl, hnm⟩) (hw 2) (ty := (.array .byte)) rfl rfl (hb hby dd15_35) fun T1 h2 X4 e00 W1 => ?_
 have N00 := Fr.snoc X4 N9 I1
 have z2 := W1.size
 have F7 := Fld.same W1 F0
 show own_G p e below (T1.setTop (mkF m 38 #[rv o0, rv o1, .val .null, rv o2, iv 16] [])) _
 refine oGO X4 hx hby (pc' := 97) dd15_38 ?_
 have F8 := Fld.other W1 (F2.keep K0 nin0) (Or.inr (slot_ne (C := cN2) (Or.inr (hw 17)) (Or.inr (hw 16)) (by decide) (t := .byte) (t' := (.array .byte)) (by decide) (by decide)))
 have F9 := Exa.wr W1 F1
 have N01 : @Ne Nat o3 o0 := by omega
 have F00 := F5.other W1 N01
 have F01 := Exa.wr W1 F6
 have y0 : @LT.lt Nat instLTNat o3 h2.size := by omega
 have K4 : Keep h0 h2 [o0] := ((((Keep.refl h0 [o0]).wr W0 (Or.inl (by simp))).trans K0 all0).wr W1 (Or.inl (by simp)))
 exact own_retV X4 hx hns hrt (hb hby dd15_97) e00 (by decide) (by decide) (⟨o3, rfl, N00, K4, (by omega), F8, F7, F9, F00, F01, y0⟩)
theorem own_pd14 : parseMethodDescriptor "(Ljava/lang/AbstractStringBuilder;Ljava/lang/Void;)V" = some ⟨[(.object cN3), (.object "java/lang/Void")], none⟩ := by decide +kernel
theorem dd14_3 : decode B04 3 = .ok (.invokespecial 489, 3) := by decide +kernel
theorem dd14_6 : decode B04 6 = .ok (.return_, 1) := by decide +kernel
theorem own_pn18 : plainFor mN18 = true := by decide +kernel
theorem own_rm26 (l : Launch) (Z : State) (a0 : Array Value) (hw : own_W a0 Z) (ws : List Jvm.Cond) (i0 : Int32) (m0 : ClassId) (o0 o1 o3 : Nat) (h0 : Heap) (n0 : Nat) (Z0 : n0 ≤ h0.size) (O0 : Old Z n0 h0) (I0 : Fld Z h0 o1 cN3 "value" "[B" (.ref o3)) (I1 : Exa Z h0 o1 cN4) (I2 : Fld Z h0 o1 cN3 "count" "I" (.int 16)) (I3 : Sta Z Z.heap cN2 "COMPACT_STRINGS" "Z" (.int i0)) (I4 : ¬ (i0 = 0)) (I5 : Fld Z h0 o1 cN3 "coder" "B" (.int 0)) (I6 : Fld Z h0 o0 cN2 "coder" "B" (.int 0)) (I7 : Exa Z h0 o0 cN2) (I8 : n0 ≤ o0) (I9 : Arv Z h0 o3 m0 .byte 16 [(.int 58), (.int 32), (.int 110), (.int 111), (.int 116), (.int 32), (.int 85), (.int 84), (.int 70), (.int 45), (.int 56), (.int 32), (.int 116), (.int 101), (.int 120), (.int 116)] (.int 0)) (I00 : @Ne Nat o3 o0) (I01 : Exa Z h0 o3 "[B") (I02 : Fld Z h0 o0 cN2 "value" "[B" .null) (I03 : @LT.lt Nat instLTNat o0 h0.size) :
 own_Met l Z h0 mN18 B04 2 (Option.none : Option FieldType) ws (own_R 3 1 16 45) #[(.ref o0), (.ref o1)] (fun v h L => (∃ o2 : Nat, v = none ∧ Fr n0 L ∧ Keep h0 h [o0] ∧ h0.size ≤ o2 ∧ Fld Z h o0 cN2 "coder" "B" (.int 0) ∧ Fld Z h o0 cN2 "value" "[B" (.ref o2) ∧ Exa Z h o0 cN2 ∧ Arv Z h o2 m0 .byte 16 [(.int 58), (.int 32), (.int 110), (.int 111), (.int 116), (.int 32), (.int 85), (.int 84), (.int 70), (.int 45), (.int 56), (.int 32), (.int 116), (.int 101), (.int 120), (.int 116)] (.int 0) ∧ Exa Z h o2 "[B" ∧ @LT.lt Nat instLTNat o2 h.size)) 1 16 := own_go own_pn18 fun p e s m below meth c s₁ hns hrt hnm hml hZ hx hby hown X0 e0 => by
 have N0 := Fr.nil n0
 refine own_cast (own_ef1 m o0 o1) ?_
 refine oAN X0 hx hby dd14_0 rfl rfl ?_
 refine oAN X0 hx hby dd14_1 rfl rfl ?_
 refine oS (fun _ => XS.aconstNull X0.here hx rfl (hb hby dd14_2) ) ?_
 have y0 : @LT.lt Nat instLTNat o0 h0.size := by omega
 refine own_cN X0 hx hZ hown e0 (y := mN17) (b := o0) rfl (hw 105) (hw 106) (hw 3) (hw 107) (by decide) (W := 0) (own_rm27 l Z a0 hw [] i0 m0 o0 o1 o3 h0 n0 Z0 O0 I0 I1 I2 I3 I4 I5 I6 I7 I8 I9 I00 I01 I02 y0) [(.ref o1), .null] [] hml (lenOf own_pd14 rfl) (hb hby dd14_3) fun T0 h1 v0 L0 X1 e1 q0 => ?_
 obtain ⟨o2, rfl, N1, K0, F5, F0, F1, F2, F3, F4, F6⟩ := q0
 have N2 := Fr.app N0 N1
 have z0 := K0.1
 have y1 : @LT.lt Nat instLTNat o2 h1.size := by omega
 have K1 : Keep h0 h1 [o0] := ((Keep.refl h0 [o0]).trans K0 (allS (Or.inl (by simp)) all0))
 exact own_retV X1 hx hns hrt (hb hby dd14_6) e1 (by decide) (by decide) (⟨o2, rfl, N2, K1, (by omega), F0, F1, F2, F3, F4, y1⟩)
theorem own_pd15 : parseMethodDescriptor "(Ljava/lang/StringBuilder;)V" = some ⟨[(.object cN4)], none⟩ := by decide +kernel
theorem dd13_5 : decode B03 5 = .ok (.invokespecial 137, 3) := by decide +kernel
theorem dd13_8 : decode B03 8 = .ok (.areturn, 1) := by decide +kernel
theorem own_pn19 : plainFor mN19 = true := by decide +kernel
theorem own_rm25 (l : Launch) (Z : State) (a0 : Array Value) (hw : own_W a0 Z) (ws : List Jvm.Cond) (i0 : Int32) (m0 : ClassId) (o1 o3 : Nat) (h0 : Heap) (n0 : Nat) (Z1 : n0 ≤ h0.size) (O0 : Old Z n0 h0) (I0 : Fld Z h0 o1 cN3 "value" "[B" (.ref o3)) (I1 : Exa Z h0 o1 cN4) (I2 : Fld Z h0 o1 cN3 "count" "I" (.int 16)) (I3 : Sta Z Z.heap cN2 "COMPACT_STRINGS" "Z" (.int i0)) (I4 : ¬ (i0 = 0)) (I5 : Fld Z h0 o1 cN3 "coder" "B" (.int 0)) (I6 : Arv Z h0 o3 m0 .byte 16 [(.int 58), (.int 32), (.int 110), (.int 111), (.int 116), (.int 32), (.int 85), (.int 84), (.int 70), (.int 45), (.int 56), (.int 32), (.int 116), (.int 101), (.int 120), (.int 116)] (.int 0)) (I8 : @LT.lt Nat instLTNat o3 h0.size) (I7 : Exa Z h0 o3 "[B") :
 own_Met l Z h0 mN19 B03 1 (Option.some (FieldType.object cN2)) ws (own_R 4 2 20 59) #[(.ref o1)] (fun v h L => (∃ o0 : Nat, ∃ o2 : Nat, v = some (.ref o0) ∧ Fr n0 L ∧ Keep h0 h [] ∧ h0.size ≤ o0 ∧ o0 < o2 ∧ Exa Z h o0 cN2 ∧ Fld Z h o0 cN2 "value" "[B" (.ref o2) ∧ Fld Z h o0 cN2 "coder" "B" (.int 0) ∧ Arv Z h o2 m0 .byte 16 [(.int 58), (.int 32), (.int 110), (.int 111), (.int 116), (.int 32), (.int 85), (.int 84), (.int 70), (.int 45), (.int 56), (.int 32), (.int 116), (.int 101), (.int 120), (.int 116)] (.int 0) ∧ Exa Z h o2 "[B" ∧ @LT.lt Nat instLTNat o0 h.size ∧ @LT.lt Nat instLTNat o2 h.size)) 2 20 := own_go own_pn19 fun p e s m below meth c s₁ hns hrt hnm hml hZ hx hby hown X1 e0 => by
 have N0 := Fr.nil n0
 refine own_cast (own_ef3 m o1) ?_
 obtain ⟨T0, h1, X0, e1, E0, A0, D0, U0, s0⟩ := newO X1 hx hZ hown (hw 101) (hw 2) (hw 3) e0 (g := (mkF m 0 #[rv o1] [])) rfl (hb hby dd13_0) (by decide) (by decide)
 obtain ⟨o0, g0⟩ : ∃ z, z = h0.size := ⟨_, rfl⟩
 rw [← g0] at A0 D0 U0 s0
 have z0 := E0.1
 have y3 : @LT.lt Nat instLTNat o0 h1.size := A0.lt
 refine oS s0 ?_
 have F0 : Fld Z h1 o0 cN2 "value" "[B" .null := D0 (Or.inr (hw 16)) (ty := (.array .byte)) (by decide)
 have F1 : Fld Z h1 o0 cN2 "coder" "B" (.int 0) := D0 (Or.inr (hw 17)) (ty := .byte) (by decide)
 refine oS (fun _ => XS.dup X0.here hx rfl (hb hby dd13_3) rfl rfl) ?_
 refine oAN X0 hx hby dd13_4 rfl rfl ?_
 have F2 := Fld.ext E0 I0
 have F3 := Exa.ext E0 I1
 have F4 := Fld.ext E0 I2
 have F5 := Fld.ext E0 I5
 have N1 : n0 ≤ o0 := by omega
 have F6 := I6.ext E0
 have N2 : @Ne Nat o3 o0 := by omega
 have F7 := Exa.ext E0 I7
 have y0 : @LT.lt Nat instLTNat o0 h1.size := by omega
 have O1 : Old Z n0 h1 := O0.ext E0
 have Z0 : n0 ≤ h1.size := by omega
 refine own_cN X0 hx hZ hown e1 (y := mN18) (b := o0) rfl (hw 102) (hw 103) (hw 3) (hw 104) (by decide) (W := 1) (own_rm26 l Z a0 hw [] i0 m0 o0 o1 o3 h1 n0 Z0 O1 F2 F3 F4 I3 I4 F5 F1 A0 N1 F6 N2 F7 F0 y0) [(.ref o1)] [(.ref o0)] hml (lenOf own_pd15 rfl) (hb hby dd13_5) fun T1 h2 v0 L0 X2 e2 q0 => ?_
 obtain ⟨o2, rfl, N3, K0, F03, F8, F9, F00, F01, F02, F04⟩ := q0
 have N4 := Fr.app N0 N3
 have z1 := K0.1
 have y1 : @LT.lt Nat instLTNat o0 h2.size := by omega
 have y2 : @LT.lt Nat instLTNat o2 h2.size := by omega
 have K1 : Keep h0 h2 [] := (((Keep.refl h0 []).ext E0).trans K0 (allS (Or.inr (by omega)) all0))
 exact own_retA X2 hx hns hrt rfl rfl (hb hby dd13_8) e2 (by decide) (by decide) (⟨o0, o2, rfl, N4, K1, (by omega), (by omega), F00, F9, F8, F01, F02, y1, y2⟩)
theorem own_pd16 : parseMethodDescriptor "()Ljava/lang/String;" = some ⟨[], (some (.object cN2))⟩ := by decide +kernel
theorem dd2_20 : decode B2 20 = .ok (.invokevirtual 36, 3) := by decide +kernel
theorem dd2_23 : decode B2 23 = .ok (.invokespecial 102, 3) := by decide +kernel
theorem dd2_26 : decode B2 26 = .ok (.areturn, 1) := by decide +kernel
def own_Q18 (Z : State) (ob_59 : Nat) (in_5 : Int32) (ob_236 : Nat) (kk_237 : ClassId) (ob_8 : Nat) (ob_10 : Nat) (h0 : Heap) (n0 : Nat) (vm : Vm) (v : Option Value) (h : Heap) (L : List Loc) : Prop := (∃ ob_730 : Nat, ∃ ob_1402 : Nat, ∃ ob_1403 : Nat, ∃ kk_773 : ClassId, v = some (.ref ob_730) ∧ Fr n0 L ∧ Keep h0 h [] ∧ h0.size ≤ ob_730 ∧ ob_730 < ob_1402 ∧ ob_1402 < ob_1403 ∧ Exa Z h ob_730 cN5 ∧ Fld Z h ob_730 cN6 "detailMessage" cN7 (.ref ob_1402) ∧ Exa Z h ob_1402 cN2 ∧ Fld Z h ob_1402 cN2 "value" "[B" (.ref ob_1403) ∧ Fld Z h ob_1402 cN2 "coder" "B" (.int 0) ∧ Arv Z h ob_1403 kk_773 .byte 16 [(.int 58), (.int 32), (.int 110), (.int 111), (.int 116), (.int 32), (.int 85), (.int 84), (.int 70), (.int 45), (.int 56), (.int 32), (.int 116), (.int 101), (.int 120), (.int 116)] (.int 0) ∧ Exa Z h ob_1403 "[B" ∧ @LT.lt Nat instLTNat ob_730 h.size ∧ @LT.lt Nat instLTNat ob_1402 h.size ∧ Safe Z own_EL vm h ob_1402 ∧ @LT.lt Nat instLTNat ob_1403 h.size ∧ Safe Z own_EL vm h ob_1403)
theorem own_pn20 : plainFor mN20 = true := by decide +kernel
theorem own_rm18 (l : Launch) (hl : l.stackTraces = true) (Z : State) (a0 : Array Value) (hw : own_W a0 Z) (hEL : EW Z a0 own_EL) (ws : List Jvm.Cond) (o2 : Nat) (i0 : Int32) (o5 : Nat) (m0 : ClassId) (o8 : Nat) (o9 : Nat) (h0 : Heap) (n0 : Nat) (Z4 : n0 ≤ h0.size) (O4 : Old Z n0 h0) (I0 : Sta Z Z.heap cN2 "COMPACT_STRINGS" "Z" (.int i0)) (I1 : ¬ (i0 = 0)) (I2 : Fld Z h0 o2 cN2 "value" "[B" (.ref o5)) (I8 : @LT.lt Nat instLTNat o2 h0.size) (I3 : Arv Z h0 o5 m0 .byte 0 [] (.int 0)) (I9 : @LT.lt Nat instLTNat o5 h0.size) (I4 : Fld Z h0 o2 cN2 "coder" "B" (.int 0)) (I5 : Exa Z h0 o2 cN2) (I6 : Sta Z Z.heap cN6 cN8 cN9 (.ref o8)) (I7 : Sta Z Z.heap cN6 cN10 cN11 (.ref o9)) :
 own_MetWK own_KN l Z own_EL [o2] h0 mN20 B2 1 (Option.some (FieldType.object cN5)) ws ({ frames := 6, cells := 8, slots := 2866, locals := 82 } : Room) #[(.ref o2)] (own_Q18 Z o2 i0 o5 m0 o8 o9 h0 n0) 8 2866 := by
 refine MetFree.of_bodySF own_pn20 hisR ?_
 intro p e s m args below meth c s₁ Bd hml0 hP hK
 obtain ⟨rfl, hZ, hh, hCH, hsf⟩ := hP
 have hx := Bd.exec
 have hby := Bd.bytes
 have hml : c.maxLocals = 1 := hml0
 have hown : (s.setVm s.vm).vm.findClass cN0 = some m.cls := findClass_of_methodNamed Bd.named
 have hnm := (name_of_methodNamed Bd.named Bd.method).1
 have hZ0 : Z.Warmed39 s.vm := hZ
 have hZ : Z.Warmed39 (s.setVm s.vm).vm := hZ
 have hS : s.Since s.vm 0 := (State.WarmedH.refl s).since 0
 have X3 : Stand p l e ({ frames := 6, cells := 8, slots := 2866, locals := 82 } : Room) (s.setVm s.vm) m #[(.ref o2)] below meth c s₁ [] 0 0 := Stand.of_body Bd
 have e0 : s₁.heap = h0 := by rw [← hh, Bd.state]; rfl
 have hR : CHr Z own_EL s.vm h0 s.vm h0 := CHr.refl hCH
 obtain ⟨hTK, hBel⟩ := hK
 have N8 := Fr.nil n0
 show own_G p e below (s₁.setTop (entryFrame m #[(.ref o2)] 1)) (own_PW Z own_EL s (own_Q18 Z o2 i0 o5 m0 o8 o9 h0 n0) 8 2866)
 refine own_cast (own_ef3 m o2) ?_
 show own_G p e below (s₁.setTop (mkF m 0 #[rv o2] [])) _
 obtain ⟨T1, h2, X0, e1, E2, A2, D0, U0, s0⟩ := newO X3 hx hZ hown (hw 26) (hw 27) (hw 28) e0 (g := (mkF m 0 #[rv o2] [])) rfl (hb hby dd2_0) (by decide) (by decide)
 obtain ⟨o0, g0⟩ : ∃ z, z = h0.size := ⟨_, rfl⟩
 rw [← g0] at A2 D0 U0 s0
 have z0 := E2.1
 have y00 : @LT.lt Nat instLTNat o0 h2.size := A2.lt
 refine oS s0 ?_
 have R4 : CHr Z own_EL s.vm h0 s.vm h2 := hR.trans (CHr.ext E2 hR.1)
 have F5 : Fld Z h2 o0 cN6 "cause" cN12 .null := D0 (Or.inl (hw 155)) (ty := (.object cN6)) (by decide)
 have F6 : Fld Z h2 o0 cN6 "stackTrace" cN9 .null := D0 (Or.inl (hw 158)) (ty := (.array (.object cN13))) (by decide)
 have F7 : Fld Z h2 o0 cN6 cN14 cN11 .null := D0 (Or.inl (hw 161)) (ty := (.object "java/util/List")) (by decide)
 have F8 : Fld Z h2 o0 cN6 "detailMessage" cN7 .null := D0 (Or.inl (hw 185)) (ty := (.object cN2)) (by decide)
 have F9 : Fld Z h2 o0 cN6 "backtrace" cN15 .null := D0 (Or.inl (hw 186)) (ty := (.object cN16)) (by decide)
 have F0O : Fld Z h2 o0 cN6 "depth" "I" (.int 0) := D0 (Or.inl (hw 187)) (ty := .int) (by decide)
 refine oS (fun _ => XS.dup X0.here hx rfl (hb hby dd2_3) rfl rfl) ?_
 obtain ⟨T2, h1, X1, e2, E0, A0, D1, U1, s1⟩ := newO X0 hx hZ hown (hw 29) (hw 30) (hw 31) e1 (g := (mkF m 4 #[rv o2] [(.ref o0), (.ref o0)])) rfl (hb hby dd2_4) (by decide) (by decide)
 obtain ⟨o1, g1⟩ : ∃ z, z = h2.size := ⟨_, rfl⟩
 rw [← g1] at A0 D1 U1 s1
 have z1 := E0.1
 have y01 : @LT.lt Nat instLTNat o1 h1.size := A0.lt
 refine oS s1 ?_
 have R0 : CHr Z own_EL s.vm h0 s.vm h1 := R4.trans (CHr.ext E0 R4.1)
 have F00 : Fld Z h1 o1 cN3 "value" "[B" .null := D1 (Or.inl (hw 44)) (ty := (.array .byte)) (by decide)
 have F01 : Fld Z h1 o1 cN3 "coder" "B" (.int 0) := D1 (Or.inl (hw 46)) (ty := .byte) (by decide)
 have F02 : Fld Z h1 o1 cN3 "count" "I" (.int 0) := D1 (Or.inl (hw 69)) (ty := .int) (by decide)
 refine oS (fun _ => XS.dup X1.here hx rfl (hb hby dd2_7) rfl rfl) ?_
 have N2 : n0 ≤ o1 := by omega
 have y2 : @LT.lt Nat instLTNat o1 h1.size := by omega
 have O5 : Old Z n0 h2 := O4.ext E2
 have O0 : Old Z n0 h1 := O5.ext E0
 have Z0 : n0 ≤ h1.size := by omega
 obtain ⟨T3, h7, v0, L0, X2, e3, q0, s2⟩ := own_callN X1 hx hZ hown e2 (y := mN3) (b := o1) rfl (hw 32) (hw 33) (hw 31) (hw 34) (by decide) (W := 3) (own_rm8 l Z a0 hw [] i0 o1 h1 n0 Z0 O0 I0 I1 F00 A0 N2 F01 F02 y2) (by decide) (by decide) (by decide) (by decide) (g := (mkF m 8 #[rv o2] [(.ref o1), (.ref o1), (.ref o0), (.ref o0)])) rfl (by rw [hml]; rfl) (argsL := []) (rest := [(.ref o1), (.ref o0), (.ref o0)]) rfl (lenOf own_pd3 rfl) rfl (by show 2 * 0 + _ ≤ _; exact Nat.le_of_eq rfl) (hb hby dd2_8)
 refine oS s2 ?_
 obtain ⟨o3, m1, rfl, N9, K0, F0P, F03, F0, F04, F05, F06, F07, F0Q⟩ := q0
 have N00 := Fr.app N8 N9
 have S0 : Safe Z own_EL s.vm h1 o1 := Safe.exa hZ.alike A0 (by decide) (by decide)
 have R1 : CHr Z own_EL s.vm h0 s.vm h7 := R0.trans (CHr.keep K0 (sfS S0 sf0) R0.1)
 have z2 := K0.1
 have S8 : Safe Z own_EL s.vm h1 o3 := Safe.new (by omega)
 refine oS (fun _ => XS.aloadN X2.here hx rfl (hb hby dd2_11) rfl rfl) ?_
 have N4 : @Ne Nat o2 o1 := by omega
 have F08 := (Fld.ext E0 (Fld.ext E2 I2)).keep K0 (ninS N4 nin0)
 have N01 : @Ne Nat o5 o1 := by omega
 have F09 := ((I3.ext E2).ext E0).keep K0 (ninS N01 nin0)
 have F0a := (Fld.ext E0 (Fld.ext E2 I4)).keep K0 (ninS N4 nin0)
 have F0b := (Exa.ext E0 (Exa.ext E2 I5)).keep K0
 have N3 : n0 ≤ o3 := by omega
 have N5 : @Ne Nat o1 o3 := by omega
 have O1 : Old Z n0 h7 := O0.keep K0 (allS N2 all0)
 have Z1 : n0 ≤ h7.size := by omega
 obtain ⟨T4, h5, v1, L1, X4, e4, q1, s3⟩ := own_callV X2 hx hZ hown e3 (y := mN11) (z := mN11) (C := cN4) (b := o1) (hw 47) (hw 48) (notFace_of_selects (args := #[]) (mvT hZ (hw 50))) (hw 50) (hw 49) (hw 31) (hw 51) (by decide) F0 (W := 2) (own_rm10 l Z a0 hw [] i0 m0 m1 o1 o2 o5 o3 h7 n0 Z1 O1 F08 F09 I0 I1 F0a F0b F05 F03 F06 F04 F0 N3 F07 N5 N2) (by decide) (by decide) (by decide) (by decide) (g := (mkF m 12 #[rv o2] [(.ref o2), (.ref o1), (.ref o0), (.ref o0)])) rfl (by rw [hml]; rfl) (argsL := [(.ref o2)]) (rest := [(.ref o0), (.ref o0)]) rfl (lenOf own_pd10 rfl) rfl (by show 2 * 0 + _ ≤ _; exact Nat.le_of_eq rfl) (hb hby dd2_12)
 refine oS s3 ?_
 obtain ⟨rfl, N02, K1, F0c, F0d, F0e, F0f, F0g, F0h⟩ := q1
 have N03 := Fr.app N00 N02
 have S1 := Safe.keep K0 (sfS S0 sf0) R0.1 S8
 have S2 := Safe.keep K0 (sfS S0 sf0) R0.1 S0
 have R6 : CHr Z own_EL s.vm h0 s.vm h5 := R1.trans (CHr.keep K1 (sfS S1 (sfS S2 sf0)) R1.1)
 have z3 := K1.1
 obtain ⟨o4, T0, h3, k0, o7, m2, X5, e5, E1, hS, hk, hZ, hown, F0i, F0j, F0k, F0l, y3, y4, A1, L2, M0, s4⟩ := ldcCH X4 hx hZ hown (hw 95) (own_sk (own_Wall hw)) e4 hS (by omega) hEL (by decide) R6.1 (vs := [(.int 58), (.int 32), (.int 110), (.int 111), (.int 116), (.int 32), (.int 85), (.int 84), (.int 70), (.int 45), (.int 56), (.int 32), (.int 116), (.int 101), (.int 120), (.int 116)]) (z := 16) ⟨by decide, by decide +kernel⟩ (by decide) rfl (g := (mkF m 15 #[rv o2] [(.ref o1), (.ref o0), (.ref o0)])) rfl (hb hby dd2_15) (n := 64) (by decide) (by decide) (by decide) (by decide)
 have z4 := E1.1
 refine oS s4 ?_
 have R5 : CHr Z own_EL s.vm h0 T0.vm h3 := R6.trans A1
 have y02 : @LT.lt Nat instLTNat o4 h3.size := y3
 have y03 : @LT.lt Nat instLTNat o7 h3.size := y4
 have S9 := Safe.ext E2 hR.1 (hsf o2 (by simp))
 have S00 := Safe.ext E0 R4.1 S9
 have S01 := Safe.keep K0 (sfS S0 sf0) R0.1 S00
 have S02 := Safe.keep K1 (sfS S1 (sfS S2 sf0)) R1.1 S01
 have y5 : @LT.lt Nat instLTNat o2 h5.size := by omega
 have S7 := A1.safe y5 S02
 have N0a : @Ne Nat o2 o4 := (M0 o2 S7).1
 have N0b : @Ne Nat o2 o7 := (M0 o2 S7).2
 have F1 := Exa.ext E1 (((Exa.ext E0 A2).keep K0).keep K1)
 have S5 : Safe Z own_EL T0.vm h3 o0 := Safe.exa hZ.alike F1 (by decide) (by decide)
 have N0c : @Ne Nat o0 o4 := (M0 o0 S5).1
 have N0d : @Ne Nat o0 o7 := (M0 o0 S5).2
 have S03 := Safe.keep K1 (sfS S1 (sfS S2 sf0)) R1.1 S1
 have y6 : @LT.lt Nat instLTNat o3 h5.size := by omega
 have S3 := A1.safe y6 S03
 have N0e : @Ne Nat o3 o4 := (M0 o3 S3).1
 have N0f : @Ne Nat o3 o7 := (M0 o3 S3).2
 have S04 := Safe.keep K1 (sfS S1 (sfS S2 sf0)) R1.1 S2
 have y7 : @LT.lt Nat instLTNat o1 h5.size := by omega
 have S4 := A1.safe y7 S04
 have N0g : @Ne Nat o1 o4 := (M0 o1 S4).1
 have N0h : @Ne Nat o1 o7 := (M0 o1 S4).2
 show own_G p e below (T0.setTop (mkF m 17 #[rv o2] [(.ref o4), (.ref o1), (.ref o0), (.ref o0)])) _
 have F0m := Fld.ext E1 F0e
 have F0n := Fld.ext E1 F0g
 have F0o := F0c.ext E1
 have F0p := Fld.ext E1 F0h
 have F2 := Exa.ext E1 F0f
 have F0q := Exa.ext E1 F0d
 have O6 : Old Z n0 h5 := O1.keep K1 (allS N3 (allS N2 all0))
 have O2 : Old Z n0 h3 := O6.ext E1
 have Z2 : n0 ≤ h3.size := by omega
 obtain ⟨T5, h4, v2, L3, X6, e6, q2, s5⟩ := own_callV X5 hx hZ hown e5 (y := mN11) (z := mN11) (C := cN4) (b := o1) (hw 47) (hw 48) (notFace_of_selects (args := #[]) (mvT hZ (hw 50))) (hw 50) (hw 49) (hw 31) (hw 51) (by decide) F2 (W := 2) (own_rm19 l Z a0 hw [] i0 m2 m1 o1 o4 o7 o3 h3 n0 Z2 O2 F0k F0l I0 I1 F0j F0i F0m F0n F0o F0p F2 N3 F0q N5 N2) (by decide) (by decide) (by decide) (by decide) (g := (mkF m 17 #[rv o2] [(.ref o4), (.ref o1), (.ref o0), (.ref o0)])) rfl (by rw [hml]; rfl) (argsL := [(.ref o4)]) (rest := [(.ref o0), (.ref o0)]) rfl (lenOf own_pd10 rfl) rfl (by show 2 * 0 + _ ≤ _; exact Nat.le_of_eq rfl) (hb hby dd2_17)
 refine oS s5 ?_
 obtain ⟨rfl, N04, K3, F0r, F0s, F0t, F3, F0u, F0v⟩ := q2
 have N05 := Fr.app N03 N04
 have R2 : CHr Z own_EL s.vm h0 T0.vm h4 := R5.trans (CHr.keep K3 (sfS S3 (sfS S4 sf0)) R5.1)
 have z5 := K3.1
 have y8 : @LT.lt Nat instLTNat o3 h4.size := by omega
 have O3 : Old Z n0 h4 := O2.keep K3 (allS N3 (allS N2 all0))
 have Z3 : n0 ≤ h4.size := by omega
 obtain ⟨T6, h8, v3, L4, X7, e7, q3, s6⟩ := own_callV X6 hx hZ hown e6 (y := mN19) (z := mN19) (C := cN4) (b := o1) (hw 96) (hw 97) (notFace_of_selects (args := #[]) (mvT hZ (hw 99))) (hw 99) (hw 98) (hw 31) (hw 100) (by decide) F3 (W := 2) (own_rm25 l Z a0 hw [] i0 m1 o1 o3 h4 n0 Z3 O3 F0u F3 F0t I0 I1 F0v F0r y8 F0s) (by decide) (by decide) (by decide) (by decide) (g := (mkF m 20 #[rv o2] [(.ref o1), (.ref o0), (.ref o0)])) rfl (by rw [hml]; rfl) (argsL := []) (rest := [(.ref o0), (.ref o0)]) rfl (lenOf own_pd16 rfl) rfl (by show 2 * 0 + _ ≤ _; exact Nat.le_of_eq rfl) (hb hby dd2_20)
 refine oS s6 ?_
 obtain ⟨o6, o00, rfl, N06, K2, F0R, F0S, F0w, F0x, F0y, F0z, F0A, F0T, F0U⟩ := q3
 have N07 := Fr.app N05 N06
 have R3 : CHr Z own_EL s.vm h0 T0.vm h8 := R2.trans (CHr.keep K2 sf0 R2.1)
 have z6 := K2.1
 have S05 : Safe Z own_EL T0.vm h4 o6 := Safe.new (by omega)
 have S06 : Safe Z own_EL T0.vm h4 o00 := Safe.new (by omega)
 have O7 : Old Z n0 h8 := O3.keep K2 all0
 have F4 := (F1.keep K3).keep K2
 have N6 : n0 ≤ o0 := by omega
 have N0 : @Ne Nat o0 o1 := by omega
 have N1 : @Ne Nat o0 o3 := by omega
 have F0B := Unt.keep K2 nin0 (Unt.keep K3 (ninS N1 (ninS N0 nin0)) (Unt.ext E1 (Unt.keep K1 (ninS N1 (ninS N0 nin0)) (Unt.keep K0 (ninS N0 nin0) (Unt.ext E0 U0)))))
 have F0C := ((Fld.ext E1 (((Fld.ext E0 F5).keep K0 (ninS N0 nin0)).keep K1 (ninS N1 (ninS N0 nin0)))).keep K3 (ninS N1 (ninS N0 nin0))).keep K2 nin0
 have F0D := ((Fld.ext E1 (((Fld.ext E0 F6).keep K0 (ninS N0 nin0)).keep K1 (ninS N1 (ninS N0 nin0)))).keep K3 (ninS N1 (ninS N0 nin0))).keep K2 nin0
 have F0E := ((Fld.ext E1 (((Fld.ext E0 F7).keep K0 (ninS N0 nin0)).keep K1 (ninS N1 (ninS N0 nin0)))).keep K3 (ninS N1 (ninS N0 nin0))).keep K2 nin0
 have F0F := ((Fld.ext E1 (((Fld.ext E0 F9).keep K0 (ninS N0 nin0)).keep K1 (ninS N1 (ninS N0 nin0)))).keep K3 (ninS N1 (ninS N0 nin0))).keep K2 nin0
 have F0G := ((Fld.ext E1 (((Fld.ext E0 F8).keep K0 (ninS N0 nin0)).keep K1 (ninS N1 (ninS N0 nin0)))).keep K3 (ninS N1 (ninS N0 nin0))).keep K2 nin0
 obtain ⟨T7, h6, v4, L5, X8, e8, q4, s7⟩ := own_callNK X7 hx hZ hown (Vm.MethodsKnown.alikeC (hZ0.alike.symm.trans hZ.alike) hTK) (Vm.FramesKnown.alikeC (hZ0.alike.symm.trans hZ.alike) hBel) e7 (y := ⟨cN5, "<init>", "(Ljava/lang/String;)V"⟩) (b := o0) rfl (hw 139) (hw 140) (hw 28) (hw 141) (by decide) (W := 1) (own_k3 l hl Z a0 hw [] o0 o6 o8 o9 h8 n0 O7 F4 N6 F0B I6 I7 F0C F0D F0E F0F F0G) (by decide) (by decide) (by decide) (by decide) (g := (mkF m 23 #[rv o2] [(.ref o6), (.ref o0), (.ref o0)])) rfl (by rw [hml]; rfl) (argsL := [(.ref o6)]) (rest := [(.ref o0)]) rfl (lenOf own_pdS rfl) rfl (by show 2 * 0 + _ ≤ _; exact Nat.le_of_eq rfl) (hb hby dd2_23)
 refine oS s7 ?_
 obtain ⟨rfl, B0, K4, F0H⟩ := q4
 have N08 := Fr.app N07 (fun y hy => by rw [B0 y hy]; exact N6)
 have S07 := Safe.keep K3 (sfS S3 (sfS S4 sf0)) R5.1 S5
 have S6 := Safe.keep K2 sf0 R2.1 S07
 have R7 : CHr Z own_EL s.vm h0 T0.vm h6 := R3.trans (CHr.keep K4 (sfS S6 sf0) R3.1)
 have z7 := K4.1
 have F0I := F4.keep K4
 have F0J := F0w.keep K4
 have N7 : @Ne Nat o6 o0 := by omega
 have F0K := F0x.keep K4 (ninS N7 nin0)
 have F0L := F0y.keep K4 (ninS N7 nin0)
 have N09 : @Ne Nat o00 o0 := by omega
 have F0M := F0z.keep K4 (ninS N09 nin0)
 have F0N := F0A.keep K4
 have y9 : @LT.lt Nat instLTNat o0 h6.size := by omega
 have y0 : @LT.lt Nat instLTNat o6 h6.size := by omega
 have S08 := Safe.keep K2 sf0 R2.1 S05
 have S09 := Safe.keep K4 (sfS S6 sf0) R3.1 S08
 have y1 : @LT.lt Nat instLTNat o00 h6.size := by omega
 have S0a := Safe.keep K2 sf0 R2.1 S06
 have S0b := Safe.keep K4 (sfS S6 sf0) R3.1 S0a
 have K5 : Keep h0 h6 [] := (((((((((Keep.refl h0 []).ext E2).ext E0).trans K0 (allS (Or.inr (by omega)) all0)).trans K1 (allS (Or.inr (by omega)) (allS (Or.inr (by omega)) all0))).ext E1).trans K3 (allS (Or.inr (by omega)) (allS (Or.inr (by omega)) all0))).trans K2 all0).trans K4 (allS (Or.inr (by omega)) all0))
 exact own_retAW X8 hx Bd.notSynchronized Bd.returns rfl rfl (hb hby dd2_26) hS hZ hEL hh R7 e8 (by omega) (by decide) (by decide) (fun hA => ⟨o0, o6, o00, m1, rfl, N08, K5, (by omega), (by omega), (by omega), F0I, F0H, F0J, F0K, F0L, F0M, F0N, y9, y0, (hA.safe y0 S09), y1, (hA.safe y1 S0b)⟩)
theorem own_pd17 : parseMethodDescriptor "(Ljava/lang/String;)Lcom/example/keelrate/keelrate/InputRefusedException;" = some ⟨[(.object cN2)], (some (.object cN5))⟩ := by decide +kernel
theorem dd21_0 : decode B0b 0 = .ok (.aload_n 0, 1) := by decide +kernel
theorem dd21_1 : decode B0b 1 = .ok (.getfield 31, 3) := by decide +kernel
theorem dd21_4 : decode B0b 4 = .ok (.areturn, 1) := by decide +kernel
theorem own_pn21 : plainFor mN21 = true := by decide +kernel
theorem own_rm33 (l : Launch) (Z : State) (a0 : Array Value) (hw : own_W a0 Z) (ws : List Jvm.Cond) (o0 o1 : Nat) (h0 : Heap) (n0 : Nat) (Z0 : n0 ≤ h0.size) (O0 : Old Z n0 h0) (I0 : Fld Z h0 o0 cN6 "detailMessage" cN7 (.ref o1)) :
 own_Met l Z h0 mN21 B0b 1 (Option.some (FieldType.object cN2)) ws (own_R 0 0 0 0) #[(.ref o0)] (fun v h L => (v = some (.ref o1) ∧ Fr n0 L ∧ h = h0)) 0 0 := own_go own_pn21 fun p e s m below meth c s₁ hns hrt hnm hml hZ hx hby hown X0 e0 => by
 have N0 := Fr.nil n0
 refine own_cast (own_ef3 m o0) ?_
 refine oAN X0 hx hby dd21_0 rfl rfl ?_
 refine own_gF X0 hx hZ hown (hw 189) e0 I0 (hb hby dd21_1) fun T0 X1 e1 => ?_
 exact own_retA X1 hx hns hrt rfl rfl (hb hby dd21_4) e1 (by decide) (by decide) (⟨rfl, N0, rfl⟩)
theorem own_pd18 : parseMethodDescriptor "(Ljava/lang/String;ILjava/lang/String;I)Z" = some ⟨[(.object cN2), .int, (.object cN2), .int], (some .boolean)⟩ := by decide +kernel
theorem dd1_27 : decode B1 27 = .ok (.getstatic 38, 3) := by decide +kernel
theorem dd1_30 : decode B1 30 = .ok (.ifCond .eq 28, 3) := by decide +kernel
theorem dd1_33 : decode B1 33 = .ok (.aload_n 1, 1) := by decide +kernel
theorem dd1_34 : decode B1 34 = .ok (.iload_n 2, 1) := by decide +kernel
theorem dd1_35 : decode B1 35 = .ok (.iload_n 3, 1) := by decide +kernel
theorem own_ef11 (m : MethodId) (x0 : Addr) (x1 : Int32) (x2 : Int32) : entryFrame m #[(.ref x0), (.int x1), (.int x2)] 6 = mkF m 0 #[.val (.ref x0), .val (.int x1), .val (.int x2), .unset, .unset, .unset] [] := by first | (simp [entryFrame, mkF, argsToLocals, Value.category]; done) | rfl
theorem dd22_0 : decode B0c 0 = .ok (.iload_n 2, 1) := by decide +kernel
theorem dd22_1 : decode B0c 1 = .ok (.newarray .byte, 2) := by decide +kernel
theorem dd22_3 : decode B0c 3 = .ok (.astore_n 3, 1) := by decide +kernel
theorem dd22_4 : decode B0c 4 = .ok (.aload_n 0, 1) := by decide +kernel
theorem dd22_5 : decode B0c 5 = .ok (.iload_n 1, 1) := by decide +kernel
theorem dd22_6 : decode B0c 6 = .ok (.aload_n 3, 1) := by decide +kernel
theorem dd22_7 : decode B0c 7 = .ok (.iconst 0, 1) := by decide +kernel
theorem dd22_8 : decode B0c 8 = .ok (.iload_n 2, 1) := by decide +kernel
theorem own_ef12 (m : MethodId) (x0 : Addr) (x1 : Int32) (x2 : Addr) (x3 : Int32) (x4 : Int32) : entryFrame m #[(.ref x0), (.int x1), (.ref x2), (.int x3), (.int x4)] 7 = mkF m 0 #[.val (.ref x0), .val (.int x1), .val (.ref x2), .val (.int x3), .val (.int x4), .unset, .unset] [] := by first | (simp [entryFrame, mkF, argsToLocals, Value.category]; done) | rfl
theorem dd23_0 : decode B0d 0 = .ok (.iconst 0, 1) := by decide +kernel
theorem dd23_1 : decode B0d 1 = .ok (.istore 5, 2) := by decide +kernel
theorem dd23_3 : decode B0d 3 = .ok (.iload 5, 2) := by decide +kernel
theorem dd23_5 : decode B0d 5 = .ok (.iload 4, 2) := by decide +kernel
theorem dd23_7 : decode B0d 7 = .ok (.if_icmp .ge 37, 3) := by decide +kernel
theorem dd23_10 : decode B0d 10 = .ok (.aload_n 0, 1) := by decide +kernel
theorem dd23_11 : decode B0d 11 = .ok (.iload_n 1, 1) := by decide +kernel
theorem dd23_12 : decode B0d 12 = .ok (.caload, 1) := by decide +kernel
theorem dd23_13 : decode B0d 13 = .ok (.istore 6, 2) := by decide +kernel
theorem dd23_15 : decode B0d 15 = .ok (.iload 6, 2) := by decide +kernel
theorem dd23_17 : decode B0d 17 = .ok (.sipush 255, 3) := by decide +kernel
theorem dd23_20 : decode B0d 20 = .ok (.if_icmp .le 6, 3) := by decide +kernel
theorem dd23_26 : decode B0d 26 = .ok (.aload_n 2, 1) := by decide +kernel
theorem dd23_27 : decode B0d 27 = .ok (.iload_n 3, 1) := by decide +kernel
theorem dd23_28 : decode B0d 28 = .ok (.iload 6, 2) := by decide +kernel
theorem dd23_30 : decode B0d 30 = .ok (.i2b, 1) := by decide +kernel
theorem dd23_31 : decode B0d 31 = .ok (.bastore, 1) := by decide +kernel
theorem dd23_32 : decode B0d 32 = .ok (.iinc 1 1, 3) := by decide +kernel
theorem dd23_35 : decode B0d 35 = .ok (.iinc 3 1, 3) := by decide +kernel
theorem dd23_38 : decode B0d 38 = .ok (.iinc 5 1, 3) := by decide +kernel
theorem dd23_41 : decode B0d 41 = .ok (.goto (-38), 3) := by decide +kernel
theorem dd23_44 : decode B0d 44 = .ok (.iload 4, 2) := by decide +kernel
theorem dd23_46 : decode B0d 46 = .ok (.ireturn, 1) := by decide +kernel
theorem own_pn22 : plainFor mN22 = true := by decide +kernel
theorem own_rm37 (l : Launch) (Z : State) (a0 : Array Value) (hw : own_W a0 Z) (ws : List Jvm.Cond) (i0 : Int32) (m1 m0 : ClassId) (o1 o0 : Nat) (h0 : Heap) (n0 : Nat) (Z0 : n0 ≤ h0.size) (O0 : Old Z n0 h0) (I0 : Arv Z h0 o1 m1 .char 1 [(.int i0)] (.int 0)) (I1 : ¬ (255 < i0)) (I2 : Arv Z h0 o0 m0 .byte 1 [(.int 0)] (.int 0)) (I3 : n0 ≤ o0) (I4 : Exa Z h0 o0 "[B") :
 own_Met l Z h0 mN22 B0d 7 (Option.some FieldType.int) ws (own_R 0 0 0 0) #[(.ref o1), (.int 0), (.ref o0), (.int 0), (.int 1)] (fun v h L => (v = some (.int 1) ∧ Fr n0 L ∧ Keep h0 h [o0] ∧ Arv Z h o0 m0 .byte 1 [(.int (i0.toInt8.toInt32))] (.int 0) ∧ Exa Z h o0 "[B")) 0 0 := own_go own_pn22 fun p e s m below meth c s₁ hns hrt hnm hml hZ hx hby hown X0 e0 => by
 have N0 := Fr.nil n0
 refine own_cast (own_ef12 m o1 0 o0 0 1) ?_
 refine oIC X0 hx hby dd23_0 ?_
 refine oIS X0 hx hby dd23_1 (l' := #[rv o1, iv 0, rv o0, iv 0, iv 1, iv 0, .unset]) rfl ?_
 refine oIL X0 hx hby dd23_3 rfl ?_
 refine oIL X0 hx hby dd23_5 rfl ?_
 refine oNI X0 hx hby dd23_7 (XT.ii_ge_f (by decide)) ?_
 refine oAN X0 hx hby dd23_10 rfl rfl ?_
 refine oIN X0 hx hby dd23_11 rfl ?_
 refine oS (own_caload X0 hx hZ e0 I0 (by decide) (v := (.int i0)) rfl rfl rfl (hb hby dd23_12)) ?_
 refine oIS X0 hx hby dd23_13 (l' := #[rv o1, iv 0, rv o0, iv 0, iv 1, iv 0, iv i0]) rfl ?_
 refine oIL X0 hx hby dd23_15 rfl ?_
 show own_G p e below (s₁.setTop (mkF m 17 #[rv o1, iv 0, rv o0, iv 0, iv 1, iv 0, iv i0] [(.int i0)])) _
 refine oS (fun _ => XS.sipush X0.here hx rfl (hb hby dd23_17) ) ?_
 refine oYI X0 hx hby (pc' := 26) dd23_20 (XT.ii_le_t I1) ?_
 refine oAN X0 hx hby dd23_26 rfl rfl ?_
 refine oIN X0 hx hby dd23_27 rfl ?_
 refine oIL X0 hx hby dd23_28 rfl ?_
 refine oS (fun _ => XT.i2b X0.here hx rfl (hb hby dd23_30) rfl) ?_
 obtain ⟨T0, h1, X1, e1, W0, A0, s0⟩ := own_stB X0 hx hZ e0 I2 (x' := (i0.toInt8.toInt32)) 0 (own_narB _) rfl (by decide) (by simp) (g := (mkF m 31 #[rv o1, iv 0, rv o0, iv 0, iv 1, iv 0, iv i0] [(.int (i0.toInt8.toInt32)), (.int 0), (.ref o0)])) rfl (rest := []) rfl (hb hby dd23_31)
 have N1 := Fr.snoc X1 N0 I3
 have z0 := W0.size
 have F0 : Arv Z h1 o0 m0 .byte 1 [(.int (i0.toInt8.toInt32))] (.int 0) := A0
 refine oS s0 ?_
 refine oS (fun _ => XS.iinc X1.here hx rfl (hb hby dd23_32) rfl (l' := #[rv o1, iv 1, rv o0, iv 0, iv 1, iv 0, iv i0]) rfl) ?_
 refine oS (fun _ => XS.iinc X1.here hx rfl (hb hby dd23_35) rfl (l' := #[rv o1, iv 1, rv o0, iv 1, iv 1, iv 0, iv i0]) rfl) ?_
 refine oS (fun _ => XS.iinc X1.here hx rfl (hb hby dd23_38) rfl (l' := #[rv o1, iv 1, rv o0, iv 1, iv 1, iv 1, iv i0]) rfl) ?_
 show own_G p e below (T0.setTop (mkF m 41 #[rv o1, iv 1, rv o0, iv 1, iv 1, iv 1, iv i0] [])) _
 refine oGO X1 hx hby (pc' := 3) dd23_41 ?_
 refine oIL X1 hx hby dd23_3 rfl ?_
 refine oIL X1 hx hby dd23_5 rfl ?_
 refine oYI X1 hx hby (pc' := 44) dd23_7 (XT.ii_ge_t (by decide)) ?_
 refine oIL X1 hx hby dd23_44 rfl ?_
 have F1 := Exa.wr W0 I4
 have K0 : Keep h0 h1 [o0] := ((Keep.refl h0 [o0]).wr W0 (Or.inl (by simp)))
 exact own_retI X1 hx hns hrt (hb hby dd23_46) e1 (by decide) (by decide) (⟨rfl, N1, K0, F0, F1⟩)
theorem own_pd19 : parseMethodDescriptor "([CI[BII)I" = some ⟨[(.array .char), .int, (.array .byte), .int, .int], (some .int)⟩ := by decide +kernel
theorem dd22_9 : decode B0c 9 = .ok (.invokestatic 115, 3) := by decide +kernel
theorem dd22_12 : decode B0c 12 = .ok (.istore 4, 2) := by decide +kernel
theorem dd22_14 : decode B0c 14 = .ok (.iload 4, 2) := by decide +kernel
theorem dd22_16 : decode B0c 16 = .ok (.iload_n 2, 1) := by decide +kernel
theorem dd22_17 : decode B0c 17 = .ok (.if_icmp .eq 40, 3) := by decide +kernel
theorem dd22_57 : decode B0c 57 = .ok (.aload_n 3, 1) := by decide +kernel
theorem dd22_58 : decode B0c 58 = .ok (.areturn, 1) := by decide +kernel
theorem own_pn23 : plainFor mN23 = true := by decide +kernel
theorem own_rm36 (l : Launch) (Z : State) (a0 : Array Value) (hw : own_W a0 Z) (ws : List Jvm.Cond) (i0 : Int32) (m1 : ClassId) (o1 : Nat) (h0 : Heap) (n0 : Nat) (Z1 : n0 ≤ h0.size) (O0 : Old Z n0 h0) (I0 : Arv Z h0 o1 m1 .char 1 [(.int i0)] (.int 0)) (I1 : ¬ (255 < i0)) :
 own_Met l Z h0 mN23 B0c 6 (Option.some (FieldType.array FieldType.byte)) ws (own_R 1 1 1 18) #[(.ref o1), (.int 0), (.int 1)] (fun v h L => (∃ o0 : Nat, ∃ m0 : ClassId, v = some (.ref o0) ∧ Fr n0 L ∧ Keep h0 h [] ∧ h0.size ≤ o0 ∧ Arv Z h o0 m0 .byte 1 [(.int (i0.toInt8.toInt32))] (.int 0) ∧ Exa Z h o0 "[B" ∧ @LT.lt Nat instLTNat o0 h.size)) 1 1 := own_go own_pn23 fun p e s m below meth c s₁ hns hrt hnm hml hZ hx hby hown X2 e0 => by
 have N0 := Fr.nil n0
 refine own_cast (own_ef11 m o1 0 1) ?_
 refine oIN X2 hx hby dd22_0 rfl ?_
 obtain ⟨T1, h1, m0, X0, e1, E0, A0, B0, s0⟩ := own_newP X2 hx hZ (aty := .byte) (hw 15) e0 (nm := "[B") rfl (g := (mkF m 1 #[rv o1, iv 0, iv 1, .unset, .unset, .unset] [(.int 1)])) rfl (hb hby dd22_1) (n := 1) (rest := []) rfl (by decide) (cap := 1) (by decide) (by decide) (by decide) (by decide)
 obtain ⟨o0, g0⟩ : ∃ z, z = h0.size := ⟨_, rfl⟩
 rw [← g0] at A0 B0 s0
 have F0 : Arv Z h1 o0 m0 .byte 1 [(.int 0)] (.int 0) := own_newA A0 (by decide) rfl rfl
 have z0 := E0.1
 have y1 : @LT.lt Nat instLTNat o0 h1.size := F0.lt
 refine oS s0 ?_
 refine oASN X0 hx hby dd22_3 rfl (l' := #[rv o1, iv 0, iv 1, rv o0, .unset, .unset]) rfl ?_
 refine oAN X0 hx hby dd22_4 rfl rfl ?_
 refine oIN X0 hx hby dd22_5 rfl ?_
 refine oAN X0 hx hby dd22_6 rfl rfl ?_
 refine oIC X0 hx hby dd22_7 ?_
 refine oIN X0 hx hby dd22_8 rfl ?_
 have F1 := I0.ext E0
 have N1 : n0 ≤ o0 := by omega
 have O1 : Old Z n0 h1 := O0.ext E0
 have Z0 : n0 ≤ h1.size := by omega
 refine own_cS X0 hx hZ hown e1 (y := mN22) (hw 228) (hw 229) (hw 226) (hw 230) (by decide) (W := 0) (own_rm37 l Z a0 hw [] i0 m1 m0 o1 o0 h1 n0 Z0 O1 F1 I1 F0 N1 B0) [(.ref o1), (.int 0), (.ref o0), (.int 0), (.int 1)] [] hml (lenOf own_pd19 rfl) (hb hby dd22_9) fun T0 h2 v0 L0 X1 e2 q0 => ?_
 obtain ⟨rfl, N2, K0, F2, F3⟩ := q0
 have N3 := Fr.app N0 N2
 have z1 := K0.1
 refine oIS X1 hx hby dd22_12 (l' := #[rv o1, iv 0, iv 1, rv o0, iv 1, .unset]) rfl ?_
 show own_G p e below (T0.setTop (mkF m 14 #[rv o1, iv 0, iv 1, rv o0, iv 1, .unset] [])) _
 refine oIL X1 hx hby dd22_14 rfl ?_
 refine oIN X1 hx hby dd22_16 rfl ?_
 refine oYI X1 hx hby (pc' := 57) dd22_17 (XT.ii_eq_t (by decide)) ?_
 refine oAN X1 hx hby dd22_57 rfl rfl ?_
 have y0 : @LT.lt Nat instLTNat o0 h2.size := by omega
 have K1 : Keep h0 h2 [] := (((Keep.refl h0 []).ext E0).trans K0 (allS (Or.inr (by omega)) all0))
 exact own_retA X1 hx hns hrt rfl rfl (hb hby dd22_58) e2 (by decide) (by decide) (⟨o0, m0, rfl, N3, K1, (by omega), F2, F3, y0⟩)
theorem own_pd20 : parseMethodDescriptor "([CII)[B" = some ⟨[(.array .char), .int, .int], (some (.array .byte))⟩ := by decide +kernel
theorem dd1_36 : decode B1 36 = .ok (.invokestatic 177, 3) := by decide +kernel
theorem dd1_39 : decode B1 39 = .ok (.astore 5, 2) := by decide +kernel
theorem dd1_41 : decode B1 41 = .ok (.aload_n 0, 1) := by decide +kernel
theorem dd1_42 : decode B1 42 = .ok (.aload 5, 2) := by decide +kernel
theorem dd1_44 : decode B1 44 = .ok (.iload_n 3, 1) := by decide +kernel
theorem dd24_0 : decode B0e 0 = .ok (.iload_n 1, 1) := by decide +kernel
theorem dd24_1 : decode B0e 1 = .ok (.aload_n 0, 1) := by decide +kernel
theorem dd24_2 : decode B0e 2 = .ok (.arraylength, 1) := by decide +kernel
theorem dd24_3 : decode B0e 3 = .ok (.isub, 1) := by decide +kernel
theorem dd24_4 : decode B0e 4 = .ok (.bipush 31, 2) := by decide +kernel
theorem dd24_6 : decode B0e 6 = .ok (.iushr, 1) := by decide +kernel
theorem dd24_7 : decode B0e 7 = .ok (.i2b, 1) := by decide +kernel
theorem dd24_8 : decode B0e 8 = .ok (.ireturn, 1) := by decide +kernel
theorem own_pn24 : plainFor mN24 = true := by decide +kernel
theorem own_rm38 (l : Launch) (Z : State) (a0 : Array Value) (hw : own_W a0 Z) (ws : List Jvm.Cond) (i0 : Int32) (m0 : ClassId) (o0 : Nat) (h0 : Heap) (n0 : Nat) (Z0 : n0 ≤ h0.size) (O0 : Old Z n0 h0) (I0 : Arv Z h0 o0 m0 .byte 1 [(.int (i0.toInt8.toInt32))] (.int 0)) :
 own_Met l Z h0 mN24 B0e 2 (Option.some FieldType.byte) ws (own_R 0 0 0 0) #[(.ref o0), (.int 1)] (fun v h L => (v = some (.int 0) ∧ Fr n0 L ∧ h = h0)) 0 0 := own_go own_pn24 fun p e s m below meth c s₁ hns hrt hnm hml hZ hx hby hown X0 e0 => by
 have N0 := Fr.nil n0
 refine own_cast (own_ef4 m o0 1) ?_
 refine oIN X0 hx hby dd24_0 rfl ?_
 refine oAN X0 hx hby dd24_1 rfl rfl ?_
 refine oS (own_len X0 hx hZ e0 I0 rfl rfl (hb hby dd24_2)) ?_
 refine oS (fun _ => XS.isub X0.here hx rfl (hb hby dd24_3) rfl) ?_
 refine oS (fun _ => XS.bipush X0.here hx rfl (hb hby dd24_4) ) ?_
 refine oS (fun _ => XT.iushr X0.here hx rfl (hb hby dd24_6) rfl) ?_
 refine oS (fun _ => XT.i2b X0.here hx rfl (hb hby dd24_7) rfl) ?_
 exact own_retN X0 hx (t := .byte) hns hrt (by simp) (hb hby dd24_8) (by decide) e0 (by decide) (by decide) (⟨rfl, N0, rfl⟩)
theorem own_pd21 : parseMethodDescriptor "([BI)B" = some ⟨[(.array .byte), .int], (some .byte)⟩ := by decide +kernel
theorem dd1_45 : decode B1 45 = .ok (.invokestatic 47, 3) := by decide +kernel
theorem dd1_48 : decode B1 48 = .ok (.putfield 15, 3) := by decide +kernel
theorem dd1_51 : decode B1 51 = .ok (.aload_n 0, 1) := by decide +kernel
theorem dd1_52 : decode B1 52 = .ok (.aload 5, 2) := by decide +kernel
theorem dd1_54 : decode B1 54 = .ok (.putfield 9, 3) := by decide +kernel
theorem dd1_57 : decode B1 57 = .ok (.return_, 1) := by decide +kernel
theorem own_rm35 (l : Launch) (Z : State) (a0 : Array Value) (hw : own_W a0 Z) (ws : List Jvm.Cond) (i1 i0 : Int32) (m1 : ClassId) (o0 o2 : Nat) (h0 : Heap) (n0 : Nat) (Z0 : n0 ≤ h0.size) (O0 : Old Z n0 h0) (I1 : Sta Z Z.heap cN2 "COMPACT_STRINGS" "Z" (.int i1)) (I2 : ¬ (i1 = 0)) (I3 : Arv Z h0 o2 m1 .char 1 [(.int i0)] (.int 0)) (I4 : ¬ (255 < i0)) (I5 : Fld Z h0 o0 cN2 "coder" "B" (.int 0)) (I6 : Exa Z h0 o0 cN2) (I0 : n0 ≤ o0) (I7 : Fld Z h0 o0 cN2 "value" "[B" .null) (I8 : @LT.lt Nat instLTNat o0 h0.size) :
 own_Met l Z h0 mN0 B1 6 (Option.none : Option FieldType) ws (own_R 2 1 1 35) #[(.ref o0), (.ref o2), (.int 0), (.int 1), .null] (fun v h L => (∃ o1 : Nat, ∃ m0 : ClassId, v = none ∧ Fr n0 L ∧ Keep h0 h [o0] ∧ h0.size ≤ o1 ∧ Fld Z h o0 cN2 "coder" "B" (.int 0) ∧ Exa Z h o0 cN2 ∧ Fld Z h o0 cN2 "value" "[B" (.ref o1) ∧ Arv Z h o1 m0 .byte 1 [(.int (i0.toInt8.toInt32))] (.int 0) ∧ Exa Z h o1 "[B" ∧ @LT.lt Nat instLTNat o1 h.size)) 1 1 := own_go own_pn0 fun p e s m below meth c s₁ hns hrt hnm hml hZ hx hby hown X4 e0 => by
 have N1 := Fr.nil n0
 refine own_cast (own_ef2 m o0 o2 0 1) ?_
 refine oAN X4 hx hby dd1_0 rfl rfl ?_
 obtain ⟨T1, X3, e1, s0⟩ := initO X4 hx hZ hown (hw 11) (hw 12) (hw 13) e0 (g := (mkF m 1 #[rv o0, rv o2, iv 0, iv 1, .val .null, .unset] [(.ref o0)])) rfl (by rw [hml]; rfl) rfl (hb hby dd1_1) (by decide) (W := 0) (by show 2 * 0 + _ ≤ _; exact Nat.le_of_eq rfl) (by decide)
 refine oS s0 ?_
 refine oIN X3 hx hby dd1_4 rfl ?_
 refine oY0 X3 hx hby (pc' := 27) dd1_5 (XT.i0_ne_t (by decide)) ?_
 have F5 := Sta.ext O0.2 I1
 obtain ⟨T2, X0, e2, s1⟩ := getS X3 hx hZ hown (host := "") (hw 67) Via.refl e1 F5 (g := (mkF m 27 #[rv o0, rv o2, iv 0, iv 1, .val .null, .unset] [])) rfl (hb hby dd1_27)
 refine oS s1 ?_
 refine oN0 X0 hx hby dd1_30 (XT.i0_eq_f I2) ?_
 refine oAN X0 hx hby dd1_33 rfl rfl ?_
 refine oIN X0 hx hby dd1_34 rfl ?_
 refine oIN X0 hx hby dd1_35 rfl ?_
 refine own_cS X0 hx hZ hown e2 (y := mN23) (hw 224) (hw 225) (hw 226) (hw 227) (by decide) (W := 0) (own_rm36 l Z a0 hw [] i0 m1 o2 h0 n0 Z0 O0 I3 I4) [(.ref o2), (.int 0), (.int 1)] [] hml (lenOf own_pd20 rfl) (hb hby dd1_36) fun T0 h1 v0 L0 X1 e3 q0 => ?_
 obtain ⟨o1, m0, rfl, N2, K0, F03, F0, F6, F04⟩ := q0
 have N3 := Fr.app N1 N2
 have z0 := K0.1
 show own_G p e below (T0.setTop (mkF m 39 #[rv o0, rv o2, iv 0, iv 1, .val .null, .unset] [(.ref o1)])) _
 refine oAS X1 hx hby dd1_39 rfl (l' := #[rv o0, rv o2, iv 0, iv 1, .val .null, rv o1]) rfl ?_
 refine oAN X1 hx hby dd1_41 rfl rfl ?_
 refine oAL X1 hx hby dd1_42 rfl rfl ?_
 refine oIN X1 hx hby dd1_44 rfl ?_
 have O1 : Old Z n0 h1 := O0.keep K0 all0
 have Z1 : n0 ≤ h1.size := by omega
 refine own_cS X1 hx hZ hown e3 (y := mN24) (hw 231) (hw 232) (hw 226) (hw 233) (by decide) (W := 1) (own_rm38 l Z a0 hw [] i0 m0 o1 h1 n0 Z1 O1 F0) [(.ref o1), (.int 1)] [(.ref o0)] hml (lenOf own_pd21 rfl) (hb hby dd1_45) fun T3 h3 v1 L1 X6 e4 q1 => ?_
 obtain ⟨rfl, N4, K1⟩ := q1
 have N5 := Fr.app N3 N4
 have e5 := e4.trans K1
 have F1 := I5.keep K0 nin0
 have F2 := I6.keep K0
 refine own_pF X6 hx hZ hown (hw 21) e5 F1 F2 (Or.inr ⟨(hw 17), rfl, hnm⟩) (hw 2) (ty := .byte) (by decide) (by decide) (hb hby dd1_48) fun T4 h4 X2 e6 W0 => ?_
 have N6 := Fr.snoc X2 N5 I0
 have z1 := W0.size
 have F7 := Fld.same W0 F1
 refine oAN X2 hx hby dd1_51 rfl rfl ?_
 refine oAL X2 hx hby dd1_52 rfl rfl ?_
 have F3 := Fld.other W0 (I7.keep K0 nin0) (Or.inr (slot_ne (C := cN2) (Or.inr (hw 16)) (Or.inr (hw 17)) (by decide) (t := (.array .byte)) (t' := .byte) (by decide) (by decide)))
 have F4 := Exa.wr W0 F2
 refine own_pF X2 hx hZ hown (hw 20) e6 F3 F4 (Or.inr ⟨(hw 16), rfl, hnm⟩) (hw 2) (ty := (.array .byte)) rfl rfl (hb hby dd1_54) fun T5 h2 X5 e7 W1 => ?_
 have N7 := Fr.snoc X5 N6 I0
 have z2 := W1.size
 have F8 := Fld.same W1 F3
 have F9 := Fld.other W1 F7 (Or.inr (slot_ne (C := cN2) (Or.inr (hw 17)) (Or.inr (hw 16)) (by decide) (t := .byte) (t' := (.array .byte)) (by decide) (by decide)))
 have F00 := Exa.wr W1 F4
 have N0 : @Ne Nat o1 o0 := by omega
 have F01 := (F0.other W0 N0).other W1 N0
 have F02 := Exa.wr W1 (Exa.wr W0 F6)
 have y0 : @LT.lt Nat instLTNat o1 h2.size := by omega
 have K2 : Keep h0 h2 [o0] := ((((Keep.refl h0 [o0]).trans K0 all0).wr W0 (Or.inl (by simp))).wr W1 (Or.inl (by simp)))
 exact own_retV X5 hx hns hrt (hb hby dd1_57) e7 (by decide) (by decide) (⟨o1, m0, rfl, N7, K2, (by omega), F9, F00, F8, F01, F02, y0⟩)
theorem own_rm34 (l : Launch) (Z : State) (a0 : Array Value) (hw : own_W a0 Z) (ws : List Jvm.Cond) (i0 i1 : Int32) (m1 : ClassId) (o0 o2 : Nat) (h0 : Heap) (n0 : Nat) (Z0 : n0 ≤ h0.size) (O0 : Old Z n0 h0) (I0 : Arv Z h0 o2 m1 .char 1 [(.int i0)] (.int 0)) (I1 : Sta Z Z.heap cN2 "COMPACT_STRINGS" "Z" (.int i1)) (I2 : ¬ (i1 = 0)) (I3 : ¬ (255 < i0)) (I4 : Fld Z h0 o0 cN2 "coder" "B" (.int 0)) (I5 : Exa Z h0 o0 cN2) (I6 : n0 ≤ o0) (I7 : Fld Z h0 o0 cN2 "value" "[B" .null) (I8 : @LT.lt Nat instLTNat o0 h0.size) :
 own_Met l Z h0 mN1 B0 2 (Option.none : Option FieldType) ws (own_R 3 1 1 52) #[(.ref o0), (.ref o2)] (fun v h L => (∃ o1 : Nat, ∃ m0 : ClassId, v = none ∧ Fr n0 L ∧ Keep h0 h [o0] ∧ h0.size ≤ o1 ∧ Fld Z h o0 cN2 "coder" "B" (.int 0) ∧ Exa Z h o0 cN2 ∧ Fld Z h o0 cN2 "value" "[B" (.ref o1) ∧ Arv Z h o1 m0 .byte 1 [(.int (i0.toInt8.toInt32))] (.int 0) ∧ Exa Z h o1 "[B" ∧ @LT.lt Nat instLTNat o1 h.size)) 1 1 := own_go own_pn1 fun p e s m below meth c s₁ hns hrt hnm hml hZ hx hby hown X0 e0 => by
 have N0 := Fr.nil n0
 refine own_cast (own_ef1 m o0 o2) ?_
 refine oAN X0 hx hby dd0_0 rfl rfl ?_
 refine oAN X0 hx hby dd0_1 rfl rfl ?_
 refine oIC X0 hx hby dd0_2 ?_
 refine oAN X0 hx hby dd0_3 rfl rfl ?_
 refine oS (own_len X0 hx hZ e0 I0 rfl rfl (hb hby dd0_4)) ?_
 refine oS (fun _ => XS.aconstNull X0.here hx rfl (hb hby dd0_5) ) ?_
 have y0 : @LT.lt Nat instLTNat o0 h0.size := by omega
 refine own_cN X0 hx hZ hown e0 (y := mN0) (b := o0) rfl (hw 7) (hw 8) (hw 3) (hw 10) (by decide) (W := 0) (own_rm35 l Z a0 hw [] i1 i0 m1 o0 o2 h0 n0 Z0 O0 I1 I2 I0 I3 I4 I5 I6 I7 y0) [(.ref o2), (.int 0), (.int 1), .null] [] hml (lenOf own_pd0 rfl) (hb hby dd0_6) fun T0 h1 v0 L0 X1 e1 q0 => ?_
 obtain ⟨o1, m0, rfl, N1, K0, F5, F0, F1, F2, F3, F4, F6⟩ := q0
 have N2 := Fr.app N0 N1
 have z0 := K0.1
 have y1 : @LT.lt Nat instLTNat o1 h1.size := by omega
 have K1 : Keep h0 h1 [o0] := ((Keep.refl h0 [o0]).trans K0 (allS (Or.inl (by simp)) all0))
 exact own_retV X1 hx hns hrt (hb hby dd0_9) e1 (by decide) (by decide) (⟨o1, m0, rfl, N2, K1, (by omega), F0, F1, F2, F3, F4, y1⟩)
theorem own_rm42 (l : Launch) (Z : State) (a0 : Array Value) (hw : own_W a0 Z) (ws : List Jvm.Cond) (i1 i0 : Int32) (m0 : ClassId) (o0 o1 : Nat) (h0 : Heap) (n0 : Nat) (Z0 : n0 ≤ h0.size) (O0 : Old Z n0 h0) (I0 : Fld Z h0 o0 cN2 "value" "[B" (.ref o1)) (I1 : Arv Z h0 o1 m0 .byte 1 [(.int (i1.toInt8.toInt32))] (.int 0)) (I2 : Sta Z Z.heap cN2 "COMPACT_STRINGS" "Z" (.int i0)) (I3 : ¬ (i0 = 0)) (I4 : Fld Z h0 o0 cN2 "coder" "B" (.int 0)) (I5 : Exa Z h0 o0 cN2) :
 own_Met l Z h0 mN5 B7 1 (Option.some FieldType.int) ws (own_R 1 0 0 13) #[(.ref o0)] (fun v h L => (v = some (.int 1) ∧ Fr n0 L ∧ h = h0)) 0 0 := own_go own_pn5 fun p e s m below meth c s₁ hns hrt hnm hml hZ hx hby hown X1 e1 => by
 have N0 := Fr.nil n0
 refine own_cast (own_ef3 m o0) ?_
 refine oAN X1 hx hby dd7_0 rfl rfl ?_
 refine own_gF X1 hx hZ hown (hw 20) e1 I0 (hb hby dd7_1) fun T0 X0 e0 => ?_
 refine oS (own_len X0 hx hZ e0 I1 rfl rfl (hb hby dd7_4)) ?_
 refine oAN X0 hx hby dd7_5 rfl rfl ?_
 refine own_cV X0 hx hZ hown e0 (y := mN4) (z := mN4) (b := o0) (hw 62) (hw 63) (notFace_of_selects (args := #[]) (mvT hZ (hw 65))) (hw 65) (hw 64) (hw 3) (hw 66) (by decide) I5 (W := 1) (own_rm13 l Z a0 hw [] i0 o0 h0 n0 Z0 O0 I2 I3 I4) [] [(.int 1)] hml (lenOf own_pd4 rfl) (hb hby dd7_6) fun T1 h1 v0 L0 X2 e2 q0 => ?_
 obtain ⟨rfl, N1, K0⟩ := q0
 have N2 := Fr.app N0 N1
 have e3 := e2.trans K0
 refine oS (fun _ => XT.ishr X2.here hx rfl (hb hby dd7_9) rfl) ?_
 exact own_retI X2 hx hns hrt (hb hby dd7_10) e3 (by decide) (by decide) (⟨rfl, N2, rfl⟩)
theorem own_rm43 (l : Launch) (Z : State) (a0 : Array Value) (hw : own_W a0 Z) (ws : List Jvm.Cond) (m0 : ClassId) (o0 o1 : Nat) (h0 : Heap) (n0 : Nat) (Z0 : n0 ≤ h0.size) (O0 : Old Z n0 h0) (I0 : Fld Z h0 o0 cN3 "value" "[B" (.ref o1)) (I1 : Arv Z h0 o1 m0 .byte 16 [(.int 0), (.int 0), (.int 0), (.int 0), (.int 0), (.int 0), (.int 0), (.int 0), (.int 0), (.int 0), (.int 0), (.int 0), (.int 0), (.int 0), (.int 0), (.int 0)] (.int 0)) (I2 : Fld Z h0 o0 cN3 "coder" "B" (.int 0)) :
 own_Met l Z h0 mN6 B9 3 (Option.none : Option FieldType) ws (own_R 0 0 0 0) #[(.ref o0), (.int 1)] (fun v h L => (v = none ∧ Fr n0 L ∧ h = h0)) 0 0 := own_go own_pn6 fun p e s m below meth c s₁ hns hrt hnm hml hZ hx hby hown X2 e1 => by
 have N0 := Fr.nil n0
 refine own_cast (own_ef6 m o0 1) ?_
 refine oAN X2 hx hby dd9_0 rfl rfl ?_
 refine own_gF X2 hx hZ hown (hw 43) e1 I0 (hb hby dd9_1) fun T1 X1 e0 => ?_
 refine oS (own_len X1 hx hZ e0 I1 rfl rfl (hb hby dd9_4)) ?_
 refine oAN X1 hx hby dd9_5 rfl rfl ?_
 refine own_gF X1 hx hZ hown (hw 45) e0 I2 (hb hby dd9_6) fun T0 X0 e2 => ?_
 refine oS (fun _ => XT.ishr X0.here hx rfl (hb hby dd9_9) rfl) ?_
 refine oISN X0 hx hby dd9_10 (l' := #[rv o0, iv 1, iv 16]) rfl ?_
 refine oIN X0 hx hby dd9_11 rfl ?_
 refine oIN X0 hx hby dd9_12 rfl ?_
 refine oS (fun _ => XS.isub X0.here hx rfl (hb hby dd9_13) rfl) ?_
 show own_G p e below (T0.setTop (mkF m 14 #[rv o0, iv 1, iv 16] [(.int (-15))])) _
 refine oY0 X0 hx hby (pc' := 38) dd9_14 (XT.i0_le_t (by decide)) ?_
 exact own_retV X0 hx hns hrt (hb hby dd9_38) e2 (by decide) (by decide) (⟨rfl, N0, rfl⟩)
theorem own_rm45 (l : Launch) (Z : State) (a0 : Array Value) (hw : own_W a0 Z) (ws : List Jvm.Cond) (i1 i0 : Int32) (m1 m0 : ClassId) (o1 o0 o2 : Nat) (h0 : Heap) (n0 : Nat) (Z0 : n0 ≤ h0.size) (O0 : Old Z n0 h0) (I2 : Sta Z Z.heap cN2 "COMPACT_STRINGS" "Z" (.int i1)) (I3 : ¬ (i1 = 0)) (I4 : Fld Z h0 o1 cN2 "coder" "B" (.int 0)) (I5 : Exa Z h0 o1 cN2) (I0 : Fld Z h0 o1 cN2 "value" "[B" (.ref o2)) (I1 : Arv Z h0 o2 m1 .byte 1 [(.int (i0.toInt8.toInt32))] (.int 0)) (I6 : Arv Z h0 o0 m0 .byte 16 [(.int 0), (.int 0), (.int 0), (.int 0), (.int 0), (.int 0), (.int 0), (.int 0), (.int 0), (.int 0), (.int 0), (.int 0), (.int 0), (.int 0), (.int 0), (.int 0)] (.int 0)) (I7 : n0 ≤ o0) (I8 : Exa Z h0 o0 "[B") :
 own_Met l Z h0 mN8 B02 4 (Option.none : Option FieldType) ws (own_R 1 0 0 18) #[(.ref o1), (.ref o0), (.int 0), (.int 0)] (fun v h L => (v = none ∧ Fr n0 L ∧ Keep h0 h [o0] ∧ Arv Z h o0 m0 .byte 16 [(.int (i0.toInt8.toInt32)), (.int 0), (.int 0), (.int 0), (.int 0), (.int 0), (.int 0), (.int 0), (.int 0), (.int 0), (.int 0), (.int 0), (.int 0), (.int 0), (.int 0), (.int 0)] (.int 0) ∧ Exa Z h o0 "[B")) 0 0 := own_go own_pn8 fun p e s m below meth c s₁ hns hrt hnm hml hZ hx hby hown X2 e1 => by
 have N0 := Fr.nil n0
 refine own_cast (own_ef8 m o1 o0 0 0) ?_
 refine oAN X2 hx hby dd12_0 rfl rfl ?_
 refine own_cV X2 hx hZ hown e1 (y := mN4) (z := mN4) (b := o1) (hw 62) (hw 63) (notFace_of_selects (args := #[]) (mvT hZ (hw 65))) (hw 65) (hw 64) (hw 3) (hw 66) (by decide) I5 (W := 0) (own_rm13 l Z a0 hw [] i1 o1 h0 n0 Z0 O0 I2 I3 I4) [] [] hml (lenOf own_pd4 rfl) (hb hby dd12_1) fun T1 h2 v0 L0 X1 e2 q0 => ?_
 obtain ⟨rfl, N1, K1⟩ := q0
 have N2 := Fr.app N0 N1
 have e3 := e2.trans K1
 refine oIN X1 hx hby dd12_4 rfl ?_
 refine oNI X1 hx hby dd12_5 (XT.ii_ne_f (by decide)) ?_
 refine oAN X1 hx hby dd12_8 rfl rfl ?_
 refine own_gF X1 hx hZ hown (hw 20) e3 I0 (hb hby dd12_9) fun T0 X0 e4 => ?_
 refine oIC X0 hx hby dd12_12 ?_
 refine oAN X0 hx hby dd12_13 rfl rfl ?_
 refine oIN X0 hx hby dd12_14 rfl ?_
 refine oIN X0 hx hby dd12_15 rfl ?_
 show own_G p e below (T0.setTop (mkF m 16 #[rv o1, rv o0, iv 0, iv 0] [(.int 0), (.int 0), (.ref o0), (.int 0), (.ref o2)])) _
 refine oS (fun _ => XT.ishl X0.here hx rfl (hb hby dd12_16) rfl) ?_
 refine oAN X0 hx hby dd12_17 rfl rfl ?_
 refine own_gF X0 hx hZ hown (hw 20) e4 I0 (hb hby dd12_18) fun T2 X3 e0 => ?_
 refine oS (own_len X3 hx hZ e0 I1 rfl rfl (hb hby dd12_21)) ?_
 obtain ⟨T3, h1, L1, X4, e5, N3, K0, A0, s0⟩ := cpA X3 hx hZ hown (hw 91) (hw 94) (hw 92) (hw 93) e0 I1 I6 (us := [(.int (i0.toInt8.toInt32))]) (Or.inl ⟨rfl, rfl⟩) (by decide) (by decide) (by decide) (by decide) (by decide) rfl (Nat.le_of_ble_eq_true rfl) N2 I7 (g := (mkF m 22 #[rv o1, rv o0, iv 0, iv 0] [(.int 1), (.int 0), (.ref o0), (.int 0), (.ref o2)])) rfl (by rw [hml]; rfl) (rest := []) rfl (hb hby dd12_22) (by decide) (W := 0) (by show 2 * 0 + _ ≤ _; exact Nat.le_of_eq rfl) (by decide)
 have z0 := K0.1
 have F0 : Arv Z h1 o0 m0 .byte 16 [(.int (i0.toInt8.toInt32)), (.int 0), (.int 0), (.int 0), (.int 0), (.int 0), (.int 0), (.int 0), (.int 0), (.int 0), (.int 0), (.int 0), (.int 0), (.int 0), (.int 0), (.int 0)] (.int 0) := A0
 refine oS s0 ?_
 refine oGO X4 hx hby (pc' := 43) dd12_25 ?_
 have F1 := I8.keep K0
 have K2 : Keep h0 h1 [o0] := ((Keep.refl h0 [o0]).trans K0 (allS (Or.inl (by simp)) all0))
 exact own_retV X4 hx hns hrt (hb hby dd12_43) e5 (by decide) (by decide) (⟨rfl, N3, K2, F0, F1⟩)
theorem own_rm44 (l : Launch) (Z : State) (a0 : Array Value) (hw : own_W a0 Z) (ws : List Jvm.Cond) (i0 i1 : Int32) (m1 m0 : ClassId) (o2 o1 o0 o3 : Nat) (h0 : Heap) (n0 : Nat) (Z0 : n0 ≤ h0.size) (O0 : Old Z n0 h0) (I1 : Sta Z Z.heap cN2 "COMPACT_STRINGS" "Z" (.int i0)) (I2 : ¬ (i0 = 0)) (I3 : Fld Z h0 o2 cN3 "coder" "B" (.int 0)) (I4 : Fld Z h0 o1 cN2 "coder" "B" (.int 0)) (I0 : Exa Z h0 o1 cN2) (I5 : Exa Z h0 o2 cN4) (I6 : Fld Z h0 o2 cN3 "value" "[B" (.ref o0)) (I7 : Fld Z h0 o1 cN2 "value" "[B" (.ref o3)) (I8 : Arv Z h0 o3 m1 .byte 1 [(.int (i1.toInt8.toInt32))] (.int 0)) (I9 : Arv Z h0 o0 m0 .byte 16 [(.int 0), (.int 0), (.int 0), (.int 0), (.int 0), (.int 0), (.int 0), (.int 0), (.int 0), (.int 0), (.int 0), (.int 0), (.int 0), (.int 0), (.int 0), (.int 0)] (.int 0)) (I00 : n0 ≤ o0) (I01 : Exa Z h0 o0 "[B") :
 own_Met l Z h0 mN9 B00 3 (Option.none : Option FieldType) ws (own_R 2 0 0 33) #[(.ref o2), (.int 0), (.ref o1)] (fun v h L => (v = none ∧ Fr n0 L ∧ Keep h0 h [o0] ∧ Arv Z h o0 m0 .byte 16 [(.int (i1.toInt8.toInt32)), (.int 0), (.int 0), (.int 0), (.int 0), (.int 0), (.int 0), (.int 0), (.int 0), (.int 0), (.int 0), (.int 0), (.int 0), (.int 0), (.int 0), (.int 0)] (.int 0) ∧ Exa Z h o0 "[B")) 0 0 := own_go own_pn9 fun p e s m below meth c s₁ hns hrt hnm hml hZ hx hby hown X0 e0 => by
 have N0 := Fr.nil n0
 refine own_cast (own_ef7 m o2 0 o1) ?_
 refine oAN X0 hx hby dd10_0 rfl rfl ?_
 refine oAN X0 hx hby dd10_1 rfl rfl ?_
 refine own_cP X0 hx hZ hown e0 (y := mN7) (b := o2) (hw 80) (hw 81) (own_selP (hw 81) (hw 82) (hw 73) rfl (by decide)) (hw 82) (hw 39) (hw 84) (by decide) I5 (W := 0) (own_rm16 l Z a0 hw [] i0 o2 o1 h0 n0 Z0 O0 I1 I2 I3 I4 I0) [(.ref o1)] [] hml (lenOf own_pd6 rfl) (hb hby dd10_2) fun T1 h2 v0 L0 X1 e1 q0 => ?_
 obtain ⟨rfl, N1, K1⟩ := q0
 have N2 := Fr.app N0 N1
 have e2 := e1.trans K1
 refine oAN X1 hx hby dd10_5 rfl rfl ?_
 refine oAN X1 hx hby dd10_6 rfl rfl ?_
 refine own_gF X1 hx hZ hown (hw 43) e2 I6 (hb hby dd10_7) fun T2 X2 e3 => ?_
 refine oIN X2 hx hby dd10_10 rfl ?_
 refine oAN X2 hx hby dd10_11 rfl rfl ?_
 refine own_gF X2 hx hZ hown (hw 45) e3 I3 (hb hby dd10_12) fun T3 X3 e4 => ?_
 refine own_cV X3 hx hZ hown e4 (y := mN8) (z := mN8) (b := o1) (hw 86) (hw 87) (notFace_of_selects (args := #[]) (mvT hZ (hw 89))) (hw 89) (hw 88) (hw 3) (hw 90) (by decide) I0 (W := 0) (own_rm45 l Z a0 hw [] i0 i1 m1 m0 o1 o0 o3 h0 n0 Z0 O0 I1 I2 I4 I0 I7 I8 I9 I00 I01) [(.ref o0), (.int 0), (.int 0)] [] hml (lenOf own_pd7 rfl) (hb hby dd10_15) fun T0 h1 v1 L1 X4 e5 q1 => ?_
 obtain ⟨rfl, N3, K0, F0, F1⟩ := q1
 have N4 := Fr.app N2 N3
 have z0 := K0.1
 show own_G p e below (T0.setTop (mkF m 18 #[rv o2, iv 0, rv o1] [])) _
 have K2 : Keep h0 h1 [o0] := ((Keep.refl h0 [o0]).trans K0 (allS (Or.inl (by simp)) all0))
 exact own_retV X4 hx hns hrt (hb hby dd10_18) e5 (by decide) (by decide) (⟨rfl, N4, K2, F0, F1⟩)
theorem own_rm41 (l : Launch) (Z : State) (a0 : Array Value) (hw : own_W a0 Z) (ws : List Jvm.Cond) (i0 i1 : Int32) (m1 m0 : ClassId) (o0 o2 o3 o1 : Nat) (h0 : Heap) (n0 : Nat) (Z0 : n0 ≤ h0.size) (O0 : Old Z n0 h0) (I6 : Fld Z h0 o2 cN2 "value" "[B" (.ref o3)) (I7 : Arv Z h0 o3 m1 .byte 1 [(.int (i0.toInt8.toInt32))] (.int 0)) (I8 : Sta Z Z.heap cN2 "COMPACT_STRINGS" "Z" (.int i1)) (I9 : ¬ (i1 = 0)) (I00 : Fld Z h0 o2 cN2 "coder" "B" (.int 0)) (I2 : Exa Z h0 o2 cN2) (I3 : Fld Z h0 o0 cN3 "count" "I" (.int 0)) (I4 : Fld Z h0 o0 cN3 "value" "[B" (.ref o1)) (I01 : Arv Z h0 o1 m0 .byte 16 [(.int 0), (.int 0), (.int 0), (.int 0), (.int 0), (.int 0), (.int 0), (.int 0), (.int 0), (.int 0), (.int 0), (.int 0), (.int 0), (.int 0), (.int 0), (.int 0)] (.int 0)) (I5 : Fld Z h0 o0 cN3 "coder" "B" (.int 0)) (I0 : Exa Z h0 o0 cN4) (I02 : n0 ≤ o1) (I03 : Exa Z h0 o1 "[B") (I1 : @Ne Nat o0 o1) (I04 : n0 ≤ o0) :
 own_Met l Z h0 mN10 B6 3 (Option.some (FieldType.object cN3)) ws (own_R 3 0 0 47) #[(.ref o0), (.ref o2)] (fun v h L => (v = some (.ref o0) ∧ Fr n0 L ∧ Keep h0 h [o1, o0] ∧ Arv Z h o1 m0 .byte 16 [(.int (i0.toInt8.toInt32)), (.int 0), (.int 0), (.int 0), (.int 0), (.int 0), (.int 0), (.int 0), (.int 0), (.int 0), (.int 0), (.int 0), (.int 0), (.int 0), (.int 0), (.int 0)] (.int 0) ∧ Exa Z h o1 "[B" ∧ Fld Z h o0 cN3 "count" "I" (.int 1) ∧ Exa Z h o0 cN4 ∧ Fld Z h o0 cN3 "value" "[B" (.ref o1) ∧ Fld Z h o0 cN3 "coder" "B" (.int 0))) 0 0 := own_go own_pn10 fun p e s m below meth c s₁ hns hrt hnm hml hZ hx hby hown X0 e0 => by
 have N0 := Fr.nil n0
 refine own_cast (own_ef5 m o0 o2) ?_
 refine oAN X0 hx hby dd6_0 rfl rfl ?_
 refine oS (fun _ => XT.ifnonnullYes X0.here hx rfl (pc0 := 1) (pc' := 9) rfl (hb hby dd6_1) rfl (by decide) (by decide)) ?_
 refine oAN X0 hx hby dd6_9 rfl rfl ?_
 refine own_cV X0 hx hZ hown e0 (y := mN5) (z := mN5) (b := o2) (hw 57) (hw 58) (notFace_of_selects (args := #[]) (mvT hZ (hw 60))) (hw 60) (hw 59) (hw 3) (hw 61) (by decide) I2 (W := 0) (own_rm42 l Z a0 hw [] i0 i1 m1 o2 o3 h0 n0 Z0 O0 I6 I7 I8 I9 I00 I2) [] [] hml (lenOf own_pd5 rfl) (hb hby dd6_10) fun T2 h2 v0 L0 X1 e1 q0 => ?_
 obtain ⟨rfl, N1, K1⟩ := q0
 have N2 := Fr.app N0 N1
 have e2 := e1.trans K1
 refine oISN X1 hx hby dd6_13 (l' := #[rv o0, rv o2, iv 1]) rfl ?_
 refine oAN X1 hx hby dd6_14 rfl rfl ?_
 refine oAN X1 hx hby dd6_15 rfl rfl ?_
 refine own_gF X1 hx hZ hown (hw 68) e2 I3 (hb hby dd6_16) fun T0 X2 e3 => ?_
 refine oIN X2 hx hby dd6_19 rfl ?_
 refine oS (fun _ => XS.iadd X2.here hx rfl (hb hby dd6_20) rfl) ?_
 show own_G p e below (T0.setTop (mkF m 21 #[rv o0, rv o2, iv 1] [(.int 1), (.ref o0)])) _
 refine own_cP X2 hx hZ hown e3 (y := mN6) (b := o0) (hw 70) (hw 71) (own_selP (hw 71) (hw 72) (hw 73) rfl (by decide)) (hw 72) (hw 39) (hw 74) (by decide) I0 (W := 0) (own_rm43 l Z a0 hw [] m0 o0 o1 h0 n0 Z0 O0 I4 I01 I5) [(.int 1)] [] hml (lenOf own_pd2 rfl) (hb hby dd6_21) fun T3 h3 v1 L1 X3 e4 q1 => ?_
 obtain ⟨rfl, N3, K2⟩ := q1
 have N4 := Fr.app N2 N3
 have e5 := e4.trans K2
 refine oAN X3 hx hby dd6_24 rfl rfl ?_
 refine oAN X3 hx hby dd6_25 rfl rfl ?_
 refine own_gF X3 hx hZ hown (hw 68) e5 I3 (hb hby dd6_26) fun T4 X7 e6 => ?_
 refine oAN X7 hx hby dd6_29 rfl rfl ?_
 refine own_cP X7 hx hZ hown e6 (y := mN9) (b := o0) (hw 75) (hw 76) (own_selP (hw 76) (hw 77) (hw 73) rfl (by decide)) (hw 77) (hw 39) (hw 79) (by decide) I0 (W := 0) (own_rm44 l Z a0 hw [] i1 i0 m1 m0 o0 o2 o1 o3 h0 n0 Z0 O0 I8 I9 I5 I00 I2 I0 I4 I6 I7 I01 I02 I03) [(.int 0), (.ref o2)] [] hml (lenOf own_pd8 rfl) (hb hby dd6_30) fun T5 h4 v2 L2 X4 e7 q2 => ?_
 obtain ⟨rfl, N5, K0, F2, F3⟩ := q2
 have N6 := Fr.app N4 N5
 have z0 := K0.1
 refine oAN X4 hx hby dd6_33 rfl rfl ?_
 refine oS (fun _ => XS.dup X4.here hx rfl (hb hby dd6_34) rfl rfl) ?_
 have F0 := I3.keep K0 (ninS I1 nin0)
 refine own_gF X4 hx hZ hown (hw 68) e7 F0 (hb hby dd6_35) fun T1 X5 e8 => ?_
 refine oIN X5 hx hby dd6_38 rfl ?_
 show own_G p e below (T1.setTop (mkF m 39 #[rv o0, rv o2, iv 1] [(.int 1), (.int 0), (.ref o0)])) _
 refine oS (fun _ => XS.iadd X5.here hx rfl (hb hby dd6_39) rfl) ?_
 have F1 := I0.keep K0
 refine own_pF X5 hx hZ hown (hw 68) e8 F0 F1 (Or.inl (hw 69)) (hw 30) (ty := .int) rfl rfl (hb hby dd6_40) fun T6 h1 X6 e9 W0 => ?_
 have N7 := Fr.snoc X6 N6 I04
 have z1 := W0.size
 have F4 := Fld.same W0 F0
 refine oAN X6 hx hby dd6_43 rfl rfl ?_
 have F5 := F2.other W0 (Ne.symm I1)
 have F6 := Exa.wr W0 F3
 have F7 := Exa.wr W0 F1
 have F8 := Fld.other W0 (I4.keep K0 (ninS I1 nin0)) (Or.inr (slot_ne (C := cN4) (Or.inl (hw 44)) (Or.inl (hw 69)) (by decide) (t := (.array .byte)) (t' := .int) (by decide) (by decide)))
 have F9 := Fld.other W0 (I5.keep K0 (ninS I1 nin0)) (Or.inr (slot_ne (C := cN4) (Or.inl (hw 46)) (Or.inl (hw 69)) (by decide) (t := .byte) (t' := .int) (by decide) (by decide)))
 have K3 : Keep h0 h1 [o1, o0] := (((Keep.refl h0 [o1, o0]).trans K0 (allS (Or.inl (by simp)) all0)).wr W0 (Or.inl (by simp)))
 exact own_retA X6 hx hns hrt rfl rfl (hb hby dd6_44) e9 (by decide) (by decide) (⟨rfl, N7, K3, F5, F6, F4, F7, F8, F9⟩)
theorem own_rm40 (l : Launch) (Z : State) (a0 : Array Value) (hw : own_W a0 Z) (ws : List Jvm.Cond) (i0 i1 : Int32) (m1 m0 : ClassId) (o0 o2 o3 o1 : Nat) (h0 : Heap) (n0 : Nat) (Z0 : n0 ≤ h0.size) (O0 : Old Z n0 h0) (I1 : Fld Z h0 o2 cN2 "value" "[B" (.ref o3)) (I2 : Arv Z h0 o3 m1 .byte 1 [(.int (i0.toInt8.toInt32))] (.int 0)) (I3 : Sta Z Z.heap cN2 "COMPACT_STRINGS" "Z" (.int i1)) (I4 : ¬ (i1 = 0)) (I5 : Fld Z h0 o2 cN2 "coder" "B" (.int 0)) (I6 : Exa Z h0 o2 cN2) (I7 : Fld Z h0 o0 cN3 "count" "I" (.int 0)) (I8 : Fld Z h0 o0 cN3 "value" "[B" (.ref o1)) (I9 : Arv Z h0 o1 m0 .byte 16 [(.int 0), (.int 0), (.int 0), (.int 0), (.int 0), (.int 0), (.int 0), (.int 0), (.int 0), (.int 0), (.int 0), (.int 0), (.int 0), (.int 0), (.int 0), (.int 0)] (.int 0)) (I00 : Fld Z h0 o0 cN3 "coder" "B" (.int 0)) (I0 : Exa Z h0 o0 cN4) (I01 : n0 ≤ o1) (I02 : Exa Z h0 o1 "[B") (I03 : @Ne Nat o0 o1) (I04 : n0 ≤ o0) :
 own_Met l Z h0 mN11 B5 2 (Option.some (FieldType.object cN4)) ws (own_R 4 0 0 61) #[(.ref o0), (.ref o2)] (fun v h L => (v = some (.ref o0) ∧ Fr n0 L ∧ Keep h0 h [o1, o0] ∧ Arv Z h o1 m0 .byte 16 [(.int (i0.toInt8.toInt32)), (.int 0), (.int 0), (.int 0), (.int 0), (.int 0), (.int 0), (.int 0), (.int 0), (.int 0), (.int 0), (.int 0), (.int 0), (.int 0), (.int 0), (.int 0)] (.int 0) ∧ Exa Z h o1 "[B" ∧ Fld Z h o0 cN3 "count" "I" (.int 1) ∧ Exa Z h o0 cN4 ∧ Fld Z h o0 cN3 "value" "[B" (.ref o1) ∧ Fld Z h o0 cN3 "coder" "B" (.int 0))) 0 0 := own_go own_pn11 fun p e s m below meth c s₁ hns hrt hnm hml hZ hx hby hown X0 e0 => by
 have N0 := Fr.nil n0
 refine own_cast (own_ef1 m o0 o2) ?_
 refine oAN X0 hx hby dd5_0 rfl rfl ?_
 refine oAN X0 hx hby dd5_1 rfl rfl ?_
 refine own_cX X0 hx hZ hown e0 (y := mN10) (b := o0) (hw 52) (hw 55) (own_nf (hw 73) rfl) (hw 53) (hw 54) (by decide) (hw 39) (hw 56) (by decide) I0 (W := 0) (own_rm41 l Z a0 hw [] i0 i1 m1 m0 o0 o2 o3 o1 h0 n0 Z0 O0 I1 I2 I3 I4 I5 I6 I7 I8 I9 I00 I0 I01 I02 I03 I04) [(.ref o2)] [] hml (lenOf own_pd9 rfl) (hb hby dd5_2) fun T0 h1 v0 L0 X1 e1 q0 => ?_
 obtain ⟨rfl, N1, K0, F0, F1, F2, F3, F4, F5⟩ := q0
 have N2 := Fr.app N0 N1
 have z0 := K0.1
 refine oS (fun _ => XT.pop X1.here hx rfl (hb hby dd5_5) rfl rfl) ?_
 refine oAN X1 hx hby dd5_6 rfl rfl ?_
 have K1 : Keep h0 h1 [o1, o0] := ((Keep.refl h0 [o1, o0]).trans K0 (allS (Or.inl (by simp)) (allS (Or.inl (by simp)) all0)))
 exact own_retA X1 hx hns hrt rfl rfl (hb hby dd5_7) e1 (by decide) (by decide) (⟨rfl, N2, K1, F0, F1, F2, F3, F4, F5⟩)
theorem dd9_17 : decode B9 17 = .ok (.aload_n 0, 1) := by decide +kernel
theorem dd9_18 : decode B9 18 = .ok (.aload_n 0, 1) := by decide +kernel
theorem dd9_19 : decode B9 19 = .ok (.getfield 15, 3) := by decide +kernel
theorem dd9_22 : decode B9 22 = .ok (.aload_n 0, 1) := by decide +kernel
theorem dd9_23 : decode B9 23 = .ok (.iload_n 1, 1) := by decide +kernel
theorem own_ef13 (m : MethodId) (x0 : Addr) (x1 : Int32) : entryFrame m #[(.ref x0), (.int x1)] 6 = mkF m 0 #[.val (.ref x0), .val (.int x1), .unset, .unset, .unset, .unset] [] := by first | (simp [entryFrame, mkF, argsToLocals, Value.category]; done) | rfl
theorem dd25_0 : decode B0f 0 = .ok (.aload_n 0, 1) := by decide +kernel
theorem dd25_1 : decode B0f 1 = .ok (.getfield 15, 3) := by decide +kernel
theorem dd25_4 : decode B0f 4 = .ok (.arraylength, 1) := by decide +kernel
theorem dd25_5 : decode B0f 5 = .ok (.istore_n 2, 1) := by decide +kernel
theorem dd25_6 : decode B0f 6 = .ok (.iload_n 1, 1) := by decide +kernel
theorem dd25_7 : decode B0f 7 = .ok (.aload_n 0, 1) := by decide +kernel
theorem dd25_8 : decode B0f 8 = .ok (.getfield 22, 3) := by decide +kernel
theorem dd25_11 : decode B0f 11 = .ok (.ishl, 1) := by decide +kernel
theorem dd25_12 : decode B0f 12 = .ok (.istore_n 3, 1) := by decide +kernel
theorem dd25_13 : decode B0f 13 = .ok (.iload_n 3, 1) := by decide +kernel
theorem dd25_14 : decode B0f 14 = .ok (.iload_n 2, 1) := by decide +kernel
theorem dd25_15 : decode B0f 15 = .ok (.isub, 1) := by decide +kernel
theorem dd25_16 : decode B0f 16 = .ok (.istore 4, 2) := by decide +kernel
theorem dd25_18 : decode B0f 18 = .ok (.iload_n 2, 1) := by decide +kernel
theorem dd25_19 : decode B0f 19 = .ok (.iload 4, 2) := by decide +kernel
theorem dd25_21 : decode B0f 21 = .ok (.iload_n 2, 1) := by decide +kernel
theorem dd25_22 : decode B0f 22 = .ok (.iconst 2, 1) := by decide +kernel
theorem dd25_23 : decode B0f 23 = .ok (.aload_n 0, 1) := by decide +kernel
theorem dd25_24 : decode B0f 24 = .ok (.getfield 22, 3) := by decide +kernel
theorem dd25_27 : decode B0f 27 = .ok (.ishl, 1) := by decide +kernel
theorem dd25_28 : decode B0f 28 = .ok (.iadd, 1) := by decide +kernel
theorem own_ef14 (m : MethodId) (x0 : Int32) (x1 : Int32) (x2 : Int32) : entryFrame m #[(.int x0), (.int x1), (.int x2)] 4 = mkF m 0 #[.val (.int x0), .val (.int x1), .val (.int x2), .unset] [] := by first | (simp [entryFrame, mkF, argsToLocals, Value.category]; done) | rfl
theorem dd26_0 : decode B0g 0 = .ok (.iload_n 0, 1) := by decide +kernel
theorem dd26_1 : decode B0g 1 = .ok (.iload_n 1, 1) := by decide +kernel
theorem dd26_2 : decode B0g 2 = .ok (.iload_n 2, 1) := by decide +kernel
theorem own_ef15 (m : MethodId) (x0 : Int32) (x1 : Int32) : entryFrame m #[(.int x0), (.int x1)] 2 = mkF m 0 #[.val (.int x0), .val (.int x1)] [] := by first | (simp [entryFrame, mkF, argsToLocals, Value.category]; done) | rfl
theorem dd27_0 : decode B0h 0 = .ok (.iload_n 0, 1) := by decide +kernel
theorem dd27_1 : decode B0h 1 = .ok (.iload_n 1, 1) := by decide +kernel
theorem dd27_2 : decode B0h 2 = .ok (.if_icmp .lt 7, 3) := by decide +kernel
theorem dd27_9 : decode B0h 9 = .ok (.iload_n 1, 1) := by decide +kernel
theorem dd27_10 : decode B0h 10 = .ok (.ireturn, 1) := by decide +kernel
theorem own_pn25 : plainFor mN25 = true := by decide +kernel
theorem own_rm52 (l : Launch) (Z : State) (a0 : Array Value) (hw : own_W a0 Z) (ws : List Jvm.Cond)  (h0 : Heap) (n0 : Nat) (Z0 : n0 ≤ h0.size) (O0 : Old Z n0 h0)  :
 own_Met l Z h0 mN25 B0h 2 (Option.some FieldType.int) ws (own_R 0 0 0 0) #[(.int 1), (.int 18)] (fun v h L => (v = some (.int 18) ∧ Fr n0 L ∧ h = h0)) 0 0 := own_go own_pn25 fun p e s m below meth c s₁ hns hrt hnm hml hZ hx hby hown X0 e0 => by
 have N0 := Fr.nil n0
 refine own_cast (own_ef15 m 1 18) ?_
 refine oIN X0 hx hby dd27_0 rfl ?_
 refine oIN X0 hx hby dd27_1 rfl ?_
 refine oYI X0 hx hby (pc' := 9) dd27_2 (XT.ii_lt_t (by decide)) ?_
 refine oIN X0 hx hby dd27_9 rfl ?_
 exact own_retI X0 hx hns hrt (hb hby dd27_10) e0 (by decide) (by decide) (⟨rfl, N0, rfl⟩)
theorem own_pd22 : parseMethodDescriptor "(II)I" = some ⟨[.int, .int], (some .int)⟩ := by decide +kernel
theorem dd26_3 : decode B0g 3 = .ok (.invokestatic 194, 3) := by decide +kernel
theorem dd26_6 : decode B0g 6 = .ok (.iadd, 1) := by decide +kernel
theorem dd26_7 : decode B0g 7 = .ok (.istore_n 3, 1) := by decide +kernel
theorem dd26_8 : decode B0g 8 = .ok (.iconst 0, 1) := by decide +kernel
theorem dd26_9 : decode B0g 9 = .ok (.iload_n 3, 1) := by decide +kernel
theorem dd26_10 : decode B0g 10 = .ok (.if_icmp .ge 11, 3) := by decide +kernel
theorem dd26_13 : decode B0g 13 = .ok (.iload_n 3, 1) := by decide +kernel
theorem dd26_14 : decode B0g 14 = .ok (.ldc 200, 2) := by decide +kernel
theorem dd26_16 : decode B0g 16 = .ok (.if_icmp .gt 5, 3) := by decide +kernel
theorem dd26_19 : decode B0g 19 = .ok (.iload_n 3, 1) := by decide +kernel
theorem dd26_20 : decode B0g 20 = .ok (.ireturn, 1) := by decide +kernel
theorem own_pn26 : plainFor mN26 = true := by decide +kernel
theorem own_rm51 (l : Launch) (Z : State) (a0 : Array Value) (hw : own_W a0 Z) (ws : List Jvm.Cond)  (h0 : Heap) (n0 : Nat) (Z0 : n0 ≤ h0.size) (O0 : Old Z n0 h0)  :
 own_Met l Z h0 mN26 B0g 4 (Option.some FieldType.int) ws (own_R 1 0 0 14) #[(.int 16), (.int 1), (.int 18)] (fun v h L => (v = some (.int 34) ∧ Fr n0 L ∧ h = h0)) 0 0 := own_go own_pn26 fun p e s m below meth c s₁ hns hrt hnm hml hZ hx hby hown X1 e0 => by
 have N0 := Fr.nil n0
 refine own_cast (own_ef14 m 16 1 18) ?_
 refine oIN X1 hx hby dd26_0 rfl ?_
 refine oIN X1 hx hby dd26_1 rfl ?_
 refine oIN X1 hx hby dd26_2 rfl ?_
 refine own_cS X1 hx hZ hown e0 (y := mN25) (hw 243) (hw 244) (hw 245) (hw 246) (by decide) (W := 1) (own_rm52 l Z a0 hw []  h0 n0 Z0 O0 ) [(.int 1), (.int 18)] [(.int 16)] hml (lenOf own_pd22 rfl) (hb hby dd26_3) fun T0 h1 v0 L0 X0 e1 q0 => ?_
 obtain ⟨rfl, N1, K0⟩ := q0
 have N2 := Fr.app N0 N1
 have e2 := e1.trans K0
 refine oS (fun _ => XS.iadd X0.here hx rfl (hb hby dd26_6) rfl) ?_
 refine oISN X0 hx hby dd26_7 (l' := #[iv 16, iv 1, iv 18, iv 34]) rfl ?_
 refine oIC X0 hx hby dd26_8 ?_
 refine oIN X0 hx hby dd26_9 rfl ?_
 refine oNI X0 hx hby dd26_10 (XT.ii_ge_f (by decide)) ?_
 refine oIN X0 hx hby dd26_13 rfl ?_
 show own_G p e below (T0.setTop (mkF m 14 #[iv 16, iv 1, iv 18, iv 34] [(.int 34)])) _
 refine oS (fun _ => X0.ldcI hx hown (mvT hZ (hw 247)) rfl (hb hby dd26_14)) ?_
 refine oNI X0 hx hby dd26_16 (XT.ii_gt_f (by decide)) ?_
 refine oIN X0 hx hby dd26_19 rfl ?_
 exact own_retI X0 hx hns hrt (hb hby dd26_20) e2 (by decide) (by decide) (⟨rfl, N2, rfl⟩)
theorem own_pd23 : parseMethodDescriptor "(III)I" = some ⟨[.int, .int, .int], (some .int)⟩ := by decide +kernel
theorem dd25_29 : decode B0f 29 = .ok (.invokestatic 114, 3) := by decide +kernel
theorem dd25_32 : decode B0f 32 = .ok (.istore 5, 2) := by decide +kernel
theorem dd25_34 : decode B0f 34 = .ok (.iload 5, 2) := by decide +kernel
theorem dd25_36 : decode B0f 36 = .ok (.ldc 39, 2) := by decide +kernel
theorem dd25_38 : decode B0f 38 = .ok (.if_icmp .ne 13, 3) := by decide +kernel
theorem dd25_51 : decode B0f 51 = .ok (.iload 5, 2) := by decide +kernel
theorem dd25_53 : decode B0f 53 = .ok (.aload_n 0, 1) := by decide +kernel
theorem dd25_54 : decode B0f 54 = .ok (.getfield 22, 3) := by decide +kernel
theorem dd25_57 : decode B0f 57 = .ok (.ishr, 1) := by decide +kernel
theorem dd25_58 : decode B0f 58 = .ok (.ireturn, 1) := by decide +kernel
theorem own_pn27 : plainFor mN27 = true := by decide +kernel
theorem own_rm50 (l : Launch) (Z : State) (a0 : Array Value) (hw : own_W a0 Z) (ws : List Jvm.Cond) (i0 : Int32) (m0 : ClassId) (o0 o1 : Nat) (h0 : Heap) (n0 : Nat) (Z0 : n0 ≤ h0.size) (O0 : Old Z n0 h0) (I1 : Fld Z h0 o0 cN3 "value" "[B" (.ref o1)) (I2 : Arv Z h0 o1 m0 .byte 16 [(.int (i0.toInt8.toInt32)), (.int 0), (.int 0), (.int 0), (.int 0), (.int 0), (.int 0), (.int 0), (.int 0), (.int 0), (.int 0), (.int 0), (.int 0), (.int 0), (.int 0), (.int 0)] (.int 0)) (I0 : Fld Z h0 o0 cN3 "coder" "B" (.int 0)) :
 own_Met l Z h0 mN27 B0f 6 (Option.some FieldType.int) ws (own_R 2 0 0 29) #[(.ref o0), (.int 17)] (fun v h L => (v = some (.int 34) ∧ Fr n0 L ∧ h = h0)) 0 0 := own_go own_pn27 fun p e s m below meth c s₁ hns hrt hnm hml hZ hx hby hown X4 e1 => by
 have N0 := Fr.nil n0
 refine own_cast (own_ef13 m o0 17) ?_
 refine oAN X4 hx hby dd25_0 rfl rfl ?_
 refine own_gF X4 hx hZ hown (hw 43) e1 I1 (hb hby dd25_1) fun T3 X2 e0 => ?_
 refine oS (own_len X2 hx hZ e0 I2 rfl rfl (hb hby dd25_4)) ?_
 refine oISN X2 hx hby dd25_5 (l' := #[rv o0, iv 17, iv 16, .unset, .unset, .unset]) rfl ?_
 refine oIN X2 hx hby dd25_6 rfl ?_
 refine oAN X2 hx hby dd25_7 rfl rfl ?_
 refine own_gF X2 hx hZ hown (hw 45) e0 I0 (hb hby dd25_8) fun T0 X0 e2 => ?_
 refine oS (fun _ => XT.ishl X0.here hx rfl (hb hby dd25_11) rfl) ?_
 refine oISN X0 hx hby dd25_12 (l' := #[rv o0, iv 17, iv 16, iv 17, .unset, .unset]) rfl ?_
 refine oIN X0 hx hby dd25_13 rfl ?_
 show own_G p e below (T0.setTop (mkF m 14 #[rv o0, iv 17, iv 16, iv 17, .unset, .unset] [(.int 17)])) _
 refine oIN X0 hx hby dd25_14 rfl ?_
 refine oS (fun _ => XS.isub X0.here hx rfl (hb hby dd25_15) rfl) ?_
 refine oIS X0 hx hby dd25_16 (l' := #[rv o0, iv 17, iv 16, iv 17, iv 1, .unset]) rfl ?_
 refine oIN X0 hx hby dd25_18 rfl ?_
 refine oIL X0 hx hby dd25_19 rfl ?_
 refine oIN X0 hx hby dd25_21 rfl ?_
 refine oIC X0 hx hby dd25_22 ?_
 refine oAN X0 hx hby dd25_23 rfl rfl ?_
 refine own_gF X0 hx hZ hown (hw 45) e2 I0 (hb hby dd25_24) fun T1 X3 e3 => ?_
 refine oS (fun _ => XT.ishl X3.here hx rfl (hb hby dd25_27) rfl) ?_
 show own_G p e below (T1.setTop (mkF m 28 #[rv o0, iv 17, iv 16, iv 17, iv 1, .unset] [(.int 2), (.int 16), (.int 1), (.int 16)])) _
 refine oS (fun _ => XS.iadd X3.here hx rfl (hb hby dd25_28) rfl) ?_
 refine own_cS X3 hx hZ hown e3 (y := mN26) (hw 239) (hw 240) (hw 241) (hw 242) (by decide) (W := 0) (own_rm51 l Z a0 hw []  h0 n0 Z0 O0 ) [(.int 16), (.int 1), (.int 18)] [] hml (lenOf own_pd23 rfl) (hb hby dd25_29) fun T4 h1 v0 L0 X1 e4 q0 => ?_
 obtain ⟨rfl, N1, K0⟩ := q0
 have N2 := Fr.app N0 N1
 have e5 := e4.trans K0
 refine oIS X1 hx hby dd25_32 (l' := #[rv o0, iv 17, iv 16, iv 17, iv 1, iv 34]) rfl ?_
 refine oIL X1 hx hby dd25_34 rfl ?_
 refine oS (fun _ => X1.ldcI hx hown (mvT hZ (hw 248)) rfl (hb hby dd25_36)) ?_
 refine oYI X1 hx hby (pc' := 51) dd25_38 (XT.ii_ne_t (by decide)) ?_
 refine oIL X1 hx hby dd25_51 rfl ?_
 refine oAN X1 hx hby dd25_53 rfl rfl ?_
 refine own_gF X1 hx hZ hown (hw 45) e5 I0 (hb hby dd25_54) fun T2 X5 e6 => ?_
 refine oS (fun _ => XT.ishr X5.here hx rfl (hb hby dd25_57) rfl) ?_
 show own_G p e below (T2.setTop (mkF m 58 #[rv o0, iv 17, iv 16, iv 17, iv 1, iv 34] [(.int 34)])) _
 exact own_retI X5 hx hns hrt (hb hby dd25_58) e6 (by decide) (by decide) (⟨rfl, N2, rfl⟩)
theorem own_pd24 : parseMethodDescriptor "(I)I" = some ⟨[.int], (some .int)⟩ := by decide +kernel
theorem dd9_24 : decode B9 24 = .ok (.invokevirtual 104, 3) := by decide +kernel
theorem dd9_27 : decode B9 27 = .ok (.aload_n 0, 1) := by decide +kernel
theorem dd9_28 : decode B9 28 = .ok (.getfield 22, 3) := by decide +kernel
theorem dd9_31 : decode B9 31 = .ok (.ishl, 1) := by decide +kernel
theorem dd28_0 : decode B0i 0 = .ok (.iload_n 1, 1) := by decide +kernel
theorem dd28_1 : decode B0i 1 = .ok (.aload_n 0, 1) := by decide +kernel
theorem dd28_2 : decode B0i 2 = .ok (.arraylength, 1) := by decide +kernel
theorem dd28_3 : decode B0i 3 = .ok (.if_icmp .ne 11, 3) := by decide +kernel
theorem dd28_14 : decode B0i 14 = .ok (.iload_n 1, 1) := by decide +kernel
theorem dd28_15 : decode B0i 15 = .ok (.newarray .byte, 2) := by decide +kernel
theorem dd28_17 : decode B0i 17 = .ok (.astore_n 2, 1) := by decide +kernel
theorem dd28_18 : decode B0i 18 = .ok (.aload_n 0, 1) := by decide +kernel
theorem dd28_19 : decode B0i 19 = .ok (.iconst 0, 1) := by decide +kernel
theorem dd28_20 : decode B0i 20 = .ok (.aload_n 2, 1) := by decide +kernel
theorem dd28_21 : decode B0i 21 = .ok (.iconst 0, 1) := by decide +kernel
theorem dd28_22 : decode B0i 22 = .ok (.aload_n 0, 1) := by decide +kernel
theorem dd28_23 : decode B0i 23 = .ok (.arraylength, 1) := by decide +kernel
theorem dd28_24 : decode B0i 24 = .ok (.iload_n 1, 1) := by decide +kernel
theorem dd29_0 : decode B0j 0 = .ok (.iload_n 0, 1) := by decide +kernel
theorem dd29_1 : decode B0j 1 = .ok (.iload_n 1, 1) := by decide +kernel
theorem dd29_2 : decode B0j 2 = .ok (.if_icmp .gt 7, 3) := by decide +kernel
theorem dd29_5 : decode B0j 5 = .ok (.iload_n 0, 1) := by decide +kernel
theorem dd29_6 : decode B0j 6 = .ok (.goto 4, 3) := by decide +kernel
theorem dd29_10 : decode B0j 10 = .ok (.ireturn, 1) := by decide +kernel
theorem own_pn28 : plainFor mN28 = true := by decide +kernel
theorem own_rm54 (l : Launch) (Z : State) (a0 : Array Value) (hw : own_W a0 Z) (ws : List Jvm.Cond)  (h0 : Heap) (n0 : Nat) (Z0 : n0 ≤ h0.size) (O0 : Old Z n0 h0)  :
 own_Met l Z h0 mN28 B0j 2 (Option.some FieldType.int) ws (own_R 0 0 0 0) #[(.int 16), (.int 34)] (fun v h L => (v = some (.int 16) ∧ Fr n0 L ∧ h = h0)) 0 0 := own_go own_pn28 fun p e s m below meth c s₁ hns hrt hnm hml hZ hx hby hown X0 e0 => by
 have N0 := Fr.nil n0
 refine own_cast (own_ef15 m 16 34) ?_
 refine oIN X0 hx hby dd29_0 rfl ?_
 refine oIN X0 hx hby dd29_1 rfl ?_
 refine oNI X0 hx hby dd29_2 (XT.ii_gt_f (by decide)) ?_
 refine oIN X0 hx hby dd29_5 rfl ?_
 refine oGO X0 hx hby (pc' := 10) dd29_6 ?_
 exact own_retI X0 hx hns hrt (hb hby dd29_10) e0 (by decide) (by decide) (⟨rfl, N0, rfl⟩)
theorem dd28_25 : decode B0i 25 = .ok (.invokestatic 304, 3) := by decide +kernel
theorem dd28_28 : decode B0i 28 = .ok (.invokestatic 150, 3) := by decide +kernel
theorem dd28_31 : decode B0i 31 = .ok (.aload_n 2, 1) := by decide +kernel
theorem dd28_32 : decode B0i 32 = .ok (.areturn, 1) := by decide +kernel
theorem own_pn29 : plainFor mN29 = true := by decide +kernel
theorem own_rm53 (l : Launch) (Z : State) (a0 : Array Value) (hw : own_W a0 Z) (ws : List Jvm.Cond) (i0 : Int32) (m1 : ClassId) (o1 : Nat) (h0 : Heap) (n0 : Nat) (Z1 : n0 ≤ h0.size) (O0 : Old Z n0 h0) (I0 : Arv Z h0 o1 m1 .byte 16 [(.int (i0.toInt8.toInt32)), (.int 0), (.int 0), (.int 0), (.int 0), (.int 0), (.int 0), (.int 0), (.int 0), (.int 0), (.int 0), (.int 0), (.int 0), (.int 0), (.int 0), (.int 0)] (.int 0)) :
 own_Met l Z h0 mN29 B0i 3 (Option.some (FieldType.array FieldType.byte)) ws (own_R 1 1 34 18) #[(.ref o1), (.int 34)] (fun v h L => (∃ o0 : Nat, ∃ m0 : ClassId, v = some (.ref o0) ∧ Fr n0 L ∧ Keep h0 h [] ∧ h0.size ≤ o0 ∧ Arv Z h o0 m0 .byte 34 [(.int (i0.toInt8.toInt32)), (.int 0), (.int 0), (.int 0), (.int 0), (.int 0), (.int 0), (.int 0), (.int 0), (.int 0), (.int 0), (.int 0), (.int 0), (.int 0), (.int 0), (.int 0), (.int 0), (.int 0), (.int 0), (.int 0), (.int 0), (.int 0), (.int 0), (.int 0), (.int 0), (.int 0), (.int 0), (.int 0), (.int 0), (.int 0), (.int 0), (.int 0), (.int 0), (.int 0)] (.int 0) ∧ Exa Z h o0 "[B" ∧ @LT.lt Nat instLTNat o0 h.size)) 1 34 := own_go own_pn29 fun p e s m below meth c s₁ hns hrt hnm hml hZ hx hby hown X1 e0 => by
 have N0 := Fr.nil n0
 refine own_cast (own_ef6 m o1 34) ?_
 refine oIN X1 hx hby dd28_0 rfl ?_
 refine oAN X1 hx hby dd28_1 rfl rfl ?_
 refine oS (own_len X1 hx hZ e0 I0 rfl rfl (hb hby dd28_2)) ?_
 refine oYI X1 hx hby (pc' := 14) dd28_3 (XT.ii_ne_t (by decide)) ?_
 refine oIN X1 hx hby dd28_14 rfl ?_
 obtain ⟨T0, h1, m0, X0, e1, E0, A0, B0, s0⟩ := own_newP X1 hx hZ (aty := .byte) (hw 15) e0 (nm := "[B") rfl (g := (mkF m 15 #[rv o1, iv 34, .unset] [(.int 34)])) rfl (hb hby dd28_15) (n := 34) (rest := []) rfl (by decide) (cap := 34) (by decide) (by decide) (by decide) (by decide)
 obtain ⟨o0, g0⟩ : ∃ z, z = h0.size := ⟨_, rfl⟩
 rw [← g0] at A0 B0 s0
 have F0 : Arv Z h1 o0 m0 .byte 34 [(.int 0), (.int 0), (.int 0), (.int 0), (.int 0), (.int 0), (.int 0), (.int 0), (.int 0), (.int 0), (.int 0), (.int 0), (.int 0), (.int 0), (.int 0), (.int 0), (.int 0), (.int 0), (.int 0), (.int 0), (.int 0), (.int 0), (.int 0), (.int 0), (.int 0), (.int 0), (.int 0), (.int 0), (.int 0), (.int 0), (.int 0), (.int 0), (.int 0), (.int 0)] (.int 0) := own_newA A0 (by decide) rfl rfl
 have z0 := E0.1
 have y1 : @LT.lt Nat instLTNat o0 h1.size := F0.lt
 refine oS s0 ?_
 refine oASN X0 hx hby dd28_17 rfl (l' := #[rv o1, iv 34, rv o0]) rfl ?_
 refine oAN X0 hx hby dd28_18 rfl rfl ?_
 refine oIC X0 hx hby dd28_19 ?_
 refine oAN X0 hx hby dd28_20 rfl rfl ?_
 show own_G p e below (T0.setTop (mkF m 21 #[rv o1, iv 34, rv o0] [(.ref o0), (.int 0), (.ref o1)])) _
 refine oIC X0 hx hby dd28_21 ?_
 refine oAN X0 hx hby dd28_22 rfl rfl ?_
 have F1 := I0.ext E0
 refine oS (own_len X0 hx hZ e1 F1 rfl rfl (hb hby dd28_23)) ?_
 refine oIN X0 hx hby dd28_24 rfl ?_
 have O1 : Old Z n0 h1 := O0.ext E0
 have Z0 : n0 ≤ h1.size := by omega
 refine own_cS X0 hx hZ hown e1 (y := mN28) (hw 252) (hw 253) (hw 245) (hw 254) (by decide) (W := 4) (own_rm54 l Z a0 hw []  h1 n0 Z0 O1 ) [(.int 16), (.int 34)] [(.int 0), (.ref o0), (.int 0), (.ref o1)] hml (lenOf own_pd22 rfl) (hb hby dd28_25) fun T1 h3 v0 L0 X3 e2 q0 => ?_
 obtain ⟨rfl, N1, K1⟩ := q0
 have N2 := Fr.app N0 N1
 have e3 := e2.trans K1
 have N3 : n0 ≤ o0 := by omega
 obtain ⟨T2, h2, L1, X2, e4, N4, K0, A1, s1⟩ := cpA X3 hx hZ hown (hw 255) (hw 94) (hw 92) (hw 93) e3 F1 F0 (us := [(.int (i0.toInt8.toInt32)), (.int 0), (.int 0), (.int 0), (.int 0), (.int 0), (.int 0), (.int 0), (.int 0), (.int 0), (.int 0), (.int 0), (.int 0), (.int 0), (.int 0), (.int 0)]) (Or.inl ⟨rfl, rfl⟩) (by decide) (by decide) (by decide) (by decide) (by decide) rfl (Nat.le_of_ble_eq_true rfl) N2 N3 (g := (mkF m 28 #[rv o1, iv 34, rv o0] [(.int 16), (.int 0), (.ref o0), (.int 0), (.ref o1)])) rfl (by rw [hml]; rfl) (rest := []) rfl (hb hby dd28_28) (by decide) (W := 0) (by show 2 * 0 + _ ≤ _; exact Nat.le_of_eq rfl) (by decide)
 have z1 := K0.1
 have F2 : Arv Z h2 o0 m0 .byte 34 [(.int (i0.toInt8.toInt32)), (.int 0), (.int 0), (.int 0), (.int 0), (.int 0), (.int 0), (.int 0), (.int 0), (.int 0), (.int 0), (.int 0), (.int 0), (.int 0), (.int 0), (.int 0), (.int 0), (.int 0), (.int 0), (.int 0), (.int 0), (.int 0), (.int 0), (.int 0), (.int 0), (.int 0), (.int 0), (.int 0), (.int 0), (.int 0), (.int 0), (.int 0), (.int 0), (.int 0)] (.int 0) := A1
 refine oS s1 ?_
 refine oAN X2 hx hby dd28_31 rfl rfl ?_
 have F3 := B0.keep K0
 have y0 : @LT.lt Nat instLTNat o0 h2.size := by omega
 have K2 : Keep h0 h2 [] := (((Keep.refl h0 []).ext E0).trans K0 (allS (Or.inr (by omega)) all0))
 exact own_retA X2 hx hns hrt rfl rfl (hb hby dd28_32) e4 (by decide) (by decide) (⟨o0, m0, rfl, N4, K2, (by omega), F2, F3, y0⟩)
theorem own_pd25 : parseMethodDescriptor "([BI)[B" = some ⟨[(.array .byte), .int], (some (.array .byte))⟩ := by decide +kernel
theorem dd9_32 : decode B9 32 = .ok (.invokestatic 108, 3) := by decide +kernel
theorem dd9_35 : decode B9 35 = .ok (.putfield 15, 3) := by decide +kernel
theorem own_rm49 (l : Launch) (Z : State) (a0 : Array Value) (hw : own_W a0 Z) (ws : List Jvm.Cond) (i0 : Int32) (m0 : ClassId) (o0 o2 : Nat) (h0 : Heap) (n0 : Nat) (Z0 : n0 ≤ h0.size) (O0 : Old Z n0 h0) (I0 : Fld Z h0 o0 cN3 "value" "[B" (.ref o2)) (I2 : Arv Z h0 o2 m0 .byte 16 [(.int (i0.toInt8.toInt32)), (.int 0), (.int 0), (.int 0), (.int 0), (.int 0), (.int 0), (.int 0), (.int 0), (.int 0), (.int 0), (.int 0), (.int 0), (.int 0), (.int 0), (.int 0)] (.int 0)) (I1 : Fld Z h0 o0 cN3 "coder" "B" (.int 0)) (I3 : Exa Z h0 o0 cN4) (I4 : n0 ≤ o0) (I5 : Fld Z h0 o0 cN3 "count" "I" (.int 1)) (I6 : @LT.lt Nat instLTNat o0 h0.size) :
 own_Met l Z h0 mN6 B9 3 (Option.none : Option FieldType) ws (own_R 3 1 34 48) #[(.ref o0), (.int 17)] (fun v h L => (∃ o1 : Nat, ∃ m1 : ClassId, v = none ∧ Fr n0 L ∧ Keep h0 h [o0] ∧ h0.size ≤ o1 ∧ Fld Z h o0 cN3 "value" "[B" (.ref o1) ∧ Exa Z h o0 cN4 ∧ Fld Z h o0 cN3 "coder" "B" (.int 0) ∧ Fld Z h o0 cN3 "count" "I" (.int 1) ∧ Arv Z h o1 m1 .byte 34 [(.int (i0.toInt8.toInt32)), (.int 0), (.int 0), (.int 0), (.int 0), (.int 0), (.int 0), (.int 0), (.int 0), (.int 0), (.int 0), (.int 0), (.int 0), (.int 0), (.int 0), (.int 0), (.int 0), (.int 0), (.int 0), (.int 0), (.int 0), (.int 0), (.int 0), (.int 0), (.int 0), (.int 0), (.int 0), (.int 0), (.int 0), (.int 0), (.int 0), (.int 0), (.int 0), (.int 0)] (.int 0) ∧ Exa Z h o1 "[B" ∧ @LT.lt Nat instLTNat o1 h.size)) 1 34 := own_go own_pn6 fun p e s m below meth c s₁ hns hrt hnm hml hZ hx hby hown X3 e1 => by
 have N0 := Fr.nil n0
 refine own_cast (own_ef6 m o0 17) ?_
 refine oAN X3 hx hby dd9_0 rfl rfl ?_
 refine own_gF X3 hx hZ hown (hw 43) e1 I0 (hb hby dd9_1) fun T2 X1 e0 => ?_
 refine oS (own_len X1 hx hZ e0 I2 rfl rfl (hb hby dd9_4)) ?_
 refine oAN X1 hx hby dd9_5 rfl rfl ?_
 refine own_gF X1 hx hZ hown (hw 45) e0 I1 (hb hby dd9_6) fun T0 X0 e2 => ?_
 refine oS (fun _ => XT.ishr X0.here hx rfl (hb hby dd9_9) rfl) ?_
 refine oISN X0 hx hby dd9_10 (l' := #[rv o0, iv 17, iv 16]) rfl ?_
 refine oIN X0 hx hby dd9_11 rfl ?_
 refine oIN X0 hx hby dd9_12 rfl ?_
 refine oS (fun _ => XS.isub X0.here hx rfl (hb hby dd9_13) rfl) ?_
 show own_G p e below (T0.setTop (mkF m 14 #[rv o0, iv 17, iv 16] [(.int 1)])) _
 refine oN0 X0 hx hby dd9_14 (XT.i0_le_f (by decide)) ?_
 refine oAN X0 hx hby dd9_17 rfl rfl ?_
 refine oAN X0 hx hby dd9_18 rfl rfl ?_
 refine own_gF X0 hx hZ hown (hw 43) e2 I0 (hb hby dd9_19) fun T3 X2 e3 => ?_
 refine oAN X2 hx hby dd9_22 rfl rfl ?_
 refine oIN X2 hx hby dd9_23 rfl ?_
 refine own_cP X2 hx hZ hown e3 (y := mN27) (b := o0) (hw 234) (hw 235) (own_selP (hw 235) (hw 236) (hw 73) rfl (by decide)) (hw 236) (hw 39) (hw 238) (by decide) I3 (W := 2) (own_rm50 l Z a0 hw [] i0 m0 o0 o2 h0 n0 Z0 O0 I0 I2 I1) [(.int 17)] [(.ref o2), (.ref o0)] hml (lenOf own_pd24 rfl) (hb hby dd9_24) fun T4 h2 v0 L0 X4 e4 q0 => ?_
 obtain ⟨rfl, N1, K1⟩ := q0
 have N2 := Fr.app N0 N1
 have e5 := e4.trans K1
 refine oAN X4 hx hby dd9_27 rfl rfl ?_
 refine own_gF X4 hx hZ hown (hw 45) e5 I1 (hb hby dd9_28) fun T1 X5 e6 => ?_
 refine oS (fun _ => XT.ishl X5.here hx rfl (hb hby dd9_31) rfl) ?_
 show own_G p e below (T1.setTop (mkF m 32 #[rv o0, iv 17, iv 16] [(.int 34), (.ref o2), (.ref o0)])) _
 refine own_cS X5 hx hZ hown e6 (y := mN29) (hw 249) (hw 250) (hw 128) (hw 251) (by decide) (W := 1) (own_rm53 l Z a0 hw [] i0 m0 o2 h0 n0 Z0 O0 I2) [(.ref o2), (.int 34)] [(.ref o0)] hml (lenOf own_pd25 rfl) (hb hby dd9_32) fun T5 h3 v1 L1 X7 e7 q1 => ?_
 obtain ⟨o1, m1, rfl, N3, K0, F00, F2, F3, F01⟩ := q1
 have N4 := Fr.app N2 N3
 have z0 := K0.1
 have F0 := I0.keep K0 nin0
 have F1 := I3.keep K0
 refine own_pF X7 hx hZ hown (hw 43) e7 F0 F1 (Or.inl (hw 44)) (hw 30) (ty := (.array .byte)) rfl rfl (hb hby dd9_35) fun T6 h1 X6 e8 W0 => ?_
 have N5 := Fr.snoc X6 N4 I4
 have z1 := W0.size
 have F4 := Fld.same W0 F0
 have F5 := Exa.wr W0 F1
 have F6 := Fld.other W0 (I1.keep K0 nin0) (Or.inr (slot_ne (C := cN4) (Or.inl (hw 46)) (Or.inl (hw 44)) (by decide) (t := .byte) (t' := (.array .byte)) (by decide) (by decide)))
 have F7 := Fld.other W0 (I5.keep K0 nin0) (Or.inr (slot_ne (C := cN4) (Or.inl (hw 69)) (Or.inl (hw 44)) (by decide) (t := .int) (t' := (.array .byte)) (by decide) (by decide)))
 have N6 : @Ne Nat o1 o0 := by omega
 have F8 := F2.other W0 N6
 have F9 := Exa.wr W0 F3
 have y0 : @LT.lt Nat instLTNat o1 h1.size := by omega
 have K2 : Keep h0 h1 [o0] := (((Keep.refl h0 [o0]).trans K0 all0).wr W0 (Or.inl (by simp)))
 exact own_retV X6 hx hns hrt (hb hby dd9_38) e8 (by decide) (by decide) (⟨o1, m1, rfl, N5, K2, (by omega), F4, F5, F6, F7, F8, F9, y0⟩)
theorem own_rm56 (l : Launch) (Z : State) (a0 : Array Value) (hw : own_W a0 Z) (ws : List Jvm.Cond) (i0 i1 : Int32) (m1 m0 : ClassId) (o1 o0 o2 : Nat) (h0 : Heap) (n0 : Nat) (Z0 : n0 ≤ h0.size) (O0 : Old Z n0 h0) (I2 : Sta Z Z.heap cN2 "COMPACT_STRINGS" "Z" (.int i0)) (I3 : ¬ (i0 = 0)) (I4 : Fld Z h0 o1 cN2 "coder" "B" (.int 0)) (I5 : Exa Z h0 o1 cN2) (I0 : Fld Z h0 o1 cN2 "value" "[B" (.ref o2)) (I1 : Arv Z h0 o2 m1 .byte 16 [(.int 58), (.int 32), (.int 110), (.int 111), (.int 116), (.int 32), (.int 85), (.int 84), (.int 70), (.int 45), (.int 56), (.int 32), (.int 116), (.int 101), (.int 120), (.int 116)] (.int 0)) (I6 : Arv Z h0 o0 m0 .byte 34 [(.int (i1.toInt8.toInt32)), (.int 0), (.int 0), (.int 0), (.int 0), (.int 0), (.int 0), (.int 0), (.int 0), (.int 0), (.int 0), (.int 0), (.int 0), (.int 0), (.int 0), (.int 0), (.int 0), (.int 0), (.int 0), (.int 0), (.int 0), (.int 0), (.int 0), (.int 0), (.int 0), (.int 0), (.int 0), (.int 0), (.int 0), (.int 0), (.int 0), (.int 0), (.int 0), (.int 0)] (.int 0)) (I7 : n0 ≤ o0) (I8 : Exa Z h0 o0 "[B") :
 own_Met l Z h0 mN8 B02 4 (Option.none : Option FieldType) ws (own_R 1 0 0 18) #[(.ref o1), (.ref o0), (.int 1), (.int 0)] (fun v h L => (v = none ∧ Fr n0 L ∧ Keep h0 h [o0] ∧ Arv Z h o0 m0 .byte 34 [(.int (i1.toInt8.toInt32)), (.int 58), (.int 32), (.int 110), (.int 111), (.int 116), (.int 32), (.int 85), (.int 84), (.int 70), (.int 45), (.int 56), (.int 32), (.int 116), (.int 101), (.int 120), (.int 116), (.int 0), (.int 0), (.int 0), (.int 0), (.int 0), (.int 0), (.int 0), (.int 0), (.int 0), (.int 0), (.int 0), (.int 0), (.int 0), (.int 0), (.int 0), (.int 0), (.int 0)] (.int 0) ∧ Exa Z h o0 "[B")) 0 0 := own_go own_pn8 fun p e s m below meth c s₁ hns hrt hnm hml hZ hx hby hown X2 e1 => by
 have N0 := Fr.nil n0
 refine own_cast (own_ef8 m o1 o0 1 0) ?_
 refine oAN X2 hx hby dd12_0 rfl rfl ?_
 refine own_cV X2 hx hZ hown e1 (y := mN4) (z := mN4) (b := o1) (hw 62) (hw 63) (notFace_of_selects (args := #[]) (mvT hZ (hw 65))) (hw 65) (hw 64) (hw 3) (hw 66) (by decide) I5 (W := 0) (own_rm13 l Z a0 hw [] i0 o1 h0 n0 Z0 O0 I2 I3 I4) [] [] hml (lenOf own_pd4 rfl) (hb hby dd12_1) fun T1 h2 v0 L0 X1 e2 q0 => ?_
 obtain ⟨rfl, N1, K1⟩ := q0
 have N2 := Fr.app N0 N1
 have e3 := e2.trans K1
 refine oIN X1 hx hby dd12_4 rfl ?_
 refine oNI X1 hx hby dd12_5 (XT.ii_ne_f (by decide)) ?_
 refine oAN X1 hx hby dd12_8 rfl rfl ?_
 refine own_gF X1 hx hZ hown (hw 20) e3 I0 (hb hby dd12_9) fun T0 X0 e4 => ?_
 refine oIC X0 hx hby dd12_12 ?_
 refine oAN X0 hx hby dd12_13 rfl rfl ?_
 refine oIN X0 hx hby dd12_14 rfl ?_
 refine oIN X0 hx hby dd12_15 rfl ?_
 show own_G p e below (T0.setTop (mkF m 16 #[rv o1, rv o0, iv 1, iv 0] [(.int 0), (.int 1), (.ref o0), (.int 0), (.ref o2)])) _
 refine oS (fun _ => XT.ishl X0.here hx rfl (hb hby dd12_16) rfl) ?_
 refine oAN X0 hx hby dd12_17 rfl rfl ?_
 refine own_gF X0 hx hZ hown (hw 20) e4 I0 (hb hby dd12_18) fun T2 X3 e0 => ?_
 refine oS (own_len X3 hx hZ e0 I1 rfl rfl (hb hby dd12_21)) ?_
 obtain ⟨T3, h1, L1, X4, e5, N3, K0, A0, s0⟩ := cpA X3 hx hZ hown (hw 91) (hw 94) (hw 92) (hw 93) e0 I1 I6 (us := [(.int 58), (.int 32), (.int 110), (.int 111), (.int 116), (.int 32), (.int 85), (.int 84), (.int 70), (.int 45), (.int 56), (.int 32), (.int 116), (.int 101), (.int 120), (.int 116)]) (Or.inl ⟨rfl, rfl⟩) (by decide) (by decide) (by decide) (by decide) (by decide) rfl (Nat.le_of_ble_eq_true rfl) N2 I7 (g := (mkF m 22 #[rv o1, rv o0, iv 1, iv 0] [(.int 16), (.int 1), (.ref o0), (.int 0), (.ref o2)])) rfl (by rw [hml]; rfl) (rest := []) rfl (hb hby dd12_22) (by decide) (W := 0) (by show 2 * 0 + _ ≤ _; exact Nat.le_of_eq rfl) (by decide)
 have z0 := K0.1
 have F0 : Arv Z h1 o0 m0 .byte 34 [(.int (i1.toInt8.toInt32)), (.int 58), (.int 32), (.int 110), (.int 111), (.int 116), (.int 32), (.int 85), (.int 84), (.int 70), (.int 45), (.int 56), (.int 32), (.int 116), (.int 101), (.int 120), (.int 116), (.int 0), (.int 0), (.int 0), (.int 0), (.int 0), (.int 0), (.int 0), (.int 0), (.int 0), (.int 0), (.int 0), (.int 0), (.int 0), (.int 0), (.int 0), (.int 0), (.int 0)] (.int 0) := A0
 refine oS s0 ?_
 refine oGO X4 hx hby (pc' := 43) dd12_25 ?_
 have F1 := I8.keep K0
 have K2 : Keep h0 h1 [o0] := ((Keep.refl h0 [o0]).trans K0 (allS (Or.inl (by simp)) all0))
 exact own_retV X4 hx hns hrt (hb hby dd12_43) e5 (by decide) (by decide) (⟨rfl, N3, K2, F0, F1⟩)
theorem own_rm55 (l : Launch) (Z : State) (a0 : Array Value) (hw : own_W a0 Z) (ws : List Jvm.Cond) (i0 i1 : Int32) (m1 m0 : ClassId) (o2 o1 o0 o3 : Nat) (h0 : Heap) (n0 : Nat) (Z0 : n0 ≤ h0.size) (O0 : Old Z n0 h0) (I1 : Sta Z Z.heap cN2 "COMPACT_STRINGS" "Z" (.int i0)) (I2 : ¬ (i0 = 0)) (I3 : Fld Z h0 o2 cN3 "coder" "B" (.int 0)) (I4 : Fld Z h0 o1 cN2 "coder" "B" (.int 0)) (I0 : Exa Z h0 o1 cN2) (I5 : Exa Z h0 o2 cN4) (I6 : Fld Z h0 o2 cN3 "value" "[B" (.ref o0)) (I7 : Fld Z h0 o1 cN2 "value" "[B" (.ref o3)) (I8 : Arv Z h0 o3 m1 .byte 16 [(.int 58), (.int 32), (.int 110), (.int 111), (.int 116), (.int 32), (.int 85), (.int 84), (.int 70), (.int 45), (.int 56), (.int 32), (.int 116), (.int 101), (.int 120), (.int 116)] (.int 0)) (I9 : Arv Z h0 o0 m0 .byte 34 [(.int (i1.toInt8.toInt32)), (.int 0), (.int 0), (.int 0), (.int 0), (.int 0), (.int 0), (.int 0), (.int 0), (.int 0), (.int 0), (.int 0), (.int 0), (.int 0), (.int 0), (.int 0), (.int 0), (.int 0), (.int 0), (.int 0), (.int 0), (.int 0), (.int 0), (.int 0), (.int 0), (.int 0), (.int 0), (.int 0), (.int 0), (.int 0), (.int 0), (.int 0), (.int 0), (.int 0)] (.int 0)) (I00 : n0 ≤ o0) (I01 : Exa Z h0 o0 "[B") :
 own_Met l Z h0 mN9 B00 3 (Option.none : Option FieldType) ws (own_R 2 0 0 33) #[(.ref o2), (.int 1), (.ref o1)] (fun v h L => (v = none ∧ Fr n0 L ∧ Keep h0 h [o0] ∧ Arv Z h o0 m0 .byte 34 [(.int (i1.toInt8.toInt32)), (.int 58), (.int 32), (.int 110), (.int 111), (.int 116), (.int 32), (.int 85), (.int 84), (.int 70), (.int 45), (.int 56), (.int 32), (.int 116), (.int 101), (.int 120), (.int 116), (.int 0), (.int 0), (.int 0), (.int 0), (.int 0), (.int 0), (.int 0), (.int 0), (.int 0), (.int 0), (.int 0), (.int 0), (.int 0), (.int 0), (.int 0), (.int 0), (.int 0)] (.int 0) ∧ Exa Z h o0 "[B")) 0 0 := own_go own_pn9 fun p e s m below meth c s₁ hns hrt hnm hml hZ hx hby hown X0 e0 => by
 have N0 := Fr.nil n0
 refine own_cast (own_ef7 m o2 1 o1) ?_
 refine oAN X0 hx hby dd10_0 rfl rfl ?_
 refine oAN X0 hx hby dd10_1 rfl rfl ?_
 refine own_cP X0 hx hZ hown e0 (y := mN7) (b := o2) (hw 80) (hw 81) (own_selP (hw 81) (hw 82) (hw 73) rfl (by decide)) (hw 82) (hw 39) (hw 84) (by decide) I5 (W := 0) (own_rm16 l Z a0 hw [] i0 o2 o1 h0 n0 Z0 O0 I1 I2 I3 I4 I0) [(.ref o1)] [] hml (lenOf own_pd6 rfl) (hb hby dd10_2) fun T1 h2 v0 L0 X1 e1 q0 => ?_
 obtain ⟨rfl, N1, K1⟩ := q0
 have N2 := Fr.app N0 N1
 have e2 := e1.trans K1
 refine oAN X1 hx hby dd10_5 rfl rfl ?_
 refine oAN X1 hx hby dd10_6 rfl rfl ?_
 refine own_gF X1 hx hZ hown (hw 43) e2 I6 (hb hby dd10_7) fun T2 X2 e3 => ?_
 refine oIN X2 hx hby dd10_10 rfl ?_
 refine oAN X2 hx hby dd10_11 rfl rfl ?_
 refine own_gF X2 hx hZ hown (hw 45) e3 I3 (hb hby dd10_12) fun T3 X3 e4 => ?_
 refine own_cV X3 hx hZ hown e4 (y := mN8) (z := mN8) (b := o1) (hw 86) (hw 87) (notFace_of_selects (args := #[]) (mvT hZ (hw 89))) (hw 89) (hw 88) (hw 3) (hw 90) (by decide) I0 (W := 0) (own_rm56 l Z a0 hw [] i0 i1 m1 m0 o1 o0 o3 h0 n0 Z0 O0 I1 I2 I4 I0 I7 I8 I9 I00 I01) [(.ref o0), (.int 1), (.int 0)] [] hml (lenOf own_pd7 rfl) (hb hby dd10_15) fun T0 h1 v1 L1 X4 e5 q1 => ?_
 obtain ⟨rfl, N3, K0, F0, F1⟩ := q1
 have N4 := Fr.app N2 N3
 have z0 := K0.1
 show own_G p e below (T0.setTop (mkF m 18 #[rv o2, iv 1, rv o1] [])) _
 have K2 : Keep h0 h1 [o0] := ((Keep.refl h0 [o0]).trans K0 (allS (Or.inl (by simp)) all0))
 exact own_retV X4 hx hns hrt (hb hby dd10_18) e5 (by decide) (by decide) (⟨rfl, N4, K2, F0, F1⟩)
theorem own_rm48 (l : Launch) (Z : State) (a0 : Array Value) (hw : own_W a0 Z) (ws : List Jvm.Cond) (i0 i1 : Int32) (m1 m2 : ClassId) (o0 o1 o3 o4 : Nat) (h0 : Heap) (n0 : Nat) (Z0 : n0 ≤ h0.size) (O0 : Old Z n0 h0) (I2 : Fld Z h0 o1 cN2 "value" "[B" (.ref o3)) (I3 : Arv Z h0 o3 m1 .byte 16 [(.int 58), (.int 32), (.int 110), (.int 111), (.int 116), (.int 32), (.int 85), (.int 84), (.int 70), (.int 45), (.int 56), (.int 32), (.int 116), (.int 101), (.int 120), (.int 116)] (.int 0)) (I4 : Sta Z Z.heap cN2 "COMPACT_STRINGS" "Z" (.int i0)) (I5 : ¬ (i0 = 0)) (I6 : Fld Z h0 o1 cN2 "coder" "B" (.int 0)) (I0 : Exa Z h0 o1 cN2) (I7 : Fld Z h0 o0 cN3 "count" "I" (.int 1)) (I00 : Fld Z h0 o0 cN3 "value" "[B" (.ref o4)) (I01 : Arv Z h0 o4 m2 .byte 16 [(.int (i1.toInt8.toInt32)), (.int 0), (.int 0), (.int 0), (.int 0), (.int 0), (.int 0), (.int 0), (.int 0), (.int 0), (.int 0), (.int 0), (.int 0), (.int 0), (.int 0), (.int 0)] (.int 0)) (I02 : Fld Z h0 o0 cN3 "coder" "B" (.int 0)) (I8 : Exa Z h0 o0 cN4) (I1 : n0 ≤ o0) (I04 : @LT.lt Nat instLTNat o0 h0.size) (I9 : @Ne Nat o1 o0) (I03 : @Ne Nat o3 o0) :
 own_Met l Z h0 mN10 B6 3 (Option.some (FieldType.object cN3)) ws (own_R 4 1 34 62) #[(.ref o0), (.ref o1)] (fun v h L => (∃ o2 : Nat, ∃ m0 : ClassId, v = some (.ref o0) ∧ Fr n0 L ∧ Keep h0 h [o0] ∧ h0.size ≤ o2 ∧ Fld Z h o0 cN3 "value" "[B" (.ref o2) ∧ Exa Z h o0 cN4 ∧ Fld Z h o0 cN3 "coder" "B" (.int 0) ∧ Fld Z h o0 cN3 "count" "I" (.int 17) ∧ Arv Z h o2 m0 .byte 34 [(.int (i1.toInt8.toInt32)), (.int 58), (.int 32), (.int 110), (.int 111), (.int 116), (.int 32), (.int 85), (.int 84), (.int 70), (.int 45), (.int 56), (.int 32), (.int 116), (.int 101), (.int 120), (.int 116), (.int 0), (.int 0), (.int 0), (.int 0), (.int 0), (.int 0), (.int 0), (.int 0), (.int 0), (.int 0), (.int 0), (.int 0), (.int 0), (.int 0), (.int 0), (.int 0), (.int 0)] (.int 0) ∧ Exa Z h o2 "[B" ∧ @LT.lt Nat instLTNat o2 h.size)) 1 34 := own_go own_pn10 fun p e s m below meth c s₁ hns hrt hnm hml hZ hx hby hown X0 e0 => by
 have N1 := Fr.nil n0
 refine own_cast (own_ef5 m o0 o1) ?_
 refine oAN X0 hx hby dd6_0 rfl rfl ?_
 refine oS (fun _ => XT.ifnonnullYes X0.here hx rfl (pc0 := 1) (pc' := 9) rfl (hb hby dd6_1) rfl (by decide) (by decide)) ?_
 refine oAN X0 hx hby dd6_9 rfl rfl ?_
 refine own_cV X0 hx hZ hown e0 (y := mN5) (z := mN5) (b := o1) (hw 57) (hw 58) (notFace_of_selects (args := #[]) (mvT hZ (hw 60))) (hw 60) (hw 59) (hw 3) (hw 61) (by decide) I0 (W := 0) (own_rm21 l Z a0 hw [] i0 m1 o1 o3 h0 n0 Z0 O0 I2 I3 I4 I5 I6 I0) [] [] hml (lenOf own_pd5 rfl) (hb hby dd6_10) fun T2 h3 v0 L0 X1 e1 q0 => ?_
 obtain ⟨rfl, N2, K2⟩ := q0
 have N3 := Fr.app N1 N2
 have e2 := e1.trans K2
 refine oISN X1 hx hby dd6_13 (l' := #[rv o0, rv o1, iv 16]) rfl ?_
 refine oAN X1 hx hby dd6_14 rfl rfl ?_
 refine oAN X1 hx hby dd6_15 rfl rfl ?_
 refine own_gF X1 hx hZ hown (hw 68) e2 I7 (hb hby dd6_16) fun T0 X2 e3 => ?_
 refine oIN X2 hx hby dd6_19 rfl ?_
 refine oS (fun _ => XS.iadd X2.here hx rfl (hb hby dd6_20) rfl) ?_
 show own_G p e below (T0.setTop (mkF m 21 #[rv o0, rv o1, iv 16] [(.int 17), (.ref o0)])) _
 have y0 : @LT.lt Nat instLTNat o0 h0.size := by omega
 refine own_cP X2 hx hZ hown e3 (y := mN6) (b := o0) (hw 70) (hw 71) (own_selP (hw 71) (hw 72) (hw 73) rfl (by decide)) (hw 72) (hw 39) (hw 74) (by decide) I8 (W := 0) (own_rm49 l Z a0 hw [] i1 m2 o0 o4 h0 n0 Z0 O0 I00 I01 I02 I8 I1 I7 y0) [(.int 17)] [] hml (lenOf own_pd2 rfl) (hb hby dd6_21) fun T3 h1 v1 L1 X3 e4 q1 => ?_
 obtain ⟨o2, m0, rfl, N4, K0, F0a, F2, F0, F3, F4, F6, F7, F0b⟩ := q1
 have N5 := Fr.app N3 N4
 have z0 := K0.1
 refine oAN X3 hx hby dd6_24 rfl rfl ?_
 refine oAN X3 hx hby dd6_25 rfl rfl ?_
 refine own_gF X3 hx hZ hown (hw 68) e4 F4 (hb hby dd6_26) fun T4 X7 e5 => ?_
 refine oAN X7 hx hby dd6_29 rfl rfl ?_
 have F8 := I6.keep K0 (ninS I9 nin0)
 have F9 := I0.keep K0
 have F00 := I2.keep K0 (ninS I9 nin0)
 have F01 := I3.keep K0 (ninS I03 nin0)
 have N6 : n0 ≤ o2 := by omega
 have O1 : Old Z n0 h1 := O0.keep K0 (allS I1 all0)
 have Z1 : n0 ≤ h1.size := by omega
 refine own_cP X7 hx hZ hown e5 (y := mN9) (b := o0) (hw 75) (hw 76) (own_selP (hw 76) (hw 77) (hw 73) rfl (by decide)) (hw 77) (hw 39) (hw 79) (by decide) F0 (W := 0) (own_rm55 l Z a0 hw [] i0 i1 m1 m0 o0 o1 o2 o3 h1 n0 Z1 O1 I4 I5 F3 F8 F9 F0 F2 F00 F01 F6 N6 F7) [(.int 1), (.ref o1)] [] hml (lenOf own_pd8 rfl) (hb hby dd6_30) fun T5 h4 v2 L2 X4 e6 q2 => ?_
 obtain ⟨rfl, N7, K1, F02, F03⟩ := q2
 have N8 := Fr.app N5 N7
 have z1 := K1.1
 refine oAN X4 hx hby dd6_33 rfl rfl ?_
 refine oS (fun _ => XS.dup X4.here hx rfl (hb hby dd6_34) rfl rfl) ?_
 have N0 : @Ne Nat o0 o2 := by omega
 have F1 := F4.keep K1 (ninS N0 nin0)
 refine own_gF X4 hx hZ hown (hw 68) e6 F1 (hb hby dd6_35) fun T1 X5 e7 => ?_
 refine oIN X5 hx hby dd6_38 rfl ?_
 show own_G p e below (T1.setTop (mkF m 39 #[rv o0, rv o1, iv 16] [(.int 16), (.int 1), (.ref o0)])) _
 refine oS (fun _ => XS.iadd X5.here hx rfl (hb hby dd6_39) rfl) ?_
 have F5 := F0.keep K1
 refine own_pF X5 hx hZ hown (hw 68) e7 F1 F5 (Or.inl (hw 69)) (hw 30) (ty := .int) rfl rfl (hb hby dd6_40) fun T6 h2 X6 e8 W0 => ?_
 have N9 := Fr.snoc X6 N8 I1
 have z2 := W0.size
 have F04 := Fld.same W0 F1
 refine oAN X6 hx hby dd6_43 rfl rfl ?_
 have F05 := Fld.other W0 (F2.keep K1 (ninS N0 nin0)) (Or.inr (slot_ne (C := cN4) (Or.inl (hw 44)) (Or.inl (hw 69)) (by decide) (t := (.array .byte)) (t' := .int) (by decide) (by decide)))
 have F06 := Exa.wr W0 F5
 have F07 := Fld.other W0 (F3.keep K1 (ninS N0 nin0)) (Or.inr (slot_ne (C := cN4) (Or.inl (hw 46)) (Or.inl (hw 69)) (by decide) (t := .byte) (t' := .int) (by decide) (by decide)))
 have F08 := F02.other W0 (Ne.symm N0)
 have F09 := Exa.wr W0 F03
 have y1 : @LT.lt Nat instLTNat o2 h2.size := by omega
 have K3 : Keep h0 h2 [o0] := ((((Keep.refl h0 [o0]).trans K0 (allS (Or.inl (by simp)) all0)).trans K1 (allS (Or.inr (by omega)) all0)).wr W0 (Or.inl (by simp)))
 exact own_retA X6 hx hns hrt rfl rfl (hb hby dd6_44) e8 (by decide) (by decide) (⟨o2, m0, rfl, N9, K3, (by omega), F05, F06, F07, F04, F08, F09, y1⟩)
theorem own_rm47 (l : Launch) (Z : State) (a0 : Array Value) (hw : own_W a0 Z) (ws : List Jvm.Cond) (i0 i1 : Int32) (m1 m2 : ClassId) (o0 o1 o3 o4 : Nat) (h0 : Heap) (n0 : Nat) (Z0 : n0 ≤ h0.size) (O0 : Old Z n0 h0) (I1 : Fld Z h0 o1 cN2 "value" "[B" (.ref o3)) (I2 : Arv Z h0 o3 m1 .byte 16 [(.int 58), (.int 32), (.int 110), (.int 111), (.int 116), (.int 32), (.int 85), (.int 84), (.int 70), (.int 45), (.int 56), (.int 32), (.int 116), (.int 101), (.int 120), (.int 116)] (.int 0)) (I3 : Sta Z Z.heap cN2 "COMPACT_STRINGS" "Z" (.int i0)) (I4 : ¬ (i0 = 0)) (I5 : Fld Z h0 o1 cN2 "coder" "B" (.int 0)) (I6 : Exa Z h0 o1 cN2) (I7 : Fld Z h0 o0 cN3 "count" "I" (.int 1)) (I8 : Fld Z h0 o0 cN3 "value" "[B" (.ref o4)) (I9 : Arv Z h0 o4 m2 .byte 16 [(.int (i1.toInt8.toInt32)), (.int 0), (.int 0), (.int 0), (.int 0), (.int 0), (.int 0), (.int 0), (.int 0), (.int 0), (.int 0), (.int 0), (.int 0), (.int 0), (.int 0), (.int 0)] (.int 0)) (I00 : Fld Z h0 o0 cN3 "coder" "B" (.int 0)) (I0 : Exa Z h0 o0 cN4) (I01 : n0 ≤ o0) (I04 : @LT.lt Nat instLTNat o0 h0.size) (I02 : @Ne Nat o1 o0) (I03 : @Ne Nat o3 o0) :
 own_Met l Z h0 mN11 B5 2 (Option.some (FieldType.object cN4)) ws (own_R 5 1 34 76) #[(.ref o0), (.ref o1)] (fun v h L => (∃ o2 : Nat, ∃ m0 : ClassId, v = some (.ref o0) ∧ Fr n0 L ∧ Keep h0 h [o0] ∧ h0.size ≤ o2 ∧ Fld Z h o0 cN3 "value" "[B" (.ref o2) ∧ Exa Z h o0 cN4 ∧ Fld Z h o0 cN3 "coder" "B" (.int 0) ∧ Fld Z h o0 cN3 "count" "I" (.int 17) ∧ Arv Z h o2 m0 .byte 34 [(.int (i1.toInt8.toInt32)), (.int 58), (.int 32), (.int 110), (.int 111), (.int 116), (.int 32), (.int 85), (.int 84), (.int 70), (.int 45), (.int 56), (.int 32), (.int 116), (.int 101), (.int 120), (.int 116), (.int 0), (.int 0), (.int 0), (.int 0), (.int 0), (.int 0), (.int 0), (.int 0), (.int 0), (.int 0), (.int 0), (.int 0), (.int 0), (.int 0), (.int 0), (.int 0), (.int 0)] (.int 0) ∧ Exa Z h o2 "[B" ∧ @LT.lt Nat instLTNat o2 h.size)) 1 34 := own_go own_pn11 fun p e s m below meth c s₁ hns hrt hnm hml hZ hx hby hown X0 e0 => by
 have N0 := Fr.nil n0
 refine own_cast (own_ef1 m o0 o1) ?_
 refine oAN X0 hx hby dd5_0 rfl rfl ?_
 refine oAN X0 hx hby dd5_1 rfl rfl ?_
 have y0 : @LT.lt Nat instLTNat o0 h0.size := by omega
 refine own_cX X0 hx hZ hown e0 (y := mN10) (b := o0) (hw 52) (hw 55) (own_nf (hw 73) rfl) (hw 53) (hw 54) (by decide) (hw 39) (hw 56) (by decide) I0 (W := 0) (own_rm48 l Z a0 hw [] i0 i1 m1 m2 o0 o1 o3 o4 h0 n0 Z0 O0 I1 I2 I3 I4 I5 I6 I7 I8 I9 I00 I0 I01 y0 I02 I03) [(.ref o1)] [] hml (lenOf own_pd9 rfl) (hb hby dd5_2) fun T0 h1 v0 L0 X1 e1 q0 => ?_
 obtain ⟨o2, m0, rfl, N1, K0, F6, F0, F1, F2, F3, F4, F5, F7⟩ := q0
 have N2 := Fr.app N0 N1
 have z0 := K0.1
 refine oS (fun _ => XT.pop X1.here hx rfl (hb hby dd5_5) rfl rfl) ?_
 refine oAN X1 hx hby dd5_6 rfl rfl ?_
 have y1 : @LT.lt Nat instLTNat o2 h1.size := by omega
 have K1 : Keep h0 h1 [o0] := ((Keep.refl h0 [o0]).trans K0 (allS (Or.inl (by simp)) all0))
 exact own_retA X1 hx hns hrt rfl rfl (hb hby dd5_7) e1 (by decide) (by decide) (⟨o2, m0, rfl, N2, K1, (by omega), F0, F1, F2, F3, F4, F5, y1⟩)
theorem own_rm61 (l : Launch) (Z : State) (a0 : Array Value) (hw : own_W a0 Z) (ws : List Jvm.Cond) (o0 : Nat) (h0 : Heap) (n0 : Nat) (Z0 : n0 ≤ h0.size) (O0 : Old Z n0 h0) (I0 : Fld Z h0 o0 cN3 "count" "I" (.int 17)) :
 own_Met l Z h0 mN13 B08 1 (Option.some FieldType.int) ws (own_R 0 0 0 0) #[(.ref o0)] (fun v h L => (v = some (.int 17) ∧ Fr n0 L ∧ h = h0)) 0 0 := own_go own_pn13 fun p e s m below meth c s₁ hns hrt hnm hml hZ hx hby hown X0 e0 => by
 have N0 := Fr.nil n0
 refine own_cast (own_ef3 m o0) ?_
 refine oAN X0 hx hby dd18_0 rfl rfl ?_
 refine own_gF X0 hx hZ hown (hw 68) e0 I0 (hb hby dd18_1) fun T0 X1 e1 => ?_
 exact own_retI X1 hx hns hrt (hb hby dd18_4) e1 (by decide) (by decide) (⟨rfl, N0, rfl⟩)
theorem own_rm60 (l : Launch) (Z : State) (a0 : Array Value) (hw : own_W a0 Z) (ws : List Jvm.Cond) (o0 : Nat) (h0 : Heap) (n0 : Nat) (Z0 : n0 ≤ h0.size) (O0 : Old Z n0 h0) (I0 : Fld Z h0 o0 cN3 "count" "I" (.int 17)) (I1 : Exa Z h0 o0 cN4) :
 own_Met l Z h0 mN14 B07 1 (Option.some FieldType.int) ws (own_R 1 0 0 12) #[(.ref o0)] (fun v h L => (v = some (.int 17) ∧ Fr n0 L ∧ h = h0)) 0 0 := own_go own_pn14 fun p e s m below meth c s₁ hns hrt hnm hml hZ hx hby hown X0 e0 => by
 have N0 := Fr.nil n0
 refine own_cast (own_ef3 m o0) ?_
 refine oAN X0 hx hby dd17_0 rfl rfl ?_
 refine own_cX X0 hx hZ hown e0 (y := mN13) (b := o0) (hw 119) (hw 114) (own_nf (hw 73) rfl) (hw 115) (hw 54) (by decide) (hw 39) (hw 120) (by decide) I1 (W := 0) (own_rm61 l Z a0 hw [] o0 h0 n0 Z0 O0 I0) [] [] hml (lenOf own_pd5 rfl) (hb hby dd17_1) fun T0 h1 v0 L0 X1 e1 q0 => ?_
 obtain ⟨rfl, N1, K0⟩ := q0
 have N2 := Fr.app N0 N1
 have e2 := e1.trans K0
 exact own_retI X1 hx hns hrt (hb hby dd17_4) e2 (by decide) (by decide) (⟨rfl, N2, rfl⟩)
theorem dd20_10 : decode B0a 10 = .ok (.aload_n 0, 1) := by decide +kernel
theorem dd20_11 : decode B0a 11 = .ok (.iload_n 1, 1) := by decide +kernel
theorem dd20_12 : decode B0a 12 = .ok (.iload_n 2, 1) := by decide +kernel
theorem own_ef16 (m : MethodId) (x0 : Addr) (x1 : Int32) (x2 : Int32) : entryFrame m #[(.ref x0), (.int x1), (.int x2)] 5 = mkF m 0 #[.val (.ref x0), .val (.int x1), .val (.int x2), .unset, .unset] [] := by first | (simp [entryFrame, mkF, argsToLocals, Value.category]; done) | rfl
theorem dd30_0 : decode B0k 0 = .ok (.iload_n 1, 1) := by decide +kernel
theorem dd30_1 : decode B0k 1 = .ok (.iload_n 2, 1) := by decide +kernel
theorem dd31_0 : decode B0l 0 = .ok (.iload_n 1, 1) := by decide +kernel
theorem dd31_1 : decode B0l 1 = .ok (.iload_n 0, 1) := by decide +kernel
theorem dd31_2 : decode B0l 2 = .ok (.if_icmp .ge 35, 3) := by decide +kernel
theorem dd31_37 : decode B0l 37 = .ok (.return_, 1) := by decide +kernel
theorem own_pn30 : plainFor mN30 = true := by decide +kernel
theorem own_rm64 (l : Launch) (Z : State) (a0 : Array Value) (hw : own_W a0 Z) (ws : List Jvm.Cond)  (h0 : Heap) (n0 : Nat) (Z0 : n0 ≤ h0.size) (O0 : Old Z n0 h0)  :
 own_Met l Z h0 mN30 B0l 2 (Option.none : Option FieldType) ws (own_R 0 0 0 0) #[(.int 0), (.int 17)] (fun v h L => (v = none ∧ Fr n0 L ∧ h = h0)) 0 0 := own_go own_pn30 fun p e s m below meth c s₁ hns hrt hnm hml hZ hx hby hown X0 e0 => by
 have N0 := Fr.nil n0
 refine own_cast (own_ef15 m 0 17) ?_
 refine oIN X0 hx hby dd31_0 rfl ?_
 refine oIN X0 hx hby dd31_1 rfl ?_
 refine oYI X0 hx hby (pc' := 37) dd31_2 (XT.ii_ge_t (by decide)) ?_
 exact own_retV X0 hx hns hrt (hb hby dd31_37) e0 (by decide) (by decide) (⟨rfl, N0, rfl⟩)
theorem own_pd26 : parseMethodDescriptor "(II)V" = some ⟨[.int, .int], none⟩ := by decide +kernel
theorem dd30_2 : decode B0k 2 = .ok (.invokestatic 343, 3) := by decide +kernel
theorem dd30_5 : decode B0k 5 = .ok (.iload_n 2, 1) := by decide +kernel
theorem dd30_6 : decode B0k 6 = .ok (.iload_n 1, 1) := by decide +kernel
theorem dd30_7 : decode B0k 7 = .ok (.isub, 1) := by decide +kernel
theorem dd30_8 : decode B0k 8 = .ok (.istore_n 3, 1) := by decide +kernel
theorem dd30_9 : decode B0k 9 = .ok (.iload_n 3, 1) := by decide +kernel
theorem dd30_10 : decode B0k 10 = .ok (.newarray .byte, 2) := by decide +kernel
theorem dd30_12 : decode B0k 12 = .ok (.astore 4, 2) := by decide +kernel
theorem dd30_14 : decode B0k 14 = .ok (.aload_n 0, 1) := by decide +kernel
theorem dd30_15 : decode B0k 15 = .ok (.iload_n 1, 1) := by decide +kernel
theorem dd30_16 : decode B0k 16 = .ok (.aload 4, 2) := by decide +kernel
theorem dd30_18 : decode B0k 18 = .ok (.iconst 0, 1) := by decide +kernel
theorem dd30_19 : decode B0k 19 = .ok (.aload_n 0, 1) := by decide +kernel
theorem dd30_20 : decode B0k 20 = .ok (.arraylength, 1) := by decide +kernel
theorem dd30_21 : decode B0k 21 = .ok (.iload_n 1, 1) := by decide +kernel
theorem dd30_22 : decode B0k 22 = .ok (.isub, 1) := by decide +kernel
theorem dd30_23 : decode B0k 23 = .ok (.iload_n 3, 1) := by decide +kernel
theorem dd29_9 : decode B0j 9 = .ok (.iload_n 1, 1) := by decide +kernel
theorem own_rm65 (l : Launch) (Z : State) (a0 : Array Value) (hw : own_W a0 Z) (ws : List Jvm.Cond)  (h0 : Heap) (n0 : Nat) (Z0 : n0 ≤ h0.size) (O0 : Old Z n0 h0)  :
 own_Met l Z h0 mN28 B0j 2 (Option.some FieldType.int) ws (own_R 0 0 0 0) #[(.int 34), (.int 17)] (fun v h L => (v = some (.int 17) ∧ Fr n0 L ∧ h = h0)) 0 0 := own_go own_pn28 fun p e s m below meth c s₁ hns hrt hnm hml hZ hx hby hown X0 e0 => by
 have N0 := Fr.nil n0
 refine own_cast (own_ef15 m 34 17) ?_
 refine oIN X0 hx hby dd29_0 rfl ?_
 refine oIN X0 hx hby dd29_1 rfl ?_
 refine oYI X0 hx hby (pc' := 9) dd29_2 (XT.ii_gt_t (by decide)) ?_
 refine oIN X0 hx hby dd29_9 rfl ?_
 exact own_retI X0 hx hns hrt (hb hby dd29_10) e0 (by decide) (by decide) (⟨rfl, N0, rfl⟩)
theorem dd30_24 : decode B0k 24 = .ok (.invokestatic 304, 3) := by decide +kernel
theorem dd30_27 : decode B0k 27 = .ok (.invokestatic 150, 3) := by decide +kernel
theorem dd30_30 : decode B0k 30 = .ok (.aload 4, 2) := by decide +kernel
theorem dd30_32 : decode B0k 32 = .ok (.areturn, 1) := by decide +kernel
theorem own_pn31 : plainFor mN31 = true := by decide +kernel
theorem own_rm63 (l : Launch) (Z : State) (a0 : Array Value) (hw : own_W a0 Z) (ws : List Jvm.Cond) (i0 : Int32) (m1 : ClassId) (o1 : Nat) (h0 : Heap) (n0 : Nat) (Z0 : n0 ≤ h0.size) (O0 : Old Z n0 h0) (I0 : Arv Z h0 o1 m1 .byte 34 [(.int (i0.toInt8.toInt32)), (.int 58), (.int 32), (.int 110), (.int 111), (.int 116), (.int 32), (.int 85), (.int 84), (.int 70), (.int 45), (.int 56), (.int 32), (.int 116), (.int 101), (.int 120), (.int 116), (.int 0), (.int 0), (.int 0), (.int 0), (.int 0), (.int 0), (.int 0), (.int 0), (.int 0), (.int 0), (.int 0), (.int 0), (.int 0), (.int 0), (.int 0), (.int 0), (.int 0)] (.int 0)) :
 own_Met l Z h0 mN31 B0k 5 (Option.some (FieldType.array FieldType.byte)) ws (own_R 1 1 17 18) #[(.ref o1), (.int 0), (.int 17)] (fun v h L => (∃ o0 : Nat, ∃ m0 : ClassId, v = some (.ref o0) ∧ Fr n0 L ∧ Keep h0 h [] ∧ h0.size ≤ o0 ∧ Arv Z h o0 m0 .byte 17 [(.int (i0.toInt8.toInt32)), (.int 58), (.int 32), (.int 110), (.int 111), (.int 116), (.int 32), (.int 85), (.int 84), (.int 70), (.int 45), (.int 56), (.int 32), (.int 116), (.int 101), (.int 120), (.int 116)] (.int 0) ∧ Exa Z h o0 "[B" ∧ @LT.lt Nat instLTNat o0 h.size)) 1 17 := own_go own_pn31 fun p e s m below meth c s₁ hns hrt hnm hml hZ hx hby hown X2 e1 => by
 have N0 := Fr.nil n0
 refine own_cast (own_ef16 m o1 0 17) ?_
 refine oIN X2 hx hby dd30_0 rfl ?_
 refine oIN X2 hx hby dd30_1 rfl ?_
 refine own_cS X2 hx hZ hown e1 (y := mN30) (hw 259) (hw 260) (hw 128) (hw 261) (by decide) (W := 0) (own_rm64 l Z a0 hw []  h0 n0 Z0 O0 ) [(.int 0), (.int 17)] [] hml (lenOf own_pd26 rfl) (hb hby dd30_2) fun T2 h3 v0 L0 X1 e2 q0 => ?_
 obtain ⟨rfl, N1, K1⟩ := q0
 have N2 := Fr.app N0 N1
 have e3 := e2.trans K1
 refine oIN X1 hx hby dd30_5 rfl ?_
 refine oIN X1 hx hby dd30_6 rfl ?_
 refine oS (fun _ => XS.isub X1.here hx rfl (hb hby dd30_7) rfl) ?_
 refine oISN X1 hx hby dd30_8 (l' := #[rv o1, iv 0, iv 17, iv 17, .unset]) rfl ?_
 refine oIN X1 hx hby dd30_9 rfl ?_
 obtain ⟨T0, h1, m0, X0, e0, E0, A0, B0, s0⟩ := own_newP X1 hx hZ (aty := .byte) (hw 15) e3 (nm := "[B") rfl (g := (mkF m 10 #[rv o1, iv 0, iv 17, iv 17, .unset] [(.int 17)])) rfl (hb hby dd30_10) (n := 17) (rest := []) rfl (by decide) (cap := 17) (by decide) (by decide) (by decide) (by decide)
 obtain ⟨o0, g0⟩ : ∃ z, z = h0.size := ⟨_, rfl⟩
 rw [← g0] at A0 B0 s0
 have F0 : Arv Z h1 o0 m0 .byte 17 [(.int 0), (.int 0), (.int 0), (.int 0), (.int 0), (.int 0), (.int 0), (.int 0), (.int 0), (.int 0), (.int 0), (.int 0), (.int 0), (.int 0), (.int 0), (.int 0), (.int 0)] (.int 0) := own_newA A0 (by decide) rfl rfl
 have z0 := E0.1
 have y1 : @LT.lt Nat instLTNat o0 h1.size := F0.lt
 refine oS s0 ?_
 refine oAS X0 hx hby dd30_12 rfl (l' := #[rv o1, iv 0, iv 17, iv 17, rv o0]) rfl ?_
 show own_G p e below (T0.setTop (mkF m 14 #[rv o1, iv 0, iv 17, iv 17, rv o0] [])) _
 refine oAN X0 hx hby dd30_14 rfl rfl ?_
 refine oIN X0 hx hby dd30_15 rfl ?_
 refine oAL X0 hx hby dd30_16 rfl rfl ?_
 refine oIC X0 hx hby dd30_18 ?_
 refine oAN X0 hx hby dd30_19 rfl rfl ?_
 have F1 := I0.ext E0
 refine oS (own_len X0 hx hZ e0 F1 rfl rfl (hb hby dd30_20)) ?_
 refine oIN X0 hx hby dd30_21 rfl ?_
 refine oS (fun _ => XS.isub X0.here hx rfl (hb hby dd30_22) rfl) ?_
 refine oIN X0 hx hby dd30_23 rfl ?_
 have O1 : Old Z n0 h1 := O0.ext E0
 have Z1 : n0 ≤ h1.size := by omega
 refine own_cS X0 hx hZ hown e0 (y := mN28) (hw 252) (hw 253) (hw 245) (hw 254) (by decide) (W := 4) (own_rm65 l Z a0 hw []  h1 n0 Z1 O1 ) [(.int 34), (.int 17)] [(.int 0), (.ref o0), (.int 0), (.ref o1)] hml (lenOf own_pd22 rfl) (hb hby dd30_24) fun T1 h4 v1 L1 X4 e4 q1 => ?_
 obtain ⟨rfl, N3, K2⟩ := q1
 have N4 := Fr.app N2 N3
 have e5 := e4.trans K2
 show own_G p e below (T1.setTop (mkF m 27 #[rv o1, iv 0, iv 17, iv 17, rv o0] [(.int 17), (.int 0), (.ref o0), (.int 0), (.ref o1)])) _
 have N5 : n0 ≤ o0 := by omega
 obtain ⟨T3, h2, L2, X3, e6, N6, K0, A1, s1⟩ := cpA X4 hx hZ hown (hw 255) (hw 94) (hw 92) (hw 93) e5 F1 F0 (us := [(.int (i0.toInt8.toInt32)), (.int 58), (.int 32), (.int 110), (.int 111), (.int 116), (.int 32), (.int 85), (.int 84), (.int 70), (.int 45), (.int 56), (.int 32), (.int 116), (.int 101), (.int 120), (.int 116)]) (Or.inl ⟨rfl, rfl⟩) (by decide) (by decide) (by decide) (by decide) (by decide) rfl (Nat.le_of_ble_eq_true rfl) N4 N5 (g := (mkF m 27 #[rv o1, iv 0, iv 17, iv 17, rv o0] [(.int 17), (.int 0), (.ref o0), (.int 0), (.ref o1)])) rfl (by rw [hml]; rfl) (rest := []) rfl (hb hby dd30_27) (by decide) (W := 0) (by show 2 * 0 + _ ≤ _; exact Nat.le_of_eq rfl) (by decide)
 have z1 := K0.1
 have F2 : Arv Z h2 o0 m0 .byte 17 [(.int (i0.toInt8.toInt32)), (.int 58), (.int 32), (.int 110), (.int 111), (.int 116), (.int 32), (.int 85), (.int 84), (.int 70), (.int 45), (.int 56), (.int 32), (.int 116), (.int 101), (.int 120), (.int 116)] (.int 0) := A1
 refine oS s1 ?_
 refine oAL X3 hx hby dd30_30 rfl rfl ?_
 have F3 := B0.keep K0
 have y0 : @LT.lt Nat instLTNat o0 h2.size := by omega
 have K3 : Keep h0 h2 [] := (((Keep.refl h0 []).ext E0).trans K0 (allS (Or.inr (by omega)) all0))
 exact own_retA X3 hx hns hrt rfl rfl (hb hby dd30_32) e6 (by decide) (by decide) (⟨o0, m0, rfl, N6, K3, (by omega), F2, F3, y0⟩)
theorem dd20_13 : decode B0a 13 = .ok (.invokestatic 339, 3) := by decide +kernel
theorem dd20_16 : decode B0a 16 = .ok (.areturn, 1) := by decide +kernel
theorem own_rm62 (l : Launch) (Z : State) (a0 : Array Value) (hw : own_W a0 Z) (ws : List Jvm.Cond) (i0 : Int32) (m1 : ClassId) (o1 : Nat) (h0 : Heap) (n0 : Nat) (Z0 : n0 ≤ h0.size) (O0 : Old Z n0 h0) (I0 : Arv Z h0 o1 m1 .byte 34 [(.int (i0.toInt8.toInt32)), (.int 58), (.int 32), (.int 110), (.int 111), (.int 116), (.int 32), (.int 85), (.int 84), (.int 70), (.int 45), (.int 56), (.int 32), (.int 116), (.int 101), (.int 120), (.int 116), (.int 0), (.int 0), (.int 0), (.int 0), (.int 0), (.int 0), (.int 0), (.int 0), (.int 0), (.int 0), (.int 0), (.int 0), (.int 0), (.int 0), (.int 0), (.int 0), (.int 0)] (.int 0)) :
 own_Met l Z h0 mN16 B0a 3 (Option.some (FieldType.array FieldType.byte)) ws (own_R 2 1 17 34) #[(.ref o1), (.int 0), (.int 17)] (fun v h L => (∃ o0 : Nat, ∃ m0 : ClassId, v = some (.ref o0) ∧ Fr n0 L ∧ Keep h0 h [] ∧ h0.size ≤ o0 ∧ Arv Z h o0 m0 .byte 17 [(.int (i0.toInt8.toInt32)), (.int 58), (.int 32), (.int 110), (.int 111), (.int 116), (.int 32), (.int 85), (.int 84), (.int 70), (.int 45), (.int 56), (.int 32), (.int 116), (.int 101), (.int 120), (.int 116)] (.int 0) ∧ Exa Z h o0 "[B" ∧ @LT.lt Nat instLTNat o0 h.size)) 1 17 := own_go own_pn16 fun p e s m below meth c s₁ hns hrt hnm hml hZ hx hby hown X0 e0 => by
 have N0 := Fr.nil n0
 refine own_cast (own_ef10 m o1 0 17) ?_
 refine oIN X0 hx hby dd20_0 rfl ?_
 refine oN0 X0 hx hby dd20_1 (XT.i0_ne_f (by decide)) ?_
 refine oIN X0 hx hby dd20_4 rfl ?_
 refine oAN X0 hx hby dd20_5 rfl rfl ?_
 refine oS (own_len X0 hx hZ e0 I0 rfl rfl (hb hby dd20_6)) ?_
 refine oNI X0 hx hby dd20_7 (XT.ii_eq_f (by decide)) ?_
 refine oAN X0 hx hby dd20_10 rfl rfl ?_
 refine oIN X0 hx hby dd20_11 rfl ?_
 refine oIN X0 hx hby dd20_12 rfl ?_
 refine own_cS X0 hx hZ hown e0 (y := mN31) (hw 256) (hw 257) (hw 128) (hw 258) (by decide) (W := 0) (own_rm63 l Z a0 hw [] i0 m1 o1 h0 n0 Z0 O0 I0) [(.ref o1), (.int 0), (.int 17)] [] hml (lenOf own_pd13 rfl) (hb hby dd20_13) fun T0 h1 v0 L0 X1 e1 q0 => ?_
 obtain ⟨o0, m0, rfl, N1, K0, F2, F0, F1, F3⟩ := q0
 have N2 := Fr.app N0 N1
 have z0 := K0.1
 show own_G p e below (T0.setTop (mkF m 16 #[rv o1, iv 0, iv 17] [(.ref o0)])) _
 have y0 : @LT.lt Nat instLTNat o0 h1.size := by omega
 have K1 : Keep h0 h1 [] := ((Keep.refl h0 []).trans K0 all0)
 exact own_retA X1 hx hns hrt rfl rfl (hb hby dd20_16) e1 (by decide) (by decide) (⟨o0, m0, rfl, N2, K1, (by omega), F0, F1, y0⟩)
theorem own_rm59 (l : Launch) (Z : State) (a0 : Array Value) (hw : own_W a0 Z) (ws : List Jvm.Cond) (i0 i1 : Int32) (m1 : ClassId) (o0 o1 o2 : Nat) (h0 : Heap) (n0 : Nat) (Z0 : n0 ≤ h0.size) (O0 : Old Z n0 h0) (I4 : Fld Z h0 o1 cN3 "value" "[B" (.ref o2)) (I0 : Exa Z h0 o1 cN4) (I5 : Fld Z h0 o1 cN3 "count" "I" (.int 17)) (I6 : Sta Z Z.heap cN2 "COMPACT_STRINGS" "Z" (.int i0)) (I7 : ¬ (i0 = 0)) (I8 : Fld Z h0 o1 cN3 "coder" "B" (.int 0)) (I2 : Fld Z h0 o0 cN2 "coder" "B" (.int 0)) (I3 : Exa Z h0 o0 cN2) (I1 : n0 ≤ o0) (I9 : Arv Z h0 o2 m1 .byte 34 [(.int (i1.toInt8.toInt32)), (.int 58), (.int 32), (.int 110), (.int 111), (.int 116), (.int 32), (.int 85), (.int 84), (.int 70), (.int 45), (.int 56), (.int 32), (.int 116), (.int 101), (.int 120), (.int 116), (.int 0), (.int 0), (.int 0), (.int 0), (.int 0), (.int 0), (.int 0), (.int 0), (.int 0), (.int 0), (.int 0), (.int 0), (.int 0), (.int 0), (.int 0), (.int 0), (.int 0)] (.int 0)) (I00 : @Ne Nat o2 o0) (I01 : Fld Z h0 o0 cN2 "value" "[B" .null) (I02 : @LT.lt Nat instLTNat o0 h0.size) :
 own_Met l Z h0 mN17 B05 5 (Option.none : Option FieldType) ws (own_R 3 1 17 49) #[(.ref o0), (.ref o1), .null] (fun v h L => (∃ o3 : Nat, ∃ m0 : ClassId, v = none ∧ Fr n0 L ∧ Keep h0 h [o0] ∧ h0.size ≤ o3 ∧ Fld Z h o0 cN2 "coder" "B" (.int 0) ∧ Fld Z h o0 cN2 "value" "[B" (.ref o3) ∧ Exa Z h o0 cN2 ∧ Arv Z h o3 m0 .byte 17 [(.int (i1.toInt8.toInt32)), (.int 58), (.int 32), (.int 110), (.int 111), (.int 116), (.int 32), (.int 85), (.int 84), (.int 70), (.int 45), (.int 56), (.int 32), (.int 116), (.int 101), (.int 120), (.int 116)] (.int 0) ∧ Exa Z h o3 "[B" ∧ @LT.lt Nat instLTNat o3 h.size)) 1 17 := own_go own_pn17 fun p e s m below meth c s₁ hns hrt hnm hml hZ hx hby hown X5 e0 => by
 have N0 := Fr.nil n0
 refine own_cast (own_ef9 m o0 o1) ?_
 refine oAN X5 hx hby dd15_0 rfl rfl ?_
 obtain ⟨T2, X6, e1, s0⟩ := initO X5 hx hZ hown (hw 11) (hw 12) (hw 13) e0 (g := (mkF m 1 #[rv o0, rv o1, .val .null, .unset, .unset] [(.ref o0)])) rfl (by rw [hml]; rfl) rfl (hb hby dd15_1) (by decide) (W := 0) (by show 2 * 0 + _ ≤ _; exact Nat.le_of_eq rfl) (by decide)
 refine oS s0 ?_
 refine oAN X6 hx hby dd15_4 rfl rfl ?_
 refine own_cV X6 hx hZ hown e1 (y := mN12) (z := mN12) (b := o1) (hw 108) (hw 109) (notFace_of_selects (args := #[]) (mvT hZ (hw 111))) (hw 111) (hw 110) (hw 39) (hw 112) (by decide) I0 (W := 0) (own_rm28 l Z a0 hw [] o1 o2 h0 n0 Z0 O0 I4) [] [] hml (lenOf own_pd11 rfl) (hb hby dd15_5) fun T3 h3 v0 L0 X2 e2 q0 => ?_
 obtain ⟨rfl, N1, K1⟩ := q0
 have N2 := Fr.app N0 N1
 have e3 := e2.trans K1
 refine oASN X2 hx hby dd15_8 rfl (l' := #[rv o0, rv o1, .val .null, rv o2, .unset]) rfl ?_
 refine oAN X2 hx hby dd15_9 rfl rfl ?_
 refine own_cV X2 hx hZ hown e3 (y := mN13) (z := mN14) (b := o1) (hw 113) (hw 114) (own_nf (args := #[]) (mvT hZ (hw 237)) rfl) (hw 116) (hw 117) (hw 31) (hw 118) (by decide) I0 (W := 0) (own_rm60 l Z a0 hw [] o1 h0 n0 Z0 O0 I5 I0) [] [] hml (lenOf own_pd5 rfl) (hb hby dd15_10) fun T4 h4 v1 L1 X3 e4 q1 => ?_
 obtain ⟨rfl, N3, K2⟩ := q1
 have N4 := Fr.app N2 N3
 have e5 := e4.trans K2
 refine oIS X3 hx hby dd15_13 (l' := #[rv o0, rv o1, .val .null, rv o2, iv 17]) rfl ?_
 refine oAN X3 hx hby dd15_15 rfl rfl ?_
 refine own_cV X3 hx hZ hown e5 (y := mN15) (z := mN15) (b := o1) (hw 121) (hw 122) (notFace_of_selects (args := #[]) (mvT hZ (hw 124))) (hw 124) (hw 123) (hw 39) (hw 125) (by decide) I0 (W := 0) (own_rm31 l Z a0 hw [] i0 o1 h0 n0 Z0 O0 I6 I7 I8) [] [] hml (lenOf own_pd12 rfl) (hb hby dd15_16) fun T0 h5 v2 L2 X1 e6 q2 => ?_
 obtain ⟨rfl, N5, K3⟩ := q2
 have N6 := Fr.app N4 N5
 have e7 := e6.trans K3
 show own_G p e below (T0.setTop (mkF m 19 #[rv o0, rv o1, .val .null, rv o2, iv 17] [(.int 1)])) _
 refine oN0 X1 hx hby dd15_19 (XT.i0_eq_f (by decide)) ?_
 refine oAN X1 hx hby dd15_22 rfl rfl ?_
 refine oIC X1 hx hby dd15_23 ?_
 refine own_pF X1 hx hZ hown (hw 21) e7 I2 I3 (Or.inr ⟨(hw 17), rfl, hnm⟩) (hw 2) (ty := .byte) (by decide) (by decide) (hb hby dd15_24) fun T5 h1 X0 e8 W0 => ?_
 have N7 := Fr.snoc X0 N6 I1
 have z0 := W0.size
 have F2 := Fld.same W0 I2
 refine oAN X0 hx hby dd15_27 rfl rfl ?_
 refine oAN X0 hx hby dd15_28 rfl rfl ?_
 refine oIC X0 hx hby dd15_29 ?_
 refine oIL X0 hx hby dd15_30 rfl ?_
 have F3 := I9.other W0 I00
 have O1 : Old Z n0 h1 := O0.wr W0 I1
 have Z1 : n0 ≤ h1.size := by omega
 refine own_cS X0 hx hZ hown e8 (y := mN16) (hw 126) (hw 127) (hw 128) (hw 129) (by decide) (W := 1) (own_rm62 l Z a0 hw [] i1 m1 o2 h1 n0 Z1 O1 F3) [(.ref o2), (.int 0), (.int 17)] [(.ref o0)] hml (lenOf own_pd13 rfl) (hb hby dd15_32) fun T6 h6 v3 L3 X7 e9 q3 => ?_
 obtain ⟨o3, m0, rfl, N8, K0, F01, F4, F5, F02⟩ := q3
 have N9 := Fr.app N7 N8
 have z1 := K0.1
 have F0 := (Fld.other W0 I01 (Or.inr (slot_ne (C := cN2) (Or.inr (hw 16)) (Or.inr (hw 17)) (by decide) (t := (.array .byte)) (t' := .byte) (by decide) (by decide)))).keep K0 nin0
 have F1 := (Exa.wr W0 I3).keep K0
 refine own_pF X7 hx hZ hown (hw 20) e9 F0 F1 (Or.inr ⟨(hw 16), rfl, hnm⟩) (hw 2) (ty := (.array .byte)) rfl rfl (hb hby dd15_35) fun T1 h2 X4 e00 W1 => ?_
 have N00 := Fr.snoc X4 N9 I1
 have z2 := W1.size
 have F6 := Fld.same W1 F0
 show own_G p e below (T1.setTop (mkF m 38 #[rv o0, rv o1, .val .null, rv o2, iv 17] [])) _
 refine oGO X4 hx hby (pc' := 97) dd15_38 ?_
 have F7 := Fld.other W1 (F2.keep K0 nin0) (Or.inr (slot_ne (C := cN2) (Or.inr (hw 17)) (Or.inr (hw 16)) (by decide) (t := .byte) (t' := (.array .byte)) (by decide) (by decide)))
 have F8 := Exa.wr W1 F1
 have N01 : @Ne Nat o3 o0 := by omega
 have F9 := F4.other W1 N01
 have F00 := Exa.wr W1 F5
 have y0 : @LT.lt Nat instLTNat o3 h2.size := by omega
 have K4 : Keep h0 h2 [o0] := ((((Keep.refl h0 [o0]).wr W0 (Or.inl (by simp))).trans K0 all0).wr W1 (Or.inl (by simp)))
 exact own_retV X4 hx hns hrt (hb hby dd15_97) e00 (by decide) (by decide) (⟨o3, m0, rfl, N00, K4, (by omega), F7, F6, F8, F9, F00, y0⟩)
theorem own_rm58 (l : Launch) (Z : State) (a0 : Array Value) (hw : own_W a0 Z) (ws : List Jvm.Cond) (i0 i1 : Int32) (m1 : ClassId) (o0 o1 o3 : Nat) (h0 : Heap) (n0 : Nat) (Z0 : n0 ≤ h0.size) (O0 : Old Z n0 h0) (I0 : Fld Z h0 o1 cN3 "value" "[B" (.ref o3)) (I1 : Exa Z h0 o1 cN4) (I2 : Fld Z h0 o1 cN3 "count" "I" (.int 17)) (I3 : Sta Z Z.heap cN2 "COMPACT_STRINGS" "Z" (.int i0)) (I4 : ¬ (i0 = 0)) (I5 : Fld Z h0 o1 cN3 "coder" "B" (.int 0)) (I6 : Fld Z h0 o0 cN2 "coder" "B" (.int 0)) (I7 : Exa Z h0 o0 cN2) (I8 : n0 ≤ o0) (I9 : Arv Z h0 o3 m1 .byte 34 [(.int (i1.toInt8.toInt32)), (.int 58), (.int 32), (.int 110), (.int 111), (.int 116), (.int 32), (.int 85), (.int 84), (.int 70), (.int 45), (.int 56), (.int 32), (.int 116), (.int 101), (.int 120), (.int 116), (.int 0), (.int 0), (.int 0), (.int 0), (.int 0), (.int 0), (.int 0), (.int 0), (.int 0), (.int 0), (.int 0), (.int 0), (.int 0), (.int 0), (.int 0), (.int 0), (.int 0)] (.int 0)) (I00 : @Ne Nat o3 o0) (I01 : Fld Z h0 o0 cN2 "value" "[B" .null) (I02 : @LT.lt Nat instLTNat o0 h0.size) :
 own_Met l Z h0 mN18 B04 2 (Option.none : Option FieldType) ws (own_R 4 1 17 65) #[(.ref o0), (.ref o1)] (fun v h L => (∃ o2 : Nat, ∃ m0 : ClassId, v = none ∧ Fr n0 L ∧ Keep h0 h [o0] ∧ h0.size ≤ o2 ∧ Fld Z h o0 cN2 "coder" "B" (.int 0) ∧ Fld Z h o0 cN2 "value" "[B" (.ref o2) ∧ Exa Z h o0 cN2 ∧ Arv Z h o2 m0 .byte 17 [(.int (i1.toInt8.toInt32)), (.int 58), (.int 32), (.int 110), (.int 111), (.int 116), (.int 32), (.int 85), (.int 84), (.int 70), (.int 45), (.int 56), (.int 32), (.int 116), (.int 101), (.int 120), (.int 116)] (.int 0) ∧ Exa Z h o2 "[B" ∧ @LT.lt Nat instLTNat o2 h.size)) 1 17 := own_go own_pn18 fun p e s m below meth c s₁ hns hrt hnm hml hZ hx hby hown X0 e0 => by
 have N0 := Fr.nil n0
 refine own_cast (own_ef1 m o0 o1) ?_
 refine oAN X0 hx hby dd14_0 rfl rfl ?_
 refine oAN X0 hx hby dd14_1 rfl rfl ?_
 refine oS (fun _ => XS.aconstNull X0.here hx rfl (hb hby dd14_2) ) ?_
 have y0 : @LT.lt Nat instLTNat o0 h0.size := by omega
 refine own_cN X0 hx hZ hown e0 (y := mN17) (b := o0) rfl (hw 105) (hw 106) (hw 3) (hw 107) (by decide) (W := 0) (own_rm59 l Z a0 hw [] i0 i1 m1 o0 o1 o3 h0 n0 Z0 O0 I0 I1 I2 I3 I4 I5 I6 I7 I8 I9 I00 I01 y0) [(.ref o1), .null] [] hml (lenOf own_pd14 rfl) (hb hby dd14_3) fun T0 h1 v0 L0 X1 e1 q0 => ?_
 obtain ⟨o2, m0, rfl, N1, K0, F5, F0, F1, F2, F3, F4, F6⟩ := q0
 have N2 := Fr.app N0 N1
 have z0 := K0.1
 have y1 : @LT.lt Nat instLTNat o2 h1.size := by omega
 have K1 : Keep h0 h1 [o0] := ((Keep.refl h0 [o0]).trans K0 (allS (Or.inl (by simp)) all0))
 exact own_retV X1 hx hns hrt (hb hby dd14_6) e1 (by decide) (by decide) (⟨o2, m0, rfl, N2, K1, (by omega), F0, F1, F2, F3, F4, y1⟩)
theorem own_rm57 (l : Launch) (Z : State) (a0 : Array Value) (hw : own_W a0 Z) (ws : List Jvm.Cond) (i0 i1 : Int32) (m1 : ClassId) (o1 o3 : Nat) (h0 : Heap) (n0 : Nat) (Z1 : n0 ≤ h0.size) (O0 : Old Z n0 h0) (I0 : Fld Z h0 o1 cN3 "value" "[B" (.ref o3)) (I1 : Exa Z h0 o1 cN4) (I2 : Fld Z h0 o1 cN3 "count" "I" (.int 17)) (I3 : Sta Z Z.heap cN2 "COMPACT_STRINGS" "Z" (.int i0)) (I4 : ¬ (i0 = 0)) (I5 : Fld Z h0 o1 cN3 "coder" "B" (.int 0)) (I6 : Arv Z h0 o3 m1 .byte 34 [(.int (i1.toInt8.toInt32)), (.int 58), (.int 32), (.int 110), (.int 111), (.int 116), (.int 32), (.int 85), (.int 84), (.int 70), (.int 45), (.int 56), (.int 32), (.int 116), (.int 101), (.int 120), (.int 116), (.int 0), (.int 0), (.int 0), (.int 0), (.int 0), (.int 0), (.int 0), (.int 0), (.int 0), (.int 0), (.int 0), (.int 0), (.int 0), (.int 0), (.int 0), (.int 0), (.int 0)] (.int 0)) (I7 : @LT.lt Nat instLTNat o3 h0.size) :
 own_Met l Z h0 mN19 B03 1 (Option.some (FieldType.object cN2)) ws (own_R 5 2 21 79) #[(.ref o1)] (fun v h L => (∃ o0 : Nat, ∃ o2 : Nat, ∃ m0 : ClassId, v = some (.ref o0) ∧ Fr n0 L ∧ Keep h0 h [] ∧ h0.size ≤ o0 ∧ o0 < o2 ∧ Exa Z h o0 cN2 ∧ Fld Z h o0 cN2 "value" "[B" (.ref o2) ∧ Fld Z h o0 cN2 "coder" "B" (.int 0) ∧ Arv Z h o2 m0 .byte 17 [(.int (i1.toInt8.toInt32)), (.int 58), (.int 32), (.int 110), (.int 111), (.int 116), (.int 32), (.int 85), (.int 84), (.int 70), (.int 45), (.int 56), (.int 32), (.int 116), (.int 101), (.int 120), (.int 116)] (.int 0) ∧ Exa Z h o2 "[B" ∧ @LT.lt Nat instLTNat o0 h.size ∧ @LT.lt Nat instLTNat o2 h.size)) 2 21 := own_go own_pn19 fun p e s m below meth c s₁ hns hrt hnm hml hZ hx hby hown X1 e0 => by
 have N0 := Fr.nil n0
 refine own_cast (own_ef3 m o1) ?_
 obtain ⟨T0, h1, X0, e1, E0, A0, D0, U0, s0⟩ := newO X1 hx hZ hown (hw 101) (hw 2) (hw 3) e0 (g := (mkF m 0 #[rv o1] [])) rfl (hb hby dd13_0) (by decide) (by decide)
 obtain ⟨o0, g0⟩ : ∃ z, z = h0.size := ⟨_, rfl⟩
 rw [← g0] at A0 D0 U0 s0
 have z0 := E0.1
 have y3 : @LT.lt Nat instLTNat o0 h1.size := A0.lt
 refine oS s0 ?_
 have F0 : Fld Z h1 o0 cN2 "value" "[B" .null := D0 (Or.inr (hw 16)) (ty := (.array .byte)) (by decide)
 have F1 : Fld Z h1 o0 cN2 "coder" "B" (.int 0) := D0 (Or.inr (hw 17)) (ty := .byte) (by decide)
 refine oS (fun _ => XS.dup X0.here hx rfl (hb hby dd13_3) rfl rfl) ?_
 refine oAN X0 hx hby dd13_4 rfl rfl ?_
 have F2 := Fld.ext E0 I0
 have F3 := Exa.ext E0 I1
 have F4 := Fld.ext E0 I2
 have F5 := Fld.ext E0 I5
 have N1 : n0 ≤ o0 := by omega
 have F6 := I6.ext E0
 have N2 : @Ne Nat o3 o0 := by omega
 have y0 : @LT.lt Nat instLTNat o0 h1.size := by omega
 have O1 : Old Z n0 h1 := O0.ext E0
 have Z0 : n0 ≤ h1.size := by omega
 refine own_cN X0 hx hZ hown e1 (y := mN18) (b := o0) rfl (hw 102) (hw 103) (hw 3) (hw 104) (by decide) (W := 1) (own_rm58 l Z a0 hw [] i0 i1 m1 o0 o1 o3 h1 n0 Z0 O1 F2 F3 F4 I3 I4 F5 F1 A0 N1 F6 N2 F0 y0) [(.ref o1)] [(.ref o0)] hml (lenOf own_pd15 rfl) (hb hby dd13_5) fun T1 h2 v0 L0 X2 e2 q0 => ?_
 obtain ⟨o2, m0, rfl, N3, K0, F02, F7, F8, F9, F00, F01, F03⟩ := q0
 have N4 := Fr.app N0 N3
 have z1 := K0.1
 have y1 : @LT.lt Nat instLTNat o0 h2.size := by omega
 have y2 : @LT.lt Nat instLTNat o2 h2.size := by omega
 have K1 : Keep h0 h2 [] := (((Keep.refl h0 []).ext E0).trans K0 (allS (Or.inr (by omega)) all0))
 exact own_retA X2 hx hns hrt rfl rfl (hb hby dd13_8) e2 (by decide) (by decide) (⟨o0, o2, m0, rfl, N4, K1, (by omega), (by omega), F9, F8, F7, F00, F01, y1, y2⟩)
def own_Q46 (Z : State) (ob_1853 : Nat) (in_5 : Int32) (ob_2042 : Nat) (kk_2043 : ClassId) (in_1799 : Int32) (ob_8 : Nat) (ob_10 : Nat) (h0 : Heap) (n0 : Nat) (vm : Vm) (v : Option Value) (h : Heap) (L : List Loc) : Prop := (∃ ob_2406 : Nat, ∃ ob_3276 : Nat, ∃ ob_3277 : Nat, ∃ kk_3278 : ClassId, v = some (.ref ob_2406) ∧ Fr n0 L ∧ Keep h0 h [] ∧ h0.size ≤ ob_2406 ∧ ob_2406 < ob_3276 ∧ ob_3276 < ob_3277 ∧ Exa Z h ob_2406 cN5 ∧ Fld Z h ob_2406 cN6 "detailMessage" cN7 (.ref ob_3276) ∧ Exa Z h ob_3276 cN2 ∧ Fld Z h ob_3276 cN2 "value" "[B" (.ref ob_3277) ∧ Fld Z h ob_3276 cN2 "coder" "B" (.int 0) ∧ Arv Z h ob_3277 kk_3278 .byte 17 [(.int (in_1799.toInt8.toInt32)), (.int 58), (.int 32), (.int 110), (.int 111), (.int 116), (.int 32), (.int 85), (.int 84), (.int 70), (.int 45), (.int 56), (.int 32), (.int 116), (.int 101), (.int 120), (.int 116)] (.int 0) ∧ Exa Z h ob_3277 "[B" ∧ @LT.lt Nat instLTNat ob_2406 h.size ∧ @LT.lt Nat instLTNat ob_3276 h.size ∧ Safe Z own_EL vm h ob_3276 ∧ @LT.lt Nat instLTNat ob_3277 h.size ∧ Safe Z own_EL vm h ob_3277)
theorem own_rm46 (l : Launch) (hl : l.stackTraces = true) (Z : State) (a0 : Array Value) (hw : own_W a0 Z) (hEL : EW Z a0 own_EL) (ws : List Jvm.Cond) (o2 : Nat) (i0 : Int32) (o5 : Nat) (m0 : ClassId) (i1 : Int32) (o8 : Nat) (o9 : Nat) (h0 : Heap) (n0 : Nat) (Z4 : n0 ≤ h0.size) (O4 : Old Z n0 h0) (I0 : Sta Z Z.heap cN2 "COMPACT_STRINGS" "Z" (.int i0)) (I1 : ¬ (i0 = 0)) (I2 : Fld Z h0 o2 cN2 "value" "[B" (.ref o5)) (I8 : @LT.lt Nat instLTNat o2 h0.size) (I3 : Arv Z h0 o5 m0 .byte 1 [(.int (i1.toInt8.toInt32))] (.int 0)) (I9 : @LT.lt Nat instLTNat o5 h0.size) (I4 : Fld Z h0 o2 cN2 "coder" "B" (.int 0)) (I5 : Exa Z h0 o2 cN2) (I6 : Sta Z Z.heap cN6 cN8 cN9 (.ref o8)) (I7 : Sta Z Z.heap cN6 cN10 cN11 (.ref o9)) :
 own_MetWK own_KN l Z own_EL [o2] h0 mN20 B2 1 (Option.some (FieldType.object cN5)) ws ({ frames := 6, cells := 9, slots := 2901, locals := 93 } : Room) #[(.ref o2)] (own_Q46 Z o2 i0 o5 m0 i1 o8 o9 h0 n0) 9 2901 := by
 refine MetFree.of_bodySF own_pn20 hisR ?_
 intro p e s m args below meth c s₁ Bd hml0 hP hK
 obtain ⟨rfl, hZ, hh, hCH, hsf⟩ := hP
 have hx := Bd.exec
 have hby := Bd.bytes
 have hml : c.maxLocals = 1 := hml0
 have hown : (s.setVm s.vm).vm.findClass cN0 = some m.cls := findClass_of_methodNamed Bd.named
 have hnm := (name_of_methodNamed Bd.named Bd.method).1
 have hZ0 : Z.Warmed39 s.vm := hZ
 have hZ : Z.Warmed39 (s.setVm s.vm).vm := hZ
 have hS : s.Since s.vm 0 := (State.WarmedH.refl s).since 0
 have X3 : Stand p l e ({ frames := 6, cells := 9, slots := 2901, locals := 93 } : Room) (s.setVm s.vm) m #[(.ref o2)] below meth c s₁ [] 0 0 := Stand.of_body Bd
 have e0 : s₁.heap = h0 := by rw [← hh, Bd.state]; rfl
 have hR : CHr Z own_EL s.vm h0 s.vm h0 := CHr.refl hCH
 obtain ⟨hTK, hBel⟩ := hK
 have N7 := Fr.nil n0
 show own_G p e below (s₁.setTop (entryFrame m #[(.ref o2)] 1)) (own_PW Z own_EL s (own_Q46 Z o2 i0 o5 m0 i1 o8 o9 h0 n0) 9 2901)
 refine own_cast (own_ef3 m o2) ?_
 show own_G p e below (s₁.setTop (mkF m 0 #[rv o2] [])) _
 obtain ⟨T1, h2, X0, e1, E2, A2, D0, U0, s0⟩ := newO X3 hx hZ hown (hw 26) (hw 27) (hw 28) e0 (g := (mkF m 0 #[rv o2] [])) rfl (hb hby dd2_0) (by decide) (by decide)
 obtain ⟨o0, g0⟩ : ∃ z, z = h0.size := ⟨_, rfl⟩
 rw [← g0] at A2 D0 U0 s0
 have z0 := E2.1
 have y00 : @LT.lt Nat instLTNat o0 h2.size := A2.lt
 refine oS s0 ?_
 have R4 : CHr Z own_EL s.vm h0 s.vm h2 := hR.trans (CHr.ext E2 hR.1)
 have F5 : Fld Z h2 o0 cN6 "cause" cN12 .null := D0 (Or.inl (hw 155)) (ty := (.object cN6)) (by decide)
 have F6 : Fld Z h2 o0 cN6 "stackTrace" cN9 .null := D0 (Or.inl (hw 158)) (ty := (.array (.object cN13))) (by decide)
 have F7 : Fld Z h2 o0 cN6 cN14 cN11 .null := D0 (Or.inl (hw 161)) (ty := (.object "java/util/List")) (by decide)
 have F8 : Fld Z h2 o0 cN6 "detailMessage" cN7 .null := D0 (Or.inl (hw 185)) (ty := (.object cN2)) (by decide)
 have F9 : Fld Z h2 o0 cN6 "backtrace" cN15 .null := D0 (Or.inl (hw 186)) (ty := (.object cN16)) (by decide)
 have F0M : Fld Z h2 o0 cN6 "depth" "I" (.int 0) := D0 (Or.inl (hw 187)) (ty := .int) (by decide)
 refine oS (fun _ => XS.dup X0.here hx rfl (hb hby dd2_3) rfl rfl) ?_
 obtain ⟨T2, h1, X1, e2, E0, A0, D1, U1, s1⟩ := newO X0 hx hZ hown (hw 29) (hw 30) (hw 31) e1 (g := (mkF m 4 #[rv o2] [(.ref o0), (.ref o0)])) rfl (hb hby dd2_4) (by decide) (by decide)
 obtain ⟨o1, g1⟩ : ∃ z, z = h2.size := ⟨_, rfl⟩
 rw [← g1] at A0 D1 U1 s1
 have z1 := E0.1
 have y01 : @LT.lt Nat instLTNat o1 h1.size := A0.lt
 refine oS s1 ?_
 have R0 : CHr Z own_EL s.vm h0 s.vm h1 := R4.trans (CHr.ext E0 R4.1)
 have F00 : Fld Z h1 o1 cN3 "value" "[B" .null := D1 (Or.inl (hw 44)) (ty := (.array .byte)) (by decide)
 have F01 : Fld Z h1 o1 cN3 "coder" "B" (.int 0) := D1 (Or.inl (hw 46)) (ty := .byte) (by decide)
 have F02 : Fld Z h1 o1 cN3 "count" "I" (.int 0) := D1 (Or.inl (hw 69)) (ty := .int) (by decide)
 refine oS (fun _ => XS.dup X1.here hx rfl (hb hby dd2_7) rfl rfl) ?_
 have N1 : n0 ≤ o1 := by omega
 have y2 : @LT.lt Nat instLTNat o1 h1.size := by omega
 have O5 : Old Z n0 h2 := O4.ext E2
 have O0 : Old Z n0 h1 := O5.ext E0
 have Z0 : n0 ≤ h1.size := by omega
 obtain ⟨T3, h7, v0, L0, X2, e3, q0, s2⟩ := own_callN X1 hx hZ hown e2 (y := mN3) (b := o1) rfl (hw 32) (hw 33) (hw 31) (hw 34) (by decide) (W := 3) (own_rm8 l Z a0 hw [] i0 o1 h1 n0 Z0 O0 I0 I1 F00 A0 N1 F01 F02 y2) (by decide) (by decide) (by decide) (by decide) (g := (mkF m 8 #[rv o2] [(.ref o1), (.ref o1), (.ref o0), (.ref o0)])) rfl (by rw [hml]; rfl) (argsL := []) (rest := [(.ref o1), (.ref o0), (.ref o0)]) rfl (lenOf own_pd3 rfl) rfl (by show 2 * 0 + _ ≤ _; exact Nat.le_of_eq rfl) (hb hby dd2_8)
 refine oS s2 ?_
 obtain ⟨o3, m1, rfl, N8, K0, F0N, F03, F0, F04, F05, F06, F07, F0O⟩ := q0
 have N9 := Fr.app N7 N8
 have S0 : Safe Z own_EL s.vm h1 o1 := Safe.exa hZ.alike A0 (by decide) (by decide)
 have R1 : CHr Z own_EL s.vm h0 s.vm h7 := R0.trans (CHr.keep K0 (sfS S0 sf0) R0.1)
 have z2 := K0.1
 have S8 : Safe Z own_EL s.vm h1 o3 := Safe.new (by omega)
 refine oS (fun _ => XS.aloadN X2.here hx rfl (hb hby dd2_11) rfl rfl) ?_
 have N3 : @Ne Nat o2 o1 := by omega
 have F08 := (Fld.ext E0 (Fld.ext E2 I2)).keep K0 (ninS N3 nin0)
 have N00 : @Ne Nat o5 o1 := by omega
 have F09 := ((I3.ext E2).ext E0).keep K0 (ninS N00 nin0)
 have F0a := (Fld.ext E0 (Fld.ext E2 I4)).keep K0 (ninS N3 nin0)
 have F0b := (Exa.ext E0 (Exa.ext E2 I5)).keep K0
 have N4 : n0 ≤ o3 := by omega
 have N01 : @Ne Nat o1 o3 := by omega
 have O1 : Old Z n0 h7 := O0.keep K0 (allS N1 all0)
 have Z1 : n0 ≤ h7.size := by omega
 obtain ⟨T4, h5, v1, L1, X4, e4, q1, s3⟩ := own_callV X2 hx hZ hown e3 (y := mN11) (z := mN11) (C := cN4) (b := o1) (hw 47) (hw 48) (notFace_of_selects (args := #[]) (mvT hZ (hw 50))) (hw 50) (hw 49) (hw 31) (hw 51) (by decide) F0 (W := 2) (own_rm40 l Z a0 hw [] i1 i0 m0 m1 o1 o2 o5 o3 h7 n0 Z1 O1 F08 F09 I0 I1 F0a F0b F05 F03 F06 F04 F0 N4 F07 N01 N1) (by decide) (by decide) (by decide) (by decide) (g := (mkF m 12 #[rv o2] [(.ref o2), (.ref o1), (.ref o0), (.ref o0)])) rfl (by rw [hml]; rfl) (argsL := [(.ref o2)]) (rest := [(.ref o0), (.ref o0)]) rfl (lenOf own_pd10 rfl) rfl (by show 2 * 0 + _ ≤ _; exact Nat.le_of_eq rfl) (hb hby dd2_12)
 refine oS s3 ?_
 obtain ⟨rfl, N02, K1, F0c, F0P, F0d, F0e, F0f, F0g⟩ := q1
 have N03 := Fr.app N9 N02
 have S1 := Safe.keep K0 (sfS S0 sf0) R0.1 S8
 have S2 := Safe.keep K0 (sfS S0 sf0) R0.1 S0
 have R6 : CHr Z own_EL s.vm h0 s.vm h5 := R1.trans (CHr.keep K1 (sfS S1 (sfS S2 sf0)) R1.1)
 have z3 := K1.1
 obtain ⟨o4, T0, h3, k0, o7, m2, X5, e5, E1, hS, hk, hZ, hown, F0h, F0i, F0j, F0k, y3, y4, A1, L2, M0, s4⟩ := ldcCH X4 hx hZ hown (hw 95) (own_sk (own_Wall hw)) e4 hS (by omega) hEL (by decide) R6.1 (vs := [(.int 58), (.int 32), (.int 110), (.int 111), (.int 116), (.int 32), (.int 85), (.int 84), (.int 70), (.int 45), (.int 56), (.int 32), (.int 116), (.int 101), (.int 120), (.int 116)]) (z := 16) ⟨by decide, by decide +kernel⟩ (by decide) rfl (g := (mkF m 15 #[rv o2] [(.ref o1), (.ref o0), (.ref o0)])) rfl (hb hby dd2_15) (n := 64) (by decide) (by decide) (by decide) (by decide)
 have z4 := E1.1
 refine oS s4 ?_
 have R5 : CHr Z own_EL s.vm h0 T0.vm h3 := R6.trans A1
 have y02 : @LT.lt Nat instLTNat o4 h3.size := y3
 have y03 : @LT.lt Nat instLTNat o7 h3.size := y4
 have S9 := Safe.ext E2 hR.1 (hsf o2 (by simp))
 have S00 := Safe.ext E0 R4.1 S9
 have S01 := Safe.keep K0 (sfS S0 sf0) R0.1 S00
 have S02 := Safe.keep K1 (sfS S1 (sfS S2 sf0)) R1.1 S01
 have y5 : @LT.lt Nat instLTNat o2 h5.size := by omega
 have S6 := A1.safe y5 S02
 have N0c : @Ne Nat o2 o4 := (M0 o2 S6).1
 have N0d : @Ne Nat o2 o7 := (M0 o2 S6).2
 have F1 := Exa.ext E1 (((Exa.ext E0 A2).keep K0).keep K1)
 have S4 : Safe Z own_EL T0.vm h3 o0 := Safe.exa hZ.alike F1 (by decide) (by decide)
 have N0e : @Ne Nat o0 o4 := (M0 o0 S4).1
 have N0f : @Ne Nat o0 o7 := (M0 o0 S4).2
 have S03 := Safe.keep K1 (sfS S1 (sfS S2 sf0)) R1.1 S1
 have y6 : @LT.lt Nat instLTNat o3 h5.size := by omega
 have S7 := A1.safe y6 S03
 have N0g : @Ne Nat o3 o4 := (M0 o3 S7).1
 have N0h : @Ne Nat o3 o7 := (M0 o3 S7).2
 have S04 := Safe.keep K1 (sfS S1 (sfS S2 sf0)) R1.1 S2
 have y7 : @LT.lt Nat instLTNat o1 h5.size := by omega
 have S3 := A1.safe y7 S04
 have N04 : @Ne Nat o1 o4 := (M0 o1 S3).1
 have N05 : @Ne Nat o1 o7 := (M0 o1 S3).2
 show own_G p e below (T0.setTop (mkF m 17 #[rv o2] [(.ref o4), (.ref o1), (.ref o0), (.ref o0)])) _
 have F0l := Fld.ext E1 F0d
 have F0m := Fld.ext E1 F0f
 have F0n := F0c.ext E1
 have F0o := Fld.ext E1 F0g
 have F2 := Exa.ext E1 F0e
 have y8 : @LT.lt Nat instLTNat o1 h3.size := by omega
 have O6 : Old Z n0 h5 := O1.keep K1 (allS N4 (allS N1 all0))
 have O2 : Old Z n0 h3 := O6.ext E1
 have Z2 : n0 ≤ h3.size := by omega
 obtain ⟨T5, h4, v2, L3, X6, e6, q2, s5⟩ := own_callV X5 hx hZ hown e5 (y := mN11) (z := mN11) (C := cN4) (b := o1) (hw 47) (hw 48) (notFace_of_selects (args := #[]) (mvT hZ (hw 50))) (hw 50) (hw 49) (hw 31) (hw 51) (by decide) F2 (W := 2) (own_rm47 l Z a0 hw [] i0 i1 m2 m1 o1 o4 o7 o3 h3 n0 Z2 O2 F0j F0k I0 I1 F0i F0h F0l F0m F0n F0o F2 N1 y8 (Ne.symm N04) (Ne.symm N05)) (by decide) (by decide) (by decide) (by decide) (g := (mkF m 17 #[rv o2] [(.ref o4), (.ref o1), (.ref o0), (.ref o0)])) rfl (by rw [hml]; rfl) (argsL := [(.ref o4)]) (rest := [(.ref o0), (.ref o0)]) rfl (lenOf own_pd10 rfl) rfl (by show 2 * 0 + _ ≤ _; exact Nat.le_of_eq rfl) (hb hby dd2_17)
 refine oS s5 ?_
 obtain ⟨o01, m3, rfl, N06, K3, F0Q, F0p, F3, F0q, F0r, F0s, F0R, F0t⟩ := q2
 have N07 := Fr.app N03 N06
 have R2 : CHr Z own_EL s.vm h0 T0.vm h4 := R5.trans (CHr.keep K3 (sfS S3 sf0) R5.1)
 have z5 := K3.1
 have S0c : Safe Z own_EL T0.vm h3 o01 := Safe.new (by omega)
 have O3 : Old Z n0 h4 := O2.keep K3 (allS N1 all0)
 have Z3 : n0 ≤ h4.size := by omega
 obtain ⟨T6, h8, v3, L4, X7, e7, q3, s6⟩ := own_callV X6 hx hZ hown e6 (y := mN19) (z := mN19) (C := cN4) (b := o1) (hw 96) (hw 97) (notFace_of_selects (args := #[]) (mvT hZ (hw 99))) (hw 99) (hw 98) (hw 31) (hw 100) (by decide) F3 (W := 2) (own_rm57 l Z a0 hw [] i0 i1 m3 o1 o01 h4 n0 Z3 O3 F0p F3 F0r I0 I1 F0q F0s F0t) (by decide) (by decide) (by decide) (by decide) (g := (mkF m 20 #[rv o2] [(.ref o1), (.ref o0), (.ref o0)])) rfl (by rw [hml]; rfl) (argsL := []) (rest := [(.ref o0), (.ref o0)]) rfl (lenOf own_pd16 rfl) rfl (by show 2 * 0 + _ ≤ _; exact Nat.le_of_eq rfl) (hb hby dd2_20)
 refine oS s6 ?_
 obtain ⟨o6, o00, m4, rfl, N08, K2, F0S, F0T, F0u, F0v, F0w, F0x, F0y, F0U, F0V⟩ := q3
 have N09 := Fr.app N07 N08
 have R3 : CHr Z own_EL s.vm h0 T0.vm h8 := R2.trans (CHr.keep K2 sf0 R2.1)
 have z6 := K2.1
 have S05 : Safe Z own_EL T0.vm h4 o6 := Safe.new (by omega)
 have S06 : Safe Z own_EL T0.vm h4 o00 := Safe.new (by omega)
 have O7 : Old Z n0 h8 := O3.keep K2 all0
 have F4 := (F1.keep K3).keep K2
 have N5 : n0 ≤ o0 := by omega
 have N0 : @Ne Nat o0 o1 := by omega
 have N2 : @Ne Nat o0 o3 := by omega
 have F0z := Unt.keep K2 nin0 (Unt.keep K3 (ninS N0 nin0) (Unt.ext E1 (Unt.keep K1 (ninS N2 (ninS N0 nin0)) (Unt.keep K0 (ninS N0 nin0) (Unt.ext E0 U0)))))
 have F0A := ((Fld.ext E1 (((Fld.ext E0 F5).keep K0 (ninS N0 nin0)).keep K1 (ninS N2 (ninS N0 nin0)))).keep K3 (ninS N0 nin0)).keep K2 nin0
 have F0B := ((Fld.ext E1 (((Fld.ext E0 F6).keep K0 (ninS N0 nin0)).keep K1 (ninS N2 (ninS N0 nin0)))).keep K3 (ninS N0 nin0)).keep K2 nin0
 have F0C := ((Fld.ext E1 (((Fld.ext E0 F7).keep K0 (ninS N0 nin0)).keep K1 (ninS N2 (ninS N0 nin0)))).keep K3 (ninS N0 nin0)).keep K2 nin0
 have F0D := ((Fld.ext E1 (((Fld.ext E0 F9).keep K0 (ninS N0 nin0)).keep K1 (ninS N2 (ninS N0 nin0)))).keep K3 (ninS N0 nin0)).keep K2 nin0
 have F0E := ((Fld.ext E1 (((Fld.ext E0 F8).keep K0 (ninS N0 nin0)).keep K1 (ninS N2 (ninS N0 nin0)))).keep K3 (ninS N0 nin0)).keep K2 nin0
 obtain ⟨T7, h6, v4, L5, X8, e8, q4, s7⟩ := own_callNK X7 hx hZ hown (Vm.MethodsKnown.alikeC (hZ0.alike.symm.trans hZ.alike) hTK) (Vm.FramesKnown.alikeC (hZ0.alike.symm.trans hZ.alike) hBel) e7 (y := ⟨cN5, "<init>", "(Ljava/lang/String;)V"⟩) (b := o0) rfl (hw 139) (hw 140) (hw 28) (hw 141) (by decide) (W := 1) (own_k3 l hl Z a0 hw [] o0 o6 o8 o9 h8 n0 O7 F4 N5 F0z I6 I7 F0A F0B F0C F0D F0E) (by decide) (by decide) (by decide) (by decide) (g := (mkF m 23 #[rv o2] [(.ref o6), (.ref o0), (.ref o0)])) rfl (by rw [hml]; rfl) (argsL := [(.ref o6)]) (rest := [(.ref o0)]) rfl (lenOf own_pdS rfl) rfl (by show 2 * 0 + _ ≤ _; exact Nat.le_of_eq rfl) (hb hby dd2_23)
 refine oS s7 ?_
 obtain ⟨rfl, B0, K4, F0F⟩ := q4
 have N0a := Fr.app N09 (fun y hy => by rw [B0 y hy]; exact N5)
 have S07 := Safe.keep K3 (sfS S3 sf0) R5.1 S4
 have S5 := Safe.keep K2 sf0 R2.1 S07
 have R7 : CHr Z own_EL s.vm h0 T0.vm h6 := R3.trans (CHr.keep K4 (sfS S5 sf0) R3.1)
 have z7 := K4.1
 have F0G := F4.keep K4
 have F0H := F0u.keep K4
 have N6 : @Ne Nat o6 o0 := by omega
 have F0I := F0v.keep K4 (ninS N6 nin0)
 have F0J := F0w.keep K4 (ninS N6 nin0)
 have N0b : @Ne Nat o00 o0 := by omega
 have F0K := F0x.keep K4 (ninS N0b nin0)
 have F0L := F0y.keep K4
 have y9 : @LT.lt Nat instLTNat o0 h6.size := by omega
 have y0 : @LT.lt Nat instLTNat o6 h6.size := by omega
 have S08 := Safe.keep K2 sf0 R2.1 S05
 have S09 := Safe.keep K4 (sfS S5 sf0) R3.1 S08
 have y1 : @LT.lt Nat instLTNat o00 h6.size := by omega
 have S0a := Safe.keep K2 sf0 R2.1 S06
 have S0b := Safe.keep K4 (sfS S5 sf0) R3.1 S0a
 have K5 : Keep h0 h6 [] := (((((((((Keep.refl h0 []).ext E2).ext E0).trans K0 (allS (Or.inr (by omega)) all0)).trans K1 (allS (Or.inr (by omega)) (allS (Or.inr (by omega)) all0))).ext E1).trans K3 (allS (Or.inr (by omega)) all0)).trans K2 all0).trans K4 (allS (Or.inr (by omega)) all0))
 exact own_retAW X8 hx Bd.notSynchronized Bd.returns rfl rfl (hb hby dd2_26) hS hZ hEL hh R7 e8 (by omega) (by decide) (by decide) (fun hA => ⟨o0, o6, o00, m4, rfl, N0a, K5, (by omega), (by omega), (by omega), F0G, F0F, F0H, F0I, F0J, F0K, F0L, y9, y0, (hA.safe y0 S09), y1, (hA.safe y1 S0b)⟩)
theorem own_rm66 (l : Launch) (Z : State) (a0 : Array Value) (hw : own_W a0 Z) (ws : List Jvm.Cond) (i1 i0 : Int32) (m0 : ClassId) (o0 o1 : Nat) (h0 : Heap) (n0 : Nat) (Z0 : n0 ≤ h0.size) (O0 : Old Z n0 h0) (I0 : Fld Z h0 o0 cN2 "value" "[B" (.ref o1)) (I1 : Arv Z h0 o1 m0 .byte 17 [(.int (i1.toInt8.toInt32)), (.int 58), (.int 32), (.int 110), (.int 111), (.int 116), (.int 32), (.int 85), (.int 84), (.int 70), (.int 45), (.int 56), (.int 32), (.int 116), (.int 101), (.int 120), (.int 116)] (.int 0)) (I2 : Sta Z Z.heap cN2 "COMPACT_STRINGS" "Z" (.int i0)) (I3 : ¬ (i0 = 0)) (I4 : Fld Z h0 o0 cN2 "coder" "B" (.int 0)) (I5 : Exa Z h0 o0 cN2) :
 own_Met l Z h0 mN5 B7 1 (Option.some FieldType.int) ws (own_R 1 0 0 13) #[(.ref o0)] (fun v h L => (v = some (.int 17) ∧ Fr n0 L ∧ h = h0)) 0 0 := own_go own_pn5 fun p e s m below meth c s₁ hns hrt hnm hml hZ hx hby hown X1 e1 => by
 have N0 := Fr.nil n0
 refine own_cast (own_ef3 m o0) ?_
 refine oAN X1 hx hby dd7_0 rfl rfl ?_
 refine own_gF X1 hx hZ hown (hw 20) e1 I0 (hb hby dd7_1) fun T0 X0 e0 => ?_
 refine oS (own_len X0 hx hZ e0 I1 rfl rfl (hb hby dd7_4)) ?_
 refine oAN X0 hx hby dd7_5 rfl rfl ?_
 refine own_cV X0 hx hZ hown e0 (y := mN4) (z := mN4) (b := o0) (hw 62) (hw 63) (notFace_of_selects (args := #[]) (mvT hZ (hw 65))) (hw 65) (hw 64) (hw 3) (hw 66) (by decide) I5 (W := 1) (own_rm13 l Z a0 hw [] i0 o0 h0 n0 Z0 O0 I2 I3 I4) [] [(.int 17)] hml (lenOf own_pd4 rfl) (hb hby dd7_6) fun T1 h1 v0 L0 X2 e2 q0 => ?_
 obtain ⟨rfl, N1, K0⟩ := q0
 have N2 := Fr.app N0 N1
 have e3 := e2.trans K0
 refine oS (fun _ => XT.ishr X2.here hx rfl (hb hby dd7_9) rfl) ?_
 exact own_retI X2 hx hns hrt (hb hby dd7_10) e3 (by decide) (by decide) (⟨rfl, N2, rfl⟩)
theorem own_rm70 (l : Launch) (Z : State) (a0 : Array Value) (hw : own_W a0 Z) (ws : List Jvm.Cond) (i0 i1 : Int32) (m1 m0 : ClassId) (o1 o0 : Nat) (h0 : Heap) (n0 : Nat) (Z0 : n0 ≤ h0.size) (O0 : Old Z n0 h0) (I0 : Arv Z h0 o1 m1 .char 2 [(.int i0), (.int i1)] (.int 0)) (I2 : ¬ (255 < i0)) (I3 : Arv Z h0 o0 m0 .byte 2 [(.int 0), (.int 0)] (.int 0)) (I1 : n0 ≤ o0) (I4 : @Ne Nat o1 o0) (I5 : ¬ (255 < i1)) (I6 : Exa Z h0 o0 "[B") :
 own_Met l Z h0 mN22 B0d 7 (Option.some FieldType.int) ws (own_R 0 0 0 0) #[(.ref o1), (.int 0), (.ref o0), (.int 0), (.int 2)] (fun v h L => (v = some (.int 2) ∧ Fr n0 L ∧ Keep h0 h [o0] ∧ Arv Z h o0 m0 .byte 2 [(.int (i0.toInt8.toInt32)), (.int (i1.toInt8.toInt32))] (.int 0) ∧ Exa Z h o0 "[B")) 0 0 := own_go own_pn22 fun p e s m below meth c s₁ hns hrt hnm hml hZ hx hby hown X1 e0 => by
 have N0 := Fr.nil n0
 refine own_cast (own_ef12 m o1 0 o0 0 2) ?_
 refine oIC X1 hx hby dd23_0 ?_
 refine oIS X1 hx hby dd23_1 (l' := #[rv o1, iv 0, rv o0, iv 0, iv 2, iv 0, .unset]) rfl ?_
 refine oIL X1 hx hby dd23_3 rfl ?_
 refine oIL X1 hx hby dd23_5 rfl ?_
 refine oNI X1 hx hby dd23_7 (XT.ii_ge_f (by decide)) ?_
 refine oAN X1 hx hby dd23_10 rfl rfl ?_
 refine oIN X1 hx hby dd23_11 rfl ?_
 refine oS (own_caload X1 hx hZ e0 I0 (by decide) (v := (.int i0)) rfl rfl rfl (hb hby dd23_12)) ?_
 refine oIS X1 hx hby dd23_13 (l' := #[rv o1, iv 0, rv o0, iv 0, iv 2, iv 0, iv i0]) rfl ?_
 refine oIL X1 hx hby dd23_15 rfl ?_
 show own_G p e below (s₁.setTop (mkF m 17 #[rv o1, iv 0, rv o0, iv 0, iv 2, iv 0, iv i0] [(.int i0)])) _
 refine oS (fun _ => XS.sipush X1.here hx rfl (hb hby dd23_17) ) ?_
 refine oYI X1 hx hby (pc' := 26) dd23_20 (XT.ii_le_t I2) ?_
 refine oAN X1 hx hby dd23_26 rfl rfl ?_
 refine oIN X1 hx hby dd23_27 rfl ?_
 refine oIL X1 hx hby dd23_28 rfl ?_
 refine oS (fun _ => XT.i2b X1.here hx rfl (hb hby dd23_30) rfl) ?_
 obtain ⟨T0, h2, X0, e1, W0, A0, s0⟩ := own_stB X1 hx hZ e0 I3 (x' := (i0.toInt8.toInt32)) 0 (own_narB _) rfl (by decide) (by simp) (g := (mkF m 31 #[rv o1, iv 0, rv o0, iv 0, iv 2, iv 0, iv i0] [(.int (i0.toInt8.toInt32)), (.int 0), (.ref o0)])) rfl (rest := []) rfl (hb hby dd23_31)
 have N1 := Fr.snoc X0 N0 I1
 have z0 := W0.size
 have F0 : Arv Z h2 o0 m0 .byte 2 [(.int (i0.toInt8.toInt32)), (.int 0)] (.int 0) := A0
 refine oS s0 ?_
 refine oS (fun _ => XS.iinc X0.here hx rfl (hb hby dd23_32) rfl (l' := #[rv o1, iv 1, rv o0, iv 0, iv 2, iv 0, iv i0]) rfl) ?_
 refine oS (fun _ => XS.iinc X0.here hx rfl (hb hby dd23_35) rfl (l' := #[rv o1, iv 1, rv o0, iv 1, iv 2, iv 0, iv i0]) rfl) ?_
 refine oS (fun _ => XS.iinc X0.here hx rfl (hb hby dd23_38) rfl (l' := #[rv o1, iv 1, rv o0, iv 1, iv 2, iv 1, iv i0]) rfl) ?_
 show own_G p e below (T0.setTop (mkF m 41 #[rv o1, iv 1, rv o0, iv 1, iv 2, iv 1, iv i0] [])) _
 refine oGO X0 hx hby (pc' := 3) dd23_41 ?_
 refine oIL X0 hx hby dd23_3 rfl ?_
 refine oIL X0 hx hby dd23_5 rfl ?_
 refine oNI X0 hx hby dd23_7 (XT.ii_ge_f (by decide)) ?_
 refine oAN X0 hx hby dd23_10 rfl rfl ?_
 refine oIN X0 hx hby dd23_11 rfl ?_
 have F1 := I0.other W0 I4
 refine oS (own_caload X0 hx hZ e1 F1 (by decide) (v := (.int i1)) rfl rfl rfl (hb hby dd23_12)) ?_
 refine oIS X0 hx hby dd23_13 (l' := #[rv o1, iv 1, rv o0, iv 1, iv 2, iv 1, iv i1]) rfl ?_
 refine oIL X0 hx hby dd23_15 rfl ?_
 refine oS (fun _ => XS.sipush X0.here hx rfl (hb hby dd23_17) ) ?_
 show own_G p e below (T0.setTop (mkF m 20 #[rv o1, iv 1, rv o0, iv 1, iv 2, iv 1, iv i1] [(.int 255), (.int i1)])) _
 refine oYI X0 hx hby (pc' := 26) dd23_20 (XT.ii_le_t I5) ?_
 refine oAN X0 hx hby dd23_26 rfl rfl ?_
 refine oIN X0 hx hby dd23_27 rfl ?_
 refine oIL X0 hx hby dd23_28 rfl ?_
 refine oS (fun _ => XT.i2b X0.here hx rfl (hb hby dd23_30) rfl) ?_
 obtain ⟨T1, h1, X2, e2, W1, A1, s1⟩ := own_stB X0 hx hZ e1 F0 (x' := (i1.toInt8.toInt32)) 1 (own_narB _) rfl (by decide) (by simp) (g := (mkF m 31 #[rv o1, iv 1, rv o0, iv 1, iv 2, iv 1, iv i1] [(.int (i1.toInt8.toInt32)), (.int 1), (.ref o0)])) rfl (rest := []) rfl (hb hby dd23_31)
 have N2 := Fr.snoc X2 N1 I1
 have z1 := W1.size
 have F2 : Arv Z h1 o0 m0 .byte 2 [(.int (i0.toInt8.toInt32)), (.int (i1.toInt8.toInt32))] (.int 0) := A1
 refine oS s1 ?_
 refine oS (fun _ => XS.iinc X2.here hx rfl (hb hby dd23_32) rfl (l' := #[rv o1, iv 2, rv o0, iv 1, iv 2, iv 1, iv i1]) rfl) ?_
 refine oS (fun _ => XS.iinc X2.here hx rfl (hb hby dd23_35) rfl (l' := #[rv o1, iv 2, rv o0, iv 2, iv 2, iv 1, iv i1]) rfl) ?_
 refine oS (fun _ => XS.iinc X2.here hx rfl (hb hby dd23_38) rfl (l' := #[rv o1, iv 2, rv o0, iv 2, iv 2, iv 2, iv i1]) rfl) ?_
 refine oGO X2 hx hby (pc' := 3) dd23_41 ?_
 show own_G p e below (T1.setTop (mkF m 3 #[rv o1, iv 2, rv o0, iv 2, iv 2, iv 2, iv i1] [])) _
 refine oIL X2 hx hby dd23_3 rfl ?_
 refine oIL X2 hx hby dd23_5 rfl ?_
 refine oYI X2 hx hby (pc' := 44) dd23_7 (XT.ii_ge_t (by decide)) ?_
 refine oIL X2 hx hby dd23_44 rfl ?_
 have F3 := Exa.wr W1 (Exa.wr W0 I6)
 have K0 : Keep h0 h1 [o0] := (((Keep.refl h0 [o0]).wr W0 (Or.inl (by simp))).wr W1 (Or.inl (by simp)))
 exact own_retI X2 hx hns hrt (hb hby dd23_46) e2 (by decide) (by decide) (⟨rfl, N2, K0, F2, F3⟩)
theorem own_rm69 (l : Launch) (Z : State) (a0 : Array Value) (hw : own_W a0 Z) (ws : List Jvm.Cond) (i0 i1 : Int32) (m1 : ClassId) (o1 : Nat) (h0 : Heap) (n0 : Nat) (Z1 : n0 ≤ h0.size) (O0 : Old Z n0 h0) (I0 : Arv Z h0 o1 m1 .char 2 [(.int i0), (.int i1)] (.int 0)) (I1 : ¬ (255 < i0)) (I3 : @LT.lt Nat instLTNat o1 h0.size) (I2 : ¬ (255 < i1)) :
 own_Met l Z h0 mN23 B0c 6 (Option.some (FieldType.array FieldType.byte)) ws (own_R 1 1 2 18) #[(.ref o1), (.int 0), (.int 2)] (fun v h L => (∃ o0 : Nat, ∃ m0 : ClassId, v = some (.ref o0) ∧ Fr n0 L ∧ Keep h0 h [] ∧ h0.size ≤ o0 ∧ Arv Z h o0 m0 .byte 2 [(.int (i0.toInt8.toInt32)), (.int (i1.toInt8.toInt32))] (.int 0) ∧ Exa Z h o0 "[B" ∧ @LT.lt Nat instLTNat o0 h.size)) 1 2 := own_go own_pn23 fun p e s m below meth c s₁ hns hrt hnm hml hZ hx hby hown X2 e0 => by
 have N0 := Fr.nil n0
 refine own_cast (own_ef11 m o1 0 2) ?_
 refine oIN X2 hx hby dd22_0 rfl ?_
 obtain ⟨T1, h1, m0, X0, e1, E0, A0, B0, s0⟩ := own_newP X2 hx hZ (aty := .byte) (hw 15) e0 (nm := "[B") rfl (g := (mkF m 1 #[rv o1, iv 0, iv 2, .unset, .unset, .unset] [(.int 2)])) rfl (hb hby dd22_1) (n := 2) (rest := []) rfl (by decide) (cap := 2) (by decide) (by decide) (by decide) (by decide)
 obtain ⟨o0, g0⟩ : ∃ z, z = h0.size := ⟨_, rfl⟩
 rw [← g0] at A0 B0 s0
 have F0 : Arv Z h1 o0 m0 .byte 2 [(.int 0), (.int 0)] (.int 0) := own_newA A0 (by decide) rfl rfl
 have z0 := E0.1
 have y1 : @LT.lt Nat instLTNat o0 h1.size := F0.lt
 refine oS s0 ?_
 refine oASN X0 hx hby dd22_3 rfl (l' := #[rv o1, iv 0, iv 2, rv o0, .unset, .unset]) rfl ?_
 refine oAN X0 hx hby dd22_4 rfl rfl ?_
 refine oIN X0 hx hby dd22_5 rfl ?_
 refine oAN X0 hx hby dd22_6 rfl rfl ?_
 refine oIC X0 hx hby dd22_7 ?_
 refine oIN X0 hx hby dd22_8 rfl ?_
 have F1 := I0.ext E0
 have N1 : n0 ≤ o0 := by omega
 have N2 : @Ne Nat o1 o0 := by omega
 have O1 : Old Z n0 h1 := O0.ext E0
 have Z0 : n0 ≤ h1.size := by omega
 refine own_cS X0 hx hZ hown e1 (y := mN22) (hw 228) (hw 229) (hw 226) (hw 230) (by decide) (W := 0) (own_rm70 l Z a0 hw [] i0 i1 m1 m0 o1 o0 h1 n0 Z0 O1 F1 I1 F0 N1 N2 I2 B0) [(.ref o1), (.int 0), (.ref o0), (.int 0), (.int 2)] [] hml (lenOf own_pd19 rfl) (hb hby dd22_9) fun T0 h2 v0 L0 X1 e2 q0 => ?_
 obtain ⟨rfl, N3, K0, F2, F3⟩ := q0
 have N4 := Fr.app N0 N3
 have z1 := K0.1
 refine oIS X1 hx hby dd22_12 (l' := #[rv o1, iv 0, iv 2, rv o0, iv 2, .unset]) rfl ?_
 show own_G p e below (T0.setTop (mkF m 14 #[rv o1, iv 0, iv 2, rv o0, iv 2, .unset] [])) _
 refine oIL X1 hx hby dd22_14 rfl ?_
 refine oIN X1 hx hby dd22_16 rfl ?_
 refine oYI X1 hx hby (pc' := 57) dd22_17 (XT.ii_eq_t (by decide)) ?_
 refine oAN X1 hx hby dd22_57 rfl rfl ?_
 have y0 : @LT.lt Nat instLTNat o0 h2.size := by omega
 have K1 : Keep h0 h2 [] := (((Keep.refl h0 []).ext E0).trans K0 (allS (Or.inr (by omega)) all0))
 exact own_retA X1 hx hns hrt rfl rfl (hb hby dd22_58) e2 (by decide) (by decide) (⟨o0, m0, rfl, N4, K1, (by omega), F2, F3, y0⟩)
theorem own_rm71 (l : Launch) (Z : State) (a0 : Array Value) (hw : own_W a0 Z) (ws : List Jvm.Cond) (i0 i1 : Int32) (m0 : ClassId) (o0 : Nat) (h0 : Heap) (n0 : Nat) (Z0 : n0 ≤ h0.size) (O0 : Old Z n0 h0) (I0 : Arv Z h0 o0 m0 .byte 2 [(.int (i0.toInt8.toInt32)), (.int (i1.toInt8.toInt32))] (.int 0)) :
 own_Met l Z h0 mN24 B0e 2 (Option.some FieldType.byte) ws (own_R 0 0 0 0) #[(.ref o0), (.int 2)] (fun v h L => (v = some (.int 0) ∧ Fr n0 L ∧ h = h0)) 0 0 := own_go own_pn24 fun p e s m below meth c s₁ hns hrt hnm hml hZ hx hby hown X0 e0 => by
 have N0 := Fr.nil n0
 refine own_cast (own_ef4 m o0 2) ?_
 refine oIN X0 hx hby dd24_0 rfl ?_
 refine oAN X0 hx hby dd24_1 rfl rfl ?_
 refine oS (own_len X0 hx hZ e0 I0 rfl rfl (hb hby dd24_2)) ?_
 refine oS (fun _ => XS.isub X0.here hx rfl (hb hby dd24_3) rfl) ?_
 refine oS (fun _ => XS.bipush X0.here hx rfl (hb hby dd24_4) ) ?_
 refine oS (fun _ => XT.iushr X0.here hx rfl (hb hby dd24_6) rfl) ?_
 refine oS (fun _ => XT.i2b X0.here hx rfl (hb hby dd24_7) rfl) ?_
 exact own_retN X0 hx (t := .byte) hns hrt (by simp) (hb hby dd24_8) (by decide) e0 (by decide) (by decide) (⟨rfl, N0, rfl⟩)
theorem own_rm68 (l : Launch) (Z : State) (a0 : Array Value) (hw : own_W a0 Z) (ws : List Jvm.Cond) (i2 i0 i1 : Int32) (m1 : ClassId) (o0 o2 : Nat) (h0 : Heap) (n0 : Nat) (Z0 : n0 ≤ h0.size) (O0 : Old Z n0 h0) (I1 : Sta Z Z.heap cN2 "COMPACT_STRINGS" "Z" (.int i2)) (I2 : ¬ (i2 = 0)) (I3 : Arv Z h0 o2 m1 .char 2 [(.int i0), (.int i1)] (.int 0)) (I4 : ¬ (255 < i0)) (I9 : @LT.lt Nat instLTNat o2 h0.size) (I5 : ¬ (255 < i1)) (I6 : Fld Z h0 o0 cN2 "coder" "B" (.int 0)) (I7 : Exa Z h0 o0 cN2) (I0 : n0 ≤ o0) (I8 : Fld Z h0 o0 cN2 "value" "[B" .null) (I00 : @LT.lt Nat instLTNat o0 h0.size) :
 own_Met l Z h0 mN0 B1 6 (Option.none : Option FieldType) ws (own_R 2 1 2 35) #[(.ref o0), (.ref o2), (.int 0), (.int 2), .null] (fun v h L => (∃ o1 : Nat, ∃ m0 : ClassId, v = none ∧ Fr n0 L ∧ Keep h0 h [o0] ∧ h0.size ≤ o1 ∧ Fld Z h o0 cN2 "coder" "B" (.int 0) ∧ Exa Z h o0 cN2 ∧ Fld Z h o0 cN2 "value" "[B" (.ref o1) ∧ Arv Z h o1 m0 .byte 2 [(.int (i0.toInt8.toInt32)), (.int (i1.toInt8.toInt32))] (.int 0) ∧ Exa Z h o1 "[B" ∧ @LT.lt Nat instLTNat o1 h.size)) 1 2 := own_go own_pn0 fun p e s m below meth c s₁ hns hrt hnm hml hZ hx hby hown X4 e0 => by
 have N1 := Fr.nil n0
 refine own_cast (own_ef2 m o0 o2 0 2) ?_
 refine oAN X4 hx hby dd1_0 rfl rfl ?_
 obtain ⟨T1, X3, e1, s0⟩ := initO X4 hx hZ hown (hw 11) (hw 12) (hw 13) e0 (g := (mkF m 1 #[rv o0, rv o2, iv 0, iv 2, .val .null, .unset] [(.ref o0)])) rfl (by rw [hml]; rfl) rfl (hb hby dd1_1) (by decide) (W := 0) (by show 2 * 0 + _ ≤ _; exact Nat.le_of_eq rfl) (by decide)
 refine oS s0 ?_
 refine oIN X3 hx hby dd1_4 rfl ?_
 refine oY0 X3 hx hby (pc' := 27) dd1_5 (XT.i0_ne_t (by decide)) ?_
 have F5 := Sta.ext O0.2 I1
 obtain ⟨T2, X0, e2, s1⟩ := getS X3 hx hZ hown (host := "") (hw 67) Via.refl e1 F5 (g := (mkF m 27 #[rv o0, rv o2, iv 0, iv 2, .val .null, .unset] [])) rfl (hb hby dd1_27)
 refine oS s1 ?_
 refine oN0 X0 hx hby dd1_30 (XT.i0_eq_f I2) ?_
 refine oAN X0 hx hby dd1_33 rfl rfl ?_
 refine oIN X0 hx hby dd1_34 rfl ?_
 refine oIN X0 hx hby dd1_35 rfl ?_
 have y0 : @LT.lt Nat instLTNat o2 h0.size := by omega
 refine own_cS X0 hx hZ hown e2 (y := mN23) (hw 224) (hw 225) (hw 226) (hw 227) (by decide) (W := 0) (own_rm69 l Z a0 hw [] i0 i1 m1 o2 h0 n0 Z0 O0 I3 I4 y0 I5) [(.ref o2), (.int 0), (.int 2)] [] hml (lenOf own_pd20 rfl) (hb hby dd1_36) fun T0 h1 v0 L0 X1 e3 q0 => ?_
 obtain ⟨o1, m0, rfl, N2, K0, F03, F0, F6, F04⟩ := q0
 have N3 := Fr.app N1 N2
 have z0 := K0.1
 show own_G p e below (T0.setTop (mkF m 39 #[rv o0, rv o2, iv 0, iv 2, .val .null, .unset] [(.ref o1)])) _
 refine oAS X1 hx hby dd1_39 rfl (l' := #[rv o0, rv o2, iv 0, iv 2, .val .null, rv o1]) rfl ?_
 refine oAN X1 hx hby dd1_41 rfl rfl ?_
 refine oAL X1 hx hby dd1_42 rfl rfl ?_
 refine oIN X1 hx hby dd1_44 rfl ?_
 have O1 : Old Z n0 h1 := O0.keep K0 all0
 have Z1 : n0 ≤ h1.size := by omega
 refine own_cS X1 hx hZ hown e3 (y := mN24) (hw 231) (hw 232) (hw 226) (hw 233) (by decide) (W := 1) (own_rm71 l Z a0 hw [] i0 i1 m0 o1 h1 n0 Z1 O1 F0) [(.ref o1), (.int 2)] [(.ref o0)] hml (lenOf own_pd21 rfl) (hb hby dd1_45) fun T3 h3 v1 L1 X6 e4 q1 => ?_
 obtain ⟨rfl, N4, K1⟩ := q1
 have N5 := Fr.app N3 N4
 have e5 := e4.trans K1
 have F1 := I6.keep K0 nin0
 have F2 := I7.keep K0
 refine own_pF X6 hx hZ hown (hw 21) e5 F1 F2 (Or.inr ⟨(hw 17), rfl, hnm⟩) (hw 2) (ty := .byte) (by decide) (by decide) (hb hby dd1_48) fun T4 h4 X2 e6 W0 => ?_
 have N6 := Fr.snoc X2 N5 I0
 have z1 := W0.size
 have F7 := Fld.same W0 F1
 refine oAN X2 hx hby dd1_51 rfl rfl ?_
 refine oAL X2 hx hby dd1_52 rfl rfl ?_
 have F3 := Fld.other W0 (I8.keep K0 nin0) (Or.inr (slot_ne (C := cN2) (Or.inr (hw 16)) (Or.inr (hw 17)) (by decide) (t := (.array .byte)) (t' := .byte) (by decide) (by decide)))
 have F4 := Exa.wr W0 F2
 refine own_pF X2 hx hZ hown (hw 20) e6 F3 F4 (Or.inr ⟨(hw 16), rfl, hnm⟩) (hw 2) (ty := (.array .byte)) rfl rfl (hb hby dd1_54) fun T5 h2 X5 e7 W1 => ?_
 have N7 := Fr.snoc X5 N6 I0
 have z2 := W1.size
 have F8 := Fld.same W1 F3
 have F9 := Fld.other W1 F7 (Or.inr (slot_ne (C := cN2) (Or.inr (hw 17)) (Or.inr (hw 16)) (by decide) (t := .byte) (t' := (.array .byte)) (by decide) (by decide)))
 have F00 := Exa.wr W1 F4
 have N0 : @Ne Nat o1 o0 := by omega
 have F01 := (F0.other W0 N0).other W1 N0
 have F02 := Exa.wr W1 (Exa.wr W0 F6)
 have y1 : @LT.lt Nat instLTNat o1 h2.size := by omega
 have K2 : Keep h0 h2 [o0] := ((((Keep.refl h0 [o0]).trans K0 all0).wr W0 (Or.inl (by simp))).wr W1 (Or.inl (by simp)))
 exact own_retV X5 hx hns hrt (hb hby dd1_57) e7 (by decide) (by decide) (⟨o1, m0, rfl, N7, K2, (by omega), F9, F00, F8, F01, F02, y1⟩)
theorem own_rm67 (l : Launch) (Z : State) (a0 : Array Value) (hw : own_W a0 Z) (ws : List Jvm.Cond) (i0 i1 i2 : Int32) (m1 : ClassId) (o0 o2 : Nat) (h0 : Heap) (n0 : Nat) (Z0 : n0 ≤ h0.size) (O0 : Old Z n0 h0) (I0 : Arv Z h0 o2 m1 .char 2 [(.int i0), (.int i1)] (.int 0)) (I1 : Sta Z Z.heap cN2 "COMPACT_STRINGS" "Z" (.int i2)) (I2 : ¬ (i2 = 0)) (I3 : ¬ (255 < i0)) (I9 : @LT.lt Nat instLTNat o2 h0.size) (I4 : ¬ (255 < i1)) (I5 : Fld Z h0 o0 cN2 "coder" "B" (.int 0)) (I6 : Exa Z h0 o0 cN2) (I7 : n0 ≤ o0) (I8 : Fld Z h0 o0 cN2 "value" "[B" .null) (I00 : @LT.lt Nat instLTNat o0 h0.size) :
 own_Met l Z h0 mN1 B0 2 (Option.none : Option FieldType) ws (own_R 3 1 2 52) #[(.ref o0), (.ref o2)] (fun v h L => (∃ o1 : Nat, ∃ m0 : ClassId, v = none ∧ Fr n0 L ∧ Keep h0 h [o0] ∧ h0.size ≤ o1 ∧ Fld Z h o0 cN2 "coder" "B" (.int 0) ∧ Exa Z h o0 cN2 ∧ Fld Z h o0 cN2 "value" "[B" (.ref o1) ∧ Arv Z h o1 m0 .byte 2 [(.int (i0.toInt8.toInt32)), (.int (i1.toInt8.toInt32))] (.int 0) ∧ Exa Z h o1 "[B" ∧ @LT.lt Nat instLTNat o1 h.size)) 1 2 := own_go own_pn1 fun p e s m below meth c s₁ hns hrt hnm hml hZ hx hby hown X0 e0 => by
 have N0 := Fr.nil n0
 refine own_cast (own_ef1 m o0 o2) ?_
 refine oAN X0 hx hby dd0_0 rfl rfl ?_
 refine oAN X0 hx hby dd0_1 rfl rfl ?_
 refine oIC X0 hx hby dd0_2 ?_
 refine oAN X0 hx hby dd0_3 rfl rfl ?_
 refine oS (own_len X0 hx hZ e0 I0 rfl rfl (hb hby dd0_4)) ?_
 refine oS (fun _ => XS.aconstNull X0.here hx rfl (hb hby dd0_5) ) ?_
 have y0 : @LT.lt Nat instLTNat o2 h0.size := by omega
 have y1 : @LT.lt Nat instLTNat o0 h0.size := by omega
 refine own_cN X0 hx hZ hown e0 (y := mN0) (b := o0) rfl (hw 7) (hw 8) (hw 3) (hw 10) (by decide) (W := 0) (own_rm68 l Z a0 hw [] i2 i0 i1 m1 o0 o2 h0 n0 Z0 O0 I1 I2 I0 I3 y0 I4 I5 I6 I7 I8 y1) [(.ref o2), (.int 0), (.int 2), .null] [] hml (lenOf own_pd0 rfl) (hb hby dd0_6) fun T0 h1 v0 L0 X1 e1 q0 => ?_
 obtain ⟨o1, m0, rfl, N1, K0, F5, F0, F1, F2, F3, F4, F6⟩ := q0
 have N2 := Fr.app N0 N1
 have z0 := K0.1
 have y2 : @LT.lt Nat instLTNat o1 h1.size := by omega
 have K1 : Keep h0 h1 [o0] := ((Keep.refl h0 [o0]).trans K0 (allS (Or.inl (by simp)) all0))
 exact own_retV X1 hx hns hrt (hb hby dd0_9) e1 (by decide) (by decide) (⟨o1, m0, rfl, N2, K1, (by omega), F0, F1, F2, F3, F4, y2⟩)
theorem own_rm75 (l : Launch) (Z : State) (a0 : Array Value) (hw : own_W a0 Z) (ws : List Jvm.Cond) (i1 i2 i0 : Int32) (m0 : ClassId) (o0 o1 : Nat) (h0 : Heap) (n0 : Nat) (Z0 : n0 ≤ h0.size) (O0 : Old Z n0 h0) (I0 : Fld Z h0 o0 cN2 "value" "[B" (.ref o1)) (I1 : Arv Z h0 o1 m0 .byte 2 [(.int (i1.toInt8.toInt32)), (.int (i2.toInt8.toInt32))] (.int 0)) (I2 : Sta Z Z.heap cN2 "COMPACT_STRINGS" "Z" (.int i0)) (I3 : ¬ (i0 = 0)) (I4 : Fld Z h0 o0 cN2 "coder" "B" (.int 0)) (I5 : Exa Z h0 o0 cN2) :
 own_Met l Z h0 mN5 B7 1 (Option.some FieldType.int) ws (own_R 1 0 0 13) #[(.ref o0)] (fun v h L => (v = some (.int 2) ∧ Fr n0 L ∧ h = h0)) 0 0 := own_go own_pn5 fun p e s m below meth c s₁ hns hrt hnm hml hZ hx hby hown X1 e1 => by
 have N0 := Fr.nil n0
 refine own_cast (own_ef3 m o0) ?_
 refine oAN X1 hx hby dd7_0 rfl rfl ?_
 refine own_gF X1 hx hZ hown (hw 20) e1 I0 (hb hby dd7_1) fun T0 X0 e0 => ?_
 refine oS (own_len X0 hx hZ e0 I1 rfl rfl (hb hby dd7_4)) ?_
 refine oAN X0 hx hby dd7_5 rfl rfl ?_
 refine own_cV X0 hx hZ hown e0 (y := mN4) (z := mN4) (b := o0) (hw 62) (hw 63) (notFace_of_selects (args := #[]) (mvT hZ (hw 65))) (hw 65) (hw 64) (hw 3) (hw 66) (by decide) I5 (W := 1) (own_rm13 l Z a0 hw [] i0 o0 h0 n0 Z0 O0 I2 I3 I4) [] [(.int 2)] hml (lenOf own_pd4 rfl) (hb hby dd7_6) fun T1 h1 v0 L0 X2 e2 q0 => ?_
 obtain ⟨rfl, N1, K0⟩ := q0
 have N2 := Fr.app N0 N1
 have e3 := e2.trans K0
 refine oS (fun _ => XT.ishr X2.here hx rfl (hb hby dd7_9) rfl) ?_
 exact own_retI X2 hx hns hrt (hb hby dd7_10) e3 (by decide) (by decide) (⟨rfl, N2, rfl⟩)
theorem own_rm76 (l : Launch) (Z : State) (a0 : Array Value) (hw : own_W a0 Z) (ws : List Jvm.Cond) (m0 : ClassId) (o0 o1 : Nat) (h0 : Heap) (n0 : Nat) (Z0 : n0 ≤ h0.size) (O0 : Old Z n0 h0) (I0 : Fld Z h0 o0 cN3 "value" "[B" (.ref o1)) (I1 : Arv Z h0 o1 m0 .byte 16 [(.int 0), (.int 0), (.int 0), (.int 0), (.int 0), (.int 0), (.int 0), (.int 0), (.int 0), (.int 0), (.int 0), (.int 0), (.int 0), (.int 0), (.int 0), (.int 0)] (.int 0)) (I2 : Fld Z h0 o0 cN3 "coder" "B" (.int 0)) :
 own_Met l Z h0 mN6 B9 3 (Option.none : Option FieldType) ws (own_R 0 0 0 0) #[(.ref o0), (.int 2)] (fun v h L => (v = none ∧ Fr n0 L ∧ h = h0)) 0 0 := own_go own_pn6 fun p e s m below meth c s₁ hns hrt hnm hml hZ hx hby hown X2 e1 => by
 have N0 := Fr.nil n0
 refine own_cast (own_ef6 m o0 2) ?_
 refine oAN X2 hx hby dd9_0 rfl rfl ?_
 refine own_gF X2 hx hZ hown (hw 43) e1 I0 (hb hby dd9_1) fun T1 X1 e0 => ?_
 refine oS (own_len X1 hx hZ e0 I1 rfl rfl (hb hby dd9_4)) ?_
 refine oAN X1 hx hby dd9_5 rfl rfl ?_
 refine own_gF X1 hx hZ hown (hw 45) e0 I2 (hb hby dd9_6) fun T0 X0 e2 => ?_
 refine oS (fun _ => XT.ishr X0.here hx rfl (hb hby dd9_9) rfl) ?_
 refine oISN X0 hx hby dd9_10 (l' := #[rv o0, iv 2, iv 16]) rfl ?_
 refine oIN X0 hx hby dd9_11 rfl ?_
 refine oIN X0 hx hby dd9_12 rfl ?_
 refine oS (fun _ => XS.isub X0.here hx rfl (hb hby dd9_13) rfl) ?_
 show own_G p e below (T0.setTop (mkF m 14 #[rv o0, iv 2, iv 16] [(.int (-14))])) _
 refine oY0 X0 hx hby (pc' := 38) dd9_14 (XT.i0_le_t (by decide)) ?_
 exact own_retV X0 hx hns hrt (hb hby dd9_38) e2 (by decide) (by decide) (⟨rfl, N0, rfl⟩)
theorem own_rm78 (l : Launch) (Z : State) (a0 : Array Value) (hw : own_W a0 Z) (ws : List Jvm.Cond) (i2 i0 i1 : Int32) (m1 m0 : ClassId) (o1 o0 o2 : Nat) (h0 : Heap) (n0 : Nat) (Z0 : n0 ≤ h0.size) (O0 : Old Z n0 h0) (I2 : Sta Z Z.heap cN2 "COMPACT_STRINGS" "Z" (.int i2)) (I3 : ¬ (i2 = 0)) (I4 : Fld Z h0 o1 cN2 "coder" "B" (.int 0)) (I5 : Exa Z h0 o1 cN2) (I0 : Fld Z h0 o1 cN2 "value" "[B" (.ref o2)) (I1 : Arv Z h0 o2 m1 .byte 2 [(.int (i0.toInt8.toInt32)), (.int (i1.toInt8.toInt32))] (.int 0)) (I6 : Arv Z h0 o0 m0 .byte 16 [(.int 0), (.int 0), (.int 0), (.int 0), (.int 0), (.int 0), (.int 0), (.int 0), (.int 0), (.int 0), (.int 0), (.int 0), (.int 0), (.int 0), (.int 0), (.int 0)] (.int 0)) (I7 : n0 ≤ o0) (I8 : Exa Z h0 o0 "[B") :
 own_Met l Z h0 mN8 B02 4 (Option.none : Option FieldType) ws (own_R 1 0 0 18) #[(.ref o1), (.ref o0), (.int 0), (.int 0)] (fun v h L => (v = none ∧ Fr n0 L ∧ Keep h0 h [o0] ∧ Arv Z h o0 m0 .byte 16 [(.int (i0.toInt8.toInt32)), (.int (i1.toInt8.toInt32)), (.int 0), (.int 0), (.int 0), (.int 0), (.int 0), (.int 0), (.int 0), (.int 0), (.int 0), (.int 0), (.int 0), (.int 0), (.int 0), (.int 0)] (.int 0) ∧ Exa Z h o0 "[B")) 0 0 := own_go own_pn8 fun p e s m below meth c s₁ hns hrt hnm hml hZ hx hby hown X2 e1 => by
 have N0 := Fr.nil n0
 refine own_cast (own_ef8 m o1 o0 0 0) ?_
 refine oAN X2 hx hby dd12_0 rfl rfl ?_
 refine own_cV X2 hx hZ hown e1 (y := mN4) (z := mN4) (b := o1) (hw 62) (hw 63) (notFace_of_selects (args := #[]) (mvT hZ (hw 65))) (hw 65) (hw 64) (hw 3) (hw 66) (by decide) I5 (W := 0) (own_rm13 l Z a0 hw [] i2 o1 h0 n0 Z0 O0 I2 I3 I4) [] [] hml (lenOf own_pd4 rfl) (hb hby dd12_1) fun T1 h2 v0 L0 X1 e2 q0 => ?_
 obtain ⟨rfl, N1, K1⟩ := q0
 have N2 := Fr.app N0 N1
 have e3 := e2.trans K1
 refine oIN X1 hx hby dd12_4 rfl ?_
 refine oNI X1 hx hby dd12_5 (XT.ii_ne_f (by decide)) ?_
 refine oAN X1 hx hby dd12_8 rfl rfl ?_
 refine own_gF X1 hx hZ hown (hw 20) e3 I0 (hb hby dd12_9) fun T0 X0 e4 => ?_
 refine oIC X0 hx hby dd12_12 ?_
 refine oAN X0 hx hby dd12_13 rfl rfl ?_
 refine oIN X0 hx hby dd12_14 rfl ?_
 refine oIN X0 hx hby dd12_15 rfl ?_
 show own_G p e below (T0.setTop (mkF m 16 #[rv o1, rv o0, iv 0, iv 0] [(.int 0), (.int 0), (.ref o0), (.int 0), (.ref o2)])) _
 refine oS (fun _ => XT.ishl X0.here hx rfl (hb hby dd12_16) rfl) ?_
 refine oAN X0 hx hby dd12_17 rfl rfl ?_
 refine own_gF X0 hx hZ hown (hw 20) e4 I0 (hb hby dd12_18) fun T2 X3 e0 => ?_
 refine oS (own_len X3 hx hZ e0 I1 rfl rfl (hb hby dd12_21)) ?_
 obtain ⟨T3, h1, L1, X4, e5, N3, K0, A0, s0⟩ := cpA X3 hx hZ hown (hw 91) (hw 94) (hw 92) (hw 93) e0 I1 I6 (us := [(.int (i0.toInt8.toInt32)), (.int (i1.toInt8.toInt32))]) (Or.inl ⟨rfl, rfl⟩) (by decide) (by decide) (by decide) (by decide) (by decide) rfl (Nat.le_of_ble_eq_true rfl) N2 I7 (g := (mkF m 22 #[rv o1, rv o0, iv 0, iv 0] [(.int 2), (.int 0), (.ref o0), (.int 0), (.ref o2)])) rfl (by rw [hml]; rfl) (rest := []) rfl (hb hby dd12_22) (by decide) (W := 0) (by show 2 * 0 + _ ≤ _; exact Nat.le_of_eq rfl) (by decide)
 have z0 := K0.1
 have F0 : Arv Z h1 o0 m0 .byte 16 [(.int (i0.toInt8.toInt32)), (.int (i1.toInt8.toInt32)), (.int 0), (.int 0), (.int 0), (.int 0), (.int 0), (.int 0), (.int 0), (.int 0), (.int 0), (.int 0), (.int 0), (.int 0), (.int 0), (.int 0)] (.int 0) := A0
 refine oS s0 ?_
 refine oGO X4 hx hby (pc' := 43) dd12_25 ?_
 have F1 := I8.keep K0
 have K2 : Keep h0 h1 [o0] := ((Keep.refl h0 [o0]).trans K0 (allS (Or.inl (by simp)) all0))
 exact own_retV X4 hx hns hrt (hb hby dd12_43) e5 (by decide) (by decide) (⟨rfl, N3, K2, F0, F1⟩)
theorem own_rm77 (l : Launch) (Z : State) (a0 : Array Value) (hw : own_W a0 Z) (ws : List Jvm.Cond) (i0 i1 i2 : Int32) (m1 m0 : ClassId) (o2 o1 o0 o3 : Nat) (h0 : Heap) (n0 : Nat) (Z0 : n0 ≤ h0.size) (O0 : Old Z n0 h0) (I1 : Sta Z Z.heap cN2 "COMPACT_STRINGS" "Z" (.int i0)) (I2 : ¬ (i0 = 0)) (I3 : Fld Z h0 o2 cN3 "coder" "B" (.int 0)) (I4 : Fld Z h0 o1 cN2 "coder" "B" (.int 0)) (I0 : Exa Z h0 o1 cN2) (I5 : Exa Z h0 o2 cN4) (I6 : Fld Z h0 o2 cN3 "value" "[B" (.ref o0)) (I7 : Fld Z h0 o1 cN2 "value" "[B" (.ref o3)) (I8 : Arv Z h0 o3 m1 .byte 2 [(.int (i1.toInt8.toInt32)), (.int (i2.toInt8.toInt32))] (.int 0)) (I9 : Arv Z h0 o0 m0 .byte 16 [(.int 0), (.int 0), (.int 0), (.int 0), (.int 0), (.int 0), (.int 0), (.int 0), (.int 0), (.int 0), (.int 0), (.int 0), (.int 0), (.int 0), (.int 0), (.int 0)] (.int 0)) (I00 : n0 ≤ o0) (I01 : Exa Z h0 o0 "[B") :
 own_Met l Z h0 mN9 B00 3 (Option.none : Option FieldType) ws (own_R 2 0 0 33) #[(.ref o2), (.int 0), (.ref o1)] (fun v h L => (v = none ∧ Fr n0 L ∧ Keep h0 h [o0] ∧ Arv Z h o0 m0 .byte 16 [(.int (i1.toInt8.toInt32)), (.int (i2.toInt8.toInt32)), (.int 0), (.int 0), (.int 0), (.int 0), (.int 0), (.int 0), (.int 0), (.int 0), (.int 0), (.int 0), (.int 0), (.int 0), (.int 0), (.int 0)] (.int 0) ∧ Exa Z h o0 "[B")) 0 0 := own_go own_pn9 fun p e s m below meth c s₁ hns hrt hnm hml hZ hx hby hown X0 e0 => by
 have N0 := Fr.nil n0
 refine own_cast (own_ef7 m o2 0 o1) ?_
 refine oAN X0 hx hby dd10_0 rfl rfl ?_
 refine oAN X0 hx hby dd10_1 rfl rfl ?_
 refine own_cP X0 hx hZ hown e0 (y := mN7) (b := o2) (hw 80) (hw 81) (own_selP (hw 81) (hw 82) (hw 73) rfl (by decide)) (hw 82) (hw 39) (hw 84) (by decide) I5 (W := 0) (own_rm16 l Z a0 hw [] i0 o2 o1 h0 n0 Z0 O0 I1 I2 I3 I4 I0) [(.ref o1)] [] hml (lenOf own_pd6 rfl) (hb hby dd10_2) fun T1 h2 v0 L0 X1 e1 q0 => ?_
 obtain ⟨rfl, N1, K1⟩ := q0
 have N2 := Fr.app N0 N1
 have e2 := e1.trans K1
 refine oAN X1 hx hby dd10_5 rfl rfl ?_
 refine oAN X1 hx hby dd10_6 rfl rfl ?_
 refine own_gF X1 hx hZ hown (hw 43) e2 I6 (hb hby dd10_7) fun T2 X2 e3 => ?_
 refine oIN X2 hx hby dd10_10 rfl ?_
 refine oAN X2 hx hby dd10_11 rfl rfl ?_
 refine own_gF X2 hx hZ hown (hw 45) e3 I3 (hb hby dd10_12) fun T3 X3 e4 => ?_
 refine own_cV X3 hx hZ hown e4 (y := mN8) (z := mN8) (b := o1) (hw 86) (hw 87) (notFace_of_selects (args := #[]) (mvT hZ (hw 89))) (hw 89) (hw 88) (hw 3) (hw 90) (by decide) I0 (W := 0) (own_rm78 l Z a0 hw [] i0 i1 i2 m1 m0 o1 o0 o3 h0 n0 Z0 O0 I1 I2 I4 I0 I7 I8 I9 I00 I01) [(.ref o0), (.int 0), (.int 0)] [] hml (lenOf own_pd7 rfl) (hb hby dd10_15) fun T0 h1 v1 L1 X4 e5 q1 => ?_
 obtain ⟨rfl, N3, K0, F0, F1⟩ := q1
 have N4 := Fr.app N2 N3
 have z0 := K0.1
 show own_G p e below (T0.setTop (mkF m 18 #[rv o2, iv 0, rv o1] [])) _
 have K2 : Keep h0 h1 [o0] := ((Keep.refl h0 [o0]).trans K0 (allS (Or.inl (by simp)) all0))
 exact own_retV X4 hx hns hrt (hb hby dd10_18) e5 (by decide) (by decide) (⟨rfl, N4, K2, F0, F1⟩)
theorem own_rm74 (l : Launch) (Z : State) (a0 : Array Value) (hw : own_W a0 Z) (ws : List Jvm.Cond) (i0 i1 i2 : Int32) (m1 m0 : ClassId) (o0 o2 o3 o1 : Nat) (h0 : Heap) (n0 : Nat) (Z0 : n0 ≤ h0.size) (O0 : Old Z n0 h0) (I6 : Fld Z h0 o2 cN2 "value" "[B" (.ref o3)) (I7 : Arv Z h0 o3 m1 .byte 2 [(.int (i0.toInt8.toInt32)), (.int (i1.toInt8.toInt32))] (.int 0)) (I8 : Sta Z Z.heap cN2 "COMPACT_STRINGS" "Z" (.int i2)) (I9 : ¬ (i2 = 0)) (I00 : Fld Z h0 o2 cN2 "coder" "B" (.int 0)) (I2 : Exa Z h0 o2 cN2) (I3 : Fld Z h0 o0 cN3 "count" "I" (.int 0)) (I4 : Fld Z h0 o0 cN3 "value" "[B" (.ref o1)) (I01 : Arv Z h0 o1 m0 .byte 16 [(.int 0), (.int 0), (.int 0), (.int 0), (.int 0), (.int 0), (.int 0), (.int 0), (.int 0), (.int 0), (.int 0), (.int 0), (.int 0), (.int 0), (.int 0), (.int 0)] (.int 0)) (I5 : Fld Z h0 o0 cN3 "coder" "B" (.int 0)) (I0 : Exa Z h0 o0 cN4) (I02 : n0 ≤ o1) (I03 : Exa Z h0 o1 "[B") (I1 : @Ne Nat o0 o1) (I04 : n0 ≤ o0) :
 own_Met l Z h0 mN10 B6 3 (Option.some (FieldType.object cN3)) ws (own_R 3 0 0 47) #[(.ref o0), (.ref o2)] (fun v h L => (v = some (.ref o0) ∧ Fr n0 L ∧ Keep h0 h [o1, o0] ∧ Arv Z h o1 m0 .byte 16 [(.int (i0.toInt8.toInt32)), (.int (i1.toInt8.toInt32)), (.int 0), (.int 0), (.int 0), (.int 0), (.int 0), (.int 0), (.int 0), (.int 0), (.int 0), (.int 0), (.int 0), (.int 0), (.int 0), (.int 0)] (.int 0) ∧ Exa Z h o1 "[B" ∧ Fld Z h o0 cN3 "count" "I" (.int 2) ∧ Exa Z h o0 cN4 ∧ Fld Z h o0 cN3 "value" "[B" (.ref o1) ∧ Fld Z h o0 cN3 "coder" "B" (.int 0))) 0 0 := own_go own_pn10 fun p e s m below meth c s₁ hns hrt hnm hml hZ hx hby hown X0 e0 => by
 have N0 := Fr.nil n0
 refine own_cast (own_ef5 m o0 o2) ?_
 refine oAN X0 hx hby dd6_0 rfl rfl ?_
 refine oS (fun _ => XT.ifnonnullYes X0.here hx rfl (pc0 := 1) (pc' := 9) rfl (hb hby dd6_1) rfl (by decide) (by decide)) ?_
 refine oAN X0 hx hby dd6_9 rfl rfl ?_
 refine own_cV X0 hx hZ hown e0 (y := mN5) (z := mN5) (b := o2) (hw 57) (hw 58) (notFace_of_selects (args := #[]) (mvT hZ (hw 60))) (hw 60) (hw 59) (hw 3) (hw 61) (by decide) I2 (W := 0) (own_rm75 l Z a0 hw [] i0 i1 i2 m1 o2 o3 h0 n0 Z0 O0 I6 I7 I8 I9 I00 I2) [] [] hml (lenOf own_pd5 rfl) (hb hby dd6_10) fun T2 h2 v0 L0 X1 e1 q0 => ?_
 obtain ⟨rfl, N1, K1⟩ := q0
 have N2 := Fr.app N0 N1
 have e2 := e1.trans K1
 refine oISN X1 hx hby dd6_13 (l' := #[rv o0, rv o2, iv 2]) rfl ?_
 refine oAN X1 hx hby dd6_14 rfl rfl ?_
 refine oAN X1 hx hby dd6_15 rfl rfl ?_
 refine own_gF X1 hx hZ hown (hw 68) e2 I3 (hb hby dd6_16) fun T0 X2 e3 => ?_
 refine oIN X2 hx hby dd6_19 rfl ?_
 refine oS (fun _ => XS.iadd X2.here hx rfl (hb hby dd6_20) rfl) ?_
 show own_G p e below (T0.setTop (mkF m 21 #[rv o0, rv o2, iv 2] [(.int 2), (.ref o0)])) _
 refine own_cP X2 hx hZ hown e3 (y := mN6) (b := o0) (hw 70) (hw 71) (own_selP (hw 71) (hw 72) (hw 73) rfl (by decide)) (hw 72) (hw 39) (hw 74) (by decide) I0 (W := 0) (own_rm76 l Z a0 hw [] m0 o0 o1 h0 n0 Z0 O0 I4 I01 I5) [(.int 2)] [] hml (lenOf own_pd2 rfl) (hb hby dd6_21) fun T3 h3 v1 L1 X3 e4 q1 => ?_
 obtain ⟨rfl, N3, K2⟩ := q1
 have N4 := Fr.app N2 N3
 have e5 := e4.trans K2
 refine oAN X3 hx hby dd6_24 rfl rfl ?_
 refine oAN X3 hx hby dd6_25 rfl rfl ?_
 refine own_gF X3 hx hZ hown (hw 68) e5 I3 (hb hby dd6_26) fun T4 X7 e6 => ?_
 refine oAN X7 hx hby dd6_29 rfl rfl ?_
 refine own_cP X7 hx hZ hown e6 (y := mN9) (b := o0) (hw 75) (hw 76) (own_selP (hw 76) (hw 77) (hw 73) rfl (by decide)) (hw 77) (hw 39) (hw 79) (by decide) I0 (W := 0) (own_rm77 l Z a0 hw [] i2 i0 i1 m1 m0 o0 o2 o1 o3 h0 n0 Z0 O0 I8 I9 I5 I00 I2 I0 I4 I6 I7 I01 I02 I03) [(.int 0), (.ref o2)] [] hml (lenOf own_pd8 rfl) (hb hby dd6_30) fun T5 h4 v2 L2 X4 e7 q2 => ?_
 obtain ⟨rfl, N5, K0, F2, F3⟩ := q2
 have N6 := Fr.app N4 N5
 have z0 := K0.1
 refine oAN X4 hx hby dd6_33 rfl rfl ?_
 refine oS (fun _ => XS.dup X4.here hx rfl (hb hby dd6_34) rfl rfl) ?_
 have F0 := I3.keep K0 (ninS I1 nin0)
 refine own_gF X4 hx hZ hown (hw 68) e7 F0 (hb hby dd6_35) fun T1 X5 e8 => ?_
 refine oIN X5 hx hby dd6_38 rfl ?_
 show own_G p e below (T1.setTop (mkF m 39 #[rv o0, rv o2, iv 2] [(.int 2), (.int 0), (.ref o0)])) _
 refine oS (fun _ => XS.iadd X5.here hx rfl (hb hby dd6_39) rfl) ?_
 have F1 := I0.keep K0
 refine own_pF X5 hx hZ hown (hw 68) e8 F0 F1 (Or.inl (hw 69)) (hw 30) (ty := .int) rfl rfl (hb hby dd6_40) fun T6 h1 X6 e9 W0 => ?_
 have N7 := Fr.snoc X6 N6 I04
 have z1 := W0.size
 have F4 := Fld.same W0 F0
 refine oAN X6 hx hby dd6_43 rfl rfl ?_
 have F5 := F2.other W0 (Ne.symm I1)
 have F6 := Exa.wr W0 F3
 have F7 := Exa.wr W0 F1
 have F8 := Fld.other W0 (I4.keep K0 (ninS I1 nin0)) (Or.inr (slot_ne (C := cN4) (Or.inl (hw 44)) (Or.inl (hw 69)) (by decide) (t := (.array .byte)) (t' := .int) (by decide) (by decide)))
 have F9 := Fld.other W0 (I5.keep K0 (ninS I1 nin0)) (Or.inr (slot_ne (C := cN4) (Or.inl (hw 46)) (Or.inl (hw 69)) (by decide) (t := .byte) (t' := .int) (by decide) (by decide)))
 have K3 : Keep h0 h1 [o1, o0] := (((Keep.refl h0 [o1, o0]).trans K0 (allS (Or.inl (by simp)) all0)).wr W0 (Or.inl (by simp)))
 exact own_retA X6 hx hns hrt rfl rfl (hb hby dd6_44) e9 (by decide) (by decide) (⟨rfl, N7, K3, F5, F6, F4, F7, F8, F9⟩)
theorem own_rm73 (l : Launch) (Z : State) (a0 : Array Value) (hw : own_W a0 Z) (ws : List Jvm.Cond) (i0 i1 i2 : Int32) (m1 m0 : ClassId) (o0 o2 o3 o1 : Nat) (h0 : Heap) (n0 : Nat) (Z0 : n0 ≤ h0.size) (O0 : Old Z n0 h0) (I1 : Fld Z h0 o2 cN2 "value" "[B" (.ref o3)) (I2 : Arv Z h0 o3 m1 .byte 2 [(.int (i0.toInt8.toInt32)), (.int (i1.toInt8.toInt32))] (.int 0)) (I3 : Sta Z Z.heap cN2 "COMPACT_STRINGS" "Z" (.int i2)) (I4 : ¬ (i2 = 0)) (I5 : Fld Z h0 o2 cN2 "coder" "B" (.int 0)) (I6 : Exa Z h0 o2 cN2) (I7 : Fld Z h0 o0 cN3 "count" "I" (.int 0)) (I8 : Fld Z h0 o0 cN3 "value" "[B" (.ref o1)) (I9 : Arv Z h0 o1 m0 .byte 16 [(.int 0), (.int 0), (.int 0), (.int 0), (.int 0), (.int 0), (.int 0), (.int 0), (.int 0), (.int 0), (.int 0), (.int 0), (.int 0), (.int 0), (.int 0), (.int 0)] (.int 0)) (I00 : Fld Z h0 o0 cN3 "coder" "B" (.int 0)) (I0 : Exa Z h0 o0 cN4) (I01 : n0 ≤ o1) (I02 : Exa Z h0 o1 "[B") (I03 : @Ne Nat o0 o1) (I04 : n0 ≤ o0) :
 own_Met l Z h0 mN11 B5 2 (Option.some (FieldType.object cN4)) ws (own_R 4 0 0 61) #[(.ref o0), (.ref o2)] (fun v h L => (v = some (.ref o0) ∧ Fr n0 L ∧ Keep h0 h [o1, o0] ∧ Arv Z h o1 m0 .byte 16 [(.int (i0.toInt8.toInt32)), (.int (i1.toInt8.toInt32)), (.int 0), (.int 0), (.int 0), (.int 0), (.int 0), (.int 0), (.int 0), (.int 0), (.int 0), (.int 0), (.int 0), (.int 0), (.int 0), (.int 0)] (.int 0) ∧ Exa Z h o1 "[B" ∧ Fld Z h o0 cN3 "count" "I" (.int 2) ∧ Exa Z h o0 cN4 ∧ Fld Z h o0 cN3 "value" "[B" (.ref o1) ∧ Fld Z h o0 cN3 "coder" "B" (.int 0))) 0 0 := own_go own_pn11 fun p e s m below meth c s₁ hns hrt hnm hml hZ hx hby hown X0 e0 => by
 have N0 := Fr.nil n0
 refine own_cast (own_ef1 m o0 o2) ?_
 refine oAN X0 hx hby dd5_0 rfl rfl ?_
 refine oAN X0 hx hby dd5_1 rfl rfl ?_
 refine own_cX X0 hx hZ hown e0 (y := mN10) (b := o0) (hw 52) (hw 55) (own_nf (hw 73) rfl) (hw 53) (hw 54) (by decide) (hw 39) (hw 56) (by decide) I0 (W := 0) (own_rm74 l Z a0 hw [] i0 i1 i2 m1 m0 o0 o2 o3 o1 h0 n0 Z0 O0 I1 I2 I3 I4 I5 I6 I7 I8 I9 I00 I0 I01 I02 I03 I04) [(.ref o2)] [] hml (lenOf own_pd9 rfl) (hb hby dd5_2) fun T0 h1 v0 L0 X1 e1 q0 => ?_
 obtain ⟨rfl, N1, K0, F0, F1, F2, F3, F4, F5⟩ := q0
 have N2 := Fr.app N0 N1
 have z0 := K0.1
 refine oS (fun _ => XT.pop X1.here hx rfl (hb hby dd5_5) rfl rfl) ?_
 refine oAN X1 hx hby dd5_6 rfl rfl ?_
 have K1 : Keep h0 h1 [o1, o0] := ((Keep.refl h0 [o1, o0]).trans K0 (allS (Or.inl (by simp)) (allS (Or.inl (by simp)) all0)))
 exact own_retA X1 hx hns hrt rfl rfl (hb hby dd5_7) e1 (by decide) (by decide) (⟨rfl, N2, K1, F0, F1, F2, F3, F4, F5⟩)
theorem own_rm85 (l : Launch) (Z : State) (a0 : Array Value) (hw : own_W a0 Z) (ws : List Jvm.Cond)  (h0 : Heap) (n0 : Nat) (Z0 : n0 ≤ h0.size) (O0 : Old Z n0 h0)  :
 own_Met l Z h0 mN25 B0h 2 (Option.some FieldType.int) ws (own_R 0 0 0 0) #[(.int 2), (.int 18)] (fun v h L => (v = some (.int 18) ∧ Fr n0 L ∧ h = h0)) 0 0 := own_go own_pn25 fun p e s m below meth c s₁ hns hrt hnm hml hZ hx hby hown X0 e0 => by
 have N0 := Fr.nil n0
 refine own_cast (own_ef15 m 2 18) ?_
 refine oIN X0 hx hby dd27_0 rfl ?_
 refine oIN X0 hx hby dd27_1 rfl ?_
 refine oYI X0 hx hby (pc' := 9) dd27_2 (XT.ii_lt_t (by decide)) ?_
 refine oIN X0 hx hby dd27_9 rfl ?_
 exact own_retI X0 hx hns hrt (hb hby dd27_10) e0 (by decide) (by decide) (⟨rfl, N0, rfl⟩)
theorem own_rm84 (l : Launch) (Z : State) (a0 : Array Value) (hw : own_W a0 Z) (ws : List Jvm.Cond)  (h0 : Heap) (n0 : Nat) (Z0 : n0 ≤ h0.size) (O0 : Old Z n0 h0)  :
 own_Met l Z h0 mN26 B0g 4 (Option.some FieldType.int) ws (own_R 1 0 0 14) #[(.int 16), (.int 2), (.int 18)] (fun v h L => (v = some (.int 34) ∧ Fr n0 L ∧ h = h0)) 0 0 := own_go own_pn26 fun p e s m below meth c s₁ hns hrt hnm hml hZ hx hby hown X1 e0 => by
 have N0 := Fr.nil n0
 refine own_cast (own_ef14 m 16 2 18) ?_
 refine oIN X1 hx hby dd26_0 rfl ?_
 refine oIN X1 hx hby dd26_1 rfl ?_
 refine oIN X1 hx hby dd26_2 rfl ?_
 refine own_cS X1 hx hZ hown e0 (y := mN25) (hw 243) (hw 244) (hw 245) (hw 246) (by decide) (W := 1) (own_rm85 l Z a0 hw []  h0 n0 Z0 O0 ) [(.int 2), (.int 18)] [(.int 16)] hml (lenOf own_pd22 rfl) (hb hby dd26_3) fun T0 h1 v0 L0 X0 e1 q0 => ?_
 obtain ⟨rfl, N1, K0⟩ := q0
 have N2 := Fr.app N0 N1
 have e2 := e1.trans K0
 refine oS (fun _ => XS.iadd X0.here hx rfl (hb hby dd26_6) rfl) ?_
 refine oISN X0 hx hby dd26_7 (l' := #[iv 16, iv 2, iv 18, iv 34]) rfl ?_
 refine oIC X0 hx hby dd26_8 ?_
 refine oIN X0 hx hby dd26_9 rfl ?_
 refine oNI X0 hx hby dd26_10 (XT.ii_ge_f (by decide)) ?_
 refine oIN X0 hx hby dd26_13 rfl ?_
 show own_G p e below (T0.setTop (mkF m 14 #[iv 16, iv 2, iv 18, iv 34] [(.int 34)])) _
 refine oS (fun _ => X0.ldcI hx hown (mvT hZ (hw 247)) rfl (hb hby dd26_14)) ?_
 refine oNI X0 hx hby dd26_16 (XT.ii_gt_f (by decide)) ?_
 refine oIN X0 hx hby dd26_19 rfl ?_
 exact own_retI X0 hx hns hrt (hb hby dd26_20) e2 (by decide) (by decide) (⟨rfl, N2, rfl⟩)
theorem own_rm83 (l : Launch) (Z : State) (a0 : Array Value) (hw : own_W a0 Z) (ws : List Jvm.Cond) (i0 i1 : Int32) (m0 : ClassId) (o0 o1 : Nat) (h0 : Heap) (n0 : Nat) (Z0 : n0 ≤ h0.size) (O0 : Old Z n0 h0) (I1 : Fld Z h0 o0 cN3 "value" "[B" (.ref o1)) (I2 : Arv Z h0 o1 m0 .byte 16 [(.int (i0.toInt8.toInt32)), (.int (i1.toInt8.toInt32)), (.int 0), (.int 0), (.int 0), (.int 0), (.int 0), (.int 0), (.int 0), (.int 0), (.int 0), (.int 0), (.int 0), (.int 0), (.int 0), (.int 0)] (.int 0)) (I0 : Fld Z h0 o0 cN3 "coder" "B" (.int 0)) :
 own_Met l Z h0 mN27 B0f 6 (Option.some FieldType.int) ws (own_R 2 0 0 29) #[(.ref o0), (.int 18)] (fun v h L => (v = some (.int 34) ∧ Fr n0 L ∧ h = h0)) 0 0 := own_go own_pn27 fun p e s m below meth c s₁ hns hrt hnm hml hZ hx hby hown X4 e1 => by
 have N0 := Fr.nil n0
 refine own_cast (own_ef13 m o0 18) ?_
 refine oAN X4 hx hby dd25_0 rfl rfl ?_
 refine own_gF X4 hx hZ hown (hw 43) e1 I1 (hb hby dd25_1) fun T3 X2 e0 => ?_
 refine oS (own_len X2 hx hZ e0 I2 rfl rfl (hb hby dd25_4)) ?_
 refine oISN X2 hx hby dd25_5 (l' := #[rv o0, iv 18, iv 16, .unset, .unset, .unset]) rfl ?_
 refine oIN X2 hx hby dd25_6 rfl ?_
 refine oAN X2 hx hby dd25_7 rfl rfl ?_
 refine own_gF X2 hx hZ hown (hw 45) e0 I0 (hb hby dd25_8) fun T0 X0 e2 => ?_
 refine oS (fun _ => XT.ishl X0.here hx rfl (hb hby dd25_11) rfl) ?_
 refine oISN X0 hx hby dd25_12 (l' := #[rv o0, iv 18, iv 16, iv 18, .unset, .unset]) rfl ?_
 refine oIN X0 hx hby dd25_13 rfl ?_
 show own_G p e below (T0.setTop (mkF m 14 #[rv o0, iv 18, iv 16, iv 18, .unset, .unset] [(.int 18)])) _
 refine oIN X0 hx hby dd25_14 rfl ?_
 refine oS (fun _ => XS.isub X0.here hx rfl (hb hby dd25_15) rfl) ?_
 refine oIS X0 hx hby dd25_16 (l' := #[rv o0, iv 18, iv 16, iv 18, iv 2, .unset]) rfl ?_
 refine oIN X0 hx hby dd25_18 rfl ?_
 refine oIL X0 hx hby dd25_19 rfl ?_
 refine oIN X0 hx hby dd25_21 rfl ?_
 refine oIC X0 hx hby dd25_22 ?_
 refine oAN X0 hx hby dd25_23 rfl rfl ?_
 refine own_gF X0 hx hZ hown (hw 45) e2 I0 (hb hby dd25_24) fun T1 X3 e3 => ?_
 refine oS (fun _ => XT.ishl X3.here hx rfl (hb hby dd25_27) rfl) ?_
 show own_G p e below (T1.setTop (mkF m 28 #[rv o0, iv 18, iv 16, iv 18, iv 2, .unset] [(.int 2), (.int 16), (.int 2), (.int 16)])) _
 refine oS (fun _ => XS.iadd X3.here hx rfl (hb hby dd25_28) rfl) ?_
 refine own_cS X3 hx hZ hown e3 (y := mN26) (hw 239) (hw 240) (hw 241) (hw 242) (by decide) (W := 0) (own_rm84 l Z a0 hw []  h0 n0 Z0 O0 ) [(.int 16), (.int 2), (.int 18)] [] hml (lenOf own_pd23 rfl) (hb hby dd25_29) fun T4 h1 v0 L0 X1 e4 q0 => ?_
 obtain ⟨rfl, N1, K0⟩ := q0
 have N2 := Fr.app N0 N1
 have e5 := e4.trans K0
 refine oIS X1 hx hby dd25_32 (l' := #[rv o0, iv 18, iv 16, iv 18, iv 2, iv 34]) rfl ?_
 refine oIL X1 hx hby dd25_34 rfl ?_
 refine oS (fun _ => X1.ldcI hx hown (mvT hZ (hw 248)) rfl (hb hby dd25_36)) ?_
 refine oYI X1 hx hby (pc' := 51) dd25_38 (XT.ii_ne_t (by decide)) ?_
 refine oIL X1 hx hby dd25_51 rfl ?_
 refine oAN X1 hx hby dd25_53 rfl rfl ?_
 refine own_gF X1 hx hZ hown (hw 45) e5 I0 (hb hby dd25_54) fun T2 X5 e6 => ?_
 refine oS (fun _ => XT.ishr X5.here hx rfl (hb hby dd25_57) rfl) ?_
 show own_G p e below (T2.setTop (mkF m 58 #[rv o0, iv 18, iv 16, iv 18, iv 2, iv 34] [(.int 34)])) _
 exact own_retI X5 hx hns hrt (hb hby dd25_58) e6 (by decide) (by decide) (⟨rfl, N2, rfl⟩)
theorem own_rm86 (l : Launch) (Z : State) (a0 : Array Value) (hw : own_W a0 Z) (ws : List Jvm.Cond) (i0 i1 : Int32) (m1 : ClassId) (o1 : Nat) (h0 : Heap) (n0 : Nat) (Z1 : n0 ≤ h0.size) (O0 : Old Z n0 h0) (I0 : Arv Z h0 o1 m1 .byte 16 [(.int (i0.toInt8.toInt32)), (.int (i1.toInt8.toInt32)), (.int 0), (.int 0), (.int 0), (.int 0), (.int 0), (.int 0), (.int 0), (.int 0), (.int 0), (.int 0), (.int 0), (.int 0), (.int 0), (.int 0)] (.int 0)) :
 own_Met l Z h0 mN29 B0i 3 (Option.some (FieldType.array FieldType.byte)) ws (own_R 1 1 34 18) #[(.ref o1), (.int 34)] (fun v h L => (∃ o0 : Nat, ∃ m0 : ClassId, v = some (.ref o0) ∧ Fr n0 L ∧ Keep h0 h [] ∧ h0.size ≤ o0 ∧ Arv Z h o0 m0 .byte 34 [(.int (i0.toInt8.toInt32)), (.int (i1.toInt8.toInt32)), (.int 0), (.int 0), (.int 0), (.int 0), (.int 0), (.int 0), (.int 0), (.int 0), (.int 0), (.int 0), (.int 0), (.int 0), (.int 0), (.int 0), (.int 0), (.int 0), (.int 0), (.int 0), (.int 0), (.int 0), (.int 0), (.int 0), (.int 0), (.int 0), (.int 0), (.int 0), (.int 0), (.int 0), (.int 0), (.int 0), (.int 0), (.int 0)] (.int 0) ∧ Exa Z h o0 "[B" ∧ @LT.lt Nat instLTNat o0 h.size)) 1 34 := own_go own_pn29 fun p e s m below meth c s₁ hns hrt hnm hml hZ hx hby hown X1 e0 => by
 have N0 := Fr.nil n0
 refine own_cast (own_ef6 m o1 34) ?_
 refine oIN X1 hx hby dd28_0 rfl ?_
 refine oAN X1 hx hby dd28_1 rfl rfl ?_
 refine oS (own_len X1 hx hZ e0 I0 rfl rfl (hb hby dd28_2)) ?_
 refine oYI X1 hx hby (pc' := 14) dd28_3 (XT.ii_ne_t (by decide)) ?_
 refine oIN X1 hx hby dd28_14 rfl ?_
 obtain ⟨T0, h1, m0, X0, e1, E0, A0, B0, s0⟩ := own_newP X1 hx hZ (aty := .byte) (hw 15) e0 (nm := "[B") rfl (g := (mkF m 15 #[rv o1, iv 34, .unset] [(.int 34)])) rfl (hb hby dd28_15) (n := 34) (rest := []) rfl (by decide) (cap := 34) (by decide) (by decide) (by decide) (by decide)
 obtain ⟨o0, g0⟩ : ∃ z, z = h0.size := ⟨_, rfl⟩
 rw [← g0] at A0 B0 s0
 have F0 : Arv Z h1 o0 m0 .byte 34 [(.int 0), (.int 0), (.int 0), (.int 0), (.int 0), (.int 0), (.int 0), (.int 0), (.int 0), (.int 0), (.int 0), (.int 0), (.int 0), (.int 0), (.int 0), (.int 0), (.int 0), (.int 0), (.int 0), (.int 0), (.int 0), (.int 0), (.int 0), (.int 0), (.int 0), (.int 0), (.int 0), (.int 0), (.int 0), (.int 0), (.int 0), (.int 0), (.int 0), (.int 0)] (.int 0) := own_newA A0 (by decide) rfl rfl
 have z0 := E0.1
 have y1 : @LT.lt Nat instLTNat o0 h1.size := F0.lt
 refine oS s0 ?_
 refine oASN X0 hx hby dd28_17 rfl (l' := #[rv o1, iv 34, rv o0]) rfl ?_
 refine oAN X0 hx hby dd28_18 rfl rfl ?_
 refine oIC X0 hx hby dd28_19 ?_
 refine oAN X0 hx hby dd28_20 rfl rfl ?_
 show own_G p e below (T0.setTop (mkF m 21 #[rv o1, iv 34, rv o0] [(.ref o0), (.int 0), (.ref o1)])) _
 refine oIC X0 hx hby dd28_21 ?_
 refine oAN X0 hx hby dd28_22 rfl rfl ?_
 have F1 := I0.ext E0
 refine oS (own_len X0 hx hZ e1 F1 rfl rfl (hb hby dd28_23)) ?_
 refine oIN X0 hx hby dd28_24 rfl ?_
 have O1 : Old Z n0 h1 := O0.ext E0
 have Z0 : n0 ≤ h1.size := by omega
 refine own_cS X0 hx hZ hown e1 (y := mN28) (hw 252) (hw 253) (hw 245) (hw 254) (by decide) (W := 4) (own_rm54 l Z a0 hw []  h1 n0 Z0 O1 ) [(.int 16), (.int 34)] [(.int 0), (.ref o0), (.int 0), (.ref o1)] hml (lenOf own_pd22 rfl) (hb hby dd28_25) fun T1 h3 v0 L0 X3 e2 q0 => ?_
 obtain ⟨rfl, N1, K1⟩ := q0
 have N2 := Fr.app N0 N1
 have e3 := e2.trans K1
 have N3 : n0 ≤ o0 := by omega
 obtain ⟨T2, h2, L1, X2, e4, N4, K0, A1, s1⟩ := cpA X3 hx hZ hown (hw 255) (hw 94) (hw 92) (hw 93) e3 F1 F0 (us := [(.int (i0.toInt8.toInt32)), (.int (i1.toInt8.toInt32)), (.int 0), (.int 0), (.int 0), (.int 0), (.int 0), (.int 0), (.int 0), (.int 0), (.int 0), (.int 0), (.int 0), (.int 0), (.int 0), (.int 0)]) (Or.inl ⟨rfl, rfl⟩) (by decide) (by decide) (by decide) (by decide) (by decide) rfl (Nat.le_of_ble_eq_true rfl) N2 N3 (g := (mkF m 28 #[rv o1, iv 34, rv o0] [(.int 16), (.int 0), (.ref o0), (.int 0), (.ref o1)])) rfl (by rw [hml]; rfl) (rest := []) rfl (hb hby dd28_28) (by decide) (W := 0) (by show 2 * 0 + _ ≤ _; exact Nat.le_of_eq rfl) (by decide)
 have z1 := K0.1
 have F2 : Arv Z h2 o0 m0 .byte 34 [(.int (i0.toInt8.toInt32)), (.int (i1.toInt8.toInt32)), (.int 0), (.int 0), (.int 0), (.int 0), (.int 0), (.int 0), (.int 0), (.int 0), (.int 0), (.int 0), (.int 0), (.int 0), (.int 0), (.int 0), (.int 0), (.int 0), (.int 0), (.int 0), (.int 0), (.int 0), (.int 0), (.int 0), (.int 0), (.int 0), (.int 0), (.int 0), (.int 0), (.int 0), (.int 0), (.int 0), (.int 0), (.int 0)] (.int 0) := A1
 refine oS s1 ?_
 refine oAN X2 hx hby dd28_31 rfl rfl ?_
 have F3 := B0.keep K0
 have y0 : @LT.lt Nat instLTNat o0 h2.size := by omega
 have K2 : Keep h0 h2 [] := (((Keep.refl h0 []).ext E0).trans K0 (allS (Or.inr (by omega)) all0))
 exact own_retA X2 hx hns hrt rfl rfl (hb hby dd28_32) e4 (by decide) (by decide) (⟨o0, m0, rfl, N4, K2, (by omega), F2, F3, y0⟩)
theorem own_rm82 (l : Launch) (Z : State) (a0 : Array Value) (hw : own_W a0 Z) (ws : List Jvm.Cond) (i0 i1 : Int32) (m0 : ClassId) (o0 o2 : Nat) (h0 : Heap) (n0 : Nat) (Z0 : n0 ≤ h0.size) (O0 : Old Z n0 h0) (I0 : Fld Z h0 o0 cN3 "value" "[B" (.ref o2)) (I2 : Arv Z h0 o2 m0 .byte 16 [(.int (i0.toInt8.toInt32)), (.int (i1.toInt8.toInt32)), (.int 0), (.int 0), (.int 0), (.int 0), (.int 0), (.int 0), (.int 0), (.int 0), (.int 0), (.int 0), (.int 0), (.int 0), (.int 0), (.int 0)] (.int 0)) (I1 : Fld Z h0 o0 cN3 "coder" "B" (.int 0)) (I3 : Exa Z h0 o0 cN4) (I4 : n0 ≤ o0) (I5 : Fld Z h0 o0 cN3 "count" "I" (.int 2)) (I6 : @LT.lt Nat instLTNat o0 h0.size) :
 own_Met l Z h0 mN6 B9 3 (Option.none : Option FieldType) ws (own_R 3 1 34 48) #[(.ref o0), (.int 18)] (fun v h L => (∃ o1 : Nat, ∃ m1 : ClassId, v = none ∧ Fr n0 L ∧ Keep h0 h [o0] ∧ h0.size ≤ o1 ∧ Fld Z h o0 cN3 "value" "[B" (.ref o1) ∧ Exa Z h o0 cN4 ∧ Fld Z h o0 cN3 "coder" "B" (.int 0) ∧ Fld Z h o0 cN3 "count" "I" (.int 2) ∧ Arv Z h o1 m1 .byte 34 [(.int (i0.toInt8.toInt32)), (.int (i1.toInt8.toInt32)), (.int 0), (.int 0), (.int 0), (.int 0), (.int 0), (.int 0), (.int 0), (.int 0), (.int 0), (.int 0), (.int 0), (.int 0), (.int 0), (.int 0), (.int 0), (.int 0), (.int 0), (.int 0), (.int 0), (.int 0), (.int 0), (.int 0), (.int 0), (.int 0), (.int 0), (.int 0), (.int 0), (.int 0), (.int 0), (.int 0), (.int 0), (.int 0)] (.int 0) ∧ Exa Z h o1 "[B" ∧ @LT.lt Nat instLTNat o1 h.size)) 1 34 := own_go own_pn6 fun p e s m below meth c s₁ hns hrt hnm hml hZ hx hby hown X3 e1 => by
 have N0 := Fr.nil n0
 refine own_cast (own_ef6 m o0 18) ?_
 refine oAN X3 hx hby dd9_0 rfl rfl ?_
 refine own_gF X3 hx hZ hown (hw 43) e1 I0 (hb hby dd9_1) fun T2 X1 e0 => ?_
 refine oS (own_len X1 hx hZ e0 I2 rfl rfl (hb hby dd9_4)) ?_
 refine oAN X1 hx hby dd9_5 rfl rfl ?_
 refine own_gF X1 hx hZ hown (hw 45) e0 I1 (hb hby dd9_6) fun T0 X0 e2 => ?_
 refine oS (fun _ => XT.ishr X0.here hx rfl (hb hby dd9_9) rfl) ?_
 refine oISN X0 hx hby dd9_10 (l' := #[rv o0, iv 18, iv 16]) rfl ?_
 refine oIN X0 hx hby dd9_11 rfl ?_
 refine oIN X0 hx hby dd9_12 rfl ?_
 refine oS (fun _ => XS.isub X0.here hx rfl (hb hby dd9_13) rfl) ?_
 show own_G p e below (T0.setTop (mkF m 14 #[rv o0, iv 18, iv 16] [(.int 2)])) _
 refine oN0 X0 hx hby dd9_14 (XT.i0_le_f (by decide)) ?_
 refine oAN X0 hx hby dd9_17 rfl rfl ?_
 refine oAN X0 hx hby dd9_18 rfl rfl ?_
 refine own_gF X0 hx hZ hown (hw 43) e2 I0 (hb hby dd9_19) fun T3 X2 e3 => ?_
 refine oAN X2 hx hby dd9_22 rfl rfl ?_
 refine oIN X2 hx hby dd9_23 rfl ?_
 refine own_cP X2 hx hZ hown e3 (y := mN27) (b := o0) (hw 234) (hw 235) (own_selP (hw 235) (hw 236) (hw 73) rfl (by decide)) (hw 236) (hw 39) (hw 238) (by decide) I3 (W := 2) (own_rm83 l Z a0 hw [] i0 i1 m0 o0 o2 h0 n0 Z0 O0 I0 I2 I1) [(.int 18)] [(.ref o2), (.ref o0)] hml (lenOf own_pd24 rfl) (hb hby dd9_24) fun T4 h2 v0 L0 X4 e4 q0 => ?_
 obtain ⟨rfl, N1, K1⟩ := q0
 have N2 := Fr.app N0 N1
 have e5 := e4.trans K1
 refine oAN X4 hx hby dd9_27 rfl rfl ?_
 refine own_gF X4 hx hZ hown (hw 45) e5 I1 (hb hby dd9_28) fun T1 X5 e6 => ?_
 refine oS (fun _ => XT.ishl X5.here hx rfl (hb hby dd9_31) rfl) ?_
 show own_G p e below (T1.setTop (mkF m 32 #[rv o0, iv 18, iv 16] [(.int 34), (.ref o2), (.ref o0)])) _
 refine own_cS X5 hx hZ hown e6 (y := mN29) (hw 249) (hw 250) (hw 128) (hw 251) (by decide) (W := 1) (own_rm86 l Z a0 hw [] i0 i1 m0 o2 h0 n0 Z0 O0 I2) [(.ref o2), (.int 34)] [(.ref o0)] hml (lenOf own_pd25 rfl) (hb hby dd9_32) fun T5 h3 v1 L1 X7 e7 q1 => ?_
 obtain ⟨o1, m1, rfl, N3, K0, F00, F2, F3, F01⟩ := q1
 have N4 := Fr.app N2 N3
 have z0 := K0.1
 have F0 := I0.keep K0 nin0
 have F1 := I3.keep K0
 refine own_pF X7 hx hZ hown (hw 43) e7 F0 F1 (Or.inl (hw 44)) (hw 30) (ty := (.array .byte)) rfl rfl (hb hby dd9_35) fun T6 h1 X6 e8 W0 => ?_
 have N5 := Fr.snoc X6 N4 I4
 have z1 := W0.size
 have F4 := Fld.same W0 F0
 have F5 := Exa.wr W0 F1
 have F6 := Fld.other W0 (I1.keep K0 nin0) (Or.inr (slot_ne (C := cN4) (Or.inl (hw 46)) (Or.inl (hw 44)) (by decide) (t := .byte) (t' := (.array .byte)) (by decide) (by decide)))
 have F7 := Fld.other W0 (I5.keep K0 nin0) (Or.inr (slot_ne (C := cN4) (Or.inl (hw 69)) (Or.inl (hw 44)) (by decide) (t := .int) (t' := (.array .byte)) (by decide) (by decide)))
 have N6 : @Ne Nat o1 o0 := by omega
 have F8 := F2.other W0 N6
 have F9 := Exa.wr W0 F3
 have y0 : @LT.lt Nat instLTNat o1 h1.size := by omega
 have K2 : Keep h0 h1 [o0] := (((Keep.refl h0 [o0]).trans K0 all0).wr W0 (Or.inl (by simp)))
 exact own_retV X6 hx hns hrt (hb hby dd9_38) e8 (by decide) (by decide) (⟨o1, m1, rfl, N5, K2, (by omega), F4, F5, F6, F7, F8, F9, y0⟩)
theorem own_rm88 (l : Launch) (Z : State) (a0 : Array Value) (hw : own_W a0 Z) (ws : List Jvm.Cond) (i0 i1 i2 : Int32) (m1 m0 : ClassId) (o1 o0 o2 : Nat) (h0 : Heap) (n0 : Nat) (Z0 : n0 ≤ h0.size) (O0 : Old Z n0 h0) (I2 : Sta Z Z.heap cN2 "COMPACT_STRINGS" "Z" (.int i0)) (I3 : ¬ (i0 = 0)) (I4 : Fld Z h0 o1 cN2 "coder" "B" (.int 0)) (I5 : Exa Z h0 o1 cN2) (I0 : Fld Z h0 o1 cN2 "value" "[B" (.ref o2)) (I1 : Arv Z h0 o2 m1 .byte 16 [(.int 58), (.int 32), (.int 110), (.int 111), (.int 116), (.int 32), (.int 85), (.int 84), (.int 70), (.int 45), (.int 56), (.int 32), (.int 116), (.int 101), (.int 120), (.int 116)] (.int 0)) (I6 : Arv Z h0 o0 m0 .byte 34 [(.int (i1.toInt8.toInt32)), (.int (i2.toInt8.toInt32)), (.int 0), (.int 0), (.int 0), (.int 0), (.int 0), (.int 0), (.int 0), (.int 0), (.int 0), (.int 0), (.int 0), (.int 0), (.int 0), (.int 0), (.int 0), (.int 0), (.int 0), (.int 0), (.int 0), (.int 0), (.int 0), (.int 0), (.int 0), (.int 0), (.int 0), (.int 0), (.int 0), (.int 0), (.int 0), (.int 0), (.int 0), (.int 0)] (.int 0)) (I7 : n0 ≤ o0) (I8 : Exa Z h0 o0 "[B") :
 own_Met l Z h0 mN8 B02 4 (Option.none : Option FieldType) ws (own_R 1 0 0 18) #[(.ref o1), (.ref o0), (.int 2), (.int 0)] (fun v h L => (v = none ∧ Fr n0 L ∧ Keep h0 h [o0] ∧ Arv Z h o0 m0 .byte 34 [(.int (i1.toInt8.toInt32)), (.int (i2.toInt8.toInt32)), (.int 58), (.int 32), (.int 110), (.int 111), (.int 116), (.int 32), (.int 85), (.int 84), (.int 70), (.int 45), (.int 56), (.int 32), (.int 116), (.int 101), (.int 120), (.int 116), (.int 0), (.int 0), (.int 0), (.int 0), (.int 0), (.int 0), (.int 0), (.int 0), (.int 0), (.int 0), (.int 0), (.int 0), (.int 0), (.int 0), (.int 0), (.int 0)] (.int 0) ∧ Exa Z h o0 "[B")) 0 0 := own_go own_pn8 fun p e s m below meth c s₁ hns hrt hnm hml hZ hx hby hown X2 e1 => by
 have N0 := Fr.nil n0
 refine own_cast (own_ef8 m o1 o0 2 0) ?_
 refine oAN X2 hx hby dd12_0 rfl rfl ?_
 refine own_cV X2 hx hZ hown e1 (y := mN4) (z := mN4) (b := o1) (hw 62) (hw 63) (notFace_of_selects (args := #[]) (mvT hZ (hw 65))) (hw 65) (hw 64) (hw 3) (hw 66) (by decide) I5 (W := 0) (own_rm13 l Z a0 hw [] i0 o1 h0 n0 Z0 O0 I2 I3 I4) [] [] hml (lenOf own_pd4 rfl) (hb hby dd12_1) fun T1 h2 v0 L0 X1 e2 q0 => ?_
 obtain ⟨rfl, N1, K1⟩ := q0
 have N2 := Fr.app N0 N1
 have e3 := e2.trans K1
 refine oIN X1 hx hby dd12_4 rfl ?_
 refine oNI X1 hx hby dd12_5 (XT.ii_ne_f (by decide)) ?_
 refine oAN X1 hx hby dd12_8 rfl rfl ?_
 refine own_gF X1 hx hZ hown (hw 20) e3 I0 (hb hby dd12_9) fun T0 X0 e4 => ?_
 refine oIC X0 hx hby dd12_12 ?_
 refine oAN X0 hx hby dd12_13 rfl rfl ?_
 refine oIN X0 hx hby dd12_14 rfl ?_
 refine oIN X0 hx hby dd12_15 rfl ?_
 show own_G p e below (T0.setTop (mkF m 16 #[rv o1, rv o0, iv 2, iv 0] [(.int 0), (.int 2), (.ref o0), (.int 0), (.ref o2)])) _
 refine oS (fun _ => XT.ishl X0.here hx rfl (hb hby dd12_16) rfl) ?_
 refine oAN X0 hx hby dd12_17 rfl rfl ?_
 refine own_gF X0 hx hZ hown (hw 20) e4 I0 (hb hby dd12_18) fun T2 X3 e0 => ?_
 refine oS (own_len X3 hx hZ e0 I1 rfl rfl (hb hby dd12_21)) ?_
 obtain ⟨T3, h1, L1, X4, e5, N3, K0, A0, s0⟩ := cpA X3 hx hZ hown (hw 91) (hw 94) (hw 92) (hw 93) e0 I1 I6 (us := [(.int 58), (.int 32), (.int 110), (.int 111), (.int 116), (.int 32), (.int 85), (.int 84), (.int 70), (.int 45), (.int 56), (.int 32), (.int 116), (.int 101), (.int 120), (.int 116)]) (Or.inl ⟨rfl, rfl⟩) (by decide) (by decide) (by decide) (by decide) (by decide) rfl (Nat.le_of_ble_eq_true rfl) N2 I7 (g := (mkF m 22 #[rv o1, rv o0, iv 2, iv 0] [(.int 16), (.int 2), (.ref o0), (.int 0), (.ref o2)])) rfl (by rw [hml]; rfl) (rest := []) rfl (hb hby dd12_22) (by decide) (W := 0) (by show 2 * 0 + _ ≤ _; exact Nat.le_of_eq rfl) (by decide)
 have z0 := K0.1
 have F0 : Arv Z h1 o0 m0 .byte 34 [(.int (i1.toInt8.toInt32)), (.int (i2.toInt8.toInt32)), (.int 58), (.int 32), (.int 110), (.int 111), (.int 116), (.int 32), (.int 85), (.int 84), (.int 70), (.int 45), (.int 56), (.int 32), (.int 116), (.int 101), (.int 120), (.int 116), (.int 0), (.int 0), (.int 0), (.int 0), (.int 0), (.int 0), (.int 0), (.int 0), (.int 0), (.int 0), (.int 0), (.int 0), (.int 0), (.int 0), (.int 0), (.int 0)] (.int 0) := A0
 refine oS s0 ?_
 refine oGO X4 hx hby (pc' := 43) dd12_25 ?_
 have F1 := I8.keep K0
 have K2 : Keep h0 h1 [o0] := ((Keep.refl h0 [o0]).trans K0 (allS (Or.inl (by simp)) all0))
 exact own_retV X4 hx hns hrt (hb hby dd12_43) e5 (by decide) (by decide) (⟨rfl, N3, K2, F0, F1⟩)
theorem own_rm87 (l : Launch) (Z : State) (a0 : Array Value) (hw : own_W a0 Z) (ws : List Jvm.Cond) (i0 i1 i2 : Int32) (m1 m0 : ClassId) (o2 o1 o0 o3 : Nat) (h0 : Heap) (n0 : Nat) (Z0 : n0 ≤ h0.size) (O0 : Old Z n0 h0) (I1 : Sta Z Z.heap cN2 "COMPACT_STRINGS" "Z" (.int i0)) (I2 : ¬ (i0 = 0)) (I3 : Fld Z h0 o2 cN3 "coder" "B" (.int 0)) (I4 : Fld Z h0 o1 cN2 "coder" "B" (.int 0)) (I0 : Exa Z h0 o1 cN2) (I5 : Exa Z h0 o2 cN4) (I6 : Fld Z h0 o2 cN3 "value" "[B" (.ref o0)) (I7 : Fld Z h0 o1 cN2 "value" "[B" (.ref o3)) (I8 : Arv Z h0 o3 m1 .byte 16 [(.int 58), (.int 32), (.int 110), (.int 111), (.int 116), (.int 32), (.int 85), (.int 84), (.int 70), (.int 45), (.int 56), (.int 32), (.int 116), (.int 101), (.int 120), (.int 116)] (.int 0)) (I9 : Arv Z h0 o0 m0 .byte 34 [(.int (i1.toInt8.toInt32)), (.int (i2.toInt8.toInt32)), (.int 0), (.int 0), (.int 0), (.int 0), (.int 0), (.int 0), (.int 0), (.int 0), (.int 0), (.int 0), (.int 0), (.int 0), (.int 0), (.int 0), (.int 0), (.int 0), (.int 0), (.int 0), (.int 0), (.int 0), (.int 0), (.int 0), (.int 0), (.int 0), (.int 0), (.int 0), (.int 0), (.int 0), (.int 0), (.int 0), (.int 0), (.int 0)] (.int 0)) (I00 : n0 ≤ o0) (I01 : Exa Z h0 o0 "[B") :
 own_Met l Z h0 mN9 B00 3 (Option.none : Option FieldType) ws (own_R 2 0 0 33) #[(.ref o2), (.int 2), (.ref o1)] (fun v h L => (v = none ∧ Fr n0 L ∧ Keep h0 h [o0] ∧ Arv Z h o0 m0 .byte 34 [(.int (i1.toInt8.toInt32)), (.int (i2.toInt8.toInt32)), (.int 58), (.int 32), (.int 110), (.int 111), (.int 116), (.int 32), (.int 85), (.int 84), (.int 70), (.int 45), (.int 56), (.int 32), (.int 116), (.int 101), (.int 120), (.int 116), (.int 0), (.int 0), (.int 0), (.int 0), (.int 0), (.int 0), (.int 0), (.int 0), (.int 0), (.int 0), (.int 0), (.int 0), (.int 0), (.int 0), (.int 0), (.int 0)] (.int 0) ∧ Exa Z h o0 "[B")) 0 0 := own_go own_pn9 fun p e s m below meth c s₁ hns hrt hnm hml hZ hx hby hown X0 e0 => by
 have N0 := Fr.nil n0
 refine own_cast (own_ef7 m o2 2 o1) ?_
 refine oAN X0 hx hby dd10_0 rfl rfl ?_
 refine oAN X0 hx hby dd10_1 rfl rfl ?_
 refine own_cP X0 hx hZ hown e0 (y := mN7) (b := o2) (hw 80) (hw 81) (own_selP (hw 81) (hw 82) (hw 73) rfl (by decide)) (hw 82) (hw 39) (hw 84) (by decide) I5 (W := 0) (own_rm16 l Z a0 hw [] i0 o2 o1 h0 n0 Z0 O0 I1 I2 I3 I4 I0) [(.ref o1)] [] hml (lenOf own_pd6 rfl) (hb hby dd10_2) fun T1 h2 v0 L0 X1 e1 q0 => ?_
 obtain ⟨rfl, N1, K1⟩ := q0
 have N2 := Fr.app N0 N1
 have e2 := e1.trans K1
 refine oAN X1 hx hby dd10_5 rfl rfl ?_
 refine oAN X1 hx hby dd10_6 rfl rfl ?_
 refine own_gF X1 hx hZ hown (hw 43) e2 I6 (hb hby dd10_7) fun T2 X2 e3 => ?_
 refine oIN X2 hx hby dd10_10 rfl ?_
 refine oAN X2 hx hby dd10_11 rfl rfl ?_
 refine own_gF X2 hx hZ hown (hw 45) e3 I3 (hb hby dd10_12) fun T3 X3 e4 => ?_
 refine own_cV X3 hx hZ hown e4 (y := mN8) (z := mN8) (b := o1) (hw 86) (hw 87) (notFace_of_selects (args := #[]) (mvT hZ (hw 89))) (hw 89) (hw 88) (hw 3) (hw 90) (by decide) I0 (W := 0) (own_rm88 l Z a0 hw [] i0 i1 i2 m1 m0 o1 o0 o3 h0 n0 Z0 O0 I1 I2 I4 I0 I7 I8 I9 I00 I01) [(.ref o0), (.int 2), (.int 0)] [] hml (lenOf own_pd7 rfl) (hb hby dd10_15) fun T0 h1 v1 L1 X4 e5 q1 => ?_
 obtain ⟨rfl, N3, K0, F0, F1⟩ := q1
 have N4 := Fr.app N2 N3
 have z0 := K0.1
 show own_G p e below (T0.setTop (mkF m 18 #[rv o2, iv 2, rv o1] [])) _
 have K2 : Keep h0 h1 [o0] := ((Keep.refl h0 [o0]).trans K0 (allS (Or.inl (by simp)) all0))
 exact own_retV X4 hx hns hrt (hb hby dd10_18) e5 (by decide) (by decide) (⟨rfl, N4, K2, F0, F1⟩)
theorem own_rm81 (l : Launch) (Z : State) (a0 : Array Value) (hw : own_W a0 Z) (ws : List Jvm.Cond) (i0 i1 i2 : Int32) (m1 m2 : ClassId) (o0 o1 o3 o4 : Nat) (h0 : Heap) (n0 : Nat) (Z0 : n0 ≤ h0.size) (O0 : Old Z n0 h0) (I2 : Fld Z h0 o1 cN2 "value" "[B" (.ref o3)) (I3 : Arv Z h0 o3 m1 .byte 16 [(.int 58), (.int 32), (.int 110), (.int 111), (.int 116), (.int 32), (.int 85), (.int 84), (.int 70), (.int 45), (.int 56), (.int 32), (.int 116), (.int 101), (.int 120), (.int 116)] (.int 0)) (I4 : Sta Z Z.heap cN2 "COMPACT_STRINGS" "Z" (.int i0)) (I5 : ¬ (i0 = 0)) (I6 : Fld Z h0 o1 cN2 "coder" "B" (.int 0)) (I0 : Exa Z h0 o1 cN2) (I7 : Fld Z h0 o0 cN3 "count" "I" (.int 2)) (I00 : Fld Z h0 o0 cN3 "value" "[B" (.ref o4)) (I01 : Arv Z h0 o4 m2 .byte 16 [(.int (i1.toInt8.toInt32)), (.int (i2.toInt8.toInt32)), (.int 0), (.int 0), (.int 0), (.int 0), (.int 0), (.int 0), (.int 0), (.int 0), (.int 0), (.int 0), (.int 0), (.int 0), (.int 0), (.int 0)] (.int 0)) (I02 : Fld Z h0 o0 cN3 "coder" "B" (.int 0)) (I8 : Exa Z h0 o0 cN4) (I1 : n0 ≤ o0) (I04 : @LT.lt Nat instLTNat o0 h0.size) (I9 : @Ne Nat o1 o0) (I03 : @Ne Nat o3 o0) :
 own_Met l Z h0 mN10 B6 3 (Option.some (FieldType.object cN3)) ws (own_R 4 1 34 62) #[(.ref o0), (.ref o1)] (fun v h L => (∃ o2 : Nat, ∃ m0 : ClassId, v = some (.ref o0) ∧ Fr n0 L ∧ Keep h0 h [o0] ∧ h0.size ≤ o2 ∧ Fld Z h o0 cN3 "value" "[B" (.ref o2) ∧ Exa Z h o0 cN4 ∧ Fld Z h o0 cN3 "coder" "B" (.int 0) ∧ Fld Z h o0 cN3 "count" "I" (.int 18) ∧ Arv Z h o2 m0 .byte 34 [(.int (i1.toInt8.toInt32)), (.int (i2.toInt8.toInt32)), (.int 58), (.int 32), (.int 110), (.int 111), (.int 116), (.int 32), (.int 85), (.int 84), (.int 70), (.int 45), (.int 56), (.int 32), (.int 116), (.int 101), (.int 120), (.int 116), (.int 0), (.int 0), (.int 0), (.int 0), (.int 0), (.int 0), (.int 0), (.int 0), (.int 0), (.int 0), (.int 0), (.int 0), (.int 0), (.int 0), (.int 0), (.int 0)] (.int 0) ∧ Exa Z h o2 "[B" ∧ @LT.lt Nat instLTNat o2 h.size)) 1 34 := own_go own_pn10 fun p e s m below meth c s₁ hns hrt hnm hml hZ hx hby hown X0 e0 => by
 have N1 := Fr.nil n0
 refine own_cast (own_ef5 m o0 o1) ?_
 refine oAN X0 hx hby dd6_0 rfl rfl ?_
 refine oS (fun _ => XT.ifnonnullYes X0.here hx rfl (pc0 := 1) (pc' := 9) rfl (hb hby dd6_1) rfl (by decide) (by decide)) ?_
 refine oAN X0 hx hby dd6_9 rfl rfl ?_
 refine own_cV X0 hx hZ hown e0 (y := mN5) (z := mN5) (b := o1) (hw 57) (hw 58) (notFace_of_selects (args := #[]) (mvT hZ (hw 60))) (hw 60) (hw 59) (hw 3) (hw 61) (by decide) I0 (W := 0) (own_rm21 l Z a0 hw [] i0 m1 o1 o3 h0 n0 Z0 O0 I2 I3 I4 I5 I6 I0) [] [] hml (lenOf own_pd5 rfl) (hb hby dd6_10) fun T2 h3 v0 L0 X1 e1 q0 => ?_
 obtain ⟨rfl, N2, K2⟩ := q0
 have N3 := Fr.app N1 N2
 have e2 := e1.trans K2
 refine oISN X1 hx hby dd6_13 (l' := #[rv o0, rv o1, iv 16]) rfl ?_
 refine oAN X1 hx hby dd6_14 rfl rfl ?_
 refine oAN X1 hx hby dd6_15 rfl rfl ?_
 refine own_gF X1 hx hZ hown (hw 68) e2 I7 (hb hby dd6_16) fun T0 X2 e3 => ?_
 refine oIN X2 hx hby dd6_19 rfl ?_
 refine oS (fun _ => XS.iadd X2.here hx rfl (hb hby dd6_20) rfl) ?_
 show own_G p e below (T0.setTop (mkF m 21 #[rv o0, rv o1, iv 16] [(.int 18), (.ref o0)])) _
 have y0 : @LT.lt Nat instLTNat o0 h0.size := by omega
 refine own_cP X2 hx hZ hown e3 (y := mN6) (b := o0) (hw 70) (hw 71) (own_selP (hw 71) (hw 72) (hw 73) rfl (by decide)) (hw 72) (hw 39) (hw 74) (by decide) I8 (W := 0) (own_rm82 l Z a0 hw [] i1 i2 m2 o0 o4 h0 n0 Z0 O0 I00 I01 I02 I8 I1 I7 y0) [(.int 18)] [] hml (lenOf own_pd2 rfl) (hb hby dd6_21) fun T3 h1 v1 L1 X3 e4 q1 => ?_
 obtain ⟨o2, m0, rfl, N4, K0, F0a, F2, F0, F3, F4, F6, F7, F0b⟩ := q1
 have N5 := Fr.app N3 N4
 have z0 := K0.1
 refine oAN X3 hx hby dd6_24 rfl rfl ?_
 refine oAN X3 hx hby dd6_25 rfl rfl ?_
 refine own_gF X3 hx hZ hown (hw 68) e4 F4 (hb hby dd6_26) fun T4 X7 e5 => ?_
 refine oAN X7 hx hby dd6_29 rfl rfl ?_
 have F8 := I6.keep K0 (ninS I9 nin0)
 have F9 := I0.keep K0
 have F00 := I2.keep K0 (ninS I9 nin0)
 have F01 := I3.keep K0 (ninS I03 nin0)
 have N6 : n0 ≤ o2 := by omega
 have O1 : Old Z n0 h1 := O0.keep K0 (allS I1 all0)
 have Z1 : n0 ≤ h1.size := by omega
 refine own_cP X7 hx hZ hown e5 (y := mN9) (b := o0) (hw 75) (hw 76) (own_selP (hw 76) (hw 77) (hw 73) rfl (by decide)) (hw 77) (hw 39) (hw 79) (by decide) F0 (W := 0) (own_rm87 l Z a0 hw [] i0 i1 i2 m1 m0 o0 o1 o2 o3 h1 n0 Z1 O1 I4 I5 F3 F8 F9 F0 F2 F00 F01 F6 N6 F7) [(.int 2), (.ref o1)] [] hml (lenOf own_pd8 rfl) (hb hby dd6_30) fun T5 h4 v2 L2 X4 e6 q2 => ?_
 obtain ⟨rfl, N7, K1, F02, F03⟩ := q2
 have N8 := Fr.app N5 N7
 have z1 := K1.1
 refine oAN X4 hx hby dd6_33 rfl rfl ?_
 refine oS (fun _ => XS.dup X4.here hx rfl (hb hby dd6_34) rfl rfl) ?_
 have N0 : @Ne Nat o0 o2 := by omega
 have F1 := F4.keep K1 (ninS N0 nin0)
 refine own_gF X4 hx hZ hown (hw 68) e6 F1 (hb hby dd6_35) fun T1 X5 e7 => ?_
 refine oIN X5 hx hby dd6_38 rfl ?_
 show own_G p e below (T1.setTop (mkF m 39 #[rv o0, rv o1, iv 16] [(.int 16), (.int 2), (.ref o0)])) _
 refine oS (fun _ => XS.iadd X5.here hx rfl (hb hby dd6_39) rfl) ?_
 have F5 := F0.keep K1
 refine own_pF X5 hx hZ hown (hw 68) e7 F1 F5 (Or.inl (hw 69)) (hw 30) (ty := .int) rfl rfl (hb hby dd6_40) fun T6 h2 X6 e8 W0 => ?_
 have N9 := Fr.snoc X6 N8 I1
 have z2 := W0.size
 have F04 := Fld.same W0 F1
 refine oAN X6 hx hby dd6_43 rfl rfl ?_
 have F05 := Fld.other W0 (F2.keep K1 (ninS N0 nin0)) (Or.inr (slot_ne (C := cN4) (Or.inl (hw 44)) (Or.inl (hw 69)) (by decide) (t := (.array .byte)) (t' := .int) (by decide) (by decide)))
 have F06 := Exa.wr W0 F5
 have F07 := Fld.other W0 (F3.keep K1 (ninS N0 nin0)) (Or.inr (slot_ne (C := cN4) (Or.inl (hw 46)) (Or.inl (hw 69)) (by decide) (t := .byte) (t' := .int) (by decide) (by decide)))
 have F08 := F02.other W0 (Ne.symm N0)
 have F09 := Exa.wr W0 F03
 have y1 : @LT.lt Nat instLTNat o2 h2.size := by omega
 have K3 : Keep h0 h2 [o0] := ((((Keep.refl h0 [o0]).trans K0 (allS (Or.inl (by simp)) all0)).trans K1 (allS (Or.inr (by omega)) all0)).wr W0 (Or.inl (by simp)))
 exact own_retA X6 hx hns hrt rfl rfl (hb hby dd6_44) e8 (by decide) (by decide) (⟨o2, m0, rfl, N9, K3, (by omega), F05, F06, F07, F04, F08, F09, y1⟩)
theorem own_rm80 (l : Launch) (Z : State) (a0 : Array Value) (hw : own_W a0 Z) (ws : List Jvm.Cond) (i0 i1 i2 : Int32) (m1 m2 : ClassId) (o0 o1 o3 o4 : Nat) (h0 : Heap) (n0 : Nat) (Z0 : n0 ≤ h0.size) (O0 : Old Z n0 h0) (I1 : Fld Z h0 o1 cN2 "value" "[B" (.ref o3)) (I2 : Arv Z h0 o3 m1 .byte 16 [(.int 58), (.int 32), (.int 110), (.int 111), (.int 116), (.int 32), (.int 85), (.int 84), (.int 70), (.int 45), (.int 56), (.int 32), (.int 116), (.int 101), (.int 120), (.int 116)] (.int 0)) (I3 : Sta Z Z.heap cN2 "COMPACT_STRINGS" "Z" (.int i0)) (I4 : ¬ (i0 = 0)) (I5 : Fld Z h0 o1 cN2 "coder" "B" (.int 0)) (I6 : Exa Z h0 o1 cN2) (I7 : Fld Z h0 o0 cN3 "count" "I" (.int 2)) (I8 : Fld Z h0 o0 cN3 "value" "[B" (.ref o4)) (I9 : Arv Z h0 o4 m2 .byte 16 [(.int (i1.toInt8.toInt32)), (.int (i2.toInt8.toInt32)), (.int 0), (.int 0), (.int 0), (.int 0), (.int 0), (.int 0), (.int 0), (.int 0), (.int 0), (.int 0), (.int 0), (.int 0), (.int 0), (.int 0)] (.int 0)) (I00 : Fld Z h0 o0 cN3 "coder" "B" (.int 0)) (I0 : Exa Z h0 o0 cN4) (I01 : n0 ≤ o0) (I04 : @LT.lt Nat instLTNat o0 h0.size) (I02 : @Ne Nat o1 o0) (I03 : @Ne Nat o3 o0) :
 own_Met l Z h0 mN11 B5 2 (Option.some (FieldType.object cN4)) ws (own_R 5 1 34 76) #[(.ref o0), (.ref o1)] (fun v h L => (∃ o2 : Nat, ∃ m0 : ClassId, v = some (.ref o0) ∧ Fr n0 L ∧ Keep h0 h [o0] ∧ h0.size ≤ o2 ∧ Fld Z h o0 cN3 "value" "[B" (.ref o2) ∧ Exa Z h o0 cN4 ∧ Fld Z h o0 cN3 "coder" "B" (.int 0) ∧ Fld Z h o0 cN3 "count" "I" (.int 18) ∧ Arv Z h o2 m0 .byte 34 [(.int (i1.toInt8.toInt32)), (.int (i2.toInt8.toInt32)), (.int 58), (.int 32), (.int 110), (.int 111), (.int 116), (.int 32), (.int 85), (.int 84), (.int 70), (.int 45), (.int 56), (.int 32), (.int 116), (.int 101), (.int 120), (.int 116), (.int 0), (.int 0), (.int 0), (.int 0), (.int 0), (.int 0), (.int 0), (.int 0), (.int 0), (.int 0), (.int 0), (.int 0), (.int 0), (.int 0), (.int 0), (.int 0)] (.int 0) ∧ Exa Z h o2 "[B" ∧ @LT.lt Nat instLTNat o2 h.size)) 1 34 := own_go own_pn11 fun p e s m below meth c s₁ hns hrt hnm hml hZ hx hby hown X0 e0 => by
 have N0 := Fr.nil n0
 refine own_cast (own_ef1 m o0 o1) ?_
 refine oAN X0 hx hby dd5_0 rfl rfl ?_
 refine oAN X0 hx hby dd5_1 rfl rfl ?_
 have y0 : @LT.lt Nat instLTNat o0 h0.size := by omega
 refine own_cX X0 hx hZ hown e0 (y := mN10) (b := o0) (hw 52) (hw 55) (own_nf (hw 73) rfl) (hw 53) (hw 54) (by decide) (hw 39) (hw 56) (by decide) I0 (W := 0) (own_rm81 l Z a0 hw [] i0 i1 i2 m1 m2 o0 o1 o3 o4 h0 n0 Z0 O0 I1 I2 I3 I4 I5 I6 I7 I8 I9 I00 I0 I01 y0 I02 I03) [(.ref o1)] [] hml (lenOf own_pd9 rfl) (hb hby dd5_2) fun T0 h1 v0 L0 X1 e1 q0 => ?_
 obtain ⟨o2, m0, rfl, N1, K0, F6, F0, F1, F2, F3, F4, F5, F7⟩ := q0
 have N2 := Fr.app N0 N1
 have z0 := K0.1
 refine oS (fun _ => XT.pop X1.here hx rfl (hb hby dd5_5) rfl rfl) ?_
 refine oAN X1 hx hby dd5_6 rfl rfl ?_
 have y1 : @LT.lt Nat instLTNat o2 h1.size := by omega
 have K1 : Keep h0 h1 [o0] := ((Keep.refl h0 [o0]).trans K0 (allS (Or.inl (by simp)) all0))
 exact own_retA X1 hx hns hrt rfl rfl (hb hby dd5_7) e1 (by decide) (by decide) (⟨o2, m0, rfl, N2, K1, (by omega), F0, F1, F2, F3, F4, F5, y1⟩)
theorem own_rm93 (l : Launch) (Z : State) (a0 : Array Value) (hw : own_W a0 Z) (ws : List Jvm.Cond) (o0 : Nat) (h0 : Heap) (n0 : Nat) (Z0 : n0 ≤ h0.size) (O0 : Old Z n0 h0) (I0 : Fld Z h0 o0 cN3 "count" "I" (.int 18)) :
 own_Met l Z h0 mN13 B08 1 (Option.some FieldType.int) ws (own_R 0 0 0 0) #[(.ref o0)] (fun v h L => (v = some (.int 18) ∧ Fr n0 L ∧ h = h0)) 0 0 := own_go own_pn13 fun p e s m below meth c s₁ hns hrt hnm hml hZ hx hby hown X0 e0 => by
 have N0 := Fr.nil n0
 refine own_cast (own_ef3 m o0) ?_
 refine oAN X0 hx hby dd18_0 rfl rfl ?_
 refine own_gF X0 hx hZ hown (hw 68) e0 I0 (hb hby dd18_1) fun T0 X1 e1 => ?_
 exact own_retI X1 hx hns hrt (hb hby dd18_4) e1 (by decide) (by decide) (⟨rfl, N0, rfl⟩)
theorem own_rm92 (l : Launch) (Z : State) (a0 : Array Value) (hw : own_W a0 Z) (ws : List Jvm.Cond) (o0 : Nat) (h0 : Heap) (n0 : Nat) (Z0 : n0 ≤ h0.size) (O0 : Old Z n0 h0) (I0 : Fld Z h0 o0 cN3 "count" "I" (.int 18)) (I1 : Exa Z h0 o0 cN4) :
 own_Met l Z h0 mN14 B07 1 (Option.some FieldType.int) ws (own_R 1 0 0 12) #[(.ref o0)] (fun v h L => (v = some (.int 18) ∧ Fr n0 L ∧ h = h0)) 0 0 := own_go own_pn14 fun p e s m below meth c s₁ hns hrt hnm hml hZ hx hby hown X0 e0 => by
 have N0 := Fr.nil n0
 refine own_cast (own_ef3 m o0) ?_
 refine oAN X0 hx hby dd17_0 rfl rfl ?_
 refine own_cX X0 hx hZ hown e0 (y := mN13) (b := o0) (hw 119) (hw 114) (own_nf (hw 73) rfl) (hw 115) (hw 54) (by decide) (hw 39) (hw 120) (by decide) I1 (W := 0) (own_rm93 l Z a0 hw [] o0 h0 n0 Z0 O0 I0) [] [] hml (lenOf own_pd5 rfl) (hb hby dd17_1) fun T0 h1 v0 L0 X1 e1 q0 => ?_
 obtain ⟨rfl, N1, K0⟩ := q0
 have N2 := Fr.app N0 N1
 have e2 := e1.trans K0
 exact own_retI X1 hx hns hrt (hb hby dd17_4) e2 (by decide) (by decide) (⟨rfl, N2, rfl⟩)
theorem own_rm96 (l : Launch) (Z : State) (a0 : Array Value) (hw : own_W a0 Z) (ws : List Jvm.Cond)  (h0 : Heap) (n0 : Nat) (Z0 : n0 ≤ h0.size) (O0 : Old Z n0 h0)  :
 own_Met l Z h0 mN30 B0l 2 (Option.none : Option FieldType) ws (own_R 0 0 0 0) #[(.int 0), (.int 18)] (fun v h L => (v = none ∧ Fr n0 L ∧ h = h0)) 0 0 := own_go own_pn30 fun p e s m below meth c s₁ hns hrt hnm hml hZ hx hby hown X0 e0 => by
 have N0 := Fr.nil n0
 refine own_cast (own_ef15 m 0 18) ?_
 refine oIN X0 hx hby dd31_0 rfl ?_
 refine oIN X0 hx hby dd31_1 rfl ?_
 refine oYI X0 hx hby (pc' := 37) dd31_2 (XT.ii_ge_t (by decide)) ?_
 exact own_retV X0 hx hns hrt (hb hby dd31_37) e0 (by decide) (by decide) (⟨rfl, N0, rfl⟩)
theorem own_rm97 (l : Launch) (Z : State) (a0 : Array Value) (hw : own_W a0 Z) (ws : List Jvm.Cond)  (h0 : Heap) (n0 : Nat) (Z0 : n0 ≤ h0.size) (O0 : Old Z n0 h0)  :
 own_Met l Z h0 mN28 B0j 2 (Option.some FieldType.int) ws (own_R 0 0 0 0) #[(.int 34), (.int 18)] (fun v h L => (v = some (.int 18) ∧ Fr n0 L ∧ h = h0)) 0 0 := own_go own_pn28 fun p e s m below meth c s₁ hns hrt hnm hml hZ hx hby hown X0 e0 => by
 have N0 := Fr.nil n0
 refine own_cast (own_ef15 m 34 18) ?_
 refine oIN X0 hx hby dd29_0 rfl ?_
 refine oIN X0 hx hby dd29_1 rfl ?_
 refine oYI X0 hx hby (pc' := 9) dd29_2 (XT.ii_gt_t (by decide)) ?_
 refine oIN X0 hx hby dd29_9 rfl ?_
 exact own_retI X0 hx hns hrt (hb hby dd29_10) e0 (by decide) (by decide) (⟨rfl, N0, rfl⟩)
theorem own_rm95 (l : Launch) (Z : State) (a0 : Array Value) (hw : own_W a0 Z) (ws : List Jvm.Cond) (i0 i1 : Int32) (m1 : ClassId) (o1 : Nat) (h0 : Heap) (n0 : Nat) (Z0 : n0 ≤ h0.size) (O0 : Old Z n0 h0) (I0 : Arv Z h0 o1 m1 .byte 34 [(.int (i0.toInt8.toInt32)), (.int (i1.toInt8.toInt32)), (.int 58), (.int 32), (.int 110), (.int 111), (.int 116), (.int 32), (.int 85), (.int 84), (.int 70), (.int 45), (.int 56), (.int 32), (.int 116), (.int 101), (.int 120), (.int 116), (.int 0), (.int 0), (.int 0), (.int 0), (.int 0), (.int 0), (.int 0), (.int 0), (.int 0), (.int 0), (.int 0), (.int 0), (.int 0), (.int 0), (.int 0), (.int 0)] (.int 0)) :
 own_Met l Z h0 mN31 B0k 5 (Option.some (FieldType.array FieldType.byte)) ws (own_R 1 1 18 18) #[(.ref o1), (.int 0), (.int 18)] (fun v h L => (∃ o0 : Nat, ∃ m0 : ClassId, v = some (.ref o0) ∧ Fr n0 L ∧ Keep h0 h [] ∧ h0.size ≤ o0 ∧ Arv Z h o0 m0 .byte 18 [(.int (i0.toInt8.toInt32)), (.int (i1.toInt8.toInt32)), (.int 58), (.int 32), (.int 110), (.int 111), (.int 116), (.int 32), (.int 85), (.int 84), (.int 70), (.int 45), (.int 56), (.int 32), (.int 116), (.int 101), (.int 120), (.int 116)] (.int 0) ∧ Exa Z h o0 "[B" ∧ @LT.lt Nat instLTNat o0 h.size)) 1 18 := own_go own_pn31 fun p e s m below meth c s₁ hns hrt hnm hml hZ hx hby hown X2 e1 => by
 have N0 := Fr.nil n0
 refine own_cast (own_ef16 m o1 0 18) ?_
 refine oIN X2 hx hby dd30_0 rfl ?_
 refine oIN X2 hx hby dd30_1 rfl ?_
 refine own_cS X2 hx hZ hown e1 (y := mN30) (hw 259) (hw 260) (hw 128) (hw 261) (by decide) (W := 0) (own_rm96 l Z a0 hw []  h0 n0 Z0 O0 ) [(.int 0), (.int 18)] [] hml (lenOf own_pd26 rfl) (hb hby dd30_2) fun T2 h3 v0 L0 X1 e2 q0 => ?_
 obtain ⟨rfl, N1, K1⟩ := q0
 have N2 := Fr.app N0 N1
 have e3 := e2.trans K1
 refine oIN X1 hx hby dd30_5 rfl ?_
 refine oIN X1 hx hby dd30_6 rfl ?_
 refine oS (fun _ => XS.isub X1.here hx rfl (hb hby dd30_7) rfl) ?_
 refine oISN X1 hx hby dd30_8 (l' := #[rv o1, iv 0, iv 18, iv 18, .unset]) rfl ?_
 refine oIN X1 hx hby dd30_9 rfl ?_
 obtain ⟨T0, h1, m0, X0, e0, E0, A0, B0, s0⟩ := own_newP X1 hx hZ (aty := .byte) (hw 15) e3 (nm := "[B") rfl (g := (mkF m 10 #[rv o1, iv 0, iv 18, iv 18, .unset] [(.int 18)])) rfl (hb hby dd30_10) (n := 18) (rest := []) rfl (by decide) (cap := 18) (by decide) (by decide) (by decide) (by decide)
 obtain ⟨o0, g0⟩ : ∃ z, z = h0.size := ⟨_, rfl⟩
 rw [← g0] at A0 B0 s0
 have F0 : Arv Z h1 o0 m0 .byte 18 [(.int 0), (.int 0), (.int 0), (.int 0), (.int 0), (.int 0), (.int 0), (.int 0), (.int 0), (.int 0), (.int 0), (.int 0), (.int 0), (.int 0), (.int 0), (.int 0), (.int 0), (.int 0)] (.int 0) := own_newA A0 (by decide) rfl rfl
 have z0 := E0.1
 have y1 : @LT.lt Nat instLTNat o0 h1.size := F0.lt
 refine oS s0 ?_
 refine oAS X0 hx hby dd30_12 rfl (l' := #[rv o1, iv 0, iv 18, iv 18, rv o0]) rfl ?_
 show own_G p e below (T0.setTop (mkF m 14 #[rv o1, iv 0, iv 18, iv 18, rv o0] [])) _
 refine oAN X0 hx hby dd30_14 rfl rfl ?_
 refine oIN X0 hx hby dd30_15 rfl ?_
 refine oAL X0 hx hby dd30_16 rfl rfl ?_
 refine oIC X0 hx hby dd30_18 ?_
 refine oAN X0 hx hby dd30_19 rfl rfl ?_
 have F1 := I0.ext E0
 refine oS (own_len X0 hx hZ e0 F1 rfl rfl (hb hby dd30_20)) ?_
 refine oIN X0 hx hby dd30_21 rfl ?_
 refine oS (fun _ => XS.isub X0.here hx rfl (hb hby dd30_22) rfl) ?_
 refine oIN X0 hx hby dd30_23 rfl ?_
 have O1 : Old Z n0 h1 := O0.ext E0
 have Z1 : n0 ≤ h1.size := by omega
 refine own_cS X0 hx hZ hown e0 (y := mN28) (hw 252) (hw 253) (hw 245) (hw 254) (by decide) (W := 4) (own_rm97 l Z a0 hw []  h1 n0 Z1 O1 ) [(.int 34), (.int 18)] [(.int 0), (.ref o0), (.int 0), (.ref o1)] hml (lenOf own_pd22 rfl) (hb hby dd30_24) fun T1 h4 v1 L1 X4 e4 q1 => ?_
 obtain ⟨rfl, N3, K2⟩ := q1
 have N4 := Fr.app N2 N3
 have e5 := e4.trans K2
 show own_G p e below (T1.setTop (mkF m 27 #[rv o1, iv 0, iv 18, iv 18, rv o0] [(.int 18), (.int 0), (.ref o0), (.int 0), (.ref o1)])) _
 have N5 : n0 ≤ o0 := by omega
 obtain ⟨T3, h2, L2, X3, e6, N6, K0, A1, s1⟩ := cpA X4 hx hZ hown (hw 255) (hw 94) (hw 92) (hw 93) e5 F1 F0 (us := [(.int (i0.toInt8.toInt32)), (.int (i1.toInt8.toInt32)), (.int 58), (.int 32), (.int 110), (.int 111), (.int 116), (.int 32), (.int 85), (.int 84), (.int 70), (.int 45), (.int 56), (.int 32), (.int 116), (.int 101), (.int 120), (.int 116)]) (Or.inl ⟨rfl, rfl⟩) (by decide) (by decide) (by decide) (by decide) (by decide) rfl (Nat.le_of_ble_eq_true rfl) N4 N5 (g := (mkF m 27 #[rv o1, iv 0, iv 18, iv 18, rv o0] [(.int 18), (.int 0), (.ref o0), (.int 0), (.ref o1)])) rfl (by rw [hml]; rfl) (rest := []) rfl (hb hby dd30_27) (by decide) (W := 0) (by show 2 * 0 + _ ≤ _; exact Nat.le_of_eq rfl) (by decide)
 have z1 := K0.1
 have F2 : Arv Z h2 o0 m0 .byte 18 [(.int (i0.toInt8.toInt32)), (.int (i1.toInt8.toInt32)), (.int 58), (.int 32), (.int 110), (.int 111), (.int 116), (.int 32), (.int 85), (.int 84), (.int 70), (.int 45), (.int 56), (.int 32), (.int 116), (.int 101), (.int 120), (.int 116)] (.int 0) := A1
 refine oS s1 ?_
 refine oAL X3 hx hby dd30_30 rfl rfl ?_
 have F3 := B0.keep K0
 have y0 : @LT.lt Nat instLTNat o0 h2.size := by omega
 have K3 : Keep h0 h2 [] := (((Keep.refl h0 []).ext E0).trans K0 (allS (Or.inr (by omega)) all0))
 exact own_retA X3 hx hns hrt rfl rfl (hb hby dd30_32) e6 (by decide) (by decide) (⟨o0, m0, rfl, N6, K3, (by omega), F2, F3, y0⟩)
theorem own_rm94 (l : Launch) (Z : State) (a0 : Array Value) (hw : own_W a0 Z) (ws : List Jvm.Cond) (i0 i1 : Int32) (m1 : ClassId) (o1 : Nat) (h0 : Heap) (n0 : Nat) (Z0 : n0 ≤ h0.size) (O0 : Old Z n0 h0) (I0 : Arv Z h0 o1 m1 .byte 34 [(.int (i0.toInt8.toInt32)), (.int (i1.toInt8.toInt32)), (.int 58), (.int 32), (.int 110), (.int 111), (.int 116), (.int 32), (.int 85), (.int 84), (.int 70), (.int 45), (.int 56), (.int 32), (.int 116), (.int 101), (.int 120), (.int 116), (.int 0), (.int 0), (.int 0), (.int 0), (.int 0), (.int 0), (.int 0), (.int 0), (.int 0), (.int 0), (.int 0), (.int 0), (.int 0), (.int 0), (.int 0), (.int 0)] (.int 0)) :
 own_Met l Z h0 mN16 B0a 3 (Option.some (FieldType.array FieldType.byte)) ws (own_R 2 1 18 34) #[(.ref o1), (.int 0), (.int 18)] (fun v h L => (∃ o0 : Nat, ∃ m0 : ClassId, v = some (.ref o0) ∧ Fr n0 L ∧ Keep h0 h [] ∧ h0.size ≤ o0 ∧ Arv Z h o0 m0 .byte 18 [(.int (i0.toInt8.toInt32)), (.int (i1.toInt8.toInt32)), (.int 58), (.int 32), (.int 110), (.int 111), (.int 116), (.int 32), (.int 85), (.int 84), (.int 70), (.int 45), (.int 56), (.int 32), (.int 116), (.int 101), (.int 120), (.int 116)] (.int 0) ∧ Exa Z h o0 "[B" ∧ @LT.lt Nat instLTNat o0 h.size)) 1 18 := own_go own_pn16 fun p e s m below meth c s₁ hns hrt hnm hml hZ hx hby hown X0 e0 => by
 have N0 := Fr.nil n0
 refine own_cast (own_ef10 m o1 0 18) ?_
 refine oIN X0 hx hby dd20_0 rfl ?_
 refine oN0 X0 hx hby dd20_1 (XT.i0_ne_f (by decide)) ?_
 refine oIN X0 hx hby dd20_4 rfl ?_
 refine oAN X0 hx hby dd20_5 rfl rfl ?_
 refine oS (own_len X0 hx hZ e0 I0 rfl rfl (hb hby dd20_6)) ?_
 refine oNI X0 hx hby dd20_7 (XT.ii_eq_f (by decide)) ?_
 refine oAN X0 hx hby dd20_10 rfl rfl ?_
 refine oIN X0 hx hby dd20_11 rfl ?_
 refine oIN X0 hx hby dd20_12 rfl ?_
 refine own_cS X0 hx hZ hown e0 (y := mN31) (hw 256) (hw 257) (hw 128) (hw 258) (by decide) (W := 0) (own_rm95 l Z a0 hw [] i0 i1 m1 o1 h0 n0 Z0 O0 I0) [(.ref o1), (.int 0), (.int 18)] [] hml (lenOf own_pd13 rfl) (hb hby dd20_13) fun T0 h1 v0 L0 X1 e1 q0 => ?_
 obtain ⟨o0, m0, rfl, N1, K0, F2, F0, F1, F3⟩ := q0
 have N2 := Fr.app N0 N1
 have z0 := K0.1
 show own_G p e below (T0.setTop (mkF m 16 #[rv o1, iv 0, iv 18] [(.ref o0)])) _
 have y0 : @LT.lt Nat instLTNat o0 h1.size := by omega
 have K1 : Keep h0 h1 [] := ((Keep.refl h0 []).trans K0 all0)
 exact own_retA X1 hx hns hrt rfl rfl (hb hby dd20_16) e1 (by decide) (by decide) (⟨o0, m0, rfl, N2, K1, (by omega), F0, F1, y0⟩)
theorem own_rm91 (l : Launch) (Z : State) (a0 : Array Value) (hw : own_W a0 Z) (ws : List Jvm.Cond) (i0 i1 i2 : Int32) (m1 : ClassId) (o0 o1 o2 : Nat) (h0 : Heap) (n0 : Nat) (Z0 : n0 ≤ h0.size) (O0 : Old Z n0 h0) (I4 : Fld Z h0 o1 cN3 "value" "[B" (.ref o2)) (I0 : Exa Z h0 o1 cN4) (I5 : Fld Z h0 o1 cN3 "count" "I" (.int 18)) (I6 : Sta Z Z.heap cN2 "COMPACT_STRINGS" "Z" (.int i0)) (I7 : ¬ (i0 = 0)) (I8 : Fld Z h0 o1 cN3 "coder" "B" (.int 0)) (I2 : Fld Z h0 o0 cN2 "coder" "B" (.int 0)) (I3 : Exa Z h0 o0 cN2) (I1 : n0 ≤ o0) (I9 : Arv Z h0 o2 m1 .byte 34 [(.int (i1.toInt8.toInt32)), (.int (i2.toInt8.toInt32)), (.int 58), (.int 32), (.int 110), (.int 111), (.int 116), (.int 32), (.int 85), (.int 84), (.int 70), (.int 45), (.int 56), (.int 32), (.int 116), (.int 101), (.int 120), (.int 116), (.int 0), (.int 0), (.int 0), (.int 0), (.int 0), (.int 0), (.int 0), (.int 0), (.int 0), (.int 0), (.int 0), (.int 0), (.int 0), (.int 0), (.int 0), (.int 0)] (.int 0)) (I00 : @Ne Nat o2 o0) (I01 : Fld Z h0 o0 cN2 "value" "[B" .null) (I02 : @LT.lt Nat instLTNat o0 h0.size) :
 own_Met l Z h0 mN17 B05 5 (Option.none : Option FieldType) ws (own_R 3 1 18 49) #[(.ref o0), (.ref o1), .null] (fun v h L => (∃ o3 : Nat, ∃ m0 : ClassId, v = none ∧ Fr n0 L ∧ Keep h0 h [o0] ∧ h0.size ≤ o3 ∧ Fld Z h o0 cN2 "coder" "B" (.int 0) ∧ Fld Z h o0 cN2 "value" "[B" (.ref o3) ∧ Exa Z h o0 cN2 ∧ Arv Z h o3 m0 .byte 18 [(.int (i1.toInt8.toInt32)), (.int (i2.toInt8.toInt32)), (.int 58), (.int 32), (.int 110), (.int 111), (.int 116), (.int 32), (.int 85), (.int 84), (.int 70), (.int 45), (.int 56), (.int 32), (.int 116), (.int 101), (.int 120), (.int 116)] (.int 0) ∧ Exa Z h o3 "[B" ∧ @LT.lt Nat instLTNat o3 h.size)) 1 18 := own_go own_pn17 fun p e s m below meth c s₁ hns hrt hnm hml hZ hx hby hown X5 e0 => by
 have N0 := Fr.nil n0
 refine own_cast (own_ef9 m o0 o1) ?_
 refine oAN X5 hx hby dd15_0 rfl rfl ?_
 obtain ⟨T2, X6, e1, s0⟩ := initO X5 hx hZ hown (hw 11) (hw 12) (hw 13) e0 (g := (mkF m 1 #[rv o0, rv o1, .val .null, .unset, .unset] [(.ref o0)])) rfl (by rw [hml]; rfl) rfl (hb hby dd15_1) (by decide) (W := 0) (by show 2 * 0 + _ ≤ _; exact Nat.le_of_eq rfl) (by decide)
 refine oS s0 ?_
 refine oAN X6 hx hby dd15_4 rfl rfl ?_
 refine own_cV X6 hx hZ hown e1 (y := mN12) (z := mN12) (b := o1) (hw 108) (hw 109) (notFace_of_selects (args := #[]) (mvT hZ (hw 111))) (hw 111) (hw 110) (hw 39) (hw 112) (by decide) I0 (W := 0) (own_rm28 l Z a0 hw [] o1 o2 h0 n0 Z0 O0 I4) [] [] hml (lenOf own_pd11 rfl) (hb hby dd15_5) fun T3 h3 v0 L0 X2 e2 q0 => ?_
 obtain ⟨rfl, N1, K1⟩ := q0
 have N2 := Fr.app N0 N1
 have e3 := e2.trans K1
 refine oASN X2 hx hby dd15_8 rfl (l' := #[rv o0, rv o1, .val .null, rv o2, .unset]) rfl ?_
 refine oAN X2 hx hby dd15_9 rfl rfl ?_
 refine own_cV X2 hx hZ hown e3 (y := mN13) (z := mN14) (b := o1) (hw 113) (hw 114) (own_nf (args := #[]) (mvT hZ (hw 237)) rfl) (hw 116) (hw 117) (hw 31) (hw 118) (by decide) I0 (W := 0) (own_rm92 l Z a0 hw [] o1 h0 n0 Z0 O0 I5 I0) [] [] hml (lenOf own_pd5 rfl) (hb hby dd15_10) fun T4 h4 v1 L1 X3 e4 q1 => ?_
 obtain ⟨rfl, N3, K2⟩ := q1
 have N4 := Fr.app N2 N3
 have e5 := e4.trans K2
 refine oIS X3 hx hby dd15_13 (l' := #[rv o0, rv o1, .val .null, rv o2, iv 18]) rfl ?_
 refine oAN X3 hx hby dd15_15 rfl rfl ?_
 refine own_cV X3 hx hZ hown e5 (y := mN15) (z := mN15) (b := o1) (hw 121) (hw 122) (notFace_of_selects (args := #[]) (mvT hZ (hw 124))) (hw 124) (hw 123) (hw 39) (hw 125) (by decide) I0 (W := 0) (own_rm31 l Z a0 hw [] i0 o1 h0 n0 Z0 O0 I6 I7 I8) [] [] hml (lenOf own_pd12 rfl) (hb hby dd15_16) fun T0 h5 v2 L2 X1 e6 q2 => ?_
 obtain ⟨rfl, N5, K3⟩ := q2
 have N6 := Fr.app N4 N5
 have e7 := e6.trans K3
 show own_G p e below (T0.setTop (mkF m 19 #[rv o0, rv o1, .val .null, rv o2, iv 18] [(.int 1)])) _
 refine oN0 X1 hx hby dd15_19 (XT.i0_eq_f (by decide)) ?_
 refine oAN X1 hx hby dd15_22 rfl rfl ?_
 refine oIC X1 hx hby dd15_23 ?_
 refine own_pF X1 hx hZ hown (hw 21) e7 I2 I3 (Or.inr ⟨(hw 17), rfl, hnm⟩) (hw 2) (ty := .byte) (by decide) (by decide) (hb hby dd15_24) fun T5 h1 X0 e8 W0 => ?_
 have N7 := Fr.snoc X0 N6 I1
 have z0 := W0.size
 have F2 := Fld.same W0 I2
 refine oAN X0 hx hby dd15_27 rfl rfl ?_
 refine oAN X0 hx hby dd15_28 rfl rfl ?_
 refine oIC X0 hx hby dd15_29 ?_
 refine oIL X0 hx hby dd15_30 rfl ?_
 have F3 := I9.other W0 I00
 have O1 : Old Z n0 h1 := O0.wr W0 I1
 have Z1 : n0 ≤ h1.size := by omega
 refine own_cS X0 hx hZ hown e8 (y := mN16) (hw 126) (hw 127) (hw 128) (hw 129) (by decide) (W := 1) (own_rm94 l Z a0 hw [] i1 i2 m1 o2 h1 n0 Z1 O1 F3) [(.ref o2), (.int 0), (.int 18)] [(.ref o0)] hml (lenOf own_pd13 rfl) (hb hby dd15_32) fun T6 h6 v3 L3 X7 e9 q3 => ?_
 obtain ⟨o3, m0, rfl, N8, K0, F01, F4, F5, F02⟩ := q3
 have N9 := Fr.app N7 N8
 have z1 := K0.1
 have F0 := (Fld.other W0 I01 (Or.inr (slot_ne (C := cN2) (Or.inr (hw 16)) (Or.inr (hw 17)) (by decide) (t := (.array .byte)) (t' := .byte) (by decide) (by decide)))).keep K0 nin0
 have F1 := (Exa.wr W0 I3).keep K0
 refine own_pF X7 hx hZ hown (hw 20) e9 F0 F1 (Or.inr ⟨(hw 16), rfl, hnm⟩) (hw 2) (ty := (.array .byte)) rfl rfl (hb hby dd15_35) fun T1 h2 X4 e00 W1 => ?_
 have N00 := Fr.snoc X4 N9 I1
 have z2 := W1.size
 have F6 := Fld.same W1 F0
 show own_G p e below (T1.setTop (mkF m 38 #[rv o0, rv o1, .val .null, rv o2, iv 18] [])) _
 refine oGO X4 hx hby (pc' := 97) dd15_38 ?_
 have F7 := Fld.other W1 (F2.keep K0 nin0) (Or.inr (slot_ne (C := cN2) (Or.inr (hw 17)) (Or.inr (hw 16)) (by decide) (t := .byte) (t' := (.array .byte)) (by decide) (by decide)))
 have F8 := Exa.wr W1 F1
 have N01 : @Ne Nat o3 o0 := by omega
 have F9 := F4.other W1 N01
 have F00 := Exa.wr W1 F5
 have y0 : @LT.lt Nat instLTNat o3 h2.size := by omega
 have K4 : Keep h0 h2 [o0] := ((((Keep.refl h0 [o0]).wr W0 (Or.inl (by simp))).trans K0 all0).wr W1 (Or.inl (by simp)))
 exact own_retV X4 hx hns hrt (hb hby dd15_97) e00 (by decide) (by decide) (⟨o3, m0, rfl, N00, K4, (by omega), F7, F6, F8, F9, F00, y0⟩)
theorem own_rm90 (l : Launch) (Z : State) (a0 : Array Value) (hw : own_W a0 Z) (ws : List Jvm.Cond) (i0 i1 i2 : Int32) (m1 : ClassId) (o0 o1 o3 : Nat) (h0 : Heap) (n0 : Nat) (Z0 : n0 ≤ h0.size) (O0 : Old Z n0 h0) (I0 : Fld Z h0 o1 cN3 "value" "[B" (.ref o3)) (I1 : Exa Z h0 o1 cN4) (I2 : Fld Z h0 o1 cN3 "count" "I" (.int 18)) (I3 : Sta Z Z.heap cN2 "COMPACT_STRINGS" "Z" (.int i0)) (I4 : ¬ (i0 = 0)) (I5 : Fld Z h0 o1 cN3 "coder" "B" (.int 0)) (I6 : Fld Z h0 o0 cN2 "coder" "B" (.int 0)) (I7 : Exa Z h0 o0 cN2) (I8 : n0 ≤ o0) (I9 : Arv Z h0 o3 m1 .byte 34 [(.int (i1.toInt8.toInt32)), (.int (i2.toInt8.toInt32)), (.int 58), (.int 32), (.int 110), (.int 111), (.int 116), (.int 32), (.int 85), (.int 84), (.int 70), (.int 45), (.int 56), (.int 32), (.int 116), (.int 101), (.int 120), (.int 116), (.int 0), (.int 0), (.int 0), (.int 0), (.int 0), (.int 0), (.int 0), (.int 0), (.int 0), (.int 0), (.int 0), (.int 0), (.int 0), (.int 0), (.int 0), (.int 0)] (.int 0)) (I00 : @Ne Nat o3 o0) (I01 : Fld Z h0 o0 cN2 "value" "[B" .null) (I02 : @LT.lt Nat instLTNat o0 h0.size) :
 own_Met l Z h0 mN18 B04 2 (Option.none : Option FieldType) ws (own_R 4 1 18 65) #[(.ref o0), (.ref o1)] (fun v h L => (∃ o2 : Nat, ∃ m0 : ClassId, v = none ∧ Fr n0 L ∧ Keep h0 h [o0] ∧ h0.size ≤ o2 ∧ Fld Z h o0 cN2 "coder" "B" (.int 0) ∧ Fld Z h o0 cN2 "value" "[B" (.ref o2) ∧ Exa Z h o0 cN2 ∧ Arv Z h o2 m0 .byte 18 [(.int (i1.toInt8.toInt32)), (.int (i2.toInt8.toInt32)), (.int 58), (.int 32), (.int 110), (.int 111), (.int 116), (.int 32), (.int 85), (.int 84), (.int 70), (.int 45), (.int 56), (.int 32), (.int 116), (.int 101), (.int 120), (.int 116)] (.int 0) ∧ Exa Z h o2 "[B" ∧ @LT.lt Nat instLTNat o2 h.size)) 1 18 := own_go own_pn18 fun p e s m below meth c s₁ hns hrt hnm hml hZ hx hby hown X0 e0 => by
 have N0 := Fr.nil n0
 refine own_cast (own_ef1 m o0 o1) ?_
 refine oAN X0 hx hby dd14_0 rfl rfl ?_
 refine oAN X0 hx hby dd14_1 rfl rfl ?_
 refine oS (fun _ => XS.aconstNull X0.here hx rfl (hb hby dd14_2) ) ?_
 have y0 : @LT.lt Nat instLTNat o0 h0.size := by omega
 refine own_cN X0 hx hZ hown e0 (y := mN17) (b := o0) rfl (hw 105) (hw 106) (hw 3) (hw 107) (by decide) (W := 0) (own_rm91 l Z a0 hw [] i0 i1 i2 m1 o0 o1 o3 h0 n0 Z0 O0 I0 I1 I2 I3 I4 I5 I6 I7 I8 I9 I00 I01 y0) [(.ref o1), .null] [] hml (lenOf own_pd14 rfl) (hb hby dd14_3) fun T0 h1 v0 L0 X1 e1 q0 => ?_
 obtain ⟨o2, m0, rfl, N1, K0, F5, F0, F1, F2, F3, F4, F6⟩ := q0
 have N2 := Fr.app N0 N1
 have z0 := K0.1
 have y1 : @LT.lt Nat instLTNat o2 h1.size := by omega
 have K1 : Keep h0 h1 [o0] := ((Keep.refl h0 [o0]).trans K0 (allS (Or.inl (by simp)) all0))
 exact own_retV X1 hx hns hrt (hb hby dd14_6) e1 (by decide) (by decide) (⟨o2, m0, rfl, N2, K1, (by omega), F0, F1, F2, F3, F4, y1⟩)
theorem own_rm89 (l : Launch) (Z : State) (a0 : Array Value) (hw : own_W a0 Z) (ws : List Jvm.Cond) (i0 i1 i2 : Int32) (m1 : ClassId) (o1 o3 : Nat) (h0 : Heap) (n0 : Nat) (Z1 : n0 ≤ h0.size) (O0 : Old Z n0 h0) (I0 : Fld Z h0 o1 cN3 "value" "[B" (.ref o3)) (I1 : Exa Z h0 o1 cN4) (I2 : Fld Z h0 o1 cN3 "count" "I" (.int 18)) (I3 : Sta Z Z.heap cN2 "COMPACT_STRINGS" "Z" (.int i0)) (I4 : ¬ (i0 = 0)) (I5 : Fld Z h0 o1 cN3 "coder" "B" (.int 0)) (I6 : Arv Z h0 o3 m1 .byte 34 [(.int (i1.toInt8.toInt32)), (.int (i2.toInt8.toInt32)), (.int 58), (.int 32), (.int 110), (.int 111), (.int 116), (.int 32), (.int 85), (.int 84), (.int 70), (.int 45), (.int 56), (.int 32), (.int 116), (.int 101), (.int 120), (.int 116), (.int 0), (.int 0), (.int 0), (.int 0), (.int 0), (.int 0), (.int 0), (.int 0), (.int 0), (.int 0), (.int 0), (.int 0), (.int 0), (.int 0), (.int 0), (.int 0)] (.int 0)) (I7 : @LT.lt Nat instLTNat o3 h0.size) :
 own_Met l Z h0 mN19 B03 1 (Option.some (FieldType.object cN2)) ws (own_R 5 2 22 79) #[(.ref o1)] (fun v h L => (∃ o0 : Nat, ∃ o2 : Nat, ∃ m0 : ClassId, v = some (.ref o0) ∧ Fr n0 L ∧ Keep h0 h [] ∧ h0.size ≤ o0 ∧ o0 < o2 ∧ Exa Z h o0 cN2 ∧ Fld Z h o0 cN2 "value" "[B" (.ref o2) ∧ Fld Z h o0 cN2 "coder" "B" (.int 0) ∧ Arv Z h o2 m0 .byte 18 [(.int (i1.toInt8.toInt32)), (.int (i2.toInt8.toInt32)), (.int 58), (.int 32), (.int 110), (.int 111), (.int 116), (.int 32), (.int 85), (.int 84), (.int 70), (.int 45), (.int 56), (.int 32), (.int 116), (.int 101), (.int 120), (.int 116)] (.int 0) ∧ Exa Z h o2 "[B" ∧ @LT.lt Nat instLTNat o0 h.size ∧ @LT.lt Nat instLTNat o2 h.size)) 2 22 := own_go own_pn19 fun p e s m below meth c s₁ hns hrt hnm hml hZ hx hby hown X1 e0 => by
 have N0 := Fr.nil n0
 refine own_cast (own_ef3 m o1) ?_
 obtain ⟨T0, h1, X0, e1, E0, A0, D0, U0, s0⟩ := newO X1 hx hZ hown (hw 101) (hw 2) (hw 3) e0 (g := (mkF m 0 #[rv o1] [])) rfl (hb hby dd13_0) (by decide) (by decide)
 obtain ⟨o0, g0⟩ : ∃ z, z = h0.size := ⟨_, rfl⟩
 rw [← g0] at A0 D0 U0 s0
 have z0 := E0.1
 have y3 : @LT.lt Nat instLTNat o0 h1.size := A0.lt
 refine oS s0 ?_
 have F0 : Fld Z h1 o0 cN2 "value" "[B" .null := D0 (Or.inr (hw 16)) (ty := (.array .byte)) (by decide)
 have F1 : Fld Z h1 o0 cN2 "coder" "B" (.int 0) := D0 (Or.inr (hw 17)) (ty := .byte) (by decide)
 refine oS (fun _ => XS.dup X0.here hx rfl (hb hby dd13_3) rfl rfl) ?_
 refine oAN X0 hx hby dd13_4 rfl rfl ?_
 have F2 := Fld.ext E0 I0
 have F3 := Exa.ext E0 I1
 have F4 := Fld.ext E0 I2
 have F5 := Fld.ext E0 I5
 have N1 : n0 ≤ o0 := by omega
 have F6 := I6.ext E0
 have N2 : @Ne Nat o3 o0 := by omega
 have y0 : @LT.lt Nat instLTNat o0 h1.size := by omega
 have O1 : Old Z n0 h1 := O0.ext E0
 have Z0 : n0 ≤ h1.size := by omega
 refine own_cN X0 hx hZ hown e1 (y := mN18) (b := o0) rfl (hw 102) (hw 103) (hw 3) (hw 104) (by decide) (W := 1) (own_rm90 l Z a0 hw [] i0 i1 i2 m1 o0 o1 o3 h1 n0 Z0 O1 F2 F3 F4 I3 I4 F5 F1 A0 N1 F6 N2 F0 y0) [(.ref o1)] [(.ref o0)] hml (lenOf own_pd15 rfl) (hb hby dd13_5) fun T1 h2 v0 L0 X2 e2 q0 => ?_
 obtain ⟨o2, m0, rfl, N3, K0, F02, F7, F8, F9, F00, F01, F03⟩ := q0
 have N4 := Fr.app N0 N3
 have z1 := K0.1
 have y1 : @LT.lt Nat instLTNat o0 h2.size := by omega
 have y2 : @LT.lt Nat instLTNat o2 h2.size := by omega
 have K1 : Keep h0 h2 [] := (((Keep.refl h0 []).ext E0).trans K0 (allS (Or.inr (by omega)) all0))
 exact own_retA X2 hx hns hrt rfl rfl (hb hby dd13_8) e2 (by decide) (by decide) (⟨o0, o2, m0, rfl, N4, K1, (by omega), (by omega), F9, F8, F7, F00, F01, y1, y2⟩)
def own_Q79 (Z : State) (ob_3776 : Nat) (in_5 : Int32) (ob_3989 : Nat) (kk_3990 : ClassId) (in_3710 : Int32) (in_3715 : Int32) (ob_8 : Nat) (ob_10 : Nat) (h0 : Heap) (n0 : Nat) (vm : Vm) (v : Option Value) (h : Heap) (L : List Loc) : Prop := (∃ ob_4354 : Nat, ∃ ob_5224 : Nat, ∃ ob_5225 : Nat, ∃ kk_5226 : ClassId, v = some (.ref ob_4354) ∧ Fr n0 L ∧ Keep h0 h [] ∧ h0.size ≤ ob_4354 ∧ ob_4354 < ob_5224 ∧ ob_5224 < ob_5225 ∧ Exa Z h ob_4354 cN5 ∧ Fld Z h ob_4354 cN6 "detailMessage" cN7 (.ref ob_5224) ∧ Exa Z h ob_5224 cN2 ∧ Fld Z h ob_5224 cN2 "value" "[B" (.ref ob_5225) ∧ Fld Z h ob_5224 cN2 "coder" "B" (.int 0) ∧ Arv Z h ob_5225 kk_5226 .byte 18 [(.int (in_3710.toInt8.toInt32)), (.int (in_3715.toInt8.toInt32)), (.int 58), (.int 32), (.int 110), (.int 111), (.int 116), (.int 32), (.int 85), (.int 84), (.int 70), (.int 45), (.int 56), (.int 32), (.int 116), (.int 101), (.int 120), (.int 116)] (.int 0) ∧ Exa Z h ob_5225 "[B" ∧ @LT.lt Nat instLTNat ob_4354 h.size ∧ @LT.lt Nat instLTNat ob_5224 h.size ∧ Safe Z own_EL vm h ob_5224 ∧ @LT.lt Nat instLTNat ob_5225 h.size ∧ Safe Z own_EL vm h ob_5225)
theorem own_rm79 (l : Launch) (hl : l.stackTraces = true) (Z : State) (a0 : Array Value) (hw : own_W a0 Z) (hEL : EW Z a0 own_EL) (ws : List Jvm.Cond) (o2 : Nat) (i0 : Int32) (o5 : Nat) (m0 : ClassId) (i1 : Int32) (i2 : Int32) (o8 : Nat) (o9 : Nat) (h0 : Heap) (n0 : Nat) (Z4 : n0 ≤ h0.size) (O4 : Old Z n0 h0) (I0 : Sta Z Z.heap cN2 "COMPACT_STRINGS" "Z" (.int i0)) (I1 : ¬ (i0 = 0)) (I2 : Fld Z h0 o2 cN2 "value" "[B" (.ref o5)) (I8 : @LT.lt Nat instLTNat o2 h0.size) (I3 : Arv Z h0 o5 m0 .byte 2 [(.int (i1.toInt8.toInt32)), (.int (i2.toInt8.toInt32))] (.int 0)) (I9 : @LT.lt Nat instLTNat o5 h0.size) (I4 : Fld Z h0 o2 cN2 "coder" "B" (.int 0)) (I5 : Exa Z h0 o2 cN2) (I6 : Sta Z Z.heap cN6 cN8 cN9 (.ref o8)) (I7 : Sta Z Z.heap cN6 cN10 cN11 (.ref o9)) :
 own_MetWK own_KN l Z own_EL [o2] h0 mN20 B2 1 (Option.some (FieldType.object cN5)) ws ({ frames := 6, cells := 9, slots := 2902, locals := 93 } : Room) #[(.ref o2)] (own_Q79 Z o2 i0 o5 m0 i1 i2 o8 o9 h0 n0) 9 2902 := by
 refine MetFree.of_bodySF own_pn20 hisR ?_
 intro p e s m args below meth c s₁ Bd hml0 hP hK
 obtain ⟨rfl, hZ, hh, hCH, hsf⟩ := hP
 have hx := Bd.exec
 have hby := Bd.bytes
 have hml : c.maxLocals = 1 := hml0
 have hown : (s.setVm s.vm).vm.findClass cN0 = some m.cls := findClass_of_methodNamed Bd.named
 have hnm := (name_of_methodNamed Bd.named Bd.method).1
 have hZ0 : Z.Warmed39 s.vm := hZ
 have hZ : Z.Warmed39 (s.setVm s.vm).vm := hZ
 have hS : s.Since s.vm 0 := (State.WarmedH.refl s).since 0
 have X3 : Stand p l e ({ frames := 6, cells := 9, slots := 2902, locals := 93 } : Room) (s.setVm s.vm) m #[(.ref o2)] below meth c s₁ [] 0 0 := Stand.of_body Bd
 have e0 : s₁.heap = h0 := by rw [← hh, Bd.state]; rfl
 have hR : CHr Z own_EL s.vm h0 s.vm h0 := CHr.refl hCH
 obtain ⟨hTK, hBel⟩ := hK
 have N7 := Fr.nil n0
 show own_G p e below (s₁.setTop (entryFrame m #[(.ref o2)] 1)) (own_PW Z own_EL s (own_Q79 Z o2 i0 o5 m0 i1 i2 o8 o9 h0 n0) 9 2902)
 refine own_cast (own_ef3 m o2) ?_
 show own_G p e below (s₁.setTop (mkF m 0 #[rv o2] [])) _
 obtain ⟨T1, h2, X0, e1, E2, A2, D0, U0, s0⟩ := newO X3 hx hZ hown (hw 26) (hw 27) (hw 28) e0 (g := (mkF m 0 #[rv o2] [])) rfl (hb hby dd2_0) (by decide) (by decide)
 obtain ⟨o0, g0⟩ : ∃ z, z = h0.size := ⟨_, rfl⟩
 rw [← g0] at A2 D0 U0 s0
 have z0 := E2.1
 have y00 : @LT.lt Nat instLTNat o0 h2.size := A2.lt
 refine oS s0 ?_
 have R4 : CHr Z own_EL s.vm h0 s.vm h2 := hR.trans (CHr.ext E2 hR.1)
 have F5 : Fld Z h2 o0 cN6 "cause" cN12 .null := D0 (Or.inl (hw 155)) (ty := (.object cN6)) (by decide)
 have F6 : Fld Z h2 o0 cN6 "stackTrace" cN9 .null := D0 (Or.inl (hw 158)) (ty := (.array (.object cN13))) (by decide)
 have F7 : Fld Z h2 o0 cN6 cN14 cN11 .null := D0 (Or.inl (hw 161)) (ty := (.object "java/util/List")) (by decide)
 have F8 : Fld Z h2 o0 cN6 "detailMessage" cN7 .null := D0 (Or.inl (hw 185)) (ty := (.object cN2)) (by decide)
 have F9 : Fld Z h2 o0 cN6 "backtrace" cN15 .null := D0 (Or.inl (hw 186)) (ty := (.object cN16)) (by decide)
 have F0M : Fld Z h2 o0 cN6 "depth" "I" (.int 0) := D0 (Or.inl (hw 187)) (ty := .int) (by decide)
 refine oS (fun _ => XS.dup X0.here hx rfl (hb hby dd2_3) rfl rfl) ?_
 obtain ⟨T2, h1, X1, e2, E0, A0, D1, U1, s1⟩ := newO X0 hx hZ hown (hw 29) (hw 30) (hw 31) e1 (g := (mkF m 4 #[rv o2] [(.ref o0), (.ref o0)])) rfl (hb hby dd2_4) (by decide) (by decide)
 obtain ⟨o1, g1⟩ : ∃ z, z = h2.size := ⟨_, rfl⟩
 rw [← g1] at A0 D1 U1 s1
 have z1 := E0.1
 have y01 : @LT.lt Nat instLTNat o1 h1.size := A0.lt
 refine oS s1 ?_
 have R0 : CHr Z own_EL s.vm h0 s.vm h1 := R4.trans (CHr.ext E0 R4.1)
 have F00 : Fld Z h1 o1 cN3 "value" "[B" .null := D1 (Or.inl (hw 44)) (ty := (.array .byte)) (by decide)
 have F01 : Fld Z h1 o1 cN3 "coder" "B" (.int 0) := D1 (Or.inl (hw 46)) (ty := .byte) (by decide)
 have F02 : Fld Z h1 o1 cN3 "count" "I" (.int 0) := D1 (Or.inl (hw 69)) (ty := .int) (by decide)
 refine oS (fun _ => XS.dup X1.here hx rfl (hb hby dd2_7) rfl rfl) ?_
 have N1 : n0 ≤ o1 := by omega
 have y2 : @LT.lt Nat instLTNat o1 h1.size := by omega
 have O5 : Old Z n0 h2 := O4.ext E2
 have O0 : Old Z n0 h1 := O5.ext E0
 have Z0 : n0 ≤ h1.size := by omega
 obtain ⟨T3, h7, v0, L0, X2, e3, q0, s2⟩ := own_callN X1 hx hZ hown e2 (y := mN3) (b := o1) rfl (hw 32) (hw 33) (hw 31) (hw 34) (by decide) (W := 3) (own_rm8 l Z a0 hw [] i0 o1 h1 n0 Z0 O0 I0 I1 F00 A0 N1 F01 F02 y2) (by decide) (by decide) (by decide) (by decide) (g := (mkF m 8 #[rv o2] [(.ref o1), (.ref o1), (.ref o0), (.ref o0)])) rfl (by rw [hml]; rfl) (argsL := []) (rest := [(.ref o1), (.ref o0), (.ref o0)]) rfl (lenOf own_pd3 rfl) rfl (by show 2 * 0 + _ ≤ _; exact Nat.le_of_eq rfl) (hb hby dd2_8)
 refine oS s2 ?_
 obtain ⟨o3, m1, rfl, N8, K0, F0N, F03, F0, F04, F05, F06, F07, F0O⟩ := q0
 have N9 := Fr.app N7 N8
 have S0 : Safe Z own_EL s.vm h1 o1 := Safe.exa hZ.alike A0 (by decide) (by decide)
 have R1 : CHr Z own_EL s.vm h0 s.vm h7 := R0.trans (CHr.keep K0 (sfS S0 sf0) R0.1)
 have z2 := K0.1
 have S8 : Safe Z own_EL s.vm h1 o3 := Safe.new (by omega)
 refine oS (fun _ => XS.aloadN X2.here hx rfl (hb hby dd2_11) rfl rfl) ?_
 have N3 : @Ne Nat o2 o1 := by omega
 have F08 := (Fld.ext E0 (Fld.ext E2 I2)).keep K0 (ninS N3 nin0)
 have N00 : @Ne Nat o5 o1 := by omega
 have F09 := ((I3.ext E2).ext E0).keep K0 (ninS N00 nin0)
 have F0a := (Fld.ext E0 (Fld.ext E2 I4)).keep K0 (ninS N3 nin0)
 have F0b := (Exa.ext E0 (Exa.ext E2 I5)).keep K0
 have N4 : n0 ≤ o3 := by omega
 have N01 : @Ne Nat o1 o3 := by omega
 have O1 : Old Z n0 h7 := O0.keep K0 (allS N1 all0)
 have Z1 : n0 ≤ h7.size := by omega
 obtain ⟨T4, h5, v1, L1, X4, e4, q1, s3⟩ := own_callV X2 hx hZ hown e3 (y := mN11) (z := mN11) (C := cN4) (b := o1) (hw 47) (hw 48) (notFace_of_selects (args := #[]) (mvT hZ (hw 50))) (hw 50) (hw 49) (hw 31) (hw 51) (by decide) F0 (W := 2) (own_rm73 l Z a0 hw [] i1 i2 i0 m0 m1 o1 o2 o5 o3 h7 n0 Z1 O1 F08 F09 I0 I1 F0a F0b F05 F03 F06 F04 F0 N4 F07 N01 N1) (by decide) (by decide) (by decide) (by decide) (g := (mkF m 12 #[rv o2] [(.ref o2), (.ref o1), (.ref o0), (.ref o0)])) rfl (by rw [hml]; rfl) (argsL := [(.ref o2)]) (rest := [(.ref o0), (.ref o0)]) rfl (lenOf own_pd10 rfl) rfl (by show 2 * 0 + _ ≤ _; exact Nat.le_of_eq rfl) (hb hby dd2_12)
 refine oS s3 ?_
 obtain ⟨rfl, N02, K1, F0c, F0P, F0d, F0e, F0f, F0g⟩ := q1
 have N03 := Fr.app N9 N02
 have S1 := Safe.keep K0 (sfS S0 sf0) R0.1 S8
 have S2 := Safe.keep K0 (sfS S0 sf0) R0.1 S0
 have R6 : CHr Z own_EL s.vm h0 s.vm h5 := R1.trans (CHr.keep K1 (sfS S1 (sfS S2 sf0)) R1.1)
 have z3 := K1.1
 obtain ⟨o4, T0, h3, k0, o7, m2, X5, e5, E1, hS, hk, hZ, hown, F0h, F0i, F0j, F0k, y3, y4, A1, L2, M0, s4⟩ := ldcCH X4 hx hZ hown (hw 95) (own_sk (own_Wall hw)) e4 hS (by omega) hEL (by decide) R6.1 (vs := [(.int 58), (.int 32), (.int 110), (.int 111), (.int 116), (.int 32), (.int 85), (.int 84), (.int 70), (.int 45), (.int 56), (.int 32), (.int 116), (.int 101), (.int 120), (.int 116)]) (z := 16) ⟨by decide, by decide +kernel⟩ (by decide) rfl (g := (mkF m 15 #[rv o2] [(.ref o1), (.ref o0), (.ref o0)])) rfl (hb hby dd2_15) (n := 64) (by decide) (by decide) (by decide) (by decide)
 have z4 := E1.1
 refine oS s4 ?_
 have R5 : CHr Z own_EL s.vm h0 T0.vm h3 := R6.trans A1
 have y02 : @LT.lt Nat instLTNat o4 h3.size := y3
 have y03 : @LT.lt Nat instLTNat o7 h3.size := y4
 have S9 := Safe.ext E2 hR.1 (hsf o2 (by simp))
 have S00 := Safe.ext E0 R4.1 S9
 have S01 := Safe.keep K0 (sfS S0 sf0) R0.1 S00
 have S02 := Safe.keep K1 (sfS S1 (sfS S2 sf0)) R1.1 S01
 have y5 : @LT.lt Nat instLTNat o2 h5.size := by omega
 have S6 := A1.safe y5 S02
 have N0c : @Ne Nat o2 o4 := (M0 o2 S6).1
 have N0d : @Ne Nat o2 o7 := (M0 o2 S6).2
 have S03 := Safe.keep K1 (sfS S1 (sfS S2 sf0)) R1.1 S1
 have y6 : @LT.lt Nat instLTNat o3 h5.size := by omega
 have S7 := A1.safe y6 S03
 have N0e : @Ne Nat o3 o4 := (M0 o3 S7).1
 have N0f : @Ne Nat o3 o7 := (M0 o3 S7).2
 have F1 := Exa.ext E1 (((Exa.ext E0 A2).keep K0).keep K1)
 have S4 : Safe Z own_EL T0.vm h3 o0 := Safe.exa hZ.alike F1 (by decide) (by decide)
 have N0g : @Ne Nat o0 o4 := (M0 o0 S4).1
 have N0h : @Ne Nat o0 o7 := (M0 o0 S4).2
 have S04 := Safe.keep K1 (sfS S1 (sfS S2 sf0)) R1.1 S2
 have y7 : @LT.lt Nat instLTNat o1 h5.size := by omega
 have S3 := A1.safe y7 S04
 have N04 : @Ne Nat o1 o4 := (M0 o1 S3).1
 have N05 : @Ne Nat o1 o7 := (M0 o1 S3).2
 show own_G p e below (T0.setTop (mkF m 17 #[rv o2] [(.ref o4), (.ref o1), (.ref o0), (.ref o0)])) _
 have F0l := Fld.ext E1 F0d
 have F0m := Fld.ext E1 F0f
 have F0n := F0c.ext E1
 have F0o := Fld.ext E1 F0g
 have F2 := Exa.ext E1 F0e
 have y8 : @LT.lt Nat instLTNat o1 h3.size := by omega
 have O6 : Old Z n0 h5 := O1.keep K1 (allS N4 (allS N1 all0))
 have O2 : Old Z n0 h3 := O6.ext E1
 have Z2 : n0 ≤ h3.size := by omega
 obtain ⟨T5, h4, v2, L3, X6, e6, q2, s5⟩ := own_callV X5 hx hZ hown e5 (y := mN11) (z := mN11) (C := cN4) (b := o1) (hw 47) (hw 48) (notFace_of_selects (args := #[]) (mvT hZ (hw 50))) (hw 50) (hw 49) (hw 31) (hw 51) (by decide) F2 (W := 2) (own_rm80 l Z a0 hw [] i0 i1 i2 m2 m1 o1 o4 o7 o3 h3 n0 Z2 O2 F0j F0k I0 I1 F0i F0h F0l F0m F0n F0o F2 N1 y8 (Ne.symm N04) (Ne.symm N05)) (by decide) (by decide) (by decide) (by decide) (g := (mkF m 17 #[rv o2] [(.ref o4), (.ref o1), (.ref o0), (.ref o0)])) rfl (by rw [hml]; rfl) (argsL := [(.ref o4)]) (rest := [(.ref o0), (.ref o0)]) rfl (lenOf own_pd10 rfl) rfl (by show 2 * 0 + _ ≤ _; exact Nat.le_of_eq rfl) (hb hby dd2_17)
 refine oS s5 ?_
 obtain ⟨o01, m3, rfl, N06, K3, F0Q, F0p, F3, F0q, F0r, F0s, F0R, F0t⟩ := q2
 have N07 := Fr.app N03 N06
 have R2 : CHr Z own_EL s.vm h0 T0.vm h4 := R5.trans (CHr.keep K3 (sfS S3 sf0) R5.1)
 have z5 := K3.1
 have S0c : Safe Z own_EL T0.vm h3 o01 := Safe.new (by omega)
 have O3 : Old Z n0 h4 := O2.keep K3 (allS N1 all0)
 have Z3 : n0 ≤ h4.size := by omega
 obtain ⟨T6, h8, v3, L4, X7, e7, q3, s6⟩ := own_callV X6 hx hZ hown e6 (y := mN19) (z := mN19) (C := cN4) (b := o1) (hw 96) (hw 97) (notFace_of_selects (args := #[]) (mvT hZ (hw 99))) (hw 99) (hw 98) (hw 31) (hw 100) (by decide) F3 (W := 2) (own_rm89 l Z a0 hw [] i0 i1 i2 m3 o1 o01 h4 n0 Z3 O3 F0p F3 F0r I0 I1 F0q F0s F0t) (by decide) (by decide) (by decide) (by decide) (g := (mkF m 20 #[rv o2] [(.ref o1), (.ref o0), (.ref o0)])) rfl (by rw [hml]; rfl) (argsL := []) (rest := [(.ref o0), (.ref o0)]) rfl (lenOf own_pd16 rfl) rfl (by show 2 * 0 + _ ≤ _; exact Nat.le_of_eq rfl) (hb hby dd2_20)
 refine oS s6 ?_
 obtain ⟨o6, o00, m4, rfl, N08, K2, F0S, F0T, F0u, F0v, F0w, F0x, F0y, F0U, F0V⟩ := q3
 have N09 := Fr.app N07 N08
 have R3 : CHr Z own_EL s.vm h0 T0.vm h8 := R2.trans (CHr.keep K2 sf0 R2.1)
 have z6 := K2.1
 have S05 : Safe Z own_EL T0.vm h4 o6 := Safe.new (by omega)
 have S06 : Safe Z own_EL T0.vm h4 o00 := Safe.new (by omega)
 have O7 : Old Z n0 h8 := O3.keep K2 all0
 have F4 := (F1.keep K3).keep K2
 have N5 : n0 ≤ o0 := by omega
 have N0 : @Ne Nat o0 o1 := by omega
 have N2 : @Ne Nat o0 o3 := by omega
 have F0z := Unt.keep K2 nin0 (Unt.keep K3 (ninS N0 nin0) (Unt.ext E1 (Unt.keep K1 (ninS N2 (ninS N0 nin0)) (Unt.keep K0 (ninS N0 nin0) (Unt.ext E0 U0)))))
 have F0A := ((Fld.ext E1 (((Fld.ext E0 F5).keep K0 (ninS N0 nin0)).keep K1 (ninS N2 (ninS N0 nin0)))).keep K3 (ninS N0 nin0)).keep K2 nin0
 have F0B := ((Fld.ext E1 (((Fld.ext E0 F6).keep K0 (ninS N0 nin0)).keep K1 (ninS N2 (ninS N0 nin0)))).keep K3 (ninS N0 nin0)).keep K2 nin0
 have F0C := ((Fld.ext E1 (((Fld.ext E0 F7).keep K0 (ninS N0 nin0)).keep K1 (ninS N2 (ninS N0 nin0)))).keep K3 (ninS N0 nin0)).keep K2 nin0
 have F0D := ((Fld.ext E1 (((Fld.ext E0 F9).keep K0 (ninS N0 nin0)).keep K1 (ninS N2 (ninS N0 nin0)))).keep K3 (ninS N0 nin0)).keep K2 nin0
 have F0E := ((Fld.ext E1 (((Fld.ext E0 F8).keep K0 (ninS N0 nin0)).keep K1 (ninS N2 (ninS N0 nin0)))).keep K3 (ninS N0 nin0)).keep K2 nin0
 obtain ⟨T7, h6, v4, L5, X8, e8, q4, s7⟩ := own_callNK X7 hx hZ hown (Vm.MethodsKnown.alikeC (hZ0.alike.symm.trans hZ.alike) hTK) (Vm.FramesKnown.alikeC (hZ0.alike.symm.trans hZ.alike) hBel) e7 (y := ⟨cN5, "<init>", "(Ljava/lang/String;)V"⟩) (b := o0) rfl (hw 139) (hw 140) (hw 28) (hw 141) (by decide) (W := 1) (own_k3 l hl Z a0 hw [] o0 o6 o8 o9 h8 n0 O7 F4 N5 F0z I6 I7 F0A F0B F0C F0D F0E) (by decide) (by decide) (by decide) (by decide) (g := (mkF m 23 #[rv o2] [(.ref o6), (.ref o0), (.ref o0)])) rfl (by rw [hml]; rfl) (argsL := [(.ref o6)]) (rest := [(.ref o0)]) rfl (lenOf own_pdS rfl) rfl (by show 2 * 0 + _ ≤ _; exact Nat.le_of_eq rfl) (hb hby dd2_23)
 refine oS s7 ?_
 obtain ⟨rfl, B0, K4, F0F⟩ := q4
 have N0a := Fr.app N09 (fun y hy => by rw [B0 y hy]; exact N5)
 have S07 := Safe.keep K3 (sfS S3 sf0) R5.1 S4
 have S5 := Safe.keep K2 sf0 R2.1 S07
 have R7 : CHr Z own_EL s.vm h0 T0.vm h6 := R3.trans (CHr.keep K4 (sfS S5 sf0) R3.1)
 have z7 := K4.1
 have F0G := F4.keep K4
 have F0H := F0u.keep K4
 have N6 : @Ne Nat o6 o0 := by omega
 have F0I := F0v.keep K4 (ninS N6 nin0)
 have F0J := F0w.keep K4 (ninS N6 nin0)
 have N0b : @Ne Nat o00 o0 := by omega
 have F0K := F0x.keep K4 (ninS N0b nin0)
 have F0L := F0y.keep K4
 have y9 : @LT.lt Nat instLTNat o0 h6.size := by omega
 have y0 : @LT.lt Nat instLTNat o6 h6.size := by omega
 have S08 := Safe.keep K2 sf0 R2.1 S05
 have S09 := Safe.keep K4 (sfS S5 sf0) R3.1 S08
 have y1 : @LT.lt Nat instLTNat o00 h6.size := by omega
 have S0a := Safe.keep K2 sf0 R2.1 S06
 have S0b := Safe.keep K4 (sfS S5 sf0) R3.1 S0a
 have K5 : Keep h0 h6 [] := (((((((((Keep.refl h0 []).ext E2).ext E0).trans K0 (allS (Or.inr (by omega)) all0)).trans K1 (allS (Or.inr (by omega)) (allS (Or.inr (by omega)) all0))).ext E1).trans K3 (allS (Or.inr (by omega)) all0)).trans K2 all0).trans K4 (allS (Or.inr (by omega)) all0))
 exact own_retAW X8 hx Bd.notSynchronized Bd.returns rfl rfl (hb hby dd2_26) hS hZ hEL hh R7 e8 (by omega) (by decide) (by decide) (fun hA => ⟨o0, o6, o00, m4, rfl, N0a, K5, (by omega), (by omega), (by omega), F0G, F0F, F0H, F0I, F0J, F0K, F0L, y9, y0, (hA.safe y0 S09), y1, (hA.safe y1 S0b)⟩)
theorem own_rm98 (l : Launch) (Z : State) (a0 : Array Value) (hw : own_W a0 Z) (ws : List Jvm.Cond) (i1 i2 i0 : Int32) (m0 : ClassId) (o0 o1 : Nat) (h0 : Heap) (n0 : Nat) (Z0 : n0 ≤ h0.size) (O0 : Old Z n0 h0) (I0 : Fld Z h0 o0 cN2 "value" "[B" (.ref o1)) (I1 : Arv Z h0 o1 m0 .byte 18 [(.int (i1.toInt8.toInt32)), (.int (i2.toInt8.toInt32)), (.int 58), (.int 32), (.int 110), (.int 111), (.int 116), (.int 32), (.int 85), (.int 84), (.int 70), (.int 45), (.int 56), (.int 32), (.int 116), (.int 101), (.int 120), (.int 116)] (.int 0)) (I2 : Sta Z Z.heap cN2 "COMPACT_STRINGS" "Z" (.int i0)) (I3 : ¬ (i0 = 0)) (I4 : Fld Z h0 o0 cN2 "coder" "B" (.int 0)) (I5 : Exa Z h0 o0 cN2) :
 own_Met l Z h0 mN5 B7 1 (Option.some FieldType.int) ws (own_R 1 0 0 13) #[(.ref o0)] (fun v h L => (v = some (.int 18) ∧ Fr n0 L ∧ h = h0)) 0 0 := own_go own_pn5 fun p e s m below meth c s₁ hns hrt hnm hml hZ hx hby hown X1 e1 => by
 have N0 := Fr.nil n0
 refine own_cast (own_ef3 m o0) ?_
 refine oAN X1 hx hby dd7_0 rfl rfl ?_
 refine own_gF X1 hx hZ hown (hw 20) e1 I0 (hb hby dd7_1) fun T0 X0 e0 => ?_
 refine oS (own_len X0 hx hZ e0 I1 rfl rfl (hb hby dd7_4)) ?_
 refine oAN X0 hx hby dd7_5 rfl rfl ?_
 refine own_cV X0 hx hZ hown e0 (y := mN4) (z := mN4) (b := o0) (hw 62) (hw 63) (notFace_of_selects (args := #[]) (mvT hZ (hw 65))) (hw 65) (hw 64) (hw 3) (hw 66) (by decide) I5 (W := 1) (own_rm13 l Z a0 hw [] i0 o0 h0 n0 Z0 O0 I2 I3 I4) [] [(.int 18)] hml (lenOf own_pd4 rfl) (hb hby dd7_6) fun T1 h1 v0 L0 X2 e2 q0 => ?_
 obtain ⟨rfl, N1, K0⟩ := q0
 have N2 := Fr.app N0 N1
 have e3 := e2.trans K0
 refine oS (fun _ => XT.ishr X2.here hx rfl (hb hby dd7_9) rfl) ?_
 exact own_retI X2 hx hns hrt (hb hby dd7_10) e3 (by decide) (by decide) (⟨rfl, N2, rfl⟩)
theorem own_rm102 (l : Launch) (Z : State) (a0 : Array Value) (hw : own_W a0 Z) (ws : List Jvm.Cond) (i0 i1 i2 : Int32) (m1 m0 : ClassId) (o1 o0 : Nat) (h0 : Heap) (n0 : Nat) (Z0 : n0 ≤ h0.size) (O0 : Old Z n0 h0) (I1 : Arv Z h0 o1 m1 .char 3 [(.int i0), (.int i1), (.int i2)] (.int 0)) (I3 : ¬ (255 < i0)) (I4 : Arv Z h0 o0 m0 .byte 3 [(.int 0), (.int 0), (.int 0)] (.int 0)) (I0 : n0 ≤ o0) (I2 : @Ne Nat o1 o0) (I5 : ¬ (255 < i1)) (I6 : ¬ (255 < i2)) (I7 : Exa Z h0 o0 "[B") :
 own_Met l Z h0 mN22 B0d 7 (Option.some FieldType.int) ws (own_R 0 0 0 0) #[(.ref o1), (.int 0), (.ref o0), (.int 0), (.int 3)] (fun v h L => (v = some (.int 3) ∧ Fr n0 L ∧ Keep h0 h [o0] ∧ Arv Z h o0 m0 .byte 3 [(.int (i0.toInt8.toInt32)), (.int (i1.toInt8.toInt32)), (.int (i2.toInt8.toInt32))] (.int 0) ∧ Exa Z h o0 "[B")) 0 0 := own_go own_pn22 fun p e s m below meth c s₁ hns hrt hnm hml hZ hx hby hown X2 e0 => by
 have N0 := Fr.nil n0
 refine own_cast (own_ef12 m o1 0 o0 0 3) ?_
 refine oIC X2 hx hby dd23_0 ?_
 refine oIS X2 hx hby dd23_1 (l' := #[rv o1, iv 0, rv o0, iv 0, iv 3, iv 0, .unset]) rfl ?_
 refine oIL X2 hx hby dd23_3 rfl ?_
 refine oIL X2 hx hby dd23_5 rfl ?_
 refine oNI X2 hx hby dd23_7 (XT.ii_ge_f (by decide)) ?_
 refine oAN X2 hx hby dd23_10 rfl rfl ?_
 refine oIN X2 hx hby dd23_11 rfl ?_
 refine oS (own_caload X2 hx hZ e0 I1 (by decide) (v := (.int i0)) rfl rfl rfl (hb hby dd23_12)) ?_
 refine oIS X2 hx hby dd23_13 (l' := #[rv o1, iv 0, rv o0, iv 0, iv 3, iv 0, iv i0]) rfl ?_
 refine oIL X2 hx hby dd23_15 rfl ?_
 show own_G p e below (s₁.setTop (mkF m 17 #[rv o1, iv 0, rv o0, iv 0, iv 3, iv 0, iv i0] [(.int i0)])) _
 refine oS (fun _ => XS.sipush X2.here hx rfl (hb hby dd23_17) ) ?_
 refine oYI X2 hx hby (pc' := 26) dd23_20 (XT.ii_le_t I3) ?_
 refine oAN X2 hx hby dd23_26 rfl rfl ?_
 refine oIN X2 hx hby dd23_27 rfl ?_
 refine oIL X2 hx hby dd23_28 rfl ?_
 refine oS (fun _ => XT.i2b X2.here hx rfl (hb hby dd23_30) rfl) ?_
 obtain ⟨T0, h2, X0, e1, W0, A0, s0⟩ := own_stB X2 hx hZ e0 I4 (x' := (i0.toInt8.toInt32)) 0 (own_narB _) rfl (by decide) (by simp) (g := (mkF m 31 #[rv o1, iv 0, rv o0, iv 0, iv 3, iv 0, iv i0] [(.int (i0.toInt8.toInt32)), (.int 0), (.ref o0)])) rfl (rest := []) rfl (hb hby dd23_31)
 have N1 := Fr.snoc X0 N0 I0
 have z0 := W0.size
 have F1 : Arv Z h2 o0 m0 .byte 3 [(.int (i0.toInt8.toInt32)), (.int 0), (.int 0)] (.int 0) := A0
 refine oS s0 ?_
 refine oS (fun _ => XS.iinc X0.here hx rfl (hb hby dd23_32) rfl (l' := #[rv o1, iv 1, rv o0, iv 0, iv 3, iv 0, iv i0]) rfl) ?_
 refine oS (fun _ => XS.iinc X0.here hx rfl (hb hby dd23_35) rfl (l' := #[rv o1, iv 1, rv o0, iv 1, iv 3, iv 0, iv i0]) rfl) ?_
 refine oS (fun _ => XS.iinc X0.here hx rfl (hb hby dd23_38) rfl (l' := #[rv o1, iv 1, rv o0, iv 1, iv 3, iv 1, iv i0]) rfl) ?_
 show own_G p e below (T0.setTop (mkF m 41 #[rv o1, iv 1, rv o0, iv 1, iv 3, iv 1, iv i0] [])) _
 refine oGO X0 hx hby (pc' := 3) dd23_41 ?_
 refine oIL X0 hx hby dd23_3 rfl ?_
 refine oIL X0 hx hby dd23_5 rfl ?_
 refine oNI X0 hx hby dd23_7 (XT.ii_ge_f (by decide)) ?_
 refine oAN X0 hx hby dd23_10 rfl rfl ?_
 refine oIN X0 hx hby dd23_11 rfl ?_
 have F0 := I1.other W0 I2
 refine oS (own_caload X0 hx hZ e1 F0 (by decide) (v := (.int i1)) rfl rfl rfl (hb hby dd23_12)) ?_
 refine oIS X0 hx hby dd23_13 (l' := #[rv o1, iv 1, rv o0, iv 1, iv 3, iv 1, iv i1]) rfl ?_
 refine oIL X0 hx hby dd23_15 rfl ?_
 refine oS (fun _ => XS.sipush X0.here hx rfl (hb hby dd23_17) ) ?_
 show own_G p e below (T0.setTop (mkF m 20 #[rv o1, iv 1, rv o0, iv 1, iv 3, iv 1, iv i1] [(.int 255), (.int i1)])) _
 refine oYI X0 hx hby (pc' := 26) dd23_20 (XT.ii_le_t I5) ?_
 refine oAN X0 hx hby dd23_26 rfl rfl ?_
 refine oIN X0 hx hby dd23_27 rfl ?_
 refine oIL X0 hx hby dd23_28 rfl ?_
 refine oS (fun _ => XT.i2b X0.here hx rfl (hb hby dd23_30) rfl) ?_
 obtain ⟨T1, h3, X1, e2, W1, A1, s1⟩ := own_stB X0 hx hZ e1 F1 (x' := (i1.toInt8.toInt32)) 1 (own_narB _) rfl (by decide) (by simp) (g := (mkF m 31 #[rv o1, iv 1, rv o0, iv 1, iv 3, iv 1, iv i1] [(.int (i1.toInt8.toInt32)), (.int 1), (.ref o0)])) rfl (rest := []) rfl (hb hby dd23_31)
 have N2 := Fr.snoc X1 N1 I0
 have z1 := W1.size
 have F2 : Arv Z h3 o0 m0 .byte 3 [(.int (i0.toInt8.toInt32)), (.int (i1.toInt8.toInt32)), (.int 0)] (.int 0) := A1
 refine oS s1 ?_
 refine oS (fun _ => XS.iinc X1.here hx rfl (hb hby dd23_32) rfl (l' := #[rv o1, iv 2, rv o0, iv 1, iv 3, iv 1, iv i1]) rfl) ?_
 refine oS (fun _ => XS.iinc X1.here hx rfl (hb hby dd23_35) rfl (l' := #[rv o1, iv 2, rv o0, iv 2, iv 3, iv 1, iv i1]) rfl) ?_
 refine oS (fun _ => XS.iinc X1.here hx rfl (hb hby dd23_38) rfl (l' := #[rv o1, iv 2, rv o0, iv 2, iv 3, iv 2, iv i1]) rfl) ?_
 refine oGO X1 hx hby (pc' := 3) dd23_41 ?_
 show own_G p e below (T1.setTop (mkF m 3 #[rv o1, iv 2, rv o0, iv 2, iv 3, iv 2, iv i1] [])) _
 refine oIL X1 hx hby dd23_3 rfl ?_
 refine oIL X1 hx hby dd23_5 rfl ?_
 refine oNI X1 hx hby dd23_7 (XT.ii_ge_f (by decide)) ?_
 refine oAN X1 hx hby dd23_10 rfl rfl ?_
 refine oIN X1 hx hby dd23_11 rfl ?_
 have F3 := F0.other W1 I2
 refine oS (own_caload X1 hx hZ e2 F3 (by decide) (v := (.int i2)) rfl rfl rfl (hb hby dd23_12)) ?_
 refine oIS X1 hx hby dd23_13 (l' := #[rv o1, iv 2, rv o0, iv 2, iv 3, iv 2, iv i2]) rfl ?_
 refine oIL X1 hx hby dd23_15 rfl ?_
 refine oS (fun _ => XS.sipush X1.here hx rfl (hb hby dd23_17) ) ?_
 refine oYI X1 hx hby (pc' := 26) dd23_20 (XT.ii_le_t I6) ?_
 show own_G p e below (T1.setTop (mkF m 26 #[rv o1, iv 2, rv o0, iv 2, iv 3, iv 2, iv i2] [])) _
 refine oAN X1 hx hby dd23_26 rfl rfl ?_
 refine oIN X1 hx hby dd23_27 rfl ?_
 refine oIL X1 hx hby dd23_28 rfl ?_
 refine oS (fun _ => XT.i2b X1.here hx rfl (hb hby dd23_30) rfl) ?_
 obtain ⟨T2, h1, X3, e3, W2, A2, s2⟩ := own_stB X1 hx hZ e2 F2 (x' := (i2.toInt8.toInt32)) 2 (own_narB _) rfl (by decide) (by simp) (g := (mkF m 31 #[rv o1, iv 2, rv o0, iv 2, iv 3, iv 2, iv i2] [(.int (i2.toInt8.toInt32)), (.int 2), (.ref o0)])) rfl (rest := []) rfl (hb hby dd23_31)
 have N3 := Fr.snoc X3 N2 I0
 have z2 := W2.size
 have F4 : Arv Z h1 o0 m0 .byte 3 [(.int (i0.toInt8.toInt32)), (.int (i1.toInt8.toInt32)), (.int (i2.toInt8.toInt32))] (.int 0) := A2
 refine oS s2 ?_
 refine oS (fun _ => XS.iinc X3.here hx rfl (hb hby dd23_32) rfl (l' := #[rv o1, iv 3, rv o0, iv 2, iv 3, iv 2, iv i2]) rfl) ?_
 refine oS (fun _ => XS.iinc X3.here hx rfl (hb hby dd23_35) rfl (l' := #[rv o1, iv 3, rv o0, iv 3, iv 3, iv 2, iv i2]) rfl) ?_
 refine oS (fun _ => XS.iinc X3.here hx rfl (hb hby dd23_38) rfl (l' := #[rv o1, iv 3, rv o0, iv 3, iv 3, iv 3, iv i2]) rfl) ?_
 refine oGO X3 hx hby (pc' := 3) dd23_41 ?_
 refine oIL X3 hx hby dd23_3 rfl ?_
 show own_G p e below (T2.setTop (mkF m 5 #[rv o1, iv 3, rv o0, iv 3, iv 3, iv 3, iv i2] [(.int 3)])) _
 refine oIL X3 hx hby dd23_5 rfl ?_
 refine oYI X3 hx hby (pc' := 44) dd23_7 (XT.ii_ge_t (by decide)) ?_
 refine oIL X3 hx hby dd23_44 rfl ?_
 have F5 := Exa.wr W2 (Exa.wr W1 (Exa.wr W0 I7))
 have K0 : Keep h0 h1 [o0] := ((((Keep.refl h0 [o0]).wr W0 (Or.inl (by simp))).wr W1 (Or.inl (by simp))).wr W2 (Or.inl (by simp)))
 exact own_retI X3 hx hns hrt (hb hby dd23_46) e3 (by decide) (by decide) (⟨rfl, N3, K0, F4, F5⟩)
theorem own_rm101 (l : Launch) (Z : State) (a0 : Array Value) (hw : own_W a0 Z) (ws : List Jvm.Cond) (i0 i1 i2 : Int32) (m1 : ClassId) (o1 : Nat) (h0 : Heap) (n0 : Nat) (Z1 : n0 ≤ h0.size) (O0 : Old Z n0 h0) (I0 : Arv Z h0 o1 m1 .char 3 [(.int i0), (.int i1), (.int i2)] (.int 0)) (I1 : ¬ (255 < i0)) (I4 : @LT.lt Nat instLTNat o1 h0.size) (I2 : ¬ (255 < i1)) (I3 : ¬ (255 < i2)) :
 own_Met l Z h0 mN23 B0c 6 (Option.some (FieldType.array FieldType.byte)) ws (own_R 1 1 3 18) #[(.ref o1), (.int 0), (.int 3)] (fun v h L => (∃ o0 : Nat, ∃ m0 : ClassId, v = some (.ref o0) ∧ Fr n0 L ∧ Keep h0 h [] ∧ h0.size ≤ o0 ∧ Arv Z h o0 m0 .byte 3 [(.int (i0.toInt8.toInt32)), (.int (i1.toInt8.toInt32)), (.int (i2.toInt8.toInt32))] (.int 0) ∧ Exa Z h o0 "[B" ∧ @LT.lt Nat instLTNat o0 h.size)) 1 3 := own_go own_pn23 fun p e s m below meth c s₁ hns hrt hnm hml hZ hx hby hown X2 e0 => by
 have N0 := Fr.nil n0
 refine own_cast (own_ef11 m o1 0 3) ?_
 refine oIN X2 hx hby dd22_0 rfl ?_
 obtain ⟨T1, h1, m0, X0, e1, E0, A0, B0, s0⟩ := own_newP X2 hx hZ (aty := .byte) (hw 15) e0 (nm := "[B") rfl (g := (mkF m 1 #[rv o1, iv 0, iv 3, .unset, .unset, .unset] [(.int 3)])) rfl (hb hby dd22_1) (n := 3) (rest := []) rfl (by decide) (cap := 3) (by decide) (by decide) (by decide) (by decide)
 obtain ⟨o0, g0⟩ : ∃ z, z = h0.size := ⟨_, rfl⟩
 rw [← g0] at A0 B0 s0
 have F0 : Arv Z h1 o0 m0 .byte 3 [(.int 0), (.int 0), (.int 0)] (.int 0) := own_newA A0 (by decide) rfl rfl
 have z0 := E0.1
 have y1 : @LT.lt Nat instLTNat o0 h1.size := F0.lt
 refine oS s0 ?_
 refine oASN X0 hx hby dd22_3 rfl (l' := #[rv o1, iv 0, iv 3, rv o0, .unset, .unset]) rfl ?_
 refine oAN X0 hx hby dd22_4 rfl rfl ?_
 refine oIN X0 hx hby dd22_5 rfl ?_
 refine oAN X0 hx hby dd22_6 rfl rfl ?_
 refine oIC X0 hx hby dd22_7 ?_
 refine oIN X0 hx hby dd22_8 rfl ?_
 have F1 := I0.ext E0
 have N1 : n0 ≤ o0 := by omega
 have N2 : @Ne Nat o1 o0 := by omega
 have O1 : Old Z n0 h1 := O0.ext E0
 have Z0 : n0 ≤ h1.size := by omega
 refine own_cS X0 hx hZ hown e1 (y := mN22) (hw 228) (hw 229) (hw 226) (hw 230) (by decide) (W := 0) (own_rm102 l Z a0 hw [] i0 i1 i2 m1 m0 o1 o0 h1 n0 Z0 O1 F1 I1 F0 N1 N2 I2 I3 B0) [(.ref o1), (.int 0), (.ref o0), (.int 0), (.int 3)] [] hml (lenOf own_pd19 rfl) (hb hby dd22_9) fun T0 h2 v0 L0 X1 e2 q0 => ?_
 obtain ⟨rfl, N3, K0, F2, F3⟩ := q0
 have N4 := Fr.app N0 N3
 have z1 := K0.1
 refine oIS X1 hx hby dd22_12 (l' := #[rv o1, iv 0, iv 3, rv o0, iv 3, .unset]) rfl ?_
 show own_G p e below (T0.setTop (mkF m 14 #[rv o1, iv 0, iv 3, rv o0, iv 3, .unset] [])) _
 refine oIL X1 hx hby dd22_14 rfl ?_
 refine oIN X1 hx hby dd22_16 rfl ?_
 refine oYI X1 hx hby (pc' := 57) dd22_17 (XT.ii_eq_t (by decide)) ?_
 refine oAN X1 hx hby dd22_57 rfl rfl ?_
 have y0 : @LT.lt Nat instLTNat o0 h2.size := by omega
 have K1 : Keep h0 h2 [] := (((Keep.refl h0 []).ext E0).trans K0 (allS (Or.inr (by omega)) all0))
 exact own_retA X1 hx hns hrt rfl rfl (hb hby dd22_58) e2 (by decide) (by decide) (⟨o0, m0, rfl, N4, K1, (by omega), F2, F3, y0⟩)
theorem own_rm103 (l : Launch) (Z : State) (a0 : Array Value) (hw : own_W a0 Z) (ws : List Jvm.Cond) (i0 i1 i2 : Int32) (m0 : ClassId) (o0 : Nat) (h0 : Heap) (n0 : Nat) (Z0 : n0 ≤ h0.size) (O0 : Old Z n0 h0) (I0 : Arv Z h0 o0 m0 .byte 3 [(.int (i0.toInt8.toInt32)), (.int (i1.toInt8.toInt32)), (.int (i2.toInt8.toInt32))] (.int 0)) :
 own_Met l Z h0 mN24 B0e 2 (Option.some FieldType.byte) ws (own_R 0 0 0 0) #[(.ref o0), (.int 3)] (fun v h L => (v = some (.int 0) ∧ Fr n0 L ∧ h = h0)) 0 0 := own_go own_pn24 fun p e s m below meth c s₁ hns hrt hnm hml hZ hx hby hown X0 e0 => by
 have N0 := Fr.nil n0
 refine own_cast (own_ef4 m o0 3) ?_
 refine oIN X0 hx hby dd24_0 rfl ?_
 refine oAN X0 hx hby dd24_1 rfl rfl ?_
 refine oS (own_len X0 hx hZ e0 I0 rfl rfl (hb hby dd24_2)) ?_
 refine oS (fun _ => XS.isub X0.here hx rfl (hb hby dd24_3) rfl) ?_
 refine oS (fun _ => XS.bipush X0.here hx rfl (hb hby dd24_4) ) ?_
 refine oS (fun _ => XT.iushr X0.here hx rfl (hb hby dd24_6) rfl) ?_
 refine oS (fun _ => XT.i2b X0.here hx rfl (hb hby dd24_7) rfl) ?_
 exact own_retN X0 hx (t := .byte) hns hrt (by simp) (hb hby dd24_8) (by decide) e0 (by decide) (by decide) (⟨rfl, N0, rfl⟩)
theorem own_rm100 (l : Launch) (Z : State) (a0 : Array Value) (hw : own_W a0 Z) (ws : List Jvm.Cond) (i3 i0 i1 i2 : Int32) (m1 : ClassId) (o0 o2 : Nat) (h0 : Heap) (n0 : Nat) (Z0 : n0 ≤ h0.size) (O0 : Old Z n0 h0) (I1 : Sta Z Z.heap cN2 "COMPACT_STRINGS" "Z" (.int i3)) (I2 : ¬ (i3 = 0)) (I3 : Arv Z h0 o2 m1 .char 3 [(.int i0), (.int i1), (.int i2)] (.int 0)) (I4 : ¬ (255 < i0)) (I00 : @LT.lt Nat instLTNat o2 h0.size) (I5 : ¬ (255 < i1)) (I6 : ¬ (255 < i2)) (I7 : Fld Z h0 o0 cN2 "coder" "B" (.int 0)) (I8 : Exa Z h0 o0 cN2) (I0 : n0 ≤ o0) (I9 : Fld Z h0 o0 cN2 "value" "[B" .null) (I01 : @LT.lt Nat instLTNat o0 h0.size) :
 own_Met l Z h0 mN0 B1 6 (Option.none : Option FieldType) ws (own_R 2 1 3 35) #[(.ref o0), (.ref o2), (.int 0), (.int 3), .null] (fun v h L => (∃ o1 : Nat, ∃ m0 : ClassId, v = none ∧ Fr n0 L ∧ Keep h0 h [o0] ∧ h0.size ≤ o1 ∧ Fld Z h o0 cN2 "coder" "B" (.int 0) ∧ Exa Z h o0 cN2 ∧ Fld Z h o0 cN2 "value" "[B" (.ref o1) ∧ Arv Z h o1 m0 .byte 3 [(.int (i0.toInt8.toInt32)), (.int (i1.toInt8.toInt32)), (.int (i2.toInt8.toInt32))] (.int 0) ∧ Exa Z h o1 "[B" ∧ @LT.lt Nat instLTNat o1 h.size)) 1 3 := own_go own_pn0 fun p e s m below meth c s₁ hns hrt hnm hml hZ hx hby hown X4 e0 => by
 have N1 := Fr.nil n0
 refine own_cast (own_ef2 m o0 o2 0 3) ?_
 refine oAN X4 hx hby dd1_0 rfl rfl ?_
 obtain ⟨T1, X3, e1, s0⟩ := initO X4 hx hZ hown (hw 11) (hw 12) (hw 13) e0 (g := (mkF m 1 #[rv o0, rv o2, iv 0, iv 3, .val .null, .unset] [(.ref o0)])) rfl (by rw [hml]; rfl) rfl (hb hby dd1_1) (by decide) (W := 0) (by show 2 * 0 + _ ≤ _; exact Nat.le_of_eq rfl) (by decide)
 refine oS s0 ?_
 refine oIN X3 hx hby dd1_4 rfl ?_
 refine oY0 X3 hx hby (pc' := 27) dd1_5 (XT.i0_ne_t (by decide)) ?_
 have F5 := Sta.ext O0.2 I1
 obtain ⟨T2, X0, e2, s1⟩ := getS X3 hx hZ hown (host := "") (hw 67) Via.refl e1 F5 (g := (mkF m 27 #[rv o0, rv o2, iv 0, iv 3, .val .null, .unset] [])) rfl (hb hby dd1_27)
 refine oS s1 ?_
 refine oN0 X0 hx hby dd1_30 (XT.i0_eq_f I2) ?_
 refine oAN X0 hx hby dd1_33 rfl rfl ?_
 refine oIN X0 hx hby dd1_34 rfl ?_
 refine oIN X0 hx hby dd1_35 rfl ?_
 have y0 : @LT.lt Nat instLTNat o2 h0.size := by omega
 refine own_cS X0 hx hZ hown e2 (y := mN23) (hw 224) (hw 225) (hw 226) (hw 227) (by decide) (W := 0) (own_rm101 l Z a0 hw [] i0 i1 i2 m1 o2 h0 n0 Z0 O0 I3 I4 y0 I5 I6) [(.ref o2), (.int 0), (.int 3)] [] hml (lenOf own_pd20 rfl) (hb hby dd1_36) fun T0 h1 v0 L0 X1 e3 q0 => ?_
 obtain ⟨o1, m0, rfl, N2, K0, F03, F0, F6, F04⟩ := q0
 have N3 := Fr.app N1 N2
 have z0 := K0.1
 show own_G p e below (T0.setTop (mkF m 39 #[rv o0, rv o2, iv 0, iv 3, .val .null, .unset] [(.ref o1)])) _
 refine oAS X1 hx hby dd1_39 rfl (l' := #[rv o0, rv o2, iv 0, iv 3, .val .null, rv o1]) rfl ?_
 refine oAN X1 hx hby dd1_41 rfl rfl ?_
 refine oAL X1 hx hby dd1_42 rfl rfl ?_
 refine oIN X1 hx hby dd1_44 rfl ?_
 have O1 : Old Z n0 h1 := O0.keep K0 all0
 have Z1 : n0 ≤ h1.size := by omega
 refine own_cS X1 hx hZ hown e3 (y := mN24) (hw 231) (hw 232) (hw 226) (hw 233) (by decide) (W := 1) (own_rm103 l Z a0 hw [] i0 i1 i2 m0 o1 h1 n0 Z1 O1 F0) [(.ref o1), (.int 3)] [(.ref o0)] hml (lenOf own_pd21 rfl) (hb hby dd1_45) fun T3 h3 v1 L1 X6 e4 q1 => ?_
 obtain ⟨rfl, N4, K1⟩ := q1
 have N5 := Fr.app N3 N4
 have e5 := e4.trans K1
 have F1 := I7.keep K0 nin0
 have F2 := I8.keep K0
 refine own_pF X6 hx hZ hown (hw 21) e5 F1 F2 (Or.inr ⟨(hw 17), rfl, hnm⟩) (hw 2) (ty := .byte) (by decide) (by decide) (hb hby dd1_48) fun T4 h4 X2 e6 W0 => ?_
 have N6 := Fr.snoc X2 N5 I0
 have z1 := W0.size
 have F7 := Fld.same W0 F1
 refine oAN X2 hx hby dd1_51 rfl rfl ?_
 refine oAL X2 hx hby dd1_52 rfl rfl ?_
 have F3 := Fld.other W0 (I9.keep K0 nin0) (Or.inr (slot_ne (C := cN2) (Or.inr (hw 16)) (Or.inr (hw 17)) (by decide) (t := (.array .byte)) (t' := .byte) (by decide) (by decide)))
 have F4 := Exa.wr W0 F2
 refine own_pF X2 hx hZ hown (hw 20) e6 F3 F4 (Or.inr ⟨(hw 16), rfl, hnm⟩) (hw 2) (ty := (.array .byte)) rfl rfl (hb hby dd1_54) fun T5 h2 X5 e7 W1 => ?_
 have N7 := Fr.snoc X5 N6 I0
 have z2 := W1.size
 have F8 := Fld.same W1 F3
 have F9 := Fld.other W1 F7 (Or.inr (slot_ne (C := cN2) (Or.inr (hw 17)) (Or.inr (hw 16)) (by decide) (t := .byte) (t' := (.array .byte)) (by decide) (by decide)))
 have F00 := Exa.wr W1 F4
 have N0 : @Ne Nat o1 o0 := by omega
 have F01 := (F0.other W0 N0).other W1 N0
 have F02 := Exa.wr W1 (Exa.wr W0 F6)
 have y1 : @LT.lt Nat instLTNat o1 h2.size := by omega
 have K2 : Keep h0 h2 [o0] := ((((Keep.refl h0 [o0]).trans K0 all0).wr W0 (Or.inl (by simp))).wr W1 (Or.inl (by simp)))
 exact own_retV X5 hx hns hrt (hb hby dd1_57) e7 (by decide) (by decide) (⟨o1, m0, rfl, N7, K2, (by omega), F9, F00, F8, F01, F02, y1⟩)
theorem own_rm99 (l : Launch) (Z : State) (a0 : Array Value) (hw : own_W a0 Z) (ws : List Jvm.Cond) (i0 i1 i2 i3 : Int32) (m1 : ClassId) (o0 o2 : Nat) (h0 : Heap) (n0 : Nat) (Z0 : n0 ≤ h0.size) (O0 : Old Z n0 h0) (I0 : Arv Z h0 o2 m1 .char 3 [(.int i0), (.int i1), (.int i2)] (.int 0)) (I1 : Sta Z Z.heap cN2 "COMPACT_STRINGS" "Z" (.int i3)) (I2 : ¬ (i3 = 0)) (I3 : ¬ (255 < i0)) (I00 : @LT.lt Nat instLTNat o2 h0.size) (I4 : ¬ (255 < i1)) (I5 : ¬ (255 < i2)) (I6 : Fld Z h0 o0 cN2 "coder" "B" (.int 0)) (I7 : Exa Z h0 o0 cN2) (I8 : n0 ≤ o0) (I9 : Fld Z h0 o0 cN2 "value" "[B" .null) (I01 : @LT.lt Nat instLTNat o0 h0.size) :
 own_Met l Z h0 mN1 B0 2 (Option.none : Option FieldType) ws (own_R 3 1 3 52) #[(.ref o0), (.ref o2)] (fun v h L => (∃ o1 : Nat, ∃ m0 : ClassId, v = none ∧ Fr n0 L ∧ Keep h0 h [o0] ∧ h0.size ≤ o1 ∧ Fld Z h o0 cN2 "coder" "B" (.int 0) ∧ Exa Z h o0 cN2 ∧ Fld Z h o0 cN2 "value" "[B" (.ref o1) ∧ Arv Z h o1 m0 .byte 3 [(.int (i0.toInt8.toInt32)), (.int (i1.toInt8.toInt32)), (.int (i2.toInt8.toInt32))] (.int 0) ∧ Exa Z h o1 "[B" ∧ @LT.lt Nat instLTNat o1 h.size)) 1 3 := own_go own_pn1 fun p e s m below meth c s₁ hns hrt hnm hml hZ hx hby hown X0 e0 => by
 have N0 := Fr.nil n0
 refine own_cast (own_ef1 m o0 o2) ?_
 refine oAN X0 hx hby dd0_0 rfl rfl ?_
 refine oAN X0 hx hby dd0_1 rfl rfl ?_
 refine oIC X0 hx hby dd0_2 ?_
 refine oAN X0 hx hby dd0_3 rfl rfl ?_
 refine oS (own_len X0 hx hZ e0 I0 rfl rfl (hb hby dd0_4)) ?_
 refine oS (fun _ => XS.aconstNull X0.here hx rfl (hb hby dd0_5) ) ?_
 have y0 : @LT.lt Nat instLTNat o2 h0.size := by omega
 have y1 : @LT.lt Nat instLTNat o0 h0.size := by omega
 refine own_cN X0 hx hZ hown e0 (y := mN0) (b := o0) rfl (hw 7) (hw 8) (hw 3) (hw 10) (by decide) (W := 0) (own_rm100 l Z a0 hw [] i3 i0 i1 i2 m1 o0 o2 h0 n0 Z0 O0 I1 I2 I0 I3 y0 I4 I5 I6 I7 I8 I9 y1) [(.ref o2), (.int 0), (.int 3), .null] [] hml (lenOf own_pd0 rfl) (hb hby dd0_6) fun T0 h1 v0 L0 X1 e1 q0 => ?_
 obtain ⟨o1, m0, rfl, N1, K0, F5, F0, F1, F2, F3, F4, F6⟩ := q0
 have N2 := Fr.app N0 N1
 have z0 := K0.1
 have y2 : @LT.lt Nat instLTNat o1 h1.size := by omega
 have K1 : Keep h0 h1 [o0] := ((Keep.refl h0 [o0]).trans K0 (allS (Or.inl (by simp)) all0))
 exact own_retV X1 hx hns hrt (hb hby dd0_9) e1 (by decide) (by decide) (⟨o1, m0, rfl, N2, K1, (by omega), F0, F1, F2, F3, F4, y2⟩)
theorem own_rm107 (l : Launch) (Z : State) (a0 : Array Value) (hw : own_W a0 Z) (ws : List Jvm.Cond) (i1 i2 i3 i0 : Int32) (m0 : ClassId) (o0 o1 : Nat) (h0 : Heap) (n0 : Nat) (Z0 : n0 ≤ h0.size) (O0 : Old Z n0 h0) (I0 : Fld Z h0 o0 cN2 "value" "[B" (.ref o1)) (I1 : Arv Z h0 o1 m0 .byte 3 [(.int (i1.toInt8.toInt32)), (.int (i2.toInt8.toInt32)), (.int (i3.toInt8.toInt32))] (.int 0)) (I2 : Sta Z Z.heap cN2 "COMPACT_STRINGS" "Z" (.int i0)) (I3 : ¬ (i0 = 0)) (I4 : Fld Z h0 o0 cN2 "coder" "B" (.int 0)) (I5 : Exa Z h0 o0 cN2) :
 own_Met l Z h0 mN5 B7 1 (Option.some FieldType.int) ws (own_R 1 0 0 13) #[(.ref o0)] (fun v h L => (v = some (.int 3) ∧ Fr n0 L ∧ h = h0)) 0 0 := own_go own_pn5 fun p e s m below meth c s₁ hns hrt hnm hml hZ hx hby hown X1 e1 => by
 have N0 := Fr.nil n0
 refine own_cast (own_ef3 m o0) ?_
 refine oAN X1 hx hby dd7_0 rfl rfl ?_
 refine own_gF X1 hx hZ hown (hw 20) e1 I0 (hb hby dd7_1) fun T0 X0 e0 => ?_
 refine oS (own_len X0 hx hZ e0 I1 rfl rfl (hb hby dd7_4)) ?_
 refine oAN X0 hx hby dd7_5 rfl rfl ?_
 refine own_cV X0 hx hZ hown e0 (y := mN4) (z := mN4) (b := o0) (hw 62) (hw 63) (notFace_of_selects (args := #[]) (mvT hZ (hw 65))) (hw 65) (hw 64) (hw 3) (hw 66) (by decide) I5 (W := 1) (own_rm13 l Z a0 hw [] i0 o0 h0 n0 Z0 O0 I2 I3 I4) [] [(.int 3)] hml (lenOf own_pd4 rfl) (hb hby dd7_6) fun T1 h1 v0 L0 X2 e2 q0 => ?_
 obtain ⟨rfl, N1, K0⟩ := q0
 have N2 := Fr.app N0 N1
 have e3 := e2.trans K0
 refine oS (fun _ => XT.ishr X2.here hx rfl (hb hby dd7_9) rfl) ?_
 exact own_retI X2 hx hns hrt (hb hby dd7_10) e3 (by decide) (by decide) (⟨rfl, N2, rfl⟩)
theorem own_rm108 (l : Launch) (Z : State) (a0 : Array Value) (hw : own_W a0 Z) (ws : List Jvm.Cond) (m0 : ClassId) (o0 o1 : Nat) (h0 : Heap) (n0 : Nat) (Z0 : n0 ≤ h0.size) (O0 : Old Z n0 h0) (I0 : Fld Z h0 o0 cN3 "value" "[B" (.ref o1)) (I1 : Arv Z h0 o1 m0 .byte 16 [(.int 0), (.int 0), (.int 0), (.int 0), (.int 0), (.int 0), (.int 0), (.int 0), (.int 0), (.int 0), (.int 0), (.int 0), (.int 0), (.int 0), (.int 0), (.int 0)] (.int 0)) (I2 : Fld Z h0 o0 cN3 "coder" "B" (.int 0)) :
 own_Met l Z h0 mN6 B9 3 (Option.none : Option FieldType) ws (own_R 0 0 0 0) #[(.ref o0), (.int 3)] (fun v h L => (v = none ∧ Fr n0 L ∧ h = h0)) 0 0 := own_go own_pn6 fun p e s m below meth c s₁ hns hrt hnm hml hZ hx hby hown X2 e1 => by
 have N0 := Fr.nil n0
 refine own_cast (own_ef6 m o0 3) ?_
 refine oAN X2 hx hby dd9_0 rfl rfl ?_
 refine own_gF X2 hx hZ hown (hw 43) e1 I0 (hb hby dd9_1) fun T1 X1 e0 => ?_
 refine oS (own_len X1 hx hZ e0 I1 rfl rfl (hb hby dd9_4)) ?_
 refine oAN X1 hx hby dd9_5 rfl rfl ?_
 refine own_gF X1 hx hZ hown (hw 45) e0 I2 (hb hby dd9_6) fun T0 X0 e2 => ?_
 refine oS (fun _ => XT.ishr X0.here hx rfl (hb hby dd9_9) rfl) ?_
 refine oISN X0 hx hby dd9_10 (l' := #[rv o0, iv 3, iv 16]) rfl ?_
 refine oIN X0 hx hby dd9_11 rfl ?_
 refine oIN X0 hx hby dd9_12 rfl ?_
 refine oS (fun _ => XS.isub X0.here hx rfl (hb hby dd9_13) rfl) ?_
 show own_G p e below (T0.setTop (mkF m 14 #[rv o0, iv 3, iv 16] [(.int (-13))])) _
 refine oY0 X0 hx hby (pc' := 38) dd9_14 (XT.i0_le_t (by decide)) ?_
 exact own_retV X0 hx hns hrt (hb hby dd9_38) e2 (by decide) (by decide) (⟨rfl, N0, rfl⟩)
theorem own_rm110 (l : Launch) (Z : State) (a0 : Array Value) (hw : own_W a0 Z) (ws : List Jvm.Cond) (i3 i0 i1 i2 : Int32) (m1 m0 : ClassId) (o1 o0 o2 : Nat) (h0 : Heap) (n0 : Nat) (Z0 : n0 ≤ h0.size) (O0 : Old Z n0 h0) (I2 : Sta Z Z.heap cN2 "COMPACT_STRINGS" "Z" (.int i3)) (I3 : ¬ (i3 = 0)) (I4 : Fld Z h0 o1 cN2 "coder" "B" (.int 0)) (I5 : Exa Z h0 o1 cN2) (I0 : Fld Z h0 o1 cN2 "value" "[B" (.ref o2)) (I1 : Arv Z h0 o2 m1 .byte 3 [(.int (i0.toInt8.toInt32)), (.int (i1.toInt8.toInt32)), (.int (i2.toInt8.toInt32))] (.int 0)) (I6 : Arv Z h0 o0 m0 .byte 16 [(.int 0), (.int 0), (.int 0), (.int 0), (.int 0), (.int 0), (.int 0), (.int 0), (.int 0), (.int 0), (.int 0), (.int 0), (.int 0), (.int 0), (.int 0), (.int 0)] (.int 0)) (I7 : n0 ≤ o0) (I8 : Exa Z h0 o0 "[B") :
 own_Met l Z h0 mN8 B02 4 (Option.none : Option FieldType) ws (own_R 1 0 0 18) #[(.ref o1), (.ref o0), (.int 0), (.int 0)] (fun v h L => (v = none ∧ Fr n0 L ∧ Keep h0 h [o0] ∧ Arv Z h o0 m0 .byte 16 [(.int (i0.toInt8.toInt32)), (.int (i1.toInt8.toInt32)), (.int (i2.toInt8.toInt32)), (.int 0), (.int 0), (.int 0), (.int 0), (.int 0), (.int 0), (.int 0), (.int 0), (.int 0), (.int 0), (.int 0), (.int 0), (.int 0)] (.int 0) ∧ Exa Z h o0 "[B")) 0 0 := own_go own_pn8 fun p e s m below meth c s₁ hns hrt hnm hml hZ hx hby hown X2 e1 => by
 have N0 := Fr.nil n0
 refine own_cast (own_ef8 m o1 o0 0 0) ?_
 refine oAN X2 hx hby dd12_0 rfl rfl ?_
 refine own_cV X2 hx hZ hown e1 (y := mN4) (z := mN4) (b := o1) (hw 62) (hw 63) (notFace_of_selects (args := #[]) (mvT hZ (hw 65))) (hw 65) (hw 64) (hw 3) (hw 66) (by decide) I5 (W := 0) (own_rm13 l Z a0 hw [] i3 o1 h0 n0 Z0 O0 I2 I3 I4) [] [] hml (lenOf own_pd4 rfl) (hb hby dd12_1) fun T1 h2 v0 L0 X1 e2 q0 => ?_
 obtain ⟨rfl, N1, K1⟩ := q0
 have N2 := Fr.app N0 N1
 have e3 := e2.trans K1
 refine oIN X1 hx hby dd12_4 rfl ?_
 refine oNI X1 hx hby dd12_5 (XT.ii_ne_f (by decide)) ?_
 refine oAN X1 hx hby dd12_8 rfl rfl ?_
 refine own_gF X1 hx hZ hown (hw 20) e3 I0 (hb hby dd12_9) fun T0 X0 e4 => ?_
 refine oIC X0 hx hby dd12_12 ?_
 refine oAN X0 hx hby dd12_13 rfl rfl ?_
 refine oIN X0 hx hby dd12_14 rfl ?_
 refine oIN X0 hx hby dd12_15 rfl ?_
 show own_G p e below (T0.setTop (mkF m 16 #[rv o1, rv o0, iv 0, iv 0] [(.int 0), (.int 0), (.ref o0), (.int 0), (.ref o2)])) _
 refine oS (fun _ => XT.ishl X0.here hx rfl (hb hby dd12_16) rfl) ?_
 refine oAN X0 hx hby dd12_17 rfl rfl ?_
 refine own_gF X0 hx hZ hown (hw 20) e4 I0 (hb hby dd12_18) fun T2 X3 e0 => ?_
 refine oS (own_len X3 hx hZ e0 I1 rfl rfl (hb hby dd12_21)) ?_
 obtain ⟨T3, h1, L1, X4, e5, N3, K0, A0, s0⟩ := cpA X3 hx hZ hown (hw 91) (hw 94) (hw 92) (hw 93) e0 I1 I6 (us := [(.int (i0.toInt8.toInt32)), (.int (i1.toInt8.toInt32)), (.int (i2.toInt8.toInt32))]) (Or.inl ⟨rfl, rfl⟩) (by decide) (by decide) (by decide) (by decide) (by decide) rfl (Nat.le_of_ble_eq_true rfl) N2 I7 (g := (mkF m 22 #[rv o1, rv o0, iv 0, iv 0] [(.int 3), (.int 0), (.ref o0), (.int 0), (.ref o2)])) rfl (by rw [hml]; rfl) (rest := []) rfl (hb hby dd12_22) (by decide) (W := 0) (by show 2 * 0 + _ ≤ _; exact Nat.le_of_eq rfl) (by decide)
 have z0 := K0.1
 have F0 : Arv Z h1 o0 m0 .byte 16 [(.int (i0.toInt8.toInt32)), (.int (i1.toInt8.toInt32)), (.int (i2.toInt8.toInt32)), (.int 0), (.int 0), (.int 0), (.int 0), (.int 0), (.int 0), (.int 0), (.int 0), (.int 0), (.int 0), (.int 0), (.int 0), (.int 0)] (.int 0) := A0
 refine oS s0 ?_
 refine oGO X4 hx hby (pc' := 43) dd12_25 ?_
 have F1 := I8.keep K0
 have K2 : Keep h0 h1 [o0] := ((Keep.refl h0 [o0]).trans K0 (allS (Or.inl (by simp)) all0))
 exact own_retV X4 hx hns hrt (hb hby dd12_43) e5 (by decide) (by decide) (⟨rfl, N3, K2, F0, F1⟩)
theorem own_rm109 (l : Launch) (Z : State) (a0 : Array Value) (hw : own_W a0 Z) (ws : List Jvm.Cond) (i0 i1 i2 i3 : Int32) (m1 m0 : ClassId) (o2 o1 o0 o3 : Nat) (h0 : Heap) (n0 : Nat) (Z0 : n0 ≤ h0.size) (O0 : Old Z n0 h0) (I1 : Sta Z Z.heap cN2 "COMPACT_STRINGS" "Z" (.int i0)) (I2 : ¬ (i0 = 0)) (I3 : Fld Z h0 o2 cN3 "coder" "B" (.int 0)) (I4 : Fld Z h0 o1 cN2 "coder" "B" (.int 0)) (I0 : Exa Z h0 o1 cN2) (I5 : Exa Z h0 o2 cN4) (I6 : Fld Z h0 o2 cN3 "value" "[B" (.ref o0)) (I7 : Fld Z h0 o1 cN2 "value" "[B" (.ref o3)) (I8 : Arv Z h0 o3 m1 .byte 3 [(.int (i1.toInt8.toInt32)), (.int (i2.toInt8.toInt32)), (.int (i3.toInt8.toInt32))] (.int 0)) (I9 : Arv Z h0 o0 m0 .byte 16 [(.int 0), (.int 0), (.int 0), (.int 0), (.int 0), (.int 0), (.int 0), (.int 0), (.int 0), (.int 0), (.int 0), (.int 0), (.int 0), (.int 0), (.int 0), (.int 0)] (.int 0)) (I00 : n0 ≤ o0) (I01 : Exa Z h0 o0 "[B") :
 own_Met l Z h0 mN9 B00 3 (Option.none : Option FieldType) ws (own_R 2 0 0 33) #[(.ref o2), (.int 0), (.ref o1)] (fun v h L => (v = none ∧ Fr n0 L ∧ Keep h0 h [o0] ∧ Arv Z h o0 m0 .byte 16 [(.int (i1.toInt8.toInt32)), (.int (i2.toInt8.toInt32)), (.int (i3.toInt8.toInt32)), (.int 0), (.int 0), (.int 0), (.int 0), (.int 0), (.int 0), (.int 0), (.int 0), (.int 0), (.int 0), (.int 0), (.int 0), (.int 0)] (.int 0) ∧ Exa Z h o0 "[B")) 0 0 := own_go own_pn9 fun p e s m below meth c s₁ hns hrt hnm hml hZ hx hby hown X0 e0 => by
 have N0 := Fr.nil n0
 refine own_cast (own_ef7 m o2 0 o1) ?_
 refine oAN X0 hx hby dd10_0 rfl rfl ?_
 refine oAN X0 hx hby dd10_1 rfl rfl ?_
 refine own_cP X0 hx hZ hown e0 (y := mN7) (b := o2) (hw 80) (hw 81) (own_selP (hw 81) (hw 82) (hw 73) rfl (by decide)) (hw 82) (hw 39) (hw 84) (by decide) I5 (W := 0) (own_rm16 l Z a0 hw [] i0 o2 o1 h0 n0 Z0 O0 I1 I2 I3 I4 I0) [(.ref o1)] [] hml (lenOf own_pd6 rfl) (hb hby dd10_2) fun T1 h2 v0 L0 X1 e1 q0 => ?_
 obtain ⟨rfl, N1, K1⟩ := q0
 have N2 := Fr.app N0 N1
 have e2 := e1.trans K1
 refine oAN X1 hx hby dd10_5 rfl rfl ?_
 refine oAN X1 hx hby dd10_6 rfl rfl ?_
 refine own_gF X1 hx hZ hown (hw 43) e2 I6 (hb hby dd10_7) fun T2 X2 e3 => ?_
 refine oIN X2 hx hby dd10_10 rfl ?_
 refine oAN X2 hx hby dd10_11 rfl rfl ?_
 refine own_gF X2 hx hZ hown (hw 45) e3 I3 (hb hby dd10_12) fun T3 X3 e4 => ?_
 refine own_cV X3 hx hZ hown e4 (y := mN8) (z := mN8) (b := o1) (hw 86) (hw 87) (notFace_of_selects (args := #[]) (mvT hZ (hw 89))) (hw 89) (hw 88) (hw 3) (hw 90) (by decide) I0 (W := 0) (own_rm110 l Z a0 hw [] i0 i1 i2 i3 m1 m0 o1 o0 o3 h0 n0 Z0 O0 I1 I2 I4 I0 I7 I8 I9 I00 I01) [(.ref o0), (.int 0), (.int 0)] [] hml (lenOf own_pd7 rfl) (hb hby dd10_15) fun T0 h1 v1 L1 X4 e5 q1 => ?_
 obtain ⟨rfl, N3, K0, F0, F1⟩ := q1
 have N4 := Fr.app N2 N3
 have z0 := K0.1
 show own_G p e below (T0.setTop (mkF m 18 #[rv o2, iv 0, rv o1] [])) _
 have K2 : Keep h0 h1 [o0] := ((Keep.refl h0 [o0]).trans K0 (allS (Or.inl (by simp)) all0))
 exact own_retV X4 hx hns hrt (hb hby dd10_18) e5 (by decide) (by decide) (⟨rfl, N4, K2, F0, F1⟩)
theorem own_rm106 (l : Launch) (Z : State) (a0 : Array Value) (hw : own_W a0 Z) (ws : List Jvm.Cond) (i0 i1 i2 i3 : Int32) (m1 m0 : ClassId) (o0 o2 o3 o1 : Nat) (h0 : Heap) (n0 : Nat) (Z0 : n0 ≤ h0.size) (O0 : Old Z n0 h0) (I6 : Fld Z h0 o2 cN2 "value" "[B" (.ref o3)) (I7 : Arv Z h0 o3 m1 .byte 3 [(.int (i0.toInt8.toInt32)), (.int (i1.toInt8.toInt32)), (.int (i2.toInt8.toInt32))] (.int 0)) (I8 : Sta Z Z.heap cN2 "COMPACT_STRINGS" "Z" (.int i3)) (I9 : ¬ (i3 = 0)) (I00 : Fld Z h0 o2 cN2 "coder" "B" (.int 0)) (I2 : Exa Z h0 o2 cN2) (I3 : Fld Z h0 o0 cN3 "count" "I" (.int 0)) (I4 : Fld Z h0 o0 cN3 "value" "[B" (.ref o1)) (I01 : Arv Z h0 o1 m0 .byte 16 [(.int 0), (.int 0), (.int 0), (.int 0), (.int 0), (.int 0), (.int 0), (.int 0), (.int 0), (.int 0), (.int 0), (.int 0), (.int 0), (.int 0), (.int 0), (.int 0)] (.int 0)) (I5 : Fld Z h0 o0 cN3 "coder" "B" (.int 0)) (I0 : Exa Z h0 o0 cN4) (I02 : n0 ≤ o1) (I03 : Exa Z h0 o1 "[B") (I1 : @Ne Nat o0 o1) (I04 : n0 ≤ o0) :
 own_Met l Z h0 mN10 B6 3 (Option.some (FieldType.object cN3)) ws (own_R 3 0 0 47) #[(.ref o0), (.ref o2)] (fun v h L => (v = some (.ref o0) ∧ Fr n0 L ∧ Keep h0 h [o1, o0] ∧ Arv Z h o1 m0 .byte 16 [(.int (i0.toInt8.toInt32)), (.int (i1.toInt8.toInt32)), (.int (i2.toInt8.toInt32)), (.int 0), (.int 0), (.int 0), (.int 0), (.int 0), (.int 0), (.int 0), (.int 0), (.int 0), (.int 0), (.int 0), (.int 0), (.int 0)] (.int 0) ∧ Exa Z h o1 "[B" ∧ Fld Z h o0 cN3 "count" "I" (.int 3) ∧ Exa Z h o0 cN4 ∧ Fld Z h o0 cN3 "value" "[B" (.ref o1) ∧ Fld Z h o0 cN3 "coder" "B" (.int 0))) 0 0 := own_go own_pn10 fun p e s m below meth c s₁ hns hrt hnm hml hZ hx hby hown X0 e0 => by
 have N0 := Fr.nil n0
 refine own_cast (own_ef5 m o0 o2) ?_
 refine oAN X0 hx hby dd6_0 rfl rfl ?_
 refine oS (fun _ => XT.ifnonnullYes X0.here hx rfl (pc0 := 1) (pc' := 9) rfl (hb hby dd6_1) rfl (by decide) (by decide)) ?_
 refine oAN X0 hx hby dd6_9 rfl rfl ?_
 refine own_cV X0 hx hZ hown e0 (y := mN5) (z := mN5) (b := o2) (hw 57) (hw 58) (notFace_of_selects (args := #[]) (mvT hZ (hw 60))) (hw 60) (hw 59) (hw 3) (hw 61) (by decide) I2 (W := 0) (own_rm107 l Z a0 hw [] i0 i1 i2 i3 m1 o2 o3 h0 n0 Z0 O0 I6 I7 I8 I9 I00 I2) [] [] hml (lenOf own_pd5 rfl) (hb hby dd6_10) fun T2 h2 v0 L0 X1 e1 q0 => ?_
 obtain ⟨rfl, N1, K1⟩ := q0
 have N2 := Fr.app N0 N1
 have e2 := e1.trans K1
 refine oISN X1 hx hby dd6_13 (l' := #[rv o0, rv o2, iv 3]) rfl ?_
 refine oAN X1 hx hby dd6_14 rfl rfl ?_
 refine oAN X1 hx hby dd6_15 rfl rfl ?_
 refine own_gF X1 hx hZ hown (hw 68) e2 I3 (hb hby dd6_16) fun T0 X2 e3 => ?_
 refine oIN X2 hx hby dd6_19 rfl ?_
 refine oS (fun _ => XS.iadd X2.here hx rfl (hb hby dd6_20) rfl) ?_
 show own_G p e below (T0.setTop (mkF m 21 #[rv o0, rv o2, iv 3] [(.int 3), (.ref o0)])) _
 refine own_cP X2 hx hZ hown e3 (y := mN6) (b := o0) (hw 70) (hw 71) (own_selP (hw 71) (hw 72) (hw 73) rfl (by decide)) (hw 72) (hw 39) (hw 74) (by decide) I0 (W := 0) (own_rm108 l Z a0 hw [] m0 o0 o1 h0 n0 Z0 O0 I4 I01 I5) [(.int 3)] [] hml (lenOf own_pd2 rfl) (hb hby dd6_21) fun T3 h3 v1 L1 X3 e4 q1 => ?_
 obtain ⟨rfl, N3, K2⟩ := q1
 have N4 := Fr.app N2 N3
 have e5 := e4.trans K2
 refine oAN X3 hx hby dd6_24 rfl rfl ?_
 refine oAN X3 hx hby dd6_25 rfl rfl ?_
 refine own_gF X3 hx hZ hown (hw 68) e5 I3 (hb hby dd6_26) fun T4 X7 e6 => ?_
 refine oAN X7 hx hby dd6_29 rfl rfl ?_
 refine own_cP X7 hx hZ hown e6 (y := mN9) (b := o0) (hw 75) (hw 76) (own_selP (hw 76) (hw 77) (hw 73) rfl (by decide)) (hw 77) (hw 39) (hw 79) (by decide) I0 (W := 0) (own_rm109 l Z a0 hw [] i3 i0 i1 i2 m1 m0 o0 o2 o1 o3 h0 n0 Z0 O0 I8 I9 I5 I00 I2 I0 I4 I6 I7 I01 I02 I03) [(.int 0), (.ref o2)] [] hml (lenOf own_pd8 rfl) (hb hby dd6_30) fun T5 h4 v2 L2 X4 e7 q2 => ?_
 obtain ⟨rfl, N5, K0, F2, F3⟩ := q2
 have N6 := Fr.app N4 N5
 have z0 := K0.1
 refine oAN X4 hx hby dd6_33 rfl rfl ?_
 refine oS (fun _ => XS.dup X4.here hx rfl (hb hby dd6_34) rfl rfl) ?_
 have F0 := I3.keep K0 (ninS I1 nin0)
 refine own_gF X4 hx hZ hown (hw 68) e7 F0 (hb hby dd6_35) fun T1 X5 e8 => ?_
 refine oIN X5 hx hby dd6_38 rfl ?_
 show own_G p e below (T1.setTop (mkF m 39 #[rv o0, rv o2, iv 3] [(.int 3), (.int 0), (.ref o0)])) _
 refine oS (fun _ => XS.iadd X5.here hx rfl (hb hby dd6_39) rfl) ?_
 have F1 := I0.keep K0
 refine own_pF X5 hx hZ hown (hw 68) e8 F0 F1 (Or.inl (hw 69)) (hw 30) (ty := .int) rfl rfl (hb hby dd6_40) fun T6 h1 X6 e9 W0 => ?_
 have N7 := Fr.snoc X6 N6 I04
 have z1 := W0.size
 have F4 := Fld.same W0 F0
 refine oAN X6 hx hby dd6_43 rfl rfl ?_
 have F5 := F2.other W0 (Ne.symm I1)
 have F6 := Exa.wr W0 F3
 have F7 := Exa.wr W0 F1
 have F8 := Fld.other W0 (I4.keep K0 (ninS I1 nin0)) (Or.inr (slot_ne (C := cN4) (Or.inl (hw 44)) (Or.inl (hw 69)) (by decide) (t := (.array .byte)) (t' := .int) (by decide) (by decide)))
 have F9 := Fld.other W0 (I5.keep K0 (ninS I1 nin0)) (Or.inr (slot_ne (C := cN4) (Or.inl (hw 46)) (Or.inl (hw 69)) (by decide) (t := .byte) (t' := .int) (by decide) (by decide)))
 have K3 : Keep h0 h1 [o1, o0] := (((Keep.refl h0 [o1, o0]).trans K0 (allS (Or.inl (by simp)) all0)).wr W0 (Or.inl (by simp)))
 exact own_retA X6 hx hns hrt rfl rfl (hb hby dd6_44) e9 (by decide) (by decide) (⟨rfl, N7, K3, F5, F6, F4, F7, F8, F9⟩)
theorem own_rm105 (l : Launch) (Z : State) (a0 : Array Value) (hw : own_W a0 Z) (ws : List Jvm.Cond) (i0 i1 i2 i3 : Int32) (m1 m0 : ClassId) (o0 o2 o3 o1 : Nat) (h0 : Heap) (n0 : Nat) (Z0 : n0 ≤ h0.size) (O0 : Old Z n0 h0) (I1 : Fld Z h0 o2 cN2 "value" "[B" (.ref o3)) (I2 : Arv Z h0 o3 m1 .byte 3 [(.int (i0.toInt8.toInt32)), (.int (i1.toInt8.toInt32)), (.int (i2.toInt8.toInt32))] (.int 0)) (I3 : Sta Z Z.heap cN2 "COMPACT_STRINGS" "Z" (.int i3)) (I4 : ¬ (i3 = 0)) (I5 : Fld Z h0 o2 cN2 "coder" "B" (.int 0)) (I6 : Exa Z h0 o2 cN2) (I7 : Fld Z h0 o0 cN3 "count" "I" (.int 0)) (I8 : Fld Z h0 o0 cN3 "value" "[B" (.ref o1)) (I9 : Arv Z h0 o1 m0 .byte 16 [(.int 0), (.int 0), (.int 0), (.int 0), (.int 0), (.int 0), (.int 0), (.int 0), (.int 0), (.int 0), (.int 0), (.int 0), (.int 0), (.int 0), (.int 0), (.int 0)] (.int 0)) (I00 : Fld Z h0 o0 cN3 "coder" "B" (.int 0)) (I0 : Exa Z h0 o0 cN4) (I01 : n0 ≤ o1) (I02 : Exa Z h0 o1 "[B") (I03 : @Ne Nat o0 o1) (I04 : n0 ≤ o0) :
 own_Met l Z h0 mN11 B5 2 (Option.some (FieldType.object cN4)) ws (own_R 4 0 0 61) #[(.ref o0), (.ref o2)] (fun v h L => (v = some (.ref o0) ∧ Fr n0 L ∧ Keep h0 h [o1, o0] ∧ Arv Z h o1 m0 .byte 16 [(.int (i0.toInt8.toInt32)), (.int (i1.toInt8.toInt32)), (.int (i2.toInt8.toInt32)), (.int 0), (.int 0), (.int 0), (.int 0), (.int 0), (.int 0), (.int 0), (.int 0), (.int 0), (.int 0), (.int 0), (.int 0), (.int 0)] (.int 0) ∧ Exa Z h o1 "[B" ∧ Fld Z h o0 cN3 "count" "I" (.int 3) ∧ Exa Z h o0 cN4 ∧ Fld Z h o0 cN3 "value" "[B" (.ref o1) ∧ Fld Z h o0 cN3 "coder" "B" (.int 0))) 0 0 := own_go own_pn11 fun p e s m below meth c s₁ hns hrt hnm hml hZ hx hby hown X0 e0 => by
 have N0 := Fr.nil n0
 refine own_cast (own_ef1 m o0 o2) ?_
 refine oAN X0 hx hby dd5_0 rfl rfl ?_
 refine oAN X0 hx hby dd5_1 rfl rfl ?_
 refine own_cX X0 hx hZ hown e0 (y := mN10) (b := o0) (hw 52) (hw 55) (own_nf (hw 73) rfl) (hw 53) (hw 54) (by decide) (hw 39) (hw 56) (by decide) I0 (W := 0) (own_rm106 l Z a0 hw [] i0 i1 i2 i3 m1 m0 o0 o2 o3 o1 h0 n0 Z0 O0 I1 I2 I3 I4 I5 I6 I7 I8 I9 I00 I0 I01 I02 I03 I04) [(.ref o2)] [] hml (lenOf own_pd9 rfl) (hb hby dd5_2) fun T0 h1 v0 L0 X1 e1 q0 => ?_
 obtain ⟨rfl, N1, K0, F0, F1, F2, F3, F4, F5⟩ := q0
 have N2 := Fr.app N0 N1
 have z0 := K0.1
 refine oS (fun _ => XT.pop X1.here hx rfl (hb hby dd5_5) rfl rfl) ?_
 refine oAN X1 hx hby dd5_6 rfl rfl ?_
 have K1 : Keep h0 h1 [o1, o0] := ((Keep.refl h0 [o1, o0]).trans K0 (allS (Or.inl (by simp)) (allS (Or.inl (by simp)) all0)))
 exact own_retA X1 hx hns hrt rfl rfl (hb hby dd5_7) e1 (by decide) (by decide) (⟨rfl, N2, K1, F0, F1, F2, F3, F4, F5⟩)
theorem own_rm117 (l : Launch) (Z : State) (a0 : Array Value) (hw : own_W a0 Z) (ws : List Jvm.Cond)  (h0 : Heap) (n0 : Nat) (Z0 : n0 ≤ h0.size) (O0 : Old Z n0 h0)  :
 own_Met l Z h0 mN25 B0h 2 (Option.some FieldType.int) ws (own_R 0 0 0 0) #[(.int 3), (.int 18)] (fun v h L => (v = some (.int 18) ∧ Fr n0 L ∧ h = h0)) 0 0 := own_go own_pn25 fun p e s m below meth c s₁ hns hrt hnm hml hZ hx hby hown X0 e0 => by
 have N0 := Fr.nil n0
 refine own_cast (own_ef15 m 3 18) ?_
 refine oIN X0 hx hby dd27_0 rfl ?_
 refine oIN X0 hx hby dd27_1 rfl ?_
 refine oYI X0 hx hby (pc' := 9) dd27_2 (XT.ii_lt_t (by decide)) ?_
 refine oIN X0 hx hby dd27_9 rfl ?_
 exact own_retI X0 hx hns hrt (hb hby dd27_10) e0 (by decide) (by decide) (⟨rfl, N0, rfl⟩)
theorem own_rm116 (l : Launch) (Z : State) (a0 : Array Value) (hw : own_W a0 Z) (ws : List Jvm.Cond)  (h0 : Heap) (n0 : Nat) (Z0 : n0 ≤ h0.size) (O0 : Old Z n0 h0)  :
 own_Met l Z h0 mN26 B0g 4 (Option.some FieldType.int) ws (own_R 1 0 0 14) #[(.int 16), (.int 3), (.int 18)] (fun v h L => (v = some (.int 34) ∧ Fr n0 L ∧ h = h0)) 0 0 := own_go own_pn26 fun p e s m below meth c s₁ hns hrt hnm hml hZ hx hby hown X1 e0 => by
 have N0 := Fr.nil n0
 refine own_cast (own_ef14 m 16 3 18) ?_
 refine oIN X1 hx hby dd26_0 rfl ?_
 refine oIN X1 hx hby dd26_1 rfl ?_
 refine oIN X1 hx hby dd26_2 rfl ?_
 refine own_cS X1 hx hZ hown e0 (y := mN25) (hw 243) (hw 244) (hw 245) (hw 246) (by decide) (W := 1) (own_rm117 l Z a0 hw []  h0 n0 Z0 O0 ) [(.int 3), (.int 18)] [(.int 16)] hml (lenOf own_pd22 rfl) (hb hby dd26_3) fun T0 h1 v0 L0 X0 e1 q0 => ?_
 obtain ⟨rfl, N1, K0⟩ := q0
 have N2 := Fr.app N0 N1
 have e2 := e1.trans K0
 refine oS (fun _ => XS.iadd X0.here hx rfl (hb hby dd26_6) rfl) ?_
 refine oISN X0 hx hby dd26_7 (l' := #[iv 16, iv 3, iv 18, iv 34]) rfl ?_
 refine oIC X0 hx hby dd26_8 ?_
 refine oIN X0 hx hby dd26_9 rfl ?_
 refine oNI X0 hx hby dd26_10 (XT.ii_ge_f (by decide)) ?_
 refine oIN X0 hx hby dd26_13 rfl ?_
 show own_G p e below (T0.setTop (mkF m 14 #[iv 16, iv 3, iv 18, iv 34] [(.int 34)])) _
 refine oS (fun _ => X0.ldcI hx hown (mvT hZ (hw 247)) rfl (hb hby dd26_14)) ?_
 refine oNI X0 hx hby dd26_16 (XT.ii_gt_f (by decide)) ?_
 refine oIN X0 hx hby dd26_19 rfl ?_
 exact own_retI X0 hx hns hrt (hb hby dd26_20) e2 (by decide) (by decide) (⟨rfl, N2, rfl⟩)
theorem own_rm115 (l : Launch) (Z : State) (a0 : Array Value) (hw : own_W a0 Z) (ws : List Jvm.Cond) (i0 i1 i2 : Int32) (m0 : ClassId) (o0 o1 : Nat) (h0 : Heap) (n0 : Nat) (Z0 : n0 ≤ h0.size) (O0 : Old Z n0 h0) (I1 : Fld Z h0 o0 cN3 "value" "[B" (.ref o1)) (I2 : Arv Z h0 o1 m0 .byte 16 [(.int (i0.toInt8.toInt32)), (.int (i1.toInt8.toInt32)), (.int (i2.toInt8.toInt32)), (.int 0), (.int 0), (.int 0), (.int 0), (.int 0), (.int 0), (.int 0), (.int 0), (.int 0), (.int 0), (.int 0), (.int 0), (.int 0)] (.int 0)) (I0 : Fld Z h0 o0 cN3 "coder" "B" (.int 0)) :
 own_Met l Z h0 mN27 B0f 6 (Option.some FieldType.int) ws (own_R 2 0 0 29) #[(.ref o0), (.int 19)] (fun v h L => (v = some (.int 34) ∧ Fr n0 L ∧ h = h0)) 0 0 := own_go own_pn27 fun p e s m below meth c s₁ hns hrt hnm hml hZ hx hby hown X4 e1 => by
 have N0 := Fr.nil n0
 refine own_cast (own_ef13 m o0 19) ?_
 refine oAN X4 hx hby dd25_0 rfl rfl ?_
 refine own_gF X4 hx hZ hown (hw 43) e1 I1 (hb hby dd25_1) fun T3 X2 e0 => ?_
 refine oS (own_len X2 hx hZ e0 I2 rfl rfl (hb hby dd25_4)) ?_
 refine oISN X2 hx hby dd25_5 (l' := #[rv o0, iv 19, iv 16, .unset, .unset, .unset]) rfl ?_
 refine oIN X2 hx hby dd25_6 rfl ?_
 refine oAN X2 hx hby dd25_7 rfl rfl ?_
 refine own_gF X2 hx hZ hown (hw 45) e0 I0 (hb hby dd25_8) fun T0 X0 e2 => ?_
 refine oS (fun _ => XT.ishl X0.here hx rfl (hb hby dd25_11) rfl) ?_
 refine oISN X0 hx hby dd25_12 (l' := #[rv o0, iv 19, iv 16, iv 19, .unset, .unset]) rfl ?_
 refine oIN X0 hx hby dd25_13 rfl ?_
 show own_G p e below (T0.setTop (mkF m 14 #[rv o0, iv 19, iv 16, iv 19, .unset, .unset] [(.int 19)])) _
 refine oIN X0 hx hby dd25_14 rfl ?_
 refine oS (fun _ => XS.isub X0.here hx rfl (hb hby dd25_15) rfl) ?_
 refine oIS X0 hx hby dd25_16 (l' := #[rv o0, iv 19, iv 16, iv 19, iv 3, .unset]) rfl ?_
 refine oIN X0 hx hby dd25_18 rfl ?_
 refine oIL X0 hx hby dd25_19 rfl ?_
 refine oIN X0 hx hby dd25_21 rfl ?_
 refine oIC X0 hx hby dd25_22 ?_
 refine oAN X0 hx hby dd25_23 rfl rfl ?_
 refine own_gF X0 hx hZ hown (hw 45) e2 I0 (hb hby dd25_24) fun T1 X3 e3 => ?_
 refine oS (fun _ => XT.ishl X3.here hx rfl (hb hby dd25_27) rfl) ?_
 show own_G p e below (T1.setTop (mkF m 28 #[rv o0, iv 19, iv 16, iv 19, iv 3, .unset] [(.int 2), (.int 16), (.int 3), (.int 16)])) _
 refine oS (fun _ => XS.iadd X3.here hx rfl (hb hby dd25_28) rfl) ?_
 refine own_cS X3 hx hZ hown e3 (y := mN26) (hw 239) (hw 240) (hw 241) (hw 242) (by decide) (W := 0) (own_rm116 l Z a0 hw []  h0 n0 Z0 O0 ) [(.int 16), (.int 3), (.int 18)] [] hml (lenOf own_pd23 rfl) (hb hby dd25_29) fun T4 h1 v0 L0 X1 e4 q0 => ?_
 obtain ⟨rfl, N1, K0⟩ := q0
 have N2 := Fr.app N0 N1
 have e5 := e4.trans K0
 refine oIS X1 hx hby dd25_32 (l' := #[rv o0, iv 19, iv 16, iv 19, iv 3, iv 34]) rfl ?_
 refine oIL X1 hx hby dd25_34 rfl ?_
 refine oS (fun _ => X1.ldcI hx hown (mvT hZ (hw 248)) rfl (hb hby dd25_36)) ?_
 refine oYI X1 hx hby (pc' := 51) dd25_38 (XT.ii_ne_t (by decide)) ?_
 refine oIL X1 hx hby dd25_51 rfl ?_
 refine oAN X1 hx hby dd25_53 rfl rfl ?_
 refine own_gF X1 hx hZ hown (hw 45) e5 I0 (hb hby dd25_54) fun T2 X5 e6 => ?_
 refine oS (fun _ => XT.ishr X5.here hx rfl (hb hby dd25_57) rfl) ?_
 show own_G p e below (T2.setTop (mkF m 58 #[rv o0, iv 19, iv 16, iv 19, iv 3, iv 34] [(.int 34)])) _
 exact own_retI X5 hx hns hrt (hb hby dd25_58) e6 (by decide) (by decide) (⟨rfl, N2, rfl⟩)
theorem own_rm118 (l : Launch) (Z : State) (a0 : Array Value) (hw : own_W a0 Z) (ws : List Jvm.Cond) (i0 i1 i2 : Int32) (m1 : ClassId) (o1 : Nat) (h0 : Heap) (n0 : Nat) (Z1 : n0 ≤ h0.size) (O0 : Old Z n0 h0) (I0 : Arv Z h0 o1 m1 .byte 16 [(.int (i0.toInt8.toInt32)), (.int (i1.toInt8.toInt32)), (.int (i2.toInt8.toInt32)), (.int 0), (.int 0), (.int 0), (.int 0), (.int 0), (.int 0), (.int 0), (.int 0), (.int 0), (.int 0), (.int 0), (.int 0), (.int 0)] (.int 0)) :
 own_Met l Z h0 mN29 B0i 3 (Option.some (FieldType.array FieldType.byte)) ws (own_R 1 1 34 18) #[(.ref o1), (.int 34)] (fun v h L => (∃ o0 : Nat, ∃ m0 : ClassId, v = some (.ref o0) ∧ Fr n0 L ∧ Keep h0 h [] ∧ h0.size ≤ o0 ∧ Arv Z h o0 m0 .byte 34 [(.int (i0.toInt8.toInt32)), (.int (i1.toInt8.toInt32)), (.int (i2.toInt8.toInt32)), (.int 0), (.int 0), (.int 0), (.int 0), (.int 0), (.int 0), (.int 0), (.int 0), (.int 0), (.int 0), (.int 0), (.int 0), (.int 0), (.int 0), (.int 0), (.int 0), (.int 0), (.int 0), (.int 0), (.int 0), (.int 0), (.int 0), (.int 0), (.int 0), (.int 0), (.int 0), (.int 0), (.int 0), (.int 0), (.int 0), (.int 0)] (.int 0) ∧ Exa Z h o0 "[B" ∧ @LT.lt Nat instLTNat o0 h.size)) 1 34 := own_go own_pn29 fun p e s m below meth c s₁ hns hrt hnm hml hZ hx hby hown X1 e0 => by
 have N0 := Fr.nil n0
 refine own_cast (own_ef6 m o1 34) ?_
 refine oIN X1 hx hby dd28_0 rfl ?_
 refine oAN X1 hx hby dd28_1 rfl rfl ?_
 refine oS (own_len X1 hx hZ e0 I0 rfl rfl (hb hby dd28_2)) ?_
 refine oYI X1 hx hby (pc' := 14) dd28_3 (XT.ii_ne_t (by decide)) ?_
 refine oIN X1 hx hby dd28_14 rfl ?_
 obtain ⟨T0, h1, m0, X0, e1, E0, A0, B0, s0⟩ := own_newP X1 hx hZ (aty := .byte) (hw 15) e0 (nm := "[B") rfl (g := (mkF m 15 #[rv o1, iv 34, .unset] [(.int 34)])) rfl (hb hby dd28_15) (n := 34) (rest := []) rfl (by decide) (cap := 34) (by decide) (by decide) (by decide) (by decide)
 obtain ⟨o0, g0⟩ : ∃ z, z = h0.size := ⟨_, rfl⟩
 rw [← g0] at A0 B0 s0
 have F0 : Arv Z h1 o0 m0 .byte 34 [(.int 0), (.int 0), (.int 0), (.int 0), (.int 0), (.int 0), (.int 0), (.int 0), (.int 0), (.int 0), (.int 0), (.int 0), (.int 0), (.int 0), (.int 0), (.int 0), (.int 0), (.int 0), (.int 0), (.int 0), (.int 0), (.int 0), (.int 0), (.int 0), (.int 0), (.int 0), (.int 0), (.int 0), (.int 0), (.int 0), (.int 0), (.int 0), (.int 0), (.int 0)] (.int 0) := own_newA A0 (by decide) rfl rfl
 have z0 := E0.1
 have y1 : @LT.lt Nat instLTNat o0 h1.size := F0.lt
 refine oS s0 ?_
 refine oASN X0 hx hby dd28_17 rfl (l' := #[rv o1, iv 34, rv o0]) rfl ?_
 refine oAN X0 hx hby dd28_18 rfl rfl ?_
 refine oIC X0 hx hby dd28_19 ?_
 refine oAN X0 hx hby dd28_20 rfl rfl ?_
 show own_G p e below (T0.setTop (mkF m 21 #[rv o1, iv 34, rv o0] [(.ref o0), (.int 0), (.ref o1)])) _
 refine oIC X0 hx hby dd28_21 ?_
 refine oAN X0 hx hby dd28_22 rfl rfl ?_
 have F1 := I0.ext E0
 refine oS (own_len X0 hx hZ e1 F1 rfl rfl (hb hby dd28_23)) ?_
 refine oIN X0 hx hby dd28_24 rfl ?_
 have O1 : Old Z n0 h1 := O0.ext E0
 have Z0 : n0 ≤ h1.size := by omega
 refine own_cS X0 hx hZ hown e1 (y := mN28) (hw 252) (hw 253) (hw 245) (hw 254) (by decide) (W := 4) (own_rm54 l Z a0 hw []  h1 n0 Z0 O1 ) [(.int 16), (.int 34)] [(.int 0), (.ref o0), (.int 0), (.ref o1)] hml (lenOf own_pd22 rfl) (hb hby dd28_25) fun T1 h3 v0 L0 X3 e2 q0 => ?_
 obtain ⟨rfl, N1, K1⟩ := q0
 have N2 := Fr.app N0 N1
 have e3 := e2.trans K1
 have N3 : n0 ≤ o0 := by omega
 obtain ⟨T2, h2, L1, X2, e4, N4, K0, A1, s1⟩ := cpA X3 hx hZ hown (hw 255) (hw 94) (hw 92) (hw 93) e3 F1 F0 (us := [(.int (i0.toInt8.toInt32)), (.int (i1.toInt8.toInt32)), (.int (i2.toInt8.toInt32)), (.int 0), (.int 0), (.int 0), (.int 0), (.int 0), (.int 0), (.int 0), (.int 0), (.int 0), (.int 0), (.int 0), (.int 0), (.int 0)]) (Or.inl ⟨rfl, rfl⟩) (by decide) (by decide) (by decide) (by decide) (by decide) rfl (Nat.le_of_ble_eq_true rfl) N2 N3 (g := (mkF m 28 #[rv o1, iv 34, rv o0] [(.int 16), (.int 0), (.ref o0), (.int 0), (.ref o1)])) rfl (by rw [hml]; rfl) (rest := []) rfl (hb hby dd28_28) (by decide) (W := 0) (by show 2 * 0 + _ ≤ _; exact Nat.le_of_eq rfl) (by decide)
 have z1 := K0.1
 have F2 : Arv Z h2 o0 m0 .byte 34 [(.int (i0.toInt8.toInt32)), (.int (i1.toInt8.toInt32)), (.int (i2.toInt8.toInt32)), (.int 0), (.int 0), (.int 0), (.int 0), (.int 0), (.int 0), (.int 0), (.int 0), (.int 0), (.int 0), (.int 0), (.int 0), (.int 0), (.int 0), (.int 0), (.int 0), (.int 0), (.int 0), (.int 0), (.int 0), (.int 0), (.int 0), (.int 0), (.int 0), (.int 0), (.int 0), (.int 0), (.int 0), (.int 0), (.int 0), (.int 0)] (.int 0) := A1
 refine oS s1 ?_
 refine oAN X2 hx hby dd28_31 rfl rfl ?_
 have F3 := B0.keep K0
 have y0 : @LT.lt Nat instLTNat o0 h2.size := by omega
 have K2 : Keep h0 h2 [] := (((Keep.refl h0 []).ext E0).trans K0 (allS (Or.inr (by omega)) all0))
 exact own_retA X2 hx hns hrt rfl rfl (hb hby dd28_32) e4 (by decide) (by decide) (⟨o0, m0, rfl, N4, K2, (by omega), F2, F3, y0⟩)
theorem own_rm114 (l : Launch) (Z : State) (a0 : Array Value) (hw : own_W a0 Z) (ws : List Jvm.Cond) (i0 i1 i2 : Int32) (m0 : ClassId) (o0 o2 : Nat) (h0 : Heap) (n0 : Nat) (Z0 : n0 ≤ h0.size) (O0 : Old Z n0 h0) (I0 : Fld Z h0 o0 cN3 "value" "[B" (.ref o2)) (I2 : Arv Z h0 o2 m0 .byte 16 [(.int (i0.toInt8.toInt32)), (.int (i1.toInt8.toInt32)), (.int (i2.toInt8.toInt32)), (.int 0), (.int 0), (.int 0), (.int 0), (.int 0), (.int 0), (.int 0), (.int 0), (.int 0), (.int 0), (.int 0), (.int 0), (.int 0)] (.int 0)) (I1 : Fld Z h0 o0 cN3 "coder" "B" (.int 0)) (I3 : Exa Z h0 o0 cN4) (I4 : n0 ≤ o0) (I5 : Fld Z h0 o0 cN3 "count" "I" (.int 3)) (I6 : @LT.lt Nat instLTNat o0 h0.size) :
 own_Met l Z h0 mN6 B9 3 (Option.none : Option FieldType) ws (own_R 3 1 34 48) #[(.ref o0), (.int 19)] (fun v h L => (∃ o1 : Nat, ∃ m1 : ClassId, v = none ∧ Fr n0 L ∧ Keep h0 h [o0] ∧ h0.size ≤ o1 ∧ Fld Z h o0 cN3 "value" "[B" (.ref o1) ∧ Exa Z h o0 cN4 ∧ Fld Z h o0 cN3 "coder" "B" (.int 0) ∧ Fld Z h o0 cN3 "count" "I" (.int 3) ∧ Arv Z h o1 m1 .byte 34 [(.int (i0.toInt8.toInt32)), (.int (i1.toInt8.toInt32)), (.int (i2.toInt8.toInt32)), (.int 0), (.int 0), (.int 0), (.int 0), (.int 0), (.int 0), (.int 0), (.int 0), (.int 0), (.int 0), (.int 0), (.int 0), (.int 0), (.int 0), (.int 0), (.int 0), (.int 0), (.int 0), (.int 0), (.int 0), (.int 0), (.int 0), (.int 0), (.int 0), (.int 0), (.int 0), (.int 0), (.int 0), (.int 0), (.int 0), (.int 0)] (.int 0) ∧ Exa Z h o1 "[B" ∧ @LT.lt Nat instLTNat o1 h.size)) 1 34 := own_go own_pn6 fun p e s m below meth c s₁ hns hrt hnm hml hZ hx hby hown X3 e1 => by
 have N0 := Fr.nil n0
 refine own_cast (own_ef6 m o0 19) ?_
 refine oAN X3 hx hby dd9_0 rfl rfl ?_
 refine own_gF X3 hx hZ hown (hw 43) e1 I0 (hb hby dd9_1) fun T2 X1 e0 => ?_
 refine oS (own_len X1 hx hZ e0 I2 rfl rfl (hb hby dd9_4)) ?_
 refine oAN X1 hx hby dd9_5 rfl rfl ?_
 refine own_gF X1 hx hZ hown (hw 45) e0 I1 (hb hby dd9_6) fun T0 X0 e2 => ?_
 refine oS (fun _ => XT.ishr X0.here hx rfl (hb hby dd9_9) rfl) ?_
 refine oISN X0 hx hby dd9_10 (l' := #[rv o0, iv 19, iv 16]) rfl ?_
 refine oIN X0 hx hby dd9_11 rfl ?_
 refine oIN X0 hx hby dd9_12 rfl ?_
 refine oS (fun _ => XS.isub X0.here hx rfl (hb hby dd9_13) rfl) ?_
 show own_G p e below (T0.setTop (mkF m 14 #[rv o0, iv 19, iv 16] [(.int 3)])) _
 refine oN0 X0 hx hby dd9_14 (XT.i0_le_f (by decide)) ?_
 refine oAN X0 hx hby dd9_17 rfl rfl ?_
 refine oAN X0 hx hby dd9_18 rfl rfl ?_
 refine own_gF X0 hx hZ hown (hw 43) e2 I0 (hb hby dd9_19) fun T3 X2 e3 => ?_
 refine oAN X2 hx hby dd9_22 rfl rfl ?_
 refine oIN X2 hx hby dd9_23 rfl ?_
 refine own_cP X2 hx hZ hown e3 (y := mN27) (b := o0) (hw 234) (hw 235) (own_selP (hw 235) (hw 236) (hw 73) rfl (by decide)) (hw 236) (hw 39) (hw 238) (by decide) I3 (W := 2) (own_rm115 l Z a0 hw [] i0 i1 i2 m0 o0 o2 h0 n0 Z0 O0 I0 I2 I1) [(.int 19)] [(.ref o2), (.ref o0)] hml (lenOf own_pd24 rfl) (hb hby dd9_24) fun T4 h2 v0 L0 X4 e4 q0 => ?_
 obtain ⟨rfl, N1, K1⟩ := q0
 have N2 := Fr.app N0 N1
 have e5 := e4.trans K1
 refine oAN X4 hx hby dd9_27 rfl rfl ?_
 refine own_gF X4 hx hZ hown (hw 45) e5 I1 (hb hby dd9_28) fun T1 X5 e6 => ?_
 refine oS (fun _ => XT.ishl X5.here hx rfl (hb hby dd9_31) rfl) ?_
 show own_G p e below (T1.setTop (mkF m 32 #[rv o0, iv 19, iv 16] [(.int 34), (.ref o2), (.ref o0)])) _
 refine own_cS X5 hx hZ hown e6 (y := mN29) (hw 249) (hw 250) (hw 128) (hw 251) (by decide) (W := 1) (own_rm118 l Z a0 hw [] i0 i1 i2 m0 o2 h0 n0 Z0 O0 I2) [(.ref o2), (.int 34)] [(.ref o0)] hml (lenOf own_pd25 rfl) (hb hby dd9_32) fun T5 h3 v1 L1 X7 e7 q1 => ?_
 obtain ⟨o1, m1, rfl, N3, K0, F00, F2, F3, F01⟩ := q1
 have N4 := Fr.app N2 N3
 have z0 := K0.1
 have F0 := I0.keep K0 nin0
 have F1 := I3.keep K0
 refine own_pF X7 hx hZ hown (hw 43) e7 F0 F1 (Or.inl (hw 44)) (hw 30) (ty := (.array .byte)) rfl rfl (hb hby dd9_35) fun T6 h1 X6 e8 W0 => ?_
 have N5 := Fr.snoc X6 N4 I4
 have z1 := W0.size
 have F4 := Fld.same W0 F0
 have F5 := Exa.wr W0 F1
 have F6 := Fld.other W0 (I1.keep K0 nin0) (Or.inr (slot_ne (C := cN4) (Or.inl (hw 46)) (Or.inl (hw 44)) (by decide) (t := .byte) (t' := (.array .byte)) (by decide) (by decide)))
 have F7 := Fld.other W0 (I5.keep K0 nin0) (Or.inr (slot_ne (C := cN4) (Or.inl (hw 69)) (Or.inl (hw 44)) (by decide) (t := .int) (t' := (.array .byte)) (by decide) (by decide)))
 have N6 : @Ne Nat o1 o0 := by omega
 have F8 := F2.other W0 N6
 have F9 := Exa.wr W0 F3
 have y0 : @LT.lt Nat instLTNat o1 h1.size := by omega
 have K2 : Keep h0 h1 [o0] := (((Keep.refl h0 [o0]).trans K0 all0).wr W0 (Or.inl (by simp)))
 exact own_retV X6 hx hns hrt (hb hby dd9_38) e8 (by decide) (by decide) (⟨o1, m1, rfl, N5, K2, (by omega), F4, F5, F6, F7, F8, F9, y0⟩)
theorem own_rm120 (l : Launch) (Z : State) (a0 : Array Value) (hw : own_W a0 Z) (ws : List Jvm.Cond) (i0 i1 i2 i3 : Int32) (m1 m0 : ClassId) (o1 o0 o2 : Nat) (h0 : Heap) (n0 : Nat) (Z0 : n0 ≤ h0.size) (O0 : Old Z n0 h0) (I2 : Sta Z Z.heap cN2 "COMPACT_STRINGS" "Z" (.int i0)) (I3 : ¬ (i0 = 0)) (I4 : Fld Z h0 o1 cN2 "coder" "B" (.int 0)) (I5 : Exa Z h0 o1 cN2) (I0 : Fld Z h0 o1 cN2 "value" "[B" (.ref o2)) (I1 : Arv Z h0 o2 m1 .byte 16 [(.int 58), (.int 32), (.int 110), (.int 111), (.int 116), (.int 32), (.int 85), (.int 84), (.int 70), (.int 45), (.int 56), (.int 32), (.int 116), (.int 101), (.int 120), (.int 116)] (.int 0)) (I6 : Arv Z h0 o0 m0 .byte 34 [(.int (i1.toInt8.toInt32)), (.int (i2.toInt8.toInt32)), (.int (i3.toInt8.toInt32)), (.int 0), (.int 0), (.int 0), (.int 0), (.int 0), (.int 0), (.int 0), (.int 0), (.int 0), (.int 0), (.int 0), (.int 0), (.int 0), (.int 0), (.int 0), (.int 0), (.int 0), (.int 0), (.int 0), (.int 0), (.int 0), (.int 0), (.int 0), (.int 0), (.int 0), (.int 0), (.int 0), (.int 0), (.int 0), (.int 0), (.int 0)] (.int 0)) (I7 : n0 ≤ o0) (I8 : Exa Z h0 o0 "[B") :
 own_Met l Z h0 mN8 B02 4 (Option.none : Option FieldType) ws (own_R 1 0 0 18) #[(.ref o1), (.ref o0), (.int 3), (.int 0)] (fun v h L => (v = none ∧ Fr n0 L ∧ Keep h0 h [o0] ∧ Arv Z h o0 m0 .byte 34 [(.int (i1.toInt8.toInt32)), (.int (i2.toInt8.toInt32)), (.int (i3.toInt8.toInt32)), (.int 58), (.int 32), (.int 110), (.int 111), (.int 116), (.int 32), (.int 85), (.int 84), (.int 70), (.int 45), (.int 56), (.int 32), (.int 116), (.int 101), (.int 120), (.int 116), (.int 0), (.int 0), (.int 0), (.int 0), (.int 0), (.int 0), (.int 0), (.int 0), (.int 0), (.int 0), (.int 0), (.int 0), (.int 0), (.int 0), (.int 0)] (.int 0) ∧ Exa Z h o0 "[B")) 0 0 := own_go own_pn8 fun p e s m below meth c s₁ hns hrt hnm hml hZ hx hby hown X2 e1 => by
 have N0 := Fr.nil n0
 refine own_cast (own_ef8 m o1 o0 3 0) ?_
 refine oAN X2 hx hby dd12_0 rfl rfl ?_
 refine own_cV X2 hx hZ hown e1 (y := mN4) (z := mN4) (b := o1) (hw 62) (hw 63) (notFace_of_selects (args := #[]) (mvT hZ (hw 65))) (hw 65) (hw 64) (hw 3) (hw 66) (by decide) I5 (W := 0) (own_rm13 l Z a0 hw [] i0 o1 h0 n0 Z0 O0 I2 I3 I4) [] [] hml (lenOf own_pd4 rfl) (hb hby dd12_1) fun T1 h2 v0 L0 X1 e2 q0 => ?_
 obtain ⟨rfl, N1, K1⟩ := q0
 have N2 := Fr.app N0 N1
 have e3 := e2.trans K1
 refine oIN X1 hx hby dd12_4 rfl ?_
 refine oNI X1 hx hby dd12_5 (XT.ii_ne_f (by decide)) ?_
 refine oAN X1 hx hby dd12_8 rfl rfl ?_
 refine own_gF X1 hx hZ hown (hw 20) e3 I0 (hb hby dd12_9) fun T0 X0 e4 => ?_
 refine oIC X0 hx hby dd12_12 ?_
 refine oAN X0 hx hby dd12_13 rfl rfl ?_
 refine oIN X0 hx hby dd12_14 rfl ?_
 refine oIN X0 hx hby dd12_15 rfl ?_
 show own_G p e below (T0.setTop (mkF m 16 #[rv o1, rv o0, iv 3, iv 0] [(.int 0), (.int 3), (.ref o0), (.int 0), (.ref o2)])) _
 refine oS (fun _ => XT.ishl X0.here hx rfl (hb hby dd12_16) rfl) ?_
 refine oAN X0 hx hby dd12_17 rfl rfl ?_
 refine own_gF X0 hx hZ hown (hw 20) e4 I0 (hb hby dd12_18) fun T2 X3 e0 => ?_
 refine oS (own_len X3 hx hZ e0 I1 rfl rfl (hb hby dd12_21)) ?_
 obtain ⟨T3, h1, L1, X4, e5, N3, K0, A0, s0⟩ := cpA X3 hx hZ hown (hw 91) (hw 94) (hw 92) (hw 93) e0 I1 I6 (us := [(.int 58), (.int 32), (.int 110), (.int 111), (.int 116), (.int 32), (.int 85), (.int 84), (.int 70), (.int 45), (.int 56), (.int 32), (.int 116), (.int 101), (.int 120), (.int 116)]) (Or.inl ⟨rfl, rfl⟩) (by decide) (by decide) (by decide) (by decide) (by decide) rfl (Nat.le_of_ble_eq_true rfl) N2 I7 (g := (mkF m 22 #[rv o1, rv o0, iv 3, iv 0] [(.int 16), (.int 3), (.ref o0), (.int 0), (.ref o2)])) rfl (by rw [hml]; rfl) (rest := []) rfl (hb hby dd12_22) (by decide) (W := 0) (by show 2 * 0 + _ ≤ _; exact Nat.le_of_eq rfl) (by decide)
 have z0 := K0.1
 have F0 : Arv Z h1 o0 m0 .byte 34 [(.int (i1.toInt8.toInt32)), (.int (i2.toInt8.toInt32)), (.int (i3.toInt8.toInt32)), (.int 58), (.int 32), (.int 110), (.int 111), (.int 116), (.int 32), (.int 85), (.int 84), (.int 70), (.int 45), (.int 56), (.int 32), (.int 116), (.int 101), (.int 120), (.int 116), (.int 0), (.int 0), (.int 0), (.int 0), (.int 0), (.int 0), (.int 0), (.int 0), (.int 0), (.int 0), (.int 0), (.int 0), (.int 0), (.int 0), (.int 0)] (.int 0) := A0
 refine oS s0 ?_
 refine oGO X4 hx hby (pc' := 43) dd12_25 ?_
 have F1 := I8.keep K0
 have K2 : Keep h0 h1 [o0] := ((Keep.refl h0 [o0]).trans K0 (allS (Or.inl (by simp)) all0))
 exact own_retV X4 hx hns hrt (hb hby dd12_43) e5 (by decide) (by decide) (⟨rfl, N3, K2, F0, F1⟩)
theorem own_rm119 (l : Launch) (Z : State) (a0 : Array Value) (hw : own_W a0 Z) (ws : List Jvm.Cond) (i0 i1 i2 i3 : Int32) (m1 m0 : ClassId) (o2 o1 o0 o3 : Nat) (h0 : Heap) (n0 : Nat) (Z0 : n0 ≤ h0.size) (O0 : Old Z n0 h0) (I1 : Sta Z Z.heap cN2 "COMPACT_STRINGS" "Z" (.int i0)) (I2 : ¬ (i0 = 0)) (I3 : Fld Z h0 o2 cN3 "coder" "B" (.int 0)) (I4 : Fld Z h0 o1 cN2 "coder" "B" (.int 0)) (I0 : Exa Z h0 o1 cN2) (I5 : Exa Z h0 o2 cN4) (I6 : Fld Z h0 o2 cN3 "value" "[B" (.ref o0)) (I7 : Fld Z h0 o1 cN2 "value" "[B" (.ref o3)) (I8 : Arv Z h0 o3 m1 .byte 16 [(.int 58), (.int 32), (.int 110), (.int 111), (.int 116), (.int 32), (.int 85), (.int 84), (.int 70), (.int 45), (.int 56), (.int 32), (.int 116), (.int 101), (.int 120), (.int 116)] (.int 0)) (I9 : Arv Z h0 o0 m0 .byte 34 [(.int (i1.toInt8.toInt32)), (.int (i2.toInt8.toInt32)), (.int (i3.toInt8.toInt32)), (.int 0), (.int 0), (.int 0), (.int 0), (.int 0), (.int 0), (.int 0), (.int 0), (.int 0), (.int 0), (.int 0), (.int 0), (.int 0), (.int 0), (.int 0), (.int 0), (.int 0), (.int 0), (.int 0), (.int 0), (.int 0), (.int 0), (.int 0), (.int 0), (.int 0), (.int 0), (.int 0), (.int 0), (.int 0), (.int 0), (.int 0)] (.int 0)) (I00 : n0 ≤ o0) (I01 : Exa Z h0 o0 "[B") :
 own_Met l Z h0 mN9 B00 3 (Option.none : Option FieldType) ws (own_R 2 0 0 33) #[(.ref o2), (.int 3), (.ref o1)] (fun v h L => (v = none ∧ Fr n0 L ∧ Keep h0 h [o0] ∧ Arv Z h o0 m0 .byte 34 [(.int (i1.toInt8.toInt32)), (.int (i2.toInt8.toInt32)), (.int (i3.toInt8.toInt32)), (.int 58), (.int 32), (.int 110), (.int 111), (.int 116), (.int 32), (.int 85), (.int 84), (.int 70), (.int 45), (.int 56), (.int 32), (.int 116), (.int 101), (.int 120), (.int 116), (.int 0), (.int 0), (.int 0), (.int 0), (.int 0), (.int 0), (.int 0), (.int 0), (.int 0), (.int 0), (.int 0), (.int 0), (.int 0), (.int 0), (.int 0)] (.int 0) ∧ Exa Z h o0 "[B")) 0 0 := own_go own_pn9 fun p e s m below meth c s₁ hns hrt hnm hml hZ hx hby hown X0 e0 => by
 have N0 := Fr.nil n0
 refine own_cast (own_ef7 m o2 3 o1) ?_
 refine oAN X0 hx hby dd10_0 rfl rfl ?_
 refine oAN X0 hx hby dd10_1 rfl rfl ?_
 refine own_cP X0 hx hZ hown e0 (y := mN7) (b := o2) (hw 80) (hw 81) (own_selP (hw 81) (hw 82) (hw 73) rfl (by decide)) (hw 82) (hw 39) (hw 84) (by decide) I5 (W := 0) (own_rm16 l Z a0 hw [] i0 o2 o1 h0 n0 Z0 O0 I1 I2 I3 I4 I0) [(.ref o1)] [] hml (lenOf own_pd6 rfl) (hb hby dd10_2) fun T1 h2 v0 L0 X1 e1 q0 => ?_
 obtain ⟨rfl, N1, K1⟩ := q0
 have N2 := Fr.app N0 N1
 have e2 := e1.trans K1
 refine oAN X1 hx hby dd10_5 rfl rfl ?_
 refine oAN X1 hx hby dd10_6 rfl rfl ?_
 refine own_gF X1 hx hZ hown (hw 43) e2 I6 (hb hby dd10_7) fun T2 X2 e3 => ?_
 refine oIN X2 hx hby dd10_10 rfl ?_
 refine oAN X2 hx hby dd10_11 rfl rfl ?_
 refine own_gF X2 hx hZ hown (hw 45) e3 I3 (hb hby dd10_12) fun T3 X3 e4 => ?_
 refine own_cV X3 hx hZ hown e4 (y := mN8) (z := mN8) (b := o1) (hw 86) (hw 87) (notFace_of_selects (args := #[]) (mvT hZ (hw 89))) (hw 89) (hw 88) (hw 3) (hw 90) (by decide) I0 (W := 0) (own_rm120 l Z a0 hw [] i0 i1 i2 i3 m1 m0 o1 o0 o3 h0 n0 Z0 O0 I1 I2 I4 I0 I7 I8 I9 I00 I01) [(.ref o0), (.int 3), (.int 0)] [] hml (lenOf own_pd7 rfl) (hb hby dd10_15) fun T0 h1 v1 L1 X4 e5 q1 => ?_
 obtain ⟨rfl, N3, K0, F0, F1⟩ := q1
 have N4 := Fr.app N2 N3
 have z0 := K0.1
 show own_G p e below (T0.setTop (mkF m 18 #[rv o2, iv 3, rv o1] [])) _
 have K2 : Keep h0 h1 [o0] := ((Keep.refl h0 [o0]).trans K0 (allS (Or.inl (by simp)) all0))
 exact own_retV X4 hx hns hrt (hb hby dd10_18) e5 (by decide) (by decide) (⟨rfl, N4, K2, F0, F1⟩)
theorem own_rm113 (l : Launch) (Z : State) (a0 : Array Value) (hw : own_W a0 Z) (ws : List Jvm.Cond) (i0 i1 i2 i3 : Int32) (m1 m2 : ClassId) (o0 o1 o3 o4 : Nat) (h0 : Heap) (n0 : Nat) (Z0 : n0 ≤ h0.size) (O0 : Old Z n0 h0) (I2 : Fld Z h0 o1 cN2 "value" "[B" (.ref o3)) (I3 : Arv Z h0 o3 m1 .byte 16 [(.int 58), (.int 32), (.int 110), (.int 111), (.int 116), (.int 32), (.int 85), (.int 84), (.int 70), (.int 45), (.int 56), (.int 32), (.int 116), (.int 101), (.int 120), (.int 116)] (.int 0)) (I4 : Sta Z Z.heap cN2 "COMPACT_STRINGS" "Z" (.int i0)) (I5 : ¬ (i0 = 0)) (I6 : Fld Z h0 o1 cN2 "coder" "B" (.int 0)) (I0 : Exa Z h0 o1 cN2) (I7 : Fld Z h0 o0 cN3 "count" "I" (.int 3)) (I00 : Fld Z h0 o0 cN3 "value" "[B" (.ref o4)) (I01 : Arv Z h0 o4 m2 .byte 16 [(.int (i1.toInt8.toInt32)), (.int (i2.toInt8.toInt32)), (.int (i3.toInt8.toInt32)), (.int 0), (.int 0), (.int 0), (.int 0), (.int 0), (.int 0), (.int 0), (.int 0), (.int 0), (.int 0), (.int 0), (.int 0), (.int 0)] (.int 0)) (I02 : Fld Z h0 o0 cN3 "coder" "B" (.int 0)) (I8 : Exa Z h0 o0 cN4) (I1 : n0 ≤ o0) (I04 : @LT.lt Nat instLTNat o0 h0.size) (I9 : @Ne Nat o1 o0) (I03 : @Ne Nat o3 o0) :
 own_Met l Z h0 mN10 B6 3 (Option.some (FieldType.object cN3)) ws (own_R 4 1 34 62) #[(.ref o0), (.ref o1)] (fun v h L => (∃ o2 : Nat, ∃ m0 : ClassId, v = some (.ref o0) ∧ Fr n0 L ∧ Keep h0 h [o0] ∧ h0.size ≤ o2 ∧ Fld Z h o0 cN3 "value" "[B" (.ref o2) ∧ Exa Z h o0 cN4 ∧ Fld Z h o0 cN3 "coder" "B" (.int 0) ∧ Fld Z h o0 cN3 "count" "I" (.int 19) ∧ Arv Z h o2 m0 .byte 34 [(.int (i1.toInt8.toInt32)), (.int (i2.toInt8.toInt32)), (.int (i3.toInt8.toInt32)), (.int 58), (.int 32), (.int 110), (.int 111), (.int 116), (.int 32), (.int 85), (.int 84), (.int 70), (.int 45), (.int 56), (.int 32), (.int 116), (.int 101), (.int 120), (.int 116), (.int 0), (.int 0), (.int 0), (.int 0), (.int 0), (.int 0), (.int 0), (.int 0), (.int 0), (.int 0), (.int 0), (.int 0), (.int 0), (.int 0), (.int 0)] (.int 0) ∧ Exa Z h o2 "[B" ∧ @LT.lt Nat instLTNat o2 h.size)) 1 34 := own_go own_pn10 fun p e s m below meth c s₁ hns hrt hnm hml hZ hx hby hown X0 e0 => by
 have N1 := Fr.nil n0
 refine own_cast (own_ef5 m o0 o1) ?_
 refine oAN X0 hx hby dd6_0 rfl rfl ?_
 refine oS (fun _ => XT.ifnonnullYes X0.here hx rfl (pc0 := 1) (pc' := 9) rfl (hb hby dd6_1) rfl (by decide) (by decide)) ?_
 refine oAN X0 hx hby dd6_9 rfl rfl ?_
 refine own_cV X0 hx hZ hown e0 (y := mN5) (z := mN5) (b := o1) (hw 57) (hw 58) (notFace_of_selects (args := #[]) (mvT hZ (hw 60))) (hw 60) (hw 59) (hw 3) (hw 61) (by decide) I0 (W := 0) (own_rm21 l Z a0 hw [] i0 m1 o1 o3 h0 n0 Z0 O0 I2 I3 I4 I5 I6 I0) [] [] hml (lenOf own_pd5 rfl) (hb hby dd6_10) fun T2 h3 v0 L0 X1 e1 q0 => ?_
 obtain ⟨rfl, N2, K2⟩ := q0
 have N3 := Fr.app N1 N2
 have e2 := e1.trans K2
 refine oISN X1 hx hby dd6_13 (l' := #[rv o0, rv o1, iv 16]) rfl ?_
 refine oAN X1 hx hby dd6_14 rfl rfl ?_
 refine oAN X1 hx hby dd6_15 rfl rfl ?_
 refine own_gF X1 hx hZ hown (hw 68) e2 I7 (hb hby dd6_16) fun T0 X2 e3 => ?_
 refine oIN X2 hx hby dd6_19 rfl ?_
 refine oS (fun _ => XS.iadd X2.here hx rfl (hb hby dd6_20) rfl) ?_
 show own_G p e below (T0.setTop (mkF m 21 #[rv o0, rv o1, iv 16] [(.int 19), (.ref o0)])) _
 have y0 : @LT.lt Nat instLTNat o0 h0.size := by omega
 refine own_cP X2 hx hZ hown e3 (y := mN6) (b := o0) (hw 70) (hw 71) (own_selP (hw 71) (hw 72) (hw 73) rfl (by decide)) (hw 72) (hw 39) (hw 74) (by decide) I8 (W := 0) (own_rm114 l Z a0 hw [] i1 i2 i3 m2 o0 o4 h0 n0 Z0 O0 I00 I01 I02 I8 I1 I7 y0) [(.int 19)] [] hml (lenOf own_pd2 rfl) (hb hby dd6_21) fun T3 h1 v1 L1 X3 e4 q1 => ?_
 obtain ⟨o2, m0, rfl, N4, K0, F0a, F2, F0, F3, F4, F6, F7, F0b⟩ := q1
 have N5 := Fr.app N3 N4
 have z0 := K0.1
 refine oAN X3 hx hby dd6_24 rfl rfl ?_
 refine oAN X3 hx hby dd6_25 rfl rfl ?_
 refine own_gF X3 hx hZ hown (hw 68) e4 F4 (hb hby dd6_26) fun T4 X7 e5 => ?_
 refine oAN X7 hx hby dd6_29 rfl rfl ?_
 have F8 := I6.keep K0 (ninS I9 nin0)
 have F9 := I0.keep K0
 have F00 := I2.keep K0 (ninS I9 nin0)
 have F01 := I3.keep K0 (ninS I03 nin0)
 have N6 : n0 ≤ o2 := by omega
 have O1 : Old Z n0 h1 := O0.keep K0 (allS I1 all0)
 have Z1 : n0 ≤ h1.size := by omega
 refine own_cP X7 hx hZ hown e5 (y := mN9) (b := o0) (hw 75) (hw 76) (own_selP (hw 76) (hw 77) (hw 73) rfl (by decide)) (hw 77) (hw 39) (hw 79) (by decide) F0 (W := 0) (own_rm119 l Z a0 hw [] i0 i1 i2 i3 m1 m0 o0 o1 o2 o3 h1 n0 Z1 O1 I4 I5 F3 F8 F9 F0 F2 F00 F01 F6 N6 F7) [(.int 3), (.ref o1)] [] hml (lenOf own_pd8 rfl) (hb hby dd6_30) fun T5 h4 v2 L2 X4 e6 q2 => ?_
 obtain ⟨rfl, N7, K1, F02, F03⟩ := q2
 have N8 := Fr.app N5 N7
 have z1 := K1.1
 refine oAN X4 hx hby dd6_33 rfl rfl ?_
 refine oS (fun _ => XS.dup X4.here hx rfl (hb hby dd6_34) rfl rfl) ?_
 have N0 : @Ne Nat o0 o2 := by omega
 have F1 := F4.keep K1 (ninS N0 nin0)
 refine own_gF X4 hx hZ hown (hw 68) e6 F1 (hb hby dd6_35) fun T1 X5 e7 => ?_
 refine oIN X5 hx hby dd6_38 rfl ?_
 show own_G p e below (T1.setTop (mkF m 39 #[rv o0, rv o1, iv 16] [(.int 16), (.int 3), (.ref o0)])) _
 refine oS (fun _ => XS.iadd X5.here hx rfl (hb hby dd6_39) rfl) ?_
 have F5 := F0.keep K1
 refine own_pF X5 hx hZ hown (hw 68) e7 F1 F5 (Or.inl (hw 69)) (hw 30) (ty := .int) rfl rfl (hb hby dd6_40) fun T6 h2 X6 e8 W0 => ?_
 have N9 := Fr.snoc X6 N8 I1
 have z2 := W0.size
 have F04 := Fld.same W0 F1
 refine oAN X6 hx hby dd6_43 rfl rfl ?_
 have F05 := Fld.other W0 (F2.keep K1 (ninS N0 nin0)) (Or.inr (slot_ne (C := cN4) (Or.inl (hw 44)) (Or.inl (hw 69)) (by decide) (t := (.array .byte)) (t' := .int) (by decide) (by decide)))
 have F06 := Exa.wr W0 F5
 have F07 := Fld.other W0 (F3.keep K1 (ninS N0 nin0)) (Or.inr (slot_ne (C := cN4) (Or.inl (hw 46)) (Or.inl (hw 69)) (by decide) (t := .byte) (t' := .int) (by decide) (by decide)))
 have F08 := F02.other W0 (Ne.symm N0)
 have F09 := Exa.wr W0 F03
 have y1 : @LT.lt Nat instLTNat o2 h2.size := by omega
 have K3 : Keep h0 h2 [o0] := ((((Keep.refl h0 [o0]).trans K0 (allS (Or.inl (by simp)) all0)).trans K1 (allS (Or.inr (by omega)) all0)).wr W0 (Or.inl (by simp)))
 exact own_retA X6 hx hns hrt rfl rfl (hb hby dd6_44) e8 (by decide) (by decide) (⟨o2, m0, rfl, N9, K3, (by omega), F05, F06, F07, F04, F08, F09, y1⟩)
theorem own_rm112 (l : Launch) (Z : State) (a0 : Array Value) (hw : own_W a0 Z) (ws : List Jvm.Cond) (i0 i1 i2 i3 : Int32) (m1 m2 : ClassId) (o0 o1 o3 o4 : Nat) (h0 : Heap) (n0 : Nat) (Z0 : n0 ≤ h0.size) (O0 : Old Z n0 h0) (I1 : Fld Z h0 o1 cN2 "value" "[B" (.ref o3)) (I2 : Arv Z h0 o3 m1 .byte 16 [(.int 58), (.int 32), (.int 110), (.int 111), (.int 116), (.int 32), (.int 85), (.int 84), (.int 70), (.int 45), (.int 56), (.int 32), (.int 116), (.int 101), (.int 120), (.int 116)] (.int 0)) (I3 : Sta Z Z.heap cN2 "COMPACT_STRINGS" "Z" (.int i0)) (I4 : ¬ (i0 = 0)) (I5 : Fld Z h0 o1 cN2 "coder" "B" (.int 0)) (I6 : Exa Z h0 o1 cN2) (I7 : Fld Z h0 o0 cN3 "count" "I" (.int 3)) (I8 : Fld Z h0 o0 cN3 "value" "[B" (.ref o4)) (I9 : Arv Z h0 o4 m2 .byte 16 [(.int (i1.toInt8.toInt32)), (.int (i2.toInt8.toInt32)), (.int (i3.toInt8.toInt32)), (.int 0), (.int 0), (.int 0), (.int 0), (.int 0), (.int 0), (.int 0), (.int 0), (.int 0), (.int 0), (.int 0), (.int 0), (.int 0)] (.int 0)) (I00 : Fld Z h0 o0 cN3 "coder" "B" (.int 0)) (I0 : Exa Z h0 o0 cN4) (I01 : n0 ≤ o0) (I04 : @LT.lt Nat instLTNat o0 h0.size) (I02 : @Ne Nat o1 o0) (I03 : @Ne Nat o3 o0) :
 own_Met l Z h0 mN11 B5 2 (Option.some (FieldType.object cN4)) ws (own_R 5 1 34 76) #[(.ref o0), (.ref o1)] (fun v h L => (∃ o2 : Nat, ∃ m0 : ClassId, v = some (.ref o0) ∧ Fr n0 L ∧ Keep h0 h [o0] ∧ h0.size ≤ o2 ∧ Fld Z h o0 cN3 "value" "[B" (.ref o2) ∧ Exa Z h o0 cN4 ∧ Fld Z h o0 cN3 "coder" "B" (.int 0) ∧ Fld Z h o0 cN3 "count" "I" (.int 19) ∧ Arv Z h o2 m0 .byte 34 [(.int (i1.toInt8.toInt32)), (.int (i2.toInt8.toInt32)), (.int (i3.toInt8.toInt32)), (.int 58), (.int 32), (.int 110), (.int 111), (.int 116), (.int 32), (.int 85), (.int 84), (.int 70), (.int 45), (.int 56), (.int 32), (.int 116), (.int 101), (.int 120), (.int 116), (.int 0), (.int 0), (.int 0), (.int 0), (.int 0), (.int 0), (.int 0), (.int 0), (.int 0), (.int 0), (.int 0), (.int 0), (.int 0), (.int 0), (.int 0)] (.int 0) ∧ Exa Z h o2 "[B" ∧ @LT.lt Nat instLTNat o2 h.size)) 1 34 := own_go own_pn11 fun p e s m below meth c s₁ hns hrt hnm hml hZ hx hby hown X0 e0 => by
 have N0 := Fr.nil n0
 refine own_cast (own_ef1 m o0 o1) ?_
 refine oAN X0 hx hby dd5_0 rfl rfl ?_
 refine oAN X0 hx hby dd5_1 rfl rfl ?_
 have y0 : @LT.lt Nat instLTNat o0 h0.size := by omega
 refine own_cX X0 hx hZ hown e0 (y := mN10) (b := o0) (hw 52) (hw 55) (own_nf (hw 73) rfl) (hw 53) (hw 54) (by decide) (hw 39) (hw 56) (by decide) I0 (W := 0) (own_rm113 l Z a0 hw [] i0 i1 i2 i3 m1 m2 o0 o1 o3 o4 h0 n0 Z0 O0 I1 I2 I3 I4 I5 I6 I7 I8 I9 I00 I0 I01 y0 I02 I03) [(.ref o1)] [] hml (lenOf own_pd9 rfl) (hb hby dd5_2) fun T0 h1 v0 L0 X1 e1 q0 => ?_
 obtain ⟨o2, m0, rfl, N1, K0, F6, F0, F1, F2, F3, F4, F5, F7⟩ := q0
 have N2 := Fr.app N0 N1
 have z0 := K0.1
 refine oS (fun _ => XT.pop X1.here hx rfl (hb hby dd5_5) rfl rfl) ?_
 refine oAN X1 hx hby dd5_6 rfl rfl ?_
 have y1 : @LT.lt Nat instLTNat o2 h1.size := by omega
 have K1 : Keep h0 h1 [o0] := ((Keep.refl h0 [o0]).trans K0 (allS (Or.inl (by simp)) all0))
 exact own_retA X1 hx hns hrt rfl rfl (hb hby dd5_7) e1 (by decide) (by decide) (⟨o2, m0, rfl, N2, K1, (by omega), F0, F1, F2, F3, F4, F5, y1⟩)
theorem own_rm125 (l : Launch) (Z : State) (a0 : Array Value) (hw : own_W a0 Z) (ws : List Jvm.Cond) (o0 : Nat) (h0 : Heap) (n0 : Nat) (Z0 : n0 ≤ h0.size) (O0 : Old Z n0 h0) (I0 : Fld Z h0 o0 cN3 "count" "I" (.int 19)) :
 own_Met l Z h0 mN13 B08 1 (Option.some FieldType.int) ws (own_R 0 0 0 0) #[(.ref o0)] (fun v h L => (v = some (.int 19) ∧ Fr n0 L ∧ h = h0)) 0 0 := own_go own_pn13 fun p e s m below meth c s₁ hns hrt hnm hml hZ hx hby hown X0 e0 => by
 have N0 := Fr.nil n0
 refine own_cast (own_ef3 m o0) ?_
 refine oAN X0 hx hby dd18_0 rfl rfl ?_
 refine own_gF X0 hx hZ hown (hw 68) e0 I0 (hb hby dd18_1) fun T0 X1 e1 => ?_
 exact own_retI X1 hx hns hrt (hb hby dd18_4) e1 (by decide) (by decide) (⟨rfl, N0, rfl⟩)
theorem own_rm124 (l : Launch) (Z : State) (a0 : Array Value) (hw : own_W a0 Z) (ws : List Jvm.Cond) (o0 : Nat) (h0 : Heap) (n0 : Nat) (Z0 : n0 ≤ h0.size) (O0 : Old Z n0 h0) (I0 : Fld Z h0 o0 cN3 "count" "I" (.int 19)) (I1 : Exa Z h0 o0 cN4) :
 own_Met l Z h0 mN14 B07 1 (Option.some FieldType.int) ws (own_R 1 0 0 12) #[(.ref o0)] (fun v h L => (v = some (.int 19) ∧ Fr n0 L ∧ h = h0)) 0 0 := own_go own_pn14 fun p e s m below meth c s₁ hns hrt hnm hml hZ hx hby hown X0 e0 => by
 have N0 := Fr.nil n0
 refine own_cast (own_ef3 m o0) ?_
 refine oAN X0 hx hby dd17_0 rfl rfl ?_
 refine own_cX X0 hx hZ hown e0 (y := mN13) (b := o0) (hw 119) (hw 114) (own_nf (hw 73) rfl) (hw 115) (hw 54) (by decide) (hw 39) (hw 120) (by decide) I1 (W := 0) (own_rm125 l Z a0 hw [] o0 h0 n0 Z0 O0 I0) [] [] hml (lenOf own_pd5 rfl) (hb hby dd17_1) fun T0 h1 v0 L0 X1 e1 q0 => ?_
 obtain ⟨rfl, N1, K0⟩ := q0
 have N2 := Fr.app N0 N1
 have e2 := e1.trans K0
 exact own_retI X1 hx hns hrt (hb hby dd17_4) e2 (by decide) (by decide) (⟨rfl, N2, rfl⟩)
theorem own_rm128 (l : Launch) (Z : State) (a0 : Array Value) (hw : own_W a0 Z) (ws : List Jvm.Cond)  (h0 : Heap) (n0 : Nat) (Z0 : n0 ≤ h0.size) (O0 : Old Z n0 h0)  :
 own_Met l Z h0 mN30 B0l 2 (Option.none : Option FieldType) ws (own_R 0 0 0 0) #[(.int 0), (.int 19)] (fun v h L => (v = none ∧ Fr n0 L ∧ h = h0)) 0 0 := own_go own_pn30 fun p e s m below meth c s₁ hns hrt hnm hml hZ hx hby hown X0 e0 => by
 have N0 := Fr.nil n0
 refine own_cast (own_ef15 m 0 19) ?_
 refine oIN X0 hx hby dd31_0 rfl ?_
 refine oIN X0 hx hby dd31_1 rfl ?_
 refine oYI X0 hx hby (pc' := 37) dd31_2 (XT.ii_ge_t (by decide)) ?_
 exact own_retV X0 hx hns hrt (hb hby dd31_37) e0 (by decide) (by decide) (⟨rfl, N0, rfl⟩)
theorem own_rm129 (l : Launch) (Z : State) (a0 : Array Value) (hw : own_W a0 Z) (ws : List Jvm.Cond)  (h0 : Heap) (n0 : Nat) (Z0 : n0 ≤ h0.size) (O0 : Old Z n0 h0)  :
 own_Met l Z h0 mN28 B0j 2 (Option.some FieldType.int) ws (own_R 0 0 0 0) #[(.int 34), (.int 19)] (fun v h L => (v = some (.int 19) ∧ Fr n0 L ∧ h = h0)) 0 0 := own_go own_pn28 fun p e s m below meth c s₁ hns hrt hnm hml hZ hx hby hown X0 e0 => by
 have N0 := Fr.nil n0
 refine own_cast (own_ef15 m 34 19) ?_
 refine oIN X0 hx hby dd29_0 rfl ?_
 refine oIN X0 hx hby dd29_1 rfl ?_
 refine oYI X0 hx hby (pc' := 9) dd29_2 (XT.ii_gt_t (by decide)) ?_
 refine oIN X0 hx hby dd29_9 rfl ?_
 exact own_retI X0 hx hns hrt (hb hby dd29_10) e0 (by decide) (by decide) (⟨rfl, N0, rfl⟩)
theorem own_rm127 (l : Launch) (Z : State) (a0 : Array Value) (hw : own_W a0 Z) (ws : List Jvm.Cond) (i0 i1 i2 : Int32) (m1 : ClassId) (o1 : Nat) (h0 : Heap) (n0 : Nat) (Z0 : n0 ≤ h0.size) (O0 : Old Z n0 h0) (I0 : Arv Z h0 o1 m1 .byte 34 [(.int (i0.toInt8.toInt32)), (.int (i1.toInt8.toInt32)), (.int (i2.toInt8.toInt32)), (.int 58), (.int 32), (.int 110), (.int 111), (.int 116), (.int 32), (.int 85), (.int 84), (.int 70), (.int 45), (.int 56), (.int 32), (.int 116), (.int 101), (.int 120), (.int 116), (.int 0), (.int 0), (.int 0), (.int 0), (.int 0), (.int 0), (.int 0), (.int 0), (.int 0), (.int 0), (.int 0), (.int 0), (.int 0), (.int 0), (.int 0)] (.int 0)) :
 own_Met l Z h0 mN31 B0k 5 (Option.some (FieldType.array FieldType.byte)) ws (own_R 1 1 19 18) #[(.ref o1), (.int 0), (.int 19)] (fun v h L => (∃ o0 : Nat, ∃ m0 : ClassId, v = some (.ref o0) ∧ Fr n0 L ∧ Keep h0 h [] ∧ h0.size ≤ o0 ∧ Arv Z h o0 m0 .byte 19 [(.int (i0.toInt8.toInt32)), (.int (i1.toInt8.toInt32)), (.int (i2.toInt8.toInt32)), (.int 58), (.int 32), (.int 110), (.int 111), (.int 116), (.int 32), (.int 85), (.int 84), (.int 70), (.int 45), (.int 56), (.int 32), (.int 116), (.int 101), (.int 120), (.int 116)] (.int 0) ∧ Exa Z h o0 "[B" ∧ @LT.lt Nat instLTNat o0 h.size)) 1 19 := own_go own_pn31 fun p e s m below meth c s₁ hns hrt hnm hml hZ hx hby hown X2 e1 => by
 have N0 := Fr.nil n0
 refine own_cast (own_ef16 m o1 0 19) ?_
 refine oIN X2 hx hby dd30_0 rfl ?_
 refine oIN X2 hx hby dd30_1 rfl ?_
 refine own_cS X2 hx hZ hown e1 (y := mN30) (hw 259) (hw 260) (hw 128) (hw 261) (by decide) (W := 0) (own_rm128 l Z a0 hw []  h0 n0 Z0 O0 ) [(.int 0), (.int 19)] [] hml (lenOf own_pd26 rfl) (hb hby dd30_2) fun T2 h3 v0 L0 X1 e2 q0 => ?_
 obtain ⟨rfl, N1, K1⟩ := q0
 have N2 := Fr.app N0 N1
 have e3 := e2.trans K1
 refine oIN X1 hx hby dd30_5 rfl ?_
 refine oIN X1 hx hby dd30_6 rfl ?_
 refine oS (fun _ => XS.isub X1.here hx rfl (hb hby dd30_7) rfl) ?_
 refine oISN X1 hx hby dd30_8 (l' := #[rv o1, iv 0, iv 19, iv 19, .unset]) rfl ?_
 refine oIN X1 hx hby dd30_9 rfl ?_
 obtain ⟨T0, h1, m0, X0, e0, E0, A0, B0, s0⟩ := own_newP X1 hx hZ (aty := .byte) (hw 15) e3 (nm := "[B") rfl (g := (mkF m 10 #[rv o1, iv 0, iv 19, iv 19, .unset] [(.int 19)])) rfl (hb hby dd30_10) (n := 19) (rest := []) rfl (by decide) (cap := 19) (by decide) (by decide) (by decide) (by decide)
 obtain ⟨o0, g0⟩ : ∃ z, z = h0.size := ⟨_, rfl⟩
 rw [← g0] at A0 B0 s0
 have F0 : Arv Z h1 o0 m0 .byte 19 [(.int 0), (.int 0), (.int 0), (.int 0), (.int 0), (.int 0), (.int 0), (.int 0), (.int 0), (.int 0), (.int 0), (.int 0), (.int 0), (.int 0), (.int 0), (.int 0), (.int 0), (.int 0), (.int 0)] (.int 0) := own_newA A0 (by decide) rfl rfl
 have z0 := E0.1
 have y1 : @LT.lt Nat instLTNat o0 h1.size := F0.lt
 refine oS s0 ?_
 refine oAS X0 hx hby dd30_12 rfl (l' := #[rv o1, iv 0, iv 19, iv 19, rv o0]) rfl ?_
 show own_G p e below (T0.setTop (mkF m 14 #[rv o1, iv 0, iv 19, iv 19, rv o0] [])) _
 refine oAN X0 hx hby dd30_14 rfl rfl ?_
 refine oIN X0 hx hby dd30_15 rfl ?_
 refine oAL X0 hx hby dd30_16 rfl rfl ?_
 refine oIC X0 hx hby dd30_18 ?_
 refine oAN X0 hx hby dd30_19 rfl rfl ?_
 have F1 := I0.ext E0
 refine oS (own_len X0 hx hZ e0 F1 rfl rfl (hb hby dd30_20)) ?_
 refine oIN X0 hx hby dd30_21 rfl ?_
 refine oS (fun _ => XS.isub X0.here hx rfl (hb hby dd30_22) rfl) ?_
 refine oIN X0 hx hby dd30_23 rfl ?_
 have O1 : Old Z n0 h1 := O0.ext E0
 have Z1 : n0 ≤ h1.size := by omega
 refine own_cS X0 hx hZ hown e0 (y := mN28) (hw 252) (hw 253) (hw 245) (hw 254) (by decide) (W := 4) (own_rm129 l Z a0 hw []  h1 n0 Z1 O1 ) [(.int 34), (.int 19)] [(.int 0), (.ref o0), (.int 0), (.ref o1)] hml (lenOf own_pd22 rfl) (hb hby dd30_24) fun T1 h4 v1 L1 X4 e4 q1 => ?_
 obtain ⟨rfl, N3, K2⟩ := q1
 have N4 := Fr.app N2 N3
 have e5 := e4.trans K2
 show own_G p e below (T1.setTop (mkF m 27 #[rv o1, iv 0, iv 19, iv 19, rv o0] [(.int 19), (.int 0), (.ref o0), (.int 0), (.ref o1)])) _
 have N5 : n0 ≤ o0 := by omega
 obtain ⟨T3, h2, L2, X3, e6, N6, K0, A1, s1⟩ := cpA X4 hx hZ hown (hw 255) (hw 94) (hw 92) (hw 93) e5 F1 F0 (us := [(.int (i0.toInt8.toInt32)), (.int (i1.toInt8.toInt32)), (.int (i2.toInt8.toInt32)), (.int 58), (.int 32), (.int 110), (.int 111), (.int 116), (.int 32), (.int 85), (.int 84), (.int 70), (.int 45), (.int 56), (.int 32), (.int 116), (.int 101), (.int 120), (.int 116)]) (Or.inl ⟨rfl, rfl⟩) (by decide) (by decide) (by decide) (by decide) (by decide) rfl (Nat.le_of_ble_eq_true rfl) N4 N5 (g := (mkF m 27 #[rv o1, iv 0, iv 19, iv 19, rv o0] [(.int 19), (.int 0), (.ref o0), (.int 0), (.ref o1)])) rfl (by rw [hml]; rfl) (rest := []) rfl (hb hby dd30_27) (by decide) (W := 0) (by show 2 * 0 + _ ≤ _; exact Nat.le_of_eq rfl) (by decide)
 have z1 := K0.1
 have F2 : Arv Z h2 o0 m0 .byte 19 [(.int (i0.toInt8.toInt32)), (.int (i1.toInt8.toInt32)), (.int (i2.toInt8.toInt32)), (.int 58), (.int 32), (.int 110), (.int 111), (.int 116), (.int 32), (.int 85), (.int 84), (.int 70), (.int 45), (.int 56), (.int 32), (.int 116), (.int 101), (.int 120), (.int 116)] (.int 0) := A1
 refine oS s1 ?_
 refine oAL X3 hx hby dd30_30 rfl rfl ?_
 have F3 := B0.keep K0
 have y0 : @LT.lt Nat instLTNat o0 h2.size := by omega
 have K3 : Keep h0 h2 [] := (((Keep.refl h0 []).ext E0).trans K0 (allS (Or.inr (by omega)) all0))
 exact own_retA X3 hx hns hrt rfl rfl (hb hby dd30_32) e6 (by decide) (by decide) (⟨o0, m0, rfl, N6, K3, (by omega), F2, F3, y0⟩)
theorem own_rm126 (l : Launch) (Z : State) (a0 : Array Value) (hw : own_W a0 Z) (ws : List Jvm.Cond) (i0 i1 i2 : Int32) (m1 : ClassId) (o1 : Nat) (h0 : Heap) (n0 : Nat) (Z0 : n0 ≤ h0.size) (O0 : Old Z n0 h0) (I0 : Arv Z h0 o1 m1 .byte 34 [(.int (i0.toInt8.toInt32)), (.int (i1.toInt8.toInt32)), (.int (i2.toInt8.toInt32)), (.int 58), (.int 32), (.int 110), (.int 111), (.int 116), (.int 32), (.int 85), (.int 84), (.int 70), (.int 45), (.int 56), (.int 32), (.int 116), (.int 101), (.int 120), (.int 116), (.int 0), (.int 0), (.int 0), (.int 0), (.int 0), (.int 0), (.int 0), (.int 0), (.int 0), (.int 0), (.int 0), (.int 0), (.int 0), (.int 0), (.int 0)] (.int 0)) :
 own_Met l Z h0 mN16 B0a 3 (Option.some (FieldType.array FieldType.byte)) ws (own_R 2 1 19 34) #[(.ref o1), (.int 0), (.int 19)] (fun v h L => (∃ o0 : Nat, ∃ m0 : ClassId, v = some (.ref o0) ∧ Fr n0 L ∧ Keep h0 h [] ∧ h0.size ≤ o0 ∧ Arv Z h o0 m0 .byte 19 [(.int (i0.toInt8.toInt32)), (.int (i1.toInt8.toInt32)), (.int (i2.toInt8.toInt32)), (.int 58), (.int 32), (.int 110), (.int 111), (.int 116), (.int 32), (.int 85), (.int 84), (.int 70), (.int 45), (.int 56), (.int 32), (.int 116), (.int 101), (.int 120), (.int 116)] (.int 0) ∧ Exa Z h o0 "[B" ∧ @LT.lt Nat instLTNat o0 h.size)) 1 19 := own_go own_pn16 fun p e s m below meth c s₁ hns hrt hnm hml hZ hx hby hown X0 e0 => by
 have N0 := Fr.nil n0
 refine own_cast (own_ef10 m o1 0 19) ?_
 refine oIN X0 hx hby dd20_0 rfl ?_
 refine oN0 X0 hx hby dd20_1 (XT.i0_ne_f (by decide)) ?_
 refine oIN X0 hx hby dd20_4 rfl ?_
 refine oAN X0 hx hby dd20_5 rfl rfl ?_
 refine oS (own_len X0 hx hZ e0 I0 rfl rfl (hb hby dd20_6)) ?_
 refine oNI X0 hx hby dd20_7 (XT.ii_eq_f (by decide)) ?_
 refine oAN X0 hx hby dd20_10 rfl rfl ?_
 refine oIN X0 hx hby dd20_11 rfl ?_
 refine oIN X0 hx hby dd20_12 rfl ?_
 refine own_cS X0 hx hZ hown e0 (y := mN31) (hw 256) (hw 257) (hw 128) (hw 258) (by decide) (W := 0) (own_rm127 l Z a0 hw [] i0 i1 i2 m1 o1 h0 n0 Z0 O0 I0) [(.ref o1), (.int 0), (.int 19)] [] hml (lenOf own_pd13 rfl) (hb hby dd20_13) fun T0 h1 v0 L0 X1 e1 q0 => ?_
 obtain ⟨o0, m0, rfl, N1, K0, F2, F0, F1, F3⟩ := q0
 have N2 := Fr.app N0 N1
 have z0 := K0.1
 show own_G p e below (T0.setTop (mkF m 16 #[rv o1, iv 0, iv 19] [(.ref o0)])) _
 have y0 : @LT.lt Nat instLTNat o0 h1.size := by omega
 have K1 : Keep h0 h1 [] := ((Keep.refl h0 []).trans K0 all0)
 exact own_retA X1 hx hns hrt rfl rfl (hb hby dd20_16) e1 (by decide) (by decide) (⟨o0, m0, rfl, N2, K1, (by omega), F0, F1, y0⟩)
theorem own_rm123 (l : Launch) (Z : State) (a0 : Array Value) (hw : own_W a0 Z) (ws : List Jvm.Cond) (i0 i1 i2 i3 : Int32) (m1 : ClassId) (o0 o1 o2 : Nat) (h0 : Heap) (n0 : Nat) (Z0 : n0 ≤ h0.size) (O0 : Old Z n0 h0) (I4 : Fld Z h0 o1 cN3 "value" "[B" (.ref o2)) (I0 : Exa Z h0 o1 cN4) (I5 : Fld Z h0 o1 cN3 "count" "I" (.int 19)) (I6 : Sta Z Z.heap cN2 "COMPACT_STRINGS" "Z" (.int i0)) (I7 : ¬ (i0 = 0)) (I8 : Fld Z h0 o1 cN3 "coder" "B" (.int 0)) (I2 : Fld Z h0 o0 cN2 "coder" "B" (.int 0)) (I3 : Exa Z h0 o0 cN2) (I1 : n0 ≤ o0) (I9 : Arv Z h0 o2 m1 .byte 34 [(.int (i1.toInt8.toInt32)), (.int (i2.toInt8.toInt32)), (.int (i3.toInt8.toInt32)), (.int 58), (.int 32), (.int 110), (.int 111), (.int 116), (.int 32), (.int 85), (.int 84), (.int 70), (.int 45), (.int 56), (.int 32), (.int 116), (.int 101), (.int 120), (.int 116), (.int 0), (.int 0), (.int 0), (.int 0), (.int 0), (.int 0), (.int 0), (.int 0), (.int 0), (.int 0), (.int 0), (.int 0), (.int 0), (.int 0), (.int 0)] (.int 0)) (I00 : @Ne Nat o2 o0) (I01 : Fld Z h0 o0 cN2 "value" "[B" .null) (I02 : @LT.lt Nat instLTNat o0 h0.size) :
 own_Met l Z h0 mN17 B05 5 (Option.none : Option FieldType) ws (own_R 3 1 19 49) #[(.ref o0), (.ref o1), .null] (fun v h L => (∃ o3 : Nat, ∃ m0 : ClassId, v = none ∧ Fr n0 L ∧ Keep h0 h [o0] ∧ h0.size ≤ o3 ∧ Fld Z h o0 cN2 "coder" "B" (.int 0) ∧ Fld Z h o0 cN2 "value" "[B" (.ref o3) ∧ Exa Z h o0 cN2 ∧ Arv Z h o3 m0 .byte 19 [(.int (i1.toInt8.toInt32)), (.int (i2.toInt8.toInt32)), (.int (i3.toInt8.toInt32)), (.int 58), (.int 32), (.int 110), (.int 111), (.int 116), (.int 32), (.int 85), (.int 84), (.int 70), (.int 45), (.int 56), (.int 32), (.int 116), (.int 101), (.int 120), (.int 116)] (.int 0) ∧ Exa Z h o3 "[B" ∧ @LT.lt Nat instLTNat o3 h.size)) 1 19 := own_go own_pn17 fun p e s m below meth c s₁ hns hrt hnm hml hZ hx hby hown X5 e0 => by
 have N0 := Fr.nil n0
 refine own_cast (own_ef9 m o0 o1) ?_
 refine oAN X5 hx hby dd15_0 rfl rfl ?_
 obtain ⟨T2, X6, e1, s0⟩ := initO X5 hx hZ hown (hw 11) (hw 12) (hw 13) e0 (g := (mkF m 1 #[rv o0, rv o1, .val .null, .unset, .unset] [(.ref o0)])) rfl (by rw [hml]; rfl) rfl (hb hby dd15_1) (by decide) (W := 0) (by show 2 * 0 + _ ≤ _; exact Nat.le_of_eq rfl) (by decide)
 refine oS s0 ?_
 refine oAN X6 hx hby dd15_4 rfl rfl ?_
 refine own_cV X6 hx hZ hown e1 (y := mN12) (z := mN12) (b := o1) (hw 108) (hw 109) (notFace_of_selects (args := #[]) (mvT hZ (hw 111))) (hw 111) (hw 110) (hw 39) (hw 112) (by decide) I0 (W := 0) (own_rm28 l Z a0 hw [] o1 o2 h0 n0 Z0 O0 I4) [] [] hml (lenOf own_pd11 rfl) (hb hby dd15_5) fun T3 h3 v0 L0 X2 e2 q0 => ?_
 obtain ⟨rfl, N1, K1⟩ := q0
 have N2 := Fr.app N0 N1
 have e3 := e2.trans K1
 refine oASN X2 hx hby dd15_8 rfl (l' := #[rv o0, rv o1, .val .null, rv o2, .unset]) rfl ?_
 refine oAN X2 hx hby dd15_9 rfl rfl ?_
 refine own_cV X2 hx hZ hown e3 (y := mN13) (z := mN14) (b := o1) (hw 113) (hw 114) (own_nf (args := #[]) (mvT hZ (hw 237)) rfl) (hw 116) (hw 117) (hw 31) (hw 118) (by decide) I0 (W := 0) (own_rm124 l Z a0 hw [] o1 h0 n0 Z0 O0 I5 I0) [] [] hml (lenOf own_pd5 rfl) (hb hby dd15_10) fun T4 h4 v1 L1 X3 e4 q1 => ?_
 obtain ⟨rfl, N3, K2⟩ := q1
 have N4 := Fr.app N2 N3
 have e5 := e4.trans K2
 refine oIS X3 hx hby dd15_13 (l' := #[rv o0, rv o1, .val .null, rv o2, iv 19]) rfl ?_
 refine oAN X3 hx hby dd15_15 rfl rfl ?_
 refine own_cV X3 hx hZ hown e5 (y := mN15) (z := mN15) (b := o1) (hw 121) (hw 122) (notFace_of_selects (args := #[]) (mvT hZ (hw 124))) (hw 124) (hw 123) (hw 39) (hw 125) (by decide) I0 (W := 0) (own_rm31 l Z a0 hw [] i0 o1 h0 n0 Z0 O0 I6 I7 I8) [] [] hml (lenOf own_pd12 rfl) (hb hby dd15_16) fun T0 h5 v2 L2 X1 e6 q2 => ?_
 obtain ⟨rfl, N5, K3⟩ := q2
 have N6 := Fr.app N4 N5
 have e7 := e6.trans K3
 show own_G p e below (T0.setTop (mkF m 19 #[rv o0, rv o1, .val .null, rv o2, iv 19] [(.int 1)])) _
 refine oN0 X1 hx hby dd15_19 (XT.i0_eq_f (by decide)) ?_
 refine oAN X1 hx hby dd15_22 rfl rfl ?_
 refine oIC X1 hx hby dd15_23 ?_
 refine own_pF X1 hx hZ hown (hw 21) e7 I2 I3 (Or.inr ⟨(hw 17), rfl, hnm⟩) (hw 2) (ty := .byte) (by decide) (by decide) (hb hby dd15_24) fun T5 h1 X0 e8 W0 => ?_
 have N7 := Fr.snoc X0 N6 I1
 have z0 := W0.size
 have F2 := Fld.same W0 I2
 refine oAN X0 hx hby dd15_27 rfl rfl ?_
 refine oAN X0 hx hby dd15_28 rfl rfl ?_
 refine oIC X0 hx hby dd15_29 ?_
 refine oIL X0 hx hby dd15_30 rfl ?_
 have F3 := I9.other W0 I00
 have O1 : Old Z n0 h1 := O0.wr W0 I1
 have Z1 : n0 ≤ h1.size := by omega
 refine own_cS X0 hx hZ hown e8 (y := mN16) (hw 126) (hw 127) (hw 128) (hw 129) (by decide) (W := 1) (own_rm126 l Z a0 hw [] i1 i2 i3 m1 o2 h1 n0 Z1 O1 F3) [(.ref o2), (.int 0), (.int 19)] [(.ref o0)] hml (lenOf own_pd13 rfl) (hb hby dd15_32) fun T6 h6 v3 L3 X7 e9 q3 => ?_
 obtain ⟨o3, m0, rfl, N8, K0, F01, F4, F5, F02⟩ := q3
 have N9 := Fr.app N7 N8
 have z1 := K0.1
 have F0 := (Fld.other W0 I01 (Or.inr (slot_ne (C := cN2) (Or.inr (hw 16)) (Or.inr (hw 17)) (by decide) (t := (.array .byte)) (t' := .byte) (by decide) (by decide)))).keep K0 nin0
 have F1 := (Exa.wr W0 I3).keep K0
 refine own_pF X7 hx hZ hown (hw 20) e9 F0 F1 (Or.inr ⟨(hw 16), rfl, hnm⟩) (hw 2) (ty := (.array .byte)) rfl rfl (hb hby dd15_35) fun T1 h2 X4 e00 W1 => ?_
 have N00 := Fr.snoc X4 N9 I1
 have z2 := W1.size
 have F6 := Fld.same W1 F0
 show own_G p e below (T1.setTop (mkF m 38 #[rv o0, rv o1, .val .null, rv o2, iv 19] [])) _
 refine oGO X4 hx hby (pc' := 97) dd15_38 ?_
 have F7 := Fld.other W1 (F2.keep K0 nin0) (Or.inr (slot_ne (C := cN2) (Or.inr (hw 17)) (Or.inr (hw 16)) (by decide) (t := .byte) (t' := (.array .byte)) (by decide) (by decide)))
 have F8 := Exa.wr W1 F1
 have N01 : @Ne Nat o3 o0 := by omega
 have F9 := F4.other W1 N01
 have F00 := Exa.wr W1 F5
 have y0 : @LT.lt Nat instLTNat o3 h2.size := by omega
 have K4 : Keep h0 h2 [o0] := ((((Keep.refl h0 [o0]).wr W0 (Or.inl (by simp))).trans K0 all0).wr W1 (Or.inl (by simp)))
 exact own_retV X4 hx hns hrt (hb hby dd15_97) e00 (by decide) (by decide) (⟨o3, m0, rfl, N00, K4, (by omega), F7, F6, F8, F9, F00, y0⟩)
theorem own_rm122 (l : Launch) (Z : State) (a0 : Array Value) (hw : own_W a0 Z) (ws : List Jvm.Cond) (i0 i1 i2 i3 : Int32) (m1 : ClassId) (o0 o1 o3 : Nat) (h0 : Heap) (n0 : Nat) (Z0 : n0 ≤ h0.size) (O0 : Old Z n0 h0) (I0 : Fld Z h0 o1 cN3 "value" "[B" (.ref o3)) (I1 : Exa Z h0 o1 cN4) (I2 : Fld Z h0 o1 cN3 "count" "I" (.int 19)) (I3 : Sta Z Z.heap cN2 "COMPACT_STRINGS" "Z" (.int i0)) (I4 : ¬ (i0 = 0)) (I5 : Fld Z h0 o1 cN3 "coder" "B" (.int 0)) (I6 : Fld Z h0 o0 cN2 "coder" "B" (.int 0)) (I7 : Exa Z h0 o0 cN2) (I8 : n0 ≤ o0) (I9 : Arv Z h0 o3 m1 .byte 34 [(.int (i1.toInt8.toInt32)), (.int (i2.toInt8.toInt32)), (.int (i3.toInt8.toInt32)), (.int 58), (.int 32), (.int 110), (.int 111), (.int 116), (.int 32), (.int 85), (.int 84), (.int 70), (.int 45), (.int 56), (.int 32), (.int 116), (.int 101), (.int 120), (.int 116), (.int 0), (.int 0), (.int 0), (.int 0), (.int 0), (.int 0), (.int 0), (.int 0), (.int 0), (.int 0), (.int 0), (.int 0), (.int 0), (.int 0), (.int 0)] (.int 0)) (I00 : @Ne Nat o3 o0) (I01 : Fld Z h0 o0 cN2 "value" "[B" .null) (I02 : @LT.lt Nat instLTNat o0 h0.size) :
 own_Met l Z h0 mN18 B04 2 (Option.none : Option FieldType) ws (own_R 4 1 19 65) #[(.ref o0), (.ref o1)] (fun v h L => (∃ o2 : Nat, ∃ m0 : ClassId, v = none ∧ Fr n0 L ∧ Keep h0 h [o0] ∧ h0.size ≤ o2 ∧ Fld Z h o0 cN2 "coder" "B" (.int 0) ∧ Fld Z h o0 cN2 "value" "[B" (.ref o2) ∧ Exa Z h o0 cN2 ∧ Arv Z h o2 m0 .byte 19 [(.int (i1.toInt8.toInt32)), (.int (i2.toInt8.toInt32)), (.int (i3.toInt8.toInt32)), (.int 58), (.int 32), (.int 110), (.int 111), (.int 116), (.int 32), (.int 85), (.int 84), (.int 70), (.int 45), (.int 56), (.int 32), (.int 116), (.int 101), (.int 120), (.int 116)] (.int 0) ∧ Exa Z h o2 "[B" ∧ @LT.lt Nat instLTNat o2 h.size)) 1 19 := own_go own_pn18 fun p e s m below meth c s₁ hns hrt hnm hml hZ hx hby hown X0 e0 => by
 have N0 := Fr.nil n0
 refine own_cast (own_ef1 m o0 o1) ?_
 refine oAN X0 hx hby dd14_0 rfl rfl ?_
 refine oAN X0 hx hby dd14_1 rfl rfl ?_
 refine oS (fun _ => XS.aconstNull X0.here hx rfl (hb hby dd14_2) ) ?_
 have y0 : @LT.lt Nat instLTNat o0 h0.size := by omega
 refine own_cN X0 hx hZ hown e0 (y := mN17) (b := o0) rfl (hw 105) (hw 106) (hw 3) (hw 107) (by decide) (W := 0) (own_rm123 l Z a0 hw [] i0 i1 i2 i3 m1 o0 o1 o3 h0 n0 Z0 O0 I0 I1 I2 I3 I4 I5 I6 I7 I8 I9 I00 I01 y0) [(.ref o1), .null] [] hml (lenOf own_pd14 rfl) (hb hby dd14_3) fun T0 h1 v0 L0 X1 e1 q0 => ?_
 obtain ⟨o2, m0, rfl, N1, K0, F5, F0, F1, F2, F3, F4, F6⟩ := q0
 have N2 := Fr.app N0 N1
 have z0 := K0.1
 have y1 : @LT.lt Nat instLTNat o2 h1.size := by omega
 have K1 : Keep h0 h1 [o0] := ((Keep.refl h0 [o0]).trans K0 (allS (Or.inl (by simp)) all0))
 exact own_retV X1 hx hns hrt (hb hby dd14_6) e1 (by decide) (by decide) (⟨o2, m0, rfl, N2, K1, (by omega), F0, F1, F2, F3, F4, y1⟩)
theorem own_rm121 (l : Launch) (Z : State) (a0 : Array Value) (hw : own_W a0 Z) (ws : List Jvm.Cond) (i0 i1 i2 i3 : Int32) (m1 : ClassId) (o1 o3 : Nat) (h0 : Heap) (n0 : Nat) (Z1 : n0 ≤ h0.size) (O0 : Old Z n0 h0) (I0 : Fld Z h0 o1 cN3 "value" "[B" (.ref o3)) (I1 : Exa Z h0 o1 cN4) (I2 : Fld Z h0 o1 cN3 "count" "I" (.int 19)) (I3 : Sta Z Z.heap cN2 "COMPACT_STRINGS" "Z" (.int i0)) (I4 : ¬ (i0 = 0)) (I5 : Fld Z h0 o1 cN3 "coder" "B" (.int 0)) (I6 : Arv Z h0 o3 m1 .byte 34 [(.int (i1.toInt8.toInt32)), (.int (i2.toInt8.toInt32)), (.int (i3.toInt8.toInt32)), (.int 58), (.int 32), (.int 110), (.int 111), (.int 116), (.int 32), (.int 85), (.int 84), (.int 70), (.int 45), (.int 56), (.int 32), (.int 116), (.int 101), (.int 120), (.int 116), (.int 0), (.int 0), (.int 0), (.int 0), (.int 0), (.int 0), (.int 0), (.int 0), (.int 0), (.int 0), (.int 0), (.int 0), (.int 0), (.int 0), (.int 0)] (.int 0)) (I7 : @LT.lt Nat instLTNat o3 h0.size) :
 own_Met l Z h0 mN19 B03 1 (Option.some (FieldType.object cN2)) ws (own_R 5 2 23 79) #[(.ref o1)] (fun v h L => (∃ o0 : Nat, ∃ o2 : Nat, ∃ m0 : ClassId, v = some (.ref o0) ∧ Fr n0 L ∧ Keep h0 h [] ∧ h0.size ≤ o0 ∧ o0 < o2 ∧ Exa Z h o0 cN2 ∧ Fld Z h o0 cN2 "value" "[B" (.ref o2) ∧ Fld Z h o0 cN2 "coder" "B" (.int 0) ∧ Arv Z h o2 m0 .byte 19 [(.int (i1.toInt8.toInt32)), (.int (i2.toInt8.toInt32)), (.int (i3.toInt8.toInt32)), (.int 58), (.int 32), (.int 110), (.int 111), (.int 116), (.int 32), (.int 85), (.int 84), (.int 70), (.int 45), (.int 56), (.int 32), (.int 116), (.int 101), (.int 120), (.int 116)] (.int 0) ∧ Exa Z h o2 "[B" ∧ @LT.lt Nat instLTNat o0 h.size ∧ @LT.lt Nat instLTNat o2 h.size)) 2 23 := own_go own_pn19 fun p e s m below meth c s₁ hns hrt hnm hml hZ hx hby hown X1 e0 => by
 have N0 := Fr.nil n0
 refine own_cast (own_ef3 m o1) ?_
 obtain ⟨T0, h1, X0, e1, E0, A0, D0, U0, s0⟩ := newO X1 hx hZ hown (hw 101) (hw 2) (hw 3) e0 (g := (mkF m 0 #[rv o1] [])) rfl (hb hby dd13_0) (by decide) (by decide)
 obtain ⟨o0, g0⟩ : ∃ z, z = h0.size := ⟨_, rfl⟩
 rw [← g0] at A0 D0 U0 s0
 have z0 := E0.1
 have y3 : @LT.lt Nat instLTNat o0 h1.size := A0.lt
 refine oS s0 ?_
 have F0 : Fld Z h1 o0 cN2 "value" "[B" .null := D0 (Or.inr (hw 16)) (ty := (.array .byte)) (by decide)
 have F1 : Fld Z h1 o0 cN2 "coder" "B" (.int 0) := D0 (Or.inr (hw 17)) (ty := .byte) (by decide)
 refine oS (fun _ => XS.dup X0.here hx rfl (hb hby dd13_3) rfl rfl) ?_
 refine oAN X0 hx hby dd13_4 rfl rfl ?_
 have F2 := Fld.ext E0 I0
 have F3 := Exa.ext E0 I1
 have F4 := Fld.ext E0 I2
 have F5 := Fld.ext E0 I5
 have N1 : n0 ≤ o0 := by omega
 have F6 := I6.ext E0
 have N2 : @Ne Nat o3 o0 := by omega
 have y0 : @LT.lt Nat instLTNat o0 h1.size := by omega
 have O1 : Old Z n0 h1 := O0.ext E0
 have Z0 : n0 ≤ h1.size := by omega
 refine own_cN X0 hx hZ hown e1 (y := mN18) (b := o0) rfl (hw 102) (hw 103) (hw 3) (hw 104) (by decide) (W := 1) (own_rm122 l Z a0 hw [] i0 i1 i2 i3 m1 o0 o1 o3 h1 n0 Z0 O1 F2 F3 F4 I3 I4 F5 F1 A0 N1 F6 N2 F0 y0) [(.ref o1)] [(.ref o0)] hml (lenOf own_pd15 rfl) (hb hby dd13_5) fun T1 h2 v0 L0 X2 e2 q0 => ?_
 obtain ⟨o2, m0, rfl, N3, K0, F02, F7, F8, F9, F00, F01, F03⟩ := q0
 have N4 := Fr.app N0 N3
 have z1 := K0.1
 have y1 : @LT.lt Nat instLTNat o0 h2.size := by omega
 have y2 : @LT.lt Nat instLTNat o2 h2.size := by omega
 have K1 : Keep h0 h2 [] := (((Keep.refl h0 []).ext E0).trans K0 (allS (Or.inr (by omega)) all0))
 exact own_retA X2 hx hns hrt rfl rfl (hb hby dd13_8) e2 (by decide) (by decide) (⟨o0, o2, m0, rfl, N4, K1, (by omega), (by omega), F9, F8, F7, F00, F01, y1, y2⟩)
def own_Q111 (Z : State) (ob_5749 : Nat) (in_5 : Int32) (ob_5978 : Nat) (kk_5979 : ClassId) (in_5671 : Int32) (in_5676 : Int32) (in_5681 : Int32) (ob_8 : Nat) (ob_10 : Nat) (h0 : Heap) (n0 : Nat) (vm : Vm) (v : Option Value) (h : Heap) (L : List Loc) : Prop := (∃ ob_6344 : Nat, ∃ ob_7214 : Nat, ∃ ob_7215 : Nat, ∃ kk_7216 : ClassId, v = some (.ref ob_6344) ∧ Fr n0 L ∧ Keep h0 h [] ∧ h0.size ≤ ob_6344 ∧ ob_6344 < ob_7214 ∧ ob_7214 < ob_7215 ∧ Exa Z h ob_6344 cN5 ∧ Fld Z h ob_6344 cN6 "detailMessage" cN7 (.ref ob_7214) ∧ Exa Z h ob_7214 cN2 ∧ Fld Z h ob_7214 cN2 "value" "[B" (.ref ob_7215) ∧ Fld Z h ob_7214 cN2 "coder" "B" (.int 0) ∧ Arv Z h ob_7215 kk_7216 .byte 19 [(.int (in_5671.toInt8.toInt32)), (.int (in_5676.toInt8.toInt32)), (.int (in_5681.toInt8.toInt32)), (.int 58), (.int 32), (.int 110), (.int 111), (.int 116), (.int 32), (.int 85), (.int 84), (.int 70), (.int 45), (.int 56), (.int 32), (.int 116), (.int 101), (.int 120), (.int 116)] (.int 0) ∧ Exa Z h ob_7215 "[B" ∧ @LT.lt Nat instLTNat ob_6344 h.size ∧ @LT.lt Nat instLTNat ob_7214 h.size ∧ Safe Z own_EL vm h ob_7214 ∧ @LT.lt Nat instLTNat ob_7215 h.size ∧ Safe Z own_EL vm h ob_7215)
theorem own_rm111 (l : Launch) (hl : l.stackTraces = true) (Z : State) (a0 : Array Value) (hw : own_W a0 Z) (hEL : EW Z a0 own_EL) (ws : List Jvm.Cond) (o2 : Nat) (i0 : Int32) (o5 : Nat) (m0 : ClassId) (i1 : Int32) (i2 : Int32) (i3 : Int32) (o8 : Nat) (o9 : Nat) (h0 : Heap) (n0 : Nat) (Z4 : n0 ≤ h0.size) (O4 : Old Z n0 h0) (I0 : Sta Z Z.heap cN2 "COMPACT_STRINGS" "Z" (.int i0)) (I1 : ¬ (i0 = 0)) (I2 : Fld Z h0 o2 cN2 "value" "[B" (.ref o5)) (I8 : @LT.lt Nat instLTNat o2 h0.size) (I3 : Arv Z h0 o5 m0 .byte 3 [(.int (i1.toInt8.toInt32)), (.int (i2.toInt8.toInt32)), (.int (i3.toInt8.toInt32))] (.int 0)) (I9 : @LT.lt Nat instLTNat o5 h0.size) (I4 : Fld Z h0 o2 cN2 "coder" "B" (.int 0)) (I5 : Exa Z h0 o2 cN2) (I6 : Sta Z Z.heap cN6 cN8 cN9 (.ref o8)) (I7 : Sta Z Z.heap cN6 cN10 cN11 (.ref o9)) :
 own_MetWK own_KN l Z own_EL [o2] h0 mN20 B2 1 (Option.some (FieldType.object cN5)) ws ({ frames := 6, cells := 9, slots := 2903, locals := 93 } : Room) #[(.ref o2)] (own_Q111 Z o2 i0 o5 m0 i1 i2 i3 o8 o9 h0 n0) 9 2903 := by
 refine MetFree.of_bodySF own_pn20 hisR ?_
 intro p e s m args below meth c s₁ Bd hml0 hP hK
 obtain ⟨rfl, hZ, hh, hCH, hsf⟩ := hP
 have hx := Bd.exec
 have hby := Bd.bytes
 have hml : c.maxLocals = 1 := hml0
 have hown : (s.setVm s.vm).vm.findClass cN0 = some m.cls := findClass_of_methodNamed Bd.named
 have hnm := (name_of_methodNamed Bd.named Bd.method).1
 have hZ0 : Z.Warmed39 s.vm := hZ
 have hZ : Z.Warmed39 (s.setVm s.vm).vm := hZ
 have hS : s.Since s.vm 0 := (State.WarmedH.refl s).since 0
 have X3 : Stand p l e ({ frames := 6, cells := 9, slots := 2903, locals := 93 } : Room) (s.setVm s.vm) m #[(.ref o2)] below meth c s₁ [] 0 0 := Stand.of_body Bd
 have e0 : s₁.heap = h0 := by rw [← hh, Bd.state]; rfl
 have hR : CHr Z own_EL s.vm h0 s.vm h0 := CHr.refl hCH
 obtain ⟨hTK, hBel⟩ := hK
 have N7 := Fr.nil n0
 show own_G p e below (s₁.setTop (entryFrame m #[(.ref o2)] 1)) (own_PW Z own_EL s (own_Q111 Z o2 i0 o5 m0 i1 i2 i3 o8 o9 h0 n0) 9 2903)
 refine own_cast (own_ef3 m o2) ?_
 show own_G p e below (s₁.setTop (mkF m 0 #[rv o2] [])) _
 obtain ⟨T1, h2, X0, e1, E2, A2, D0, U0, s0⟩ := newO X3 hx hZ hown (hw 26) (hw 27) (hw 28) e0 (g := (mkF m 0 #[rv o2] [])) rfl (hb hby dd2_0) (by decide) (by decide)
 obtain ⟨o0, g0⟩ : ∃ z, z = h0.size := ⟨_, rfl⟩
 rw [← g0] at A2 D0 U0 s0
 have z0 := E2.1
 have y00 : @LT.lt Nat instLTNat o0 h2.size := A2.lt
 refine oS s0 ?_
 have R4 : CHr Z own_EL s.vm h0 s.vm h2 := hR.trans (CHr.ext E2 hR.1)
 have F5 : Fld Z h2 o0 cN6 "cause" cN12 .null := D0 (Or.inl (hw 155)) (ty := (.object cN6)) (by decide)
 have F6 : Fld Z h2 o0 cN6 "stackTrace" cN9 .null := D0 (Or.inl (hw 158)) (ty := (.array (.object cN13))) (by decide)
 have F7 : Fld Z h2 o0 cN6 cN14 cN11 .null := D0 (Or.inl (hw 161)) (ty := (.object "java/util/List")) (by decide)
 have F8 : Fld Z h2 o0 cN6 "detailMessage" cN7 .null := D0 (Or.inl (hw 185)) (ty := (.object cN2)) (by decide)
 have F9 : Fld Z h2 o0 cN6 "backtrace" cN15 .null := D0 (Or.inl (hw 186)) (ty := (.object cN16)) (by decide)
 have F0M : Fld Z h2 o0 cN6 "depth" "I" (.int 0) := D0 (Or.inl (hw 187)) (ty := .int) (by decide)
 refine oS (fun _ => XS.dup X0.here hx rfl (hb hby dd2_3) rfl rfl) ?_
 obtain ⟨T2, h1, X1, e2, E0, A0, D1, U1, s1⟩ := newO X0 hx hZ hown (hw 29) (hw 30) (hw 31) e1 (g := (mkF m 4 #[rv o2] [(.ref o0), (.ref o0)])) rfl (hb hby dd2_4) (by decide) (by decide)
 obtain ⟨o1, g1⟩ : ∃ z, z = h2.size := ⟨_, rfl⟩
 rw [← g1] at A0 D1 U1 s1
 have z1 := E0.1
 have y01 : @LT.lt Nat instLTNat o1 h1.size := A0.lt
 refine oS s1 ?_
 have R0 : CHr Z own_EL s.vm h0 s.vm h1 := R4.trans (CHr.ext E0 R4.1)
 have F00 : Fld Z h1 o1 cN3 "value" "[B" .null := D1 (Or.inl (hw 44)) (ty := (.array .byte)) (by decide)
 have F01 : Fld Z h1 o1 cN3 "coder" "B" (.int 0) := D1 (Or.inl (hw 46)) (ty := .byte) (by decide)
 have F02 : Fld Z h1 o1 cN3 "count" "I" (.int 0) := D1 (Or.inl (hw 69)) (ty := .int) (by decide)
 refine oS (fun _ => XS.dup X1.here hx rfl (hb hby dd2_7) rfl rfl) ?_
 have N1 : n0 ≤ o1 := by omega
 have y2 : @LT.lt Nat instLTNat o1 h1.size := by omega
 have O5 : Old Z n0 h2 := O4.ext E2
 have O0 : Old Z n0 h1 := O5.ext E0
 have Z0 : n0 ≤ h1.size := by omega
 obtain ⟨T3, h7, v0, L0, X2, e3, q0, s2⟩ := own_callN X1 hx hZ hown e2 (y := mN3) (b := o1) rfl (hw 32) (hw 33) (hw 31) (hw 34) (by decide) (W := 3) (own_rm8 l Z a0 hw [] i0 o1 h1 n0 Z0 O0 I0 I1 F00 A0 N1 F01 F02 y2) (by decide) (by decide) (by decide) (by decide) (g := (mkF m 8 #[rv o2] [(.ref o1), (.ref o1), (.ref o0), (.ref o0)])) rfl (by rw [hml]; rfl) (argsL := []) (rest := [(.ref o1), (.ref o0), (.ref o0)]) rfl (lenOf own_pd3 rfl) rfl (by show 2 * 0 + _ ≤ _; exact Nat.le_of_eq rfl) (hb hby dd2_8)
 refine oS s2 ?_
 obtain ⟨o3, m1, rfl, N8, K0, F0N, F03, F0, F04, F05, F06, F07, F0O⟩ := q0
 have N9 := Fr.app N7 N8
 have S0 : Safe Z own_EL s.vm h1 o1 := Safe.exa hZ.alike A0 (by decide) (by decide)
 have R1 : CHr Z own_EL s.vm h0 s.vm h7 := R0.trans (CHr.keep K0 (sfS S0 sf0) R0.1)
 have z2 := K0.1
 have S8 : Safe Z own_EL s.vm h1 o3 := Safe.new (by omega)
 refine oS (fun _ => XS.aloadN X2.here hx rfl (hb hby dd2_11) rfl rfl) ?_
 have N3 : @Ne Nat o2 o1 := by omega
 have F08 := (Fld.ext E0 (Fld.ext E2 I2)).keep K0 (ninS N3 nin0)
 have N00 : @Ne Nat o5 o1 := by omega
 have F09 := ((I3.ext E2).ext E0).keep K0 (ninS N00 nin0)
 have F0a := (Fld.ext E0 (Fld.ext E2 I4)).keep K0 (ninS N3 nin0)
 have F0b := (Exa.ext E0 (Exa.ext E2 I5)).keep K0
 have N4 : n0 ≤ o3 := by omega
 have N01 : @Ne Nat o1 o3 := by omega
 have O1 : Old Z n0 h7 := O0.keep K0 (allS N1 all0)
 have Z1 : n0 ≤ h7.size := by omega
 obtain ⟨T4, h5, v1, L1, X4, e4, q1, s3⟩ := own_callV X2 hx hZ hown e3 (y := mN11) (z := mN11) (C := cN4) (b := o1) (hw 47) (hw 48) (notFace_of_selects (args := #[]) (mvT hZ (hw 50))) (hw 50) (hw 49) (hw 31) (hw 51) (by decide) F0 (W := 2) (own_rm105 l Z a0 hw [] i1 i2 i3 i0 m0 m1 o1 o2 o5 o3 h7 n0 Z1 O1 F08 F09 I0 I1 F0a F0b F05 F03 F06 F04 F0 N4 F07 N01 N1) (by decide) (by decide) (by decide) (by decide) (g := (mkF m 12 #[rv o2] [(.ref o2), (.ref o1), (.ref o0), (.ref o0)])) rfl (by rw [hml]; rfl) (argsL := [(.ref o2)]) (rest := [(.ref o0), (.ref o0)]) rfl (lenOf own_pd10 rfl) rfl (by show 2 * 0 + _ ≤ _; exact Nat.le_of_eq rfl) (hb hby dd2_12)
 refine oS s3 ?_
 obtain ⟨rfl, N02, K1, F0c, F0P, F0d, F0e, F0f, F0g⟩ := q1
 have N03 := Fr.app N9 N02
 have S1 := Safe.keep K0 (sfS S0 sf0) R0.1 S8
 have S2 := Safe.keep K0 (sfS S0 sf0) R0.1 S0
 have R6 : CHr Z own_EL s.vm h0 s.vm h5 := R1.trans (CHr.keep K1 (sfS S1 (sfS S2 sf0)) R1.1)
 have z3 := K1.1
 obtain ⟨o4, T0, h3, k0, o7, m2, X5, e5, E1, hS, hk, hZ, hown, F0h, F0i, F0j, F0k, y3, y4, A1, L2, M0, s4⟩ := ldcCH X4 hx hZ hown (hw 95) (own_sk (own_Wall hw)) e4 hS (by omega) hEL (by decide) R6.1 (vs := [(.int 58), (.int 32), (.int 110), (.int 111), (.int 116), (.int 32), (.int 85), (.int 84), (.int 70), (.int 45), (.int 56), (.int 32), (.int 116), (.int 101), (.int 120), (.int 116)]) (z := 16) ⟨by decide, by decide +kernel⟩ (by decide) rfl (g := (mkF m 15 #[rv o2] [(.ref o1), (.ref o0), (.ref o0)])) rfl (hb hby dd2_15) (n := 64) (by decide) (by decide) (by decide) (by decide)
 have z4 := E1.1
 refine oS s4 ?_
 have R5 : CHr Z own_EL s.vm h0 T0.vm h3 := R6.trans A1
 have y02 : @LT.lt Nat instLTNat o4 h3.size := y3
 have y03 : @LT.lt Nat instLTNat o7 h3.size := y4
 have S9 := Safe.ext E2 hR.1 (hsf o2 (by simp))
 have S00 := Safe.ext E0 R4.1 S9
 have S01 := Safe.keep K0 (sfS S0 sf0) R0.1 S00
 have S02 := Safe.keep K1 (sfS S1 (sfS S2 sf0)) R1.1 S01
 have y5 : @LT.lt Nat instLTNat o2 h5.size := by omega
 have S6 := A1.safe y5 S02
 have N0c : @Ne Nat o2 o4 := (M0 o2 S6).1
 have N0d : @Ne Nat o2 o7 := (M0 o2 S6).2
 have S03 := Safe.keep K1 (sfS S1 (sfS S2 sf0)) R1.1 S1
 have y6 : @LT.lt Nat instLTNat o3 h5.size := by omega
 have S7 := A1.safe y6 S03
 have N0e : @Ne Nat o3 o4 := (M0 o3 S7).1
 have N0f : @Ne Nat o3 o7 := (M0 o3 S7).2
 have F1 := Exa.ext E1 (((Exa.ext E0 A2).keep K0).keep K1)
 have S4 : Safe Z own_EL T0.vm h3 o0 := Safe.exa hZ.alike F1 (by decide) (by decide)
 have N0g : @Ne Nat o0 o4 := (M0 o0 S4).1
 have N0h : @Ne Nat o0 o7 := (M0 o0 S4).2
 have S04 := Safe.keep K1 (sfS S1 (sfS S2 sf0)) R1.1 S2
 have y7 : @LT.lt Nat instLTNat o1 h5.size := by omega
 have S3 := A1.safe y7 S04
 have N04 : @Ne Nat o1 o4 := (M0 o1 S3).1
 have N05 : @Ne Nat o1 o7 := (M0 o1 S3).2
 show own_G p e below (T0.setTop (mkF m 17 #[rv o2] [(.ref o4), (.ref o1), (.ref o0), (.ref o0)])) _
 have F0l := Fld.ext E1 F0d
 have F0m := Fld.ext E1 F0f
 have F0n := F0c.ext E1
 have F0o := Fld.ext E1 F0g
 have F2 := Exa.ext E1 F0e
 have y8 : @LT.lt Nat instLTNat o1 h3.size := by omega
 have O6 : Old Z n0 h5 := O1.keep K1 (allS N4 (allS N1 all0))
 have O2 : Old Z n0 h3 := O6.ext E1
 have Z2 : n0 ≤ h3.size := by omega
 obtain ⟨T5, h4, v2, L3, X6, e6, q2, s5⟩ := own_callV X5 hx hZ hown e5 (y := mN11) (z := mN11) (C := cN4) (b := o1) (hw 47) (hw 48) (notFace_of_selects (args := #[]) (mvT hZ (hw 50))) (hw 50) (hw 49) (hw 31) (hw 51) (by decide) F2 (W := 2) (own_rm112 l Z a0 hw [] i0 i1 i2 i3 m2 m1 o1 o4 o7 o3 h3 n0 Z2 O2 F0j F0k I0 I1 F0i F0h F0l F0m F0n F0o F2 N1 y8 (Ne.symm N04) (Ne.symm N05)) (by decide) (by decide) (by decide) (by decide) (g := (mkF m 17 #[rv o2] [(.ref o4), (.ref o1), (.ref o0), (.ref o0)])) rfl (by rw [hml]; rfl) (argsL := [(.ref o4)]) (rest := [(.ref o0), (.ref o0)]) rfl (lenOf own_pd10 rfl) rfl (by show 2 * 0 + _ ≤ _; exact Nat.le_of_eq rfl) (hb hby dd2_17)
 refine oS s5 ?_
 obtain ⟨o01, m3, rfl, N06, K3, F0Q, F0p, F3, F0q, F0r, F0s, F0R, F0t⟩ := q2
 have N07 := Fr.app N03 N06
 have R2 : CHr Z own_EL s.vm h0 T0.vm h4 := R5.trans (CHr.keep K3 (sfS S3 sf0) R5.1)
 have z5 := K3.1
 have S0c : Safe Z own_EL T0.vm h3 o01 := Safe.new (by omega)
 have O3 : Old Z n0 h4 := O2.keep K3 (allS N1 all0)
 have Z3 : n0 ≤ h4.size := by omega
 obtain ⟨T6, h8, v3, L4, X7, e7, q3, s6⟩ := own_callV X6 hx hZ hown e6 (y := mN19) (z := mN19) (C := cN4) (b := o1) (hw 96) (hw 97) (notFace_of_selects (args := #[]) (mvT hZ (hw 99))) (hw 99) (hw 98) (hw 31) (hw 100) (by decide) F3 (W := 2) (own_rm121 l Z a0 hw [] i0 i1 i2 i3 m3 o1 o01 h4 n0 Z3 O3 F0p F3 F0r I0 I1 F0q F0s F0t) (by decide) (by decide) (by decide) (by decide) (g := (mkF m 20 #[rv o2] [(.ref o1), (.ref o0), (.ref o0)])) rfl (by rw [hml]; rfl) (argsL := []) (rest := [(.ref o0), (.ref o0)]) rfl (lenOf own_pd16 rfl) rfl (by show 2 * 0 + _ ≤ _; exact Nat.le_of_eq rfl) (hb hby dd2_20)
 refine oS s6 ?_
 obtain ⟨o6, o00, m4, rfl, N08, K2, F0S, F0T, F0u, F0v, F0w, F0x, F0y, F0U, F0V⟩ := q3
 have N09 := Fr.app N07 N08
 have R3 : CHr Z own_EL s.vm h0 T0.vm h8 := R2.trans (CHr.keep K2 sf0 R2.1)
 have z6 := K2.1
 have S05 : Safe Z own_EL T0.vm h4 o6 := Safe.new (by omega)
 have S06 : Safe Z own_EL T0.vm h4 o00 := Safe.new (by omega)
 have O7 : Old Z n0 h8 := O3.keep K2 all0
 have F4 := (F1.keep K3).keep K2
 have N5 : n0 ≤ o0 := by omega
 have N0 : @Ne Nat o0 o1 := by omega
 have N2 : @Ne Nat o0 o3 := by omega
 have F0z := Unt.keep K2 nin0 (Unt.keep K3 (ninS N0 nin0) (Unt.ext E1 (Unt.keep K1 (ninS N2 (ninS N0 nin0)) (Unt.keep K0 (ninS N0 nin0) (Unt.ext E0 U0)))))
 have F0A := ((Fld.ext E1 (((Fld.ext E0 F5).keep K0 (ninS N0 nin0)).keep K1 (ninS N2 (ninS N0 nin0)))).keep K3 (ninS N0 nin0)).keep K2 nin0
 have F0B := ((Fld.ext E1 (((Fld.ext E0 F6).keep K0 (ninS N0 nin0)).keep K1 (ninS N2 (ninS N0 nin0)))).keep K3 (ninS N0 nin0)).keep K2 nin0
 have F0C := ((Fld.ext E1 (((Fld.ext E0 F7).keep K0 (ninS N0 nin0)).keep K1 (ninS N2 (ninS N0 nin0)))).keep K3 (ninS N0 nin0)).keep K2 nin0
 have F0D := ((Fld.ext E1 (((Fld.ext E0 F9).keep K0 (ninS N0 nin0)).keep K1 (ninS N2 (ninS N0 nin0)))).keep K3 (ninS N0 nin0)).keep K2 nin0
 have F0E := ((Fld.ext E1 (((Fld.ext E0 F8).keep K0 (ninS N0 nin0)).keep K1 (ninS N2 (ninS N0 nin0)))).keep K3 (ninS N0 nin0)).keep K2 nin0
 obtain ⟨T7, h6, v4, L5, X8, e8, q4, s7⟩ := own_callNK X7 hx hZ hown (Vm.MethodsKnown.alikeC (hZ0.alike.symm.trans hZ.alike) hTK) (Vm.FramesKnown.alikeC (hZ0.alike.symm.trans hZ.alike) hBel) e7 (y := ⟨cN5, "<init>", "(Ljava/lang/String;)V"⟩) (b := o0) rfl (hw 139) (hw 140) (hw 28) (hw 141) (by decide) (W := 1) (own_k3 l hl Z a0 hw [] o0 o6 o8 o9 h8 n0 O7 F4 N5 F0z I6 I7 F0A F0B F0C F0D F0E) (by decide) (by decide) (by decide) (by decide) (g := (mkF m 23 #[rv o2] [(.ref o6), (.ref o0), (.ref o0)])) rfl (by rw [hml]; rfl) (argsL := [(.ref o6)]) (rest := [(.ref o0)]) rfl (lenOf own_pdS rfl) rfl (by show 2 * 0 + _ ≤ _; exact Nat.le_of_eq rfl) (hb hby dd2_23)
 refine oS s7 ?_
 obtain ⟨rfl, B0, K4, F0F⟩ := q4
 have N0a := Fr.app N09 (fun y hy => by rw [B0 y hy]; exact N5)
 have S07 := Safe.keep K3 (sfS S3 sf0) R5.1 S4
 have S5 := Safe.keep K2 sf0 R2.1 S07
 have R7 : CHr Z own_EL s.vm h0 T0.vm h6 := R3.trans (CHr.keep K4 (sfS S5 sf0) R3.1)
 have z7 := K4.1
 have F0G := F4.keep K4
 have F0H := F0u.keep K4
 have N6 : @Ne Nat o6 o0 := by omega
 have F0I := F0v.keep K4 (ninS N6 nin0)
 have F0J := F0w.keep K4 (ninS N6 nin0)
 have N0b : @Ne Nat o00 o0 := by omega
 have F0K := F0x.keep K4 (ninS N0b nin0)
 have F0L := F0y.keep K4
 have y9 : @LT.lt Nat instLTNat o0 h6.size := by omega
 have y0 : @LT.lt Nat instLTNat o6 h6.size := by omega
 have S08 := Safe.keep K2 sf0 R2.1 S05
 have S09 := Safe.keep K4 (sfS S5 sf0) R3.1 S08
 have y1 : @LT.lt Nat instLTNat o00 h6.size := by omega
 have S0a := Safe.keep K2 sf0 R2.1 S06
 have S0b := Safe.keep K4 (sfS S5 sf0) R3.1 S0a
 have K5 : Keep h0 h6 [] := (((((((((Keep.refl h0 []).ext E2).ext E0).trans K0 (allS (Or.inr (by omega)) all0)).trans K1 (allS (Or.inr (by omega)) (allS (Or.inr (by omega)) all0))).ext E1).trans K3 (allS (Or.inr (by omega)) all0)).trans K2 all0).trans K4 (allS (Or.inr (by omega)) all0))
 exact own_retAW X8 hx Bd.notSynchronized Bd.returns rfl rfl (hb hby dd2_26) hS hZ hEL hh R7 e8 (by omega) (by decide) (by decide) (fun hA => ⟨o0, o6, o00, m4, rfl, N0a, K5, (by omega), (by omega), (by omega), F0G, F0F, F0H, F0I, F0J, F0K, F0L, y9, y0, (hA.safe y0 S09), y1, (hA.safe y1 S0b)⟩)
theorem own_rm130 (l : Launch) (Z : State) (a0 : Array Value) (hw : own_W a0 Z) (ws : List Jvm.Cond) (i1 i2 i3 i0 : Int32) (m0 : ClassId) (o0 o1 : Nat) (h0 : Heap) (n0 : Nat) (Z0 : n0 ≤ h0.size) (O0 : Old Z n0 h0) (I0 : Fld Z h0 o0 cN2 "value" "[B" (.ref o1)) (I1 : Arv Z h0 o1 m0 .byte 19 [(.int (i1.toInt8.toInt32)), (.int (i2.toInt8.toInt32)), (.int (i3.toInt8.toInt32)), (.int 58), (.int 32), (.int 110), (.int 111), (.int 116), (.int 32), (.int 85), (.int 84), (.int 70), (.int 45), (.int 56), (.int 32), (.int 116), (.int 101), (.int 120), (.int 116)] (.int 0)) (I2 : Sta Z Z.heap cN2 "COMPACT_STRINGS" "Z" (.int i0)) (I3 : ¬ (i0 = 0)) (I4 : Fld Z h0 o0 cN2 "coder" "B" (.int 0)) (I5 : Exa Z h0 o0 cN2) :
 own_Met l Z h0 mN5 B7 1 (Option.some FieldType.int) ws (own_R 1 0 0 13) #[(.ref o0)] (fun v h L => (v = some (.int 19) ∧ Fr n0 L ∧ h = h0)) 0 0 := own_go own_pn5 fun p e s m below meth c s₁ hns hrt hnm hml hZ hx hby hown X1 e1 => by
 have N0 := Fr.nil n0
 refine own_cast (own_ef3 m o0) ?_
 refine oAN X1 hx hby dd7_0 rfl rfl ?_
 refine own_gF X1 hx hZ hown (hw 20) e1 I0 (hb hby dd7_1) fun T0 X0 e0 => ?_
 refine oS (own_len X0 hx hZ e0 I1 rfl rfl (hb hby dd7_4)) ?_
 refine oAN X0 hx hby dd7_5 rfl rfl ?_
 refine own_cV X0 hx hZ hown e0 (y := mN4) (z := mN4) (b := o0) (hw 62) (hw 63) (notFace_of_selects (args := #[]) (mvT hZ (hw 65))) (hw 65) (hw 64) (hw 3) (hw 66) (by decide) I5 (W := 1) (own_rm13 l Z a0 hw [] i0 o0 h0 n0 Z0 O0 I2 I3 I4) [] [(.int 19)] hml (lenOf own_pd4 rfl) (hb hby dd7_6) fun T1 h1 v0 L0 X2 e2 q0 => ?_
 obtain ⟨rfl, N1, K0⟩ := q0
 have N2 := Fr.app N0 N1
 have e3 := e2.trans K0
 refine oS (fun _ => XT.ishr X2.here hx rfl (hb hby dd7_9) rfl) ?_
 exact own_retI X2 hx hns hrt (hb hby dd7_10) e3 (by decide) (by decide) (⟨rfl, N2, rfl⟩)
def own_Q1 (Z : State) (in_1 : Int32) (in_2 : Int32) (in_3 : Int32) (in_4 : Int32) (in_5 : Int32) (ob_8 : Nat) (ob_10 : Nat) (va_6 : Value) (h0 : Heap) (n0 : Nat) (vm : Vm) (v : Option Value) (h : Heap) (L : List Loc) : Prop := (v = some (.int 1) ∧ Fr n0 L)
theorem own_pn32 : plainFor x = true := by decide +kernel
theorem own_rm1 (l : Launch) (hl : l.stackTraces = true) (Z : State) (a0 : Array Value) (hw : own_W a0 Z) (hEL : EW Z a0 own_EL) (ws : List Jvm.Cond) (i3 : Int32) (i0 : Int32) (i1 : Int32) (i2 : Int32) (i00 : Int32) (o0l : Nat) (o0m : Nat) (r0 : Value) (h0 : Heap) (n0 : Nat) (Z06 : n0 ≤ h0.size) (O6 : Old Z n0 h0) (I0 : Sta Z Z.heap cN2 "COMPACT_STRINGS" "Z" (.int i00)) (I1 : ¬ (i00 = 0)) (I4 : Sta Z Z.heap cN6 cN8 cN9 (.ref o0l)) (I5 : Sta Z Z.heap cN6 cN10 cN11 (.ref o0m)) (I2 : Sta Z Z.heap "jdk/internal/util/Preconditions" "SIOOBE_FORMATTER" "Ljava/util/function/BiFunction;" r0) (I3 : r0.isRef = true) :
 own_MetWK own_KF l Z own_EL [] h0 x code maxLocals ret ws room_1 #[(.int i3), (.int i0), (.int i1), (.int i2)] (own_Q1 Z i3 i0 i1 i2 i00 o0l o0m r0 h0 n0) 40 8896 := by
 refine MetFree.of_bodySF own_pn32 hisR ?_
 intro p e s m args below meth c s₁ Bd hml0 hP hK
 obtain ⟨rfl, hZ, hh, hCH, hsf⟩ := hP
 have hx := Bd.exec
 have hby := Bd.bytes
 have hml : c.maxLocals = 14 := hml0
 have hown : (s.setVm s.vm).vm.findClass cN1 = some m.cls := findClass_of_methodNamed Bd.named
 have hnm := (name_of_methodNamed Bd.named Bd.method).1
 have hZ0 : Z.Warmed39 s.vm := hZ
 have hZ : Z.Warmed39 (s.setVm s.vm).vm := hZ
 have hS : s.Since s.vm 0 := (State.WarmedH.refl s).since 0
 have X0 : Stand p l e room_1 (s.setVm s.vm) m #[(.int i3), (.int i0), (.int i1), (.int i2)] below meth c s₁ [] 0 0 := Stand.of_body Bd
 have e0 : s₁.heap = h0 := by rw [← hh, Bd.state]; rfl
 have hR : CHr Z own_EL s.vm h0 s.vm h0 := CHr.refl hCH
 obtain ⟨hTK, hBel⟩ := X0.known hK.2 hK.1
 have N1 := Fr.nil n0
 show own_G p e below (s₁.setTop (entryFrame m #[(.int i3), (.int i0), (.int i1), (.int i2)] maxLocals)) (own_PW Z own_EL s (own_Q1 Z i3 i0 i1 i2 i00 o0l o0m r0 h0 n0) 40 8896)
 refine own_cast (own_ef0 m i3 i0 i1 i2) ?_
 show own_G p e below (s₁.setTop (mkF m 0 #[iv i3, iv i0, iv i1, iv i2, .unset, .unset, .unset, .unset, .unset, .unset, .unset, .unset, .unset, .unset] [])) _
 refine oS (fun _ => XS.iloadN X0.here hx rfl (hb hby at_0) rfl) ?_
 refine oS (fun _ => XS.iconst X0.here hx rfl (hb hby at_1) ) ?_
 refine oS (fun _ => XS.iand X0.here hx rfl (hb hby at_2) rfl) ?_
 show own_G p e below (s₁.setTop (mkF m 3 #[iv i3, iv i0, iv i1, iv i2, .unset, .unset, .unset, .unset, .unset, .unset, .unset, .unset, .unset, .unset] [(.int (i3 &&& 3))])) _
 rcases own_in4 (own_and3 i3) with q0 | q1 | q2 | q3
 ·skip
  refine own_cast (g' := (mkF m 3 #[iv i3, iv i0, iv i1, iv i2, .unset, .unset, .unset, .unset, .unset, .unset, .unset, .unset, .unset, .unset] [(.int 0)])) (by rw [q0]) ?_
  show own_G p e below (s₁.setTop (mkF m 3 #[iv i3, iv i0, iv i1, iv i2, .unset, .unset, .unset, .unset, .unset, .unset, .unset, .unset, .unset, .unset] [(.int 0)])) _
  refine oS (fun _ => XS.istore X0.here hx rfl (hb hby at_3) rfl (l' := #[iv i3, iv i0, iv i1, iv i2, iv 0, .unset, .unset, .unset, .unset, .unset, .unset, .unset, .unset, .unset]) rfl) ?_
  refine oS (fun _ => XS.iloadN X0.here hx rfl (hb hby at_5) rfl) ?_
  refine oS (fun _ => XS.sipush X0.here hx rfl (hb hby at_6) ) ?_
  refine oS (fun _ => XS.iand X0.here hx rfl (hb hby at_9) rfl) ?_
  refine oS (fun _ => XT.i2c X0.here hx rfl (hb hby at_10) rfl) ?_
  show own_G p e below (s₁.setTop (mkF m 11 #[iv i3, iv i0, iv i1, iv i2, iv 0, .unset, .unset, .unset, .unset, .unset, .unset, .unset, .unset, .unset] [(.int ((i0 &&& 255).toUInt32.toUInt16.toUInt32.toInt32))])) _
  obtain ⟨i03, q4, b08, b09, b0a⟩ := own_chr i0
  refine own_cast (g' := (mkF m 11 #[iv i3, iv i0, iv i1, iv i2, iv 0, .unset, .unset, .unset, .unset, .unset, .unset, .unset, .unset, .unset] [(.int i03)])) (by rw [q4]) ?_
  refine oS (fun _ => XS.istore X0.here hx rfl (hb hby at_11) rfl (l' := #[iv i3, iv i0, iv i1, iv i2, iv 0, iv i03, .unset, .unset, .unset, .unset, .unset, .unset, .unset, .unset]) rfl) ?_
  refine oS (fun _ => XS.iloadN X0.here hx rfl (hb hby at_13) rfl) ?_
  refine oS (fun _ => XS.sipush X0.here hx rfl (hb hby at_14) ) ?_
  refine oS (fun _ => XS.iand X0.here hx rfl (hb hby at_17) rfl) ?_
  refine oS (fun _ => XT.i2c X0.here hx rfl (hb hby at_18) rfl) ?_
  show own_G p e below (s₁.setTop (mkF m 19 #[iv i3, iv i0, iv i1, iv i2, iv 0, iv i03, .unset, .unset, .unset, .unset, .unset, .unset, .unset, .unset] [(.int ((i1 &&& 255).toUInt32.toUInt16.toUInt32.toInt32))])) _
  obtain ⟨i05, q5, b0b, b0c, b0d⟩ := own_chr i1
  refine own_cast (g' := (mkF m 19 #[iv i3, iv i0, iv i1, iv i2, iv 0, iv i03, .unset, .unset, .unset, .unset, .unset, .unset, .unset, .unset] [(.int i05)])) (by rw [q5]) ?_
  refine oS (fun _ => XS.istore X0.here hx rfl (hb hby at_19) rfl (l' := #[iv i3, iv i0, iv i1, iv i2, iv 0, iv i03, iv i05, .unset, .unset, .unset, .unset, .unset, .unset, .unset]) rfl) ?_
  refine oS (fun _ => XS.iloadN X0.here hx rfl (hb hby at_21) rfl) ?_
  refine oS (fun _ => XS.sipush X0.here hx rfl (hb hby at_22) ) ?_
  refine oS (fun _ => XS.iand X0.here hx rfl (hb hby at_25) rfl) ?_
  refine oS (fun _ => XT.i2c X0.here hx rfl (hb hby at_26) rfl) ?_
  show own_G p e below (s₁.setTop (mkF m 27 #[iv i3, iv i0, iv i1, iv i2, iv 0, iv i03, iv i05, .unset, .unset, .unset, .unset, .unset, .unset, .unset] [(.int ((i2 &&& 255).toUInt32.toUInt16.toUInt32.toInt32))])) _
  obtain ⟨i06, q6, b0e, b0f, b0g⟩ := own_chr i2
  refine own_cast (g' := (mkF m 27 #[iv i3, iv i0, iv i1, iv i2, iv 0, iv i03, iv i05, .unset, .unset, .unset, .unset, .unset, .unset, .unset] [(.int i06)])) (by rw [q6]) ?_
  refine oS (fun _ => XS.istore X0.here hx rfl (hb hby at_27) rfl (l' := #[iv i3, iv i0, iv i1, iv i2, iv 0, iv i03, iv i05, iv i06, .unset, .unset, .unset, .unset, .unset, .unset]) rfl) ?_
  refine oS (fun _ => XS.iload X0.here hx rfl (hb hby at_29) rfl) ?_
  refine oS (fun _ => XS.ifNo X0.here hx rfl (hb hby at_31) rfl (XT.i0_ne_f (by decide))) ?_
  refine oS (fun _ => XS.iconst X0.here hx rfl (hb hby at_34) ) ?_
  obtain ⟨T1k, h07, m01, X1n, e1, E8, A01, B0, s0⟩ := own_newP X0 hx hZ (aty := .char) (hw 0) e0 (nm := "[C") rfl (g := (mkF m 35 #[iv i3, iv i0, iv i1, iv i2, iv 0, iv i03, iv i05, iv i06, .unset, .unset, .unset, .unset, .unset, .unset] [(.int 0)])) rfl (hb hby at_35) (n := 0) (rest := []) rfl (by decide) (cap := 0) (by decide) (by decide) (by decide) (by decide)
  obtain ⟨o05, g0⟩ : ∃ z, z = h0.size := ⟨_, rfl⟩
  rw [← g0] at A01 B0 s0
  have F0C : Arv Z h07 o05 m01 .char 0 [] (.int 0) := own_newA A01 (by decide) rfl rfl
  have z0 := E8.1
  have y0H : @LT.lt Nat instLTNat o05 h07.size := F0C.lt
  refine oS s0 ?_
  have R6 : CHr Z own_EL s.vm h0 s.vm h07 := hR.trans (CHr.ext E8 hR.1)
  refine oS (fun _ => XS.astore X1n.here hx rfl (hb hby at_37) rfl rfl (l' := #[iv i3, iv i0, iv i1, iv i2, iv 0, iv i03, iv i05, iv i06, rv o05, .unset, .unset, .unset, .unset, .unset]) rfl) ?_
  refine oS (fun _ => XS.goto X1n.here hx rfl (pc0 := 39) (pc' := 105) rfl (hb hby at_39) (by decide) (by decide)) ?_
  obtain ⟨T02, h00, X1o, e2, E7, A7, D0, U0, s1⟩ := newO X1n hx hZ hown (hw 1) (hw 2) (hw 3) e1 (g := (mkF m 105 #[iv i3, iv i0, iv i1, iv i2, iv 0, iv i03, iv i05, iv i06, rv o05, .unset, .unset, .unset, .unset, .unset] [])) rfl (hb hby at_105) (by decide) (by decide)
  obtain ⟨o03, g1⟩ : ∃ z, z = h07.size := ⟨_, rfl⟩
  rw [← g1] at A7 D0 U0 s1
  have z1 := E7.1
  have y0I : @LT.lt Nat instLTNat o03 h00.size := A7.lt
  refine oS s1 ?_
  have R03 : CHr Z own_EL s.vm h0 s.vm h00 := R6.trans (CHr.ext E7 R6.1)
  have F0L : Fld Z h00 o03 cN2 "value" "[B" .null := D0 (Or.inr (hw 16)) (ty := (.array .byte)) (by decide)
  have F0M : Fld Z h00 o03 cN2 "coder" "B" (.int 0) := D0 (Or.inr (hw 17)) (ty := .byte) (by decide)
  have S0r : Safe Z own_EL s.vm h07 o03 := Safe.new (by omega)
  refine oS (fun _ => XS.dup X1o.here hx rfl (hb hby at_108) rfl rfl) ?_
  refine oS (fun _ => XS.aload X1o.here hx rfl (hb hby at_109) rfl rfl) ?_
  show own_G p e below (T02.setTop (mkF m 111 #[iv i3, iv i0, iv i1, iv i2, iv 0, iv i03, iv i05, iv i06, rv o05, .unset, .unset, .unset, .unset, .unset] [(.ref o05), (.ref o03), (.ref o03)])) _
  have F0D := F0C.ext E7
  have y0 : @LT.lt Nat instLTNat o03 h00.size := by omega
  have N3 : n0 ≤ o03 := by omega
  have y1 : @LT.lt Nat instLTNat o05 h00.size := by omega
  have O07 : Old Z n0 h07 := O6.ext E8
  have O9 : Old Z n0 h00 := O07.ext E7
  have Z0 : n0 ≤ h00.size := by omega
  have S9 := Safe.ext E7 R6.1 S0r
  have y2 : @LT.lt Nat instLTNat o03 h00.size := by omega
  obtain ⟨T03, h06, v0, L0, X1p, e3, q7, hS, hZ, hown, A02, s8⟩ := own_callNW X1o hx hZ hown e2 (y := mN1) (b := o03) (sf := [o03]) rfl (hw 4) (hw 5) (hw 3) (hw 6) (by decide) hS (by omega) hEL R03.1 (sfS S9 sf0) (allS y2 all0) (W := 1) (own_rm4 l Z a0 hw hEL [] o03 o05 m01 h00 n0 Z0 O9 F0D y0 F0L A7 N3 y1 F0M) (by decide) (by decide) (by decide) (by decide) (g := (mkF m 111 #[iv i3, iv i0, iv i1, iv i2, iv 0, iv i03, iv i05, iv i06, rv o05, .unset, .unset, .unset, .unset, .unset] [(.ref o05), (.ref o03), (.ref o03)])) rfl (by rw [hml]; rfl) (argsL := [(.ref o05)]) (rest := [(.ref o03)]) rfl (lenOf own_pd1 rfl) rfl (by show 2 * 0 + _ ≤ _; exact Nat.le_of_eq rfl) (hb hby at_111)
  refine oS s8 ?_
  obtain ⟨o0n, m02, rfl, N8, K3, F0N, F0O, F0P, F0Q, F0R⟩ := q7
  have N9 := Fr.app N1 N8
  have R04 : CHr Z own_EL s.vm h0 T03.vm h06 := R03.trans A02
  have z2 := K3.1
  refine oS (fun _ => XS.astore X1p.here hx rfl (hb hby at_114) rfl rfl (l' := #[iv i3, iv i0, iv i1, iv i2, iv 0, iv i03, iv i05, iv i06, rv o05, rv o03, .unset, .unset, .unset, .unset]) rfl) ?_
  refine oS (fun _ => XS.aload X1p.here hx rfl (hb hby at_116) rfl rfl) ?_
  have y0J : @LT.lt Nat instLTNat o03 h06.size := by omega
  have y3 : @LT.lt Nat instLTNat o03 h06.size := by omega
  have O00 : Old Z n0 h06 := O9.keep K3 (allS N3 all0)
  have Z1 : n0 ≤ h06.size := by omega
  have y4 : @LT.lt Nat instLTNat o03 h00.size := by omega
  have S00 := A02.safe y4 S9
  have y5 : @LT.lt Nat instLTNat o03 h06.size := by omega
  obtain ⟨T04, h04, v1, L1, X13, e4, q8, hS, hZ, hown, A03, s9⟩ := own_callSWK X1p hx hZ hown e3 (y := mN20) (sf := [o03]) (hw 22) (hw 23) (hw 24) (hw 25) (by decide) hS (by omega) hEL R04.1 (sfS S00 sf0) (allS y5 all0) (Vm.MethodsKnown.alikeC (hZ0.alike.symm.trans hZ.alike) hTK) (Vm.FramesKnown.alikeC (hZ0.alike.symm.trans hZ.alike) hBel) (W := 0) (own_rm18 l hl Z a0 hw hEL [] o03 i00 o0n m02 o0l o0m h06 n0 Z1 O00 I0 I1 F0N y3 F0Q F0R F0P F0O I4 I5) (by decide) (by decide) (by decide) (by decide) (g := (mkF m 118 #[iv i3, iv i0, iv i1, iv i2, iv 0, iv i03, iv i05, iv i06, rv o05, rv o03, .unset, .unset, .unset, .unset] [(.ref o03)])) rfl (by rw [hml]; rfl) (argsL := [(.ref o03)]) (rest := []) rfl (lenOf own_pd17 rfl) rfl (by show 2 * 0 + _ ≤ _; exact Nat.le_of_eq rfl) (hb hby at_118)
  refine oS s9 ?_
  obtain ⟨o09, o3, o0g, m3, rfl, N00, K4, F1D, F1E, F1F, F0E, F0S, F0v, F0F, F0G, F0H, F1G, F1H, F1I, F0T, F1J, F0U⟩ := q8
  have N01 := Fr.app N9 N00
  have R05 : CHr Z own_EL s.vm h0 T04.vm h04 := R04.trans A03
  have z3 := K4.1
  refine oS (fun _ => XS.astore X13.here hx rfl (hb hby at_121) rfl rfl (l' := #[iv i3, iv i0, iv i1, iv i2, iv 0, iv i03, iv i05, iv i06, rv o05, rv o03, rv o09, .unset, .unset, .unset]) rfl) ?_
  refine oS (fun _ => XS.aload X13.here hx rfl (hb hby at_123) rfl rfl) ?_
  refine oS (fun _ => XT.ifnonnullYes X13.here hx rfl (pc0 := 125) (pc' := 130) rfl (hb hby at_125) rfl (by decide) (by decide)) ?_
  refine oS (fun _ => XS.aload X13.here hx rfl (hb hby at_130) rfl rfl) ?_
  have O8 : Old Z n0 h04 := O00.keep K4 all0
  have Z2 : n0 ≤ h04.size := by omega
  obtain ⟨T05, h0h, v2, L2, X14, e5, q9, s00⟩ := own_callU X13 hx hZ hown e4 (y := mN32) (z := mN21) (C := cN5) (owner := cN6) (b := o09) (hw 190) (hw 191) (hw 192) (hw 194) (hw 193) (hw 151) (hw 195) (by decide) F0E (W := 0) (own_rm33 l Z a0 hw [] o09 o3 h04 n0 Z2 O8 F0S) (by decide) (by decide) (by decide) (by decide) (g := (mkF m 132 #[iv i3, iv i0, iv i1, iv i2, iv 0, iv i03, iv i05, iv i06, rv o05, rv o03, rv o09, .unset, .unset, .unset] [(.ref o09)])) rfl (by rw [hml]; rfl) (argsL := []) (rest := []) rfl (lenOf own_pd16 rfl) rfl (by show 2 * 0 + _ ≤ _; exact Nat.le_of_eq rfl) (hb hby at_132)
  refine oS s00 ?_
  obtain ⟨rfl, N02, K8⟩ := q9
  have N03 := Fr.app N01 N02
  have e6 := e5.trans K8
  refine oS (fun _ => XS.astore X14.here hx rfl (hb hby at_135) rfl rfl (l' := #[iv i3, iv i0, iv i1, iv i2, iv 0, iv i03, iv i05, iv i06, rv o05, rv o03, rv o09, rv o3, .unset, .unset]) rfl) ?_
  show own_G p e below (T05.setTop (mkF m 137 #[iv i3, iv i0, iv i1, iv i2, iv 0, iv i03, iv i05, iv i06, rv o05, rv o03, rv o09, rv o3, .unset, .unset] [])) _
  refine oS (fun _ => XS.aload X14.here hx rfl (hb hby at_137) rfl rfl) ?_
  refine oS (fun _ => XS.ifnullNo X14.here hx rfl (hb hby at_139) rfl) ?_
  refine oS (fun _ => XS.aload X14.here hx rfl (hb hby at_142) rfl rfl) ?_
  have Z3 : n0 ≤ h04.size := by omega
  obtain ⟨T5, h0i, v3, L3, X1, e7, q00, s01⟩ := own_callV X14 hx hZ hown e6 (y := mN5) (z := mN5) (C := cN2) (b := o3) (hw 196) (hw 58) (notFace_of_selects (args := #[]) (mvT hZ (hw 60))) (hw 60) (hw 59) (hw 3) (hw 61) (by decide) F0v (W := 0) (own_rm21 l Z a0 hw [] i00 m3 o3 o0g h04 n0 Z3 O8 F0F F0H I0 I1 F0G F0v) (by decide) (by decide) (by decide) (by decide) (g := (mkF m 144 #[iv i3, iv i0, iv i1, iv i2, iv 0, iv i03, iv i05, iv i06, rv o05, rv o03, rv o09, rv o3, .unset, .unset] [(.ref o3)])) rfl (by rw [hml]; rfl) (argsL := []) (rest := []) rfl (lenOf own_pd5 rfl) rfl (by show 2 * 0 + _ ≤ _; exact Nat.le_of_eq rfl) (hb hby at_144)
  refine oS s01 ?_
  obtain ⟨rfl, N04, K9⟩ := q00
  have N05 := Fr.app N03 N04
  have e8 := e7.trans K9
  refine oS (fun _ => XS.iload X1.here hx rfl (hb hby at_147) rfl) ?_
  refine oS (fun _ => XS.bipush X1.here hx rfl (hb hby at_149) ) ?_
  refine oS (fun _ => XS.iadd X1.here hx rfl (hb hby at_151) rfl) ?_
  refine oS (fun _ => XS.icmpYes X1.here hx rfl (pc0 := 152) (pc' := 157) rfl (hb hby at_152) rfl (XT.ii_eq_t (by decide)) (by decide) (by decide)) ?_
  refine oS (fun _ => XS.iload X1.here hx rfl (hb hby at_157) rfl) ?_
  refine oS (fun _ => XS.iconst X1.here hx rfl (hb hby at_159) ) ?_
  show own_G p e below (T5.setTop (mkF m 160 #[iv i3, iv i0, iv i1, iv i2, iv 0, iv i03, iv i05, iv i06, rv o05, rv o03, rv o09, rv o3, .unset, .unset] [(.int 1), (.int 0)])) _
  refine oS (fun _ => XS.icmpYes X1.here hx rfl (pc0 := 160) (pc' := 174) rfl (hb hby at_160) rfl (XT.ii_lt_t (by decide)) (by decide) (by decide)) ?_
  refine oS (fun _ => XS.iload X1.here hx rfl (hb hby at_174) rfl) ?_
  refine oS (fun _ => XS.iconst X1.here hx rfl (hb hby at_176) ) ?_
  refine oS (fun _ => XS.icmpYes X1.here hx rfl (pc0 := 177) (pc' := 191) rfl (hb hby at_177) rfl (XT.ii_lt_t (by decide)) (by decide) (by decide)) ?_
  refine oS (fun _ => XS.iload X1.here hx rfl (hb hby at_191) rfl) ?_
  refine oS (fun _ => XS.iconst X1.here hx rfl (hb hby at_193) ) ?_
  refine oS (fun _ => XS.icmpYes X1.here hx rfl (pc0 := 194) (pc' := 208) rfl (hb hby at_194) rfl (XT.ii_lt_t (by decide)) (by decide) (by decide)) ?_
  refine oS (fun _ => XS.iconst X1.here hx rfl (hb hby at_208) ) ?_
  refine oS (fun _ => XS.goto X1.here hx rfl (pc0 := 209) (pc' := 213) rfl (hb hby at_209) (by decide) (by decide)) ?_
  refine oS (fun _ => XS.istore X1.here hx rfl (hb hby at_213) rfl (l' := #[iv i3, iv i0, iv i1, iv i2, iv 0, iv i03, iv i05, iv i06, rv o05, rv o03, rv o09, rv o3, iv 1, .unset]) rfl) ?_
  show own_G p e below (T5.setTop (mkF m 215 #[iv i3, iv i0, iv i1, iv i2, iv 0, iv i03, iv i05, iv i06, rv o05, rv o03, rv o09, rv o3, iv 1, .unset] [])) _
  obtain ⟨o7, T0, h1, k0, o0h, m4, X7, e9, E0, hS, hk, hZ, hown, F0, F1, F2, F3, y6, y7, A3, L4, M3, s02⟩ := ldcCH X1 hx hZ hown (hw 197) (own_sk (own_Wall hw)) e8 hS (by omega) hEL (by decide) R05.1 (vs := [(.int 58), (.int 32), (.int 110), (.int 111), (.int 116), (.int 32), (.int 85), (.int 84), (.int 70), (.int 45), (.int 56), (.int 32), (.int 116), (.int 101), (.int 120), (.int 116)]) (z := 16) ⟨by decide, by decide +kernel⟩ (by decide) rfl (g := (mkF m 215 #[iv i3, iv i0, iv i1, iv i2, iv 0, iv i03, iv i05, iv i06, rv o05, rv o03, rv o09, rv o3, iv 1, .unset] [])) rfl (hb hby at_215) (n := 64) (by decide) (by decide) (by decide) (by decide)
  have z4 := E0.1
  refine oS s02 ?_
  have R0c : CHr Z own_EL s.vm h0 T0.vm h1 := R05.trans A3
  have y0K : @LT.lt Nat instLTNat o7 h1.size := y6
  have y0L : @LT.lt Nat instLTNat o0h h1.size := y7
  have y8 : @LT.lt Nat instLTNat o03 h06.size := by omega
  have S0s := A03.safe y8 S00
  have y9 : @LT.lt Nat instLTNat o03 h04.size := by omega
  have S01 := A3.safe y9 S0s
  have N1J : @Ne Nat o03 o7 := (M3 o03 S01).1
  have N1K : @Ne Nat o03 o0h := (M3 o03 S01).2
  have F0V := Exa.ext E0 F0E
  have S02 : Safe Z own_EL T0.vm h1 o09 := Safe.exa hZ.alike F0V (by decide) (by decide)
  have N1L : @Ne Nat o09 o7 := (M3 o09 S02).1
  have N1M : @Ne Nat o09 o0h := (M3 o09 S02).2
  have N06 : @Ne Nat o05 o03 := by omega
  have F0W := ((F0D.keep K3 (ninS N06 nin0)).keep K4 nin0).ext E0
  have S03 : Safe Z own_EL T0.vm h1 o05 := Safe.arv hZ.alike F0W (by decide)
  have N1N : @Ne Nat o05 o7 := (M3 o05 S03).1
  have N1O : @Ne Nat o05 o0h := (M3 o05 S03).2
  have y00 : @LT.lt Nat instLTNat o3 h04.size := by omega
  have S04 := A3.safe y00 F0T
  have N1P : @Ne Nat o3 o7 := (M3 o3 S04).1
  have N1Q : @Ne Nat o3 o0h := (M3 o3 S04).2
  have y01 : @LT.lt Nat instLTNat o0g h04.size := by omega
  have S05 := A3.safe y01 F0U
  have N1R : @Ne Nat o0g o7 := (M3 o0g S05).1
  have N1S : @Ne Nat o0g o0h := (M3 o0g S05).2
  show own_G p e below (T0.setTop (mkF m 217 #[iv i3, iv i0, iv i1, iv i2, iv 0, iv i03, iv i05, iv i06, rv o05, rv o03, rv o09, rv o3, iv 1, .unset] [(.ref o7)])) _
  refine oS (fun _ => XS.astore X7.here hx rfl (hb hby at_217) rfl rfl (l' := #[iv i3, iv i0, iv i1, iv i2, iv 0, iv i03, iv i05, iv i06, rv o05, rv o03, rv o09, rv o3, iv 1, rv o7]) rfl) ?_
  refine oS (fun _ => XS.iload X7.here hx rfl (hb hby at_219) rfl) ?_
  refine oS (fun _ => XS.ifNo X7.here hx rfl (hb hby at_221) rfl (XT.i0_eq_f (by decide))) ?_
  refine oS (fun _ => XS.aload X7.here hx rfl (hb hby at_224) rfl rfl) ?_
  refine oS (fun _ => XS.iload X7.here hx rfl (hb hby at_226) rfl) ?_
  refine oS (fun _ => XS.aload X7.here hx rfl (hb hby at_228) rfl rfl) ?_
  refine oS (fun _ => XS.iconst X7.here hx rfl (hb hby at_230) ) ?_
  have F4 := Exa.ext E0 F0v
  have F5 := Fld.ext E0 F0G
  have F6 := Fld.ext E0 F0F
  have F7 := F0H.ext E0
  have O0 : Old Z n0 h1 := O8.ext E0
  obtain ⟨T06, h0j, v4, L5, X04, e00, q01, s03⟩ := own_callS X7 hx hZ hown e9 (y := ⟨cN1, "at", "(Ljava/lang/String;ILjava/lang/String;I)Z"⟩) (hw 198) (hw 199) (hw 200) (hw 201) (by decide) (W := 0) (own_c6 l Z a0 hw [] o3 o7 o0g o0h m3 m4 16 16 [(.int 58), (.int 32), (.int 110), (.int 111), (.int 116), (.int 32), (.int 85), (.int 84), (.int 70), (.int 45), (.int 56), (.int 32), (.int 116), (.int 101), (.int 120), (.int 116)] [(.int 58), (.int 32), (.int 110), (.int 111), (.int 116), (.int 32), (.int 85), (.int 84), (.int 70), (.int 45), (.int 56), (.int 32), (.int 116), (.int 101), (.int 120), (.int 116)] 0 0 58 r0 I3 h1 n0 O0 I2 i00 I1 I0 F4 F5 F6 F7 (by decide) rfl F0 F1 F2 F3 (by decide) rfl) (by decide) (by decide) (by decide) (by decide) (g := (mkF m 231 #[iv i3, iv i0, iv i1, iv i2, iv 0, iv i03, iv i05, iv i06, rv o05, rv o03, rv o09, rv o3, iv 1, rv o7] [(.int 0), (.ref o7), (.int 0), (.ref o3)])) rfl (by rw [hml]; rfl) (argsL := [(.ref o3), (.int 0), (.ref o7), (.int 0)]) (rest := []) rfl (lenOf own_pd18 rfl) rfl (by show 2 * 0 + _ ≤ _; exact Nat.le_of_eq rfl) (hb hby at_231)
  refine oS s03 ?_
  obtain ⟨rfl, rfl, r1600⟩ := q01
  have e01 := e00.trans r1600
  have N07 := Fr.app N05 (Fr.nil n0)
  show own_G p e below (T06.setTop (mkF m 234 #[iv i3, iv i0, iv i1, iv i2, iv 0, iv i03, iv i05, iv i06, rv o05, rv o03, rv o09, rv o3, iv 1, rv o7] [(.int 1)])) _
  refine oS (fun _ => XS.ifNo X04.here hx rfl (hb hby at_234) rfl (XT.i0_eq_f (by decide))) ?_
  refine oS (fun _ => XS.aload X04.here hx rfl (hb hby at_237) rfl rfl) ?_
  refine oS (fun _ => XS.iload X04.here hx rfl (hb hby at_239) rfl) ?_
  refine oS (fun _ => XS.aload X04.here hx rfl (hb hby at_241) rfl rfl) ?_
  refine oS (fun _ => XS.iconst X04.here hx rfl (hb hby at_243) ) ?_
  obtain ⟨T07, h0k, v5, L6, X05, e02, q02, s04⟩ := own_callS X04 hx hZ hown e01 (y := ⟨cN1, "at", "(Ljava/lang/String;ILjava/lang/String;I)Z"⟩) (hw 198) (hw 199) (hw 200) (hw 201) (by decide) (W := 0) (own_c6 l Z a0 hw [] o3 o7 o0g o0h m3 m4 16 16 [(.int 58), (.int 32), (.int 110), (.int 111), (.int 116), (.int 32), (.int 85), (.int 84), (.int 70), (.int 45), (.int 56), (.int 32), (.int 116), (.int 101), (.int 120), (.int 116)] [(.int 58), (.int 32), (.int 110), (.int 111), (.int 116), (.int 32), (.int 85), (.int 84), (.int 70), (.int 45), (.int 56), (.int 32), (.int 116), (.int 101), (.int 120), (.int 116)] 0 1 32 r0 I3 h1 n0 O0 I2 i00 I1 I0 F4 F5 F6 F7 (by decide) rfl F0 F1 F2 F3 (by decide) rfl) (by decide) (by decide) (by decide) (by decide) (g := (mkF m 244 #[iv i3, iv i0, iv i1, iv i2, iv 0, iv i03, iv i05, iv i06, rv o05, rv o03, rv o09, rv o3, iv 1, rv o7] [(.int 1), (.ref o7), (.int 0), (.ref o3)])) rfl (by rw [hml]; rfl) (argsL := [(.ref o3), (.int 0), (.ref o7), (.int 1)]) (rest := []) rfl (lenOf own_pd18 rfl) rfl (by show 2 * 0 + _ ≤ _; exact Nat.le_of_eq rfl) (hb hby at_244)
  refine oS s04 ?_
  obtain ⟨rfl, rfl, r1613⟩ := q02
  have e03 := e02.trans r1613
  have N08 := Fr.app N07 (Fr.nil n0)
  show own_G p e below (T07.setTop (mkF m 247 #[iv i3, iv i0, iv i1, iv i2, iv 0, iv i03, iv i05, iv i06, rv o05, rv o03, rv o09, rv o3, iv 1, rv o7] [(.int 1)])) _
  refine oS (fun _ => XS.ifNo X05.here hx rfl (hb hby at_247) rfl (XT.i0_eq_f (by decide))) ?_
  refine oS (fun _ => XS.aload X05.here hx rfl (hb hby at_250) rfl rfl) ?_
  refine oS (fun _ => XS.iload X05.here hx rfl (hb hby at_252) rfl) ?_
  refine oS (fun _ => XS.aload X05.here hx rfl (hb hby at_254) rfl rfl) ?_
  refine oS (fun _ => XS.iconst X05.here hx rfl (hb hby at_256) ) ?_
  obtain ⟨T08, h0l, v6, L7, X06, e04, q03, s05⟩ := own_callS X05 hx hZ hown e03 (y := ⟨cN1, "at", "(Ljava/lang/String;ILjava/lang/String;I)Z"⟩) (hw 198) (hw 199) (hw 200) (hw 201) (by decide) (W := 0) (own_c6 l Z a0 hw [] o3 o7 o0g o0h m3 m4 16 16 [(.int 58), (.int 32), (.int 110), (.int 111), (.int 116), (.int 32), (.int 85), (.int 84), (.int 70), (.int 45), (.int 56), (.int 32), (.int 116), (.int 101), (.int 120), (.int 116)] [(.int 58), (.int 32), (.int 110), (.int 111), (.int 116), (.int 32), (.int 85), (.int 84), (.int 70), (.int 45), (.int 56), (.int 32), (.int 116), (.int 101), (.int 120), (.int 116)] 0 2 110 r0 I3 h1 n0 O0 I2 i00 I1 I0 F4 F5 F6 F7 (by decide) rfl F0 F1 F2 F3 (by decide) rfl) (by decide) (by decide) (by decide) (by decide) (g := (mkF m 257 #[iv i3, iv i0, iv i1, iv i2, iv 0, iv i03, iv i05, iv i06, rv o05, rv o03, rv o09, rv o3, iv 1, rv o7] [(.int 2), (.ref o7), (.int 0), (.ref o3)])) rfl (by rw [hml]; rfl) (argsL := [(.ref o3), (.int 0), (.ref o7), (.int 2)]) (rest := []) rfl (lenOf own_pd18 rfl) rfl (by show 2 * 0 + _ ≤ _; exact Nat.le_of_eq rfl) (hb hby at_257)
  refine oS s05 ?_
  obtain ⟨rfl, rfl, r1626⟩ := q03
  have e05 := e04.trans r1626
  have N09 := Fr.app N08 (Fr.nil n0)
  show own_G p e below (T08.setTop (mkF m 260 #[iv i3, iv i0, iv i1, iv i2, iv 0, iv i03, iv i05, iv i06, rv o05, rv o03, rv o09, rv o3, iv 1, rv o7] [(.int 1)])) _
  refine oS (fun _ => XS.ifNo X06.here hx rfl (hb hby at_260) rfl (XT.i0_eq_f (by decide))) ?_
  refine oS (fun _ => XS.aload X06.here hx rfl (hb hby at_263) rfl rfl) ?_
  refine oS (fun _ => XS.iload X06.here hx rfl (hb hby at_265) rfl) ?_
  refine oS (fun _ => XS.aload X06.here hx rfl (hb hby at_267) rfl rfl) ?_
  refine oS (fun _ => XS.iconst X06.here hx rfl (hb hby at_269) ) ?_
  obtain ⟨T09, h0m, v7, L8, X07, e06, q04, s06⟩ := own_callS X06 hx hZ hown e05 (y := ⟨cN1, "at", "(Ljava/lang/String;ILjava/lang/String;I)Z"⟩) (hw 198) (hw 199) (hw 200) (hw 201) (by decide) (W := 0) (own_c6 l Z a0 hw [] o3 o7 o0g o0h m3 m4 16 16 [(.int 58), (.int 32), (.int 110), (.int 111), (.int 116), (.int 32), (.int 85), (.int 84), (.int 70), (.int 45), (.int 56), (.int 32), (.int 116), (.int 101), (.int 120), (.int 116)] [(.int 58), (.int 32), (.int 110), (.int 111), (.int 116), (.int 32), (.int 85), (.int 84), (.int 70), (.int 45), (.int 56), (.int 32), (.int 116), (.int 101), (.int 120), (.int 116)] 0 3 111 r0 I3 h1 n0 O0 I2 i00 I1 I0 F4 F5 F6 F7 (by decide) rfl F0 F1 F2 F3 (by decide) rfl) (by decide) (by decide) (by decide) (by decide) (g := (mkF m 270 #[iv i3, iv i0, iv i1, iv i2, iv 0, iv i03, iv i05, iv i06, rv o05, rv o03, rv o09, rv o3, iv 1, rv o7] [(.int 3), (.ref o7), (.int 0), (.ref o3)])) rfl (by rw [hml]; rfl) (argsL := [(.ref o3), (.int 0), (.ref o7), (.int 3)]) (rest := []) rfl (lenOf own_pd18 rfl) rfl (by show 2 * 0 + _ ≤ _; exact Nat.le_of_eq rfl) (hb hby at_270)
  refine oS s06 ?_
  obtain ⟨rfl, rfl, r1639⟩ := q04
  have e07 := e06.trans r1639
  have N0a := Fr.app N09 (Fr.nil n0)
  show own_G p e below (T09.setTop (mkF m 273 #[iv i3, iv i0, iv i1, iv i2, iv 0, iv i03, iv i05, iv i06, rv o05, rv o03, rv o09, rv o3, iv 1, rv o7] [(.int 1)])) _
  refine oS (fun _ => XS.ifNo X07.here hx rfl (hb hby at_273) rfl (XT.i0_eq_f (by decide))) ?_
  refine oS (fun _ => XS.aload X07.here hx rfl (hb hby at_276) rfl rfl) ?_
  refine oS (fun _ => XS.iload X07.here hx rfl (hb hby at_278) rfl) ?_
  refine oS (fun _ => XS.aload X07.here hx rfl (hb hby at_280) rfl rfl) ?_
  refine oS (fun _ => XS.iconst X07.here hx rfl (hb hby at_282) ) ?_
  obtain ⟨T0a, h0n, v8, L9, X08, e08, q05, s07⟩ := own_callS X07 hx hZ hown e07 (y := ⟨cN1, "at", "(Ljava/lang/String;ILjava/lang/String;I)Z"⟩) (hw 198) (hw 199) (hw 200) (hw 201) (by decide) (W := 0) (own_c6 l Z a0 hw [] o3 o7 o0g o0h m3 m4 16 16 [(.int 58), (.int 32), (.int 110), (.int 111), (.int 116), (.int 32), (.int 85), (.int 84), (.int 70), (.int 45), (.int 56), (.int 32), (.int 116), (.int 101), (.int 120), (.int 116)] [(.int 58), (.int 32), (.int 110), (.int 111), (.int 116), (.int 32), (.int 85), (.int 84), (.int 70), (.int 45), (.int 56), (.int 32), (.int 116), (.int 101), (.int 120), (.int 116)] 0 4 116 r0 I3 h1 n0 O0 I2 i00 I1 I0 F4 F5 F6 F7 (by decide) rfl F0 F1 F2 F3 (by decide) rfl) (by decide) (by decide) (by decide) (by decide) (g := (mkF m 283 #[iv i3, iv i0, iv i1, iv i2, iv 0, iv i03, iv i05, iv i06, rv o05, rv o03, rv o09, rv o3, iv 1, rv o7] [(.int 4), (.ref o7), (.int 0), (.ref o3)])) rfl (by rw [hml]; rfl) (argsL := [(.ref o3), (.int 0), (.ref o7), (.int 4)]) (rest := []) rfl (lenOf own_pd18 rfl) rfl (by show 2 * 0 + _ ≤ _; exact Nat.le_of_eq rfl) (hb hby at_283)
  refine oS s07 ?_
  obtain ⟨rfl, rfl, r1652⟩ := q05
  have e09 := e08.trans r1652
  have N0b := Fr.app N0a (Fr.nil n0)
  show own_G p e below (T0a.setTop (mkF m 286 #[iv i3, iv i0, iv i1, iv i2, iv 0, iv i03, iv i05, iv i06, rv o05, rv o03, rv o09, rv o3, iv 1, rv o7] [(.int 1)])) _
  refine oS (fun _ => XS.ifNo X08.here hx rfl (hb hby at_286) rfl (XT.i0_eq_f (by decide))) ?_
  refine oS (fun _ => XS.aload X08.here hx rfl (hb hby at_289) rfl rfl) ?_
  refine oS (fun _ => XS.iload X08.here hx rfl (hb hby at_291) rfl) ?_
  refine oS (fun _ => XS.aload X08.here hx rfl (hb hby at_293) rfl rfl) ?_
  refine oS (fun _ => XS.iconst X08.here hx rfl (hb hby at_295) ) ?_
  obtain ⟨T0b, h0o, v9, L00, X09, e0a, q06, s08⟩ := own_callS X08 hx hZ hown e09 (y := ⟨cN1, "at", "(Ljava/lang/String;ILjava/lang/String;I)Z"⟩) (hw 198) (hw 199) (hw 200) (hw 201) (by decide) (W := 0) (own_c6 l Z a0 hw [] o3 o7 o0g o0h m3 m4 16 16 [(.int 58), (.int 32), (.int 110), (.int 111), (.int 116), (.int 32), (.int 85), (.int 84), (.int 70), (.int 45), (.int 56), (.int 32), (.int 116), (.int 101), (.int 120), (.int 116)] [(.int 58), (.int 32), (.int 110), (.int 111), (.int 116), (.int 32), (.int 85), (.int 84), (.int 70), (.int 45), (.int 56), (.int 32), (.int 116), (.int 101), (.int 120), (.int 116)] 0 5 32 r0 I3 h1 n0 O0 I2 i00 I1 I0 F4 F5 F6 F7 (by decide) rfl F0 F1 F2 F3 (by decide) rfl) (by decide) (by decide) (by decide) (by decide) (g := (mkF m 296 #[iv i3, iv i0, iv i1, iv i2, iv 0, iv i03, iv i05, iv i06, rv o05, rv o03, rv o09, rv o3, iv 1, rv o7] [(.int 5), (.ref o7), (.int 0), (.ref o3)])) rfl (by rw [hml]; rfl) (argsL := [(.ref o3), (.int 0), (.ref o7), (.int 5)]) (rest := []) rfl (lenOf own_pd18 rfl) rfl (by show 2 * 0 + _ ≤ _; exact Nat.le_of_eq rfl) (hb hby at_296)
  refine oS s08 ?_
  obtain ⟨rfl, rfl, r1665⟩ := q06
  have e0b := e0a.trans r1665
  have N0c := Fr.app N0b (Fr.nil n0)
  show own_G p e below (T0b.setTop (mkF m 299 #[iv i3, iv i0, iv i1, iv i2, iv 0, iv i03, iv i05, iv i06, rv o05, rv o03, rv o09, rv o3, iv 1, rv o7] [(.int 1)])) _
  refine oS (fun _ => XS.ifNo X09.here hx rfl (hb hby at_299) rfl (XT.i0_eq_f (by decide))) ?_
  refine oS (fun _ => XS.aload X09.here hx rfl (hb hby at_302) rfl rfl) ?_
  refine oS (fun _ => XS.iload X09.here hx rfl (hb hby at_304) rfl) ?_
  refine oS (fun _ => XS.aload X09.here hx rfl (hb hby at_306) rfl rfl) ?_
  refine oS (fun _ => XS.bipush X09.here hx rfl (hb hby at_308) ) ?_
  obtain ⟨T0c, h0p, v00, L01, X0a, e0c, q07, s09⟩ := own_callS X09 hx hZ hown e0b (y := ⟨cN1, "at", "(Ljava/lang/String;ILjava/lang/String;I)Z"⟩) (hw 198) (hw 199) (hw 200) (hw 201) (by decide) (W := 0) (own_c6 l Z a0 hw [] o3 o7 o0g o0h m3 m4 16 16 [(.int 58), (.int 32), (.int 110), (.int 111), (.int 116), (.int 32), (.int 85), (.int 84), (.int 70), (.int 45), (.int 56), (.int 32), (.int 116), (.int 101), (.int 120), (.int 116)] [(.int 58), (.int 32), (.int 110), (.int 111), (.int 116), (.int 32), (.int 85), (.int 84), (.int 70), (.int 45), (.int 56), (.int 32), (.int 116), (.int 101), (.int 120), (.int 116)] 0 6 85 r0 I3 h1 n0 O0 I2 i00 I1 I0 F4 F5 F6 F7 (by decide) rfl F0 F1 F2 F3 (by decide) rfl) (by decide) (by decide) (by decide) (by decide) (g := (mkF m 310 #[iv i3, iv i0, iv i1, iv i2, iv 0, iv i03, iv i05, iv i06, rv o05, rv o03, rv o09, rv o3, iv 1, rv o7] [(.int 6), (.ref o7), (.int 0), (.ref o3)])) rfl (by rw [hml]; rfl) (argsL := [(.ref o3), (.int 0), (.ref o7), (.int 6)]) (rest := []) rfl (lenOf own_pd18 rfl) rfl (by show 2 * 0 + _ ≤ _; exact Nat.le_of_eq rfl) (hb hby at_310)
  refine oS s09 ?_
  obtain ⟨rfl, rfl, r1678⟩ := q07
  have e0d := e0c.trans r1678
  have N0d := Fr.app N0c (Fr.nil n0)
  show own_G p e below (T0c.setTop (mkF m 313 #[iv i3, iv i0, iv i1, iv i2, iv 0, iv i03, iv i05, iv i06, rv o05, rv o03, rv o09, rv o3, iv 1, rv o7] [(.int 1)])) _
  refine oS (fun _ => XS.ifNo X0a.here hx rfl (hb hby at_313) rfl (XT.i0_eq_f (by decide))) ?_
  refine oS (fun _ => XS.aload X0a.here hx rfl (hb hby at_316) rfl rfl) ?_
  refine oS (fun _ => XS.iload X0a.here hx rfl (hb hby at_318) rfl) ?_
  refine oS (fun _ => XS.aload X0a.here hx rfl (hb hby at_320) rfl rfl) ?_
  refine oS (fun _ => XS.bipush X0a.here hx rfl (hb hby at_322) ) ?_
  obtain ⟨T0d, h0q, v01, L02, X0b, e0e, q08, s0a⟩ := own_callS X0a hx hZ hown e0d (y := ⟨cN1, "at", "(Ljava/lang/String;ILjava/lang/String;I)Z"⟩) (hw 198) (hw 199) (hw 200) (hw 201) (by decide) (W := 0) (own_c6 l Z a0 hw [] o3 o7 o0g o0h m3 m4 16 16 [(.int 58), (.int 32), (.int 110), (.int 111), (.int 116), (.int 32), (.int 85), (.int 84), (.int 70), (.int 45), (.int 56), (.int 32), (.int 116), (.int 101), (.int 120), (.int 116)] [(.int 58), (.int 32), (.int 110), (.int 111), (.int 116), (.int 32), (.int 85), (.int 84), (.int 70), (.int 45), (.int 56), (.int 32), (.int 116), (.int 101), (.int 120), (.int 116)] 0 7 84 r0 I3 h1 n0 O0 I2 i00 I1 I0 F4 F5 F6 F7 (by decide) rfl F0 F1 F2 F3 (by decide) rfl) (by decide) (by decide) (by decide) (by decide) (g := (mkF m 324 #[iv i3, iv i0, iv i1, iv i2, iv 0, iv i03, iv i05, iv i06, rv o05, rv o03, rv o09, rv o3, iv 1, rv o7] [(.int 7), (.ref o7), (.int 0), (.ref o3)])) rfl (by rw [hml]; rfl) (argsL := [(.ref o3), (.int 0), (.ref o7), (.int 7)]) (rest := []) rfl (lenOf own_pd18 rfl) rfl (by show 2 * 0 + _ ≤ _; exact Nat.le_of_eq rfl) (hb hby at_324)
  refine oS s0a ?_
  obtain ⟨rfl, rfl, r1691⟩ := q08
  have e0f := e0e.trans r1691
  have N0e := Fr.app N0d (Fr.nil n0)
  show own_G p e below (T0d.setTop (mkF m 327 #[iv i3, iv i0, iv i1, iv i2, iv 0, iv i03, iv i05, iv i06, rv o05, rv o03, rv o09, rv o3, iv 1, rv o7] [(.int 1)])) _
  refine oS (fun _ => XS.ifNo X0b.here hx rfl (hb hby at_327) rfl (XT.i0_eq_f (by decide))) ?_
  refine oS (fun _ => XS.aload X0b.here hx rfl (hb hby at_330) rfl rfl) ?_
  refine oS (fun _ => XS.iload X0b.here hx rfl (hb hby at_332) rfl) ?_
  refine oS (fun _ => XS.aload X0b.here hx rfl (hb hby at_334) rfl rfl) ?_
  refine oS (fun _ => XS.bipush X0b.here hx rfl (hb hby at_336) ) ?_
  obtain ⟨T0e, h0r, v02, L03, X0c, e0g, q09, s0b⟩ := own_callS X0b hx hZ hown e0f (y := ⟨cN1, "at", "(Ljava/lang/String;ILjava/lang/String;I)Z"⟩) (hw 198) (hw 199) (hw 200) (hw 201) (by decide) (W := 0) (own_c6 l Z a0 hw [] o3 o7 o0g o0h m3 m4 16 16 [(.int 58), (.int 32), (.int 110), (.int 111), (.int 116), (.int 32), (.int 85), (.int 84), (.int 70), (.int 45), (.int 56), (.int 32), (.int 116), (.int 101), (.int 120), (.int 116)] [(.int 58), (.int 32), (.int 110), (.int 111), (.int 116), (.int 32), (.int 85), (.int 84), (.int 70), (.int 45), (.int 56), (.int 32), (.int 116), (.int 101), (.int 120), (.int 116)] 0 8 70 r0 I3 h1 n0 O0 I2 i00 I1 I0 F4 F5 F6 F7 (by decide) rfl F0 F1 F2 F3 (by decide) rfl) (by decide) (by decide) (by decide) (by decide) (g := (mkF m 338 #[iv i3, iv i0, iv i1, iv i2, iv 0, iv i03, iv i05, iv i06, rv o05, rv o03, rv o09, rv o3, iv 1, rv o7] [(.int 8), (.ref o7), (.int 0), (.ref o3)])) rfl (by rw [hml]; rfl) (argsL := [(.ref o3), (.int 0), (.ref o7), (.int 8)]) (rest := []) rfl (lenOf own_pd18 rfl) rfl (by show 2 * 0 + _ ≤ _; exact Nat.le_of_eq rfl) (hb hby at_338)
  refine oS s0b ?_
  obtain ⟨rfl, rfl, r1704⟩ := q09
  have e0h := e0g.trans r1704
  have N0f := Fr.app N0e (Fr.nil n0)
  show own_G p e below (T0e.setTop (mkF m 341 #[iv i3, iv i0, iv i1, iv i2, iv 0, iv i03, iv i05, iv i06, rv o05, rv o03, rv o09, rv o3, iv 1, rv o7] [(.int 1)])) _
  refine oS (fun _ => XS.ifNo X0c.here hx rfl (hb hby at_341) rfl (XT.i0_eq_f (by decide))) ?_
  refine oS (fun _ => XS.aload X0c.here hx rfl (hb hby at_344) rfl rfl) ?_
  refine oS (fun _ => XS.iload X0c.here hx rfl (hb hby at_346) rfl) ?_
  refine oS (fun _ => XS.aload X0c.here hx rfl (hb hby at_348) rfl rfl) ?_
  refine oS (fun _ => XS.bipush X0c.here hx rfl (hb hby at_350) ) ?_
  obtain ⟨T0f, h0s, v03, L04, X0d, e0i, q0a, s0c⟩ := own_callS X0c hx hZ hown e0h (y := ⟨cN1, "at", "(Ljava/lang/String;ILjava/lang/String;I)Z"⟩) (hw 198) (hw 199) (hw 200) (hw 201) (by decide) (W := 0) (own_c6 l Z a0 hw [] o3 o7 o0g o0h m3 m4 16 16 [(.int 58), (.int 32), (.int 110), (.int 111), (.int 116), (.int 32), (.int 85), (.int 84), (.int 70), (.int 45), (.int 56), (.int 32), (.int 116), (.int 101), (.int 120), (.int 116)] [(.int 58), (.int 32), (.int 110), (.int 111), (.int 116), (.int 32), (.int 85), (.int 84), (.int 70), (.int 45), (.int 56), (.int 32), (.int 116), (.int 101), (.int 120), (.int 116)] 0 9 45 r0 I3 h1 n0 O0 I2 i00 I1 I0 F4 F5 F6 F7 (by decide) rfl F0 F1 F2 F3 (by decide) rfl) (by decide) (by decide) (by decide) (by decide) (g := (mkF m 352 #[iv i3, iv i0, iv i1, iv i2, iv 0, iv i03, iv i05, iv i06, rv o05, rv o03, rv o09, rv o3, iv 1, rv o7] [(.int 9), (.ref o7), (.int 0), (.ref o3)])) rfl (by rw [hml]; rfl) (argsL := [(.ref o3), (.int 0), (.ref o7), (.int 9)]) (rest := []) rfl (lenOf own_pd18 rfl) rfl (by show 2 * 0 + _ ≤ _; exact Nat.le_of_eq rfl) (hb hby at_352)
  refine oS s0c ?_
  obtain ⟨rfl, rfl, r1717⟩ := q0a
  have e0j := e0i.trans r1717
  have N0g := Fr.app N0f (Fr.nil n0)
  show own_G p e below (T0f.setTop (mkF m 355 #[iv i3, iv i0, iv i1, iv i2, iv 0, iv i03, iv i05, iv i06, rv o05, rv o03, rv o09, rv o3, iv 1, rv o7] [(.int 1)])) _
  refine oS (fun _ => XS.ifNo X0d.here hx rfl (hb hby at_355) rfl (XT.i0_eq_f (by decide))) ?_
  refine oS (fun _ => XS.aload X0d.here hx rfl (hb hby at_358) rfl rfl) ?_
  refine oS (fun _ => XS.iload X0d.here hx rfl (hb hby at_360) rfl) ?_
  refine oS (fun _ => XS.aload X0d.here hx rfl (hb hby at_362) rfl rfl) ?_
  refine oS (fun _ => XS.bipush X0d.here hx rfl (hb hby at_364) ) ?_
  obtain ⟨T0g, h0t, v04, L05, X0e, e0k, q0b, s0d⟩ := own_callS X0d hx hZ hown e0j (y := ⟨cN1, "at", "(Ljava/lang/String;ILjava/lang/String;I)Z"⟩) (hw 198) (hw 199) (hw 200) (hw 201) (by decide) (W := 0) (own_c6 l Z a0 hw [] o3 o7 o0g o0h m3 m4 16 16 [(.int 58), (.int 32), (.int 110), (.int 111), (.int 116), (.int 32), (.int 85), (.int 84), (.int 70), (.int 45), (.int 56), (.int 32), (.int 116), (.int 101), (.int 120), (.int 116)] [(.int 58), (.int 32), (.int 110), (.int 111), (.int 116), (.int 32), (.int 85), (.int 84), (.int 70), (.int 45), (.int 56), (.int 32), (.int 116), (.int 101), (.int 120), (.int 116)] 0 10 56 r0 I3 h1 n0 O0 I2 i00 I1 I0 F4 F5 F6 F7 (by decide) rfl F0 F1 F2 F3 (by decide) rfl) (by decide) (by decide) (by decide) (by decide) (g := (mkF m 366 #[iv i3, iv i0, iv i1, iv i2, iv 0, iv i03, iv i05, iv i06, rv o05, rv o03, rv o09, rv o3, iv 1, rv o7] [(.int 10), (.ref o7), (.int 0), (.ref o3)])) rfl (by rw [hml]; rfl) (argsL := [(.ref o3), (.int 0), (.ref o7), (.int 10)]) (rest := []) rfl (lenOf own_pd18 rfl) rfl (by show 2 * 0 + _ ≤ _; exact Nat.le_of_eq rfl) (hb hby at_366)
  refine oS s0d ?_
  obtain ⟨rfl, rfl, r1730⟩ := q0b
  have e0l := e0k.trans r1730
  have N0h := Fr.app N0g (Fr.nil n0)
  show own_G p e below (T0g.setTop (mkF m 369 #[iv i3, iv i0, iv i1, iv i2, iv 0, iv i03, iv i05, iv i06, rv o05, rv o03, rv o09, rv o3, iv 1, rv o7] [(.int 1)])) _
  refine oS (fun _ => XS.ifNo X0e.here hx rfl (hb hby at_369) rfl (XT.i0_eq_f (by decide))) ?_
  refine oS (fun _ => XS.aload X0e.here hx rfl (hb hby at_372) rfl rfl) ?_
  refine oS (fun _ => XS.iload X0e.here hx rfl (hb hby at_374) rfl) ?_
  refine oS (fun _ => XS.aload X0e.here hx rfl (hb hby at_376) rfl rfl) ?_
  refine oS (fun _ => XS.bipush X0e.here hx rfl (hb hby at_378) ) ?_
  obtain ⟨T0h, h0u, v05, L06, X0f, e0m, q0c, s0e⟩ := own_callS X0e hx hZ hown e0l (y := ⟨cN1, "at", "(Ljava/lang/String;ILjava/lang/String;I)Z"⟩) (hw 198) (hw 199) (hw 200) (hw 201) (by decide) (W := 0) (own_c6 l Z a0 hw [] o3 o7 o0g o0h m3 m4 16 16 [(.int 58), (.int 32), (.int 110), (.int 111), (.int 116), (.int 32), (.int 85), (.int 84), (.int 70), (.int 45), (.int 56), (.int 32), (.int 116), (.int 101), (.int 120), (.int 116)] [(.int 58), (.int 32), (.int 110), (.int 111), (.int 116), (.int 32), (.int 85), (.int 84), (.int 70), (.int 45), (.int 56), (.int 32), (.int 116), (.int 101), (.int 120), (.int 116)] 0 11 32 r0 I3 h1 n0 O0 I2 i00 I1 I0 F4 F5 F6 F7 (by decide) rfl F0 F1 F2 F3 (by decide) rfl) (by decide) (by decide) (by decide) (by decide) (g := (mkF m 380 #[iv i3, iv i0, iv i1, iv i2, iv 0, iv i03, iv i05, iv i06, rv o05, rv o03, rv o09, rv o3, iv 1, rv o7] [(.int 11), (.ref o7), (.int 0), (.ref o3)])) rfl (by rw [hml]; rfl) (argsL := [(.ref o3), (.int 0), (.ref o7), (.int 11)]) (rest := []) rfl (lenOf own_pd18 rfl) rfl (by show 2 * 0 + _ ≤ _; exact Nat.le_of_eq rfl) (hb hby at_380)
  refine oS s0e ?_
  obtain ⟨rfl, rfl, r1743⟩ := q0c
  have e0n := e0m.trans r1743
  have N0i := Fr.app N0h (Fr.nil n0)
  show own_G p e below (T0h.setTop (mkF m 383 #[iv i3, iv i0, iv i1, iv i2, iv 0, iv i03, iv i05, iv i06, rv o05, rv o03, rv o09, rv o3, iv 1, rv o7] [(.int 1)])) _
  refine oS (fun _ => XS.ifNo X0f.here hx rfl (hb hby at_383) rfl (XT.i0_eq_f (by decide))) ?_
  refine oS (fun _ => XS.aload X0f.here hx rfl (hb hby at_386) rfl rfl) ?_
  refine oS (fun _ => XS.iload X0f.here hx rfl (hb hby at_388) rfl) ?_
  refine oS (fun _ => XS.aload X0f.here hx rfl (hb hby at_390) rfl rfl) ?_
  refine oS (fun _ => XS.bipush X0f.here hx rfl (hb hby at_392) ) ?_
  obtain ⟨T0i, h0v, v06, L07, X0g, e0o, q0d, s0f⟩ := own_callS X0f hx hZ hown e0n (y := ⟨cN1, "at", "(Ljava/lang/String;ILjava/lang/String;I)Z"⟩) (hw 198) (hw 199) (hw 200) (hw 201) (by decide) (W := 0) (own_c6 l Z a0 hw [] o3 o7 o0g o0h m3 m4 16 16 [(.int 58), (.int 32), (.int 110), (.int 111), (.int 116), (.int 32), (.int 85), (.int 84), (.int 70), (.int 45), (.int 56), (.int 32), (.int 116), (.int 101), (.int 120), (.int 116)] [(.int 58), (.int 32), (.int 110), (.int 111), (.int 116), (.int 32), (.int 85), (.int 84), (.int 70), (.int 45), (.int 56), (.int 32), (.int 116), (.int 101), (.int 120), (.int 116)] 0 12 116 r0 I3 h1 n0 O0 I2 i00 I1 I0 F4 F5 F6 F7 (by decide) rfl F0 F1 F2 F3 (by decide) rfl) (by decide) (by decide) (by decide) (by decide) (g := (mkF m 394 #[iv i3, iv i0, iv i1, iv i2, iv 0, iv i03, iv i05, iv i06, rv o05, rv o03, rv o09, rv o3, iv 1, rv o7] [(.int 12), (.ref o7), (.int 0), (.ref o3)])) rfl (by rw [hml]; rfl) (argsL := [(.ref o3), (.int 0), (.ref o7), (.int 12)]) (rest := []) rfl (lenOf own_pd18 rfl) rfl (by show 2 * 0 + _ ≤ _; exact Nat.le_of_eq rfl) (hb hby at_394)
  refine oS s0f ?_
  obtain ⟨rfl, rfl, r1756⟩ := q0d
  have e0p := e0o.trans r1756
  have N0j := Fr.app N0i (Fr.nil n0)
  show own_G p e below (T0i.setTop (mkF m 397 #[iv i3, iv i0, iv i1, iv i2, iv 0, iv i03, iv i05, iv i06, rv o05, rv o03, rv o09, rv o3, iv 1, rv o7] [(.int 1)])) _
  refine oS (fun _ => XS.ifNo X0g.here hx rfl (hb hby at_397) rfl (XT.i0_eq_f (by decide))) ?_
  refine oS (fun _ => XS.aload X0g.here hx rfl (hb hby at_400) rfl rfl) ?_
  refine oS (fun _ => XS.iload X0g.here hx rfl (hb hby at_402) rfl) ?_
  refine oS (fun _ => XS.aload X0g.here hx rfl (hb hby at_404) rfl rfl) ?_
  refine oS (fun _ => XS.bipush X0g.here hx rfl (hb hby at_406) ) ?_
  obtain ⟨T0j, h0w, v07, L08, X0h, e0q, q0e, s0g⟩ := own_callS X0g hx hZ hown e0p (y := ⟨cN1, "at", "(Ljava/lang/String;ILjava/lang/String;I)Z"⟩) (hw 198) (hw 199) (hw 200) (hw 201) (by decide) (W := 0) (own_c6 l Z a0 hw [] o3 o7 o0g o0h m3 m4 16 16 [(.int 58), (.int 32), (.int 110), (.int 111), (.int 116), (.int 32), (.int 85), (.int 84), (.int 70), (.int 45), (.int 56), (.int 32), (.int 116), (.int 101), (.int 120), (.int 116)] [(.int 58), (.int 32), (.int 110), (.int 111), (.int 116), (.int 32), (.int 85), (.int 84), (.int 70), (.int 45), (.int 56), (.int 32), (.int 116), (.int 101), (.int 120), (.int 116)] 0 13 101 r0 I3 h1 n0 O0 I2 i00 I1 I0 F4 F5 F6 F7 (by decide) rfl F0 F1 F2 F3 (by decide) rfl) (by decide) (by decide) (by decide) (by decide) (g := (mkF m 408 #[iv i3, iv i0, iv i1, iv i2, iv 0, iv i03, iv i05, iv i06, rv o05, rv o03, rv o09, rv o3, iv 1, rv o7] [(.int 13), (.ref o7), (.int 0), (.ref o3)])) rfl (by rw [hml]; rfl) (argsL := [(.ref o3), (.int 0), (.ref o7), (.int 13)]) (rest := []) rfl (lenOf own_pd18 rfl) rfl (by show 2 * 0 + _ ≤ _; exact Nat.le_of_eq rfl) (hb hby at_408)
  refine oS s0g ?_
  obtain ⟨rfl, rfl, r1769⟩ := q0e
  have e0r := e0q.trans r1769
  have N0k := Fr.app N0j (Fr.nil n0)
  show own_G p e below (T0j.setTop (mkF m 411 #[iv i3, iv i0, iv i1, iv i2, iv 0, iv i03, iv i05, iv i06, rv o05, rv o03, rv o09, rv o3, iv 1, rv o7] [(.int 1)])) _
  refine oS (fun _ => XS.ifNo X0h.here hx rfl (hb hby at_411) rfl (XT.i0_eq_f (by decide))) ?_
  refine oS (fun _ => XS.aload X0h.here hx rfl (hb hby at_414) rfl rfl) ?_
  refine oS (fun _ => XS.iload X0h.here hx rfl (hb hby at_416) rfl) ?_
  refine oS (fun _ => XS.aload X0h.here hx rfl (hb hby at_418) rfl rfl) ?_
  refine oS (fun _ => XS.bipush X0h.here hx rfl (hb hby at_420) ) ?_
  obtain ⟨T0k, h0x, v08, L09, X0i, e0s, q0f, s0h⟩ := own_callS X0h hx hZ hown e0r (y := ⟨cN1, "at", "(Ljava/lang/String;ILjava/lang/String;I)Z"⟩) (hw 198) (hw 199) (hw 200) (hw 201) (by decide) (W := 0) (own_c6 l Z a0 hw [] o3 o7 o0g o0h m3 m4 16 16 [(.int 58), (.int 32), (.int 110), (.int 111), (.int 116), (.int 32), (.int 85), (.int 84), (.int 70), (.int 45), (.int 56), (.int 32), (.int 116), (.int 101), (.int 120), (.int 116)] [(.int 58), (.int 32), (.int 110), (.int 111), (.int 116), (.int 32), (.int 85), (.int 84), (.int 70), (.int 45), (.int 56), (.int 32), (.int 116), (.int 101), (.int 120), (.int 116)] 0 14 120 r0 I3 h1 n0 O0 I2 i00 I1 I0 F4 F5 F6 F7 (by decide) rfl F0 F1 F2 F3 (by decide) rfl) (by decide) (by decide) (by decide) (by decide) (g := (mkF m 422 #[iv i3, iv i0, iv i1, iv i2, iv 0, iv i03, iv i05, iv i06, rv o05, rv o03, rv o09, rv o3, iv 1, rv o7] [(.int 14), (.ref o7), (.int 0), (.ref o3)])) rfl (by rw [hml]; rfl) (argsL := [(.ref o3), (.int 0), (.ref o7), (.int 14)]) (rest := []) rfl (lenOf own_pd18 rfl) rfl (by show 2 * 0 + _ ≤ _; exact Nat.le_of_eq rfl) (hb hby at_422)
  refine oS s0h ?_
  obtain ⟨rfl, rfl, r1782⟩ := q0f
  have e0t := e0s.trans r1782
  have N0l := Fr.app N0k (Fr.nil n0)
  show own_G p e below (T0k.setTop (mkF m 425 #[iv i3, iv i0, iv i1, iv i2, iv 0, iv i03, iv i05, iv i06, rv o05, rv o03, rv o09, rv o3, iv 1, rv o7] [(.int 1)])) _
  refine oS (fun _ => XS.ifNo X0i.here hx rfl (hb hby at_425) rfl (XT.i0_eq_f (by decide))) ?_
  refine oS (fun _ => XS.aload X0i.here hx rfl (hb hby at_428) rfl rfl) ?_
  refine oS (fun _ => XS.iload X0i.here hx rfl (hb hby at_430) rfl) ?_
  refine oS (fun _ => XS.aload X0i.here hx rfl (hb hby at_432) rfl rfl) ?_
  refine oS (fun _ => XS.bipush X0i.here hx rfl (hb hby at_434) ) ?_
  obtain ⟨T0l, h0y, v09, L0a, X1e, e0u, q0g, s0i⟩ := own_callS X0i hx hZ hown e0t (y := ⟨cN1, "at", "(Ljava/lang/String;ILjava/lang/String;I)Z"⟩) (hw 198) (hw 199) (hw 200) (hw 201) (by decide) (W := 0) (own_c6 l Z a0 hw [] o3 o7 o0g o0h m3 m4 16 16 [(.int 58), (.int 32), (.int 110), (.int 111), (.int 116), (.int 32), (.int 85), (.int 84), (.int 70), (.int 45), (.int 56), (.int 32), (.int 116), (.int 101), (.int 120), (.int 116)] [(.int 58), (.int 32), (.int 110), (.int 111), (.int 116), (.int 32), (.int 85), (.int 84), (.int 70), (.int 45), (.int 56), (.int 32), (.int 116), (.int 101), (.int 120), (.int 116)] 0 15 116 r0 I3 h1 n0 O0 I2 i00 I1 I0 F4 F5 F6 F7 (by decide) rfl F0 F1 F2 F3 (by decide) rfl) (by decide) (by decide) (by decide) (by decide) (g := (mkF m 436 #[iv i3, iv i0, iv i1, iv i2, iv 0, iv i03, iv i05, iv i06, rv o05, rv o03, rv o09, rv o3, iv 1, rv o7] [(.int 15), (.ref o7), (.int 0), (.ref o3)])) rfl (by rw [hml]; rfl) (argsL := [(.ref o3), (.int 0), (.ref o7), (.int 15)]) (rest := []) rfl (lenOf own_pd18 rfl) rfl (by show 2 * 0 + _ ≤ _; exact Nat.le_of_eq rfl) (hb hby at_436)
  refine oS s0i ?_
  obtain ⟨rfl, rfl, r1795⟩ := q0g
  have e0v := e0u.trans r1795
  have N0m := Fr.app N0l (Fr.nil n0)
  show own_G p e below (T0l.setTop (mkF m 439 #[iv i3, iv i0, iv i1, iv i2, iv 0, iv i03, iv i05, iv i06, rv o05, rv o03, rv o09, rv o3, iv 1, rv o7] [(.int 1)])) _
  refine oS (fun _ => XS.ifNo X1e.here hx rfl (hb hby at_439) rfl (XT.i0_eq_f (by decide))) ?_
  refine oS (fun _ => XS.iconst X1e.here hx rfl (hb hby at_442) ) ?_
  refine oS (fun _ => XS.goto X1e.here hx rfl (pc0 := 443) (pc' := 447) rfl (hb hby at_443) (by decide) (by decide)) ?_
  have K06 : Keep h0 h1 [] := ((((((Keep.refl h0 []).ext E8).ext E7).trans K3 (allS (Or.inr (by omega)) all0)).trans K4 all0).ext E0)
  exact own_retNW X1e hx (t := .boolean) Bd.notSynchronized Bd.returns (by simp) (hb hby at_447) (by decide) hS hZ hEL hh R0c e0v (by omega) (by decide) (by decide) (fun hA => ⟨rfl, N0m⟩)
 ·skip
  refine own_cast (g' := (mkF m 3 #[iv i3, iv i0, iv i1, iv i2, .unset, .unset, .unset, .unset, .unset, .unset, .unset, .unset, .unset, .unset] [(.int 1)])) (by rw [q1]) ?_
  show own_G p e below (s₁.setTop (mkF m 3 #[iv i3, iv i0, iv i1, iv i2, .unset, .unset, .unset, .unset, .unset, .unset, .unset, .unset, .unset, .unset] [(.int 1)])) _
  refine oS (fun _ => XS.istore X0.here hx rfl (hb hby at_3) rfl (l' := #[iv i3, iv i0, iv i1, iv i2, iv 1, .unset, .unset, .unset, .unset, .unset, .unset, .unset, .unset, .unset]) rfl) ?_
  refine oS (fun _ => XS.iloadN X0.here hx rfl (hb hby at_5) rfl) ?_
  refine oS (fun _ => XS.sipush X0.here hx rfl (hb hby at_6) ) ?_
  refine oS (fun _ => XS.iand X0.here hx rfl (hb hby at_9) rfl) ?_
  refine oS (fun _ => XT.i2c X0.here hx rfl (hb hby at_10) rfl) ?_
  show own_G p e below (s₁.setTop (mkF m 11 #[iv i3, iv i0, iv i1, iv i2, iv 1, .unset, .unset, .unset, .unset, .unset, .unset, .unset, .unset, .unset] [(.int ((i0 &&& 255).toUInt32.toUInt16.toUInt32.toInt32))])) _
  obtain ⟨i9, q0h, b6, b0, b7⟩ := own_chr i0
  refine own_cast (g' := (mkF m 11 #[iv i3, iv i0, iv i1, iv i2, iv 1, .unset, .unset, .unset, .unset, .unset, .unset, .unset, .unset, .unset] [(.int i9)])) (by rw [q0h]) ?_
  refine oS (fun _ => XS.istore X0.here hx rfl (hb hby at_11) rfl (l' := #[iv i3, iv i0, iv i1, iv i2, iv 1, iv i9, .unset, .unset, .unset, .unset, .unset, .unset, .unset, .unset]) rfl) ?_
  refine oS (fun _ => XS.iloadN X0.here hx rfl (hb hby at_13) rfl) ?_
  refine oS (fun _ => XS.sipush X0.here hx rfl (hb hby at_14) ) ?_
  refine oS (fun _ => XS.iand X0.here hx rfl (hb hby at_17) rfl) ?_
  refine oS (fun _ => XT.i2c X0.here hx rfl (hb hby at_18) rfl) ?_
  show own_G p e below (s₁.setTop (mkF m 19 #[iv i3, iv i0, iv i1, iv i2, iv 1, iv i9, .unset, .unset, .unset, .unset, .unset, .unset, .unset, .unset] [(.int ((i1 &&& 255).toUInt32.toUInt16.toUInt32.toInt32))])) _
  obtain ⟨i02, q0i, b0h, b0i, b0j⟩ := own_chr i1
  refine own_cast (g' := (mkF m 19 #[iv i3, iv i0, iv i1, iv i2, iv 1, iv i9, .unset, .unset, .unset, .unset, .unset, .unset, .unset, .unset] [(.int i02)])) (by rw [q0i]) ?_
  refine oS (fun _ => XS.istore X0.here hx rfl (hb hby at_19) rfl (l' := #[iv i3, iv i0, iv i1, iv i2, iv 1, iv i9, iv i02, .unset, .unset, .unset, .unset, .unset, .unset, .unset]) rfl) ?_
  refine oS (fun _ => XS.iloadN X0.here hx rfl (hb hby at_21) rfl) ?_
  refine oS (fun _ => XS.sipush X0.here hx rfl (hb hby at_22) ) ?_
  refine oS (fun _ => XS.iand X0.here hx rfl (hb hby at_25) rfl) ?_
  refine oS (fun _ => XT.i2c X0.here hx rfl (hb hby at_26) rfl) ?_
  show own_G p e below (s₁.setTop (mkF m 27 #[iv i3, iv i0, iv i1, iv i2, iv 1, iv i9, iv i02, .unset, .unset, .unset, .unset, .unset, .unset, .unset] [(.int ((i2 &&& 255).toUInt32.toUInt16.toUInt32.toInt32))])) _
  obtain ⟨i04, q0j, b0k, b0l, b0m⟩ := own_chr i2
  refine own_cast (g' := (mkF m 27 #[iv i3, iv i0, iv i1, iv i2, iv 1, iv i9, iv i02, .unset, .unset, .unset, .unset, .unset, .unset, .unset] [(.int i04)])) (by rw [q0j]) ?_
  refine oS (fun _ => XS.istore X0.here hx rfl (hb hby at_27) rfl (l' := #[iv i3, iv i0, iv i1, iv i2, iv 1, iv i9, iv i02, iv i04, .unset, .unset, .unset, .unset, .unset, .unset]) rfl) ?_
  refine oS (fun _ => XS.iload X0.here hx rfl (hb hby at_29) rfl) ?_
  refine oS (fun _ => XS.ifYes X0.here hx rfl (pc0 := 31) (pc' := 42) rfl (hb hby at_31) rfl (XT.i0_ne_t (by decide)) (by decide) (by decide)) ?_
  refine oS (fun _ => XS.iload X0.here hx rfl (hb hby at_42) rfl) ?_
  refine oS (fun _ => XS.iconst X0.here hx rfl (hb hby at_44) ) ?_
  refine oS (fun _ => XS.icmpNo X0.here hx rfl (hb hby at_45) rfl (XT.ii_ne_f (by decide))) ?_
  refine oS (fun _ => XS.iconst X0.here hx rfl (hb hby at_48) ) ?_
  obtain ⟨T0m, h08, m00, X1f, e0w, E9, A04, B1, s2⟩ := own_newP X0 hx hZ (aty := .char) (hw 0) e0 (nm := "[C") rfl (g := (mkF m 49 #[iv i3, iv i0, iv i1, iv i2, iv 1, iv i9, iv i02, iv i04, .unset, .unset, .unset, .unset, .unset, .unset] [(.int 1)])) rfl (hb hby at_49) (n := 1) (rest := []) rfl (by decide) (cap := 1) (by decide) (by decide) (by decide) (by decide)
  obtain ⟨o04, g2⟩ : ∃ z, z = h0.size := ⟨_, rfl⟩
  rw [← g2] at A04 B1 s2
  have F0w : Arv Z h08 o04 m00 .char 1 [(.int 0)] (.int 0) := own_newA A04 (by decide) rfl rfl
  have z5 := E9.1
  have y0M : @LT.lt Nat instLTNat o04 h08.size := F0w.lt
  refine oS s2 ?_
  have R7 : CHr Z own_EL s.vm h0 s.vm h08 := hR.trans (CHr.ext E9 hR.1)
  refine oS (fun _ => XS.dup X1f.here hx rfl (hb hby at_51) rfl rfl) ?_
  refine oS (fun _ => XS.iconst X1f.here hx rfl (hb hby at_52) ) ?_
  show own_G p e below (T0m.setTop (mkF m 53 #[iv i3, iv i0, iv i1, iv i2, iv 1, iv i9, iv i02, iv i04, .unset, .unset, .unset, .unset, .unset, .unset] [(.int 0), (.ref o04), (.ref o04)])) _
  refine oS (fun _ => XS.iload X1f.here hx rfl (hb hby at_53) rfl) ?_
  obtain ⟨T1l, h09, X1g, e0x, W0, A07, s0j⟩ := own_stC X1f hx hZ e0w F0w (x' := i9) 0 b7 rfl (by decide) (by simp) (g := (mkF m 55 #[iv i3, iv i0, iv i1, iv i2, iv 1, iv i9, iv i02, iv i04, .unset, .unset, .unset, .unset, .unset, .unset] [(.int i9), (.int 0), (.ref o04), (.ref o04)])) rfl (rest := [(.ref o04)]) rfl (hb hby at_55)
  have S3 : Safe Z own_EL s.vm h08 o04 := Safe.arv hZ.alike F0w (by decide)
  have N4 : n0 ≤ o04 := by omega
  have N0n := Fr.snoc X1g N1 N4
  have z6 := W0.size
  have F0X : Arv Z h09 o04 m00 .char 1 [(.int i9)] (.int 0) := A07
  refine oS s0j ?_
  have R3 : CHr Z own_EL s.vm h0 s.vm h09 := R7.trans (CHr.wr W0 S3 R7.1)
  refine oS (fun _ => XS.astore X1g.here hx rfl (hb hby at_56) rfl rfl (l' := #[iv i3, iv i0, iv i1, iv i2, iv 1, iv i9, iv i02, iv i04, rv o04, .unset, .unset, .unset, .unset, .unset]) rfl) ?_
  refine oS (fun _ => XS.goto X1g.here hx rfl (pc0 := 58) (pc' := 105) rfl (hb hby at_58) (by decide) (by decide)) ?_
  obtain ⟨T1m, h05, X1q, e0y, E4, A8, D1, U1, s3⟩ := newO X1g hx hZ hown (hw 1) (hw 2) (hw 3) e0x (g := (mkF m 105 #[iv i3, iv i0, iv i1, iv i2, iv 1, iv i9, iv i02, iv i04, rv o04, .unset, .unset, .unset, .unset, .unset] [])) rfl (hb hby at_105) (by decide) (by decide)
  obtain ⟨o02, g3⟩ : ∃ z, z = h09.size := ⟨_, rfl⟩
  rw [← g3] at A8 D1 U1 s3
  have z7 := E4.1
  have y0N : @LT.lt Nat instLTNat o02 h05.size := A8.lt
  refine oS s3 ?_
  have R0 : CHr Z own_EL s.vm h0 s.vm h05 := R3.trans (CHr.ext E4 R3.1)
  have F0Y : Fld Z h05 o02 cN2 "value" "[B" .null := D1 (Or.inr (hw 16)) (ty := (.array .byte)) (by decide)
  have F0Z : Fld Z h05 o02 cN2 "coder" "B" (.int 0) := D1 (Or.inr (hw 17)) (ty := .byte) (by decide)
  have S0t : Safe Z own_EL s.vm h09 o02 := Safe.new (by omega)
  refine oS (fun _ => XS.dup X1q.here hx rfl (hb hby at_108) rfl rfl) ?_
  refine oS (fun _ => XS.aload X1q.here hx rfl (hb hby at_109) rfl rfl) ?_
  have F10 := F0X.ext E4
  have N5 : n0 ≤ o02 := by omega
  have y02 : @LT.lt Nat instLTNat o02 h05.size := by omega
  have O08 : Old Z n0 h08 := O6.ext E9
  have O09 : Old Z n0 h09 := O08.wr W0 N4
  have O01 : Old Z n0 h05 := O09.ext E4
  have Z4 : n0 ≤ h05.size := by omega
  obtain ⟨T0n, h01, v0a, L0b, X1r, e0z, q0k, s0k⟩ := own_callN X1q hx hZ hown e0y (y := mN1) (b := o02) rfl (hw 4) (hw 5) (hw 3) (hw 6) (by decide) (W := 1) (own_rm34 l Z a0 hw [] i9 i00 m00 o02 o04 h05 n0 Z4 O01 F10 I0 I1 b0 F0Z A8 N5 F0Y y02) (by decide) (by decide) (by decide) (by decide) (g := (mkF m 111 #[iv i3, iv i0, iv i1, iv i2, iv 1, iv i9, iv i02, iv i04, rv o04, .unset, .unset, .unset, .unset, .unset] [(.ref o04), (.ref o02), (.ref o02)])) rfl (by rw [hml]; rfl) (argsL := [(.ref o04)]) (rest := [(.ref o02)]) rfl (lenOf own_pd1 rfl) rfl (by show 2 * 0 + _ ≤ _; exact Nat.le_of_eq rfl) (hb hby at_111)
  refine oS s0k ?_
  obtain ⟨o0i, m03, rfl, N0o, K0, F1K, F11, F12, F13, F14, F1L, F15⟩ := q0k
  have N0p := Fr.app N0n N0o
  have S0 := Safe.ext E4 R3.1 S0t
  have R06 : CHr Z own_EL s.vm h0 s.vm h01 := R0.trans (CHr.keep K0 (sfS S0 sf0) R0.1)
  have z8 := K0.1
  have S0u : Safe Z own_EL s.vm h05 o0i := Safe.new (by omega)
  refine oS (fun _ => XS.astore X1r.here hx rfl (hb hby at_114) rfl rfl (l' := #[iv i3, iv i0, iv i1, iv i2, iv 1, iv i9, iv i02, iv i04, rv o04, rv o02, .unset, .unset, .unset, .unset]) rfl) ?_
  refine oS (fun _ => XS.aload X1r.here hx rfl (hb hby at_116) rfl rfl) ?_
  show own_G p e below (T0n.setTop (mkF m 118 #[iv i3, iv i0, iv i1, iv i2, iv 1, iv i9, iv i02, iv i04, rv o04, rv o02, .unset, .unset, .unset, .unset] [(.ref o02)])) _
  have y0O : @LT.lt Nat instLTNat o02 h01.size := by omega
  have y0P : @LT.lt Nat instLTNat o02 h01.size := by omega
  have y03 : @LT.lt Nat instLTNat o02 h01.size := by omega
  have O02 : Old Z n0 h01 := O01.keep K0 (allS N5 all0)
  have Z5 : n0 ≤ h01.size := by omega
  have S06 := Safe.keep K0 (sfS S0 sf0) R0.1 S0
  have y04 : @LT.lt Nat instLTNat o02 h01.size := by omega
  obtain ⟨T0o, h8, v0b, L0c, X15, e0A, q0l, hS, hZ, hown, A4, s0l⟩ := own_callSWK X1r hx hZ hown e0z (y := mN20) (sf := [o02]) (hw 22) (hw 23) (hw 24) (hw 25) (by decide) hS (by omega) hEL R06.1 (sfS S06 sf0) (allS y04 all0) (Vm.MethodsKnown.alikeC (hZ0.alike.symm.trans hZ.alike) hTK) (Vm.FramesKnown.alikeC (hZ0.alike.symm.trans hZ.alike) hBel) (W := 0) (own_rm46 l hl Z a0 hw hEL [] o02 i00 o0i m03 i9 o0l o0m h01 n0 Z5 O02 I0 I1 F13 y03 F14 F15 F11 F12 I4 I5) (by decide) (by decide) (by decide) (by decide) (g := (mkF m 118 #[iv i3, iv i0, iv i1, iv i2, iv 1, iv i9, iv i02, iv i04, rv o04, rv o02, .unset, .unset, .unset, .unset] [(.ref o02)])) rfl (by rw [hml]; rfl) (argsL := [(.ref o02)]) (rest := []) rfl (lenOf own_pd17 rfl) rfl (by show 2 * 0 + _ ≤ _; exact Nat.le_of_eq rfl) (hb hby at_118)
  refine oS s0l ?_
  obtain ⟨o08, o2, o0c, m2, rfl, N0q, K5, F1M, F1N, F1O, F0I, F16, F0o, F0x, F0y, F0z, F1P, F1Q, F1R, F17, F1S, F18⟩ := q0l
  have N0r := Fr.app N0p N0q
  have R07 : CHr Z own_EL s.vm h0 T0o.vm h8 := R06.trans A4
  have z9 := K5.1
  refine oS (fun _ => XS.astore X15.here hx rfl (hb hby at_121) rfl rfl (l' := #[iv i3, iv i0, iv i1, iv i2, iv 1, iv i9, iv i02, iv i04, rv o04, rv o02, rv o08, .unset, .unset, .unset]) rfl) ?_
  refine oS (fun _ => XS.aload X15.here hx rfl (hb hby at_123) rfl rfl) ?_
  refine oS (fun _ => XT.ifnonnullYes X15.here hx rfl (pc0 := 125) (pc' := 130) rfl (hb hby at_125) rfl (by decide) (by decide)) ?_
  refine oS (fun _ => XS.aload X15.here hx rfl (hb hby at_130) rfl rfl) ?_
  have O7 : Old Z n0 h8 := O02.keep K5 all0
  have Z6 : n0 ≤ h8.size := by omega
  obtain ⟨T0p, h0z, v0c, L0d, X16, e0B, q0m, s0m⟩ := own_callU X15 hx hZ hown e0A (y := mN32) (z := mN21) (C := cN5) (owner := cN6) (b := o08) (hw 190) (hw 191) (hw 192) (hw 194) (hw 193) (hw 151) (hw 195) (by decide) F0I (W := 0) (own_rm33 l Z a0 hw [] o08 o2 h8 n0 Z6 O7 F16) (by decide) (by decide) (by decide) (by decide) (g := (mkF m 132 #[iv i3, iv i0, iv i1, iv i2, iv 1, iv i9, iv i02, iv i04, rv o04, rv o02, rv o08, .unset, .unset, .unset] [(.ref o08)])) rfl (by rw [hml]; rfl) (argsL := []) (rest := []) rfl (lenOf own_pd16 rfl) rfl (by show 2 * 0 + _ ≤ _; exact Nat.le_of_eq rfl) (hb hby at_132)
  refine oS s0m ?_
  obtain ⟨rfl, N0s, K00⟩ := q0m
  have N0t := Fr.app N0r N0s
  have e0C := e0B.trans K00
  refine oS (fun _ => XS.astore X16.here hx rfl (hb hby at_135) rfl rfl (l' := #[iv i3, iv i0, iv i1, iv i2, iv 1, iv i9, iv i02, iv i04, rv o04, rv o02, rv o08, rv o2, .unset, .unset]) rfl) ?_
  refine oS (fun _ => XS.aload X16.here hx rfl (hb hby at_137) rfl rfl) ?_
  refine oS (fun _ => XS.ifnullNo X16.here hx rfl (hb hby at_139) rfl) ?_
  refine oS (fun _ => XS.aload X16.here hx rfl (hb hby at_142) rfl rfl) ?_
  show own_G p e below (T0p.setTop (mkF m 144 #[iv i3, iv i0, iv i1, iv i2, iv 1, iv i9, iv i02, iv i04, rv o04, rv o02, rv o08, rv o2, .unset, .unset] [(.ref o2)])) _
  have Z7 : n0 ≤ h8.size := by omega
  obtain ⟨T0q, h0A, v0d, L0e, X3, e0D, q0n, s0n⟩ := own_callV X16 hx hZ hown e0C (y := mN5) (z := mN5) (C := cN2) (b := o2) (hw 196) (hw 58) (notFace_of_selects (args := #[]) (mvT hZ (hw 60))) (hw 60) (hw 59) (hw 3) (hw 61) (by decide) F0o (W := 0) (own_rm66 l Z a0 hw [] i9 i00 m2 o2 o0c h8 n0 Z7 O7 F0x F0z I0 I1 F0y F0o) (by decide) (by decide) (by decide) (by decide) (g := (mkF m 144 #[iv i3, iv i0, iv i1, iv i2, iv 1, iv i9, iv i02, iv i04, rv o04, rv o02, rv o08, rv o2, .unset, .unset] [(.ref o2)])) rfl (by rw [hml]; rfl) (argsL := []) (rest := []) rfl (lenOf own_pd5 rfl) rfl (by show 2 * 0 + _ ≤ _; exact Nat.le_of_eq rfl) (hb hby at_144)
  refine oS s0n ?_
  obtain ⟨rfl, N0u, K01⟩ := q0n
  have N0v := Fr.app N0t N0u
  have e0E := e0D.trans K01
  refine oS (fun _ => XS.iload X3.here hx rfl (hb hby at_147) rfl) ?_
  refine oS (fun _ => XS.bipush X3.here hx rfl (hb hby at_149) ) ?_
  refine oS (fun _ => XS.iadd X3.here hx rfl (hb hby at_151) rfl) ?_
  refine oS (fun _ => XS.icmpYes X3.here hx rfl (pc0 := 152) (pc' := 157) rfl (hb hby at_152) rfl (XT.ii_eq_t (by decide)) (by decide) (by decide)) ?_
  refine oS (fun _ => XS.iload X3.here hx rfl (hb hby at_157) rfl) ?_
  refine oS (fun _ => XS.iconst X3.here hx rfl (hb hby at_159) ) ?_
  refine oS (fun _ => XS.icmpNo X3.here hx rfl (hb hby at_160) rfl (XT.ii_lt_f (by decide))) ?_
  refine oS (fun _ => XS.aload X3.here hx rfl (hb hby at_163) rfl rfl) ?_
  refine oS (fun _ => XS.iconst X3.here hx rfl (hb hby at_165) ) ?_
  show own_G p e below (T0q.setTop (mkF m 166 #[iv i3, iv i0, iv i1, iv i2, iv 1, iv i9, iv i02, iv i04, rv o04, rv o02, rv o08, rv o2, .unset, .unset] [(.int 0), (.ref o2)])) _
  obtain ⟨T1, h0B, v0e, L0f, X2, e0F, q0o, s0o⟩ := own_callV X3 hx hZ hown e0E (y := ⟨cN2, "charAt", "(I)C"⟩) (z := ⟨cN2, "charAt", "(I)C"⟩) (C := cN2) (b := o2) (hw 202) (hw 203) (notFace_of_selects (args := #[]) (mvT hZ (hw 205))) (hw 205) (hw 204) (hw 3) (hw 206) (by decide) F0o (W := 0) (own_c5 l Z a0 hw [] o2 o0c m2 17 [(.int (i9.toInt8.toInt32)), (.int 58), (.int 32), (.int 110), (.int 111), (.int 116), (.int 32), (.int 85), (.int 84), (.int 70), (.int 45), (.int 56), (.int 32), (.int 116), (.int 101), (.int 120), (.int 116)] 0 (i9.toInt8.toInt32) r0 I3 h8 n0 O7 I2 i00 I1 I0 F0o F0y F0x F0z (by decide) rfl) (by decide) (by decide) (by decide) (by decide) (g := (mkF m 166 #[iv i3, iv i0, iv i1, iv i2, iv 1, iv i9, iv i02, iv i04, rv o04, rv o02, rv o08, rv o2, .unset, .unset] [(.int 0), (.ref o2)])) rfl (by rw [hml]; rfl) (argsL := [(.int 0)]) (rest := []) rfl (lenOf own_pc5 rfl) rfl (by show 2 * 0 + _ ≤ _; exact Nat.le_of_eq rfl) (hb hby at_166)
  refine oS s0o ?_
  obtain ⟨rfl, rfl, r3436⟩ := q0o
  have e0G := e0F.trans r3436
  have N0w := Fr.app N0v (Fr.nil n0)
  show own_G p e below (T1.setTop (mkF m 169 #[iv i3, iv i0, iv i1, iv i2, iv 1, iv i9, iv i02, iv i04, rv o04, rv o02, rv o08, rv o2, .unset, .unset] [(.int (own_ch (i9.toInt8.toInt32)))])) _
  refine own_cast (g' := (mkF m 169 #[iv i3, iv i0, iv i1, iv i2, iv 1, iv i9, iv i02, iv i04, rv o04, rv o02, rv o08, rv o2, .unset, .unset] [(.int i9)])) (by rw [own_chb b6 b0]) ?_
  show own_G p e below (T1.setTop (mkF m 169 #[iv i3, iv i0, iv i1, iv i2, iv 1, iv i9, iv i02, iv i04, rv o04, rv o02, rv o08, rv o2, .unset, .unset] [(.int i9)])) _
  refine oS (fun _ => XS.iload X2.here hx rfl (hb hby at_169) rfl) ?_
  refine oS (fun _ => XS.icmpNo X2.here hx rfl (hb hby at_171) rfl (XT.ii_ne_f rfl)) ?_
  refine oS (fun _ => XS.iload X2.here hx rfl (hb hby at_174) rfl) ?_
  refine oS (fun _ => XS.iconst X2.here hx rfl (hb hby at_176) ) ?_
  refine oS (fun _ => XS.icmpYes X2.here hx rfl (pc0 := 177) (pc' := 191) rfl (hb hby at_177) rfl (XT.ii_lt_t (by decide)) (by decide) (by decide)) ?_
  refine oS (fun _ => XS.iload X2.here hx rfl (hb hby at_191) rfl) ?_
  refine oS (fun _ => XS.iconst X2.here hx rfl (hb hby at_193) ) ?_
  refine oS (fun _ => XS.icmpYes X2.here hx rfl (pc0 := 194) (pc' := 208) rfl (hb hby at_194) rfl (XT.ii_lt_t (by decide)) (by decide) (by decide)) ?_
  refine oS (fun _ => XS.iconst X2.here hx rfl (hb hby at_208) ) ?_
  refine oS (fun _ => XS.goto X2.here hx rfl (pc0 := 209) (pc' := 213) rfl (hb hby at_209) (by decide) (by decide)) ?_
  show own_G p e below (T1.setTop (mkF m 213 #[iv i3, iv i0, iv i1, iv i2, iv 1, iv i9, iv i02, iv i04, rv o04, rv o02, rv o08, rv o2, .unset, .unset] [(.int 1)])) _
  refine oS (fun _ => XS.istore X2.here hx rfl (hb hby at_213) rfl (l' := #[iv i3, iv i0, iv i1, iv i2, iv 1, iv i9, iv i02, iv i04, rv o04, rv o02, rv o08, rv o2, iv 1, .unset]) rfl) ?_
  obtain ⟨o4, T2, h2, k1, o0d, m5, X8, e0H, E1, hS, hk, hZ, hown, F8, F9, F00, F01, y05, y06, A0, L0g, M0, s0p⟩ := ldcCH X2 hx hZ hown (hw 197) (own_sk (own_Wall hw)) e0G hS (by omega) hEL (by decide) R07.1 (vs := [(.int 58), (.int 32), (.int 110), (.int 111), (.int 116), (.int 32), (.int 85), (.int 84), (.int 70), (.int 45), (.int 56), (.int 32), (.int 116), (.int 101), (.int 120), (.int 116)]) (z := 16) ⟨by decide, by decide +kernel⟩ (by decide) rfl (g := (mkF m 215 #[iv i3, iv i0, iv i1, iv i2, iv 1, iv i9, iv i02, iv i04, rv o04, rv o02, rv o08, rv o2, iv 1, .unset] [])) rfl (hb hby at_215) (n := 64) (by decide) (by decide) (by decide) (by decide)
  have z00 := E1.1
  refine oS s0p ?_
  have R0d : CHr Z own_EL s.vm h0 T2.vm h2 := R07.trans A0
  have y0Q : @LT.lt Nat instLTNat o4 h2.size := y05
  have y0R : @LT.lt Nat instLTNat o0d h2.size := y06
  have S0v := Safe.wr W0 S3 R7.1 S3
  have S0w := Safe.ext E4 R3.1 S0v
  have S0x := Safe.keep K0 (sfS S0 sf0) R0.1 S0w
  have y07 : @LT.lt Nat instLTNat o04 h01.size := by omega
  have S0y := A4.safe y07 S0x
  have y08 : @LT.lt Nat instLTNat o04 h8.size := by omega
  have S07 := A0.safe y08 S0y
  have N1T : @Ne Nat o04 o4 := (M0 o04 S07).1
  have N1U : @Ne Nat o04 o0d := (M0 o04 S07).2
  have y09 : @LT.lt Nat instLTNat o02 h01.size := by omega
  have S0z := A4.safe y09 S06
  have y0a : @LT.lt Nat instLTNat o02 h8.size := by omega
  have S08 := A0.safe y0a S0z
  have N1V : @Ne Nat o02 o4 := (M0 o02 S08).1
  have N1W : @Ne Nat o02 o0d := (M0 o02 S08).2
  have y0b : @LT.lt Nat instLTNat o0c h8.size := by omega
  have S09 := A0.safe y0b F18
  have N1X : @Ne Nat o0c o4 := (M0 o0c S09).1
  have N1Y : @Ne Nat o0c o0d := (M0 o0c S09).2
  have y0c : @LT.lt Nat instLTNat o2 h8.size := by omega
  have S0a := A0.safe y0c F17
  have N1Z : @Ne Nat o2 o4 := (M0 o2 S0a).1
  have N20 : @Ne Nat o2 o0d := (M0 o2 S0a).2
  have F19 := Exa.ext E1 F0I
  have S0b : Safe Z own_EL T2.vm h2 o08 := Safe.exa hZ.alike F19 (by decide) (by decide)
  have N21 : @Ne Nat o08 o4 := (M0 o08 S0b).1
  have N22 : @Ne Nat o08 o0d := (M0 o08 S0b).2
  have S0A := Safe.keep K0 (sfS S0 sf0) R0.1 S0u
  have y0d : @LT.lt Nat instLTNat o0i h01.size := by omega
  have S0B := A4.safe y0d S0A
  have y0e : @LT.lt Nat instLTNat o0i h8.size := by omega
  have S0c := A0.safe y0e S0B
  have N23 : @Ne Nat o0i o4 := (M0 o0i S0c).1
  have N24 : @Ne Nat o0i o0d := (M0 o0i S0c).2
  show own_G p e below (T2.setTop (mkF m 217 #[iv i3, iv i0, iv i1, iv i2, iv 1, iv i9, iv i02, iv i04, rv o04, rv o02, rv o08, rv o2, iv 1, .unset] [(.ref o4)])) _
  refine oS (fun _ => XS.astore X8.here hx rfl (hb hby at_217) rfl rfl (l' := #[iv i3, iv i0, iv i1, iv i2, iv 1, iv i9, iv i02, iv i04, rv o04, rv o02, rv o08, rv o2, iv 1, rv o4]) rfl) ?_
  refine oS (fun _ => XS.iload X8.here hx rfl (hb hby at_219) rfl) ?_
  refine oS (fun _ => XS.ifNo X8.here hx rfl (hb hby at_221) rfl (XT.i0_eq_f (by decide))) ?_
  refine oS (fun _ => XS.aload X8.here hx rfl (hb hby at_224) rfl rfl) ?_
  refine oS (fun _ => XS.iload X8.here hx rfl (hb hby at_226) rfl) ?_
  refine oS (fun _ => XS.aload X8.here hx rfl (hb hby at_228) rfl rfl) ?_
  refine oS (fun _ => XS.iconst X8.here hx rfl (hb hby at_230) ) ?_
  have F02 := Exa.ext E1 F0o
  have F03 := Fld.ext E1 F0y
  have F04 := Fld.ext E1 F0x
  have F05 := F0z.ext E1
  have O1 : Old Z n0 h2 := O7.ext E1
  obtain ⟨T0r, h0C, v0f, L0h, X0j, e0I, q0p, s0q⟩ := own_callS X8 hx hZ hown e0H (y := ⟨cN1, "at", "(Ljava/lang/String;ILjava/lang/String;I)Z"⟩) (hw 198) (hw 199) (hw 200) (hw 201) (by decide) (W := 0) (own_c6 l Z a0 hw [] o2 o4 o0c o0d m2 m5 17 16 [(.int (i9.toInt8.toInt32)), (.int 58), (.int 32), (.int 110), (.int 111), (.int 116), (.int 32), (.int 85), (.int 84), (.int 70), (.int 45), (.int 56), (.int 32), (.int 116), (.int 101), (.int 120), (.int 116)] [(.int 58), (.int 32), (.int 110), (.int 111), (.int 116), (.int 32), (.int 85), (.int 84), (.int 70), (.int 45), (.int 56), (.int 32), (.int 116), (.int 101), (.int 120), (.int 116)] 1 0 58 r0 I3 h2 n0 O1 I2 i00 I1 I0 F02 F03 F04 F05 (by decide) rfl F8 F9 F00 F01 (by decide) rfl) (by decide) (by decide) (by decide) (by decide) (g := (mkF m 231 #[iv i3, iv i0, iv i1, iv i2, iv 1, iv i9, iv i02, iv i04, rv o04, rv o02, rv o08, rv o2, iv 1, rv o4] [(.int 0), (.ref o4), (.int 1), (.ref o2)])) rfl (by rw [hml]; rfl) (argsL := [(.ref o2), (.int 1), (.ref o4), (.int 0)]) (rest := []) rfl (lenOf own_pd18 rfl) rfl (by show 2 * 0 + _ ≤ _; exact Nat.le_of_eq rfl) (hb hby at_231)
  refine oS s0q ?_
  obtain ⟨rfl, rfl, r3511⟩ := q0p
  have e0J := e0I.trans r3511
  have N0x := Fr.app N0w (Fr.nil n0)
  show own_G p e below (T0r.setTop (mkF m 234 #[iv i3, iv i0, iv i1, iv i2, iv 1, iv i9, iv i02, iv i04, rv o04, rv o02, rv o08, rv o2, iv 1, rv o4] [(.int 1)])) _
  refine oS (fun _ => XS.ifNo X0j.here hx rfl (hb hby at_234) rfl (XT.i0_eq_f (by decide))) ?_
  refine oS (fun _ => XS.aload X0j.here hx rfl (hb hby at_237) rfl rfl) ?_
  refine oS (fun _ => XS.iload X0j.here hx rfl (hb hby at_239) rfl) ?_
  refine oS (fun _ => XS.aload X0j.here hx rfl (hb hby at_241) rfl rfl) ?_
  refine oS (fun _ => XS.iconst X0j.here hx rfl (hb hby at_243) ) ?_
  obtain ⟨T0s, h0D, v0g, L0i, X0k, e0K, q0q, s0r⟩ := own_callS X0j hx hZ hown e0J (y := ⟨cN1, "at", "(Ljava/lang/String;ILjava/lang/String;I)Z"⟩) (hw 198) (hw 199) (hw 200) (hw 201) (by decide) (W := 0) (own_c6 l Z a0 hw [] o2 o4 o0c o0d m2 m5 17 16 [(.int (i9.toInt8.toInt32)), (.int 58), (.int 32), (.int 110), (.int 111), (.int 116), (.int 32), (.int 85), (.int 84), (.int 70), (.int 45), (.int 56), (.int 32), (.int 116), (.int 101), (.int 120), (.int 116)] [(.int 58), (.int 32), (.int 110), (.int 111), (.int 116), (.int 32), (.int 85), (.int 84), (.int 70), (.int 45), (.int 56), (.int 32), (.int 116), (.int 101), (.int 120), (.int 116)] 1 1 32 r0 I3 h2 n0 O1 I2 i00 I1 I0 F02 F03 F04 F05 (by decide) rfl F8 F9 F00 F01 (by decide) rfl) (by decide) (by decide) (by decide) (by decide) (g := (mkF m 244 #[iv i3, iv i0, iv i1, iv i2, iv 1, iv i9, iv i02, iv i04, rv o04, rv o02, rv o08, rv o2, iv 1, rv o4] [(.int 1), (.ref o4), (.int 1), (.ref o2)])) rfl (by rw [hml]; rfl) (argsL := [(.ref o2), (.int 1), (.ref o4), (.int 1)]) (rest := []) rfl (lenOf own_pd18 rfl) rfl (by show 2 * 0 + _ ≤ _; exact Nat.le_of_eq rfl) (hb hby at_244)
  refine oS s0r ?_
  obtain ⟨rfl, rfl, r3524⟩ := q0q
  have e0L := e0K.trans r3524
  have N0y := Fr.app N0x (Fr.nil n0)
  show own_G p e below (T0s.setTop (mkF m 247 #[iv i3, iv i0, iv i1, iv i2, iv 1, iv i9, iv i02, iv i04, rv o04, rv o02, rv o08, rv o2, iv 1, rv o4] [(.int 1)])) _
  refine oS (fun _ => XS.ifNo X0k.here hx rfl (hb hby at_247) rfl (XT.i0_eq_f (by decide))) ?_
  refine oS (fun _ => XS.aload X0k.here hx rfl (hb hby at_250) rfl rfl) ?_
  refine oS (fun _ => XS.iload X0k.here hx rfl (hb hby at_252) rfl) ?_
  refine oS (fun _ => XS.aload X0k.here hx rfl (hb hby at_254) rfl rfl) ?_
  refine oS (fun _ => XS.iconst X0k.here hx rfl (hb hby at_256) ) ?_
  obtain ⟨T0t, h0E, v0h, L0j, X0l, e0M, q0r, s0s⟩ := own_callS X0k hx hZ hown e0L (y := ⟨cN1, "at", "(Ljava/lang/String;ILjava/lang/String;I)Z"⟩) (hw 198) (hw 199) (hw 200) (hw 201) (by decide) (W := 0) (own_c6 l Z a0 hw [] o2 o4 o0c o0d m2 m5 17 16 [(.int (i9.toInt8.toInt32)), (.int 58), (.int 32), (.int 110), (.int 111), (.int 116), (.int 32), (.int 85), (.int 84), (.int 70), (.int 45), (.int 56), (.int 32), (.int 116), (.int 101), (.int 120), (.int 116)] [(.int 58), (.int 32), (.int 110), (.int 111), (.int 116), (.int 32), (.int 85), (.int 84), (.int 70), (.int 45), (.int 56), (.int 32), (.int 116), (.int 101), (.int 120), (.int 116)] 1 2 110 r0 I3 h2 n0 O1 I2 i00 I1 I0 F02 F03 F04 F05 (by decide) rfl F8 F9 F00 F01 (by decide) rfl) (by decide) (by decide) (by decide) (by decide) (g := (mkF m 257 #[iv i3, iv i0, iv i1, iv i2, iv 1, iv i9, iv i02, iv i04, rv o04, rv o02, rv o08, rv o2, iv 1, rv o4] [(.int 2), (.ref o4), (.int 1), (.ref o2)])) rfl (by rw [hml]; rfl) (argsL := [(.ref o2), (.int 1), (.ref o4), (.int 2)]) (rest := []) rfl (lenOf own_pd18 rfl) rfl (by show 2 * 0 + _ ≤ _; exact Nat.le_of_eq rfl) (hb hby at_257)
  refine oS s0s ?_
  obtain ⟨rfl, rfl, r3537⟩ := q0r
  have e0N := e0M.trans r3537
  have N0z := Fr.app N0y (Fr.nil n0)
  show own_G p e below (T0t.setTop (mkF m 260 #[iv i3, iv i0, iv i1, iv i2, iv 1, iv i9, iv i02, iv i04, rv o04, rv o02, rv o08, rv o2, iv 1, rv o4] [(.int 1)])) _
  refine oS (fun _ => XS.ifNo X0l.here hx rfl (hb hby at_260) rfl (XT.i0_eq_f (by decide))) ?_
  refine oS (fun _ => XS.aload X0l.here hx rfl (hb hby at_263) rfl rfl) ?_
  refine oS (fun _ => XS.iload X0l.here hx rfl (hb hby at_265) rfl) ?_
  refine oS (fun _ => XS.aload X0l.here hx rfl (hb hby at_267) rfl rfl) ?_
  refine oS (fun _ => XS.iconst X0l.here hx rfl (hb hby at_269) ) ?_
  obtain ⟨T0u, h0F, v0i, L0k, X0m, e0O, q0s, s0t⟩ := own_callS X0l hx hZ hown e0N (y := ⟨cN1, "at", "(Ljava/lang/String;ILjava/lang/String;I)Z"⟩) (hw 198) (hw 199) (hw 200) (hw 201) (by decide) (W := 0) (own_c6 l Z a0 hw [] o2 o4 o0c o0d m2 m5 17 16 [(.int (i9.toInt8.toInt32)), (.int 58), (.int 32), (.int 110), (.int 111), (.int 116), (.int 32), (.int 85), (.int 84), (.int 70), (.int 45), (.int 56), (.int 32), (.int 116), (.int 101), (.int 120), (.int 116)] [(.int 58), (.int 32), (.int 110), (.int 111), (.int 116), (.int 32), (.int 85), (.int 84), (.int 70), (.int 45), (.int 56), (.int 32), (.int 116), (.int 101), (.int 120), (.int 116)] 1 3 111 r0 I3 h2 n0 O1 I2 i00 I1 I0 F02 F03 F04 F05 (by decide) rfl F8 F9 F00 F01 (by decide) rfl) (by decide) (by decide) (by decide) (by decide) (g := (mkF m 270 #[iv i3, iv i0, iv i1, iv i2, iv 1, iv i9, iv i02, iv i04, rv o04, rv o02, rv o08, rv o2, iv 1, rv o4] [(.int 3), (.ref o4), (.int 1), (.ref o2)])) rfl (by rw [hml]; rfl) (argsL := [(.ref o2), (.int 1), (.ref o4), (.int 3)]) (rest := []) rfl (lenOf own_pd18 rfl) rfl (by show 2 * 0 + _ ≤ _; exact Nat.le_of_eq rfl) (hb hby at_270)
  refine oS s0t ?_
  obtain ⟨rfl, rfl, r3550⟩ := q0s
  have e0P := e0O.trans r3550
  have N0A := Fr.app N0z (Fr.nil n0)
  show own_G p e below (T0u.setTop (mkF m 273 #[iv i3, iv i0, iv i1, iv i2, iv 1, iv i9, iv i02, iv i04, rv o04, rv o02, rv o08, rv o2, iv 1, rv o4] [(.int 1)])) _
  refine oS (fun _ => XS.ifNo X0m.here hx rfl (hb hby at_273) rfl (XT.i0_eq_f (by decide))) ?_
  refine oS (fun _ => XS.aload X0m.here hx rfl (hb hby at_276) rfl rfl) ?_
  refine oS (fun _ => XS.iload X0m.here hx rfl (hb hby at_278) rfl) ?_
  refine oS (fun _ => XS.aload X0m.here hx rfl (hb hby at_280) rfl rfl) ?_
  refine oS (fun _ => XS.iconst X0m.here hx rfl (hb hby at_282) ) ?_
  obtain ⟨T0v, h0G, v0j, L0l, X0n, e0Q, q0t, s0u⟩ := own_callS X0m hx hZ hown e0P (y := ⟨cN1, "at", "(Ljava/lang/String;ILjava/lang/String;I)Z"⟩) (hw 198) (hw 199) (hw 200) (hw 201) (by decide) (W := 0) (own_c6 l Z a0 hw [] o2 o4 o0c o0d m2 m5 17 16 [(.int (i9.toInt8.toInt32)), (.int 58), (.int 32), (.int 110), (.int 111), (.int 116), (.int 32), (.int 85), (.int 84), (.int 70), (.int 45), (.int 56), (.int 32), (.int 116), (.int 101), (.int 120), (.int 116)] [(.int 58), (.int 32), (.int 110), (.int 111), (.int 116), (.int 32), (.int 85), (.int 84), (.int 70), (.int 45), (.int 56), (.int 32), (.int 116), (.int 101), (.int 120), (.int 116)] 1 4 116 r0 I3 h2 n0 O1 I2 i00 I1 I0 F02 F03 F04 F05 (by decide) rfl F8 F9 F00 F01 (by decide) rfl) (by decide) (by decide) (by decide) (by decide) (g := (mkF m 283 #[iv i3, iv i0, iv i1, iv i2, iv 1, iv i9, iv i02, iv i04, rv o04, rv o02, rv o08, rv o2, iv 1, rv o4] [(.int 4), (.ref o4), (.int 1), (.ref o2)])) rfl (by rw [hml]; rfl) (argsL := [(.ref o2), (.int 1), (.ref o4), (.int 4)]) (rest := []) rfl (lenOf own_pd18 rfl) rfl (by show 2 * 0 + _ ≤ _; exact Nat.le_of_eq rfl) (hb hby at_283)
  refine oS s0u ?_
  obtain ⟨rfl, rfl, r3563⟩ := q0t
  have e0R := e0Q.trans r3563
  have N0B := Fr.app N0A (Fr.nil n0)
  show own_G p e below (T0v.setTop (mkF m 286 #[iv i3, iv i0, iv i1, iv i2, iv 1, iv i9, iv i02, iv i04, rv o04, rv o02, rv o08, rv o2, iv 1, rv o4] [(.int 1)])) _
  refine oS (fun _ => XS.ifNo X0n.here hx rfl (hb hby at_286) rfl (XT.i0_eq_f (by decide))) ?_
  refine oS (fun _ => XS.aload X0n.here hx rfl (hb hby at_289) rfl rfl) ?_
  refine oS (fun _ => XS.iload X0n.here hx rfl (hb hby at_291) rfl) ?_
  refine oS (fun _ => XS.aload X0n.here hx rfl (hb hby at_293) rfl rfl) ?_
  refine oS (fun _ => XS.iconst X0n.here hx rfl (hb hby at_295) ) ?_
  obtain ⟨T0w, h0H, v0k, L0m, X0o, e0S, q0u, s0v⟩ := own_callS X0n hx hZ hown e0R (y := ⟨cN1, "at", "(Ljava/lang/String;ILjava/lang/String;I)Z"⟩) (hw 198) (hw 199) (hw 200) (hw 201) (by decide) (W := 0) (own_c6 l Z a0 hw [] o2 o4 o0c o0d m2 m5 17 16 [(.int (i9.toInt8.toInt32)), (.int 58), (.int 32), (.int 110), (.int 111), (.int 116), (.int 32), (.int 85), (.int 84), (.int 70), (.int 45), (.int 56), (.int 32), (.int 116), (.int 101), (.int 120), (.int 116)] [(.int 58), (.int 32), (.int 110), (.int 111), (.int 116), (.int 32), (.int 85), (.int 84), (.int 70), (.int 45), (.int 56), (.int 32), (.int 116), (.int 101), (.int 120), (.int 116)] 1 5 32 r0 I3 h2 n0 O1 I2 i00 I1 I0 F02 F03 F04 F05 (by decide) rfl F8 F9 F00 F01 (by decide) rfl) (by decide) (by decide) (by decide) (by decide) (g := (mkF m 296 #[iv i3, iv i0, iv i1, iv i2, iv 1, iv i9, iv i02, iv i04, rv o04, rv o02, rv o08, rv o2, iv 1, rv o4] [(.int 5), (.ref o4), (.int 1), (.ref o2)])) rfl (by rw [hml]; rfl) (argsL := [(.ref o2), (.int 1), (.ref o4), (.int 5)]) (rest := []) rfl (lenOf own_pd18 rfl) rfl (by show 2 * 0 + _ ≤ _; exact Nat.le_of_eq rfl) (hb hby at_296)
  refine oS s0v ?_
  obtain ⟨rfl, rfl, r3576⟩ := q0u
  have e0T := e0S.trans r3576
  have N0C := Fr.app N0B (Fr.nil n0)
  show own_G p e below (T0w.setTop (mkF m 299 #[iv i3, iv i0, iv i1, iv i2, iv 1, iv i9, iv i02, iv i04, rv o04, rv o02, rv o08, rv o2, iv 1, rv o4] [(.int 1)])) _
  refine oS (fun _ => XS.ifNo X0o.here hx rfl (hb hby at_299) rfl (XT.i0_eq_f (by decide))) ?_
  refine oS (fun _ => XS.aload X0o.here hx rfl (hb hby at_302) rfl rfl) ?_
  refine oS (fun _ => XS.iload X0o.here hx rfl (hb hby at_304) rfl) ?_
  refine oS (fun _ => XS.aload X0o.here hx rfl (hb hby at_306) rfl rfl) ?_
  refine oS (fun _ => XS.bipush X0o.here hx rfl (hb hby at_308) ) ?_
  obtain ⟨T0x, h0I, v0l, L0n, X0p, e0U, q0v, s0w⟩ := own_callS X0o hx hZ hown e0T (y := ⟨cN1, "at", "(Ljava/lang/String;ILjava/lang/String;I)Z"⟩) (hw 198) (hw 199) (hw 200) (hw 201) (by decide) (W := 0) (own_c6 l Z a0 hw [] o2 o4 o0c o0d m2 m5 17 16 [(.int (i9.toInt8.toInt32)), (.int 58), (.int 32), (.int 110), (.int 111), (.int 116), (.int 32), (.int 85), (.int 84), (.int 70), (.int 45), (.int 56), (.int 32), (.int 116), (.int 101), (.int 120), (.int 116)] [(.int 58), (.int 32), (.int 110), (.int 111), (.int 116), (.int 32), (.int 85), (.int 84), (.int 70), (.int 45), (.int 56), (.int 32), (.int 116), (.int 101), (.int 120), (.int 116)] 1 6 85 r0 I3 h2 n0 O1 I2 i00 I1 I0 F02 F03 F04 F05 (by decide) rfl F8 F9 F00 F01 (by decide) rfl) (by decide) (by decide) (by decide) (by decide) (g := (mkF m 310 #[iv i3, iv i0, iv i1, iv i2, iv 1, iv i9, iv i02, iv i04, rv o04, rv o02, rv o08, rv o2, iv 1, rv o4] [(.int 6), (.ref o4), (.int 1), (.ref o2)])) rfl (by rw [hml]; rfl) (argsL := [(.ref o2), (.int 1), (.ref o4), (.int 6)]) (rest := []) rfl (lenOf own_pd18 rfl) rfl (by show 2 * 0 + _ ≤ _; exact Nat.le_of_eq rfl) (hb hby at_310)
  refine oS s0w ?_
  obtain ⟨rfl, rfl, r3589⟩ := q0v
  have e0V := e0U.trans r3589
  have N0D := Fr.app N0C (Fr.nil n0)
  show own_G p e below (T0x.setTop (mkF m 313 #[iv i3, iv i0, iv i1, iv i2, iv 1, iv i9, iv i02, iv i04, rv o04, rv o02, rv o08, rv o2, iv 1, rv o4] [(.int 1)])) _
  refine oS (fun _ => XS.ifNo X0p.here hx rfl (hb hby at_313) rfl (XT.i0_eq_f (by decide))) ?_
  refine oS (fun _ => XS.aload X0p.here hx rfl (hb hby at_316) rfl rfl) ?_
  refine oS (fun _ => XS.iload X0p.here hx rfl (hb hby at_318) rfl) ?_
  refine oS (fun _ => XS.aload X0p.here hx rfl (hb hby at_320) rfl rfl) ?_
  refine oS (fun _ => XS.bipush X0p.here hx rfl (hb hby at_322) ) ?_
  obtain ⟨T0y, h0J, v0m, L0o, X0q, e0W, q0w, s0x⟩ := own_callS X0p hx hZ hown e0V (y := ⟨cN1, "at", "(Ljava/lang/String;ILjava/lang/String;I)Z"⟩) (hw 198) (hw 199) (hw 200) (hw 201) (by decide) (W := 0) (own_c6 l Z a0 hw [] o2 o4 o0c o0d m2 m5 17 16 [(.int (i9.toInt8.toInt32)), (.int 58), (.int 32), (.int 110), (.int 111), (.int 116), (.int 32), (.int 85), (.int 84), (.int 70), (.int 45), (.int 56), (.int 32), (.int 116), (.int 101), (.int 120), (.int 116)] [(.int 58), (.int 32), (.int 110), (.int 111), (.int 116), (.int 32), (.int 85), (.int 84), (.int 70), (.int 45), (.int 56), (.int 32), (.int 116), (.int 101), (.int 120), (.int 116)] 1 7 84 r0 I3 h2 n0 O1 I2 i00 I1 I0 F02 F03 F04 F05 (by decide) rfl F8 F9 F00 F01 (by decide) rfl) (by decide) (by decide) (by decide) (by decide) (g := (mkF m 324 #[iv i3, iv i0, iv i1, iv i2, iv 1, iv i9, iv i02, iv i04, rv o04, rv o02, rv o08, rv o2, iv 1, rv o4] [(.int 7), (.ref o4), (.int 1), (.ref o2)])) rfl (by rw [hml]; rfl) (argsL := [(.ref o2), (.int 1), (.ref o4), (.int 7)]) (rest := []) rfl (lenOf own_pd18 rfl) rfl (by show 2 * 0 + _ ≤ _; exact Nat.le_of_eq rfl) (hb hby at_324)
  refine oS s0x ?_
  obtain ⟨rfl, rfl, r3602⟩ := q0w
  have e0X := e0W.trans r3602
  have N0E := Fr.app N0D (Fr.nil n0)
  show own_G p e below (T0y.setTop (mkF m 327 #[iv i3, iv i0, iv i1, iv i2, iv 1, iv i9, iv i02, iv i04, rv o04, rv o02, rv o08, rv o2, iv 1, rv o4] [(.int 1)])) _
  refine oS (fun _ => XS.ifNo X0q.here hx rfl (hb hby at_327) rfl (XT.i0_eq_f (by decide))) ?_
  refine oS (fun _ => XS.aload X0q.here hx rfl (hb hby at_330) rfl rfl) ?_
  refine oS (fun _ => XS.iload X0q.here hx rfl (hb hby at_332) rfl) ?_
  refine oS (fun _ => XS.aload X0q.here hx rfl (hb hby at_334) rfl rfl) ?_
  refine oS (fun _ => XS.bipush X0q.here hx rfl (hb hby at_336) ) ?_
  obtain ⟨T0z, h0K, v0n, L0p, X0r, e0Y, q0x, s0y⟩ := own_callS X0q hx hZ hown e0X (y := ⟨cN1, "at", "(Ljava/lang/String;ILjava/lang/String;I)Z"⟩) (hw 198) (hw 199) (hw 200) (hw 201) (by decide) (W := 0) (own_c6 l Z a0 hw [] o2 o4 o0c o0d m2 m5 17 16 [(.int (i9.toInt8.toInt32)), (.int 58), (.int 32), (.int 110), (.int 111), (.int 116), (.int 32), (.int 85), (.int 84), (.int 70), (.int 45), (.int 56), (.int 32), (.int 116), (.int 101), (.int 120), (.int 116)] [(.int 58), (.int 32), (.int 110), (.int 111), (.int 116), (.int 32), (.int 85), (.int 84), (.int 70), (.int 45), (.int 56), (.int 32), (.int 116), (.int 101), (.int 120), (.int 116)] 1 8 70 r0 I3 h2 n0 O1 I2 i00 I1 I0 F02 F03 F04 F05 (by decide) rfl F8 F9 F00 F01 (by decide) rfl) (by decide) (by decide) (by decide) (by decide) (g := (mkF m 338 #[iv i3, iv i0, iv i1, iv i2, iv 1, iv i9, iv i02, iv i04, rv o04, rv o02, rv o08, rv o2, iv 1, rv o4] [(.int 8), (.ref o4), (.int 1), (.ref o2)])) rfl (by rw [hml]; rfl) (argsL := [(.ref o2), (.int 1), (.ref o4), (.int 8)]) (rest := []) rfl (lenOf own_pd18 rfl) rfl (by show 2 * 0 + _ ≤ _; exact Nat.le_of_eq rfl) (hb hby at_338)
  refine oS s0y ?_
  obtain ⟨rfl, rfl, r3615⟩ := q0x
  have e0Z := e0Y.trans r3615
  have N0F := Fr.app N0E (Fr.nil n0)
  show own_G p e below (T0z.setTop (mkF m 341 #[iv i3, iv i0, iv i1, iv i2, iv 1, iv i9, iv i02, iv i04, rv o04, rv o02, rv o08, rv o2, iv 1, rv o4] [(.int 1)])) _
  refine oS (fun _ => XS.ifNo X0r.here hx rfl (hb hby at_341) rfl (XT.i0_eq_f (by decide))) ?_
  refine oS (fun _ => XS.aload X0r.here hx rfl (hb hby at_344) rfl rfl) ?_
  refine oS (fun _ => XS.iload X0r.here hx rfl (hb hby at_346) rfl) ?_
  refine oS (fun _ => XS.aload X0r.here hx rfl (hb hby at_348) rfl rfl) ?_
  refine oS (fun _ => XS.bipush X0r.here hx rfl (hb hby at_350) ) ?_
  obtain ⟨T0A, h0L, v0o, L0q, X0s, e10, q0y, s0z⟩ := own_callS X0r hx hZ hown e0Z (y := ⟨cN1, "at", "(Ljava/lang/String;ILjava/lang/String;I)Z"⟩) (hw 198) (hw 199) (hw 200) (hw 201) (by decide) (W := 0) (own_c6 l Z a0 hw [] o2 o4 o0c o0d m2 m5 17 16 [(.int (i9.toInt8.toInt32)), (.int 58), (.int 32), (.int 110), (.int 111), (.int 116), (.int 32), (.int 85), (.int 84), (.int 70), (.int 45), (.int 56), (.int 32), (.int 116), (.int 101), (.int 120), (.int 116)] [(.int 58), (.int 32), (.int 110), (.int 111), (.int 116), (.int 32), (.int 85), (.int 84), (.int 70), (.int 45), (.int 56), (.int 32), (.int 116), (.int 101), (.int 120), (.int 116)] 1 9 45 r0 I3 h2 n0 O1 I2 i00 I1 I0 F02 F03 F04 F05 (by decide) rfl F8 F9 F00 F01 (by decide) rfl) (by decide) (by decide) (by decide) (by decide) (g := (mkF m 352 #[iv i3, iv i0, iv i1, iv i2, iv 1, iv i9, iv i02, iv i04, rv o04, rv o02, rv o08, rv o2, iv 1, rv o4] [(.int 9), (.ref o4), (.int 1), (.ref o2)])) rfl (by rw [hml]; rfl) (argsL := [(.ref o2), (.int 1), (.ref o4), (.int 9)]) (rest := []) rfl (lenOf own_pd18 rfl) rfl (by show 2 * 0 + _ ≤ _; exact Nat.le_of_eq rfl) (hb hby at_352)
  refine oS s0z ?_
  obtain ⟨rfl, rfl, r3628⟩ := q0y
  have e11 := e10.trans r3628
  have N0G := Fr.app N0F (Fr.nil n0)
  show own_G p e below (T0A.setTop (mkF m 355 #[iv i3, iv i0, iv i1, iv i2, iv 1, iv i9, iv i02, iv i04, rv o04, rv o02, rv o08, rv o2, iv 1, rv o4] [(.int 1)])) _
  refine oS (fun _ => XS.ifNo X0s.here hx rfl (hb hby at_355) rfl (XT.i0_eq_f (by decide))) ?_
  refine oS (fun _ => XS.aload X0s.here hx rfl (hb hby at_358) rfl rfl) ?_
  refine oS (fun _ => XS.iload X0s.here hx rfl (hb hby at_360) rfl) ?_
  refine oS (fun _ => XS.aload X0s.here hx rfl (hb hby at_362) rfl rfl) ?_
  refine oS (fun _ => XS.bipush X0s.here hx rfl (hb hby at_364) ) ?_
  obtain ⟨T0B, h0M, v0p, L0r, X0t, e12, q0z, s0A⟩ := own_callS X0s hx hZ hown e11 (y := ⟨cN1, "at", "(Ljava/lang/String;ILjava/lang/String;I)Z"⟩) (hw 198) (hw 199) (hw 200) (hw 201) (by decide) (W := 0) (own_c6 l Z a0 hw [] o2 o4 o0c o0d m2 m5 17 16 [(.int (i9.toInt8.toInt32)), (.int 58), (.int 32), (.int 110), (.int 111), (.int 116), (.int 32), (.int 85), (.int 84), (.int 70), (.int 45), (.int 56), (.int 32), (.int 116), (.int 101), (.int 120), (.int 116)] [(.int 58), (.int 32), (.int 110), (.int 111), (.int 116), (.int 32), (.int 85), (.int 84), (.int 70), (.int 45), (.int 56), (.int 32), (.int 116), (.int 101), (.int 120), (.int 116)] 1 10 56 r0 I3 h2 n0 O1 I2 i00 I1 I0 F02 F03 F04 F05 (by decide) rfl F8 F9 F00 F01 (by decide) rfl) (by decide) (by decide) (by decide) (by decide) (g := (mkF m 366 #[iv i3, iv i0, iv i1, iv i2, iv 1, iv i9, iv i02, iv i04, rv o04, rv o02, rv o08, rv o2, iv 1, rv o4] [(.int 10), (.ref o4), (.int 1), (.ref o2)])) rfl (by rw [hml]; rfl) (argsL := [(.ref o2), (.int 1), (.ref o4), (.int 10)]) (rest := []) rfl (lenOf own_pd18 rfl) rfl (by show 2 * 0 + _ ≤ _; exact Nat.le_of_eq rfl) (hb hby at_366)
  refine oS s0A ?_
  obtain ⟨rfl, rfl, r3641⟩ := q0z
  have e13 := e12.trans r3641
  have N0H := Fr.app N0G (Fr.nil n0)
  show own_G p e below (T0B.setTop (mkF m 369 #[iv i3, iv i0, iv i1, iv i2, iv 1, iv i9, iv i02, iv i04, rv o04, rv o02, rv o08, rv o2, iv 1, rv o4] [(.int 1)])) _
  refine oS (fun _ => XS.ifNo X0t.here hx rfl (hb hby at_369) rfl (XT.i0_eq_f (by decide))) ?_
  refine oS (fun _ => XS.aload X0t.here hx rfl (hb hby at_372) rfl rfl) ?_
  refine oS (fun _ => XS.iload X0t.here hx rfl (hb hby at_374) rfl) ?_
  refine oS (fun _ => XS.aload X0t.here hx rfl (hb hby at_376) rfl rfl) ?_
  refine oS (fun _ => XS.bipush X0t.here hx rfl (hb hby at_378) ) ?_
  obtain ⟨T0C, h0N, v0q, L0s, X0u, e14, q0A, s0B⟩ := own_callS X0t hx hZ hown e13 (y := ⟨cN1, "at", "(Ljava/lang/String;ILjava/lang/String;I)Z"⟩) (hw 198) (hw 199) (hw 200) (hw 201) (by decide) (W := 0) (own_c6 l Z a0 hw [] o2 o4 o0c o0d m2 m5 17 16 [(.int (i9.toInt8.toInt32)), (.int 58), (.int 32), (.int 110), (.int 111), (.int 116), (.int 32), (.int 85), (.int 84), (.int 70), (.int 45), (.int 56), (.int 32), (.int 116), (.int 101), (.int 120), (.int 116)] [(.int 58), (.int 32), (.int 110), (.int 111), (.int 116), (.int 32), (.int 85), (.int 84), (.int 70), (.int 45), (.int 56), (.int 32), (.int 116), (.int 101), (.int 120), (.int 116)] 1 11 32 r0 I3 h2 n0 O1 I2 i00 I1 I0 F02 F03 F04 F05 (by decide) rfl F8 F9 F00 F01 (by decide) rfl) (by decide) (by decide) (by decide) (by decide) (g := (mkF m 380 #[iv i3, iv i0, iv i1, iv i2, iv 1, iv i9, iv i02, iv i04, rv o04, rv o02, rv o08, rv o2, iv 1, rv o4] [(.int 11), (.ref o4), (.int 1), (.ref o2)])) rfl (by rw [hml]; rfl) (argsL := [(.ref o2), (.int 1), (.ref o4), (.int 11)]) (rest := []) rfl (lenOf own_pd18 rfl) rfl (by show 2 * 0 + _ ≤ _; exact Nat.le_of_eq rfl) (hb hby at_380)
  refine oS s0B ?_
  obtain ⟨rfl, rfl, r3654⟩ := q0A
  have e15 := e14.trans r3654
  have N0I := Fr.app N0H (Fr.nil n0)
  show own_G p e below (T0C.setTop (mkF m 383 #[iv i3, iv i0, iv i1, iv i2, iv 1, iv i9, iv i02, iv i04, rv o04, rv o02, rv o08, rv o2, iv 1, rv o4] [(.int 1)])) _
  refine oS (fun _ => XS.ifNo X0u.here hx rfl (hb hby at_383) rfl (XT.i0_eq_f (by decide))) ?_
  refine oS (fun _ => XS.aload X0u.here hx rfl (hb hby at_386) rfl rfl) ?_
  refine oS (fun _ => XS.iload X0u.here hx rfl (hb hby at_388) rfl) ?_
  refine oS (fun _ => XS.aload X0u.here hx rfl (hb hby at_390) rfl rfl) ?_
  refine oS (fun _ => XS.bipush X0u.here hx rfl (hb hby at_392) ) ?_
  obtain ⟨T0D, h0O, v0r, L0t, X0v, e16, q0B, s0C⟩ := own_callS X0u hx hZ hown e15 (y := ⟨cN1, "at", "(Ljava/lang/String;ILjava/lang/String;I)Z"⟩) (hw 198) (hw 199) (hw 200) (hw 201) (by decide) (W := 0) (own_c6 l Z a0 hw [] o2 o4 o0c o0d m2 m5 17 16 [(.int (i9.toInt8.toInt32)), (.int 58), (.int 32), (.int 110), (.int 111), (.int 116), (.int 32), (.int 85), (.int 84), (.int 70), (.int 45), (.int 56), (.int 32), (.int 116), (.int 101), (.int 120), (.int 116)] [(.int 58), (.int 32), (.int 110), (.int 111), (.int 116), (.int 32), (.int 85), (.int 84), (.int 70), (.int 45), (.int 56), (.int 32), (.int 116), (.int 101), (.int 120), (.int 116)] 1 12 116 r0 I3 h2 n0 O1 I2 i00 I1 I0 F02 F03 F04 F05 (by decide) rfl F8 F9 F00 F01 (by decide) rfl) (by decide) (by decide) (by decide) (by decide) (g := (mkF m 394 #[iv i3, iv i0, iv i1, iv i2, iv 1, iv i9, iv i02, iv i04, rv o04, rv o02, rv o08, rv o2, iv 1, rv o4] [(.int 12), (.ref o4), (.int 1), (.ref o2)])) rfl (by rw [hml]; rfl) (argsL := [(.ref o2), (.int 1), (.ref o4), (.int 12)]) (rest := []) rfl (lenOf own_pd18 rfl) rfl (by show 2 * 0 + _ ≤ _; exact Nat.le_of_eq rfl) (hb hby at_394)
  refine oS s0C ?_
  obtain ⟨rfl, rfl, r3667⟩ := q0B
  have e17 := e16.trans r3667
  have N0J := Fr.app N0I (Fr.nil n0)
  show own_G p e below (T0D.setTop (mkF m 397 #[iv i3, iv i0, iv i1, iv i2, iv 1, iv i9, iv i02, iv i04, rv o04, rv o02, rv o08, rv o2, iv 1, rv o4] [(.int 1)])) _
  refine oS (fun _ => XS.ifNo X0v.here hx rfl (hb hby at_397) rfl (XT.i0_eq_f (by decide))) ?_
  refine oS (fun _ => XS.aload X0v.here hx rfl (hb hby at_400) rfl rfl) ?_
  refine oS (fun _ => XS.iload X0v.here hx rfl (hb hby at_402) rfl) ?_
  refine oS (fun _ => XS.aload X0v.here hx rfl (hb hby at_404) rfl rfl) ?_
  refine oS (fun _ => XS.bipush X0v.here hx rfl (hb hby at_406) ) ?_
  obtain ⟨T0E, h0P, v0s, L0u, X0w, e18, q0C, s0D⟩ := own_callS X0v hx hZ hown e17 (y := ⟨cN1, "at", "(Ljava/lang/String;ILjava/lang/String;I)Z"⟩) (hw 198) (hw 199) (hw 200) (hw 201) (by decide) (W := 0) (own_c6 l Z a0 hw [] o2 o4 o0c o0d m2 m5 17 16 [(.int (i9.toInt8.toInt32)), (.int 58), (.int 32), (.int 110), (.int 111), (.int 116), (.int 32), (.int 85), (.int 84), (.int 70), (.int 45), (.int 56), (.int 32), (.int 116), (.int 101), (.int 120), (.int 116)] [(.int 58), (.int 32), (.int 110), (.int 111), (.int 116), (.int 32), (.int 85), (.int 84), (.int 70), (.int 45), (.int 56), (.int 32), (.int 116), (.int 101), (.int 120), (.int 116)] 1 13 101 r0 I3 h2 n0 O1 I2 i00 I1 I0 F02 F03 F04 F05 (by decide) rfl F8 F9 F00 F01 (by decide) rfl) (by decide) (by decide) (by decide) (by decide) (g := (mkF m 408 #[iv i3, iv i0, iv i1, iv i2, iv 1, iv i9, iv i02, iv i04, rv o04, rv o02, rv o08, rv o2, iv 1, rv o4] [(.int 13), (.ref o4), (.int 1), (.ref o2)])) rfl (by rw [hml]; rfl) (argsL := [(.ref o2), (.int 1), (.ref o4), (.int 13)]) (rest := []) rfl (lenOf own_pd18 rfl) rfl (by show 2 * 0 + _ ≤ _; exact Nat.le_of_eq rfl) (hb hby at_408)
  refine oS s0D ?_
  obtain ⟨rfl, rfl, r3680⟩ := q0C
  have e19 := e18.trans r3680
  have N0K := Fr.app N0J (Fr.nil n0)
  show own_G p e below (T0E.setTop (mkF m 411 #[iv i3, iv i0, iv i1, iv i2, iv 1, iv i9, iv i02, iv i04, rv o04, rv o02, rv o08, rv o2, iv 1, rv o4] [(.int 1)])) _
  refine oS (fun _ => XS.ifNo X0w.here hx rfl (hb hby at_411) rfl (XT.i0_eq_f (by decide))) ?_
  refine oS (fun _ => XS.aload X0w.here hx rfl (hb hby at_414) rfl rfl) ?_
  refine oS (fun _ => XS.iload X0w.here hx rfl (hb hby at_416) rfl) ?_
  refine oS (fun _ => XS.aload X0w.here hx rfl (hb hby at_418) rfl rfl) ?_
  refine oS (fun _ => XS.bipush X0w.here hx rfl (hb hby at_420) ) ?_
  obtain ⟨T0F, h0Q, v0t, L0v, X0x, e1a, q0D, s0E⟩ := own_callS X0w hx hZ hown e19 (y := ⟨cN1, "at", "(Ljava/lang/String;ILjava/lang/String;I)Z"⟩) (hw 198) (hw 199) (hw 200) (hw 201) (by decide) (W := 0) (own_c6 l Z a0 hw [] o2 o4 o0c o0d m2 m5 17 16 [(.int (i9.toInt8.toInt32)), (.int 58), (.int 32), (.int 110), (.int 111), (.int 116), (.int 32), (.int 85), (.int 84), (.int 70), (.int 45), (.int 56), (.int 32), (.int 116), (.int 101), (.int 120), (.int 116)] [(.int 58), (.int 32), (.int 110), (.int 111), (.int 116), (.int 32), (.int 85), (.int 84), (.int 70), (.int 45), (.int 56), (.int 32), (.int 116), (.int 101), (.int 120), (.int 116)] 1 14 120 r0 I3 h2 n0 O1 I2 i00 I1 I0 F02 F03 F04 F05 (by decide) rfl F8 F9 F00 F01 (by decide) rfl) (by decide) (by decide) (by decide) (by decide) (g := (mkF m 422 #[iv i3, iv i0, iv i1, iv i2, iv 1, iv i9, iv i02, iv i04, rv o04, rv o02, rv o08, rv o2, iv 1, rv o4] [(.int 14), (.ref o4), (.int 1), (.ref o2)])) rfl (by rw [hml]; rfl) (argsL := [(.ref o2), (.int 1), (.ref o4), (.int 14)]) (rest := []) rfl (lenOf own_pd18 rfl) rfl (by show 2 * 0 + _ ≤ _; exact Nat.le_of_eq rfl) (hb hby at_422)
  refine oS s0E ?_
  obtain ⟨rfl, rfl, r3693⟩ := q0D
  have e1b := e1a.trans r3693
  have N0L := Fr.app N0K (Fr.nil n0)
  show own_G p e below (T0F.setTop (mkF m 425 #[iv i3, iv i0, iv i1, iv i2, iv 1, iv i9, iv i02, iv i04, rv o04, rv o02, rv o08, rv o2, iv 1, rv o4] [(.int 1)])) _
  refine oS (fun _ => XS.ifNo X0x.here hx rfl (hb hby at_425) rfl (XT.i0_eq_f (by decide))) ?_
  refine oS (fun _ => XS.aload X0x.here hx rfl (hb hby at_428) rfl rfl) ?_
  refine oS (fun _ => XS.iload X0x.here hx rfl (hb hby at_430) rfl) ?_
  refine oS (fun _ => XS.aload X0x.here hx rfl (hb hby at_432) rfl rfl) ?_
  refine oS (fun _ => XS.bipush X0x.here hx rfl (hb hby at_434) ) ?_
  obtain ⟨T0G, h0R, v0u, L0w, X1h, e1c, q0E, s0F⟩ := own_callS X0x hx hZ hown e1b (y := ⟨cN1, "at", "(Ljava/lang/String;ILjava/lang/String;I)Z"⟩) (hw 198) (hw 199) (hw 200) (hw 201) (by decide) (W := 0) (own_c6 l Z a0 hw [] o2 o4 o0c o0d m2 m5 17 16 [(.int (i9.toInt8.toInt32)), (.int 58), (.int 32), (.int 110), (.int 111), (.int 116), (.int 32), (.int 85), (.int 84), (.int 70), (.int 45), (.int 56), (.int 32), (.int 116), (.int 101), (.int 120), (.int 116)] [(.int 58), (.int 32), (.int 110), (.int 111), (.int 116), (.int 32), (.int 85), (.int 84), (.int 70), (.int 45), (.int 56), (.int 32), (.int 116), (.int 101), (.int 120), (.int 116)] 1 15 116 r0 I3 h2 n0 O1 I2 i00 I1 I0 F02 F03 F04 F05 (by decide) rfl F8 F9 F00 F01 (by decide) rfl) (by decide) (by decide) (by decide) (by decide) (g := (mkF m 436 #[iv i3, iv i0, iv i1, iv i2, iv 1, iv i9, iv i02, iv i04, rv o04, rv o02, rv o08, rv o2, iv 1, rv o4] [(.int 15), (.ref o4), (.int 1), (.ref o2)])) rfl (by rw [hml]; rfl) (argsL := [(.ref o2), (.int 1), (.ref o4), (.int 15)]) (rest := []) rfl (lenOf own_pd18 rfl) rfl (by show 2 * 0 + _ ≤ _; exact Nat.le_of_eq rfl) (hb hby at_436)
  refine oS s0F ?_
  obtain ⟨rfl, rfl, r3706⟩ := q0E
  have e1d := e1c.trans r3706
  have N0M := Fr.app N0L (Fr.nil n0)
  show own_G p e below (T0G.setTop (mkF m 439 #[iv i3, iv i0, iv i1, iv i2, iv 1, iv i9, iv i02, iv i04, rv o04, rv o02, rv o08, rv o2, iv 1, rv o4] [(.int 1)])) _
  refine oS (fun _ => XS.ifNo X1h.here hx rfl (hb hby at_439) rfl (XT.i0_eq_f (by decide))) ?_
  refine oS (fun _ => XS.iconst X1h.here hx rfl (hb hby at_442) ) ?_
  refine oS (fun _ => XS.goto X1h.here hx rfl (pc0 := 443) (pc' := 447) rfl (hb hby at_443) (by decide) (by decide)) ?_
  have K07 : Keep h0 h2 [] := (((((((Keep.refl h0 []).ext E9).wr W0 (Or.inr (by omega))).ext E4).trans K0 (allS (Or.inr (by omega)) all0)).trans K5 all0).ext E1)
  exact own_retNW X1h hx (t := .boolean) Bd.notSynchronized Bd.returns (by simp) (hb hby at_447) (by decide) hS hZ hEL hh R0d e1d (by omega) (by decide) (by decide) (fun hA => ⟨rfl, N0M⟩)
 ·skip
  refine own_cast (g' := (mkF m 3 #[iv i3, iv i0, iv i1, iv i2, .unset, .unset, .unset, .unset, .unset, .unset, .unset, .unset, .unset, .unset] [(.int 2)])) (by rw [q2]) ?_
  show own_G p e below (s₁.setTop (mkF m 3 #[iv i3, iv i0, iv i1, iv i2, .unset, .unset, .unset, .unset, .unset, .unset, .unset, .unset, .unset, .unset] [(.int 2)])) _
  refine oS (fun _ => XS.istore X0.here hx rfl (hb hby at_3) rfl (l' := #[iv i3, iv i0, iv i1, iv i2, iv 2, .unset, .unset, .unset, .unset, .unset, .unset, .unset, .unset, .unset]) rfl) ?_
  refine oS (fun _ => XS.iloadN X0.here hx rfl (hb hby at_5) rfl) ?_
  refine oS (fun _ => XS.sipush X0.here hx rfl (hb hby at_6) ) ?_
  refine oS (fun _ => XS.iand X0.here hx rfl (hb hby at_9) rfl) ?_
  refine oS (fun _ => XT.i2c X0.here hx rfl (hb hby at_10) rfl) ?_
  show own_G p e below (s₁.setTop (mkF m 11 #[iv i3, iv i0, iv i1, iv i2, iv 2, .unset, .unset, .unset, .unset, .unset, .unset, .unset, .unset, .unset] [(.int ((i0 &&& 255).toUInt32.toUInt16.toUInt32.toInt32))])) _
  obtain ⟨i6, q0F, b8, b1, b9⟩ := own_chr i0
  refine own_cast (g' := (mkF m 11 #[iv i3, iv i0, iv i1, iv i2, iv 2, .unset, .unset, .unset, .unset, .unset, .unset, .unset, .unset, .unset] [(.int i6)])) (by rw [q0F]) ?_
  refine oS (fun _ => XS.istore X0.here hx rfl (hb hby at_11) rfl (l' := #[iv i3, iv i0, iv i1, iv i2, iv 2, iv i6, .unset, .unset, .unset, .unset, .unset, .unset, .unset, .unset]) rfl) ?_
  refine oS (fun _ => XS.iloadN X0.here hx rfl (hb hby at_13) rfl) ?_
  refine oS (fun _ => XS.sipush X0.here hx rfl (hb hby at_14) ) ?_
  refine oS (fun _ => XS.iand X0.here hx rfl (hb hby at_17) rfl) ?_
  refine oS (fun _ => XT.i2c X0.here hx rfl (hb hby at_18) rfl) ?_
  show own_G p e below (s₁.setTop (mkF m 19 #[iv i3, iv i0, iv i1, iv i2, iv 2, iv i6, .unset, .unset, .unset, .unset, .unset, .unset, .unset, .unset] [(.int ((i1 &&& 255).toUInt32.toUInt16.toUInt32.toInt32))])) _
  obtain ⟨i8, q0G, b00, b2, b01⟩ := own_chr i1
  refine own_cast (g' := (mkF m 19 #[iv i3, iv i0, iv i1, iv i2, iv 2, iv i6, .unset, .unset, .unset, .unset, .unset, .unset, .unset, .unset] [(.int i8)])) (by rw [q0G]) ?_
  refine oS (fun _ => XS.istore X0.here hx rfl (hb hby at_19) rfl (l' := #[iv i3, iv i0, iv i1, iv i2, iv 2, iv i6, iv i8, .unset, .unset, .unset, .unset, .unset, .unset, .unset]) rfl) ?_
  refine oS (fun _ => XS.iloadN X0.here hx rfl (hb hby at_21) rfl) ?_
  refine oS (fun _ => XS.sipush X0.here hx rfl (hb hby at_22) ) ?_
  refine oS (fun _ => XS.iand X0.here hx rfl (hb hby at_25) rfl) ?_
  refine oS (fun _ => XT.i2c X0.here hx rfl (hb hby at_26) rfl) ?_
  show own_G p e below (s₁.setTop (mkF m 27 #[iv i3, iv i0, iv i1, iv i2, iv 2, iv i6, iv i8, .unset, .unset, .unset, .unset, .unset, .unset, .unset] [(.int ((i2 &&& 255).toUInt32.toUInt16.toUInt32.toInt32))])) _
  obtain ⟨i01, q0H, b0n, b0o, b0p⟩ := own_chr i2
  refine own_cast (g' := (mkF m 27 #[iv i3, iv i0, iv i1, iv i2, iv 2, iv i6, iv i8, .unset, .unset, .unset, .unset, .unset, .unset, .unset] [(.int i01)])) (by rw [q0H]) ?_
  refine oS (fun _ => XS.istore X0.here hx rfl (hb hby at_27) rfl (l' := #[iv i3, iv i0, iv i1, iv i2, iv 2, iv i6, iv i8, iv i01, .unset, .unset, .unset, .unset, .unset, .unset]) rfl) ?_
  refine oS (fun _ => XS.iload X0.here hx rfl (hb hby at_29) rfl) ?_
  refine oS (fun _ => XS.ifYes X0.here hx rfl (pc0 := 31) (pc' := 42) rfl (hb hby at_31) rfl (XT.i0_ne_t (by decide)) (by decide) (by decide)) ?_
  refine oS (fun _ => XS.iload X0.here hx rfl (hb hby at_42) rfl) ?_
  refine oS (fun _ => XS.iconst X0.here hx rfl (hb hby at_44) ) ?_
  refine oS (fun _ => XS.icmpYes X0.here hx rfl (pc0 := 45) (pc' := 61) rfl (hb hby at_45) rfl (XT.ii_ne_t (by decide)) (by decide) (by decide)) ?_
  refine oS (fun _ => XS.iload X0.here hx rfl (hb hby at_61) rfl) ?_
  refine oS (fun _ => XS.iconst X0.here hx rfl (hb hby at_63) ) ?_
  refine oS (fun _ => XS.icmpNo X0.here hx rfl (hb hby at_64) rfl (XT.ii_ne_f (by decide))) ?_
  refine oS (fun _ => XS.iconst X0.here hx rfl (hb hby at_67) ) ?_
  show own_G p e below (s₁.setTop (mkF m 68 #[iv i3, iv i0, iv i1, iv i2, iv 2, iv i6, iv i8, iv i01, .unset, .unset, .unset, .unset, .unset, .unset] [(.int 2)])) _
  obtain ⟨T1n, h0a, m9, X1i, e1e, E00, A05, B2, s4⟩ := own_newP X0 hx hZ (aty := .char) (hw 0) e0 (nm := "[C") rfl (g := (mkF m 68 #[iv i3, iv i0, iv i1, iv i2, iv 2, iv i6, iv i8, iv i01, .unset, .unset, .unset, .unset, .unset, .unset] [(.int 2)])) rfl (hb hby at_68) (n := 2) (rest := []) rfl (by decide) (cap := 2) (by decide) (by decide) (by decide) (by decide)
  obtain ⟨o00, g4⟩ : ∃ z, z = h0.size := ⟨_, rfl⟩
  rw [← g4] at A05 B2 s4
  have F0A : Arv Z h0a o00 m9 .char 2 [(.int 0), (.int 0)] (.int 0) := own_newA A05 (by decide) rfl rfl
  have z01 := E00.1
  have y0S : @LT.lt Nat instLTNat o00 h0a.size := F0A.lt
  refine oS s4 ?_
  have R8 : CHr Z own_EL s.vm h0 s.vm h0a := hR.trans (CHr.ext E00 hR.1)
  refine oS (fun _ => XS.dup X1i.here hx rfl (hb hby at_70) rfl rfl) ?_
  refine oS (fun _ => XS.iconst X1i.here hx rfl (hb hby at_71) ) ?_
  refine oS (fun _ => XS.iload X1i.here hx rfl (hb hby at_72) rfl) ?_
  obtain ⟨T1o, h0e, X17, e1f, W1, A08, s0G⟩ := own_stC X1i hx hZ e1e F0A (x' := i6) 0 b9 rfl (by decide) (by simp) (g := (mkF m 74 #[iv i3, iv i0, iv i1, iv i2, iv 2, iv i6, iv i8, iv i01, .unset, .unset, .unset, .unset, .unset, .unset] [(.int i6), (.int 0), (.ref o00), (.ref o00)])) rfl (rest := [(.ref o00)]) rfl (hb hby at_74)
  have S4 : Safe Z own_EL s.vm h0a o00 := Safe.arv hZ.alike F0A (by decide)
  have N2 : n0 ≤ o00 := by omega
  have N0N := Fr.snoc X17 N1 N2
  have z02 := W1.size
  have F1a : Arv Z h0e o00 m9 .char 2 [(.int i6), (.int 0)] (.int 0) := A08
  refine oS s0G ?_
  have R9 : CHr Z own_EL s.vm h0 s.vm h0e := R8.trans (CHr.wr W1 S4 R8.1)
  refine oS (fun _ => XS.dup X17.here hx rfl (hb hby at_75) rfl rfl) ?_
  refine oS (fun _ => XS.iconst X17.here hx rfl (hb hby at_76) ) ?_
  refine oS (fun _ => XS.iload X17.here hx rfl (hb hby at_77) rfl) ?_
  obtain ⟨T0H, h0b, X1j, e1g, W2, A09, s0H⟩ := own_stC X17 hx hZ e1f F1a (x' := i8) 1 b01 rfl (by decide) (by simp) (g := (mkF m 79 #[iv i3, iv i0, iv i1, iv i2, iv 2, iv i6, iv i8, iv i01, .unset, .unset, .unset, .unset, .unset, .unset] [(.int i8), (.int 1), (.ref o00), (.ref o00)])) rfl (rest := [(.ref o00)]) rfl (hb hby at_79)
  have S5 := Safe.wr W1 S4 R8.1 S4
  have N0O := Fr.snoc X1j N0N N2
  have z03 := W2.size
  have F1b : Arv Z h0b o00 m9 .char 2 [(.int i6), (.int i8)] (.int 0) := A09
  refine oS s0H ?_
  have R4 : CHr Z own_EL s.vm h0 s.vm h0b := R9.trans (CHr.wr W2 S5 R9.1)
  refine oS (fun _ => XS.astore X1j.here hx rfl (hb hby at_80) rfl rfl (l' := #[iv i3, iv i0, iv i1, iv i2, iv 2, iv i6, iv i8, iv i01, rv o00, .unset, .unset, .unset, .unset, .unset]) rfl) ?_
  show own_G p e below (T0H.setTop (mkF m 82 #[iv i3, iv i0, iv i1, iv i2, iv 2, iv i6, iv i8, iv i01, rv o00, .unset, .unset, .unset, .unset, .unset] [])) _
  refine oS (fun _ => XS.goto X1j.here hx rfl (pc0 := 82) (pc' := 105) rfl (hb hby at_82) (by decide) (by decide)) ?_
  obtain ⟨T1p, h02, X1s, e1h, E5, A9, D2, U2, s5⟩ := newO X1j hx hZ hown (hw 1) (hw 2) (hw 3) e1g (g := (mkF m 105 #[iv i3, iv i0, iv i1, iv i2, iv 2, iv i6, iv i8, iv i01, rv o00, .unset, .unset, .unset, .unset, .unset] [])) rfl (hb hby at_105) (by decide) (by decide)
  obtain ⟨o01, g5⟩ : ∃ z, z = h0b.size := ⟨_, rfl⟩
  rw [← g5] at A9 D2 U2 s5
  have z04 := E5.1
  have y0T : @LT.lt Nat instLTNat o01 h02.size := A9.lt
  refine oS s5 ?_
  have R1 : CHr Z own_EL s.vm h0 s.vm h02 := R4.trans (CHr.ext E5 R4.1)
  have F1c : Fld Z h02 o01 cN2 "value" "[B" .null := D2 (Or.inr (hw 16)) (ty := (.array .byte)) (by decide)
  have F1d : Fld Z h02 o01 cN2 "coder" "B" (.int 0) := D2 (Or.inr (hw 17)) (ty := .byte) (by decide)
  have S0C : Safe Z own_EL s.vm h0b o01 := Safe.new (by omega)
  refine oS (fun _ => XS.dup X1s.here hx rfl (hb hby at_108) rfl rfl) ?_
  refine oS (fun _ => XS.aload X1s.here hx rfl (hb hby at_109) rfl rfl) ?_
  have F1e := F1b.ext E5
  have y0f : @LT.lt Nat instLTNat o00 h02.size := by omega
  have N6 : n0 ≤ o01 := by omega
  have y0g : @LT.lt Nat instLTNat o01 h02.size := by omega
  have O0a : Old Z n0 h0a := O6.ext E00
  have O0b : Old Z n0 h0e := O0a.wr W1 N2
  have O0c : Old Z n0 h0b := O0b.wr W2 N2
  have O03 : Old Z n0 h02 := O0c.ext E5
  have Z8 : n0 ≤ h02.size := by omega
  obtain ⟨T1q, h9, v0v, L0x, X1t, e1i, q0I, s0I⟩ := own_callN X1s hx hZ hown e1h (y := mN1) (b := o01) rfl (hw 4) (hw 5) (hw 3) (hw 6) (by decide) (W := 1) (own_rm67 l Z a0 hw [] i6 i8 i00 m9 o01 o00 h02 n0 Z8 O03 F1e I0 I1 b1 y0f b2 F1d A9 N6 F1c y0g) (by decide) (by decide) (by decide) (by decide) (g := (mkF m 111 #[iv i3, iv i0, iv i1, iv i2, iv 2, iv i6, iv i8, iv i01, rv o00, .unset, .unset, .unset, .unset, .unset] [(.ref o00), (.ref o01), (.ref o01)])) rfl (by rw [hml]; rfl) (argsL := [(.ref o00)]) (rest := [(.ref o01)]) rfl (lenOf own_pd1 rfl) rfl (by show 2 * 0 + _ ≤ _; exact Nat.le_of_eq rfl) (hb hby at_111)
  refine oS s0I ?_
  obtain ⟨o0j, m04, rfl, N0P, K1, F1T, F1f, F1g, F1h, F1i, F1U, F1j⟩ := q0I
  have N0Q := Fr.app N0O N0P
  have S1 := Safe.ext E5 R4.1 S0C
  have R08 : CHr Z own_EL s.vm h0 s.vm h9 := R1.trans (CHr.keep K1 (sfS S1 sf0) R1.1)
  have z05 := K1.1
  have S0D : Safe Z own_EL s.vm h02 o0j := Safe.new (by omega)
  refine oS (fun _ => XS.astore X1t.here hx rfl (hb hby at_114) rfl rfl (l' := #[iv i3, iv i0, iv i1, iv i2, iv 2, iv i6, iv i8, iv i01, rv o00, rv o01, .unset, .unset, .unset, .unset]) rfl) ?_
  refine oS (fun _ => XS.aload X1t.here hx rfl (hb hby at_116) rfl rfl) ?_
  have y0U : @LT.lt Nat instLTNat o01 h9.size := by omega
  have y0V : @LT.lt Nat instLTNat o01 h9.size := by omega
  have y0W : @LT.lt Nat instLTNat o01 h9.size := by omega
  have y0h : @LT.lt Nat instLTNat o01 h9.size := by omega
  have O04 : Old Z n0 h9 := O03.keep K1 (allS N6 all0)
  have Z9 : n0 ≤ h9.size := by omega
  have S0d := Safe.keep K1 (sfS S1 sf0) R1.1 S1
  have y0i : @LT.lt Nat instLTNat o01 h9.size := by omega
  obtain ⟨T6, h6, v0w, L0y, X18, e1j, q0J, hS, hZ, hown, A5, s0J⟩ := own_callSWK X1t hx hZ hown e1i (y := mN20) (sf := [o01]) (hw 22) (hw 23) (hw 24) (hw 25) (by decide) hS (by omega) hEL R08.1 (sfS S0d sf0) (allS y0i all0) (Vm.MethodsKnown.alikeC (hZ0.alike.symm.trans hZ.alike) hTK) (Vm.FramesKnown.alikeC (hZ0.alike.symm.trans hZ.alike) hBel) (W := 0) (own_rm79 l hl Z a0 hw hEL [] o01 i00 o0j m04 i6 i8 o0l o0m h9 n0 Z9 O04 I0 I1 F1h y0h F1i F1j F1f F1g I4 I5) (by decide) (by decide) (by decide) (by decide) (g := (mkF m 118 #[iv i3, iv i0, iv i1, iv i2, iv 2, iv i6, iv i8, iv i01, rv o00, rv o01, .unset, .unset, .unset, .unset] [(.ref o01)])) rfl (by rw [hml]; rfl) (argsL := [(.ref o01)]) (rest := []) rfl (lenOf own_pd17 rfl) rfl (by show 2 * 0 + _ ≤ _; exact Nat.le_of_eq rfl) (hb hby at_118)
  refine oS s0J ?_
  obtain ⟨o07, o1, o0b, m1, rfl, N0R, K6, F1V, F1W, F1X, F0J, F1k, F0n, F0s, F0t, F0u, F1Y, F1Z, F20, F1l, F21, F1m⟩ := q0J
  have N0S := Fr.app N0Q N0R
  have R09 : CHr Z own_EL s.vm h0 T6.vm h6 := R08.trans A5
  have z06 := K6.1
  refine oS (fun _ => XS.astore X18.here hx rfl (hb hby at_121) rfl rfl (l' := #[iv i3, iv i0, iv i1, iv i2, iv 2, iv i6, iv i8, iv i01, rv o00, rv o01, rv o07, .unset, .unset, .unset]) rfl) ?_
  refine oS (fun _ => XS.aload X18.here hx rfl (hb hby at_123) rfl rfl) ?_
  show own_G p e below (T6.setTop (mkF m 125 #[iv i3, iv i0, iv i1, iv i2, iv 2, iv i6, iv i8, iv i01, rv o00, rv o01, rv o07, .unset, .unset, .unset] [(.ref o07)])) _
  refine oS (fun _ => XT.ifnonnullYes X18.here hx rfl (pc0 := 125) (pc' := 130) rfl (hb hby at_125) rfl (by decide) (by decide)) ?_
  refine oS (fun _ => XS.aload X18.here hx rfl (hb hby at_130) rfl rfl) ?_
  have O5 : Old Z n0 h6 := O04.keep K6 all0
  have Z00 : n0 ≤ h6.size := by omega
  obtain ⟨T1r, h0S, v0x, L0z, X19, e1k, q0K, s0K⟩ := own_callU X18 hx hZ hown e1j (y := mN32) (z := mN21) (C := cN5) (owner := cN6) (b := o07) (hw 190) (hw 191) (hw 192) (hw 194) (hw 193) (hw 151) (hw 195) (by decide) F0J (W := 0) (own_rm33 l Z a0 hw [] o07 o1 h6 n0 Z00 O5 F1k) (by decide) (by decide) (by decide) (by decide) (g := (mkF m 132 #[iv i3, iv i0, iv i1, iv i2, iv 2, iv i6, iv i8, iv i01, rv o00, rv o01, rv o07, .unset, .unset, .unset] [(.ref o07)])) rfl (by rw [hml]; rfl) (argsL := []) (rest := []) rfl (lenOf own_pd16 rfl) rfl (by show 2 * 0 + _ ≤ _; exact Nat.le_of_eq rfl) (hb hby at_132)
  refine oS s0K ?_
  obtain ⟨rfl, N0T, K02⟩ := q0K
  have N0U := Fr.app N0S N0T
  have e1l := e1k.trans K02
  refine oS (fun _ => XS.astore X19.here hx rfl (hb hby at_135) rfl rfl (l' := #[iv i3, iv i0, iv i1, iv i2, iv 2, iv i6, iv i8, iv i01, rv o00, rv o01, rv o07, rv o1, .unset, .unset]) rfl) ?_
  refine oS (fun _ => XS.aload X19.here hx rfl (hb hby at_137) rfl rfl) ?_
  refine oS (fun _ => XS.ifnullNo X19.here hx rfl (hb hby at_139) rfl) ?_
  refine oS (fun _ => XS.aload X19.here hx rfl (hb hby at_142) rfl rfl) ?_
  have Z01 : n0 ≤ h6.size := by omega
  obtain ⟨T0I, h0T, v0y, L0A, X4, e1m, q0L, s0L⟩ := own_callV X19 hx hZ hown e1l (y := mN5) (z := mN5) (C := cN2) (b := o1) (hw 196) (hw 58) (notFace_of_selects (args := #[]) (mvT hZ (hw 60))) (hw 60) (hw 59) (hw 3) (hw 61) (by decide) F0n (W := 0) (own_rm98 l Z a0 hw [] i6 i8 i00 m1 o1 o0b h6 n0 Z01 O5 F0s F0u I0 I1 F0t F0n) (by decide) (by decide) (by decide) (by decide) (g := (mkF m 144 #[iv i3, iv i0, iv i1, iv i2, iv 2, iv i6, iv i8, iv i01, rv o00, rv o01, rv o07, rv o1, .unset, .unset] [(.ref o1)])) rfl (by rw [hml]; rfl) (argsL := []) (rest := []) rfl (lenOf own_pd5 rfl) rfl (by show 2 * 0 + _ ≤ _; exact Nat.le_of_eq rfl) (hb hby at_144)
  refine oS s0L ?_
  obtain ⟨rfl, N0V, K03⟩ := q0L
  have N0W := Fr.app N0U N0V
  have e1n := e1m.trans K03
  refine oS (fun _ => XS.iload X4.here hx rfl (hb hby at_147) rfl) ?_
  refine oS (fun _ => XS.bipush X4.here hx rfl (hb hby at_149) ) ?_
  show own_G p e below (T0I.setTop (mkF m 151 #[iv i3, iv i0, iv i1, iv i2, iv 2, iv i6, iv i8, iv i01, rv o00, rv o01, rv o07, rv o1, .unset, .unset] [(.int 16), (.int 2), (.int 18)])) _
  refine oS (fun _ => XS.iadd X4.here hx rfl (hb hby at_151) rfl) ?_
  refine oS (fun _ => XS.icmpYes X4.here hx rfl (pc0 := 152) (pc' := 157) rfl (hb hby at_152) rfl (XT.ii_eq_t (by decide)) (by decide) (by decide)) ?_
  refine oS (fun _ => XS.iload X4.here hx rfl (hb hby at_157) rfl) ?_
  refine oS (fun _ => XS.iconst X4.here hx rfl (hb hby at_159) ) ?_
  refine oS (fun _ => XS.icmpNo X4.here hx rfl (hb hby at_160) rfl (XT.ii_lt_f (by decide))) ?_
  refine oS (fun _ => XS.aload X4.here hx rfl (hb hby at_163) rfl rfl) ?_
  refine oS (fun _ => XS.iconst X4.here hx rfl (hb hby at_165) ) ?_
  obtain ⟨T7, h0U, v0z, L0B, X9, e1o, q0M, s0M⟩ := own_callV X4 hx hZ hown e1n (y := ⟨cN2, "charAt", "(I)C"⟩) (z := ⟨cN2, "charAt", "(I)C"⟩) (C := cN2) (b := o1) (hw 202) (hw 203) (notFace_of_selects (args := #[]) (mvT hZ (hw 205))) (hw 205) (hw 204) (hw 3) (hw 206) (by decide) F0n (W := 0) (own_c5 l Z a0 hw [] o1 o0b m1 18 [(.int (i6.toInt8.toInt32)), (.int (i8.toInt8.toInt32)), (.int 58), (.int 32), (.int 110), (.int 111), (.int 116), (.int 32), (.int 85), (.int 84), (.int 70), (.int 45), (.int 56), (.int 32), (.int 116), (.int 101), (.int 120), (.int 116)] 0 (i6.toInt8.toInt32) r0 I3 h6 n0 O5 I2 i00 I1 I0 F0n F0t F0s F0u (by decide) rfl) (by decide) (by decide) (by decide) (by decide) (g := (mkF m 166 #[iv i3, iv i0, iv i1, iv i2, iv 2, iv i6, iv i8, iv i01, rv o00, rv o01, rv o07, rv o1, .unset, .unset] [(.int 0), (.ref o1)])) rfl (by rw [hml]; rfl) (argsL := [(.int 0)]) (rest := []) rfl (lenOf own_pc5 rfl) rfl (by show 2 * 0 + _ ≤ _; exact Nat.le_of_eq rfl) (hb hby at_166)
  refine oS s0M ?_
  obtain ⟨rfl, rfl, r5384⟩ := q0M
  have e1p := e1o.trans r5384
  have N0X := Fr.app N0W (Fr.nil n0)
  show own_G p e below (T7.setTop (mkF m 169 #[iv i3, iv i0, iv i1, iv i2, iv 2, iv i6, iv i8, iv i01, rv o00, rv o01, rv o07, rv o1, .unset, .unset] [(.int (own_ch (i6.toInt8.toInt32)))])) _
  refine own_cast (g' := (mkF m 169 #[iv i3, iv i0, iv i1, iv i2, iv 2, iv i6, iv i8, iv i01, rv o00, rv o01, rv o07, rv o1, .unset, .unset] [(.int i6)])) (by rw [own_chb b8 b1]) ?_
  show own_G p e below (T7.setTop (mkF m 169 #[iv i3, iv i0, iv i1, iv i2, iv 2, iv i6, iv i8, iv i01, rv o00, rv o01, rv o07, rv o1, .unset, .unset] [(.int i6)])) _
  refine oS (fun _ => XS.iload X9.here hx rfl (hb hby at_169) rfl) ?_
  refine oS (fun _ => XS.icmpNo X9.here hx rfl (hb hby at_171) rfl (XT.ii_ne_f rfl)) ?_
  refine oS (fun _ => XS.iload X9.here hx rfl (hb hby at_174) rfl) ?_
  refine oS (fun _ => XS.iconst X9.here hx rfl (hb hby at_176) ) ?_
  refine oS (fun _ => XS.icmpNo X9.here hx rfl (hb hby at_177) rfl (XT.ii_lt_f (by decide))) ?_
  refine oS (fun _ => XS.aload X9.here hx rfl (hb hby at_180) rfl rfl) ?_
  refine oS (fun _ => XS.iconst X9.here hx rfl (hb hby at_182) ) ?_
  obtain ⟨T8, h0V, v0A, L0C, X6, e1q, q0N, s0N⟩ := own_callV X9 hx hZ hown e1p (y := ⟨cN2, "charAt", "(I)C"⟩) (z := ⟨cN2, "charAt", "(I)C"⟩) (C := cN2) (b := o1) (hw 202) (hw 203) (notFace_of_selects (args := #[]) (mvT hZ (hw 205))) (hw 205) (hw 204) (hw 3) (hw 206) (by decide) F0n (W := 0) (own_c5 l Z a0 hw [] o1 o0b m1 18 [(.int (i6.toInt8.toInt32)), (.int (i8.toInt8.toInt32)), (.int 58), (.int 32), (.int 110), (.int 111), (.int 116), (.int 32), (.int 85), (.int 84), (.int 70), (.int 45), (.int 56), (.int 32), (.int 116), (.int 101), (.int 120), (.int 116)] 1 (i8.toInt8.toInt32) r0 I3 h6 n0 O5 I2 i00 I1 I0 F0n F0t F0s F0u (by decide) rfl) (by decide) (by decide) (by decide) (by decide) (g := (mkF m 183 #[iv i3, iv i0, iv i1, iv i2, iv 2, iv i6, iv i8, iv i01, rv o00, rv o01, rv o07, rv o1, .unset, .unset] [(.int 1), (.ref o1)])) rfl (by rw [hml]; rfl) (argsL := [(.int 1)]) (rest := []) rfl (lenOf own_pc5 rfl) rfl (by show 2 * 0 + _ ≤ _; exact Nat.le_of_eq rfl) (hb hby at_183)
  refine oS s0N ?_
  obtain ⟨rfl, rfl, r5397⟩ := q0N
  have e1r := e1q.trans r5397
  have N0Y := Fr.app N0X (Fr.nil n0)
  show own_G p e below (T8.setTop (mkF m 186 #[iv i3, iv i0, iv i1, iv i2, iv 2, iv i6, iv i8, iv i01, rv o00, rv o01, rv o07, rv o1, .unset, .unset] [(.int (own_ch (i8.toInt8.toInt32)))])) _
  refine own_cast (g' := (mkF m 186 #[iv i3, iv i0, iv i1, iv i2, iv 2, iv i6, iv i8, iv i01, rv o00, rv o01, rv o07, rv o1, .unset, .unset] [(.int i8)])) (by rw [own_chb b00 b2]) ?_
  show own_G p e below (T8.setTop (mkF m 186 #[iv i3, iv i0, iv i1, iv i2, iv 2, iv i6, iv i8, iv i01, rv o00, rv o01, rv o07, rv o1, .unset, .unset] [(.int i8)])) _
  refine oS (fun _ => XS.iload X6.here hx rfl (hb hby at_186) rfl) ?_
  refine oS (fun _ => XS.icmpNo X6.here hx rfl (hb hby at_188) rfl (XT.ii_ne_f rfl)) ?_
  refine oS (fun _ => XS.iload X6.here hx rfl (hb hby at_191) rfl) ?_
  refine oS (fun _ => XS.iconst X6.here hx rfl (hb hby at_193) ) ?_
  refine oS (fun _ => XS.icmpYes X6.here hx rfl (pc0 := 194) (pc' := 208) rfl (hb hby at_194) rfl (XT.ii_lt_t (by decide)) (by decide) (by decide)) ?_
  refine oS (fun _ => XS.iconst X6.here hx rfl (hb hby at_208) ) ?_
  refine oS (fun _ => XS.goto X6.here hx rfl (pc0 := 209) (pc' := 213) rfl (hb hby at_209) (by decide) (by decide)) ?_
  refine oS (fun _ => XS.istore X6.here hx rfl (hb hby at_213) rfl (l' := #[iv i3, iv i0, iv i1, iv i2, iv 2, iv i6, iv i8, iv i01, rv o00, rv o01, rv o07, rv o1, iv 1, .unset]) rfl) ?_
  obtain ⟨o5, T3, h3, k2, o0e, m6, X00, e1s, E2, hS, hk, hZ, hown, F06, F07, F08, F09, y0j, y0k, A1, L0D, M1, s0O⟩ := ldcCH X6 hx hZ hown (hw 197) (own_sk (own_Wall hw)) e1r hS (by omega) hEL (by decide) R09.1 (vs := [(.int 58), (.int 32), (.int 110), (.int 111), (.int 116), (.int 32), (.int 85), (.int 84), (.int 70), (.int 45), (.int 56), (.int 32), (.int 116), (.int 101), (.int 120), (.int 116)]) (z := 16) ⟨by decide, by decide +kernel⟩ (by decide) rfl (g := (mkF m 215 #[iv i3, iv i0, iv i1, iv i2, iv 2, iv i6, iv i8, iv i01, rv o00, rv o01, rv o07, rv o1, iv 1, .unset] [])) rfl (hb hby at_215) (n := 64) (by decide) (by decide) (by decide) (by decide)
  have z07 := E2.1
  refine oS s0O ?_
  have R0e : CHr Z own_EL s.vm h0 T3.vm h3 := R09.trans A1
  have y0X : @LT.lt Nat instLTNat o5 h3.size := y0j
  have y0Y : @LT.lt Nat instLTNat o0e h3.size := y0k
  have S0E := Safe.keep K1 (sfS S1 sf0) R1.1 S0D
  have y0l : @LT.lt Nat instLTNat o0j h9.size := by omega
  have S0F := A5.safe y0l S0E
  have y0m : @LT.lt Nat instLTNat o0j h6.size := by omega
  have S0e := A1.safe y0m S0F
  have N25 : @Ne Nat o0j o5 := (M1 o0j S0e).1
  have N26 : @Ne Nat o0j o0e := (M1 o0j S0e).2
  have y0n : @LT.lt Nat instLTNat o0b h6.size := by omega
  have S0f := A1.safe y0n F1m
  have N27 : @Ne Nat o0b o5 := (M1 o0b S0f).1
  have N28 : @Ne Nat o0b o0e := (M1 o0b S0f).2
  have F1n := Exa.ext E2 F0J
  have S0g : Safe Z own_EL T3.vm h3 o07 := Safe.exa hZ.alike F1n (by decide) (by decide)
  have N29 : @Ne Nat o07 o5 := (M1 o07 S0g).1
  have N2a : @Ne Nat o07 o0e := (M1 o07 S0g).2
  have S0G := Safe.wr W2 S5 R9.1 S5
  have S0H := Safe.ext E5 R4.1 S0G
  have S0I := Safe.keep K1 (sfS S1 sf0) R1.1 S0H
  have y0o : @LT.lt Nat instLTNat o00 h9.size := by omega
  have S0J := A5.safe y0o S0I
  have y0p : @LT.lt Nat instLTNat o00 h6.size := by omega
  have S0h := A1.safe y0p S0J
  have N2b : @Ne Nat o00 o5 := (M1 o00 S0h).1
  have N2c : @Ne Nat o00 o0e := (M1 o00 S0h).2
  have y0q : @LT.lt Nat instLTNat o1 h6.size := by omega
  have S0i := A1.safe y0q F1l
  have N2d : @Ne Nat o1 o5 := (M1 o1 S0i).1
  have N2e : @Ne Nat o1 o0e := (M1 o1 S0i).2
  have y0r : @LT.lt Nat instLTNat o01 h9.size := by omega
  have S0K := A5.safe y0r S0d
  have y0s : @LT.lt Nat instLTNat o01 h6.size := by omega
  have S0j := A1.safe y0s S0K
  have N2f : @Ne Nat o01 o5 := (M1 o01 S0j).1
  have N2g : @Ne Nat o01 o0e := (M1 o01 S0j).2
  show own_G p e below (T3.setTop (mkF m 217 #[iv i3, iv i0, iv i1, iv i2, iv 2, iv i6, iv i8, iv i01, rv o00, rv o01, rv o07, rv o1, iv 1, .unset] [(.ref o5)])) _
  refine oS (fun _ => XS.astore X00.here hx rfl (hb hby at_217) rfl rfl (l' := #[iv i3, iv i0, iv i1, iv i2, iv 2, iv i6, iv i8, iv i01, rv o00, rv o01, rv o07, rv o1, iv 1, rv o5]) rfl) ?_
  refine oS (fun _ => XS.iload X00.here hx rfl (hb hby at_219) rfl) ?_
  refine oS (fun _ => XS.ifNo X00.here hx rfl (hb hby at_221) rfl (XT.i0_eq_f (by decide))) ?_
  refine oS (fun _ => XS.aload X00.here hx rfl (hb hby at_224) rfl rfl) ?_
  refine oS (fun _ => XS.iload X00.here hx rfl (hb hby at_226) rfl) ?_
  refine oS (fun _ => XS.aload X00.here hx rfl (hb hby at_228) rfl rfl) ?_
  refine oS (fun _ => XS.iconst X00.here hx rfl (hb hby at_230) ) ?_
  have F0a := Exa.ext E2 F0n
  have F0b := Fld.ext E2 F0t
  have F0c := Fld.ext E2 F0s
  have F0d := F0u.ext E2
  have O2 : Old Z n0 h3 := O5.ext E2
  obtain ⟨T0J, h0W, v0B, L0E, X0y, e1t, q0O, s0P⟩ := own_callS X00 hx hZ hown e1s (y := ⟨cN1, "at", "(Ljava/lang/String;ILjava/lang/String;I)Z"⟩) (hw 198) (hw 199) (hw 200) (hw 201) (by decide) (W := 0) (own_c6 l Z a0 hw [] o1 o5 o0b o0e m1 m6 18 16 [(.int (i6.toInt8.toInt32)), (.int (i8.toInt8.toInt32)), (.int 58), (.int 32), (.int 110), (.int 111), (.int 116), (.int 32), (.int 85), (.int 84), (.int 70), (.int 45), (.int 56), (.int 32), (.int 116), (.int 101), (.int 120), (.int 116)] [(.int 58), (.int 32), (.int 110), (.int 111), (.int 116), (.int 32), (.int 85), (.int 84), (.int 70), (.int 45), (.int 56), (.int 32), (.int 116), (.int 101), (.int 120), (.int 116)] 2 0 58 r0 I3 h3 n0 O2 I2 i00 I1 I0 F0a F0b F0c F0d (by decide) rfl F06 F07 F08 F09 (by decide) rfl) (by decide) (by decide) (by decide) (by decide) (g := (mkF m 231 #[iv i3, iv i0, iv i1, iv i2, iv 2, iv i6, iv i8, iv i01, rv o00, rv o01, rv o07, rv o1, iv 1, rv o5] [(.int 0), (.ref o5), (.int 2), (.ref o1)])) rfl (by rw [hml]; rfl) (argsL := [(.ref o1), (.int 2), (.ref o5), (.int 0)]) (rest := []) rfl (lenOf own_pd18 rfl) rfl (by show 2 * 0 + _ ≤ _; exact Nat.le_of_eq rfl) (hb hby at_231)
  refine oS s0P ?_
  obtain ⟨rfl, rfl, r5472⟩ := q0O
  have e1u := e1t.trans r5472
  have N0Z := Fr.app N0Y (Fr.nil n0)
  show own_G p e below (T0J.setTop (mkF m 234 #[iv i3, iv i0, iv i1, iv i2, iv 2, iv i6, iv i8, iv i01, rv o00, rv o01, rv o07, rv o1, iv 1, rv o5] [(.int 1)])) _
  refine oS (fun _ => XS.ifNo X0y.here hx rfl (hb hby at_234) rfl (XT.i0_eq_f (by decide))) ?_
  refine oS (fun _ => XS.aload X0y.here hx rfl (hb hby at_237) rfl rfl) ?_
  refine oS (fun _ => XS.iload X0y.here hx rfl (hb hby at_239) rfl) ?_
  refine oS (fun _ => XS.aload X0y.here hx rfl (hb hby at_241) rfl rfl) ?_
  refine oS (fun _ => XS.iconst X0y.here hx rfl (hb hby at_243) ) ?_
  obtain ⟨T0K, h0X, v0C, L0F, X0z, e1v, q0P, s0Q⟩ := own_callS X0y hx hZ hown e1u (y := ⟨cN1, "at", "(Ljava/lang/String;ILjava/lang/String;I)Z"⟩) (hw 198) (hw 199) (hw 200) (hw 201) (by decide) (W := 0) (own_c6 l Z a0 hw [] o1 o5 o0b o0e m1 m6 18 16 [(.int (i6.toInt8.toInt32)), (.int (i8.toInt8.toInt32)), (.int 58), (.int 32), (.int 110), (.int 111), (.int 116), (.int 32), (.int 85), (.int 84), (.int 70), (.int 45), (.int 56), (.int 32), (.int 116), (.int 101), (.int 120), (.int 116)] [(.int 58), (.int 32), (.int 110), (.int 111), (.int 116), (.int 32), (.int 85), (.int 84), (.int 70), (.int 45), (.int 56), (.int 32), (.int 116), (.int 101), (.int 120), (.int 116)] 2 1 32 r0 I3 h3 n0 O2 I2 i00 I1 I0 F0a F0b F0c F0d (by decide) rfl F06 F07 F08 F09 (by decide) rfl) (by decide) (by decide) (by decide) (by decide) (g := (mkF m 244 #[iv i3, iv i0, iv i1, iv i2, iv 2, iv i6, iv i8, iv i01, rv o00, rv o01, rv o07, rv o1, iv 1, rv o5] [(.int 1), (.ref o5), (.int 2), (.ref o1)])) rfl (by rw [hml]; rfl) (argsL := [(.ref o1), (.int 2), (.ref o5), (.int 1)]) (rest := []) rfl (lenOf own_pd18 rfl) rfl (by show 2 * 0 + _ ≤ _; exact Nat.le_of_eq rfl) (hb hby at_244)
  refine oS s0Q ?_
  obtain ⟨rfl, rfl, r5485⟩ := q0P
  have e1w := e1v.trans r5485
  have N10 := Fr.app N0Z (Fr.nil n0)
  show own_G p e below (T0K.setTop (mkF m 247 #[iv i3, iv i0, iv i1, iv i2, iv 2, iv i6, iv i8, iv i01, rv o00, rv o01, rv o07, rv o1, iv 1, rv o5] [(.int 1)])) _
  refine oS (fun _ => XS.ifNo X0z.here hx rfl (hb hby at_247) rfl (XT.i0_eq_f (by decide))) ?_
  refine oS (fun _ => XS.aload X0z.here hx rfl (hb hby at_250) rfl rfl) ?_
  refine oS (fun _ => XS.iload X0z.here hx rfl (hb hby at_252) rfl) ?_
  refine oS (fun _ => XS.aload X0z.here hx rfl (hb hby at_254) rfl rfl) ?_
  refine oS (fun _ => XS.iconst X0z.here hx rfl (hb hby at_256) ) ?_
  obtain ⟨T0L, h0Y, v0D, L0G, X0A, e1x, q0Q, s0R⟩ := own_callS X0z hx hZ hown e1w (y := ⟨cN1, "at", "(Ljava/lang/String;ILjava/lang/String;I)Z"⟩) (hw 198) (hw 199) (hw 200) (hw 201) (by decide) (W := 0) (own_c6 l Z a0 hw [] o1 o5 o0b o0e m1 m6 18 16 [(.int (i6.toInt8.toInt32)), (.int (i8.toInt8.toInt32)), (.int 58), (.int 32), (.int 110), (.int 111), (.int 116), (.int 32), (.int 85), (.int 84), (.int 70), (.int 45), (.int 56), (.int 32), (.int 116), (.int 101), (.int 120), (.int 116)] [(.int 58), (.int 32), (.int 110), (.int 111), (.int 116), (.int 32), (.int 85), (.int 84), (.int 70), (.int 45), (.int 56), (.int 32), (.int 116), (.int 101), (.int 120), (.int 116)] 2 2 110 r0 I3 h3 n0 O2 I2 i00 I1 I0 F0a F0b F0c F0d (by decide) rfl F06 F07 F08 F09 (by decide) rfl) (by decide) (by decide) (by decide) (by decide) (g := (mkF m 257 #[iv i3, iv i0, iv i1, iv i2, iv 2, iv i6, iv i8, iv i01, rv o00, rv o01, rv o07, rv o1, iv 1, rv o5] [(.int 2), (.ref o5), (.int 2), (.ref o1)])) rfl (by rw [hml]; rfl) (argsL := [(.ref o1), (.int 2), (.ref o5), (.int 2)]) (rest := []) rfl (lenOf own_pd18 rfl) rfl (by show 2 * 0 + _ ≤ _; exact Nat.le_of_eq rfl) (hb hby at_257)
  refine oS s0R ?_
  obtain ⟨rfl, rfl, r5498⟩ := q0Q
  have e1y := e1x.trans r5498
  have N11 := Fr.app N10 (Fr.nil n0)
  show own_G p e below (T0L.setTop (mkF m 260 #[iv i3, iv i0, iv i1, iv i2, iv 2, iv i6, iv i8, iv i01, rv o00, rv o01, rv o07, rv o1, iv 1, rv o5] [(.int 1)])) _
  refine oS (fun _ => XS.ifNo X0A.here hx rfl (hb hby at_260) rfl (XT.i0_eq_f (by decide))) ?_
  refine oS (fun _ => XS.aload X0A.here hx rfl (hb hby at_263) rfl rfl) ?_
  refine oS (fun _ => XS.iload X0A.here hx rfl (hb hby at_265) rfl) ?_
  refine oS (fun _ => XS.aload X0A.here hx rfl (hb hby at_267) rfl rfl) ?_
  refine oS (fun _ => XS.iconst X0A.here hx rfl (hb hby at_269) ) ?_
  obtain ⟨T0M, h0Z, v0E, L0H, X0B, e1z, q0R, s0S⟩ := own_callS X0A hx hZ hown e1y (y := ⟨cN1, "at", "(Ljava/lang/String;ILjava/lang/String;I)Z"⟩) (hw 198) (hw 199) (hw 200) (hw 201) (by decide) (W := 0) (own_c6 l Z a0 hw [] o1 o5 o0b o0e m1 m6 18 16 [(.int (i6.toInt8.toInt32)), (.int (i8.toInt8.toInt32)), (.int 58), (.int 32), (.int 110), (.int 111), (.int 116), (.int 32), (.int 85), (.int 84), (.int 70), (.int 45), (.int 56), (.int 32), (.int 116), (.int 101), (.int 120), (.int 116)] [(.int 58), (.int 32), (.int 110), (.int 111), (.int 116), (.int 32), (.int 85), (.int 84), (.int 70), (.int 45), (.int 56), (.int 32), (.int 116), (.int 101), (.int 120), (.int 116)] 2 3 111 r0 I3 h3 n0 O2 I2 i00 I1 I0 F0a F0b F0c F0d (by decide) rfl F06 F07 F08 F09 (by decide) rfl) (by decide) (by decide) (by decide) (by decide) (g := (mkF m 270 #[iv i3, iv i0, iv i1, iv i2, iv 2, iv i6, iv i8, iv i01, rv o00, rv o01, rv o07, rv o1, iv 1, rv o5] [(.int 3), (.ref o5), (.int 2), (.ref o1)])) rfl (by rw [hml]; rfl) (argsL := [(.ref o1), (.int 2), (.ref o5), (.int 3)]) (rest := []) rfl (lenOf own_pd18 rfl) rfl (by show 2 * 0 + _ ≤ _; exact Nat.le_of_eq rfl) (hb hby at_270)
  refine oS s0S ?_
  obtain ⟨rfl, rfl, r5511⟩ := q0R
  have e1A := e1z.trans r5511
  have N12 := Fr.app N11 (Fr.nil n0)
  show own_G p e below (T0M.setTop (mkF m 273 #[iv i3, iv i0, iv i1, iv i2, iv 2, iv i6, iv i8, iv i01, rv o00, rv o01, rv o07, rv o1, iv 1, rv o5] [(.int 1)])) _
  refine oS (fun _ => XS.ifNo X0B.here hx rfl (hb hby at_273) rfl (XT.i0_eq_f (by decide))) ?_
  refine oS (fun _ => XS.aload X0B.here hx rfl (hb hby at_276) rfl rfl) ?_
  refine oS (fun _ => XS.iload X0B.here hx rfl (hb hby at_278) rfl) ?_
  refine oS (fun _ => XS.aload X0B.here hx rfl (hb hby at_280) rfl rfl) ?_
  refine oS (fun _ => XS.iconst X0B.here hx rfl (hb hby at_282) ) ?_
  obtain ⟨T0N, h10, v0F, L0I, X0C, e1B, q0S, s0T⟩ := own_callS X0B hx hZ hown e1A (y := ⟨cN1, "at", "(Ljava/lang/String;ILjava/lang/String;I)Z"⟩) (hw 198) (hw 199) (hw 200) (hw 201) (by decide) (W := 0) (own_c6 l Z a0 hw [] o1 o5 o0b o0e m1 m6 18 16 [(.int (i6.toInt8.toInt32)), (.int (i8.toInt8.toInt32)), (.int 58), (.int 32), (.int 110), (.int 111), (.int 116), (.int 32), (.int 85), (.int 84), (.int 70), (.int 45), (.int 56), (.int 32), (.int 116), (.int 101), (.int 120), (.int 116)] [(.int 58), (.int 32), (.int 110), (.int 111), (.int 116), (.int 32), (.int 85), (.int 84), (.int 70), (.int 45), (.int 56), (.int 32), (.int 116), (.int 101), (.int 120), (.int 116)] 2 4 116 r0 I3 h3 n0 O2 I2 i00 I1 I0 F0a F0b F0c F0d (by decide) rfl F06 F07 F08 F09 (by decide) rfl) (by decide) (by decide) (by decide) (by decide) (g := (mkF m 283 #[iv i3, iv i0, iv i1, iv i2, iv 2, iv i6, iv i8, iv i01, rv o00, rv o01, rv o07, rv o1, iv 1, rv o5] [(.int 4), (.ref o5), (.int 2), (.ref o1)])) rfl (by rw [hml]; rfl) (argsL := [(.ref o1), (.int 2), (.ref o5), (.int 4)]) (rest := []) rfl (lenOf own_pd18 rfl) rfl (by show 2 * 0 + _ ≤ _; exact Nat.le_of_eq rfl) (hb hby at_283)
  refine oS s0T ?_
  obtain ⟨rfl, rfl, r5524⟩ := q0S
  have e1C := e1B.trans r5524
  have N13 := Fr.app N12 (Fr.nil n0)
  show own_G p e below (T0N.setTop (mkF m 286 #[iv i3, iv i0, iv i1, iv i2, iv 2, iv i6, iv i8, iv i01, rv o00, rv o01, rv o07, rv o1, iv 1, rv o5] [(.int 1)])) _
  refine oS (fun _ => XS.ifNo X0C.here hx rfl (hb hby at_286) rfl (XT.i0_eq_f (by decide))) ?_
  refine oS (fun _ => XS.aload X0C.here hx rfl (hb hby at_289) rfl rfl) ?_
  refine oS (fun _ => XS.iload X0C.here hx rfl (hb hby at_291) rfl) ?_
  refine oS (fun _ => XS.aload X0C.here hx rfl (hb hby at_293) rfl rfl) ?_
  refine oS (fun _ => XS.iconst X0C.here hx rfl (hb hby at_295) ) ?_
  obtain ⟨T0O, h11, v0G, L0J, X0D, e1D, q0T, s0U⟩ := own_callS X0C hx hZ hown e1C (y := ⟨cN1, "at", "(Ljava/lang/String;ILjava/lang/String;I)Z"⟩) (hw 198) (hw 199) (hw 200) (hw 201) (by decide) (W := 0) (own_c6 l Z a0 hw [] o1 o5 o0b o0e m1 m6 18 16 [(.int (i6.toInt8.toInt32)), (.int (i8.toInt8.toInt32)), (.int 58), (.int 32), (.int 110), (.int 111), (.int 116), (.int 32), (.int 85), (.int 84), (.int 70), (.int 45), (.int 56), (.int 32), (.int 116), (.int 101), (.int 120), (.int 116)] [(.int 58), (.int 32), (.int 110), (.int 111), (.int 116), (.int 32), (.int 85), (.int 84), (.int 70), (.int 45), (.int 56), (.int 32), (.int 116), (.int 101), (.int 120), (.int 116)] 2 5 32 r0 I3 h3 n0 O2 I2 i00 I1 I0 F0a F0b F0c F0d (by decide) rfl F06 F07 F08 F09 (by decide) rfl) (by decide) (by decide) (by decide) (by decide) (g := (mkF m 296 #[iv i3, iv i0, iv i1, iv i2, iv 2, iv i6, iv i8, iv i01, rv o00, rv o01, rv o07, rv o1, iv 1, rv o5] [(.int 5), (.ref o5), (.int 2), (.ref o1)])) rfl (by rw [hml]; rfl) (argsL := [(.ref o1), (.int 2), (.ref o5), (.int 5)]) (rest := []) rfl (lenOf own_pd18 rfl) rfl (by show 2 * 0 + _ ≤ _; exact Nat.le_of_eq rfl) (hb hby at_296)
  refine oS s0U ?_
  obtain ⟨rfl, rfl, r5537⟩ := q0T
  have e1E := e1D.trans r5537
  have N14 := Fr.app N13 (Fr.nil n0)
  show own_G p e below (T0O.setTop (mkF m 299 #[iv i3, iv i0, iv i1, iv i2, iv 2, iv i6, iv i8, iv i01, rv o00, rv o01, rv o07, rv o1, iv 1, rv o5] [(.int 1)])) _
  refine oS (fun _ => XS.ifNo X0D.here hx rfl (hb hby at_299) rfl (XT.i0_eq_f (by decide))) ?_
  refine oS (fun _ => XS.aload X0D.here hx rfl (hb hby at_302) rfl rfl) ?_
  refine oS (fun _ => XS.iload X0D.here hx rfl (hb hby at_304) rfl) ?_
  refine oS (fun _ => XS.aload X0D.here hx rfl (hb hby at_306) rfl rfl) ?_
  refine oS (fun _ => XS.bipush X0D.here hx rfl (hb hby at_308) ) ?_
  obtain ⟨T0P, h12, v0H, L0K, X0E, e1F, q0U, s0V⟩ := own_callS X0D hx hZ hown e1E (y := ⟨cN1, "at", "(Ljava/lang/String;ILjava/lang/String;I)Z"⟩) (hw 198) (hw 199) (hw 200) (hw 201) (by decide) (W := 0) (own_c6 l Z a0 hw [] o1 o5 o0b o0e m1 m6 18 16 [(.int (i6.toInt8.toInt32)), (.int (i8.toInt8.toInt32)), (.int 58), (.int 32), (.int 110), (.int 111), (.int 116), (.int 32), (.int 85), (.int 84), (.int 70), (.int 45), (.int 56), (.int 32), (.int 116), (.int 101), (.int 120), (.int 116)] [(.int 58), (.int 32), (.int 110), (.int 111), (.int 116), (.int 32), (.int 85), (.int 84), (.int 70), (.int 45), (.int 56), (.int 32), (.int 116), (.int 101), (.int 120), (.int 116)] 2 6 85 r0 I3 h3 n0 O2 I2 i00 I1 I0 F0a F0b F0c F0d (by decide) rfl F06 F07 F08 F09 (by decide) rfl) (by decide) (by decide) (by decide) (by decide) (g := (mkF m 310 #[iv i3, iv i0, iv i1, iv i2, iv 2, iv i6, iv i8, iv i01, rv o00, rv o01, rv o07, rv o1, iv 1, rv o5] [(.int 6), (.ref o5), (.int 2), (.ref o1)])) rfl (by rw [hml]; rfl) (argsL := [(.ref o1), (.int 2), (.ref o5), (.int 6)]) (rest := []) rfl (lenOf own_pd18 rfl) rfl (by show 2 * 0 + _ ≤ _; exact Nat.le_of_eq rfl) (hb hby at_310)
  refine oS s0V ?_
  obtain ⟨rfl, rfl, r5550⟩ := q0U
  have e1G := e1F.trans r5550
  have N15 := Fr.app N14 (Fr.nil n0)
  show own_G p e below (T0P.setTop (mkF m 313 #[iv i3, iv i0, iv i1, iv i2, iv 2, iv i6, iv i8, iv i01, rv o00, rv o01, rv o07, rv o1, iv 1, rv o5] [(.int 1)])) _
  refine oS (fun _ => XS.ifNo X0E.here hx rfl (hb hby at_313) rfl (XT.i0_eq_f (by decide))) ?_
  refine oS (fun _ => XS.aload X0E.here hx rfl (hb hby at_316) rfl rfl) ?_
  refine oS (fun _ => XS.iload X0E.here hx rfl (hb hby at_318) rfl) ?_
  refine oS (fun _ => XS.aload X0E.here hx rfl (hb hby at_320) rfl rfl) ?_
  refine oS (fun _ => XS.bipush X0E.here hx rfl (hb hby at_322) ) ?_
  obtain ⟨T0Q, h13, v0I, L0L, X0F, e1H, q0V, s0W⟩ := own_callS X0E hx hZ hown e1G (y := ⟨cN1, "at", "(Ljava/lang/String;ILjava/lang/String;I)Z"⟩) (hw 198) (hw 199) (hw 200) (hw 201) (by decide) (W := 0) (own_c6 l Z a0 hw [] o1 o5 o0b o0e m1 m6 18 16 [(.int (i6.toInt8.toInt32)), (.int (i8.toInt8.toInt32)), (.int 58), (.int 32), (.int 110), (.int 111), (.int 116), (.int 32), (.int 85), (.int 84), (.int 70), (.int 45), (.int 56), (.int 32), (.int 116), (.int 101), (.int 120), (.int 116)] [(.int 58), (.int 32), (.int 110), (.int 111), (.int 116), (.int 32), (.int 85), (.int 84), (.int 70), (.int 45), (.int 56), (.int 32), (.int 116), (.int 101), (.int 120), (.int 116)] 2 7 84 r0 I3 h3 n0 O2 I2 i00 I1 I0 F0a F0b F0c F0d (by decide) rfl F06 F07 F08 F09 (by decide) rfl) (by decide) (by decide) (by decide) (by decide) (g := (mkF m 324 #[iv i3, iv i0, iv i1, iv i2, iv 2, iv i6, iv i8, iv i01, rv o00, rv o01, rv o07, rv o1, iv 1, rv o5] [(.int 7), (.ref o5), (.int 2), (.ref o1)])) rfl (by rw [hml]; rfl) (argsL := [(.ref o1), (.int 2), (.ref o5), (.int 7)]) (rest := []) rfl (lenOf own_pd18 rfl) rfl (by show 2 * 0 + _ ≤ _; exact Nat.le_of_eq rfl) (hb hby at_324)
  refine oS s0W ?_
  obtain ⟨rfl, rfl, r5563⟩ := q0V
  have e1I := e1H.trans r5563
  have N16 := Fr.app N15 (Fr.nil n0)
  show own_G p e below (T0Q.setTop (mkF m 327 #[iv i3, iv i0, iv i1, iv i2, iv 2, iv i6, iv i8, iv i01, rv o00, rv o01, rv o07, rv o1, iv 1, rv o5] [(.int 1)])) _
  refine oS (fun _ => XS.ifNo X0F.here hx rfl (hb hby at_327) rfl (XT.i0_eq_f (by decide))) ?_
  refine oS (fun _ => XS.aload X0F.here hx rfl (hb hby at_330) rfl rfl) ?_
  refine oS (fun _ => XS.iload X0F.here hx rfl (hb hby at_332) rfl) ?_
  refine oS (fun _ => XS.aload X0F.here hx rfl (hb hby at_334) rfl rfl) ?_
  refine oS (fun _ => XS.bipush X0F.here hx rfl (hb hby at_336) ) ?_
  obtain ⟨T0R, h14, v0J, L0M, X0G, e1J, q0W, s0X⟩ := own_callS X0F hx hZ hown e1I (y := ⟨cN1, "at", "(Ljava/lang/String;ILjava/lang/String;I)Z"⟩) (hw 198) (hw 199) (hw 200) (hw 201) (by decide) (W := 0) (own_c6 l Z a0 hw [] o1 o5 o0b o0e m1 m6 18 16 [(.int (i6.toInt8.toInt32)), (.int (i8.toInt8.toInt32)), (.int 58), (.int 32), (.int 110), (.int 111), (.int 116), (.int 32), (.int 85), (.int 84), (.int 70), (.int 45), (.int 56), (.int 32), (.int 116), (.int 101), (.int 120), (.int 116)] [(.int 58), (.int 32), (.int 110), (.int 111), (.int 116), (.int 32), (.int 85), (.int 84), (.int 70), (.int 45), (.int 56), (.int 32), (.int 116), (.int 101), (.int 120), (.int 116)] 2 8 70 r0 I3 h3 n0 O2 I2 i00 I1 I0 F0a F0b F0c F0d (by decide) rfl F06 F07 F08 F09 (by decide) rfl) (by decide) (by decide) (by decide) (by decide) (g := (mkF m 338 #[iv i3, iv i0, iv i1, iv i2, iv 2, iv i6, iv i8, iv i01, rv o00, rv o01, rv o07, rv o1, iv 1, rv o5] [(.int 8), (.ref o5), (.int 2), (.ref o1)])) rfl (by rw [hml]; rfl) (argsL := [(.ref o1), (.int 2), (.ref o5), (.int 8)]) (rest := []) rfl (lenOf own_pd18 rfl) rfl (by show 2 * 0 + _ ≤ _; exact Nat.le_of_eq rfl) (hb hby at_338)
  refine oS s0X ?_
  obtain ⟨rfl, rfl, r5576⟩ := q0W
  have e1K := e1J.trans r5576
  have N17 := Fr.app N16 (Fr.nil n0)
  show own_G p e below (T0R.setTop (mkF m 341 #[iv i3, iv i0, iv i1, iv i2, iv 2, iv i6, iv i8, iv i01, rv o00, rv o01, rv o07, rv o1, iv 1, rv o5] [(.int 1)])) _
  refine oS (fun _ => XS.ifNo X0G.here hx rfl (hb hby at_341) rfl (XT.i0_eq_f (by decide))) ?_
  refine oS (fun _ => XS.aload X0G.here hx rfl (hb hby at_344) rfl rfl) ?_
  refine oS (fun _ => XS.iload X0G.here hx rfl (hb hby at_346) rfl) ?_
  refine oS (fun _ => XS.aload X0G.here hx rfl (hb hby at_348) rfl rfl) ?_
  refine oS (fun _ => XS.bipush X0G.here hx rfl (hb hby at_350) ) ?_
  obtain ⟨T0S, h15, v0K, L0N, X0H, e1L, q0X, s0Y⟩ := own_callS X0G hx hZ hown e1K (y := ⟨cN1, "at", "(Ljava/lang/String;ILjava/lang/String;I)Z"⟩) (hw 198) (hw 199) (hw 200) (hw 201) (by decide) (W := 0) (own_c6 l Z a0 hw [] o1 o5 o0b o0e m1 m6 18 16 [(.int (i6.toInt8.toInt32)), (.int (i8.toInt8.toInt32)), (.int 58), (.int 32), (.int 110), (.int 111), (.int 116), (.int 32), (.int 85), (.int 84), (.int 70), (.int 45), (.int 56), (.int 32), (.int 116), (.int 101), (.int 120), (.int 116)] [(.int 58), (.int 32), (.int 110), (.int 111), (.int 116), (.int 32), (.int 85), (.int 84), (.int 70), (.int 45), (.int 56), (.int 32), (.int 116), (.int 101), (.int 120), (.int 116)] 2 9 45 r0 I3 h3 n0 O2 I2 i00 I1 I0 F0a F0b F0c F0d (by decide) rfl F06 F07 F08 F09 (by decide) rfl) (by decide) (by decide) (by decide) (by decide) (g := (mkF m 352 #[iv i3, iv i0, iv i1, iv i2, iv 2, iv i6, iv i8, iv i01, rv o00, rv o01, rv o07, rv o1, iv 1, rv o5] [(.int 9), (.ref o5), (.int 2), (.ref o1)])) rfl (by rw [hml]; rfl) (argsL := [(.ref o1), (.int 2), (.ref o5), (.int 9)]) (rest := []) rfl (lenOf own_pd18 rfl) rfl (by show 2 * 0 + _ ≤ _; exact Nat.le_of_eq rfl) (hb hby at_352)
  refine oS s0Y ?_
  obtain ⟨rfl, rfl, r5589⟩ := q0X
  have e1M := e1L.trans r5589
  have N18 := Fr.app N17 (Fr.nil n0)
  show own_G p e below (T0S.setTop (mkF m 355 #[iv i3, iv i0, iv i1, iv i2, iv 2, iv i6, iv i8, iv i01, rv o00, rv o01, rv o07, rv o1, iv 1, rv o5] [(.int 1)])) _
  refine oS (fun _ => XS.ifNo X0H.here hx rfl (hb hby at_355) rfl (XT.i0_eq_f (by decide))) ?_
  refine oS (fun _ => XS.aload X0H.here hx rfl (hb hby at_358) rfl rfl) ?_
  refine oS (fun _ => XS.iload X0H.here hx rfl (hb hby at_360) rfl) ?_
  refine oS (fun _ => XS.aload X0H.here hx rfl (hb hby at_362) rfl rfl) ?_
  refine oS (fun _ => XS.bipush X0H.here hx rfl (hb hby at_364) ) ?_
  obtain ⟨T0T, h16, v0L, L0O, X0I, e1N, q0Y, s0Z⟩ := own_callS X0H hx hZ hown e1M (y := ⟨cN1, "at", "(Ljava/lang/String;ILjava/lang/String;I)Z"⟩) (hw 198) (hw 199) (hw 200) (hw 201) (by decide) (W := 0) (own_c6 l Z a0 hw [] o1 o5 o0b o0e m1 m6 18 16 [(.int (i6.toInt8.toInt32)), (.int (i8.toInt8.toInt32)), (.int 58), (.int 32), (.int 110), (.int 111), (.int 116), (.int 32), (.int 85), (.int 84), (.int 70), (.int 45), (.int 56), (.int 32), (.int 116), (.int 101), (.int 120), (.int 116)] [(.int 58), (.int 32), (.int 110), (.int 111), (.int 116), (.int 32), (.int 85), (.int 84), (.int 70), (.int 45), (.int 56), (.int 32), (.int 116), (.int 101), (.int 120), (.int 116)] 2 10 56 r0 I3 h3 n0 O2 I2 i00 I1 I0 F0a F0b F0c F0d (by decide) rfl F06 F07 F08 F09 (by decide) rfl) (by decide) (by decide) (by decide) (by decide) (g := (mkF m 366 #[iv i3, iv i0, iv i1, iv i2, iv 2, iv i6, iv i8, iv i01, rv o00, rv o01, rv o07, rv o1, iv 1, rv o5] [(.int 10), (.ref o5), (.int 2), (.ref o1)])) rfl (by rw [hml]; rfl) (argsL := [(.ref o1), (.int 2), (.ref o5), (.int 10)]) (rest := []) rfl (lenOf own_pd18 rfl) rfl (by show 2 * 0 + _ ≤ _; exact Nat.le_of_eq rfl) (hb hby at_366)
  refine oS s0Z ?_
  obtain ⟨rfl, rfl, r5602⟩ := q0Y
  have e1O := e1N.trans r5602
  have N19 := Fr.app N18 (Fr.nil n0)
  show own_G p e below (T0T.setTop (mkF m 369 #[iv i3, iv i0, iv i1, iv i2, iv 2, iv i6, iv i8, iv i01, rv o00, rv o01, rv o07, rv o1, iv 1, rv o5] [(.int 1)])) _
  refine oS (fun _ => XS.ifNo X0I.here hx rfl (hb hby at_369) rfl (XT.i0_eq_f (by decide))) ?_
  refine oS (fun _ => XS.aload X0I.here hx rfl (hb hby at_372) rfl rfl) ?_
  refine oS (fun _ => XS.iload X0I.here hx rfl (hb hby at_374) rfl) ?_
  refine oS (fun _ => XS.aload X0I.here hx rfl (hb hby at_376) rfl rfl) ?_
  refine oS (fun _ => XS.bipush X0I.here hx rfl (hb hby at_378) ) ?_
  obtain ⟨T0U, h17, v0M, L0P, X0J, e1P, q0Z, s10⟩ := own_callS X0I hx hZ hown e1O (y := ⟨cN1, "at", "(Ljava/lang/String;ILjava/lang/String;I)Z"⟩) (hw 198) (hw 199) (hw 200) (hw 201) (by decide) (W := 0) (own_c6 l Z a0 hw [] o1 o5 o0b o0e m1 m6 18 16 [(.int (i6.toInt8.toInt32)), (.int (i8.toInt8.toInt32)), (.int 58), (.int 32), (.int 110), (.int 111), (.int 116), (.int 32), (.int 85), (.int 84), (.int 70), (.int 45), (.int 56), (.int 32), (.int 116), (.int 101), (.int 120), (.int 116)] [(.int 58), (.int 32), (.int 110), (.int 111), (.int 116), (.int 32), (.int 85), (.int 84), (.int 70), (.int 45), (.int 56), (.int 32), (.int 116), (.int 101), (.int 120), (.int 116)] 2 11 32 r0 I3 h3 n0 O2 I2 i00 I1 I0 F0a F0b F0c F0d (by decide) rfl F06 F07 F08 F09 (by decide) rfl) (by decide) (by decide) (by decide) (by decide) (g := (mkF m 380 #[iv i3, iv i0, iv i1, iv i2, iv 2, iv i6, iv i8, iv i01, rv o00, rv o01, rv o07, rv o1, iv 1, rv o5] [(.int 11), (.ref o5), (.int 2), (.ref o1)])) rfl (by rw [hml]; rfl) (argsL := [(.ref o1), (.int 2), (.ref o5), (.int 11)]) (rest := []) rfl (lenOf own_pd18 rfl) rfl (by show 2 * 0 + _ ≤ _; exact Nat.le_of_eq rfl) (hb hby at_380)
  refine oS s10 ?_
  obtain ⟨rfl, rfl, r5615⟩ := q0Z
  have e1Q := e1P.trans r5615
  have N1a := Fr.app N19 (Fr.nil n0)
  show own_G p e below (T0U.setTop (mkF m 383 #[iv i3, iv i0, iv i1, iv i2, iv 2, iv i6, iv i8, iv i01, rv o00, rv o01, rv o07, rv o1, iv 1, rv o5] [(.int 1)])) _
  refine oS (fun _ => XS.ifNo X0J.here hx rfl (hb hby at_383) rfl (XT.i0_eq_f (by decide))) ?_
  refine oS (fun _ => XS.aload X0J.here hx rfl (hb hby at_386) rfl rfl) ?_
  refine oS (fun _ => XS.iload X0J.here hx rfl (hb hby at_388) rfl) ?_
  refine oS (fun _ => XS.aload X0J.here hx rfl (hb hby at_390) rfl rfl) ?_
  refine oS (fun _ => XS.bipush X0J.here hx rfl (hb hby at_392) ) ?_
  obtain ⟨T0V, h18, v0N, L0Q, X0K, e1R, q10, s11⟩ := own_callS X0J hx hZ hown e1Q (y := ⟨cN1, "at", "(Ljava/lang/String;ILjava/lang/String;I)Z"⟩) (hw 198) (hw 199) (hw 200) (hw 201) (by decide) (W := 0) (own_c6 l Z a0 hw [] o1 o5 o0b o0e m1 m6 18 16 [(.int (i6.toInt8.toInt32)), (.int (i8.toInt8.toInt32)), (.int 58), (.int 32), (.int 110), (.int 111), (.int 116), (.int 32), (.int 85), (.int 84), (.int 70), (.int 45), (.int 56), (.int 32), (.int 116), (.int 101), (.int 120), (.int 116)] [(.int 58), (.int 32), (.int 110), (.int 111), (.int 116), (.int 32), (.int 85), (.int 84), (.int 70), (.int 45), (.int 56), (.int 32), (.int 116), (.int 101), (.int 120), (.int 116)] 2 12 116 r0 I3 h3 n0 O2 I2 i00 I1 I0 F0a F0b F0c F0d (by decide) rfl F06 F07 F08 F09 (by decide) rfl) (by decide) (by decide) (by decide) (by decide) (g := (mkF m 394 #[iv i3, iv i0, iv i1, iv i2, iv 2, iv i6, iv i8, iv i01, rv o00, rv o01, rv o07, rv o1, iv 1, rv o5] [(.int 12), (.ref o5), (.int 2), (.ref o1)])) rfl (by rw [hml]; rfl) (argsL := [(.ref o1), (.int 2), (.ref o5), (.int 12)]) (rest := []) rfl (lenOf own_pd18 rfl) rfl (by show 2 * 0 + _ ≤ _; exact Nat.le_of_eq rfl) (hb hby at_394)
  refine oS s11 ?_
  obtain ⟨rfl, rfl, r5628⟩ := q10
  have e1S := e1R.trans r5628
  have N1b := Fr.app N1a (Fr.nil n0)
  show own_G p e below (T0V.setTop (mkF m 397 #[iv i3, iv i0, iv i1, iv i2, iv 2, iv i6, iv i8, iv i01, rv o00, rv o01, rv o07, rv o1, iv 1, rv o5] [(.int 1)])) _
  refine oS (fun _ => XS.ifNo X0K.here hx rfl (hb hby at_397) rfl (XT.i0_eq_f (by decide))) ?_
  refine oS (fun _ => XS.aload X0K.here hx rfl (hb hby at_400) rfl rfl) ?_
  refine oS (fun _ => XS.iload X0K.here hx rfl (hb hby at_402) rfl) ?_
  refine oS (fun _ => XS.aload X0K.here hx rfl (hb hby at_404) rfl rfl) ?_
  refine oS (fun _ => XS.bipush X0K.here hx rfl (hb hby at_406) ) ?_
  obtain ⟨T0W, h19, v0O, L0R, X0L, e1T, q11, s12⟩ := own_callS X0K hx hZ hown e1S (y := ⟨cN1, "at", "(Ljava/lang/String;ILjava/lang/String;I)Z"⟩) (hw 198) (hw 199) (hw 200) (hw 201) (by decide) (W := 0) (own_c6 l Z a0 hw [] o1 o5 o0b o0e m1 m6 18 16 [(.int (i6.toInt8.toInt32)), (.int (i8.toInt8.toInt32)), (.int 58), (.int 32), (.int 110), (.int 111), (.int 116), (.int 32), (.int 85), (.int 84), (.int 70), (.int 45), (.int 56), (.int 32), (.int 116), (.int 101), (.int 120), (.int 116)] [(.int 58), (.int 32), (.int 110), (.int 111), (.int 116), (.int 32), (.int 85), (.int 84), (.int 70), (.int 45), (.int 56), (.int 32), (.int 116), (.int 101), (.int 120), (.int 116)] 2 13 101 r0 I3 h3 n0 O2 I2 i00 I1 I0 F0a F0b F0c F0d (by decide) rfl F06 F07 F08 F09 (by decide) rfl) (by decide) (by decide) (by decide) (by decide) (g := (mkF m 408 #[iv i3, iv i0, iv i1, iv i2, iv 2, iv i6, iv i8, iv i01, rv o00, rv o01, rv o07, rv o1, iv 1, rv o5] [(.int 13), (.ref o5), (.int 2), (.ref o1)])) rfl (by rw [hml]; rfl) (argsL := [(.ref o1), (.int 2), (.ref o5), (.int 13)]) (rest := []) rfl (lenOf own_pd18 rfl) rfl (by show 2 * 0 + _ ≤ _; exact Nat.le_of_eq rfl) (hb hby at_408)
  refine oS s12 ?_
  obtain ⟨rfl, rfl, r5641⟩ := q11
  have e1U := e1T.trans r5641
  have N1c := Fr.app N1b (Fr.nil n0)
  show own_G p e below (T0W.setTop (mkF m 411 #[iv i3, iv i0, iv i1, iv i2, iv 2, iv i6, iv i8, iv i01, rv o00, rv o01, rv o07, rv o1, iv 1, rv o5] [(.int 1)])) _
  refine oS (fun _ => XS.ifNo X0L.here hx rfl (hb hby at_411) rfl (XT.i0_eq_f (by decide))) ?_
  refine oS (fun _ => XS.aload X0L.here hx rfl (hb hby at_414) rfl rfl) ?_
  refine oS (fun _ => XS.iload X0L.here hx rfl (hb hby at_416) rfl) ?_
  refine oS (fun _ => XS.aload X0L.here hx rfl (hb hby at_418) rfl rfl) ?_
  refine oS (fun _ => XS.bipush X0L.here hx rfl (hb hby at_420) ) ?_
  obtain ⟨T0X, h1a, v0P, L0S, X0M, e1V, q12, s13⟩ := own_callS X0L hx hZ hown e1U (y := ⟨cN1, "at", "(Ljava/lang/String;ILjava/lang/String;I)Z"⟩) (hw 198) (hw 199) (hw 200) (hw 201) (by decide) (W := 0) (own_c6 l Z a0 hw [] o1 o5 o0b o0e m1 m6 18 16 [(.int (i6.toInt8.toInt32)), (.int (i8.toInt8.toInt32)), (.int 58), (.int 32), (.int 110), (.int 111), (.int 116), (.int 32), (.int 85), (.int 84), (.int 70), (.int 45), (.int 56), (.int 32), (.int 116), (.int 101), (.int 120), (.int 116)] [(.int 58), (.int 32), (.int 110), (.int 111), (.int 116), (.int 32), (.int 85), (.int 84), (.int 70), (.int 45), (.int 56), (.int 32), (.int 116), (.int 101), (.int 120), (.int 116)] 2 14 120 r0 I3 h3 n0 O2 I2 i00 I1 I0 F0a F0b F0c F0d (by decide) rfl F06 F07 F08 F09 (by decide) rfl) (by decide) (by decide) (by decide) (by decide) (g := (mkF m 422 #[iv i3, iv i0, iv i1, iv i2, iv 2, iv i6, iv i8, iv i01, rv o00, rv o01, rv o07, rv o1, iv 1, rv o5] [(.int 14), (.ref o5), (.int 2), (.ref o1)])) rfl (by rw [hml]; rfl) (argsL := [(.ref o1), (.int 2), (.ref o5), (.int 14)]) (rest := []) rfl (lenOf own_pd18 rfl) rfl (by show 2 * 0 + _ ≤ _; exact Nat.le_of_eq rfl) (hb hby at_422)
  refine oS s13 ?_
  obtain ⟨rfl, rfl, r5654⟩ := q12
  have e1W := e1V.trans r5654
  have N1d := Fr.app N1c (Fr.nil n0)
  show own_G p e below (T0X.setTop (mkF m 425 #[iv i3, iv i0, iv i1, iv i2, iv 2, iv i6, iv i8, iv i01, rv o00, rv o01, rv o07, rv o1, iv 1, rv o5] [(.int 1)])) _
  refine oS (fun _ => XS.ifNo X0M.here hx rfl (hb hby at_425) rfl (XT.i0_eq_f (by decide))) ?_
  refine oS (fun _ => XS.aload X0M.here hx rfl (hb hby at_428) rfl rfl) ?_
  refine oS (fun _ => XS.iload X0M.here hx rfl (hb hby at_430) rfl) ?_
  refine oS (fun _ => XS.aload X0M.here hx rfl (hb hby at_432) rfl rfl) ?_
  refine oS (fun _ => XS.bipush X0M.here hx rfl (hb hby at_434) ) ?_
  obtain ⟨T0Y, h1b, v0Q, L0T, X1k, e1X, q13, s14⟩ := own_callS X0M hx hZ hown e1W (y := ⟨cN1, "at", "(Ljava/lang/String;ILjava/lang/String;I)Z"⟩) (hw 198) (hw 199) (hw 200) (hw 201) (by decide) (W := 0) (own_c6 l Z a0 hw [] o1 o5 o0b o0e m1 m6 18 16 [(.int (i6.toInt8.toInt32)), (.int (i8.toInt8.toInt32)), (.int 58), (.int 32), (.int 110), (.int 111), (.int 116), (.int 32), (.int 85), (.int 84), (.int 70), (.int 45), (.int 56), (.int 32), (.int 116), (.int 101), (.int 120), (.int 116)] [(.int 58), (.int 32), (.int 110), (.int 111), (.int 116), (.int 32), (.int 85), (.int 84), (.int 70), (.int 45), (.int 56), (.int 32), (.int 116), (.int 101), (.int 120), (.int 116)] 2 15 116 r0 I3 h3 n0 O2 I2 i00 I1 I0 F0a F0b F0c F0d (by decide) rfl F06 F07 F08 F09 (by decide) rfl) (by decide) (by decide) (by decide) (by decide) (g := (mkF m 436 #[iv i3, iv i0, iv i1, iv i2, iv 2, iv i6, iv i8, iv i01, rv o00, rv o01, rv o07, rv o1, iv 1, rv o5] [(.int 15), (.ref o5), (.int 2), (.ref o1)])) rfl (by rw [hml]; rfl) (argsL := [(.ref o1), (.int 2), (.ref o5), (.int 15)]) (rest := []) rfl (lenOf own_pd18 rfl) rfl (by show 2 * 0 + _ ≤ _; exact Nat.le_of_eq rfl) (hb hby at_436)
  refine oS s14 ?_
  obtain ⟨rfl, rfl, r5667⟩ := q13
  have e1Y := e1X.trans r5667
  have N1e := Fr.app N1d (Fr.nil n0)
  show own_G p e below (T0Y.setTop (mkF m 439 #[iv i3, iv i0, iv i1, iv i2, iv 2, iv i6, iv i8, iv i01, rv o00, rv o01, rv o07, rv o1, iv 1, rv o5] [(.int 1)])) _
  refine oS (fun _ => XS.ifNo X1k.here hx rfl (hb hby at_439) rfl (XT.i0_eq_f (by decide))) ?_
  refine oS (fun _ => XS.iconst X1k.here hx rfl (hb hby at_442) ) ?_
  refine oS (fun _ => XS.goto X1k.here hx rfl (pc0 := 443) (pc' := 447) rfl (hb hby at_443) (by decide) (by decide)) ?_
  have K08 : Keep h0 h3 [] := ((((((((Keep.refl h0 []).ext E00).wr W1 (Or.inr (by omega))).wr W2 (Or.inr (by omega))).ext E5).trans K1 (allS (Or.inr (by omega)) all0)).trans K6 all0).ext E2)
  exact own_retNW X1k hx (t := .boolean) Bd.notSynchronized Bd.returns (by simp) (hb hby at_447) (by decide) hS hZ hEL hh R0e e1Y (by omega) (by decide) (by decide) (fun hA => ⟨rfl, N1e⟩)
 ·skip
  refine own_cast (g' := (mkF m 3 #[iv i3, iv i0, iv i1, iv i2, .unset, .unset, .unset, .unset, .unset, .unset, .unset, .unset, .unset, .unset] [(.int 3)])) (by rw [q3]) ?_
  show own_G p e below (s₁.setTop (mkF m 3 #[iv i3, iv i0, iv i1, iv i2, .unset, .unset, .unset, .unset, .unset, .unset, .unset, .unset, .unset, .unset] [(.int 3)])) _
  refine oS (fun _ => XS.istore X0.here hx rfl (hb hby at_3) rfl (l' := #[iv i3, iv i0, iv i1, iv i2, iv 3, .unset, .unset, .unset, .unset, .unset, .unset, .unset, .unset, .unset]) rfl) ?_
  refine oS (fun _ => XS.iloadN X0.here hx rfl (hb hby at_5) rfl) ?_
  refine oS (fun _ => XS.sipush X0.here hx rfl (hb hby at_6) ) ?_
  refine oS (fun _ => XS.iand X0.here hx rfl (hb hby at_9) rfl) ?_
  refine oS (fun _ => XT.i2c X0.here hx rfl (hb hby at_10) rfl) ?_
  show own_G p e below (s₁.setTop (mkF m 11 #[iv i3, iv i0, iv i1, iv i2, iv 3, .unset, .unset, .unset, .unset, .unset, .unset, .unset, .unset, .unset] [(.int ((i0 &&& 255).toUInt32.toUInt16.toUInt32.toInt32))])) _
  obtain ⟨i4, q14, b02, b3, b03⟩ := own_chr i0
  refine own_cast (g' := (mkF m 11 #[iv i3, iv i0, iv i1, iv i2, iv 3, .unset, .unset, .unset, .unset, .unset, .unset, .unset, .unset, .unset] [(.int i4)])) (by rw [q14]) ?_
  refine oS (fun _ => XS.istore X0.here hx rfl (hb hby at_11) rfl (l' := #[iv i3, iv i0, iv i1, iv i2, iv 3, iv i4, .unset, .unset, .unset, .unset, .unset, .unset, .unset, .unset]) rfl) ?_
  refine oS (fun _ => XS.iloadN X0.here hx rfl (hb hby at_13) rfl) ?_
  refine oS (fun _ => XS.sipush X0.here hx rfl (hb hby at_14) ) ?_
  refine oS (fun _ => XS.iand X0.here hx rfl (hb hby at_17) rfl) ?_
  refine oS (fun _ => XT.i2c X0.here hx rfl (hb hby at_18) rfl) ?_
  show own_G p e below (s₁.setTop (mkF m 19 #[iv i3, iv i0, iv i1, iv i2, iv 3, iv i4, .unset, .unset, .unset, .unset, .unset, .unset, .unset, .unset] [(.int ((i1 &&& 255).toUInt32.toUInt16.toUInt32.toInt32))])) _
  obtain ⟨i5, q15, b04, b4, b05⟩ := own_chr i1
  refine own_cast (g' := (mkF m 19 #[iv i3, iv i0, iv i1, iv i2, iv 3, iv i4, .unset, .unset, .unset, .unset, .unset, .unset, .unset, .unset] [(.int i5)])) (by rw [q15]) ?_
  refine oS (fun _ => XS.istore X0.here hx rfl (hb hby at_19) rfl (l' := #[iv i3, iv i0, iv i1, iv i2, iv 3, iv i4, iv i5, .unset, .unset, .unset, .unset, .unset, .unset, .unset]) rfl) ?_
  refine oS (fun _ => XS.iloadN X0.here hx rfl (hb hby at_21) rfl) ?_
  refine oS (fun _ => XS.sipush X0.here hx rfl (hb hby at_22) ) ?_
  refine oS (fun _ => XS.iand X0.here hx rfl (hb hby at_25) rfl) ?_
  refine oS (fun _ => XT.i2c X0.here hx rfl (hb hby at_26) rfl) ?_
  show own_G p e below (s₁.setTop (mkF m 27 #[iv i3, iv i0, iv i1, iv i2, iv 3, iv i4, iv i5, .unset, .unset, .unset, .unset, .unset, .unset, .unset] [(.int ((i2 &&& 255).toUInt32.toUInt16.toUInt32.toInt32))])) _
  obtain ⟨i7, q16, b06, b5, b07⟩ := own_chr i2
  refine own_cast (g' := (mkF m 27 #[iv i3, iv i0, iv i1, iv i2, iv 3, iv i4, iv i5, .unset, .unset, .unset, .unset, .unset, .unset, .unset] [(.int i7)])) (by rw [q16]) ?_
  refine oS (fun _ => XS.istore X0.here hx rfl (hb hby at_27) rfl (l' := #[iv i3, iv i0, iv i1, iv i2, iv 3, iv i4, iv i5, iv i7, .unset, .unset, .unset, .unset, .unset, .unset]) rfl) ?_
  refine oS (fun _ => XS.iload X0.here hx rfl (hb hby at_29) rfl) ?_
  refine oS (fun _ => XS.ifYes X0.here hx rfl (pc0 := 31) (pc' := 42) rfl (hb hby at_31) rfl (XT.i0_ne_t (by decide)) (by decide) (by decide)) ?_
  refine oS (fun _ => XS.iload X0.here hx rfl (hb hby at_42) rfl) ?_
  refine oS (fun _ => XS.iconst X0.here hx rfl (hb hby at_44) ) ?_
  refine oS (fun _ => XS.icmpYes X0.here hx rfl (pc0 := 45) (pc' := 61) rfl (hb hby at_45) rfl (XT.ii_ne_t (by decide)) (by decide) (by decide)) ?_
  refine oS (fun _ => XS.iload X0.here hx rfl (hb hby at_61) rfl) ?_
  refine oS (fun _ => XS.iconst X0.here hx rfl (hb hby at_63) ) ?_
  refine oS (fun _ => XS.icmpYes X0.here hx rfl (pc0 := 64) (pc' := 85) rfl (hb hby at_64) rfl (XT.ii_ne_t (by decide)) (by decide) (by decide)) ?_
  refine oS (fun _ => XS.iconst X0.here hx rfl (hb hby at_85) ) ?_
  show own_G p e below (s₁.setTop (mkF m 86 #[iv i3, iv i0, iv i1, iv i2, iv 3, iv i4, iv i5, iv i7, .unset, .unset, .unset, .unset, .unset, .unset] [(.int 3)])) _
  obtain ⟨T1s, h0c, m8, X1l, e1Z, E01, A06, B3, s6⟩ := own_newP X0 hx hZ (aty := .char) (hw 0) e0 (nm := "[C") rfl (g := (mkF m 86 #[iv i3, iv i0, iv i1, iv i2, iv 3, iv i4, iv i5, iv i7, .unset, .unset, .unset, .unset, .unset, .unset] [(.int 3)])) rfl (hb hby at_86) (n := 3) (rest := []) rfl (by decide) (cap := 3) (by decide) (by decide) (by decide) (by decide)
  obtain ⟨o8, g6⟩ : ∃ z, z = h0.size := ⟨_, rfl⟩
  rw [← g6] at A06 B3 s6
  have F0B : Arv Z h0c o8 m8 .char 3 [(.int 0), (.int 0), (.int 0)] (.int 0) := own_newA A06 (by decide) rfl rfl
  have z08 := E01.1
  have y0Z : @LT.lt Nat instLTNat o8 h0c.size := F0B.lt
  refine oS s6 ?_
  have R00 : CHr Z own_EL s.vm h0 s.vm h0c := hR.trans (CHr.ext E01 hR.1)
  refine oS (fun _ => XS.dup X1l.here hx rfl (hb hby at_88) rfl rfl) ?_
  refine oS (fun _ => XS.iconst X1l.here hx rfl (hb hby at_89) ) ?_
  refine oS (fun _ => XS.iload X1l.here hx rfl (hb hby at_90) rfl) ?_
  obtain ⟨T1t, h0f, X1a, e20, W3, A0a, s15⟩ := own_stC X1l hx hZ e1Z F0B (x' := i4) 0 b03 rfl (by decide) (by simp) (g := (mkF m 92 #[iv i3, iv i0, iv i1, iv i2, iv 3, iv i4, iv i5, iv i7, .unset, .unset, .unset, .unset, .unset, .unset] [(.int i4), (.int 0), (.ref o8), (.ref o8)])) rfl (rest := [(.ref o8)]) rfl (hb hby at_92)
  have S6 : Safe Z own_EL s.vm h0c o8 := Safe.arv hZ.alike F0B (by decide)
  have N0 : n0 ≤ o8 := by omega
  have N1f := Fr.snoc X1a N1 N0
  have z09 := W3.size
  have F1o : Arv Z h0f o8 m8 .char 3 [(.int i4), (.int 0), (.int 0)] (.int 0) := A0a
  refine oS s15 ?_
  have R01 : CHr Z own_EL s.vm h0 s.vm h0f := R00.trans (CHr.wr W3 S6 R00.1)
  refine oS (fun _ => XS.dup X1a.here hx rfl (hb hby at_93) rfl rfl) ?_
  refine oS (fun _ => XS.iconst X1a.here hx rfl (hb hby at_94) ) ?_
  refine oS (fun _ => XS.iload X1a.here hx rfl (hb hby at_95) rfl) ?_
  obtain ⟨T0Z, h0g, X1b, e21, W4, A0b, s16⟩ := own_stC X1a hx hZ e20 F1o (x' := i5) 1 b05 rfl (by decide) (by simp) (g := (mkF m 97 #[iv i3, iv i0, iv i1, iv i2, iv 3, iv i4, iv i5, iv i7, .unset, .unset, .unset, .unset, .unset, .unset] [(.int i5), (.int 1), (.ref o8), (.ref o8)])) rfl (rest := [(.ref o8)]) rfl (hb hby at_97)
  have S7 := Safe.wr W3 S6 R00.1 S6
  have N1g := Fr.snoc X1b N1f N0
  have z0a := W4.size
  have F1p : Arv Z h0g o8 m8 .char 3 [(.int i4), (.int i5), (.int 0)] (.int 0) := A0b
  refine oS s16 ?_
  have R02 : CHr Z own_EL s.vm h0 s.vm h0g := R01.trans (CHr.wr W4 S7 R01.1)
  refine oS (fun _ => XS.dup X1b.here hx rfl (hb hby at_98) rfl rfl) ?_
  show own_G p e below (T0Z.setTop (mkF m 99 #[iv i3, iv i0, iv i1, iv i2, iv 3, iv i4, iv i5, iv i7, .unset, .unset, .unset, .unset, .unset, .unset] [(.ref o8), (.ref o8)])) _
  refine oS (fun _ => XS.iconst X1b.here hx rfl (hb hby at_99) ) ?_
  refine oS (fun _ => XS.iload X1b.here hx rfl (hb hby at_100) rfl) ?_
  obtain ⟨T1u, h0d, X1u, e22, W5, A0c, s17⟩ := own_stC X1b hx hZ e21 F1p (x' := i7) 2 b07 rfl (by decide) (by simp) (g := (mkF m 102 #[iv i3, iv i0, iv i1, iv i2, iv 3, iv i4, iv i5, iv i7, .unset, .unset, .unset, .unset, .unset, .unset] [(.int i7), (.int 2), (.ref o8), (.ref o8)])) rfl (rest := [(.ref o8)]) rfl (hb hby at_102)
  have S8 := Safe.wr W4 S7 R01.1 S7
  have N1h := Fr.snoc X1u N1g N0
  have z0b := W5.size
  have F1q : Arv Z h0d o8 m8 .char 3 [(.int i4), (.int i5), (.int i7)] (.int 0) := A0c
  refine oS s17 ?_
  have R5 : CHr Z own_EL s.vm h0 s.vm h0d := R02.trans (CHr.wr W5 S8 R02.1)
  refine oS (fun _ => XS.astore X1u.here hx rfl (hb hby at_103) rfl rfl (l' := #[iv i3, iv i0, iv i1, iv i2, iv 3, iv i4, iv i5, iv i7, rv o8, .unset, .unset, .unset, .unset, .unset]) rfl) ?_
  obtain ⟨T1v, h03, X1v, e23, E6, A00, D3, U3, s7⟩ := newO X1u hx hZ hown (hw 1) (hw 2) (hw 3) e22 (g := (mkF m 105 #[iv i3, iv i0, iv i1, iv i2, iv 3, iv i4, iv i5, iv i7, rv o8, .unset, .unset, .unset, .unset, .unset] [])) rfl (hb hby at_105) (by decide) (by decide)
  obtain ⟨o9, g7⟩ : ∃ z, z = h0d.size := ⟨_, rfl⟩
  rw [← g7] at A00 D3 U3 s7
  have z0c := E6.1
  have y10 : @LT.lt Nat instLTNat o9 h03.size := A00.lt
  refine oS s7 ?_
  have R2 : CHr Z own_EL s.vm h0 s.vm h03 := R5.trans (CHr.ext E6 R5.1)
  have F1r : Fld Z h03 o9 cN2 "value" "[B" .null := D3 (Or.inr (hw 16)) (ty := (.array .byte)) (by decide)
  have F1s : Fld Z h03 o9 cN2 "coder" "B" (.int 0) := D3 (Or.inr (hw 17)) (ty := .byte) (by decide)
  have S0L : Safe Z own_EL s.vm h0d o9 := Safe.new (by omega)
  refine oS (fun _ => XS.dup X1v.here hx rfl (hb hby at_108) rfl rfl) ?_
  refine oS (fun _ => XS.aload X1v.here hx rfl (hb hby at_109) rfl rfl) ?_
  have F1t := F1q.ext E6
  have y0t : @LT.lt Nat instLTNat o8 h03.size := by omega
  have N7 : n0 ≤ o9 := by omega
  have y0u : @LT.lt Nat instLTNat o9 h03.size := by omega
  have O0d : Old Z n0 h0c := O6.ext E01
  have O0e : Old Z n0 h0f := O0d.wr W3 N0
  have O0f : Old Z n0 h0g := O0e.wr W4 N0
  have O0g : Old Z n0 h0d := O0f.wr W5 N0
  have O05 : Old Z n0 h03 := O0g.ext E6
  have Z02 : n0 ≤ h03.size := by omega
  obtain ⟨T10, h7, v0R, L0U, X1w, e24, q17, s18⟩ := own_callN X1v hx hZ hown e23 (y := mN1) (b := o9) rfl (hw 4) (hw 5) (hw 3) (hw 6) (by decide) (W := 1) (own_rm99 l Z a0 hw [] i4 i5 i7 i00 m8 o9 o8 h03 n0 Z02 O05 F1t I0 I1 b3 y0t b4 b5 F1s A00 N7 F1r y0u) (by decide) (by decide) (by decide) (by decide) (g := (mkF m 111 #[iv i3, iv i0, iv i1, iv i2, iv 3, iv i4, iv i5, iv i7, rv o8, .unset, .unset, .unset, .unset, .unset] [(.ref o8), (.ref o9), (.ref o9)])) rfl (by rw [hml]; rfl) (argsL := [(.ref o8)]) (rest := [(.ref o9)]) rfl (lenOf own_pd1 rfl) rfl (by show 2 * 0 + _ ≤ _; exact Nat.le_of_eq rfl) (hb hby at_111)
  refine oS s18 ?_
  obtain ⟨o0k, m05, rfl, N1i, K2, F22, F1u, F1v, F1w, F1x, F23, F1y⟩ := q17
  have N1j := Fr.app N1h N1i
  have S2 := Safe.ext E6 R5.1 S0L
  have R0a : CHr Z own_EL s.vm h0 s.vm h7 := R2.trans (CHr.keep K2 (sfS S2 sf0) R2.1)
  have z0d := K2.1
  have S0M : Safe Z own_EL s.vm h03 o0k := Safe.new (by omega)
  refine oS (fun _ => XS.astore X1w.here hx rfl (hb hby at_114) rfl rfl (l' := #[iv i3, iv i0, iv i1, iv i2, iv 3, iv i4, iv i5, iv i7, rv o8, rv o9, .unset, .unset, .unset, .unset]) rfl) ?_
  refine oS (fun _ => XS.aload X1w.here hx rfl (hb hby at_116) rfl rfl) ?_
  show own_G p e below (T10.setTop (mkF m 118 #[iv i3, iv i0, iv i1, iv i2, iv 3, iv i4, iv i5, iv i7, rv o8, rv o9, .unset, .unset, .unset, .unset] [(.ref o9)])) _
  have y11 : @LT.lt Nat instLTNat o9 h7.size := by omega
  have y12 : @LT.lt Nat instLTNat o9 h7.size := by omega
  have y13 : @LT.lt Nat instLTNat o9 h7.size := by omega
  have y14 : @LT.lt Nat instLTNat o9 h7.size := by omega
  have y0v : @LT.lt Nat instLTNat o9 h7.size := by omega
  have O06 : Old Z n0 h7 := O05.keep K2 (allS N7 all0)
  have Z03 : n0 ≤ h7.size := by omega
  have S0k := Safe.keep K2 (sfS S2 sf0) R2.1 S2
  have y0w : @LT.lt Nat instLTNat o9 h7.size := by omega
  obtain ⟨T11, h5, v0S, L0V, X1c, e25, q18, hS, hZ, hown, A6, s19⟩ := own_callSWK X1w hx hZ hown e24 (y := mN20) (sf := [o9]) (hw 22) (hw 23) (hw 24) (hw 25) (by decide) hS (by omega) hEL R0a.1 (sfS S0k sf0) (allS y0w all0) (Vm.MethodsKnown.alikeC (hZ0.alike.symm.trans hZ.alike) hTK) (Vm.FramesKnown.alikeC (hZ0.alike.symm.trans hZ.alike) hBel) (W := 0) (own_rm111 l hl Z a0 hw hEL [] o9 i00 o0k m05 i4 i5 i7 o0l o0m h7 n0 Z03 O06 I0 I1 F1w y0v F1x F1y F1u F1v I4 I5) (by decide) (by decide) (by decide) (by decide) (g := (mkF m 118 #[iv i3, iv i0, iv i1, iv i2, iv 3, iv i4, iv i5, iv i7, rv o8, rv o9, .unset, .unset, .unset, .unset] [(.ref o9)])) rfl (by rw [hml]; rfl) (argsL := [(.ref o9)]) (rest := []) rfl (lenOf own_pd17 rfl) rfl (by show 2 * 0 + _ ≤ _; exact Nat.le_of_eq rfl) (hb hby at_118)
  refine oS s19 ?_
  obtain ⟨o06, o0, o0a, m0, rfl, N1k, K7, F24, F25, F26, F0K, F1z, F0m, F0p, F0q, F0r, F27, F28, F29, F1A, F2a, F1B⟩ := q18
  have N1l := Fr.app N1j N1k
  have R0b : CHr Z own_EL s.vm h0 T11.vm h5 := R0a.trans A6
  have z0e := K7.1
  refine oS (fun _ => XS.astore X1c.here hx rfl (hb hby at_121) rfl rfl (l' := #[iv i3, iv i0, iv i1, iv i2, iv 3, iv i4, iv i5, iv i7, rv o8, rv o9, rv o06, .unset, .unset, .unset]) rfl) ?_
  refine oS (fun _ => XS.aload X1c.here hx rfl (hb hby at_123) rfl rfl) ?_
  refine oS (fun _ => XT.ifnonnullYes X1c.here hx rfl (pc0 := 125) (pc' := 130) rfl (hb hby at_125) rfl (by decide) (by decide)) ?_
  refine oS (fun _ => XS.aload X1c.here hx rfl (hb hby at_130) rfl rfl) ?_
  have O4 : Old Z n0 h5 := O06.keep K7 all0
  have Z04 : n0 ≤ h5.size := by omega
  obtain ⟨T12, h1c, v0T, L0W, X1d, e26, q19, s1a⟩ := own_callU X1c hx hZ hown e25 (y := mN32) (z := mN21) (C := cN5) (owner := cN6) (b := o06) (hw 190) (hw 191) (hw 192) (hw 194) (hw 193) (hw 151) (hw 195) (by decide) F0K (W := 0) (own_rm33 l Z a0 hw [] o06 o0 h5 n0 Z04 O4 F1z) (by decide) (by decide) (by decide) (by decide) (g := (mkF m 132 #[iv i3, iv i0, iv i1, iv i2, iv 3, iv i4, iv i5, iv i7, rv o8, rv o9, rv o06, .unset, .unset, .unset] [(.ref o06)])) rfl (by rw [hml]; rfl) (argsL := []) (rest := []) rfl (lenOf own_pd16 rfl) rfl (by show 2 * 0 + _ ≤ _; exact Nat.le_of_eq rfl) (hb hby at_132)
  refine oS s1a ?_
  obtain ⟨rfl, N1m, K04⟩ := q19
  have N1n := Fr.app N1l N1m
  have e27 := e26.trans K04
  refine oS (fun _ => XS.astore X1d.here hx rfl (hb hby at_135) rfl rfl (l' := #[iv i3, iv i0, iv i1, iv i2, iv 3, iv i4, iv i5, iv i7, rv o8, rv o9, rv o06, rv o0, .unset, .unset]) rfl) ?_
  refine oS (fun _ => XS.aload X1d.here hx rfl (hb hby at_137) rfl rfl) ?_
  refine oS (fun _ => XS.ifnullNo X1d.here hx rfl (hb hby at_139) rfl) ?_
  refine oS (fun _ => XS.aload X1d.here hx rfl (hb hby at_142) rfl rfl) ?_
  show own_G p e below (T12.setTop (mkF m 144 #[iv i3, iv i0, iv i1, iv i2, iv 3, iv i4, iv i5, iv i7, rv o8, rv o9, rv o06, rv o0, .unset, .unset] [(.ref o0)])) _
  have Z05 : n0 ≤ h5.size := by omega
  obtain ⟨T13, h1d, v0U, L0X, X5, e28, q1a, s1b⟩ := own_callV X1d hx hZ hown e27 (y := mN5) (z := mN5) (C := cN2) (b := o0) (hw 196) (hw 58) (notFace_of_selects (args := #[]) (mvT hZ (hw 60))) (hw 60) (hw 59) (hw 3) (hw 61) (by decide) F0m (W := 0) (own_rm130 l Z a0 hw [] i4 i5 i7 i00 m0 o0 o0a h5 n0 Z05 O4 F0p F0r I0 I1 F0q F0m) (by decide) (by decide) (by decide) (by decide) (g := (mkF m 144 #[iv i3, iv i0, iv i1, iv i2, iv 3, iv i4, iv i5, iv i7, rv o8, rv o9, rv o06, rv o0, .unset, .unset] [(.ref o0)])) rfl (by rw [hml]; rfl) (argsL := []) (rest := []) rfl (lenOf own_pd5 rfl) rfl (by show 2 * 0 + _ ≤ _; exact Nat.le_of_eq rfl) (hb hby at_144)
  refine oS s1b ?_
  obtain ⟨rfl, N1o, K05⟩ := q1a
  have N1p := Fr.app N1n N1o
  have e29 := e28.trans K05
  refine oS (fun _ => XS.iload X5.here hx rfl (hb hby at_147) rfl) ?_
  refine oS (fun _ => XS.bipush X5.here hx rfl (hb hby at_149) ) ?_
  refine oS (fun _ => XS.iadd X5.here hx rfl (hb hby at_151) rfl) ?_
  refine oS (fun _ => XS.icmpYes X5.here hx rfl (pc0 := 152) (pc' := 157) rfl (hb hby at_152) rfl (XT.ii_eq_t (by decide)) (by decide) (by decide)) ?_
  refine oS (fun _ => XS.iload X5.here hx rfl (hb hby at_157) rfl) ?_
  refine oS (fun _ => XS.iconst X5.here hx rfl (hb hby at_159) ) ?_
  refine oS (fun _ => XS.icmpNo X5.here hx rfl (hb hby at_160) rfl (XT.ii_lt_f (by decide))) ?_
  refine oS (fun _ => XS.aload X5.here hx rfl (hb hby at_163) rfl rfl) ?_
  refine oS (fun _ => XS.iconst X5.here hx rfl (hb hby at_165) ) ?_
  show own_G p e below (T13.setTop (mkF m 166 #[iv i3, iv i0, iv i1, iv i2, iv 3, iv i4, iv i5, iv i7, rv o8, rv o9, rv o06, rv o0, .unset, .unset] [(.int 0), (.ref o0)])) _
  obtain ⟨T9, h1e, v0V, L0Y, X01, e2a, q1b, s1c⟩ := own_callV X5 hx hZ hown e29 (y := ⟨cN2, "charAt", "(I)C"⟩) (z := ⟨cN2, "charAt", "(I)C"⟩) (C := cN2) (b := o0) (hw 202) (hw 203) (notFace_of_selects (args := #[]) (mvT hZ (hw 205))) (hw 205) (hw 204) (hw 3) (hw 206) (by decide) F0m (W := 0) (own_c5 l Z a0 hw [] o0 o0a m0 19 [(.int (i4.toInt8.toInt32)), (.int (i5.toInt8.toInt32)), (.int (i7.toInt8.toInt32)), (.int 58), (.int 32), (.int 110), (.int 111), (.int 116), (.int 32), (.int 85), (.int 84), (.int 70), (.int 45), (.int 56), (.int 32), (.int 116), (.int 101), (.int 120), (.int 116)] 0 (i4.toInt8.toInt32) r0 I3 h5 n0 O4 I2 i00 I1 I0 F0m F0q F0p F0r (by decide) rfl) (by decide) (by decide) (by decide) (by decide) (g := (mkF m 166 #[iv i3, iv i0, iv i1, iv i2, iv 3, iv i4, iv i5, iv i7, rv o8, rv o9, rv o06, rv o0, .unset, .unset] [(.int 0), (.ref o0)])) rfl (by rw [hml]; rfl) (argsL := [(.int 0)]) (rest := []) rfl (lenOf own_pc5 rfl) rfl (by show 2 * 0 + _ ≤ _; exact Nat.le_of_eq rfl) (hb hby at_166)
  refine oS s1c ?_
  obtain ⟨rfl, rfl, r7374⟩ := q1b
  have e2b := e2a.trans r7374
  have N1q := Fr.app N1p (Fr.nil n0)
  show own_G p e below (T9.setTop (mkF m 169 #[iv i3, iv i0, iv i1, iv i2, iv 3, iv i4, iv i5, iv i7, rv o8, rv o9, rv o06, rv o0, .unset, .unset] [(.int (own_ch (i4.toInt8.toInt32)))])) _
  refine own_cast (g' := (mkF m 169 #[iv i3, iv i0, iv i1, iv i2, iv 3, iv i4, iv i5, iv i7, rv o8, rv o9, rv o06, rv o0, .unset, .unset] [(.int i4)])) (by rw [own_chb b02 b3]) ?_
  show own_G p e below (T9.setTop (mkF m 169 #[iv i3, iv i0, iv i1, iv i2, iv 3, iv i4, iv i5, iv i7, rv o8, rv o9, rv o06, rv o0, .unset, .unset] [(.int i4)])) _
  refine oS (fun _ => XS.iload X01.here hx rfl (hb hby at_169) rfl) ?_
  refine oS (fun _ => XS.icmpNo X01.here hx rfl (hb hby at_171) rfl (XT.ii_ne_f rfl)) ?_
  refine oS (fun _ => XS.iload X01.here hx rfl (hb hby at_174) rfl) ?_
  refine oS (fun _ => XS.iconst X01.here hx rfl (hb hby at_176) ) ?_
  refine oS (fun _ => XS.icmpNo X01.here hx rfl (hb hby at_177) rfl (XT.ii_lt_f (by decide))) ?_
  refine oS (fun _ => XS.aload X01.here hx rfl (hb hby at_180) rfl rfl) ?_
  refine oS (fun _ => XS.iconst X01.here hx rfl (hb hby at_182) ) ?_
  obtain ⟨T00, h1f, v0W, L0Z, X02, e2c, q1c, s1d⟩ := own_callV X01 hx hZ hown e2b (y := ⟨cN2, "charAt", "(I)C"⟩) (z := ⟨cN2, "charAt", "(I)C"⟩) (C := cN2) (b := o0) (hw 202) (hw 203) (notFace_of_selects (args := #[]) (mvT hZ (hw 205))) (hw 205) (hw 204) (hw 3) (hw 206) (by decide) F0m (W := 0) (own_c5 l Z a0 hw [] o0 o0a m0 19 [(.int (i4.toInt8.toInt32)), (.int (i5.toInt8.toInt32)), (.int (i7.toInt8.toInt32)), (.int 58), (.int 32), (.int 110), (.int 111), (.int 116), (.int 32), (.int 85), (.int 84), (.int 70), (.int 45), (.int 56), (.int 32), (.int 116), (.int 101), (.int 120), (.int 116)] 1 (i5.toInt8.toInt32) r0 I3 h5 n0 O4 I2 i00 I1 I0 F0m F0q F0p F0r (by decide) rfl) (by decide) (by decide) (by decide) (by decide) (g := (mkF m 183 #[iv i3, iv i0, iv i1, iv i2, iv 3, iv i4, iv i5, iv i7, rv o8, rv o9, rv o06, rv o0, .unset, .unset] [(.int 1), (.ref o0)])) rfl (by rw [hml]; rfl) (argsL := [(.int 1)]) (rest := []) rfl (lenOf own_pc5 rfl) rfl (by show 2 * 0 + _ ≤ _; exact Nat.le_of_eq rfl) (hb hby at_183)
  refine oS s1d ?_
  obtain ⟨rfl, rfl, r7387⟩ := q1c
  have e2d := e2c.trans r7387
  have N1r := Fr.app N1q (Fr.nil n0)
  show own_G p e below (T00.setTop (mkF m 186 #[iv i3, iv i0, iv i1, iv i2, iv 3, iv i4, iv i5, iv i7, rv o8, rv o9, rv o06, rv o0, .unset, .unset] [(.int (own_ch (i5.toInt8.toInt32)))])) _
  refine own_cast (g' := (mkF m 186 #[iv i3, iv i0, iv i1, iv i2, iv 3, iv i4, iv i5, iv i7, rv o8, rv o9, rv o06, rv o0, .unset, .unset] [(.int i5)])) (by rw [own_chb b04 b4]) ?_
  show own_G p e below (T00.setTop (mkF m 186 #[iv i3, iv i0, iv i1, iv i2, iv 3, iv i4, iv i5, iv i7, rv o8, rv o9, rv o06, rv o0, .unset, .unset] [(.int i5)])) _
  refine oS (fun _ => XS.iload X02.here hx rfl (hb hby at_186) rfl) ?_
  refine oS (fun _ => XS.icmpNo X02.here hx rfl (hb hby at_188) rfl (XT.ii_ne_f rfl)) ?_
  refine oS (fun _ => XS.iload X02.here hx rfl (hb hby at_191) rfl) ?_
  refine oS (fun _ => XS.iconst X02.here hx rfl (hb hby at_193) ) ?_
  refine oS (fun _ => XS.icmpNo X02.here hx rfl (hb hby at_194) rfl (XT.ii_lt_f (by decide))) ?_
  refine oS (fun _ => XS.aload X02.here hx rfl (hb hby at_197) rfl rfl) ?_
  refine oS (fun _ => XS.iconst X02.here hx rfl (hb hby at_199) ) ?_
  obtain ⟨T01, h1g, v0X, L10, X0N, e2e, q1d, s1e⟩ := own_callV X02 hx hZ hown e2d (y := ⟨cN2, "charAt", "(I)C"⟩) (z := ⟨cN2, "charAt", "(I)C"⟩) (C := cN2) (b := o0) (hw 202) (hw 203) (notFace_of_selects (args := #[]) (mvT hZ (hw 205))) (hw 205) (hw 204) (hw 3) (hw 206) (by decide) F0m (W := 0) (own_c5 l Z a0 hw [] o0 o0a m0 19 [(.int (i4.toInt8.toInt32)), (.int (i5.toInt8.toInt32)), (.int (i7.toInt8.toInt32)), (.int 58), (.int 32), (.int 110), (.int 111), (.int 116), (.int 32), (.int 85), (.int 84), (.int 70), (.int 45), (.int 56), (.int 32), (.int 116), (.int 101), (.int 120), (.int 116)] 2 (i7.toInt8.toInt32) r0 I3 h5 n0 O4 I2 i00 I1 I0 F0m F0q F0p F0r (by decide) rfl) (by decide) (by decide) (by decide) (by decide) (g := (mkF m 200 #[iv i3, iv i0, iv i1, iv i2, iv 3, iv i4, iv i5, iv i7, rv o8, rv o9, rv o06, rv o0, .unset, .unset] [(.int 2), (.ref o0)])) rfl (by rw [hml]; rfl) (argsL := [(.int 2)]) (rest := []) rfl (lenOf own_pc5 rfl) rfl (by show 2 * 0 + _ ≤ _; exact Nat.le_of_eq rfl) (hb hby at_200)
  refine oS s1e ?_
  obtain ⟨rfl, rfl, r7400⟩ := q1d
  have e2f := e2e.trans r7400
  have N1s := Fr.app N1r (Fr.nil n0)
  show own_G p e below (T01.setTop (mkF m 203 #[iv i3, iv i0, iv i1, iv i2, iv 3, iv i4, iv i5, iv i7, rv o8, rv o9, rv o06, rv o0, .unset, .unset] [(.int (own_ch (i7.toInt8.toInt32)))])) _
  refine own_cast (g' := (mkF m 203 #[iv i3, iv i0, iv i1, iv i2, iv 3, iv i4, iv i5, iv i7, rv o8, rv o9, rv o06, rv o0, .unset, .unset] [(.int i7)])) (by rw [own_chb b06 b5]) ?_
  show own_G p e below (T01.setTop (mkF m 203 #[iv i3, iv i0, iv i1, iv i2, iv 3, iv i4, iv i5, iv i7, rv o8, rv o9, rv o06, rv o0, .unset, .unset] [(.int i7)])) _
  refine oS (fun _ => XS.iload X0N.here hx rfl (hb hby at_203) rfl) ?_
  refine oS (fun _ => XS.icmpNo X0N.here hx rfl (hb hby at_205) rfl (XT.ii_ne_f rfl)) ?_
  refine oS (fun _ => XS.iconst X0N.here hx rfl (hb hby at_208) ) ?_
  refine oS (fun _ => XS.goto X0N.here hx rfl (pc0 := 209) (pc' := 213) rfl (hb hby at_209) (by decide) (by decide)) ?_
  refine oS (fun _ => XS.istore X0N.here hx rfl (hb hby at_213) rfl (l' := #[iv i3, iv i0, iv i1, iv i2, iv 3, iv i4, iv i5, iv i7, rv o8, rv o9, rv o06, rv o0, iv 1, .unset]) rfl) ?_
  obtain ⟨o6, T4, h4, k3, o0f, m7, X03, e2g, E3, hS, hk, hZ, hown, F0e, F0f, F0g, F0h, y0x, y0y, A2, L11, M2, s1f⟩ := ldcCH X0N hx hZ hown (hw 197) (own_sk (own_Wall hw)) e2f hS (by omega) hEL (by decide) R0b.1 (vs := [(.int 58), (.int 32), (.int 110), (.int 111), (.int 116), (.int 32), (.int 85), (.int 84), (.int 70), (.int 45), (.int 56), (.int 32), (.int 116), (.int 101), (.int 120), (.int 116)]) (z := 16) ⟨by decide, by decide +kernel⟩ (by decide) rfl (g := (mkF m 215 #[iv i3, iv i0, iv i1, iv i2, iv 3, iv i4, iv i5, iv i7, rv o8, rv o9, rv o06, rv o0, iv 1, .unset] [])) rfl (hb hby at_215) (n := 64) (by decide) (by decide) (by decide) (by decide)
  have z0f := E3.1
  refine oS s1f ?_
  have R0f : CHr Z own_EL s.vm h0 T4.vm h4 := R0b.trans A2
  have y15 : @LT.lt Nat instLTNat o6 h4.size := y0x
  have y16 : @LT.lt Nat instLTNat o0f h4.size := y0y
  have S0N := Safe.keep K2 (sfS S2 sf0) R2.1 S0M
  have y0z : @LT.lt Nat instLTNat o0k h7.size := by omega
  have S0O := A6.safe y0z S0N
  have y0A : @LT.lt Nat instLTNat o0k h5.size := by omega
  have S0l := A2.safe y0A S0O
  have N2h : @Ne Nat o0k o6 := (M2 o0k S0l).1
  have N2i : @Ne Nat o0k o0f := (M2 o0k S0l).2
  have y0B : @LT.lt Nat instLTNat o9 h7.size := by omega
  have S0P := A6.safe y0B S0k
  have y0C : @LT.lt Nat instLTNat o9 h5.size := by omega
  have S0m := A2.safe y0C S0P
  have N2j : @Ne Nat o9 o6 := (M2 o9 S0m).1
  have N2k : @Ne Nat o9 o0f := (M2 o9 S0m).2
  have y0D : @LT.lt Nat instLTNat o0a h5.size := by omega
  have S0n := A2.safe y0D F1B
  have N2l : @Ne Nat o0a o6 := (M2 o0a S0n).1
  have N2m : @Ne Nat o0a o0f := (M2 o0a S0n).2
  have S0Q := Safe.wr W5 S8 R02.1 S8
  have S0R := Safe.ext E6 R5.1 S0Q
  have S0S := Safe.keep K2 (sfS S2 sf0) R2.1 S0R
  have y0E : @LT.lt Nat instLTNat o8 h7.size := by omega
  have S0T := A6.safe y0E S0S
  have y0F : @LT.lt Nat instLTNat o8 h5.size := by omega
  have S0o := A2.safe y0F S0T
  have N2n : @Ne Nat o8 o6 := (M2 o8 S0o).1
  have N2o : @Ne Nat o8 o0f := (M2 o8 S0o).2
  have y0G : @LT.lt Nat instLTNat o0 h5.size := by omega
  have S0p := A2.safe y0G F1A
  have N2p : @Ne Nat o0 o6 := (M2 o0 S0p).1
  have N2q : @Ne Nat o0 o0f := (M2 o0 S0p).2
  have F1C := Exa.ext E3 F0K
  have S0q : Safe Z own_EL T4.vm h4 o06 := Safe.exa hZ.alike F1C (by decide) (by decide)
  have N2r : @Ne Nat o06 o6 := (M2 o06 S0q).1
  have N2s : @Ne Nat o06 o0f := (M2 o06 S0q).2
  show own_G p e below (T4.setTop (mkF m 217 #[iv i3, iv i0, iv i1, iv i2, iv 3, iv i4, iv i5, iv i7, rv o8, rv o9, rv o06, rv o0, iv 1, .unset] [(.ref o6)])) _
  refine oS (fun _ => XS.astore X03.here hx rfl (hb hby at_217) rfl rfl (l' := #[iv i3, iv i0, iv i1, iv i2, iv 3, iv i4, iv i5, iv i7, rv o8, rv o9, rv o06, rv o0, iv 1, rv o6]) rfl) ?_
  refine oS (fun _ => XS.iload X03.here hx rfl (hb hby at_219) rfl) ?_
  refine oS (fun _ => XS.ifNo X03.here hx rfl (hb hby at_221) rfl (XT.i0_eq_f (by decide))) ?_
  refine oS (fun _ => XS.aload X03.here hx rfl (hb hby at_224) rfl rfl) ?_
  refine oS (fun _ => XS.iload X03.here hx rfl (hb hby at_226) rfl) ?_
  refine oS (fun _ => XS.aload X03.here hx rfl (hb hby at_228) rfl rfl) ?_
  refine oS (fun _ => XS.iconst X03.here hx rfl (hb hby at_230) ) ?_
  have F0i := Exa.ext E3 F0m
  have F0j := Fld.ext E3 F0q
  have F0k := Fld.ext E3 F0p
  have F0l := F0r.ext E3
  have O3 : Old Z n0 h4 := O4.ext E3
  obtain ⟨T14, h1h, v0Y, L12, X0O, e2h, q1e, s1g⟩ := own_callS X03 hx hZ hown e2g (y := ⟨cN1, "at", "(Ljava/lang/String;ILjava/lang/String;I)Z"⟩) (hw 198) (hw 199) (hw 200) (hw 201) (by decide) (W := 0) (own_c6 l Z a0 hw [] o0 o6 o0a o0f m0 m7 19 16 [(.int (i4.toInt8.toInt32)), (.int (i5.toInt8.toInt32)), (.int (i7.toInt8.toInt32)), (.int 58), (.int 32), (.int 110), (.int 111), (.int 116), (.int 32), (.int 85), (.int 84), (.int 70), (.int 45), (.int 56), (.int 32), (.int 116), (.int 101), (.int 120), (.int 116)] [(.int 58), (.int 32), (.int 110), (.int 111), (.int 116), (.int 32), (.int 85), (.int 84), (.int 70), (.int 45), (.int 56), (.int 32), (.int 116), (.int 101), (.int 120), (.int 116)] 3 0 58 r0 I3 h4 n0 O3 I2 i00 I1 I0 F0i F0j F0k F0l (by decide) rfl F0e F0f F0g F0h (by decide) rfl) (by decide) (by decide) (by decide) (by decide) (g := (mkF m 231 #[iv i3, iv i0, iv i1, iv i2, iv 3, iv i4, iv i5, iv i7, rv o8, rv o9, rv o06, rv o0, iv 1, rv o6] [(.int 0), (.ref o6), (.int 3), (.ref o0)])) rfl (by rw [hml]; rfl) (argsL := [(.ref o0), (.int 3), (.ref o6), (.int 0)]) (rest := []) rfl (lenOf own_pd18 rfl) rfl (by show 2 * 0 + _ ≤ _; exact Nat.le_of_eq rfl) (hb hby at_231)
  refine oS s1g ?_
  obtain ⟨rfl, rfl, r7475⟩ := q1e
  have e2i := e2h.trans r7475
  have N1t := Fr.app N1s (Fr.nil n0)
  show own_G p e below (T14.setTop (mkF m 234 #[iv i3, iv i0, iv i1, iv i2, iv 3, iv i4, iv i5, iv i7, rv o8, rv o9, rv o06, rv o0, iv 1, rv o6] [(.int 1)])) _
  refine oS (fun _ => XS.ifNo X0O.here hx rfl (hb hby at_234) rfl (XT.i0_eq_f (by decide))) ?_
  refine oS (fun _ => XS.aload X0O.here hx rfl (hb hby at_237) rfl rfl) ?_
  refine oS (fun _ => XS.iload X0O.here hx rfl (hb hby at_239) rfl) ?_
  refine oS (fun _ => XS.aload X0O.here hx rfl (hb hby at_241) rfl rfl) ?_
  refine oS (fun _ => XS.iconst X0O.here hx rfl (hb hby at_243) ) ?_
  obtain ⟨T15, h1i, v0Z, L13, X0P, e2j, q1f, s1h⟩ := own_callS X0O hx hZ hown e2i (y := ⟨cN1, "at", "(Ljava/lang/String;ILjava/lang/String;I)Z"⟩) (hw 198) (hw 199) (hw 200) (hw 201) (by decide) (W := 0) (own_c6 l Z a0 hw [] o0 o6 o0a o0f m0 m7 19 16 [(.int (i4.toInt8.toInt32)), (.int (i5.toInt8.toInt32)), (.int (i7.toInt8.toInt32)), (.int 58), (.int 32), (.int 110), (.int 111), (.int 116), (.int 32), (.int 85), (.int 84), (.int 70), (.int 45), (.int 56), (.int 32), (.int 116), (.int 101), (.int 120), (.int 116)] [(.int 58), (.int 32), (.int 110), (.int 111), (.int 116), (.int 32), (.int 85), (.int 84), (.int 70), (.int 45), (.int 56), (.int 32), (.int 116), (.int 101), (.int 120), (.int 116)] 3 1 32 r0 I3 h4 n0 O3 I2 i00 I1 I0 F0i F0j F0k F0l (by decide) rfl F0e F0f F0g F0h (by decide) rfl) (by decide) (by decide) (by decide) (by decide) (g := (mkF m 244 #[iv i3, iv i0, iv i1, iv i2, iv 3, iv i4, iv i5, iv i7, rv o8, rv o9, rv o06, rv o0, iv 1, rv o6] [(.int 1), (.ref o6), (.int 3), (.ref o0)])) rfl (by rw [hml]; rfl) (argsL := [(.ref o0), (.int 3), (.ref o6), (.int 1)]) (rest := []) rfl (lenOf own_pd18 rfl) rfl (by show 2 * 0 + _ ≤ _; exact Nat.le_of_eq rfl) (hb hby at_244)
  refine oS s1h ?_
  obtain ⟨rfl, rfl, r7488⟩ := q1f
  have e2k := e2j.trans r7488
  have N1u := Fr.app N1t (Fr.nil n0)
  show own_G p e below (T15.setTop (mkF m 247 #[iv i3, iv i0, iv i1, iv i2, iv 3, iv i4, iv i5, iv i7, rv o8, rv o9, rv o06, rv o0, iv 1, rv o6] [(.int 1)])) _
  refine oS (fun _ => XS.ifNo X0P.here hx rfl (hb hby at_247) rfl (XT.i0_eq_f (by decide))) ?_
  refine oS (fun _ => XS.aload X0P.here hx rfl (hb hby at_250) rfl rfl) ?_
  refine oS (fun _ => XS.iload X0P.here hx rfl (hb hby at_252) rfl) ?_
  refine oS (fun _ => XS.aload X0P.here hx rfl (hb hby at_254) rfl rfl) ?_
  refine oS (fun _ => XS.iconst X0P.here hx rfl (hb hby at_256) ) ?_
  obtain ⟨T16, h1j, v10, L14, X0Q, e2l, q1g, s1i⟩ := own_callS X0P hx hZ hown e2k (y := ⟨cN1, "at", "(Ljava/lang/String;ILjava/lang/String;I)Z"⟩) (hw 198) (hw 199) (hw 200) (hw 201) (by decide) (W := 0) (own_c6 l Z a0 hw [] o0 o6 o0a o0f m0 m7 19 16 [(.int (i4.toInt8.toInt32)), (.int (i5.toInt8.toInt32)), (.int (i7.toInt8.toInt32)), (.int 58), (.int 32), (.int 110), (.int 111), (.int 116), (.int 32), (.int 85), (.int 84), (.int 70), (.int 45), (.int 56), (.int 32), (.int 116), (.int 101), (.int 120), (.int 116)] [(.int 58), (.int 32), (.int 110), (.int 111), (.int 116), (.int 32), (.int 85), (.int 84), (.int 70), (.int 45), (.int 56), (.int 32), (.int 116), (.int 101), (.int 120), (.int 116)] 3 2 110 r0 I3 h4 n0 O3 I2 i00 I1 I0 F0i F0j F0k F0l (by decide) rfl F0e F0f F0g F0h (by decide) rfl) (by decide) (by decide) (by decide) (by decide) (g := (mkF m 257 #[iv i3, iv i0, iv i1, iv i2, iv 3, iv i4, iv i5, iv i7, rv o8, rv o9, rv o06, rv o0, iv 1, rv o6] [(.int 2), (.ref o6), (.int 3), (.ref o0)])) rfl (by rw [hml]; rfl) (argsL := [(.ref o0), (.int 3), (.ref o6), (.int 2)]) (rest := []) rfl (lenOf own_pd18 rfl) rfl (by show 2 * 0 + _ ≤ _; exact Nat.le_of_eq rfl) (hb hby at_257)
  refine oS s1i ?_
  obtain ⟨rfl, rfl, r7501⟩ := q1g
  have e2m := e2l.trans r7501
  have N1v := Fr.app N1u (Fr.nil n0)
  show own_G p e below (T16.setTop (mkF m 260 #[iv i3, iv i0, iv i1, iv i2, iv 3, iv i4, iv i5, iv i7, rv o8, rv o9, rv o06, rv o0, iv 1, rv o6] [(.int 1)])) _
  refine oS (fun _ => XS.ifNo X0Q.here hx rfl (hb hby at_260) rfl (XT.i0_eq_f (by decide))) ?_
  refine oS (fun _ => XS.aload X0Q.here hx rfl (hb hby at_263) rfl rfl) ?_
  refine oS (fun _ => XS.iload X0Q.here hx rfl (hb hby at_265) rfl) ?_
  refine oS (fun _ => XS.aload X0Q.here hx rfl (hb hby at_267) rfl rfl) ?_
  refine oS (fun _ => XS.iconst X0Q.here hx rfl (hb hby at_269) ) ?_
  obtain ⟨T17, h1k, v11, L15, X0R, e2n, q1h, s1j⟩ := own_callS X0Q hx hZ hown e2m (y := ⟨cN1, "at", "(Ljava/lang/String;ILjava/lang/String;I)Z"⟩) (hw 198) (hw 199) (hw 200) (hw 201) (by decide) (W := 0) (own_c6 l Z a0 hw [] o0 o6 o0a o0f m0 m7 19 16 [(.int (i4.toInt8.toInt32)), (.int (i5.toInt8.toInt32)), (.int (i7.toInt8.toInt32)), (.int 58), (.int 32), (.int 110), (.int 111), (.int 116), (.int 32), (.int 85), (.int 84), (.int 70), (.int 45), (.int 56), (.int 32), (.int 116), (.int 101), (.int 120), (.int 116)] [(.int 58), (.int 32), (.int 110), (.int 111), (.int 116), (.int 32), (.int 85), (.int 84), (.int 70), (.int 45), (.int 56), (.int 32), (.int 116), (.int 101), (.int 120), (.int 116)] 3 3 111 r0 I3 h4 n0 O3 I2 i00 I1 I0 F0i F0j F0k F0l (by decide) rfl F0e F0f F0g F0h (by decide) rfl) (by decide) (by decide) (by decide) (by decide) (g := (mkF m 270 #[iv i3, iv i0, iv i1, iv i2, iv 3, iv i4, iv i5, iv i7, rv o8, rv o9, rv o06, rv o0, iv 1, rv o6] [(.int 3), (.ref o6), (.int 3), (.ref o0)])) rfl (by rw [hml]; rfl) (argsL := [(.ref o0), (.int 3), (.ref o6), (.int 3)]) (rest := []) rfl (lenOf own_pd18 rfl) rfl (by show 2 * 0 + _ ≤ _; exact Nat.le_of_eq rfl) (hb hby at_270)
  refine oS s1j ?_
  obtain ⟨rfl, rfl, r7514⟩ := q1h
  have e2o := e2n.trans r7514
  have N1w := Fr.app N1v (Fr.nil n0)
  show own_G p e below (T17.setTop (mkF m 273 #[iv i3, iv i0, iv i1, iv i2, iv 3, iv i4, iv i5, iv i7, rv o8, rv o9, rv o06, rv o0, iv 1, rv o6] [(.int 1)])) _
  refine oS (fun _ => XS.ifNo X0R.here hx rfl (hb hby at_273) rfl (XT.i0_eq_f (by decide))) ?_
  refine oS (fun _ => XS.aload X0R.here hx rfl (hb hby at_276) rfl rfl) ?_
  refine oS (fun _ => XS.iload X0R.here hx rfl (hb hby at_278) rfl) ?_
  refine oS (fun _ => XS.aload X0R.here hx rfl (hb hby at_280) rfl rfl) ?_
  refine oS (fun _ => XS.iconst X0R.here hx rfl (hb hby at_282) ) ?_
  obtain ⟨T18, h1l, v12, L16, X0S, e2p, q1i, s1k⟩ := own_callS X0R hx hZ hown e2o (y := ⟨cN1, "at", "(Ljava/lang/String;ILjava/lang/String;I)Z"⟩) (hw 198) (hw 199) (hw 200) (hw 201) (by decide) (W := 0) (own_c6 l Z a0 hw [] o0 o6 o0a o0f m0 m7 19 16 [(.int (i4.toInt8.toInt32)), (.int (i5.toInt8.toInt32)), (.int (i7.toInt8.toInt32)), (.int 58), (.int 32), (.int 110), (.int 111), (.int 116), (.int 32), (.int 85), (.int 84), (.int 70), (.int 45), (.int 56), (.int 32), (.int 116), (.int 101), (.int 120), (.int 116)] [(.int 58), (.int 32), (.int 110), (.int 111), (.int 116), (.int 32), (.int 85), (.int 84), (.int 70), (.int 45), (.int 56), (.int 32), (.int 116), (.int 101), (.int 120), (.int 116)] 3 4 116 r0 I3 h4 n0 O3 I2 i00 I1 I0 F0i F0j F0k F0l (by decide) rfl F0e F0f F0g F0h (by decide) rfl) (by decide) (by decide) (by decide) (by decide) (g := (mkF m 283 #[iv i3, iv i0, iv i1, iv i2, iv 3, iv i4, iv i5, iv i7, rv o8, rv o9, rv o06, rv o0, iv 1, rv o6] [(.int 4), (.ref o6), (.int 3), (.ref o0)])) rfl (by rw [hml]; rfl) (argsL := [(.ref o0), (.int 3), (.ref o6), (.int 4)]) (rest := []) rfl (lenOf own_pd18 rfl) rfl (by show 2 * 0 + _ ≤ _; exact Nat.le_of_eq rfl) (hb hby at_283)
  refine oS s1k ?_
  obtain ⟨rfl, rfl, r7527⟩ := q1i
  have e2q := e2p.trans r7527
  have N1x := Fr.app N1w (Fr.nil n0)
  show own_G p e below (T18.setTop (mkF m 286 #[iv i3, iv i0, iv i1, iv i2, iv 3, iv i4, iv i5, iv i7, rv o8, rv o9, rv o06, rv o0, iv 1, rv o6] [(.int 1)])) _
  refine oS (fun _ => XS.ifNo X0S.here hx rfl (hb hby at_286) rfl (XT.i0_eq_f (by decide))) ?_
  refine oS (fun _ => XS.aload X0S.here hx rfl (hb hby at_289) rfl rfl) ?_
  refine oS (fun _ => XS.iload X0S.here hx rfl (hb hby at_291) rfl) ?_
  refine oS (fun _ => XS.aload X0S.here hx rfl (hb hby at_293) rfl rfl) ?_
  refine oS (fun _ => XS.iconst X0S.here hx rfl (hb hby at_295) ) ?_
  obtain ⟨T19, h1m, v13, L17, X0T, e2r, q1j, s1l⟩ := own_callS X0S hx hZ hown e2q (y := ⟨cN1, "at", "(Ljava/lang/String;ILjava/lang/String;I)Z"⟩) (hw 198) (hw 199) (hw 200) (hw 201) (by decide) (W := 0) (own_c6 l Z a0 hw [] o0 o6 o0a o0f m0 m7 19 16 [(.int (i4.toInt8.toInt32)), (.int (i5.toInt8.toInt32)), (.int (i7.toInt8.toInt32)), (.int 58), (.int 32), (.int 110), (.int 111), (.int 116), (.int 32), (.int 85), (.int 84), (.int 70), (.int 45), (.int 56), (.int 32), (.int 116), (.int 101), (.int 120), (.int 116)] [(.int 58), (.int 32), (.int 110), (.int 111), (.int 116), (.int 32), (.int 85), (.int 84), (.int 70), (.int 45), (.int 56), (.int 32), (.int 116), (.int 101), (.int 120), (.int 116)] 3 5 32 r0 I3 h4 n0 O3 I2 i00 I1 I0 F0i F0j F0k F0l (by decide) rfl F0e F0f F0g F0h (by decide) rfl) (by decide) (by decide) (by decide) (by decide) (g := (mkF m 296 #[iv i3, iv i0, iv i1, iv i2, iv 3, iv i4, iv i5, iv i7, rv o8, rv o9, rv o06, rv o0, iv 1, rv o6] [(.int 5), (.ref o6), (.int 3), (.ref o0)])) rfl (by rw [hml]; rfl) (argsL := [(.ref o0), (.int 3), (.ref o6), (.int 5)]) (rest := []) rfl (lenOf own_pd18 rfl) rfl (by show 2 * 0 + _ ≤ _; exact Nat.le_of_eq rfl) (hb hby at_296)
  refine oS s1l ?_
  obtain ⟨rfl, rfl, r7540⟩ := q1j
  have e2s := e2r.trans r7540
  have N1y := Fr.app N1x (Fr.nil n0)
  show own_G p e below (T19.setTop (mkF m 299 #[iv i3, iv i0, iv i1, iv i2, iv 3, iv i4, iv i5, iv i7, rv o8, rv o9, rv o06, rv o0, iv 1, rv o6] [(.int 1)])) _
  refine oS (fun _ => XS.ifNo X0T.here hx rfl (hb hby at_299) rfl (XT.i0_eq_f (by decide))) ?_
  refine oS (fun _ => XS.aload X0T.here hx rfl (hb hby at_302) rfl rfl) ?_
  refine oS (fun _ => XS.iload X0T.here hx rfl (hb hby at_304) rfl) ?_
  refine oS (fun _ => XS.aload X0T.here hx rfl (hb hby at_306) rfl rfl) ?_
  refine oS (fun _ => XS.bipush X0T.here hx rfl (hb hby at_308) ) ?_
  obtain ⟨T1a, h1n, v14, L18, X0U, e2t, q1k, s1m⟩ := own_callS X0T hx hZ hown e2s (y := ⟨cN1, "at", "(Ljava/lang/String;ILjava/lang/String;I)Z"⟩) (hw 198) (hw 199) (hw 200) (hw 201) (by decide) (W := 0) (own_c6 l Z a0 hw [] o0 o6 o0a o0f m0 m7 19 16 [(.int (i4.toInt8.toInt32)), (.int (i5.toInt8.toInt32)), (.int (i7.toInt8.toInt32)), (.int 58), (.int 32), (.int 110), (.int 111), (.int 116), (.int 32), (.int 85), (.int 84), (.int 70), (.int 45), (.int 56), (.int 32), (.int 116), (.int 101), (.int 120), (.int 116)] [(.int 58), (.int 32), (.int 110), (.int 111), (.int 116), (.int 32), (.int 85), (.int 84), (.int 70), (.int 45), (.int 56), (.int 32), (.int 116), (.int 101), (.int 120), (.int 116)] 3 6 85 r0 I3 h4 n0 O3 I2 i00 I1 I0 F0i F0j F0k F0l (by decide) rfl F0e F0f F0g F0h (by decide) rfl) (by decide) (by decide) (by decide) (by decide) (g := (mkF m 310 #[iv i3, iv i0, iv i1, iv i2, iv 3, iv i4, iv i5, iv i7, rv o8, rv o9, rv o06, rv o0, iv 1, rv o6] [(.int 6), (.ref o6), (.int 3), (.ref o0)])) rfl (by rw [hml]; rfl) (argsL := [(.ref o0), (.int 3), (.ref o6), (.int 6)]) (rest := []) rfl (lenOf own_pd18 rfl) rfl (by show 2 * 0 + _ ≤ _; exact Nat.le_of_eq rfl) (hb hby at_310)
  refine oS s1m ?_
  obtain ⟨rfl, rfl, r7553⟩ := q1k
  have e2u := e2t.trans r7553
  have N1z := Fr.app N1y (Fr.nil n0)
  show own_G p e below (T1a.setTop (mkF m 313 #[iv i3, iv i0, iv i1, iv i2, iv 3, iv i4, iv i5, iv i7, rv o8, rv o9, rv o06, rv o0, iv 1, rv o6] [(.int 1)])) _
  refine oS (fun _ => XS.ifNo X0U.here hx rfl (hb hby at_313) rfl (XT.i0_eq_f (by decide))) ?_
  refine oS (fun _ => XS.aload X0U.here hx rfl (hb hby at_316) rfl rfl) ?_
  refine oS (fun _ => XS.iload X0U.here hx rfl (hb hby at_318) rfl) ?_
  refine oS (fun _ => XS.aload X0U.here hx rfl (hb hby at_320) rfl rfl) ?_
  refine oS (fun _ => XS.bipush X0U.here hx rfl (hb hby at_322) ) ?_
  obtain ⟨T1b, h1o, v15, L19, X0V, e2v, q1l, s1n⟩ := own_callS X0U hx hZ hown e2u (y := ⟨cN1, "at", "(Ljava/lang/String;ILjava/lang/String;I)Z"⟩) (hw 198) (hw 199) (hw 200) (hw 201) (by decide) (W := 0) (own_c6 l Z a0 hw [] o0 o6 o0a o0f m0 m7 19 16 [(.int (i4.toInt8.toInt32)), (.int (i5.toInt8.toInt32)), (.int (i7.toInt8.toInt32)), (.int 58), (.int 32), (.int 110), (.int 111), (.int 116), (.int 32), (.int 85), (.int 84), (.int 70), (.int 45), (.int 56), (.int 32), (.int 116), (.int 101), (.int 120), (.int 116)] [(.int 58), (.int 32), (.int 110), (.int 111), (.int 116), (.int 32), (.int 85), (.int 84), (.int 70), (.int 45), (.int 56), (.int 32), (.int 116), (.int 101), (.int 120), (.int 116)] 3 7 84 r0 I3 h4 n0 O3 I2 i00 I1 I0 F0i F0j F0k F0l (by decide) rfl F0e F0f F0g F0h (by decide) rfl) (by decide) (by decide) (by decide) (by decide) (g := (mkF m 324 #[iv i3, iv i0, iv i1, iv i2, iv 3, iv i4, iv i5, iv i7, rv o8, rv o9, rv o06, rv o0, iv 1, rv o6] [(.int 7), (.ref o6), (.int 3), (.ref o0)])) rfl (by rw [hml]; rfl) (argsL := [(.ref o0), (.int 3), (.ref o6), (.int 7)]) (rest := []) rfl (lenOf own_pd18 rfl) rfl (by show 2 * 0 + _ ≤ _; exact Nat.le_of_eq rfl) (hb hby at_324)
  refine oS s1n ?_
  obtain ⟨rfl, rfl, r7566⟩ := q1l
  have e2w := e2v.trans r7566
  have N1A := Fr.app N1z (Fr.nil n0)
  show own_G p e below (T1b.setTop (mkF m 327 #[iv i3, iv i0, iv i1, iv i2, iv 3, iv i4, iv i5, iv i7, rv o8, rv o9, rv o06, rv o0, iv 1, rv o6] [(.int 1)])) _
  refine oS (fun _ => XS.ifNo X0V.here hx rfl (hb hby at_327) rfl (XT.i0_eq_f (by decide))) ?_
  refine oS (fun _ => XS.aload X0V.here hx rfl (hb hby at_330) rfl rfl) ?_
  refine oS (fun _ => XS.iload X0V.here hx rfl (hb hby at_332) rfl) ?_
  refine oS (fun _ => XS.aload X0V.here hx rfl (hb hby at_334) rfl rfl) ?_
  refine oS (fun _ => XS.bipush X0V.here hx rfl (hb hby at_336) ) ?_
  obtain ⟨T1c, h1p, v16, L1a, X0W, e2x, q1m, s1o⟩ := own_callS X0V hx hZ hown e2w (y := ⟨cN1, "at", "(Ljava/lang/String;ILjava/lang/String;I)Z"⟩) (hw 198) (hw 199) (hw 200) (hw 201) (by decide) (W := 0) (own_c6 l Z a0 hw [] o0 o6 o0a o0f m0 m7 19 16 [(.int (i4.toInt8.toInt32)), (.int (i5.toInt8.toInt32)), (.int (i7.toInt8.toInt32)), (.int 58), (.int 32), (.int 110), (.int 111), (.int 116), (.int 32), (.int 85), (.int 84), (.int 70), (.int 45), (.int 56), (.int 32), (.int 116), (.int 101), (.int 120), (.int 116)] [(.int 58), (.int 32), (.int 110), (.int 111), (.int 116), (.int 32), (.int 85), (.int 84), (.int 70), (.int 45), (.int 56), (.int 32), (.int 116), (.int 101), (.int 120), (.int 116)] 3 8 70 r0 I3 h4 n0 O3 I2 i00 I1 I0 F0i F0j F0k F0l (by decide) rfl F0e F0f F0g F0h (by decide) rfl) (by decide) (by decide) (by decide) (by decide) (g := (mkF m 338 #[iv i3, iv i0, iv i1, iv i2, iv 3, iv i4, iv i5, iv i7, rv o8, rv o9, rv o06, rv o0, iv 1, rv o6] [(.int 8), (.ref o6), (.int 3), (.ref o0)])) rfl (by rw [hml]; rfl) (argsL := [(.ref o0), (.int 3), (.ref o6), (.int 8)]) (rest := []) rfl (lenOf own_pd18 rfl) rfl (by show 2 * 0 + _ ≤ _; exact Nat.le_of_eq rfl) (hb hby at_338)
  refine oS s1o ?_
  obtain ⟨rfl, rfl, r7579⟩ := q1m
  have e2y := e2x.trans r7579
  have N1B := Fr.app N1A (Fr.nil n0)
  show own_G p e below (T1c.setTop (mkF m 341 #[iv i3, iv i0, iv i1, iv i2, iv 3, iv i4, iv i5, iv i7, rv o8, rv o9, rv o06, rv o0, iv 1, rv o6] [(.int 1)])) _
  refine oS (fun _ => XS.ifNo X0W.here hx rfl (hb hby at_341) rfl (XT.i0_eq_f (by decide))) ?_
  refine oS (fun _ => XS.aload X0W.here hx rfl (hb hby at_344) rfl rfl) ?_
  refine oS (fun _ => XS.iload X0W.here hx rfl (hb hby at_346) rfl) ?_
  refine oS (fun _ => XS.aload X0W.here hx rfl (hb hby at_348) rfl rfl) ?_
  refine oS (fun _ => XS.bipush X0W.here hx rfl (hb hby at_350) ) ?_
  obtain ⟨T1d, h1q, v17, L1b, X0X, e2z, q1n, s1p⟩ := own_callS X0W hx hZ hown e2y (y := ⟨cN1, "at", "(Ljava/lang/String;ILjava/lang/String;I)Z"⟩) (hw 198) (hw 199) (hw 200) (hw 201) (by decide) (W := 0) (own_c6 l Z a0 hw [] o0 o6 o0a o0f m0 m7 19 16 [(.int (i4.toInt8.toInt32)), (.int (i5.toInt8.toInt32)), (.int (i7.toInt8.toInt32)), (.int 58), (.int 32), (.int 110), (.int 111), (.int 116), (.int 32), (.int 85), (.int 84), (.int 70), (.int 45), (.int 56), (.int 32), (.int 116), (.int 101), (.int 120), (.int 116)] [(.int 58), (.int 32), (.int 110), (.int 111), (.int 116), (.int 32), (.int 85), (.int 84), (.int 70), (.int 45), (.int 56), (.int 32), (.int 116), (.int 101), (.int 120), (.int 116)] 3 9 45 r0 I3 h4 n0 O3 I2 i00 I1 I0 F0i F0j F0k F0l (by decide) rfl F0e F0f F0g F0h (by decide) rfl) (by decide) (by decide) (by decide) (by decide) (g := (mkF m 352 #[iv i3, iv i0, iv i1, iv i2, iv 3, iv i4, iv i5, iv i7, rv o8, rv o9, rv o06, rv o0, iv 1, rv o6] [(.int 9), (.ref o6), (.int 3), (.ref o0)])) rfl (by rw [hml]; rfl) (argsL := [(.ref o0), (.int 3), (.ref o6), (.int 9)]) (rest := []) rfl (lenOf own_pd18 rfl) rfl (by show 2 * 0 + _ ≤ _; exact Nat.le_of_eq rfl) (hb hby at_352)
  refine oS s1p ?_
  obtain ⟨rfl, rfl, r7592⟩ := q1n
  have e2A := e2z.trans r7592
  have N1C := Fr.app N1B (Fr.nil n0)
  show own_G p e below (T1d.setTop (mkF m 355 #[iv i3, iv i0, iv i1, iv i2, iv 3, iv i4, iv i5, iv i7, rv o8, rv o9, rv o06, rv o0, iv 1, rv o6] [(.int 1)])) _
  refine oS (fun _ => XS.ifNo X0X.here hx rfl (hb hby at_355) rfl (XT.i0_eq_f (by decide))) ?_
  refine oS (fun _ => XS.aload X0X.here hx rfl (hb hby at_358) rfl rfl) ?_
  refine oS (fun _ => XS.iload X0X.here hx rfl (hb hby at_360) rfl) ?_
  refine oS (fun _ => XS.aload X0X.here hx rfl (hb hby at_362) rfl rfl) ?_
  refine oS (fun _ => XS.bipush X0X.here hx rfl (hb hby at_364) ) ?_
  obtain ⟨T1e, h1r, v18, L1c, X0Y, e2B, q1o, s1q⟩ := own_callS X0X hx hZ hown e2A (y := ⟨cN1, "at", "(Ljava/lang/String;ILjava/lang/String;I)Z"⟩) (hw 198) (hw 199) (hw 200) (hw 201) (by decide) (W := 0) (own_c6 l Z a0 hw [] o0 o6 o0a o0f m0 m7 19 16 [(.int (i4.toInt8.toInt32)), (.int (i5.toInt8.toInt32)), (.int (i7.toInt8.toInt32)), (.int 58), (.int 32), (.int 110), (.int 111), (.int 116), (.int 32), (.int 85), (.int 84), (.int 70), (.int 45), (.int 56), (.int 32), (.int 116), (.int 101), (.int 120), (.int 116)] [(.int 58), (.int 32), (.int 110), (.int 111), (.int 116), (.int 32), (.int 85), (.int 84), (.int 70), (.int 45), (.int 56), (.int 32), (.int 116), (.int 101), (.int 120), (.int 116)] 3 10 56 r0 I3 h4 n0 O3 I2 i00 I1 I0 F0i F0j F0k F0l (by decide) rfl F0e F0f F0g F0h (by decide) rfl) (by decide) (by decide) (by decide) (by decide) (g := (mkF m 366 #[iv i3, iv i0, iv i1, iv i2, iv 3, iv i4, iv i5, iv i7, rv o8, rv o9, rv o06, rv o0, iv 1, rv o6] [(.int 10), (.ref o6), (.int 3), (.ref o0)])) rfl (by rw [hml]; rfl) (argsL := [(.ref o0), (.int 3), (.ref o6), (.int 10)]) (rest := []) rfl (lenOf own_pd18 rfl) rfl (by show 2 * 0 + _ ≤ _; exact Nat.le_of_eq rfl) (hb hby at_366)
  refine oS s1q ?_
  obtain ⟨rfl, rfl, r7605⟩ := q1o
  have e2C := e2B.trans r7605
  have N1D := Fr.app N1C (Fr.nil n0)
  show own_G p e below (T1e.setTop (mkF m 369 #[iv i3, iv i0, iv i1, iv i2, iv 3, iv i4, iv i5, iv i7, rv o8, rv o9, rv o06, rv o0, iv 1, rv o6] [(.int 1)])) _
  refine oS (fun _ => XS.ifNo X0Y.here hx rfl (hb hby at_369) rfl (XT.i0_eq_f (by decide))) ?_
  refine oS (fun _ => XS.aload X0Y.here hx rfl (hb hby at_372) rfl rfl) ?_
  refine oS (fun _ => XS.iload X0Y.here hx rfl (hb hby at_374) rfl) ?_
  refine oS (fun _ => XS.aload X0Y.here hx rfl (hb hby at_376) rfl rfl) ?_
  refine oS (fun _ => XS.bipush X0Y.here hx rfl (hb hby at_378) ) ?_
  obtain ⟨T1f, h1s, v19, L1d, X0Z, e2D, q1p, s1r⟩ := own_callS X0Y hx hZ hown e2C (y := ⟨cN1, "at", "(Ljava/lang/String;ILjava/lang/String;I)Z"⟩) (hw 198) (hw 199) (hw 200) (hw 201) (by decide) (W := 0) (own_c6 l Z a0 hw [] o0 o6 o0a o0f m0 m7 19 16 [(.int (i4.toInt8.toInt32)), (.int (i5.toInt8.toInt32)), (.int (i7.toInt8.toInt32)), (.int 58), (.int 32), (.int 110), (.int 111), (.int 116), (.int 32), (.int 85), (.int 84), (.int 70), (.int 45), (.int 56), (.int 32), (.int 116), (.int 101), (.int 120), (.int 116)] [(.int 58), (.int 32), (.int 110), (.int 111), (.int 116), (.int 32), (.int 85), (.int 84), (.int 70), (.int 45), (.int 56), (.int 32), (.int 116), (.int 101), (.int 120), (.int 116)] 3 11 32 r0 I3 h4 n0 O3 I2 i00 I1 I0 F0i F0j F0k F0l (by decide) rfl F0e F0f F0g F0h (by decide) rfl) (by decide) (by decide) (by decide) (by decide) (g := (mkF m 380 #[iv i3, iv i0, iv i1, iv i2, iv 3, iv i4, iv i5, iv i7, rv o8, rv o9, rv o06, rv o0, iv 1, rv o6] [(.int 11), (.ref o6), (.int 3), (.ref o0)])) rfl (by rw [hml]; rfl) (argsL := [(.ref o0), (.int 3), (.ref o6), (.int 11)]) (rest := []) rfl (lenOf own_pd18 rfl) rfl (by show 2 * 0 + _ ≤ _; exact Nat.le_of_eq rfl) (hb hby at_380)
  refine oS s1r ?_
  obtain ⟨rfl, rfl, r7618⟩ := q1p
  have e2E := e2D.trans r7618
  have N1E := Fr.app N1D (Fr.nil n0)
  show own_G p e below (T1f.setTop (mkF m 383 #[iv i3, iv i0, iv i1, iv i2, iv 3, iv i4, iv i5, iv i7, rv o8, rv o9, rv o06, rv o0, iv 1, rv o6] [(.int 1)])) _
  refine oS (fun _ => XS.ifNo X0Z.here hx rfl (hb hby at_383) rfl (XT.i0_eq_f (by decide))) ?_
  refine oS (fun _ => XS.aload X0Z.here hx rfl (hb hby at_386) rfl rfl) ?_
  refine oS (fun _ => XS.iload X0Z.here hx rfl (hb hby at_388) rfl) ?_
  refine oS (fun _ => XS.aload X0Z.here hx rfl (hb hby at_390) rfl rfl) ?_
  refine oS (fun _ => XS.bipush X0Z.here hx rfl (hb hby at_392) ) ?_
  obtain ⟨T1g, h1t, v1a, L1e, X10, e2F, q1q, s1s⟩ := own_callS X0Z hx hZ hown e2E (y := ⟨cN1, "at", "(Ljava/lang/String;ILjava/lang/String;I)Z"⟩) (hw 198) (hw 199) (hw 200) (hw 201) (by decide) (W := 0) (own_c6 l Z a0 hw [] o0 o6 o0a o0f m0 m7 19 16 [(.int (i4.toInt8.toInt32)), (.int (i5.toInt8.toInt32)), (.int (i7.toInt8.toInt32)), (.int 58), (.int 32), (.int 110), (.int 111), (.int 116), (.int 32), (.int 85), (.int 84), (.int 70), (.int 45), (.int 56), (.int 32), (.int 116), (.int 101), (.int 120), (.int 116)] [(.int 58), (.int 32), (.int 110), (.int 111), (.int 116), (.int 32), (.int 85), (.int 84), (.int 70), (.int 45), (.int 56), (.int 32), (.int 116), (.int 101), (.int 120), (.int 116)] 3 12 116 r0 I3 h4 n0 O3 I2 i00 I1 I0 F0i F0j F0k F0l (by decide) rfl F0e F0f F0g F0h (by decide) rfl) (by decide) (by decide) (by decide) (by decide) (g := (mkF m 394 #[iv i3, iv i0, iv i1, iv i2, iv 3, iv i4, iv i5, iv i7, rv o8, rv o9, rv o06, rv o0, iv 1, rv o6] [(.int 12), (.ref o6), (.int 3), (.ref o0)])) rfl (by rw [hml]; rfl) (argsL := [(.ref o0), (.int 3), (.ref o6), (.int 12)]) (rest := []) rfl (lenOf own_pd18 rfl) rfl (by show 2 * 0 + _ ≤ _; exact Nat.le_of_eq rfl) (hb hby at_394)
  refine oS s1s ?_
  obtain ⟨rfl, rfl, r7631⟩ := q1q
  have e2G := e2F.trans r7631
  have N1F := Fr.app N1E (Fr.nil n0)
  show own_G p e below (T1g.setTop (mkF m 397 #[iv i3, iv i0, iv i1, iv i2, iv 3, iv i4, iv i5, iv i7, rv o8, rv o9, rv o06, rv o0, iv 1, rv o6] [(.int 1)])) _
  refine oS (fun _ => XS.ifNo X10.here hx rfl (hb hby at_397) rfl (XT.i0_eq_f (by decide))) ?_
  refine oS (fun _ => XS.aload X10.here hx rfl (hb hby at_400) rfl rfl) ?_
  refine oS (fun _ => XS.iload X10.here hx rfl (hb hby at_402) rfl) ?_
  refine oS (fun _ => XS.aload X10.here hx rfl (hb hby at_404) rfl rfl) ?_
  refine oS (fun _ => XS.bipush X10.here hx rfl (hb hby at_406) ) ?_
  obtain ⟨T1h, h1u, v1b, L1f, X11, e2H, q1r, s1t⟩ := own_callS X10 hx hZ hown e2G (y := ⟨cN1, "at", "(Ljava/lang/String;ILjava/lang/String;I)Z"⟩) (hw 198) (hw 199) (hw 200) (hw 201) (by decide) (W := 0) (own_c6 l Z a0 hw [] o0 o6 o0a o0f m0 m7 19 16 [(.int (i4.toInt8.toInt32)), (.int (i5.toInt8.toInt32)), (.int (i7.toInt8.toInt32)), (.int 58), (.int 32), (.int 110), (.int 111), (.int 116), (.int 32), (.int 85), (.int 84), (.int 70), (.int 45), (.int 56), (.int 32), (.int 116), (.int 101), (.int 120), (.int 116)] [(.int 58), (.int 32), (.int 110), (.int 111), (.int 116), (.int 32), (.int 85), (.int 84), (.int 70), (.int 45), (.int 56), (.int 32), (.int 116), (.int 101), (.int 120), (.int 116)] 3 13 101 r0 I3 h4 n0 O3 I2 i00 I1 I0 F0i F0j F0k F0l (by decide) rfl F0e F0f F0g F0h (by decide) rfl) (by decide) (by decide) (by decide) (by decide) (g := (mkF m 408 #[iv i3, iv i0, iv i1, iv i2, iv 3, iv i4, iv i5, iv i7, rv o8, rv o9, rv o06, rv o0, iv 1, rv o6] [(.int 13), (.ref o6), (.int 3), (.ref o0)])) rfl (by rw [hml]; rfl) (argsL := [(.ref o0), (.int 3), (.ref o6), (.int 13)]) (rest := []) rfl (lenOf own_pd18 rfl) rfl (by show 2 * 0 + _ ≤ _; exact Nat.le_of_eq rfl) (hb hby at_408)
  refine oS s1t ?_
  obtain ⟨rfl, rfl, r7644⟩ := q1r
  have e2I := e2H.trans r7644
  have N1G := Fr.app N1F (Fr.nil n0)
  show own_G p e below (T1h.setTop (mkF m 411 #[iv i3, iv i0, iv i1, iv i2, iv 3, iv i4, iv i5, iv i7, rv o8, rv o9, rv o06, rv o0, iv 1, rv o6] [(.int 1)])) _
  refine oS (fun _ => XS.ifNo X11.here hx rfl (hb hby at_411) rfl (XT.i0_eq_f (by decide))) ?_
  refine oS (fun _ => XS.aload X11.here hx rfl (hb hby at_414) rfl rfl) ?_
  refine oS (fun _ => XS.iload X11.here hx rfl (hb hby at_416) rfl) ?_
  refine oS (fun _ => XS.aload X11.here hx rfl (hb hby at_418) rfl rfl) ?_
  refine oS (fun _ => XS.bipush X11.here hx rfl (hb hby at_420) ) ?_
  obtain ⟨T1i, h1v, v1c, L1g, X12, e2J, q1s, s1u⟩ := own_callS X11 hx hZ hown e2I (y := ⟨cN1, "at", "(Ljava/lang/String;ILjava/lang/String;I)Z"⟩) (hw 198) (hw 199) (hw 200) (hw 201) (by decide) (W := 0) (own_c6 l Z a0 hw [] o0 o6 o0a o0f m0 m7 19 16 [(.int (i4.toInt8.toInt32)), (.int (i5.toInt8.toInt32)), (.int (i7.toInt8.toInt32)), (.int 58), (.int 32), (.int 110), (.int 111), (.int 116), (.int 32), (.int 85), (.int 84), (.int 70), (.int 45), (.int 56), (.int 32), (.int 116), (.int 101), (.int 120), (.int 116)] [(.int 58), (.int 32), (.int 110), (.int 111), (.int 116), (.int 32), (.int 85), (.int 84), (.int 70), (.int 45), (.int 56), (.int 32), (.int 116), (.int 101), (.int 120), (.int 116)] 3 14 120 r0 I3 h4 n0 O3 I2 i00 I1 I0 F0i F0j F0k F0l (by decide) rfl F0e F0f F0g F0h (by decide) rfl) (by decide) (by decide) (by decide) (by decide) (g := (mkF m 422 #[iv i3, iv i0, iv i1, iv i2, iv 3, iv i4, iv i5, iv i7, rv o8, rv o9, rv o06, rv o0, iv 1, rv o6] [(.int 14), (.ref o6), (.int 3), (.ref o0)])) rfl (by rw [hml]; rfl) (argsL := [(.ref o0), (.int 3), (.ref o6), (.int 14)]) (rest := []) rfl (lenOf own_pd18 rfl) rfl (by show 2 * 0 + _ ≤ _; exact Nat.le_of_eq rfl) (hb hby at_422)
  refine oS s1u ?_
  obtain ⟨rfl, rfl, r7657⟩ := q1s
  have e2K := e2J.trans r7657
  have N1H := Fr.app N1G (Fr.nil n0)
  show own_G p e below (T1i.setTop (mkF m 425 #[iv i3, iv i0, iv i1, iv i2, iv 3, iv i4, iv i5, iv i7, rv o8, rv o9, rv o06, rv o0, iv 1, rv o6] [(.int 1)])) _
  refine oS (fun _ => XS.ifNo X12.here hx rfl (hb hby at_425) rfl (XT.i0_eq_f (by decide))) ?_
  refine oS (fun _ => XS.aload X12.here hx rfl (hb hby at_428) rfl rfl) ?_
  refine oS (fun _ => XS.iload X12.here hx rfl (hb hby at_430) rfl) ?_
  refine oS (fun _ => XS.aload X12.here hx rfl (hb hby at_432) rfl rfl) ?_
  refine oS (fun _ => XS.bipush X12.here hx rfl (hb hby at_434) ) ?_
  obtain ⟨T1j, h1w, v1d, L1h, X1m, e2L, q1t, s1v⟩ := own_callS X12 hx hZ hown e2K (y := ⟨cN1, "at", "(Ljava/lang/String;ILjava/lang/String;I)Z"⟩) (hw 198) (hw 199) (hw 200) (hw 201) (by decide) (W := 0) (own_c6 l Z a0 hw [] o0 o6 o0a o0f m0 m7 19 16 [(.int (i4.toInt8.toInt32)), (.int (i5.toInt8.toInt32)), (.int (i7.toInt8.toInt32)), (.int 58), (.int 32), (.int 110), (.int 111), (.int 116), (.int 32), (.int 85), (.int 84), (.int 70), (.int 45), (.int 56), (.int 32), (.int 116), (.int 101), (.int 120), (.int 116)] [(.int 58), (.int 32), (.int 110), (.int 111), (.int 116), (.int 32), (.int 85), (.int 84), (.int 70), (.int 45), (.int 56), (.int 32), (.int 116), (.int 101), (.int 120), (.int 116)] 3 15 116 r0 I3 h4 n0 O3 I2 i00 I1 I0 F0i F0j F0k F0l (by decide) rfl F0e F0f F0g F0h (by decide) rfl) (by decide) (by decide) (by decide) (by decide) (g := (mkF m 436 #[iv i3, iv i0, iv i1, iv i2, iv 3, iv i4, iv i5, iv i7, rv o8, rv o9, rv o06, rv o0, iv 1, rv o6] [(.int 15), (.ref o6), (.int 3), (.ref o0)])) rfl (by rw [hml]; rfl) (argsL := [(.ref o0), (.int 3), (.ref o6), (.int 15)]) (rest := []) rfl (lenOf own_pd18 rfl) rfl (by show 2 * 0 + _ ≤ _; exact Nat.le_of_eq rfl) (hb hby at_436)
  refine oS s1v ?_
  obtain ⟨rfl, rfl, r7670⟩ := q1t
  have e2M := e2L.trans r7670
  have N1I := Fr.app N1H (Fr.nil n0)
  show own_G p e below (T1j.setTop (mkF m 439 #[iv i3, iv i0, iv i1, iv i2, iv 3, iv i4, iv i5, iv i7, rv o8, rv o9, rv o06, rv o0, iv 1, rv o6] [(.int 1)])) _
  refine oS (fun _ => XS.ifNo X1m.here hx rfl (hb hby at_439) rfl (XT.i0_eq_f (by decide))) ?_
  refine oS (fun _ => XS.iconst X1m.here hx rfl (hb hby at_442) ) ?_
  refine oS (fun _ => XS.goto X1m.here hx rfl (pc0 := 443) (pc' := 447) rfl (hb hby at_443) (by decide) (by decide)) ?_
  have K09 : Keep h0 h4 [] := (((((((((Keep.refl h0 []).ext E01).wr W3 (Or.inr (by omega))).wr W4 (Or.inr (by omega))).wr W5 (Or.inr (by omega))).ext E6).trans K2 (allS (Or.inr (by omega)) all0)).trans K7 all0).ext E3)
  exact own_retNW X1m hx (t := .boolean) Bd.notSynchronized Bd.returns (by simp) (hb hby at_447) (by decide) hS hZ hEL hh R0f e2M (by omega) (by decide) (by decide) (fun hA => ⟨rfl, N1I⟩)
set_option maxRecDepth 65536 in
set_option maxHeartbeats 40000000 in
theorem comes_1 {Post : Tables → Env → Array Value → State → Outcome → State → Prop} (hpost : ∀ tb e args s v u, (limb_1_1.after args s (.returned v) u = true ∧ limb_1_2.after args s (.returned v) u = true ∧ True) → ReturnedEndW s (.returned v) u (Jvm.fieldLocs frame_1_writes args s ++ Jvm.arrayLocs frame_1_arrays args s ++ Jvm.staticLocs frame_1_statics s) 40 8896 → Post tb e args s (.returned v) u) :
    ArmFor flags0 classFile x code maxLocals ret World_1 tables_1 room_1 Calls_1 rest_1 Pre_1 Post := by
  intro l hfl _ _ p e ha hc hk s m args below hf hA hF happ hP
  obtain ⟨hcalls, hrest, hpre⟩ := hP
  obtain ⟨-, -, -, hnamed, -, -, -, hat⟩ := (Spec.applies_iff hf).mp happ
  obtain ⟨hg, hn⟩ := and_e (Cond.before_iff.mp (show (Jvm.Cond.and given_1 narrow_1).before args s = true from hpre))
  obtain ⟨g0, gg0⟩ := and_e hg
  obtain ⟨w0, w1, w2, w3, rfl⟩ : ∃ w0 w1 w2 w3 : Value, args = #[w0, w1, w2, w3] := by
    have hs : args.size = 4 := by simpa [Cond.value, given_1] using g0
    obtain ⟨L⟩ := args
    match L, hs with
    | [w0, w1, w2, w3], _ => exact ⟨w0, w1, w2, w3, rfl⟩
  have hw : own_W _ s := fun n => atoms_spec (ws := Jvm.Cond.code x code maxLocals ret :: tables_1) hat _ (own_gd _ _ n)
  obtain ⟨hsets, hown0⟩ := atoms_of _ (rest_1_c_eq ▸ (show rest_1_c.before _ s = true from hrest))
  have hfit : Fit s := fun {y c} hc i hi => by
    obtain ⟨ha, rfl⟩ := Array.getElem?_eq_some_iff.mp hc
    have q := List.all_eq_true.mp ((Array.all_eq_true_iff_forall_mem.mp hF) _ (Array.getElem_mem ha)) i (List.mem_range.mpr hi)
    simpa [Array.getElem?_eq_getElem hi] using q
  obtain ⟨ga0, gg1⟩ := and_e gg0
  obtain ⟨in_1, ea0⟩ := is_v ga0
  obtain rfl : w0 = (.int in_1) := Option.some.inj ea0
  obtain ⟨ga1, gg2⟩ := and_e gg1
  obtain ⟨in_2, ea1⟩ := is_v ga1
  obtain rfl : w1 = (.int in_2) := Option.some.inj ea1
  obtain ⟨ga2, gg3⟩ := and_e gg2
  obtain ⟨in_3, ea2⟩ := is_v ga2
  obtain rfl : w2 = (.int in_3) := Option.some.inj ea2
  obtain ⟨in_4, ea3⟩ := is_v gg3
  obtain rfl : w3 = (.int in_4) := Option.some.inj ea3
  have c0 := hn
  obtain ⟨in_5, ev_in_5⟩ := is_v (Cond.before_iff.mp (hsets _ (List.mem_of_getElem? (i := 1) rfl)))
  obtain ⟨va_6, ev_va_6, rf_va_6⟩ := isR_v (Cond.before_iff.mp (hsets _ (List.mem_of_getElem? (i := 8) rfl)))
  have ev7 := own_ev (Term.int_eval 1) (Cond.before_iff.mp (hsets _ (List.mem_of_getElem? (i := 13) rfl)))
  obtain ⟨ob_8, ev_ob_8⟩ := arr_v (Cond.before_iff.mp (hsets _ (List.mem_of_getElem? (i := 17) rfl)))
  obtain ⟨kk_9, ar_ob_8⟩ := own_arr (vs := []) (dv := .null) hfit ev_ob_8 (Cond.before_iff.mp (hsets _ (List.mem_of_getElem? (i := 17) rfl))) (Cond.before_iff.mp (hsets _ (List.mem_of_getElem? (i := 18) rfl))) (by decide) rfl (fun cl hc ha hz => trivial)
  obtain ⟨ob_10, ev_ob_10⟩ := exa_v (Cond.before_iff.mp (hsets _ (List.mem_of_getElem? (i := 22) rfl)))
  have ev11 := own_ev' ev_ob_10 (Cond.before_iff.mp (hsets _ (List.mem_of_getElem? (i := 23) rfl)))
  obtain ⟨ob_12, ev_ob_12⟩ := arr_v (Cond.before_iff.mp (hsets _ (List.mem_of_getElem? (i := 27) rfl)))
  obtain ⟨kk_13, ar_ob_12⟩ := own_arr (vs := []) (dv := .null) hfit ev_ob_12 (Cond.before_iff.mp (hsets _ (List.mem_of_getElem? (i := 27) rfl))) (Cond.before_iff.mp (hsets _ (List.mem_of_getElem? (i := 28) rfl))) (by decide) rfl (fun cl hc ha hz => trivial)
  have hEL : EW s #[(.int in_1), (.int in_2), (.int in_3), (.int in_4)] own_EL := (EW.cons (hw 95) (by decide) (EW.cons (hw 197) (by decide) (EW.cons (hw 14) (by decide) EW.nil)))
  have hCH : CHv s own_EL s.vm s.heap := CHv.start hEL (fun p hp => hcalls.2.2.1 p hp) (hsets _ (List.mem_of_getElem? (i := 2) rfl)) (hw 15) (hw 2)
  have hl : l.stackTraces = true := by
    show (!l.flags.contains noTraceFlag) = true
    rw [hfl]; decide +kernel
  obtain ⟨n, o, h1, h2, h3, _, L, rfl, ⟨rfl, N⟩, -, hq⟩ := own_rm1 l hl s _ hw hEL tables_1 in_1 in_2 in_3 in_4 in_5 ob_8 ob_10 va_6 s.heap s.heap.size (Nat.le_refl _) (Old.start s) (Sta.start ev_in_5 (Or.inl (hsets _ (List.mem_of_getElem? (i := 0) rfl)))) (gotF (Cond.eq_ints ev_in_5 (Term.int_eval 0)) (not_v (Cond.before_iff.mp (hsets _ (List.mem_of_getElem? (i := 2) rfl))))) (Sta.start ev_ob_8 (Or.inl (hsets _ (List.mem_of_getElem? (i := 15) rfl)))) (Sta.start ev_ob_10 (Or.inl (hsets _ (List.mem_of_getElem? (i := 20) rfl)))) (Sta.start ev_va_6 (Or.inl (hsets _ (List.mem_of_getElem? (i := 7) rfl)))) rf_va_6 p e ha hc hk s m _ below hf ((Spec.applies_iff_loose hf).mp happ).1 ⟨rfl, State.Warmed39.refl s, rfl, hCH, fun _ q => nomatch q⟩ ⟨hcalls.1, hcalls.2.1⟩
  refine ⟨n, _, h1, h2, h3, hpost _ _ _ _ _ _ ⟨Cond.after_iff.mpr rfl, Cond.after_iff.mpr (eq_i res_at (Term.int_eval (1)) rfl), trivial⟩ ⟨hq.1, hq.2.1, hq.2.2.1, (hq.2.2.2.sift fun y hy => Or.inr (N y hy)).mono (by decide) (by decide)⟩⟩
theorem main_1_1 : Claimed_1_1 := comes_1 fun _ _ _ _ _ _ h hF => ⟨h.1, hF⟩
theorem main_1_2 : Claimed_1_2 := comes_1 fun _ _ _ _ _ _ h hF => ⟨h.2.1, hF⟩
end Jvm.Pilot.@@N@@
namespace Jvm.Pilot.@@N@@
open Jvm Jvm.ClassFile Sem Op Lib Jvm.Free Jvm.Stand Jvm.Pilot.@@N@@.Jvm.D
/-! MADE BY PROGRAM (witnessworld.py) out of the Statement's table words and the real class files: 42 classes; the members and pool entries that the words name. The judged class is class 1, her method 1. -/
namespace start1
open Jvm.ClassFile
def u (s : String) : CpInfo := .utf8 (stringToUtf16 s)
/-- a pool by its gaps: so many unusable entries, then the entry; so many at the end -/
def gap : Nat → List CpInfo → List CpInfo
  | 0, r => r
  | n + 1, r => .unusable :: gap n r
def poolList (es : List (Nat × CpInfo)) (last : Nat) : List CpInfo := es.foldr (fun e r => gap e.1 (e.2 :: r)) (gap last [])
def pool (es : List (Nat × CpInfo)) (last : Nat) : Array CpInfo := ⟨poolList es last⟩
def fileOf (pool : Array CpInfo) (this : Nat) (attrs : Array Attribute := #[]) (ms : Array MethodInfo := #[]) (fl : Nat := 33) (sup : Nat := 0) (ifs : Array Nat := #[]) (fds : Array FieldInfo := #[]) : ClassFile where
  minorVersion := 0
  majorVersion := 65
  constantPool := pool
  accessFlags := fl
  thisClass := this
  superClass := sup
  interfaces := ifs
  fields := fds
  methods := ms
  attributes := attrs
def plain (name : String) (sup : Option ClassId) : Class where
  name := name
  kind := .ordinary
  loader := none
  accessFlags := 33
  super := sup
  interfaces := #[]
  cf := none
  fields := #[]
  methods := #[]
  instanceTypes := #[]
  staticTypes := #[]
  resolved := #[]
  callSites := []
  init := .initialized
  statics := none
  mirror := none

def pool0 : Array CpInfo := pool [(5, u "<init>"), (0, u "()V"), (1, .class_ 10), (1, u "java/lang/Object"), (85, u "clone"), (0, u "()Ljava/lang/Object;")] 26

def k0c0 : Code := { maxStack := 0, maxLocals := 1, code := object_method_1_code, exceptionTable := #[], attributes := #[] }
def k0m0 : Method := { name := "<init>", desc := "()V", sig := { parameters := [], returnType := none }, accessFlags := 1, code := some k0c0 }
def k0m1 : Method := { name := "clone", desc := "()Ljava/lang/Object;", sig := { parameters := [], returnType := some (.object "java/lang/Object") }, accessFlags := 260, code := none }
/-- java/lang/Object -/
def k0 : Class := { plain "java/lang/Object" none with
  accessFlags := 33
  interfaces := #[]
  cf := some (fileOf pool0 8 #[] #[{ accessFlags := 1, nameIndex := 5, descriptorIndex := 6, attributes := #[] }, { accessFlags := 260, nameIndex := 96, descriptorIndex := 97, attributes := #[] }] 33 0 #[] #[])
  fields := #[]
  methods := #[k0m0, k0m1]
  instanceTypes := #[]
  staticTypes := #[]
  resolved := Array.replicate 124 none
  statics := none }

def pool1 : Array CpInfo := pool [(2, .class_ 4), (1, u "java/lang/Object"), (0, u "<init>"), (0, u "()V"), (0, .class_ 8), (0, u "java/lang/String"), (0, .methodref 7 10), (0, .nameAndType 5 11), (0, u "([C)V"), (0, .methodref 13 14), (0, .class_ 15), (0, .nameAndType 16 17), (0, u "com/example/keelrate/keelrate/cli/InputFile"), (0, u "notUtf8"), (0, u "(Ljava/lang/String;)Lcom/example/keelrate/keelrate/InputRefusedException;"), (0, .methodref 19 20), (0, .class_ 21), (0, .nameAndType 22 23), (0, u "com/example/keelrate/keelrate/InputRefusedException"), (0, u "getMessage"), (0, u "()Ljava/lang/String;"), (0, .methodref 7 25), (0, .nameAndType 26 27), (0, u "length"), (0, u "()I"), (0, .methodref 7 29), (0, .nameAndType 30 31), (0, u "charAt"), (0, u "(I)C"), (0, .string 33), (0, u ": not UTF-8 text"), (0, .methodref 35 36), (0, .class_ 37), (0, .nameAndType 38 39), (0, u "com/example/keelrate/keelrate/cli/InputFileNotUtf8PinLaw"), (0, u "at"), (0, u "(Ljava/lang/String;ILjava/lang/String;I)Z"), (2, u "law"), (0, u "(IIII)Z")] 5

def k1m0 : Method := { name := "<init>", desc := "()V", sig := { parameters := [], returnType := none }, accessFlags := 2, code := none }
def k1c1 : Code := { maxStack := 4, maxLocals := 14, code := code, exceptionTable := #[], attributes := #[] }
def k1m1 : Method := { name := "law", desc := "(IIII)Z", sig := { parameters := [.int, .int, .int, .int], returnType := some .boolean }, accessFlags := 9, code := some k1c1 }
def k1c2 : Code := { maxStack := 3, maxLocals := 4, code := method_3_code, exceptionTable := #[], attributes := #[] }
def k1m2 : Method := { name := "at", desc := "(Ljava/lang/String;ILjava/lang/String;I)Z", sig := { parameters := [(.object "java/lang/String"), .int, (.object "java/lang/String"), .int], returnType := some .boolean }, accessFlags := 10, code := some k1c2 }
/-- com/example/keelrate/keelrate/cli/InputFileNotUtf8PinLaw -/
def k1 : Class := { plain "com/example/keelrate/keelrate/cli/InputFileNotUtf8PinLaw" (some 0) with
  accessFlags := 49
  interfaces := #[]
  cf := some (fileOf pool1 35 #[] #[{ accessFlags := 2, nameIndex := 5, descriptorIndex := 6, attributes := #[] }, { accessFlags := 9, nameIndex := 42, descriptorIndex := 43, attributes := #[] }, { accessFlags := 10, nameIndex := 38, descriptorIndex := 39, attributes := #[] }] 49 2 #[] #[])
  fields := #[]
  methods := #[k1m0, k1m1, k1m2]
  instanceTypes := #[]
  staticTypes := #[]
  resolved := Array.replicate 49 none
  statics := none }

def pool2 : Array CpInfo := pool [(1, .class_ 2), (0, u "java/io/Serializable"), (0, .class_ 4), (0, u "java/lang/Object")] 2

/-- java/io/Serializable -/
def k2 : Class := { plain "java/io/Serializable" (some 0) with
  accessFlags := 1537
  interfaces := #[]
  cf := some (fileOf pool2 1 #[] #[] 1537 3 #[] #[])
  fields := #[]
  methods := #[]
  instanceTypes := #[]
  staticTypes := #[]
  resolved := Array.replicate 7 none
  statics := none }

def pool3 : Array CpInfo := pool [(1, .class_ 2), (0, u "java/lang/Comparable"), (0, .class_ 4), (0, u "java/lang/Object")] 7

/-- java/lang/Comparable -/
def k3 : Class := { plain "java/lang/Comparable" (some 0) with
  accessFlags := 1537
  interfaces := #[]
  cf := some (fileOf pool3 1 #[] #[] 1537 3 #[] #[])
  fields := #[]
  methods := #[]
  instanceTypes := #[]
  staticTypes := #[]
  resolved := Array.replicate 12 none
  statics := none }

def pool4 : Array CpInfo := pool [(2, .class_ 4), (1, u "java/lang/CharSequence"), (42, .class_ 48), (0, u "java/lang/CharSequence$1CodePointIterator"), (10, .class_ 60), (0, u "java/lang/CharSequence$1CharIterator"), (5, .class_ 67), (0, u "java/lang/Object")] 63

/-- java/lang/CharSequence -/
def k4 : Class := { plain "java/lang/CharSequence" (some 0) with
  accessFlags := 1537
  interfaces := #[]
  cf := some (fileOf pool4 2 #[.nestMembers #[47, 59]] #[] 1537 66 #[] #[])
  fields := #[]
  methods := #[]
  instanceTypes := #[]
  staticTypes := #[]
  resolved := Array.replicate 131 none
  statics := none }

def pool5 : Array CpInfo := pool [(1, .class_ 2), (0, u "java/lang/constant/Constable"), (0, .class_ 4), (0, u "java/lang/Object")] 6

/-- java/lang/constant/Constable -/
def k5 : Class := { plain "java/lang/constant/Constable" (some 0) with
  accessFlags := 1537
  interfaces := #[]
  cf := some (fileOf pool5 1 #[] #[] 1537 3 #[] #[])
  fields := #[]
  methods := #[]
  instanceTypes := #[]
  staticTypes := #[]
  resolved := Array.replicate 11 none
  statics := none }

def pool6 : Array CpInfo := pool [(1, .class_ 2), (0, u "java/lang/constant/ConstantDesc"), (0, .class_ 4), (0, u "java/lang/Object")] 32

/-- java/lang/constant/ConstantDesc -/
def k6 : Class := { plain "java/lang/constant/ConstantDesc" (some 0) with
  accessFlags := 1537
  interfaces := #[]
  cf := some (fileOf pool6 1 #[] #[] 1537 3 #[] #[])
  fields := #[]
  methods := #[]
  instanceTypes := #[]
  staticTypes := #[]
  resolved := Array.replicate 37 none
  statics := none }

def pool7 : Array CpInfo := pool [(1, .methodref 2 3), (0, .class_ 4), (0, .nameAndType 5 6), (0, u "java/lang/Object"), (0, u "<init>"), (0, u "()V"), (0, .string 8), (0, u ""), (0, .fieldref 10 11), (0, .class_ 12), (0, .nameAndType 13 14), (0, u "java/lang/String"), (0, u "value"), (0, u "[B"), (0, .fieldref 10 16), (0, .nameAndType 17 18), (0, u "coder"), (0, u "B"), (2, u "hash"), (0, u "I"), (2, u "hashIsZero"), (0, u "Z"), (0, .methodref 10 28), (0, .nameAndType 5 29), (0, u "([CIILjava/lang/Void;)V"), (8, .fieldref 10 39), (0, .nameAndType 40 26), (0, u "COMPACT_STRINGS"), (1, .class_ 44), (1, u "java/lang/StringUTF16"), (0, u "compress"), (1, .methodref 42 48), (0, .nameAndType 49 50), (0, u "coderFromArrayLen"), (0, u "([BI)B"), (3, .methodref 55 56), (0, .class_ 57), (0, .nameAndType 58 59), (0, u "java/util/Arrays"), (0, u "copyOfRange"), (0, u "([BII)[B"), (47, .class_ 109), (1, u "java/lang/StringLatin1"), (32, u "()Z"), (34, .methodref 42 178), (0, .nameAndType 45 179), (0, u "([CII)[B"), (13, .class_ 195), (1, u "java/lang/System"), (16, .methodref 193 213), (0, .nameAndType 214 215), (0, u "arraycopy"), (0, u "(Ljava/lang/Object;ILjava/lang/Object;II)V"), (118, u "()I"), (0, .methodref 10 336), (0, .nameAndType 17 337), (0, u "()B"), (2, u "()[B"), (22, u "([BI)C"), (27, u "(II)V"), (35, u "(I)C"), (61, .methodref 10 490), (0, .nameAndType 5 491), (0, u "(Ljava/lang/AbstractStringBuilder;Ljava/lang/Void;)V"), (0, .methodref 10 493), (0, .nameAndType 494 142), (0, u "isLatin1"), (0, .methodref 107 496), (0, .nameAndType 497 363), (0, u "charAt"), (3, u "checkIndex"), (4, .nameAndType 507 334), (0, u "length"), (24, u "getBytes"), (16, .methodref 550 506), (0, .class_ 551), (0, u "java/lang/AbstractStringBuilder"), (0, .methodref 550 553), (0, .nameAndType 554 340), (0, u "getValue"), (20, .class_ 576), (0, u "java/lang/CharSequence"), (22, u "CASE_INSENSITIVE_ORDER"), (0, u "Ljava/util/Comparator;"), (220, u "([BIB)V"), (188, u "([C)V"), (36, .methodref 550 493), (5, .fieldref 1054 1055), (0, .class_ 1056), (0, .nameAndType 1057 1058), (0, u "jdk/internal/util/Preconditions"), (0, u "SIOOBE_FORMATTER"), (0, u "Ljava/util/function/BiFunction;"), (0, .methodref 1054 1060), (0, .nameAndType 501 1061), (0, u "(IILjava/util/function/BiFunction;)I"), (39, u "serialPersistentFields"), (0, u "[Ljava/io/ObjectStreamField;"), (0, .class_ 1104), (0, u "java/lang/String$CaseInsensitiveComparator"), (1, .class_ 1107), (0, u "java/io/Serializable"), (0, .class_ 1109), (0, u "java/lang/Comparable"), (0, .class_ 1111), (0, u "java/lang/constant/Constable"), (0, .class_ 1113), (0, u "java/lang/constant/ConstantDesc"), (2, u "serialVersionUID"), (0, u "J"), (3, u "REPL"), (0, u "C"), (2, u "LATIN1"), (1, u "UTF16"), (105, u "(Ljava/lang/StringBuilder;)V")] 217

def k7m0 : Method := { name := "<init>", desc := "()V", sig := { parameters := [], returnType := none }, accessFlags := 1, code := none }
def k7c1 : Code := { maxStack := 5, maxLocals := 2, code := jdk_42_method_3_code, exceptionTable := #[], attributes := #[] }
def k7m1 : Method := { name := "<init>", desc := "([C)V", sig := { parameters := [(.array .char)], returnType := none }, accessFlags := 1, code := some k7c1 }
def k7c2 : Code := { maxStack := 3, maxLocals := 2, code := jdk_42_method_53_code, exceptionTable := #[], attributes := #[] }
def k7m2 : Method := { name := "<init>", desc := "(Ljava/lang/StringBuilder;)V", sig := { parameters := [(.object "java/lang/StringBuilder")], returnType := none }, accessFlags := 1, code := some k7c2 }
def k7c3 : Code := { maxStack := 2, maxLocals := 1, code := jdk_42_method_54_code, exceptionTable := #[], attributes := #[] }
def k7m3 : Method := { name := "length", desc := "()I", sig := { parameters := [], returnType := some .int }, accessFlags := 1, code := some k7c3 }
def k7c4 : Code := { maxStack := 2, maxLocals := 2, code := jdk_42_method_56_code, exceptionTable := #[], attributes := #[] }
def k7m4 : Method := { name := "charAt", desc := "(I)C", sig := { parameters := [.int], returnType := some .char }, accessFlags := 1, code := some k7c4 }
def k7c5 : Code := { maxStack := 5, maxLocals := 4, code := jdk_42_method_147_code, exceptionTable := #[], attributes := #[] }
def k7m5 : Method := { name := "getBytes", desc := "([BIB)V", sig := { parameters := [(.array .byte), .int, .byte], returnType := none }, accessFlags := 0, code := some k7c5 }
def k7c6 : Code := { maxStack := 4, maxLocals := 6, code := jdk_42_method_149_code, exceptionTable := #[], attributes := #[] }
def k7m6 : Method := { name := "<init>", desc := "([CIILjava/lang/Void;)V", sig := { parameters := [(.array .char), .int, .int, (.object "java/lang/Void")], returnType := none }, accessFlags := 2, code := some k7c6 }
def k7c7 : Code := { maxStack := 5, maxLocals := 5, code := jdk_42_method_150_code, exceptionTable := #[], attributes := #[] }
def k7m7 : Method := { name := "<init>", desc := "(Ljava/lang/AbstractStringBuilder;Ljava/lang/Void;)V", sig := { parameters := [(.object "java/lang/AbstractStringBuilder"), (.object "java/lang/Void")], returnType := none }, accessFlags := 0, code := some k7c7 }
def k7c8 : Code := { maxStack := 1, maxLocals := 1, code := jdk_42_method_152_code, exceptionTable := #[], attributes := #[] }
def k7m8 : Method := { name := "coder", desc := "()B", sig := { parameters := [], returnType := some .byte }, accessFlags := 0, code := some k7c8 }
def k7c9 : Code := { maxStack := 1, maxLocals := 1, code := jdk_42_method_154_code, exceptionTable := #[], attributes := #[] }
def k7m9 : Method := { name := "isLatin1", desc := "()Z", sig := { parameters := [], returnType := some .boolean }, accessFlags := 0, code := some k7c9 }
def k7c10 : Code := { maxStack := 3, maxLocals := 2, code := jdk_42_method_155_code, exceptionTable := #[], attributes := #[] }
def k7m10 : Method := { name := "checkIndex", desc := "(II)V", sig := { parameters := [.int, .int], returnType := none }, accessFlags := 8, code := some k7c10 }
/-- java/lang/String -/
def k7 : Class := { plain "java/lang/String" (some 0) with
  accessFlags := 49
  interfaces := #[2, 3, 4, 5, 6]
  cf := some (fileOf pool7 10 #[.nestMembers #[1103]] #[{ accessFlags := 1, nameIndex := 5, descriptorIndex := 6, attributes := #[] }, { accessFlags := 1, nameIndex := 5, descriptorIndex := 1010, attributes := #[] }, { accessFlags := 1, nameIndex := 5, descriptorIndex := 1233, attributes := #[] }, { accessFlags := 1, nameIndex := 507, descriptorIndex := 334, attributes := #[] }, { accessFlags := 1, nameIndex := 497, descriptorIndex := 427, attributes := #[] }, { accessFlags := 0, nameIndex := 532, descriptorIndex := 821, attributes := #[] }, { accessFlags := 2, nameIndex := 5, descriptorIndex := 29, attributes := #[] }, { accessFlags := 0, nameIndex := 5, descriptorIndex := 491, attributes := #[] }, { accessFlags := 0, nameIndex := 17, descriptorIndex := 337, attributes := #[] }, { accessFlags := 0, nameIndex := 494, descriptorIndex := 142, attributes := #[] }, { accessFlags := 8, nameIndex := 501, descriptorIndex := 391, attributes := #[] }] 49 2 #[1106, 1108, 575, 1110, 1112] #[{ accessFlags := 18, nameIndex := 13, descriptorIndex := 14, attributes := #[] }, { accessFlags := 18, nameIndex := 17, descriptorIndex := 18, attributes := #[] }, { accessFlags := 2, nameIndex := 21, descriptorIndex := 22, attributes := #[] }, { accessFlags := 2, nameIndex := 25, descriptorIndex := 26, attributes := #[] }, { accessFlags := 26, nameIndex := 1116, descriptorIndex := 1117, attributes := #[] }, { accessFlags := 24, nameIndex := 40, descriptorIndex := 26, attributes := #[] }, { accessFlags := 26, nameIndex := 1101, descriptorIndex := 1102, attributes := #[] }, { accessFlags := 26, nameIndex := 1121, descriptorIndex := 1122, attributes := #[] }, { accessFlags := 25, nameIndex := 599, descriptorIndex := 600, attributes := #[] }, { accessFlags := 24, nameIndex := 1125, descriptorIndex := 18, attributes := #[] }, { accessFlags := 24, nameIndex := 1127, descriptorIndex := 18, attributes := #[] }])
  fields := #[{ name := "value", type := (.array .byte), accessFlags := 18, slot := 0, constantValue := 0 }, { name := "coder", type := .byte, accessFlags := 18, slot := 1, constantValue := 0 }, { name := "hash", type := .int, accessFlags := 2, slot := 2, constantValue := 0 }, { name := "hashIsZero", type := .boolean, accessFlags := 2, slot := 3, constantValue := 0 }, { name := "serialVersionUID", type := .long, accessFlags := 26, slot := 0, constantValue := 0 }, { name := "COMPACT_STRINGS", type := .boolean, accessFlags := 24, slot := 1, constantValue := 0 }, { name := "serialPersistentFields", type := (.array (.object "java/io/ObjectStreamField")), accessFlags := 26, slot := 2, constantValue := 0 }, { name := "REPL", type := .char, accessFlags := 26, slot := 3, constantValue := 0 }, { name := "CASE_INSENSITIVE_ORDER", type := (.object "java/util/Comparator"), accessFlags := 25, slot := 4, constantValue := 0 }, { name := "LATIN1", type := .byte, accessFlags := 24, slot := 5, constantValue := 0 }, { name := "UTF16", type := .byte, accessFlags := 24, slot := 6, constantValue := 0 }]
  methods := #[k7m0, k7m1, k7m2, k7m3, k7m4, k7m5, k7m6, k7m7, k7m8, k7m9, k7m10]
  instanceTypes := #[(.array .byte), .byte, .int, .boolean]
  staticTypes := #[.long, .boolean, (.array (.object "java/io/ObjectStreamField")), .char, (.object "java/util/Comparator"), .byte, .byte]
  resolved := Array.replicate 1451 none
  statics := some 0 }

def pool8 : Array CpInfo := pool [(2, .class_ 4), (0, .nameAndType 5 6), (0, u "java/lang/Object"), (0, u "<init>"), (0, u "()V"), (18, .class_ 26), (0, u "java/lang/StringBuilder"), (0, .methodref 25 3), (2, .methodref 25 31), (0, .nameAndType 32 33), (0, u "append"), (0, u "(Ljava/lang/String;)Ljava/lang/StringBuilder;"), (2, .methodref 25 37), (0, .nameAndType 38 39), (0, u "toString"), (0, u "()Ljava/lang/String;"), (1, .nameAndType 5 42), (0, u "(Ljava/lang/String;)V"), (43, .class_ 88), (1, u "com/example/keelrate/keelrate/cli/InputFile$Parser"), (5, .class_ 96), (1, u "com/example/keelrate/keelrate/cli/InputFile"), (0, u "notUtf8"), (0, u "(Ljava/lang/String;)Lcom/example/keelrate/keelrate/InputRefusedException;"), (0, .class_ 100), (0, u "com/example/keelrate/keelrate/InputRefusedException"), (1, .methodref 99 41), (0, .string 104), (0, u ": not UTF-8 text")] 15

def k8m0 : Method := { name := "<init>", desc := "()V", sig := { parameters := [], returnType := none }, accessFlags := 2, code := none }
def k8c1 : Code := { maxStack := 4, maxLocals := 1, code := prog_20_method_3_code, exceptionTable := #[], attributes := #[] }
def k8m1 : Method := { name := "notUtf8", desc := "(Ljava/lang/String;)Lcom/example/keelrate/keelrate/InputRefusedException;", sig := { parameters := [(.object "java/lang/String")], returnType := some (.object "com/example/keelrate/keelrate/InputRefusedException") }, accessFlags := 8, code := some k8c1 }
/-- com/example/keelrate/keelrate/cli/InputFile -/
def k8 : Class := { plain "com/example/keelrate/keelrate/cli/InputFile" (some 0) with
  accessFlags := 48
  interfaces := #[]
  cf := some (fileOf pool8 94 #[.nestMembers #[86]] #[{ accessFlags := 2, nameIndex := 5, descriptorIndex := 6, attributes := #[] }, { accessFlags := 8, nameIndex := 97, descriptorIndex := 98, attributes := #[] }] 48 2 #[] #[])
  fields := #[]
  methods := #[k8m0, k8m1]
  instanceTypes := #[]
  staticTypes := #[]
  resolved := Array.replicate 120 none
  statics := none }

def pool9 : Array CpInfo := pool [(1, .methodref 2 3), (0, .class_ 4), (0, .nameAndType 5 6), (0, u "java/lang/Object"), (0, u "<init>"), (0, u "()V"), (0, .fieldref 8 9), (0, .class_ 10), (0, .nameAndType 11 12), (0, u "java/lang/Throwable"), (0, u "cause"), (0, u "Ljava/lang/Throwable;"), (0, .fieldref 8 14), (0, .nameAndType 15 16), (0, u "UNASSIGNED_STACK"), (0, u "[Ljava/lang/StackTraceElement;"), (0, .fieldref 8 18), (0, .nameAndType 19 16), (0, u "stackTrace"), (0, .fieldref 8 21), (0, .nameAndType 22 23), (0, u "SUPPRESSED_SENTINEL"), (0, u "Ljava/util/List;"), (0, .fieldref 8 25), (0, .nameAndType 26 23), (0, u "suppressedExceptions"), (0, .methodref 8 28), (0, .nameAndType 29 30), (0, u "fillInStackTrace"), (0, u "()Ljava/lang/Throwable;"), (0, .fieldref 8 32), (0, .nameAndType 33 34), (0, u "detailMessage"), (0, u "Ljava/lang/String;"), (3, u "()Ljava/lang/String;"), (2, u "getMessage"), (51, .class_ 94), (0, u "java/lang/Throwable$WrappedPrintStream"), (6, .class_ 103), (1, u "java/lang/Throwable$PrintStreamOrWriter"), (61, u "$assertionsDisabled"), (0, u "Z"), (26, .class_ 194), (0, u "java/lang/Throwable$WrappedPrintWriter"), (3, .fieldref 8 199), (0, .nameAndType 200 201), (0, u "backtrace"), (0, u "Ljava/lang/Object;"), (0, .methodref 8 203), (0, .nameAndType 29 204), (0, u "(I)Ljava/lang/Throwable;"), (6, u "depth"), (0, u "I"), (10, u "(Ljava/lang/String;)V"), (45, .class_ 271), (1, u "java/lang/Throwable$SentinelHolder"), (32, u "EMPTY_THROWABLE_ARRAY"), (0, u "[Ljava/lang/Throwable;"), (12, .class_ 319), (0, u "java/io/Serializable"), (0, u "serialVersionUID"), (0, u "J"), (5, u "NULL_CAUSE_MESSAGE"), (0, u "SELF_SUPPRESSION_MESSAGE"), (0, u "CAUSE_CAPTION"), (0, u "SUPPRESSED_CAPTION")] 73

def k9c0 : Code := { maxStack := 2, maxLocals := 1, code := jdk_78_method_1_code, exceptionTable := #[], attributes := #[] }
def k9m0 : Method := { name := "<init>", desc := "()V", sig := { parameters := [], returnType := none }, accessFlags := 1, code := some k9c0 }
def k9c1 : Code := { maxStack := 2, maxLocals := 2, code := jdk_78_method_2_code, exceptionTable := #[], attributes := #[] }
def k9m1 : Method := { name := "<init>", desc := "(Ljava/lang/String;)V", sig := { parameters := [(.object "java/lang/String")], returnType := none }, accessFlags := 1, code := some k9c1 }
def k9c2 : Code := { maxStack := 1, maxLocals := 1, code := jdk_78_method_6_code, exceptionTable := #[], attributes := #[] }
def k9m2 : Method := { name := "getMessage", desc := "()Ljava/lang/String;", sig := { parameters := [], returnType := some (.object "java/lang/String") }, accessFlags := 1, code := some k9c2 }
def k9c3 : Code := { maxStack := 2, maxLocals := 1, code := ⟨#[0x2a, 0xb4, 0x00, 0x11, 0xc7, 0x00, 0x0a, 0x2a, 0xb4, 0x00, 0xc6, 0xc6, 0x00, 0x10, 0x2a, 0x03, 0xb6, 0x00, 0xca, 0x57, 0x2a, 0xb2, 0x00, 0x0d, 0xb5, 0x00, 0x11, 0x2a, 0xb0]⟩, exceptionTable := #[], attributes := #[] }
def k9m3 : Method := { name := "fillInStackTrace", desc := "()Ljava/lang/Throwable;", sig := { parameters := [], returnType := some (.object "java/lang/Throwable") }, accessFlags := 33, code := some k9c3 }
def k9m4 : Method := { name := "fillInStackTrace", desc := "(I)Ljava/lang/Throwable;", sig := { parameters := [.int], returnType := some (.object "java/lang/Throwable") }, accessFlags := 258, code := none }
/-- java/lang/Throwable -/
def k9 : Class := { plain "java/lang/Throwable" (some 0) with
  accessFlags := 33
  interfaces := #[2]
  cf := some (fileOf pool9 8 #[.nestMembers #[193, 93, 101, 269]] #[{ accessFlags := 1, nameIndex := 5, descriptorIndex := 6, attributes := #[] }, { accessFlags := 1, nameIndex := 5, descriptorIndex := 223, attributes := #[] }, { accessFlags := 1, nameIndex := 41, descriptorIndex := 38, attributes := #[] }, { accessFlags := 33, nameIndex := 29, descriptorIndex := 30, attributes := #[] }, { accessFlags := 258, nameIndex := 29, descriptorIndex := 204, attributes := #[] }] 33 2 #[318] #[{ accessFlags := 26, nameIndex := 320, descriptorIndex := 321, attributes := #[] }, { accessFlags := 130, nameIndex := 200, descriptorIndex := 201, attributes := #[] }, { accessFlags := 2, nameIndex := 33, descriptorIndex := 34, attributes := #[] }, { accessFlags := 26, nameIndex := 15, descriptorIndex := 16, attributes := #[] }, { accessFlags := 2, nameIndex := 11, descriptorIndex := 12, attributes := #[] }, { accessFlags := 2, nameIndex := 19, descriptorIndex := 16, attributes := #[] }, { accessFlags := 130, nameIndex := 211, descriptorIndex := 212, attributes := #[] }, { accessFlags := 26, nameIndex := 22, descriptorIndex := 23, attributes := #[] }, { accessFlags := 2, nameIndex := 26, descriptorIndex := 23, attributes := #[] }, { accessFlags := 26, nameIndex := 327, descriptorIndex := 34, attributes := #[] }, { accessFlags := 26, nameIndex := 328, descriptorIndex := 34, attributes := #[] }, { accessFlags := 26, nameIndex := 329, descriptorIndex := 34, attributes := #[] }, { accessFlags := 26, nameIndex := 330, descriptorIndex := 34, attributes := #[] }, { accessFlags := 26, nameIndex := 304, descriptorIndex := 305, attributes := #[] }, { accessFlags := 4120, nameIndex := 165, descriptorIndex := 166, attributes := #[] }])
  fields := #[{ name := "serialVersionUID", type := .long, accessFlags := 26, slot := 0, constantValue := 0 }, { name := "backtrace", type := (.object "java/lang/Object"), accessFlags := 130, slot := 0, constantValue := 0 }, { name := "detailMessage", type := (.object "java/lang/String"), accessFlags := 2, slot := 1, constantValue := 0 }, { name := "UNASSIGNED_STACK", type := (.array (.object "java/lang/StackTraceElement")), accessFlags := 26, slot := 1, constantValue := 0 }, { name := "cause", type := (.object "java/lang/Throwable"), accessFlags := 2, slot := 2, constantValue := 0 }, { name := "stackTrace", type := (.array (.object "java/lang/StackTraceElement")), accessFlags := 2, slot := 3, constantValue := 0 }, { name := "depth", type := .int, accessFlags := 130, slot := 4, constantValue := 0 }, { name := "SUPPRESSED_SENTINEL", type := (.object "java/util/List"), accessFlags := 26, slot := 2, constantValue := 0 }, { name := "suppressedExceptions", type := (.object "java/util/List"), accessFlags := 2, slot := 5, constantValue := 0 }, { name := "NULL_CAUSE_MESSAGE", type := (.object "java/lang/String"), accessFlags := 26, slot := 3, constantValue := 0 }, { name := "SELF_SUPPRESSION_MESSAGE", type := (.object "java/lang/String"), accessFlags := 26, slot := 4, constantValue := 0 }, { name := "CAUSE_CAPTION", type := (.object "java/lang/String"), accessFlags := 26, slot := 5, constantValue := 0 }, { name := "SUPPRESSED_CAPTION", type := (.object "java/lang/String"), accessFlags := 26, slot := 6, constantValue := 0 }, { name := "EMPTY_THROWABLE_ARRAY", type := (.array (.object "java/lang/Throwable")), accessFlags := 26, slot := 7, constantValue := 0 }, { name := "$assertionsDisabled", type := .boolean, accessFlags := 4120, slot := 8, constantValue := 0 }]
  methods := #[k9m0, k9m1, k9m2, k9m3, k9m4]
  instanceTypes := #[(.object "java/lang/Object"), (.object "java/lang/String"), (.object "java/lang/Throwable"), (.array (.object "java/lang/StackTraceElement")), .int, (.object "java/util/List")]
  staticTypes := #[.long, (.array (.object "java/lang/StackTraceElement")), (.object "java/util/List"), (.object "java/lang/String"), (.object "java/lang/String"), (.object "java/lang/String"), (.object "java/lang/String"), (.array (.object "java/lang/Throwable")), .boolean]
  resolved := Array.replicate 404 none
  statics := some 1 }

def pool10 : Array CpInfo := pool [(2, .class_ 4), (1, u "java/lang/Throwable"), (0, u "<init>"), (0, u "()V"), (0, .methodref 2 8), (0, .nameAndType 5 9), (0, u "(Ljava/lang/String;)V"), (9, .class_ 20), (0, u "java/lang/Exception"), (0, u "serialVersionUID"), (0, u "J")] 17

def k10m0 : Method := { name := "<init>", desc := "()V", sig := { parameters := [], returnType := none }, accessFlags := 1, code := none }
def k10c1 : Code := { maxStack := 2, maxLocals := 2, code := jdk_59_method_2_code, exceptionTable := #[], attributes := #[] }
def k10m1 : Method := { name := "<init>", desc := "(Ljava/lang/String;)V", sig := { parameters := [(.object "java/lang/String")], returnType := none }, accessFlags := 1, code := some k10c1 }
/-- java/lang/Exception -/
def k10 : Class := { plain "java/lang/Exception" (some 9) with
  accessFlags := 33
  interfaces := #[]
  cf := some (fileOf pool10 19 #[] #[{ accessFlags := 1, nameIndex := 5, descriptorIndex := 6, attributes := #[] }, { accessFlags := 1, nameIndex := 5, descriptorIndex := 9, attributes := #[] }] 33 2 #[] #[{ accessFlags := 24, nameIndex := 21, descriptorIndex := 22, attributes := #[] }])
  fields := #[{ name := "serialVersionUID", type := .long, accessFlags := 24, slot := 0, constantValue := 0 }]
  methods := #[k10m0, k10m1]
  instanceTypes := #[(.object "java/lang/Object"), (.object "java/lang/String"), (.object "java/lang/Throwable"), (.array (.object "java/lang/StackTraceElement")), .int, (.object "java/util/List")]
  staticTypes := #[.long]
  resolved := Array.replicate 40 none
  statics := none }

def pool11 : Array CpInfo := pool [(1, .methodref 2 3), (0, .class_ 4), (0, .nameAndType 5 6), (0, u "java/lang/Exception"), (0, u "<init>"), (0, u "(Ljava/lang/String;)V"), (0, .class_ 8), (0, u "com/example/keelrate/keelrate/InputRefusedException"), (0, u "serialVersionUID"), (0, u "J")] 7

def k11c0 : Code := { maxStack := 2, maxLocals := 2, code := prog_9_method_1_code, exceptionTable := #[], attributes := #[] }
def k11m0 : Method := { name := "<init>", desc := "(Ljava/lang/String;)V", sig := { parameters := [(.object "java/lang/String")], returnType := none }, accessFlags := 1, code := some k11c0 }
/-- com/example/keelrate/keelrate/InputRefusedException -/
def k11 : Class := { plain "com/example/keelrate/keelrate/InputRefusedException" (some 10) with
  accessFlags := 49
  interfaces := #[]
  cf := some (fileOf pool11 7 #[] #[{ accessFlags := 1, nameIndex := 5, descriptorIndex := 6, attributes := #[] }] 49 2 #[] #[{ accessFlags := 26, nameIndex := 9, descriptorIndex := 10, attributes := #[] }])
  fields := #[{ name := "serialVersionUID", type := .long, accessFlags := 26, slot := 0, constantValue := 0 }]
  methods := #[k11m0]
  instanceTypes := #[(.object "java/lang/Object"), (.object "java/lang/String"), (.object "java/lang/Throwable"), (.array (.object "java/lang/StackTraceElement")), .int, (.object "java/util/List")]
  staticTypes := #[.long]
  resolved := Array.replicate 18 none
  statics := none }

def pool12 : Array CpInfo := pool [(1, .class_ 2), (0, u "java/lang/Appendable"), (0, .class_ 4), (0, u "java/lang/Object")] 9

/-- java/lang/Appendable -/
def k12 : Class := { plain "java/lang/Appendable" (some 0) with
  accessFlags := 1537
  interfaces := #[]
  cf := some (fileOf pool12 1 #[] #[] 1537 3 #[] #[])
  fields := #[]
  methods := #[]
  instanceTypes := #[]
  staticTypes := #[]
  resolved := Array.replicate 14 none
  statics := none }

def pool13 : Array CpInfo := pool [(1, .class_ 2), (0, u "java/lang/String"), (0, .methodref 4 5), (0, .class_ 6), (0, .nameAndType 7 8), (0, u "java/lang/Object"), (0, u "<init>"), (0, u "()V"), (1, .class_ 12), (1, u "java/lang/AbstractStringBuilder"), (0, u "EMPTYVALUE"), (0, u "[B"), (0, .fieldref 10 16), (0, .nameAndType 17 14), (0, u "value"), (0, .fieldref 1 19), (0, .nameAndType 20 21), (0, u "COMPACT_STRINGS"), (0, u "Z"), (0, .fieldref 10 23), (0, .nameAndType 24 25), (0, u "coder"), (0, u "B"), (6, .methodref 1 33), (0, .nameAndType 34 35), (0, u "length"), (0, u "()I"), (3, .integer 2147483647), (0, .methodref 1 41), (0, .nameAndType 24 42), (0, u "()B"), (2, u "append"), (0, u "(Ljava/lang/String;)Ljava/lang/AbstractStringBuilder;"), (1, .class_ 49), (0, u "java/lang/CharSequence"), (19, u "(Ljava/lang/String;)V"), (5, u "maybeLatin1"), (3, .fieldref 10 80), (0, .nameAndType 81 82), (0, u "count"), (0, u "I"), (2, u "isLatin1"), (0, u "()Z"), (13, .methodref 10 101), (0, .nameAndType 102 103), (0, u "ensureCapacityInternal"), (0, u "(I)V"), (0, .methodref 10 105), (0, .nameAndType 106 107), (0, u "newCapacity"), (0, u "(I)I"), (0, .methodref 109 110), (0, .class_ 111), (0, .nameAndType 112 113), (0, u "java/util/Arrays"), (0, u "copyOf"), (0, u "([BI)[B"), (0, .methodref 115 116), (0, .class_ 117), (0, .nameAndType 118 119), (0, u "jdk/internal/util/ArraysSupport"), (0, u "newLength"), (0, u "(III)I"), (88, .methodref 10 209), (0, .nameAndType 210 211), (0, u "putStringAt"), (0, u "(ILjava/lang/String;)V"), (5, u "inflateIfNeededFor"), (2, .nameAndType 221 222), (0, u "getBytes"), (0, u "([BIB)V"), (174, .methodref 10 398), (0, .nameAndType 217 69), (0, .methodref 1 220), (3, u "()[B"), (40, .class_ 445), (0, u "java/lang/Appendable"), (106, u "getValue")] 56

def k13m0 : Method := { name := "<init>", desc := "()V", sig := { parameters := [], returnType := none }, accessFlags := 0, code := none }
def k13c1 : Code := { maxStack := 2, maxLocals := 2, code := jdk_68_method_2_code, exceptionTable := #[], attributes := #[] }
def k13m1 : Method := { name := "<init>", desc := "(I)V", sig := { parameters := [.int], returnType := none }, accessFlags := 0, code := some k13c1 }
def k13c2 : Code := { maxStack := 1, maxLocals := 1, code := jdk_68_method_6_code, exceptionTable := #[], attributes := #[] }
def k13m2 : Method := { name := "length", desc := "()I", sig := { parameters := [], returnType := some .int }, accessFlags := 1, code := some k13c2 }
def k13c3 : Code := { maxStack := 4, maxLocals := 3, code := jdk_68_method_9_code, exceptionTable := #[], attributes := #[] }
def k13m3 : Method := { name := "ensureCapacityInternal", desc := "(I)V", sig := { parameters := [.int], returnType := none }, accessFlags := 2, code := some k13c3 }
def k13c4 : Code := { maxStack := 5, maxLocals := 6, code := jdk_68_method_10_code, exceptionTable := #[], attributes := #[] }
def k13m4 : Method := { name := "newCapacity", desc := "(I)I", sig := { parameters := [.int], returnType := some .int }, accessFlags := 2, code := some k13c4 }
def k13c5 : Code := { maxStack := 3, maxLocals := 3, code := jdk_68_method_22_code, exceptionTable := #[], attributes := #[] }
def k13m5 : Method := { name := "append", desc := "(Ljava/lang/String;)Ljava/lang/AbstractStringBuilder;", sig := { parameters := [(.object "java/lang/String")], returnType := some (.object "java/lang/AbstractStringBuilder") }, accessFlags := 1, code := some k13c5 }
def k13c6 : Code := { maxStack := 1, maxLocals := 1, code := jdk_68_method_64_code, exceptionTable := #[], attributes := #[] }
def k13m6 : Method := { name := "getValue", desc := "()[B", sig := { parameters := [], returnType := some (.array .byte) }, accessFlags := 16, code := some k13c6 }
def k13c7 : Code := { maxStack := 1, maxLocals := 1, code := jdk_68_method_68_code, exceptionTable := #[], attributes := #[] }
def k13m7 : Method := { name := "isLatin1", desc := "()Z", sig := { parameters := [], returnType := some .boolean }, accessFlags := 16, code := some k13c7 }
def k13c8 : Code := { maxStack := 2, maxLocals := 2, code := jdk_68_method_71_code, exceptionTable := #[], attributes := #[] }
def k13m8 : Method := { name := "inflateIfNeededFor", desc := "(Ljava/lang/String;)V", sig := { parameters := [(.object "java/lang/String")], returnType := none }, accessFlags := 2, code := some k13c8 }
def k13c9 : Code := { maxStack := 4, maxLocals := 3, code := jdk_68_method_73_code, exceptionTable := #[], attributes := #[] }
def k13m9 : Method := { name := "putStringAt", desc := "(ILjava/lang/String;)V", sig := { parameters := [.int, (.object "java/lang/String")], returnType := none }, accessFlags := 2, code := some k13c9 }
/-- java/lang/AbstractStringBuilder -/
def k13 : Class := { plain "java/lang/AbstractStringBuilder" (some 0) with
  accessFlags := 1056
  interfaces := #[12, 4]
  cf := some (fileOf pool13 10 #[] #[{ accessFlags := 0, nameIndex := 7, descriptorIndex := 8, attributes := #[] }, { accessFlags := 0, nameIndex := 7, descriptorIndex := 103, attributes := #[] }, { accessFlags := 1, nameIndex := 34, descriptorIndex := 35, attributes := #[] }, { accessFlags := 2, nameIndex := 102, descriptorIndex := 103, attributes := #[] }, { accessFlags := 2, nameIndex := 106, descriptorIndex := 107, attributes := #[] }, { accessFlags := 1, nameIndex := 45, descriptorIndex := 46, attributes := #[] }, { accessFlags := 16, nameIndex := 552, descriptorIndex := 403, attributes := #[] }, { accessFlags := 16, nameIndex := 85, descriptorIndex := 86, attributes := #[] }, { accessFlags := 2, nameIndex := 217, descriptorIndex := 69, attributes := #[] }, { accessFlags := 2, nameIndex := 210, descriptorIndex := 211, attributes := #[] }] 1056 4 #[444, 48] #[{ accessFlags := 0, nameIndex := 17, descriptorIndex := 14, attributes := #[] }, { accessFlags := 0, nameIndex := 24, descriptorIndex := 25, attributes := #[] }, { accessFlags := 0, nameIndex := 75, descriptorIndex := 21, attributes := #[] }, { accessFlags := 0, nameIndex := 81, descriptorIndex := 82, attributes := #[] }, { accessFlags := 26, nameIndex := 13, descriptorIndex := 14, attributes := #[] }])
  fields := #[{ name := "value", type := (.array .byte), accessFlags := 0, slot := 0, constantValue := 0 }, { name := "coder", type := .byte, accessFlags := 0, slot := 1, constantValue := 0 }, { name := "maybeLatin1", type := .boolean, accessFlags := 0, slot := 2, constantValue := 0 }, { name := "count", type := .int, accessFlags := 0, slot := 3, constantValue := 0 }, { name := "EMPTYVALUE", type := (.array .byte), accessFlags := 26, slot := 0, constantValue := 0 }]
  methods := #[k13m0, k13m1, k13m2, k13m3, k13m4, k13m5, k13m6, k13m7, k13m8, k13m9]
  instanceTypes := #[(.array .byte), .byte, .boolean, .int]
  staticTypes := #[(.array .byte)]
  resolved := Array.replicate 609 none
  statics := none }

def pool14 : Array CpInfo := pool [(1, .methodref 2 3), (0, .class_ 4), (0, .nameAndType 5 6), (0, u "java/lang/AbstractStringBuilder"), (0, u "<init>"), (0, u "(I)V"), (11, .class_ 20), (1, u "java/lang/String"), (3, .class_ 26), (1, u "java/lang/StringBuilder"), (0, u "append"), (0, u "(Ljava/lang/String;)Ljava/lang/StringBuilder;"), (0, .methodref 2 30), (0, .nameAndType 27 31), (0, u "(Ljava/lang/String;)Ljava/lang/AbstractStringBuilder;"), (105, .methodref 18 138), (0, .nameAndType 5 139), (0, u "(Ljava/lang/StringBuilder;)V"), (5, u "()V"), (10, u "()I"), (186, .methodref 2 344), (0, .nameAndType 345 156), (0, u "length"), (3, .class_ 350), (0, u "java/lang/Appendable"), (0, .class_ 352), (0, u "java/io/Serializable"), (0, .class_ 354), (0, u "java/lang/Comparable"), (0, .class_ 356), (0, u "java/lang/CharSequence"), (0, u "serialVersionUID"), (0, u "J"), (40, u "toString"), (0, u "()Ljava/lang/String;")] 21

def k14c0 : Code := { maxStack := 2, maxLocals := 1, code := jdk_67_method_1_code, exceptionTable := #[], attributes := #[] }
def k14m0 : Method := { name := "<init>", desc := "()V", sig := { parameters := [], returnType := none }, accessFlags := 1, code := some k14c0 }
def k14c1 : Code := { maxStack := 2, maxLocals := 2, code := jdk_67_method_7_code, exceptionTable := #[], attributes := #[] }
def k14m1 : Method := { name := "append", desc := "(Ljava/lang/String;)Ljava/lang/StringBuilder;", sig := { parameters := [(.object "java/lang/String")], returnType := some (.object "java/lang/StringBuilder") }, accessFlags := 1, code := some k14c1 }
def k14c2 : Code := { maxStack := 3, maxLocals := 1, code := jdk_67_method_42_code, exceptionTable := #[], attributes := #[] }
def k14m2 : Method := { name := "toString", desc := "()Ljava/lang/String;", sig := { parameters := [], returnType := some (.object "java/lang/String") }, accessFlags := 1, code := some k14c2 }
def k14c3 : Code := { maxStack := 1, maxLocals := 1, code := jdk_67_method_93_code, exceptionTable := #[], attributes := #[] }
def k14m3 : Method := { name := "length", desc := "()I", sig := { parameters := [], returnType := some .int }, accessFlags := 4161, code := some k14c3 }
/-- java/lang/StringBuilder -/
def k14 : Class := { plain "java/lang/StringBuilder" (some 13) with
  accessFlags := 49
  interfaces := #[12, 2, 3, 4]
  cf := some (fileOf pool14 24 #[] #[{ accessFlags := 1, nameIndex := 5, descriptorIndex := 145, attributes := #[] }, { accessFlags := 1, nameIndex := 27, descriptorIndex := 28, attributes := #[] }, { accessFlags := 1, nameIndex := 399, descriptorIndex := 400, attributes := #[] }, { accessFlags := 4161, nameIndex := 345, descriptorIndex := 156, attributes := #[] }] 49 2 #[349, 351, 353, 355] #[{ accessFlags := 24, nameIndex := 357, descriptorIndex := 358, attributes := #[] }])
  fields := #[{ name := "serialVersionUID", type := .long, accessFlags := 24, slot := 0, constantValue := 0 }]
  methods := #[k14m0, k14m1, k14m2, k14m3]
  instanceTypes := #[(.array .byte), .byte, .boolean, .int]
  staticTypes := #[.long]
  resolved := Array.replicate 422 none
  statics := none }

def pool15 : Array CpInfo := pool [(2, .class_ 4), (1, u "java/lang/Object"), (0, u "<init>"), (0, u "()V"), (1, .class_ 10), (1, u "java/lang/System"), (0, u "allowSecurityManager"), (0, u "I"), (16, u "cons"), (0, u "Ljava/io/Console;"), (77, .class_ 110), (1, u "java/lang/System$CallersHolder"), (43, u "initialErrStream"), (0, u "Ljava/io/PrintStream;"), (19, u "security"), (0, u "Ljava/lang/SecurityManager;"), (31, .class_ 209), (0, u "java/lang/System$1"), (7, u "props"), (0, u "Ljava/util/Properties;"), (2, u "lineSeparator"), (0, u "Ljava/lang/String;"), (96, .class_ 321), (1, u "java/lang/System$LoggerFinder"), (5, .class_ 328), (0, u "java/lang/System$Logger"), (67, u "err"), (2, u "out"), (91, u "notSupportedJnuEncoding"), (15, u "in"), (17, u "initialIn"), (0, u "Ljava/io/InputStream;"), (35, u "bootLayer"), (0, u "Ljava/lang/ModuleLayer;"), (99, .class_ 664), (0, u "java/lang/System$2"), (9, u "NEVER"), (2, u "MAYBE"), (49, u "arraycopy"), (0, u "(Ljava/lang/Object;ILjava/lang/Object;II)V"), (72, .class_ 802), (0, u "java/lang/System$Logger$Level")] 31

def k15m0 : Method := { name := "<init>", desc := "()V", sig := { parameters := [], returnType := none }, accessFlags := 2, code := none }
def k15m1 : Method := { name := "arraycopy", desc := "(Ljava/lang/Object;ILjava/lang/Object;II)V", sig := { parameters := [(.object "java/lang/Object"), .int, (.object "java/lang/Object"), .int, .int], returnType := none }, accessFlags := 265, code := none }
/-- java/lang/System -/
def k15 : Class := { plain "java/lang/System" (some 0) with
  accessFlags := 49
  interfaces := #[]
  cf := some (fileOf pool15 8 #[.nestMembers #[319, 327, 801, 108, 663, 208]] #[{ accessFlags := 2, nameIndex := 5, descriptorIndex := 6, attributes := #[] }, { accessFlags := 265, nameIndex := 727, descriptorIndex := 728, attributes := #[] }] 49 2 #[] #[{ accessFlags := 25, nameIndex := 507, descriptorIndex := 526, attributes := #[] }, { accessFlags := 25, nameIndex := 399, descriptorIndex := 155, attributes := #[] }, { accessFlags := 25, nameIndex := 396, descriptorIndex := 155, attributes := #[] }, { accessFlags := 10, nameIndex := 525, descriptorIndex := 526, attributes := #[] }, { accessFlags := 26, nameIndex := 674, descriptorIndex := 12, attributes := #[] }, { accessFlags := 26, nameIndex := 677, descriptorIndex := 12, attributes := #[] }, { accessFlags := 10, nameIndex := 11, descriptorIndex := 12, attributes := #[] }, { accessFlags := 74, nameIndex := 175, descriptorIndex := 176, attributes := #[] }, { accessFlags := 10, nameIndex := 491, descriptorIndex := 222, attributes := #[] }, { accessFlags := 74, nameIndex := 29, descriptorIndex := 30, attributes := #[] }, { accessFlags := 74, nameIndex := 154, descriptorIndex := 155, attributes := #[] }, { accessFlags := 10, nameIndex := 217, descriptorIndex := 218, attributes := #[] }, { accessFlags := 10, nameIndex := 221, descriptorIndex := 222, attributes := #[] }, { accessFlags := 8, nameIndex := 562, descriptorIndex := 563, attributes := #[] }])
  fields := #[{ name := "in", type := (.object "java/io/InputStream"), accessFlags := 25, slot := 0, constantValue := 0 }, { name := "out", type := (.object "java/io/PrintStream"), accessFlags := 25, slot := 1, constantValue := 0 }, { name := "err", type := (.object "java/io/PrintStream"), accessFlags := 25, slot := 2, constantValue := 0 }, { name := "initialIn", type := (.object "java/io/InputStream"), accessFlags := 10, slot := 3, constantValue := 0 }, { name := "NEVER", type := .int, accessFlags := 26, slot := 4, constantValue := 0 }, { name := "MAYBE", type := .int, accessFlags := 26, slot := 5, constantValue := 0 }, { name := "allowSecurityManager", type := .int, accessFlags := 10, slot := 6, constantValue := 0 }, { name := "security", type := (.object "java/lang/SecurityManager"), accessFlags := 74, slot := 7, constantValue := 0 }, { name := "notSupportedJnuEncoding", type := (.object "java/lang/String"), accessFlags := 10, slot := 8, constantValue := 0 }, { name := "cons", type := (.object "java/io/Console"), accessFlags := 74, slot := 9, constantValue := 0 }, { name := "initialErrStream", type := (.object "java/io/PrintStream"), accessFlags := 74, slot := 10, constantValue := 0 }, { name := "props", type := (.object "java/util/Properties"), accessFlags := 10, slot := 11, constantValue := 0 }, { name := "lineSeparator", type := (.object "java/lang/String"), accessFlags := 10, slot := 12, constantValue := 0 }, { name := "bootLayer", type := (.object "java/lang/ModuleLayer"), accessFlags := 8, slot := 13, constantValue := 0 }]
  methods := #[k15m0, k15m1]
  instanceTypes := #[]
  staticTypes := #[(.object "java/io/InputStream"), (.object "java/io/PrintStream"), (.object "java/io/PrintStream"), (.object "java/io/InputStream"), .int, .int, .int, (.object "java/lang/SecurityManager"), (.object "java/lang/String"), (.object "java/io/Console"), (.object "java/io/PrintStream"), (.object "java/util/Properties"), (.object "java/lang/String"), (.object "java/lang/ModuleLayer")]
  resolved := Array.replicate 834 none
  statics := none }

def pool16 : Array CpInfo := pool [(2, .class_ 4), (1, u "java/lang/Object"), (0, u "<init>"), (0, u "()V"), (7, .class_ 16), (1, u "java/util/Arrays"), (57, .class_ 76), (1, u "java/util/Arrays$NaturalOrder"), (32, u "()Ljava/lang/Object;"), (3, .class_ 115), (1, u "java/util/Arrays$LegacyMergeSort"), (1, u "Z"), (10, .nameAndType 129 109), (0, u "clone"), (9, u "copyOfRange"), (10, .methodref 151 152), (0, .class_ 153), (0, .nameAndType 154 155), (0, u "java/lang/System"), (0, u "arraycopy"), (0, u "(Ljava/lang/Object;ILjava/lang/Object;II)V"), (146, u "copyOf"), (1, .methodref 305 306), (0, .class_ 307), (0, .nameAndType 308 309), (0, u "java/lang/Math"), (0, u "min"), (0, u "(II)I"), (0, .methodref 311 128), (0, .class_ 312), (0, u "[B"), (26, .methodref 14 340), (0, .nameAndType 341 342), (0, u "copyOfRangeByte"), (0, u "([BII)[B"), (0, .methodref 14 344), (0, .nameAndType 345 346), (0, u "checkLength"), (0, u "(II)V"), (28, .class_ 376), (0, u "java/util/Arrays$ArrayList"), (68, u "$assertionsDisabled"), (269, u "MIN_ARRAY_SORT_GRAN"), (0, u "I"), (2, u "INSERTIONSORT_THRESHOLD"), (149, u "([BI)[B"), (105, .class_ 976), (0, u "java/util/Arrays$ArrayItr")] 52

def k16m0 : Method := { name := "<init>", desc := "()V", sig := { parameters := [], returnType := none }, accessFlags := 2, code := none }
def k16c1 : Code := { maxStack := 6, maxLocals := 3, code := jdk_65_method_121_code, exceptionTable := #[], attributes := #[] }
def k16m1 : Method := { name := "copyOf", desc := "([BI)[B", sig := { parameters := [(.array .byte), .int], returnType := some (.array .byte) }, accessFlags := 9, code := some k16c1 }
def k16c2 : Code := { maxStack := 4, maxLocals := 2, code := jdk_65_method_131_code, exceptionTable := #[], attributes := #[] }
def k16m2 : Method := { name := "checkLength", desc := "(II)V", sig := { parameters := [.int, .int], returnType := none }, accessFlags := 10, code := some k16c2 }
def k16c3 : Code := { maxStack := 3, maxLocals := 3, code := jdk_65_method_132_code, exceptionTable := #[], attributes := #[] }
def k16m3 : Method := { name := "copyOfRange", desc := "([BII)[B", sig := { parameters := [(.array .byte), .int, .int], returnType := some (.array .byte) }, accessFlags := 9, code := some k16c3 }
def k16c4 : Code := { maxStack := 6, maxLocals := 5, code := jdk_65_method_133_code, exceptionTable := #[], attributes := #[] }
def k16m4 : Method := { name := "copyOfRangeByte", desc := "([BII)[B", sig := { parameters := [(.array .byte), .int, .int], returnType := some (.array .byte) }, accessFlags := 10, code := some k16c4 }
/-- java/util/Arrays -/
def k16 : Class := { plain "java/util/Arrays" (some 0) with
  accessFlags := 49
  interfaces := #[]
  cf := some (fileOf pool16 14 #[.nestMembers #[975, 375, 113, 74]] #[{ accessFlags := 2, nameIndex := 5, descriptorIndex := 6, attributes := #[] }, { accessFlags := 9, nameIndex := 302, descriptorIndex := 869, attributes := #[] }, { accessFlags := 10, nameIndex := 345, descriptorIndex := 346, attributes := #[] }, { accessFlags := 9, nameIndex := 139, descriptorIndex := 342, attributes := #[] }, { accessFlags := 10, nameIndex := 341, descriptorIndex := 342, attributes := #[] }] 49 2 #[] #[{ accessFlags := 26, nameIndex := 715, descriptorIndex := 716, attributes := #[] }, { accessFlags := 26, nameIndex := 719, descriptorIndex := 716, attributes := #[] }, { accessFlags := 4120, nameIndex := 445, descriptorIndex := 117, attributes := #[] }])
  fields := #[{ name := "MIN_ARRAY_SORT_GRAN", type := .int, accessFlags := 26, slot := 0, constantValue := 0 }, { name := "INSERTIONSORT_THRESHOLD", type := .int, accessFlags := 26, slot := 1, constantValue := 0 }, { name := "$assertionsDisabled", type := .boolean, accessFlags := 4120, slot := 2, constantValue := 0 }]
  methods := #[k16m0, k16m1, k16m2, k16m3, k16m4]
  instanceTypes := #[]
  staticTypes := #[.int, .int, .boolean]
  resolved := Array.replicate 1029 none
  statics := none }

def pool17 : Array CpInfo := pool [(1, .class_ 2), (0, u "java/lang/Cloneable"), (0, .class_ 4), (0, u "java/lang/Object")] 2

/-- java/lang/Cloneable -/
def k17 : Class := { plain "java/lang/Cloneable" (some 0) with
  accessFlags := 1537
  interfaces := #[]
  cf := some (fileOf pool17 1 #[] #[] 1537 3 #[] #[])
  fields := #[]
  methods := #[]
  instanceTypes := #[]
  staticTypes := #[]
  resolved := Array.replicate 7 none
  statics := none }

def pool18 : Array CpInfo := pool [(1, .class_ 2), (0, u "java/lang/String"), (1, .class_ 6), (1, u "java/lang/Object"), (0, u "<init>"), (0, u "()V"), (0, .methodref 1 10), (0, .nameAndType 11 12), (0, u "checkIndex"), (0, u "(II)V"), (1, .class_ 16), (1, u "java/lang/StringLatin1"), (36, u "([BI)C"), (67, u "$assertionsDisabled"), (0, u "Z"), (98, .class_ 223), (1, u "java/lang/StringLatin1$LinesSpliterator"), (28, u "charAt"), (137, .class_ 391), (0, u "java/lang/StringLatin1$CharsSpliterator")] 3

def k18m0 : Method := { name := "<init>", desc := "()V", sig := { parameters := [], returnType := none }, accessFlags := 0, code := none }
def k18c1 : Code := { maxStack := 2, maxLocals := 2, code := jdk_43_method_2_code, exceptionTable := #[], attributes := #[] }
def k18m1 : Method := { name := "charAt", desc := "([BI)C", sig := { parameters := [(.array .byte), .int], returnType := some .char }, accessFlags := 9, code := some k18c1 }
/-- java/lang/StringLatin1 -/
def k18 : Class := { plain "java/lang/StringLatin1" (some 0) with
  accessFlags := 48
  interfaces := #[]
  cf := some (fileOf pool18 14 #[.nestMembers #[390, 221]] #[{ accessFlags := 0, nameIndex := 7, descriptorIndex := 8, attributes := #[] }, { accessFlags := 9, nameIndex := 252, descriptorIndex := 53, attributes := #[] }] 48 4 #[] #[{ accessFlags := 4120, nameIndex := 121, descriptorIndex := 122, attributes := #[] }])
  fields := #[{ name := "$assertionsDisabled", type := .boolean, accessFlags := 4120, slot := 0, constantValue := 0 }]
  methods := #[k18m0, k18m1]
  instanceTypes := #[]
  staticTypes := #[.boolean]
  resolved := Array.replicate 395 none
  statics := none }

def pool19 : Array CpInfo := pool [(2, .class_ 4), (1, u "java/lang/Object"), (0, u "<init>"), (0, u "()V"), (17, .class_ 26), (1, u "jdk/internal/util/Preconditions"), (6, u "checkIndex"), (21, .class_ 56), (0, u "jdk/internal/util/Preconditions$4"), (57, .class_ 115), (0, u "jdk/internal/util/Preconditions$1"), (7, u "SIOOBE_FORMATTER"), (0, u "Ljava/util/function/BiFunction;"), (0, .class_ 126), (0, u "jdk/internal/util/Preconditions$2"), (3, u "AIOOBE_FORMATTER"), (0, .class_ 132), (0, u "jdk/internal/util/Preconditions$3"), (3, u "IOOBE_FORMATTER"), (41, u "(IILjava/util/function/BiFunction;)I")] 15

def k19m0 : Method := { name := "<init>", desc := "()V", sig := { parameters := [], returnType := none }, accessFlags := 1, code := none }
def k19c1 : Code := { maxStack := 3, maxLocals := 3, code := jdk_41_method_11_code, exceptionTable := #[], attributes := #[] }
def k19m1 : Method := { name := "checkIndex", desc := "(IILjava/util/function/BiFunction;)I", sig := { parameters := [.int, .int, (.object "java/util/function/BiFunction")], returnType := some .int }, accessFlags := 9, code := some k19c1 }
/-- jdk/internal/util/Preconditions -/
def k19 : Class := { plain "jdk/internal/util/Preconditions" (some 0) with
  accessFlags := 33
  interfaces := #[]
  cf := some (fileOf pool19 24 #[.nestMembers #[55, 131, 125, 114]] #[{ accessFlags := 1, nameIndex := 5, descriptorIndex := 6, attributes := #[] }, { accessFlags := 9, nameIndex := 33, descriptorIndex := 178, attributes := #[] }] 33 2 #[] #[{ accessFlags := 25, nameIndex := 123, descriptorIndex := 124, attributes := #[] }, { accessFlags := 25, nameIndex := 130, descriptorIndex := 124, attributes := #[] }, { accessFlags := 25, nameIndex := 136, descriptorIndex := 124, attributes := #[] }])
  fields := #[{ name := "SIOOBE_FORMATTER", type := (.object "java/util/function/BiFunction"), accessFlags := 25, slot := 0, constantValue := 0 }, { name := "AIOOBE_FORMATTER", type := (.object "java/util/function/BiFunction"), accessFlags := 25, slot := 1, constantValue := 0 }, { name := "IOOBE_FORMATTER", type := (.object "java/util/function/BiFunction"), accessFlags := 25, slot := 2, constantValue := 0 }]
  methods := #[k19m0, k19m1]
  instanceTypes := #[]
  staticTypes := #[(.object "java/util/function/BiFunction"), (.object "java/util/function/BiFunction"), (.object "java/util/function/BiFunction")]
  resolved := Array.replicate 194 none
  statics := some 2 }

def pool20 : Array CpInfo := pool [(6, .class_ 8), (1, u "java/lang/Object"), (0, u "<init>"), (0, u "()V"), (1, .class_ 14), (1, u "java/lang/StringUTF16"), (31, u "$assertionsDisabled"), (0, u "Z"), (13, u "HI_BYTE_SHIFT"), (0, u "I"), (2, u "LO_BYTE_SHIFT"), (49, .methodref 12 116), (0, .nameAndType 117 118), (0, u "compress"), (0, u "([CI[BII)I"), (3, u "([CII)[B"), (138, u "coderFromArrayLen"), (0, u "([BI)B"), (106, .class_ 371), (1, u "java/lang/StringUTF16$LinesSpliterator"), (58, u "MAX_LENGTH"), (196, .class_ 628), (0, u "java/lang/StringUTF16$CodePointsSpliterator"), (0, .class_ 630), (0, u "java/lang/StringUTF16$CharsSpliterator")] 4

def k20m0 : Method := { name := "<init>", desc := "()V", sig := { parameters := [], returnType := none }, accessFlags := 0, code := none }
def k20c1 : Code := { maxStack := 2, maxLocals := 2, code := jdk_52_method_15_code, exceptionTable := #[], attributes := #[] }
def k20m1 : Method := { name := "coderFromArrayLen", desc := "([BI)B", sig := { parameters := [(.array .byte), .int], returnType := some .byte }, accessFlags := 8, code := some k20c1 }
def k20c2 : Code := { maxStack := 5, maxLocals := 6, code := jdk_52_method_16_code, exceptionTable := #[], attributes := #[] }
def k20m2 : Method := { name := "compress", desc := "([CII)[B", sig := { parameters := [(.array .char), .int, .int], returnType := some (.array .byte) }, accessFlags := 9, code := some k20c2 }
def k20c3 : Code := { maxStack := 3, maxLocals := 7, code := jdk_52_method_21_code, exceptionTable := #[], attributes := #[] }
def k20m3 : Method := { name := "compress", desc := "([CI[BII)I", sig := { parameters := [(.array .char), .int, (.array .byte), .int, .int], returnType := some .int }, accessFlags := 9, code := some k20c3 }
/-- java/lang/StringUTF16 -/
def k20 : Class := { plain "java/lang/StringUTF16" (some 0) with
  accessFlags := 48
  interfaces := #[]
  cf := some (fileOf pool20 12 #[.nestMembers #[627, 629, 369]] #[{ accessFlags := 0, nameIndex := 9, descriptorIndex := 10, attributes := #[] }, { accessFlags := 8, nameIndex := 261, descriptorIndex := 262, attributes := #[] }, { accessFlags := 9, nameIndex := 117, descriptorIndex := 122, attributes := #[] }, { accessFlags := 9, nameIndex := 117, descriptorIndex := 118, attributes := #[] }] 48 6 #[] #[{ accessFlags := 26, nameIndex := 61, descriptorIndex := 62, attributes := #[] }, { accessFlags := 26, nameIndex := 65, descriptorIndex := 62, attributes := #[] }, { accessFlags := 24, nameIndex := 430, descriptorIndex := 62, attributes := #[] }, { accessFlags := 4120, nameIndex := 46, descriptorIndex := 47, attributes := #[] }])
  fields := #[{ name := "HI_BYTE_SHIFT", type := .int, accessFlags := 26, slot := 0, constantValue := 0 }, { name := "LO_BYTE_SHIFT", type := .int, accessFlags := 26, slot := 1, constantValue := 0 }, { name := "MAX_LENGTH", type := .int, accessFlags := 24, slot := 2, constantValue := 0 }, { name := "$assertionsDisabled", type := .boolean, accessFlags := 4120, slot := 3, constantValue := 0 }]
  methods := #[k20m0, k20m1, k20m2, k20m3]
  instanceTypes := #[]
  staticTypes := #[.int, .int, .int, .boolean]
  resolved := Array.replicate 635 none
  statics := none }

def pool21 : Array CpInfo := pool [(9, u "<init>"), (6, .class_ 18), (1, u "java/lang/Object"), (0, u "()V"), (1, .class_ 23), (1, u "jdk/internal/util/ArraysSupport"), (0, u "LOG2_ARRAY_LONG_INDEX_SCALE"), (0, u "I"), (2, u "U"), (0, u "Ljdk/internal/misc/Unsafe;"), (8, u "BIG_ENDIAN"), (0, u "Z"), (8, u "LOG2_BYTE_BIT_SIZE"), (4, u "LOG2_ARRAY_INT_INDEX_SCALE"), (54, u "JLA"), (0, u "Ljdk/internal/access/JavaLangAccess;"), (11, u "LOG2_ARRAY_BOOLEAN_INDEX_SCALE"), (9, u "LOG2_ARRAY_BYTE_INDEX_SCALE"), (5, u "LOG2_ARRAY_CHAR_INDEX_SCALE"), (5, u "LOG2_ARRAY_SHORT_INDEX_SCALE"), (18, u "LOG2_ARRAY_FLOAT_INDEX_SCALE"), (24, u "LOG2_ARRAY_DOUBLE_INDEX_SCALE"), (6, .methodref 195 196), (0, .class_ 197), (0, .nameAndType 198 199), (0, u "java/lang/Math"), (0, u "max"), (0, u "(II)I"), (0, .integer 2147483639), (76, u "T_BOOLEAN"), (2, u "T_CHAR"), (1, u "T_FLOAT"), (1, u "T_DOUBLE"), (1, u "T_BYTE"), (1, u "T_SHORT"), (1, u "T_INT"), (1, u "T_LONG"), (1, u "SOFT_MAX_ARRAY_LENGTH"), (56, u "newLength"), (0, u "(III)I")] 25

def k21m0 : Method := { name := "<init>", desc := "()V", sig := { parameters := [], returnType := none }, accessFlags := 2, code := none }
def k21c1 : Code := { maxStack := 3, maxLocals := 4, code := jdk_48_method_27_code, exceptionTable := #[], attributes := #[] }
def k21m1 : Method := { name := "newLength", desc := "(III)I", sig := { parameters := [.int, .int, .int], returnType := some .int }, accessFlags := 9, code := some k21c1 }
/-- jdk/internal/util/ArraysSupport -/
def k21 : Class := { plain "jdk/internal/util/ArraysSupport" (some 0) with
  accessFlags := 33
  interfaces := #[]
  cf := some (fileOf pool21 21 #[] #[{ accessFlags := 2, nameIndex := 9, descriptorIndex := 19, attributes := #[] }, { accessFlags := 9, nameIndex := 351, descriptorIndex := 352, attributes := #[] }] 33 16 #[] #[{ accessFlags := 24, nameIndex := 28, descriptorIndex := 29, attributes := #[] }, { accessFlags := 26, nameIndex := 38, descriptorIndex := 39, attributes := #[] }, { accessFlags := 25, nameIndex := 121, descriptorIndex := 25, attributes := #[] }, { accessFlags := 25, nameIndex := 131, descriptorIndex := 25, attributes := #[] }, { accessFlags := 25, nameIndex := 137, descriptorIndex := 25, attributes := #[] }, { accessFlags := 25, nameIndex := 143, descriptorIndex := 25, attributes := #[] }, { accessFlags := 25, nameIndex := 53, descriptorIndex := 25, attributes := #[] }, { accessFlags := 25, nameIndex := 24, descriptorIndex := 25, attributes := #[] }, { accessFlags := 25, nameIndex := 162, descriptorIndex := 25, attributes := #[] }, { accessFlags := 25, nameIndex := 187, descriptorIndex := 25, attributes := #[] }, { accessFlags := 26, nameIndex := 48, descriptorIndex := 25, attributes := #[] }, { accessFlags := 25, nameIndex := 277, descriptorIndex := 25, attributes := #[] }, { accessFlags := 25, nameIndex := 280, descriptorIndex := 25, attributes := #[] }, { accessFlags := 25, nameIndex := 282, descriptorIndex := 25, attributes := #[] }, { accessFlags := 25, nameIndex := 284, descriptorIndex := 25, attributes := #[] }, { accessFlags := 25, nameIndex := 286, descriptorIndex := 25, attributes := #[] }, { accessFlags := 25, nameIndex := 288, descriptorIndex := 25, attributes := #[] }, { accessFlags := 25, nameIndex := 290, descriptorIndex := 25, attributes := #[] }, { accessFlags := 25, nameIndex := 292, descriptorIndex := 25, attributes := #[] }, { accessFlags := 26, nameIndex := 108, descriptorIndex := 109, attributes := #[] }, { accessFlags := 25, nameIndex := 294, descriptorIndex := 25, attributes := #[] }])
  fields := #[{ name := "U", type := (.object "jdk/internal/misc/Unsafe"), accessFlags := 24, slot := 0, constantValue := 0 }, { name := "BIG_ENDIAN", type := .boolean, accessFlags := 26, slot := 1, constantValue := 0 }, { name := "LOG2_ARRAY_BOOLEAN_INDEX_SCALE", type := .int, accessFlags := 25, slot := 2, constantValue := 0 }, { name := "LOG2_ARRAY_BYTE_INDEX_SCALE", type := .int, accessFlags := 25, slot := 3, constantValue := 0 }, { name := "LOG2_ARRAY_CHAR_INDEX_SCALE", type := .int, accessFlags := 25, slot := 4, constantValue := 0 }, { name := "LOG2_ARRAY_SHORT_INDEX_SCALE", type := .int, accessFlags := 25, slot := 5, constantValue := 0 }, { name := "LOG2_ARRAY_INT_INDEX_SCALE", type := .int, accessFlags := 25, slot := 6, constantValue := 0 }, { name := "LOG2_ARRAY_LONG_INDEX_SCALE", type := .int, accessFlags := 25, slot := 7, constantValue := 0 }, { name := "LOG2_ARRAY_FLOAT_INDEX_SCALE", type := .int, accessFlags := 25, slot := 8, constantValue := 0 }, { name := "LOG2_ARRAY_DOUBLE_INDEX_SCALE", type := .int, accessFlags := 25, slot := 9, constantValue := 0 }, { name := "LOG2_BYTE_BIT_SIZE", type := .int, accessFlags := 26, slot := 10, constantValue := 0 }, { name := "T_BOOLEAN", type := .int, accessFlags := 25, slot := 11, constantValue := 0 }, { name := "T_CHAR", type := .int, accessFlags := 25, slot := 12, constantValue := 0 }, { name := "T_FLOAT", type := .int, accessFlags := 25, slot := 13, constantValue := 0 }, { name := "T_DOUBLE", type := .int, accessFlags := 25, slot := 14, constantValue := 0 }, { name := "T_BYTE", type := .int, accessFlags := 25, slot := 15, constantValue := 0 }, { name := "T_SHORT", type := .int, accessFlags := 25, slot := 16, constantValue := 0 }, { name := "T_INT", type := .int, accessFlags := 25, slot := 17, constantValue := 0 }, { name := "T_LONG", type := .int, accessFlags := 25, slot := 18, constantValue := 0 }, { name := "JLA", type := (.object "jdk/internal/access/JavaLangAccess"), accessFlags := 26, slot := 19, constantValue := 0 }, { name := "SOFT_MAX_ARRAY_LENGTH", type := .int, accessFlags := 25, slot := 20, constantValue := 0 }]
  methods := #[k21m0, k21m1]
  instanceTypes := #[]
  staticTypes := #[(.object "jdk/internal/misc/Unsafe"), .boolean, .int, .int, .int, .int, .int, .int, .int, .int, .int, .int, .int, .int, .int, .int, .int, .int, .int, (.object "jdk/internal/access/JavaLangAccess"), .int]
  resolved := Array.replicate 378 none
  statics := none }

def pool22 : Array CpInfo := pool [(1, .class_ 2), (0, u "java/lang/Math"), (1, .class_ 6), (1, u "java/lang/Object"), (0, u "<init>"), (0, u "()V"), (89, .class_ 100), (1, u "java/lang/Math$RandomNumberGeneratorHolder"), (71, u "negativeZeroFloatBits"), (0, u "J"), (2, u "negativeZeroDoubleBits"), (21, u "max"), (2, u "min"), (43, u "$assertionsDisabled"), (0, u "Z"), (88, u "(II)I"), (2, u "twoToTheDoubleScaleDown"), (0, u "D"), (4, u "twoToTheDoubleScaleUp"), (9, u "E"), (3, u "PI"), (2, u "TAU"), (2, u "DEGREES_TO_RADIANS"), (0, u "RADIANS_TO_DEGREES")] 94

def k22m0 : Method := { name := "<init>", desc := "()V", sig := { parameters := [], returnType := none }, accessFlags := 2, code := none }
def k22c1 : Code := { maxStack := 2, maxLocals := 2, code := jdk_29_method_65_code, exceptionTable := #[], attributes := #[] }
def k22m1 : Method := { name := "max", desc := "(II)I", sig := { parameters := [.int, .int], returnType := some .int }, accessFlags := 9, code := some k22c1 }
def k22c2 : Code := { maxStack := 2, maxLocals := 2, code := jdk_29_method_69_code, exceptionTable := #[], attributes := #[] }
def k22m2 : Method := { name := "min", desc := "(II)I", sig := { parameters := [.int, .int], returnType := some .int }, accessFlags := 9, code := some k22c2 }
/-- java/lang/Math -/
def k22 : Class := { plain "java/lang/Math" (some 0) with
  accessFlags := 49
  interfaces := #[]
  cf := some (fileOf pool22 1 #[.nestMembers #[98]] #[{ accessFlags := 2, nameIndex := 7, descriptorIndex := 8, attributes := #[] }, { accessFlags := 9, nameIndex := 198, descriptorIndex := 335, attributes := #[] }, { accessFlags := 9, nameIndex := 201, descriptorIndex := 335, attributes := #[] }] 49 4 #[] #[{ accessFlags := 25, nameIndex := 354, descriptorIndex := 339, attributes := #[] }, { accessFlags := 25, nameIndex := 358, descriptorIndex := 339, attributes := #[] }, { accessFlags := 25, nameIndex := 361, descriptorIndex := 339, attributes := #[] }, { accessFlags := 26, nameIndex := 364, descriptorIndex := 339, attributes := #[] }, { accessFlags := 26, nameIndex := 365, descriptorIndex := 339, attributes := #[] }, { accessFlags := 26, nameIndex := 172, descriptorIndex := 173, attributes := #[] }, { accessFlags := 26, nameIndex := 176, descriptorIndex := 173, attributes := #[] }, { accessFlags := 8, nameIndex := 344, descriptorIndex := 339, attributes := #[] }, { accessFlags := 8, nameIndex := 338, descriptorIndex := 339, attributes := #[] }, { accessFlags := 4120, nameIndex := 245, descriptorIndex := 246, attributes := #[] }])
  fields := #[{ name := "E", type := .double, accessFlags := 25, slot := 0, constantValue := 0 }, { name := "PI", type := .double, accessFlags := 25, slot := 1, constantValue := 0 }, { name := "TAU", type := .double, accessFlags := 25, slot := 2, constantValue := 0 }, { name := "DEGREES_TO_RADIANS", type := .double, accessFlags := 26, slot := 3, constantValue := 0 }, { name := "RADIANS_TO_DEGREES", type := .double, accessFlags := 26, slot := 4, constantValue := 0 }, { name := "negativeZeroFloatBits", type := .long, accessFlags := 26, slot := 5, constantValue := 0 }, { name := "negativeZeroDoubleBits", type := .long, accessFlags := 26, slot := 6, constantValue := 0 }, { name := "twoToTheDoubleScaleUp", type := .double, accessFlags := 8, slot := 7, constantValue := 0 }, { name := "twoToTheDoubleScaleDown", type := .double, accessFlags := 8, slot := 8, constantValue := 0 }, { name := "$assertionsDisabled", type := .boolean, accessFlags := 4120, slot := 9, constantValue := 0 }]
  methods := #[k22m0, k22m1, k22m2]
  instanceTypes := #[]
  staticTypes := #[.double, .double, .double, .double, .double, .long, .long, .double, .double, .boolean]
  resolved := Array.replicate 460 none
  statics := none }

def pool23 : Array CpInfo := pool [(2, .class_ 4), (1, u "java/lang/Object"), (0, u "<init>"), (0, u "()V"), (12, .class_ 20), (0, u "java/util/Collections"), (63, u "r"), (0, u "Ljava/util/Random;"), (80, .class_ 167), (0, u "java/util/Collections$UnmodifiableCollection"), (6, .class_ 175), (0, u "java/util/Collections$UnmodifiableSequencedCollection"), (6, .class_ 183), (0, u "java/util/Collections$UnmodifiableSet"), (6, .class_ 191), (0, u "java/util/Collections$UnmodifiableSequencedSet"), (6, .class_ 199), (0, u "java/util/Collections$UnmodifiableSortedSet"), (6, .class_ 207), (0, u "java/util/Collections$UnmodifiableNavigableSet"), (4, .class_ 213), (0, u "java/util/Collections$UnmodifiableList"), (1, .class_ 216), (0, u "java/util/Collections$UnmodifiableRandomAccessList"), (6, .class_ 224), (0, u "java/util/Collections$UnmodifiableMap"), (6, .class_ 232), (0, u "java/util/Collections$UnmodifiableSequencedMap"), (4, .class_ 238), (0, u "java/util/Collections$UnmodifiableSortedMap"), (6, .class_ 246), (0, u "java/util/Collections$UnmodifiableNavigableMap"), (3, .class_ 251), (0, u "java/util/Collections$SynchronizedCollection"), (4, .class_ 257), (0, u "java/util/Collections$SynchronizedSet"), (4, .class_ 263), (0, u "java/util/Collections$SynchronizedSortedSet"), (1, .class_ 266), (0, u "java/util/Collections$SynchronizedNavigableSet"), (1, .class_ 269), (0, u "java/util/Collections$SynchronizedRandomAccessList"), (1, .class_ 272), (0, u "java/util/Collections$SynchronizedList"), (5, .class_ 279), (0, u "java/util/Collections$SynchronizedMap"), (1, .class_ 282), (0, u "java/util/Collections$SynchronizedSortedMap"), (1, .class_ 285), (0, u "java/util/Collections$SynchronizedNavigableMap"), (1, .class_ 288), (0, u "java/util/Collections$CheckedCollection"), (11, .class_ 301), (0, u "java/util/Collections$CheckedQueue"), (3, .class_ 306), (0, u "java/util/Collections$CheckedSet"), (3, .class_ 311), (0, u "java/util/Collections$CheckedSortedSet"), (3, .class_ 316), (0, u "java/util/Collections$CheckedNavigableSet"), (3, .class_ 321), (0, u "java/util/Collections$CheckedRandomAccessList"), (3, .class_ 326), (0, u "java/util/Collections$CheckedList"), (1, .class_ 329), (0, u "java/util/Collections$CheckedMap"), (3, .class_ 334), (0, u "java/util/Collections$CheckedSortedMap"), (3, .class_ 339), (0, u "java/util/Collections$CheckedNavigableMap"), (4, .class_ 346), (1, u "java/util/Collections$EmptyIterator"), (3, .class_ 352), (1, u "java/util/Collections$EmptyListIterator"), (2, .class_ 357), (1, u "java/util/Collections$EmptyEnumeration"), (4, u "EMPTY_SET"), (0, u "Ljava/util/Set;"), (6, u "EMPTY_LIST"), (0, u "Ljava/util/List;"), (2, u "EMPTY_MAP"), (0, u "Ljava/util/Map;"), (4, .class_ 381), (0, u "java/util/Collections$SingletonSet"), (2, .class_ 385), (0, u "java/util/Collections$1"), (1, .class_ 388), (0, u "java/util/Collections$2"), (1, .class_ 391), (0, u "java/util/Collections$SingletonList"), (1, .class_ 394), (0, u "java/util/Collections$SingletonMap"), (22, .class_ 418), (0, u "java/util/Collections$CopiesList"), (4, .class_ 425), (1, u "java/util/Collections$ReverseComparator"), (8, .class_ 435), (0, u "java/util/Collections$ReverseComparator2"), (6, .class_ 443), (0, u "java/util/Collections$3"), (25, .class_ 470), (0, u "java/util/Collections$SetFromMap"), (2, .class_ 474), (0, u "java/util/Collections$SequencedSetFromMap"), (3, .class_ 479), (0, u "java/util/Collections$AsLIFOQueue"), (11, .class_ 492), (0, u "java/util/Collections$EmptySet"), (1, .class_ 495), (0, u "java/util/Collections$EmptyList"), (1, .class_ 498), (0, u "java/util/Collections$EmptyMap"), (1, u "BINARYSEARCH_THRESHOLD"), (0, u "I"), (2, u "REVERSE_THRESHOLD"), (1, u "SHUFFLE_THRESHOLD"), (1, u "FILL_THRESHOLD"), (1, u "ROTATE_THRESHOLD"), (1, u "COPY_THRESHOLD"), (1, u "REPLACEALL_THRESHOLD"), (1, u "INDEXOFSUBLIST_THRESHOLD"), (333, .class_ 851), (0, u "java/util/Collections$CheckedMap$CheckedEntrySet"), (0, .class_ 853), (0, u "java/util/Collections$CheckedMap$CheckedEntrySet$CheckedEntry"), (0, .class_ 855), (0, u "java/util/Collections$CheckedMap$CheckedEntrySet$1"), (0, .class_ 857), (0, u "java/util/Collections$CheckedList$1"), (0, .class_ 859), (0, u "java/util/Collections$CheckedCollection$1"), (0, .class_ 861), (0, u "java/util/Collections$UnmodifiableNavigableMap$EmptyNavigableMap"), (0, .class_ 863), (0, u "java/util/Collections$UnmodifiableMap$UnmodifiableEntrySet"), (0, .class_ 865), (0, u "java/util/Collections$UnmodifiableMap$UnmodifiableEntrySet$UnmodifiableEntry"), (0, .class_ 867), (0, u "java/util/Collections$UnmodifiableMap$UnmodifiableEntrySet$UnmodifiableEntrySetSpliterator"), (0, .class_ 869), (0, u "java/util/Collections$UnmodifiableMap$UnmodifiableEntrySet$1"), (0, .class_ 871), (0, u "java/util/Collections$UnmodifiableList$1"), (0, .class_ 873), (0, u "java/util/Collections$UnmodifiableNavigableSet$EmptyNavigableSet"), (0, .class_ 875), (0, u "java/util/Collections$UnmodifiableCollection$1")] 57

def k23m0 : Method := { name := "<init>", desc := "()V", sig := { parameters := [], returnType := none }, accessFlags := 2, code := none }
/-- java/util/Collections -/
def k23 : Class := { plain "java/util/Collections" (some 0) with
  accessFlags := 33
  interfaces := #[]
  cf := some (fileOf pool23 19 #[.nestMembers #[478, 473, 469, 434, 423, 417, 393, 390, 380, 497, 494, 491, 355, 350, 344, 338, 333, 328, 850, 852, 854, 320, 325, 856, 315, 310, 305, 300, 287, 858, 284, 281, 278, 268, 271, 265, 262, 256, 250, 245, 860, 237, 231, 223, 862, 864, 866, 868, 215, 212, 870, 206, 872, 198, 190, 182, 174, 166, 874, 442, 387, 384]] #[{ accessFlags := 2, nameIndex := 5, descriptorIndex := 6, attributes := #[] }] 33 2 #[] #[{ accessFlags := 26, nameIndex := 500, descriptorIndex := 501, attributes := #[] }, { accessFlags := 26, nameIndex := 504, descriptorIndex := 501, attributes := #[] }, { accessFlags := 26, nameIndex := 506, descriptorIndex := 501, attributes := #[] }, { accessFlags := 26, nameIndex := 508, descriptorIndex := 501, attributes := #[] }, { accessFlags := 26, nameIndex := 510, descriptorIndex := 501, attributes := #[] }, { accessFlags := 26, nameIndex := 512, descriptorIndex := 501, attributes := #[] }, { accessFlags := 26, nameIndex := 514, descriptorIndex := 501, attributes := #[] }, { accessFlags := 26, nameIndex := 516, descriptorIndex := 501, attributes := #[] }, { accessFlags := 10, nameIndex := 84, descriptorIndex := 85, attributes := #[] }, { accessFlags := 25, nameIndex := 362, descriptorIndex := 363, attributes := #[] }, { accessFlags := 25, nameIndex := 370, descriptorIndex := 371, attributes := #[] }, { accessFlags := 25, nameIndex := 374, descriptorIndex := 375, attributes := #[] }])
  fields := #[{ name := "BINARYSEARCH_THRESHOLD", type := .int, accessFlags := 26, slot := 0, constantValue := 0 }, { name := "REVERSE_THRESHOLD", type := .int, accessFlags := 26, slot := 1, constantValue := 0 }, { name := "SHUFFLE_THRESHOLD", type := .int, accessFlags := 26, slot := 2, constantValue := 0 }, { name := "FILL_THRESHOLD", type := .int, accessFlags := 26, slot := 3, constantValue := 0 }, { name := "ROTATE_THRESHOLD", type := .int, accessFlags := 26, slot := 4, constantValue := 0 }, { name := "COPY_THRESHOLD", type := .int, accessFlags := 26, slot := 5, constantValue := 0 }, { name := "REPLACEALL_THRESHOLD", type := .int, accessFlags := 26, slot := 6, constantValue := 0 }, { name := "INDEXOFSUBLIST_THRESHOLD", type := .int, accessFlags := 26, slot := 7, constantValue := 0 }, { name := "r", type := (.object "java/util/Random"), accessFlags := 10, slot := 8, constantValue := 0 }, { name := "EMPTY_SET", type := (.object "java/util/Set"), accessFlags := 25, slot := 9, constantValue := 0 }, { name := "EMPTY_LIST", type := (.object "java/util/List"), accessFlags := 25, slot := 10, constantValue := 0 }, { name := "EMPTY_MAP", type := (.object "java/util/Map"), accessFlags := 25, slot := 11, constantValue := 0 }]
  methods := #[k23m0]
  instanceTypes := #[]
  staticTypes := #[.int, .int, .int, .int, .int, .int, .int, .int, (.object "java/util/Random"), (.object "java/util/Set"), (.object "java/util/List"), (.object "java/util/Map")]
  resolved := Array.replicate 933 none
  statics := some 3 }

def pool24 : Array CpInfo := pool [(8, .class_ 10), (1, u "java/lang/Iterable"), (24, .class_ 36), (0, u "java/lang/Object")] 25

/-- java/lang/Iterable -/
def k24 : Class := { plain "java/lang/Iterable" (some 0) with
  accessFlags := 1537
  interfaces := #[]
  cf := some (fileOf pool24 8 #[] #[] 1537 35 #[] #[])
  fields := #[]
  methods := #[]
  instanceTypes := #[]
  staticTypes := #[]
  resolved := Array.replicate 62 none
  statics := none }

def pool25 : Array CpInfo := pool [(10, .class_ 12), (1, u "java/util/Collection"), (47, .class_ 61), (0, u "java/lang/Object"), (0, .class_ 63), (0, u "java/lang/Iterable")] 51

/-- java/util/Collection -/
def k25 : Class := { plain "java/util/Collection" (some 0) with
  accessFlags := 1537
  interfaces := #[24]
  cf := some (fileOf pool25 10 #[] #[] 1537 60 #[62] #[])
  fields := #[]
  methods := #[]
  instanceTypes := #[]
  staticTypes := #[]
  resolved := Array.replicate 115 none
  statics := none }

def pool26 : Array CpInfo := pool [(2, .class_ 4), (1, u "java/lang/Object"), (0, u "<init>"), (0, u "()V"), (1, .class_ 10), (1, u "java/util/AbstractCollection"), (66, .class_ 78), (0, u "java/util/Collection")] 81

def k26m0 : Method := { name := "<init>", desc := "()V", sig := { parameters := [], returnType := none }, accessFlags := 4, code := none }
/-- java/util/AbstractCollection -/
def k26 : Class := { plain "java/util/AbstractCollection" (some 0) with
  accessFlags := 1057
  interfaces := #[25]
  cf := some (fileOf pool26 8 #[] #[{ accessFlags := 4, nameIndex := 5, descriptorIndex := 6, attributes := #[] }] 1057 2 #[77] #[])
  fields := #[]
  methods := #[k26m0]
  instanceTypes := #[]
  staticTypes := #[]
  resolved := Array.replicate 160 none
  statics := none }

def pool27 : Array CpInfo := pool [(8, .class_ 10), (1, u "java/util/SequencedCollection"), (15, .class_ 27), (0, u "java/lang/Object"), (0, .class_ 29), (0, u "java/util/Collection")] 27

/-- java/util/SequencedCollection -/
def k27 : Class := { plain "java/util/SequencedCollection" (some 0) with
  accessFlags := 1537
  interfaces := #[25]
  cf := some (fileOf pool27 8 #[] #[] 1537 26 #[28] #[])
  fields := #[]
  methods := #[]
  instanceTypes := #[]
  staticTypes := #[]
  resolved := Array.replicate 57 none
  statics := none }

def pool28 : Array CpInfo := pool [(8, .class_ 10), (1, u "java/util/List"), (92, .class_ 104), (0, u "java/lang/Object"), (15, .class_ 121), (0, u "java/util/SequencedCollection")] 129

/-- java/util/List -/
def k28 : Class := { plain "java/util/List" (some 0) with
  accessFlags := 1537
  interfaces := #[27]
  cf := some (fileOf pool28 8 #[] #[] 1537 103 #[120] #[])
  fields := #[]
  methods := #[]
  instanceTypes := #[]
  staticTypes := #[]
  resolved := Array.replicate 251 none
  statics := none }

def pool29 : Array CpInfo := pool [(2, .class_ 4), (1, u "java/util/AbstractCollection"), (0, u "<init>"), (0, u "()V"), (1, .class_ 10), (1, u "java/util/AbstractList"), (0, u "modCount"), (0, u "I"), (64, .class_ 78), (0, u "java/util/AbstractList$Itr"), (3, .class_ 83), (0, u "java/util/AbstractList$ListItr"), (9, .class_ 94), (0, u "java/util/AbstractList$RandomAccessSubList"), (3, .class_ 99), (0, u "java/util/AbstractList$SubList"), (33, .class_ 134), (0, u "java/util/List"), (73, .class_ 209), (0, u "java/util/AbstractList$SubList$1"), (0, .class_ 211), (0, u "java/util/AbstractList$RandomAccessSpliterator")] 6

def k29m0 : Method := { name := "<init>", desc := "()V", sig := { parameters := [], returnType := none }, accessFlags := 4, code := none }
/-- java/util/AbstractList -/
def k29 : Class := { plain "java/util/AbstractList" (some 26) with
  accessFlags := 1057
  interfaces := #[28]
  cf := some (fileOf pool29 8 #[.nestMembers #[93, 98, 208, 210, 82, 77]] #[{ accessFlags := 4, nameIndex := 5, descriptorIndex := 6, attributes := #[] }] 1057 2 #[133] #[{ accessFlags := 132, nameIndex := 11, descriptorIndex := 12, attributes := #[] }])
  fields := #[{ name := "modCount", type := .int, accessFlags := 132, slot := 0, constantValue := 0 }]
  methods := #[k29m0]
  instanceTypes := #[.int]
  staticTypes := #[]
  resolved := Array.replicate 218 none
  statics := none }

def pool30 : Array CpInfo := pool [(1, .class_ 2), (0, u "java/util/RandomAccess"), (0, .class_ 4), (0, u "java/lang/Object")] 2

/-- java/util/RandomAccess -/
def k30 : Class := { plain "java/util/RandomAccess" (some 0) with
  accessFlags := 1537
  interfaces := #[]
  cf := some (fileOf pool30 1 #[] #[] 1537 3 #[] #[])
  fields := #[]
  methods := #[]
  instanceTypes := #[]
  staticTypes := #[]
  resolved := Array.replicate 7 none
  statics := none }

def pool31 : Array CpInfo := pool [(2, .class_ 4), (1, u "java/util/AbstractList"), (0, u "<init>"), (0, u "()V"), (1, .class_ 10), (1, u "java/util/Collections"), (54, .class_ 66), (0, u "java/util/Collections$EmptyList"), (0, .class_ 68), (0, u "java/util/RandomAccess"), (0, .class_ 70), (0, u "java/io/Serializable"), (0, u "serialVersionUID"), (0, u "J")] 77

def k31m0 : Method := { name := "<init>", desc := "()V", sig := { parameters := [], returnType := none }, accessFlags := 2, code := none }
/-- java/util/Collections$EmptyList -/
def k31 : Class := { plain "java/util/Collections$EmptyList" (some 29) with
  accessFlags := 32
  interfaces := #[30, 2]
  cf := some (fileOf pool31 65 #[.nestHost 8] #[{ accessFlags := 2, nameIndex := 5, descriptorIndex := 6, attributes := #[] }] 32 2 #[67, 69] #[{ accessFlags := 26, nameIndex := 71, descriptorIndex := 72, attributes := #[] }])
  fields := #[{ name := "serialVersionUID", type := .long, accessFlags := 26, slot := 0, constantValue := 0 }]
  methods := #[k31m0]
  instanceTypes := #[.int]
  staticTypes := #[.long]
  resolved := Array.replicate 150 none
  statics := none }

def pool32 : Array CpInfo := pool [(2, .class_ 4), (1, u "java/lang/StackTraceElement"), (0, u "<init>"), (2, .class_ 10), (1, u "java/lang/Object"), (0, u "()V"), (2, u "format"), (0, u "B"), (2, u "classLoaderName"), (0, u "Ljava/lang/String;"), (2, u "moduleName"), (2, u "moduleVersion"), (12, u "declaringClass"), (4, u "methodName"), (2, u "fileName"), (2, u "lineNumber"), (0, u "I"), (65, u "declaringClassObject"), (0, u "Ljava/lang/Class;"), (33, .class_ 153), (1, u "java/lang/StackTraceElement$HashedModules"), (17, .class_ 172), (0, u "java/io/Serializable"), (0, u "NATIVE_METHOD"), (1, u "UNKNOWN_SOURCE"), (2, u "BUILTIN_CLASS_LOADER"), (1, u "JDK_NON_UPGRADEABLE_MODULE"), (1, u "serialVersionUID"), (0, u "J")] 51

def k32m0 : Method := { name := "<init>", desc := "()V", sig := { parameters := [], returnType := none }, accessFlags := 2, code := none }
/-- java/lang/StackTraceElement -/
def k32 : Class := { plain "java/lang/StackTraceElement" (some 0) with
  accessFlags := 49
  interfaces := #[2]
  cf := some (fileOf pool32 2 #[.nestMembers #[151]] #[{ accessFlags := 2, nameIndex := 5, descriptorIndex := 11, attributes := #[] }] 49 8 #[171] #[{ accessFlags := 26, nameIndex := 173, descriptorIndex := 19, attributes := #[] }, { accessFlags := 26, nameIndex := 175, descriptorIndex := 19, attributes := #[] }, { accessFlags := 130, nameIndex := 116, descriptorIndex := 117, attributes := #[] }, { accessFlags := 2, nameIndex := 18, descriptorIndex := 19, attributes := #[] }, { accessFlags := 2, nameIndex := 22, descriptorIndex := 19, attributes := #[] }, { accessFlags := 2, nameIndex := 25, descriptorIndex := 19, attributes := #[] }, { accessFlags := 2, nameIndex := 38, descriptorIndex := 19, attributes := #[] }, { accessFlags := 2, nameIndex := 43, descriptorIndex := 19, attributes := #[] }, { accessFlags := 2, nameIndex := 46, descriptorIndex := 19, attributes := #[] }, { accessFlags := 2, nameIndex := 49, descriptorIndex := 50, attributes := #[] }, { accessFlags := 2, nameIndex := 14, descriptorIndex := 15, attributes := #[] }, { accessFlags := 26, nameIndex := 178, descriptorIndex := 15, attributes := #[] }, { accessFlags := 26, nameIndex := 180, descriptorIndex := 15, attributes := #[] }, { accessFlags := 26, nameIndex := 182, descriptorIndex := 183, attributes := #[] }])
  fields := #[{ name := "NATIVE_METHOD", type := (.object "java/lang/String"), accessFlags := 26, slot := 0, constantValue := 0 }, { name := "UNKNOWN_SOURCE", type := (.object "java/lang/String"), accessFlags := 26, slot := 1, constantValue := 0 }, { name := "declaringClassObject", type := (.object "java/lang/Class"), accessFlags := 130, slot := 0, constantValue := 0 }, { name := "classLoaderName", type := (.object "java/lang/String"), accessFlags := 2, slot := 1, constantValue := 0 }, { name := "moduleName", type := (.object "java/lang/String"), accessFlags := 2, slot := 2, constantValue := 0 }, { name := "moduleVersion", type := (.object "java/lang/String"), accessFlags := 2, slot := 3, constantValue := 0 }, { name := "declaringClass", type := (.object "java/lang/String"), accessFlags := 2, slot := 4, constantValue := 0 }, { name := "methodName", type := (.object "java/lang/String"), accessFlags := 2, slot := 5, constantValue := 0 }, { name := "fileName", type := (.object "java/lang/String"), accessFlags := 2, slot := 6, constantValue := 0 }, { name := "lineNumber", type := .int, accessFlags := 2, slot := 7, constantValue := 0 }, { name := "format", type := .byte, accessFlags := 2, slot := 8, constantValue := 0 }, { name := "BUILTIN_CLASS_LOADER", type := .byte, accessFlags := 26, slot := 2, constantValue := 0 }, { name := "JDK_NON_UPGRADEABLE_MODULE", type := .byte, accessFlags := 26, slot := 3, constantValue := 0 }, { name := "serialVersionUID", type := .long, accessFlags := 26, slot := 4, constantValue := 0 }]
  methods := #[k32m0]
  instanceTypes := #[(.object "java/lang/Class"), (.object "java/lang/String"), (.object "java/lang/String"), (.object "java/lang/String"), (.object "java/lang/String"), (.object "java/lang/String"), (.object "java/lang/String"), .int, .byte]
  staticTypes := #[(.object "java/lang/String"), (.object "java/lang/String"), .byte, .byte, .long]
  resolved := Array.replicate 235 none
  statics := none }

/-- the primitive byte -/
def k33 : Class := { plain "byte" none with kind := .primitive 'B', accessFlags := 0x411 }
/-- [B -/
def k34 : Class := { plain "[B" (some 0) with kind := .array 33 .byte, interfaces := #[17, 2], accessFlags := 1041 }

/-- the primitive char -/
def k35 : Class := { plain "char" none with kind := .primitive 'C', accessFlags := 0x411 }
/-- [C -/
def k36 : Class := { plain "[C" (some 0) with kind := .array 35 .char, interfaces := #[17, 2], accessFlags := 1041 }

/-- the primitive int -/
def k37 : Class := { plain "int" none with kind := .primitive 'I', accessFlags := 0x411 }
/-- [I -/
def k38 : Class := { plain "[I" (some 0) with kind := .array 37 .int, interfaces := #[17, 2], accessFlags := 1041 }

/-- [Ljava/lang/Object; -/
def k39 : Class := { plain "[Ljava/lang/Object;" (some 0) with kind := .array 0 (.object "java/lang/Object"), interfaces := #[17, 2], accessFlags := 1041 }

/-- [Ljava/lang/StackTraceElement; -/
def k40 : Class := { plain "[Ljava/lang/StackTraceElement;" (some 0) with kind := .array 32 (.object "java/lang/StackTraceElement"), interfaces := #[17, 2], accessFlags := 1041 }

/-- [Ljava/lang/Throwable; -/
def k41 : Class := { plain "[Ljava/lang/Throwable;" (some 0) with kind := .array 9 (.object "java/lang/Throwable"), interfaces := #[17, 2], accessFlags := 1041 }

def heap : Heap := #[{ cls := 7, slots := #[.long 0, .int 1, .null, .int 0, .null, .int 0, .int 0], vm := .statics 7 },
  { cls := 9, slots := #[.long 0, .ref 4, .ref 5, .null, .null, .null, .null, .ref 6, .int 1], vm := .statics 9 },
  { cls := 19, slots := #[.null, .null, .null], vm := .statics 19 },
  { cls := 23, slots := #[.int 0, .int 0, .int 0, .int 0, .int 0, .int 0, .int 0, .int 0, .null, .null, .ref 5, .null], vm := .statics 23 },
  { cls := 40, slots := #[], vm := .none },
  { cls := 31, slots := #[.int 0], vm := .none },
  { cls := 41, slots := #[], vm := .none }]
def classes : Array Class := #[k0, k1, k2, k3, k4, k5, k6, k7, k8, k9, k10, k11, k12, k13, k14, k15, k16, k17, k18, k19, k20, k21, k22, k23, k24, k25, k26, k27, k28, k29, k30, k31, k32, k33, k34, k35, k36, k37, k38, k39, k40, k41]
def interned : List (Array UInt16 × Addr) := []
def slotsUsed : Nat := 32
def theMethod : MethodId := ⟨1, 1⟩
def args0 : Array Value := #[.int 2, .int 65, .int 66, .int 67]
def aboutOver (below : List Frame) : State where
  vm := { classes := classes, interned := interned.toArray }
  heap := heap
  slotsUsed := slotsUsed
  threads := #[{ frames := .invoking theMethod args0 :: below }]
def below0 : List Frame := [.native { method := ⟨0, 0⟩, args := #[] }]
def about1 : State := aboutOver below0
def p0 : Program := .bare "" "" ""
def e0 : Env := launch0.env 0 0 0
theorem w_frames : about1.frames = Frame.invoking theMethod args0 :: below0 := rfl
set_option maxRecDepth 65536 in
theorem w_args : argsFit about1.vm theMethod args0 = true := by decide +kernel
set_option maxRecDepth 65536 in
theorem w_heap : heapFits about1 = true := by decide +kernel
set_option maxRecDepth 65536 in
theorem w_runnable : about1.curStatus? = some .runnable := by decide +kernel
set_option maxRecDepth 65536 in
theorem w_alone : about1.alone = true := by decide +kernel
set_option maxRecDepth 65536 in
theorem w_named : about1.methodNamed? x = some theMethod := by decide +kernel
set_option maxRecDepth 65536 in
theorem w_hears : about1.hears theMethod below0 = true := by decide +kernel
set_option maxRecDepth 65536 in
theorem w_ripe : about1.ripe theMethod args0 below0 = true := by decide +kernel
theorem w_running : about1.status = .running := rfl
set_option maxRecDepth 65536 in
theorem w_room : about1.hasRoom e0.platform room_1 = true :=
  launch0.hasRoom_least _ room_1 (by decide +kernel) (by decide +kernel) (by decide +kernel) (by decide +kernel) (by decide +kernel) (by decide +kernel)
theorem allAtoms_all (ts : List Jvm.Cond) (a : Array Jvm.Value) (st : Jvm.State) : (allAtoms ts).before a st = ts.all (fun c => c.before a st) := by
  induction ts with
  | nil => rfl
  | cons c t ih =>
    show (Jvm.Cond.and c (allAtoms t)).before a st = _
    rw [Jvm.Cond.before_and, ih, List.all_cons]
def words1 : List Jvm.Cond := Jvm.Cond.code x code maxLocals ret :: tables_1
/-- a 'code' word, met by the world's own term for the bytes: nothing is compared byte by byte -/
theorem code_word {y : MethodName} {bytes : ByteArray} {mx : Nat} {rt : Option FieldType} {a : Array Value} {s : State} {m : MethodId} {meth : Method} {c : Code} (h1 : s.methodNamed? y = some m) (h2 : s.vm.method? m = some meth) (h3 : meth.code = some c) (h4 : c.code = bytes)
    (h5 : (c.maxLocals == mx && c.exceptionTable.isEmpty && decide (c.maxStack ≤ mostOperands) && decide (meth.sig.returnType = rt) && !meth.locks && decide (parseMethodDescriptor y.desc = some meth.sig)) = true) : (Jvm.Cond.code y bytes mx rt).before a s = true := by
  simp only [Bool.and_eq_true, beq_iff_eq, Bool.not_eq_true', decide_eq_true_eq] at h5
  obtain ⟨⟨⟨⟨⟨g1, g2⟩, g3⟩, g4⟩, g5⟩, g6⟩ := h5
  simp [Cond.before, Cond.holds, Cond.value, h1, h2, h3, h4, g1, g2, g3, g4, g5, g6]
def isCode : Jvm.Cond → Bool
  | .code _ _ _ _ => true
  | _ => false
theorem all_split {L : List Jvm.Cond} {P : Jvm.Cond → Bool} (h1 : L.all (fun c => isCode c || P c) = true) (h2 : ∀ c ∈ L.filter isCode, P c = true) : L.all P = true := by
  refine List.all_eq_true.mpr fun c hc => ?_
  have h := List.all_eq_true.mp h1 c hc
  rcases Bool.eq_false_or_eq_true (isCode c) with hi | hi
  · exact h2 c (List.mem_filter.mpr ⟨hc, hi⟩)
  · simpa [hi] using h
set_option maxRecDepth 65536 in
theorem w_c0 : (Jvm.Cond.code x code maxLocals ret).before args0 about1 = true := code_word (m := ⟨1, 1⟩) (meth := k1m1) (c := k1c1) (by decide +kernel) rfl rfl rfl (by decide +kernel)
set_option maxRecDepth 65536 in
theorem w_c1 : (Jvm.Cond.code ({ cls := "java/lang/String", name := "<init>", desc := "([C)V" } : Jvm.MethodName) jdk_42_method_3_code (2 : Nat) (Option.none : Option Jvm.ClassFile.FieldType)).before args0 about1 = true := code_word (m := ⟨7, 1⟩) (meth := k7m1) (c := k7c1) (by decide +kernel) rfl rfl rfl (by decide +kernel)
set_option maxRecDepth 65536 in
theorem w_c2 : (Jvm.Cond.code ({ cls := "java/lang/String", name := "<init>", desc := "([CIILjava/lang/Void;)V" } : Jvm.MethodName) jdk_42_method_149_code (6 : Nat) (Option.none : Option Jvm.ClassFile.FieldType)).before args0 about1 = true := code_word (m := ⟨7, 6⟩) (meth := k7m6) (c := k7c6) (by decide +kernel) rfl rfl rfl (by decide +kernel)
set_option maxRecDepth 65536 in
theorem w_c3 : (Jvm.Cond.code ({ cls := "java/lang/Object", name := "<init>", desc := "()V" } : Jvm.MethodName) object_method_1_code (1 : Nat) (Option.none : Option Jvm.ClassFile.FieldType)).before args0 about1 = true := code_word (m := ⟨0, 0⟩) (meth := k0m0) (c := k0c0) (by decide +kernel) rfl rfl rfl (by decide +kernel)
set_option maxRecDepth 65536 in
theorem w_c4 : (Jvm.Cond.code ({ cls := "com/example/keelrate/keelrate/cli/InputFile", name := "notUtf8", desc := "(Ljava/lang/String;)Lcom/example/keelrate/keelrate/InputRefusedException;" } : Jvm.MethodName) prog_20_method_3_code (1 : Nat) (Option.some (Jvm.ClassFile.FieldType.object "com/example/keelrate/keelrate/InputRefusedException"))).before args0 about1 = true := code_word (m := ⟨8, 1⟩) (meth := k8m1) (c := k8c1) (by decide +kernel) rfl rfl rfl (by decide +kernel)
set_option maxRecDepth 65536 in
theorem w_c5 : (Jvm.Cond.code ({ cls := "java/lang/StringBuilder", name := "<init>", desc := "()V" } : Jvm.MethodName) jdk_67_method_1_code (1 : Nat) (Option.none : Option Jvm.ClassFile.FieldType)).before args0 about1 = true := code_word (m := ⟨14, 0⟩) (meth := k14m0) (c := k14c0) (by decide +kernel) rfl rfl rfl (by decide +kernel)
set_option maxRecDepth 65536 in
theorem w_c6 : (Jvm.Cond.code ({ cls := "java/lang/AbstractStringBuilder", name := "<init>", desc := "(I)V" } : Jvm.MethodName) jdk_68_method_2_code (2 : Nat) (Option.none : Option Jvm.ClassFile.FieldType)).before args0 about1 = true := code_word (m := ⟨13, 1⟩) (meth := k13m1) (c := k13c1) (by decide +kernel) rfl rfl rfl (by decide +kernel)
set_option maxRecDepth 65536 in
theorem w_c7 : (Jvm.Cond.code ({ cls := "java/lang/StringBuilder", name := "append", desc := "(Ljava/lang/String;)Ljava/lang/StringBuilder;" } : Jvm.MethodName) jdk_67_method_7_code (2 : Nat) (Option.some (Jvm.ClassFile.FieldType.object "java/lang/StringBuilder"))).before args0 about1 = true := code_word (m := ⟨14, 1⟩) (meth := k14m1) (c := k14c1) (by decide +kernel) rfl rfl rfl (by decide +kernel)
set_option maxRecDepth 65536 in
theorem w_c8 : (Jvm.Cond.code ({ cls := "java/lang/AbstractStringBuilder", name := "append", desc := "(Ljava/lang/String;)Ljava/lang/AbstractStringBuilder;" } : Jvm.MethodName) jdk_68_method_22_code (3 : Nat) (Option.some (Jvm.ClassFile.FieldType.object "java/lang/AbstractStringBuilder"))).before args0 about1 = true := code_word (m := ⟨13, 5⟩) (meth := k13m5) (c := k13c5) (by decide +kernel) rfl rfl rfl (by decide +kernel)
set_option maxRecDepth 65536 in
theorem w_c9 : (Jvm.Cond.code ({ cls := "java/lang/String", name := "length", desc := "()I" } : Jvm.MethodName) jdk_42_method_54_code (1 : Nat) (Option.some Jvm.ClassFile.FieldType.int)).before args0 about1 = true := code_word (m := ⟨7, 3⟩) (meth := k7m3) (c := k7c3) (by decide +kernel) rfl rfl rfl (by decide +kernel)
set_option maxRecDepth 65536 in
theorem w_c10 : (Jvm.Cond.code ({ cls := "java/lang/String", name := "coder", desc := "()B" } : Jvm.MethodName) jdk_42_method_152_code (1 : Nat) (Option.some Jvm.ClassFile.FieldType.byte)).before args0 about1 = true := code_word (m := ⟨7, 8⟩) (meth := k7m8) (c := k7c8) (by decide +kernel) rfl rfl rfl (by decide +kernel)
set_option maxRecDepth 65536 in
theorem w_c11 : (Jvm.Cond.code ({ cls := "java/lang/AbstractStringBuilder", name := "ensureCapacityInternal", desc := "(I)V" } : Jvm.MethodName) jdk_68_method_9_code (3 : Nat) (Option.none : Option Jvm.ClassFile.FieldType)).before args0 about1 = true := code_word (m := ⟨13, 3⟩) (meth := k13m3) (c := k13c3) (by decide +kernel) rfl rfl rfl (by decide +kernel)
set_option maxRecDepth 65536 in
theorem w_c12 : (Jvm.Cond.code ({ cls := "java/lang/AbstractStringBuilder", name := "putStringAt", desc := "(ILjava/lang/String;)V" } : Jvm.MethodName) jdk_68_method_73_code (3 : Nat) (Option.none : Option Jvm.ClassFile.FieldType)).before args0 about1 = true := code_word (m := ⟨13, 9⟩) (meth := k13m9) (c := k13c9) (by decide +kernel) rfl rfl rfl (by decide +kernel)
set_option maxRecDepth 65536 in
theorem w_c13 : (Jvm.Cond.code ({ cls := "java/lang/AbstractStringBuilder", name := "inflateIfNeededFor", desc := "(Ljava/lang/String;)V" } : Jvm.MethodName) jdk_68_method_71_code (2 : Nat) (Option.none : Option Jvm.ClassFile.FieldType)).before args0 about1 = true := code_word (m := ⟨13, 8⟩) (meth := k13m8) (c := k13c8) (by decide +kernel) rfl rfl rfl (by decide +kernel)
set_option maxRecDepth 65536 in
theorem w_c14 : (Jvm.Cond.code ({ cls := "java/lang/String", name := "getBytes", desc := "([BIB)V" } : Jvm.MethodName) jdk_42_method_147_code (4 : Nat) (Option.none : Option Jvm.ClassFile.FieldType)).before args0 about1 = true := code_word (m := ⟨7, 5⟩) (meth := k7m5) (c := k7c5) (by decide +kernel) rfl rfl rfl (by decide +kernel)
set_option maxRecDepth 65536 in
theorem w_c15 : (Jvm.Cond.code ({ cls := "java/lang/StringBuilder", name := "toString", desc := "()Ljava/lang/String;" } : Jvm.MethodName) jdk_67_method_42_code (1 : Nat) (Option.some (Jvm.ClassFile.FieldType.object "java/lang/String"))).before args0 about1 = true := code_word (m := ⟨14, 2⟩) (meth := k14m2) (c := k14c2) (by decide +kernel) rfl rfl rfl (by decide +kernel)
set_option maxRecDepth 65536 in
theorem w_c16 : (Jvm.Cond.code ({ cls := "java/lang/String", name := "<init>", desc := "(Ljava/lang/StringBuilder;)V" } : Jvm.MethodName) jdk_42_method_53_code (2 : Nat) (Option.none : Option Jvm.ClassFile.FieldType)).before args0 about1 = true := code_word (m := ⟨7, 2⟩) (meth := k7m2) (c := k7c2) (by decide +kernel) rfl rfl rfl (by decide +kernel)
set_option maxRecDepth 65536 in
theorem w_c17 : (Jvm.Cond.code ({ cls := "java/lang/String", name := "<init>", desc := "(Ljava/lang/AbstractStringBuilder;Ljava/lang/Void;)V" } : Jvm.MethodName) jdk_42_method_150_code (5 : Nat) (Option.none : Option Jvm.ClassFile.FieldType)).before args0 about1 = true := code_word (m := ⟨7, 7⟩) (meth := k7m7) (c := k7c7) (by decide +kernel) rfl rfl rfl (by decide +kernel)
set_option maxRecDepth 65536 in
theorem w_c18 : (Jvm.Cond.code ({ cls := "java/lang/AbstractStringBuilder", name := "getValue", desc := "()[B" } : Jvm.MethodName) jdk_68_method_64_code (1 : Nat) (Option.some (Jvm.ClassFile.FieldType.array Jvm.ClassFile.FieldType.byte))).before args0 about1 = true := code_word (m := ⟨13, 6⟩) (meth := k13m6) (c := k13c6) (by decide +kernel) rfl rfl rfl (by decide +kernel)
set_option maxRecDepth 65536 in
theorem w_c19 : (Jvm.Cond.code ({ cls := "java/lang/StringBuilder", name := "length", desc := "()I" } : Jvm.MethodName) jdk_67_method_93_code (1 : Nat) (Option.some Jvm.ClassFile.FieldType.int)).before args0 about1 = true := code_word (m := ⟨14, 3⟩) (meth := k14m3) (c := k14c3) (by decide +kernel) rfl rfl rfl (by decide +kernel)
set_option maxRecDepth 65536 in
theorem w_c20 : (Jvm.Cond.code ({ cls := "java/lang/AbstractStringBuilder", name := "length", desc := "()I" } : Jvm.MethodName) jdk_68_method_6_code (1 : Nat) (Option.some Jvm.ClassFile.FieldType.int)).before args0 about1 = true := code_word (m := ⟨13, 2⟩) (meth := k13m2) (c := k13c2) (by decide +kernel) rfl rfl rfl (by decide +kernel)
set_option maxRecDepth 65536 in
theorem w_c21 : (Jvm.Cond.code ({ cls := "java/lang/AbstractStringBuilder", name := "isLatin1", desc := "()Z" } : Jvm.MethodName) jdk_68_method_68_code (1 : Nat) (Option.some Jvm.ClassFile.FieldType.boolean)).before args0 about1 = true := code_word (m := ⟨13, 7⟩) (meth := k13m7) (c := k13c7) (by decide +kernel) rfl rfl rfl (by decide +kernel)
set_option maxRecDepth 65536 in
theorem w_c22 : (Jvm.Cond.code ({ cls := "java/util/Arrays", name := "copyOfRange", desc := "([BII)[B" } : Jvm.MethodName) jdk_65_method_132_code (3 : Nat) (Option.some (Jvm.ClassFile.FieldType.array Jvm.ClassFile.FieldType.byte))).before args0 about1 = true := code_word (m := ⟨16, 3⟩) (meth := k16m3) (c := k16c3) (by decide +kernel) rfl rfl rfl (by decide +kernel)
set_option maxRecDepth 65536 in
theorem w_c23 : (Jvm.Cond.code ({ cls := "com/example/keelrate/keelrate/InputRefusedException", name := "<init>", desc := "(Ljava/lang/String;)V" } : Jvm.MethodName) prog_9_method_1_code (2 : Nat) (Option.none : Option Jvm.ClassFile.FieldType)).before args0 about1 = true := code_word (m := ⟨11, 0⟩) (meth := k11m0) (c := k11c0) (by decide +kernel) rfl rfl rfl (by decide +kernel)
set_option maxRecDepth 65536 in
theorem w_c24 : (Jvm.Cond.code ({ cls := "java/lang/Exception", name := "<init>", desc := "(Ljava/lang/String;)V" } : Jvm.MethodName) jdk_59_method_2_code (2 : Nat) (Option.none : Option Jvm.ClassFile.FieldType)).before args0 about1 = true := code_word (m := ⟨10, 1⟩) (meth := k10m1) (c := k10c1) (by decide +kernel) rfl rfl rfl (by decide +kernel)
set_option maxRecDepth 65536 in
theorem w_c25 : (Jvm.Cond.code ({ cls := "java/lang/Throwable", name := "<init>", desc := "(Ljava/lang/String;)V" } : Jvm.MethodName) jdk_78_method_2_code (2 : Nat) (Option.none : Option Jvm.ClassFile.FieldType)).before args0 about1 = true := code_word (m := ⟨9, 1⟩) (meth := k9m1) (c := k9c1) (by decide +kernel) rfl rfl rfl (by decide +kernel)
set_option maxRecDepth 65536 in
theorem w_c26 : (Jvm.Cond.code ({ cls := "java/lang/Throwable", name := "<init>", desc := "()V" } : Jvm.MethodName) jdk_78_method_1_code (1 : Nat) (Option.none : Option Jvm.ClassFile.FieldType)).before args0 about1 = true := code_word (m := ⟨9, 0⟩) (meth := k9m0) (c := k9c0) (by decide +kernel) rfl rfl rfl (by decide +kernel)
set_option maxRecDepth 65536 in
theorem w_c27 : (Jvm.Cond.code ({ cls := "java/lang/Throwable", name := "getMessage", desc := "()Ljava/lang/String;" } : Jvm.MethodName) jdk_78_method_6_code (1 : Nat) (Option.some (Jvm.ClassFile.FieldType.object "java/lang/String"))).before args0 about1 = true := code_word (m := ⟨9, 2⟩) (meth := k9m2) (c := k9c2) (by decide +kernel) rfl rfl rfl (by decide +kernel)
set_option maxRecDepth 65536 in
theorem w_c28 : (Jvm.Cond.code ({ cls := "com/example/keelrate/keelrate/cli/InputFileNotUtf8PinLaw", name := "at", desc := "(Ljava/lang/String;ILjava/lang/String;I)Z" } : Jvm.MethodName) method_3_code (4 : Nat) (Option.some Jvm.ClassFile.FieldType.boolean)).before args0 about1 = true := code_word (m := ⟨1, 2⟩) (meth := k1m2) (c := k1c2) (by decide +kernel) rfl rfl rfl (by decide +kernel)
set_option maxRecDepth 65536 in
theorem w_c29 : (Jvm.Cond.code ({ cls := "java/lang/String", name := "charAt", desc := "(I)C" } : Jvm.MethodName) jdk_42_method_56_code (2 : Nat) (Option.some Jvm.ClassFile.FieldType.char)).before args0 about1 = true := code_word (m := ⟨7, 4⟩) (meth := k7m4) (c := k7c4) (by decide +kernel) rfl rfl rfl (by decide +kernel)
set_option maxRecDepth 65536 in
theorem w_c30 : (Jvm.Cond.code ({ cls := "java/lang/String", name := "isLatin1", desc := "()Z" } : Jvm.MethodName) jdk_42_method_154_code (1 : Nat) (Option.some Jvm.ClassFile.FieldType.boolean)).before args0 about1 = true := code_word (m := ⟨7, 9⟩) (meth := k7m9) (c := k7c9) (by decide +kernel) rfl rfl rfl (by decide +kernel)
set_option maxRecDepth 65536 in
theorem w_c31 : (Jvm.Cond.code ({ cls := "java/lang/StringLatin1", name := "charAt", desc := "([BI)C" } : Jvm.MethodName) jdk_43_method_2_code (2 : Nat) (Option.some Jvm.ClassFile.FieldType.char)).before args0 about1 = true := code_word (m := ⟨18, 1⟩) (meth := k18m1) (c := k18c1) (by decide +kernel) rfl rfl rfl (by decide +kernel)
set_option maxRecDepth 65536 in
theorem w_c32 : (Jvm.Cond.code ({ cls := "java/lang/String", name := "checkIndex", desc := "(II)V" } : Jvm.MethodName) jdk_42_method_155_code (2 : Nat) (Option.none : Option Jvm.ClassFile.FieldType)).before args0 about1 = true := code_word (m := ⟨7, 10⟩) (meth := k7m10) (c := k7c10) (by decide +kernel) rfl rfl rfl (by decide +kernel)
set_option maxRecDepth 65536 in
theorem w_c33 : (Jvm.Cond.code ({ cls := "jdk/internal/util/Preconditions", name := "checkIndex", desc := "(IILjava/util/function/BiFunction;)I" } : Jvm.MethodName) jdk_41_method_11_code (3 : Nat) (Option.some Jvm.ClassFile.FieldType.int)).before args0 about1 = true := code_word (m := ⟨19, 1⟩) (meth := k19m1) (c := k19c1) (by decide +kernel) rfl rfl rfl (by decide +kernel)
set_option maxRecDepth 65536 in
theorem w_c34 : (Jvm.Cond.code ({ cls := "java/lang/StringUTF16", name := "compress", desc := "([CII)[B" } : Jvm.MethodName) jdk_52_method_16_code (6 : Nat) (Option.some (Jvm.ClassFile.FieldType.array Jvm.ClassFile.FieldType.byte))).before args0 about1 = true := code_word (m := ⟨20, 2⟩) (meth := k20m2) (c := k20c2) (by decide +kernel) rfl rfl rfl (by decide +kernel)
set_option maxRecDepth 65536 in
theorem w_c35 : (Jvm.Cond.code ({ cls := "java/lang/StringUTF16", name := "compress", desc := "([CI[BII)I" } : Jvm.MethodName) jdk_52_method_21_code (7 : Nat) (Option.some Jvm.ClassFile.FieldType.int)).before args0 about1 = true := code_word (m := ⟨20, 3⟩) (meth := k20m3) (c := k20c3) (by decide +kernel) rfl rfl rfl (by decide +kernel)
set_option maxRecDepth 65536 in
theorem w_c36 : (Jvm.Cond.code ({ cls := "java/lang/StringUTF16", name := "coderFromArrayLen", desc := "([BI)B" } : Jvm.MethodName) jdk_52_method_15_code (2 : Nat) (Option.some Jvm.ClassFile.FieldType.byte)).before args0 about1 = true := code_word (m := ⟨20, 1⟩) (meth := k20m1) (c := k20c1) (by decide +kernel) rfl rfl rfl (by decide +kernel)
set_option maxRecDepth 65536 in
theorem w_c37 : (Jvm.Cond.code ({ cls := "java/lang/AbstractStringBuilder", name := "newCapacity", desc := "(I)I" } : Jvm.MethodName) jdk_68_method_10_code (6 : Nat) (Option.some Jvm.ClassFile.FieldType.int)).before args0 about1 = true := code_word (m := ⟨13, 4⟩) (meth := k13m4) (c := k13c4) (by decide +kernel) rfl rfl rfl (by decide +kernel)
set_option maxRecDepth 65536 in
theorem w_c38 : (Jvm.Cond.code ({ cls := "jdk/internal/util/ArraysSupport", name := "newLength", desc := "(III)I" } : Jvm.MethodName) jdk_48_method_27_code (4 : Nat) (Option.some Jvm.ClassFile.FieldType.int)).before args0 about1 = true := code_word (m := ⟨21, 1⟩) (meth := k21m1) (c := k21c1) (by decide +kernel) rfl rfl rfl (by decide +kernel)
set_option maxRecDepth 65536 in
theorem w_c39 : (Jvm.Cond.code ({ cls := "java/lang/Math", name := "max", desc := "(II)I" } : Jvm.MethodName) jdk_29_method_65_code (2 : Nat) (Option.some Jvm.ClassFile.FieldType.int)).before args0 about1 = true := code_word (m := ⟨22, 1⟩) (meth := k22m1) (c := k22c1) (by decide +kernel) rfl rfl rfl (by decide +kernel)
set_option maxRecDepth 65536 in
theorem w_c40 : (Jvm.Cond.code ({ cls := "java/util/Arrays", name := "copyOf", desc := "([BI)[B" } : Jvm.MethodName) jdk_65_method_121_code (3 : Nat) (Option.some (Jvm.ClassFile.FieldType.array Jvm.ClassFile.FieldType.byte))).before args0 about1 = true := code_word (m := ⟨16, 1⟩) (meth := k16m1) (c := k16c1) (by decide +kernel) rfl rfl rfl (by decide +kernel)
set_option maxRecDepth 65536 in
theorem w_c41 : (Jvm.Cond.code ({ cls := "java/lang/Math", name := "min", desc := "(II)I" } : Jvm.MethodName) jdk_29_method_69_code (2 : Nat) (Option.some Jvm.ClassFile.FieldType.int)).before args0 about1 = true := code_word (m := ⟨22, 2⟩) (meth := k22m2) (c := k22c2) (by decide +kernel) rfl rfl rfl (by decide +kernel)
set_option maxRecDepth 65536 in
theorem w_c42 : (Jvm.Cond.code ({ cls := "java/util/Arrays", name := "copyOfRangeByte", desc := "([BII)[B" } : Jvm.MethodName) jdk_65_method_133_code (5 : Nat) (Option.some (Jvm.ClassFile.FieldType.array Jvm.ClassFile.FieldType.byte))).before args0 about1 = true := code_word (m := ⟨16, 4⟩) (meth := k16m4) (c := k16c4) (by decide +kernel) rfl rfl rfl (by decide +kernel)
set_option maxRecDepth 65536 in
theorem w_c43 : (Jvm.Cond.code ({ cls := "java/util/Arrays", name := "checkLength", desc := "(II)V" } : Jvm.MethodName) jdk_65_method_131_code (2 : Nat) (Option.none : Option Jvm.ClassFile.FieldType)).before args0 about1 = true := code_word (m := ⟨16, 2⟩) (meth := k16m2) (c := k16c2) (by decide +kernel) rfl rfl rfl (by decide +kernel)
def codes1 : List Jvm.Cond := [Jvm.Cond.code x code maxLocals ret, Jvm.Cond.code ({ cls := "java/lang/String", name := "<init>", desc := "([C)V" } : Jvm.MethodName) jdk_42_method_3_code (2 : Nat) (Option.none : Option Jvm.ClassFile.FieldType), Jvm.Cond.code ({ cls := "java/lang/String", name := "<init>", desc := "([CIILjava/lang/Void;)V" } : Jvm.MethodName) jdk_42_method_149_code (6 : Nat) (Option.none : Option Jvm.ClassFile.FieldType), Jvm.Cond.code ({ cls := "java/lang/Object", name := "<init>", desc := "()V" } : Jvm.MethodName) object_method_1_code (1 : Nat) (Option.none : Option Jvm.ClassFile.FieldType), Jvm.Cond.code ({ cls := "com/example/keelrate/keelrate/cli/InputFile", name := "notUtf8", desc := "(Ljava/lang/String;)Lcom/example/keelrate/keelrate/InputRefusedException;" } : Jvm.MethodName) prog_20_method_3_code (1 : Nat) (Option.some (Jvm.ClassFile.FieldType.object "com/example/keelrate/keelrate/InputRefusedException")), Jvm.Cond.code ({ cls := "java/lang/StringBuilder", name := "<init>", desc := "()V" } : Jvm.MethodName) jdk_67_method_1_code (1 : Nat) (Option.none : Option Jvm.ClassFile.FieldType), Jvm.Cond.code ({ cls := "java/lang/AbstractStringBuilder", name := "<init>", desc := "(I)V" } : Jvm.MethodName) jdk_68_method_2_code (2 : Nat) (Option.none : Option Jvm.ClassFile.FieldType), Jvm.Cond.code ({ cls := "java/lang/StringBuilder", name := "append", desc := "(Ljava/lang/String;)Ljava/lang/StringBuilder;" } : Jvm.MethodName) jdk_67_method_7_code (2 : Nat) (Option.some (Jvm.ClassFile.FieldType.object "java/lang/StringBuilder")), Jvm.Cond.code ({ cls := "java/lang/AbstractStringBuilder", name := "append", desc := "(Ljava/lang/String;)Ljava/lang/AbstractStringBuilder;" } : Jvm.MethodName) jdk_68_method_22_code (3 : Nat) (Option.some (Jvm.ClassFile.FieldType.object "java/lang/AbstractStringBuilder")), Jvm.Cond.code ({ cls := "java/lang/String", name := "length", desc := "()I" } : Jvm.MethodName) jdk_42_method_54_code (1 : Nat) (Option.some Jvm.ClassFile.FieldType.int), Jvm.Cond.code ({ cls := "java/lang/String", name := "coder", desc := "()B" } : Jvm.MethodName) jdk_42_method_152_code (1 : Nat) (Option.some Jvm.ClassFile.FieldType.byte), Jvm.Cond.code ({ cls := "java/lang/AbstractStringBuilder", name := "ensureCapacityInternal", desc := "(I)V" } : Jvm.MethodName) jdk_68_method_9_code (3 : Nat) (Option.none : Option Jvm.ClassFile.FieldType), Jvm.Cond.code ({ cls := "java/lang/AbstractStringBuilder", name := "putStringAt", desc := "(ILjava/lang/String;)V" } : Jvm.MethodName) jdk_68_method_73_code (3 : Nat) (Option.none : Option Jvm.ClassFile.FieldType), Jvm.Cond.code ({ cls := "java/lang/AbstractStringBuilder", name := "inflateIfNeededFor", desc := "(Ljava/lang/String;)V" } : Jvm.MethodName) jdk_68_method_71_code (2 : Nat) (Option.none : Option Jvm.ClassFile.FieldType), Jvm.Cond.code ({ cls := "java/lang/String", name := "getBytes", desc := "([BIB)V" } : Jvm.MethodName) jdk_42_method_147_code (4 : Nat) (Option.none : Option Jvm.ClassFile.FieldType), Jvm.Cond.code ({ cls := "java/lang/StringBuilder", name := "toString", desc := "()Ljava/lang/String;" } : Jvm.MethodName) jdk_67_method_42_code (1 : Nat) (Option.some (Jvm.ClassFile.FieldType.object "java/lang/String")), Jvm.Cond.code ({ cls := "java/lang/String", name := "<init>", desc := "(Ljava/lang/StringBuilder;)V" } : Jvm.MethodName) jdk_42_method_53_code (2 : Nat) (Option.none : Option Jvm.ClassFile.FieldType), Jvm.Cond.code ({ cls := "java/lang/String", name := "<init>", desc := "(Ljava/lang/AbstractStringBuilder;Ljava/lang/Void;)V" } : Jvm.MethodName) jdk_42_method_150_code (5 : Nat) (Option.none : Option Jvm.ClassFile.FieldType), Jvm.Cond.code ({ cls := "java/lang/AbstractStringBuilder", name := "getValue", desc := "()[B" } : Jvm.MethodName) jdk_68_method_64_code (1 : Nat) (Option.some (Jvm.ClassFile.FieldType.array Jvm.ClassFile.FieldType.byte)), Jvm.Cond.code ({ cls := "java/lang/StringBuilder", name := "length", desc := "()I" } : Jvm.MethodName) jdk_67_method_93_code (1 : Nat) (Option.some Jvm.ClassFile.FieldType.int), Jvm.Cond.code ({ cls := "java/lang/AbstractStringBuilder", name := "length", desc := "()I" } : Jvm.MethodName) jdk_68_method_6_code (1 : Nat) (Option.some Jvm.ClassFile.FieldType.int), Jvm.Cond.code ({ cls := "java/lang/AbstractStringBuilder", name := "isLatin1", desc := "()Z" } : Jvm.MethodName) jdk_68_method_68_code (1 : Nat) (Option.some Jvm.ClassFile.FieldType.boolean), Jvm.Cond.code ({ cls := "java/util/Arrays", name := "copyOfRange", desc := "([BII)[B" } : Jvm.MethodName) jdk_65_method_132_code (3 : Nat) (Option.some (Jvm.ClassFile.FieldType.array Jvm.ClassFile.FieldType.byte)), Jvm.Cond.code ({ cls := "com/example/keelrate/keelrate/InputRefusedException", name := "<init>", desc := "(Ljava/lang/String;)V" } : Jvm.MethodName) prog_9_method_1_code (2 : Nat) (Option.none : Option Jvm.ClassFile.FieldType), Jvm.Cond.code ({ cls := "java/lang/Exception", name := "<init>", desc := "(Ljava/lang/String;)V" } : Jvm.MethodName) jdk_59_method_2_code (2 : Nat) (Option.none : Option Jvm.ClassFile.FieldType), Jvm.Cond.code ({ cls := "java/lang/Throwable", name := "<init>", desc := "(Ljava/lang/String;)V" } : Jvm.MethodName) jdk_78_method_2_code (2 : Nat) (Option.none : Option Jvm.ClassFile.FieldType), Jvm.Cond.code ({ cls := "java/lang/Throwable", name := "<init>", desc := "()V" } : Jvm.MethodName) jdk_78_method_1_code (1 : Nat) (Option.none : Option Jvm.ClassFile.FieldType), Jvm.Cond.code ({ cls := "java/lang/Throwable", name := "getMessage", desc := "()Ljava/lang/String;" } : Jvm.MethodName) jdk_78_method_6_code (1 : Nat) (Option.some (Jvm.ClassFile.FieldType.object "java/lang/String")), Jvm.Cond.code ({ cls := "com/example/keelrate/keelrate/cli/InputFileNotUtf8PinLaw", name := "at", desc := "(Ljava/lang/String;ILjava/lang/String;I)Z" } : Jvm.MethodName) method_3_code (4 : Nat) (Option.some Jvm.ClassFile.FieldType.boolean), Jvm.Cond.code ({ cls := "java/lang/String", name := "charAt", desc := "(I)C" } : Jvm.MethodName) jdk_42_method_56_code (2 : Nat) (Option.some Jvm.ClassFile.FieldType.char), Jvm.Cond.code ({ cls := "java/lang/String", name := "isLatin1", desc := "()Z" } : Jvm.MethodName) jdk_42_method_154_code (1 : Nat) (Option.some Jvm.ClassFile.FieldType.boolean), Jvm.Cond.code ({ cls := "java/lang/StringLatin1", name := "charAt", desc := "([BI)C" } : Jvm.MethodName) jdk_43_method_2_code (2 : Nat) (Option.some Jvm.ClassFile.FieldType.char), Jvm.Cond.code ({ cls := "java/lang/String", name := "checkIndex", desc := "(II)V" } : Jvm.MethodName) jdk_42_method_155_code (2 : Nat) (Option.none : Option Jvm.ClassFile.FieldType), Jvm.Cond.code ({ cls := "jdk/internal/util/Preconditions", name := "checkIndex", desc := "(IILjava/util/function/BiFunction;)I" } : Jvm.MethodName) jdk_41_method_11_code (3 : Nat) (Option.some Jvm.ClassFile.FieldType.int), Jvm.Cond.code ({ cls := "java/lang/StringUTF16", name := "compress", desc := "([CII)[B" } : Jvm.MethodName) jdk_52_method_16_code (6 : Nat) (Option.some (Jvm.ClassFile.FieldType.array Jvm.ClassFile.FieldType.byte)), Jvm.Cond.code ({ cls := "java/lang/StringUTF16", name := "compress", desc := "([CI[BII)I" } : Jvm.MethodName) jdk_52_method_21_code (7 : Nat) (Option.some Jvm.ClassFile.FieldType.int), Jvm.Cond.code ({ cls := "java/lang/StringUTF16", name := "coderFromArrayLen", desc := "([BI)B" } : Jvm.MethodName) jdk_52_method_15_code (2 : Nat) (Option.some Jvm.ClassFile.FieldType.byte), Jvm.Cond.code ({ cls := "java/lang/AbstractStringBuilder", name := "newCapacity", desc := "(I)I" } : Jvm.MethodName) jdk_68_method_10_code (6 : Nat) (Option.some Jvm.ClassFile.FieldType.int), Jvm.Cond.code ({ cls := "jdk/internal/util/ArraysSupport", name := "newLength", desc := "(III)I" } : Jvm.MethodName) jdk_48_method_27_code (4 : Nat) (Option.some Jvm.ClassFile.FieldType.int), Jvm.Cond.code ({ cls := "java/lang/Math", name := "max", desc := "(II)I" } : Jvm.MethodName) jdk_29_method_65_code (2 : Nat) (Option.some Jvm.ClassFile.FieldType.int), Jvm.Cond.code ({ cls := "java/util/Arrays", name := "copyOf", desc := "([BI)[B" } : Jvm.MethodName) jdk_65_method_121_code (3 : Nat) (Option.some (Jvm.ClassFile.FieldType.array Jvm.ClassFile.FieldType.byte)), Jvm.Cond.code ({ cls := "java/lang/Math", name := "min", desc := "(II)I" } : Jvm.MethodName) jdk_29_method_69_code (2 : Nat) (Option.some Jvm.ClassFile.FieldType.int), Jvm.Cond.code ({ cls := "java/util/Arrays", name := "copyOfRangeByte", desc := "([BII)[B" } : Jvm.MethodName) jdk_65_method_133_code (5 : Nat) (Option.some (Jvm.ClassFile.FieldType.array Jvm.ClassFile.FieldType.byte)), Jvm.Cond.code ({ cls := "java/util/Arrays", name := "checkLength", desc := "(II)V" } : Jvm.MethodName) jdk_65_method_131_code (2 : Nat) (Option.none : Option Jvm.ClassFile.FieldType)]
set_option maxRecDepth 65536 in
theorem codes_eq : words1.filter isCode = codes1 := rfl
theorem w_codes : ∀ c ∈ words1.filter isCode, c.before args0 about1 = true := by
  rw [codes_eq]
  intro c hc
  simp only [codes1, List.mem_cons, List.not_mem_nil, or_false] at hc
  rcases hc with rfl | rfl | rfl | rfl | rfl | rfl | rfl | rfl | rfl | rfl | rfl | rfl | rfl | rfl | rfl | rfl | rfl | rfl | rfl | rfl | rfl | rfl | rfl | rfl | rfl | rfl | rfl | rfl | rfl | rfl | rfl | rfl | rfl | rfl | rfl | rfl | rfl | rfl | rfl | rfl | rfl | rfl | rfl | rfl
  · exact w_c0
  · exact w_c1
  · exact w_c2
  · exact w_c3
  · exact w_c4
  · exact w_c5
  · exact w_c6
  · exact w_c7
  · exact w_c8
  · exact w_c9
  · exact w_c10
  · exact w_c11
  · exact w_c12
  · exact w_c13
  · exact w_c14
  · exact w_c15
  · exact w_c16
  · exact w_c17
  · exact w_c18
  · exact w_c19
  · exact w_c20
  · exact w_c21
  · exact w_c22
  · exact w_c23
  · exact w_c24
  · exact w_c25
  · exact w_c26
  · exact w_c27
  · exact w_c28
  · exact w_c29
  · exact w_c30
  · exact w_c31
  · exact w_c32
  · exact w_c33
  · exact w_c34
  · exact w_c35
  · exact w_c36
  · exact w_c37
  · exact w_c38
  · exact w_c39
  · exact w_c40
  · exact w_c41
  · exact w_c42
  · exact w_c43
set_option maxRecDepth 65536 in
theorem w_t1 : (words1.take 24).all (fun c => isCode c || c.before args0 about1) = true := by decide +kernel
set_option maxRecDepth 65536 in
theorem w_t2 : ((words1.drop 24).take 24).all (fun c => isCode c || c.before args0 about1) = true := by decide +kernel
set_option maxRecDepth 65536 in
theorem w_t3 : (((words1.drop 24).drop 24).take 24).all (fun c => isCode c || c.before args0 about1) = true := by decide +kernel
set_option maxRecDepth 65536 in
theorem w_t4 : ((((words1.drop 24).drop 24).drop 24).take 24).all (fun c => isCode c || c.before args0 about1) = true := by decide +kernel
set_option maxRecDepth 65536 in
theorem w_t5 : (((((words1.drop 24).drop 24).drop 24).drop 24).take 24).all (fun c => isCode c || c.before args0 about1) = true := by decide +kernel
set_option maxRecDepth 65536 in
theorem w_t6 : ((((((words1.drop 24).drop 24).drop 24).drop 24).drop 24).take 24).all (fun c => isCode c || c.before args0 about1) = true := by decide +kernel
set_option maxRecDepth 65536 in
theorem w_t7 : (((((((words1.drop 24).drop 24).drop 24).drop 24).drop 24).drop 24).take 24).all (fun c => isCode c || c.before args0 about1) = true := by decide +kernel
set_option maxRecDepth 65536 in
theorem w_t8 : ((((((((words1.drop 24).drop 24).drop 24).drop 24).drop 24).drop 24).drop 24).take 24).all (fun c => isCode c || c.before args0 about1) = true := by decide +kernel
set_option maxRecDepth 65536 in
theorem w_t9 : (((((((((words1.drop 24).drop 24).drop 24).drop 24).drop 24).drop 24).drop 24).drop 24).take 24).all (fun c => isCode c || c.before args0 about1) = true := by decide +kernel
set_option maxRecDepth 65536 in
theorem w_t10 : ((((((((((words1.drop 24).drop 24).drop 24).drop 24).drop 24).drop 24).drop 24).drop 24).drop 24).take 24).all (fun c => isCode c || c.before args0 about1) = true := by decide +kernel
set_option maxRecDepth 65536 in
theorem w_t11 : ((((((((((words1.drop 24).drop 24).drop 24).drop 24).drop 24).drop 24).drop 24).drop 24).drop 24).drop 24).all (fun c => isCode c || c.before args0 about1) = true := by decide +kernel
theorem w_tables : (allAtoms (Jvm.Cond.code x code maxLocals ret :: tables_1)).before args0 about1 = true := by
  rw [allAtoms_all]
  show words1.all (fun c => c.before args0 about1) = true
  refine all_split ?_ w_codes
  rw [← List.take_append_drop 24 words1, List.all_append, w_t1, ← List.take_append_drop 24 (words1.drop 24), List.all_append, w_t2, ← List.take_append_drop 24 ((words1.drop 24).drop 24), List.all_append, w_t3, ← List.take_append_drop 24 (((words1.drop 24).drop 24).drop 24), List.all_append, w_t4, ← List.take_append_drop 24 ((((words1.drop 24).drop 24).drop 24).drop 24), List.all_append, w_t5, ← List.take_append_drop 24 (((((words1.drop 24).drop 24).drop 24).drop 24).drop 24), List.all_append, w_t6, ← List.take_append_drop 24 ((((((words1.drop 24).drop 24).drop 24).drop 24).drop 24).drop 24), List.all_append, w_t7, ← List.take_append_drop 24 (((((((words1.drop 24).drop 24).drop 24).drop 24).drop 24).drop 24).drop 24), List.all_append, w_t8, ← List.take_append_drop 24 ((((((((words1.drop 24).drop 24).drop 24).drop 24).drop 24).drop 24).drop 24).drop 24), List.all_append, w_t9, ← List.take_append_drop 24 (((((((((words1.drop 24).drop 24).drop 24).drop 24).drop 24).drop 24).drop 24).drop 24).drop 24), List.all_append, w_t10, w_t11]
  rfl
set_option maxRecDepth 65536 in
theorem w_rest : rest_1_c.before args0 about1 = true := by decide +kernel
set_option maxRecDepth 65536 in
theorem w_case : (Jvm.Cond.and given_1 narrow_1).before args0 about1 = true := by decide +kernel
set_option maxRecDepth 65536 in
theorem w_consts : constsHeld consts_1 about1 := Jvm.Lit.constsHeldB_iff.mp (by decide +kernel)
theorem w_applies : (headSpec (Jvm.Cond.code x code maxLocals ret :: tables_1) room_1).applies x e0.platform about1 = true :=
  (Spec.applies_iff w_frames).mpr ⟨w_running, w_runnable, w_alone, w_named, w_hears, w_ripe, w_room, w_tables⟩
theorem atStart : AtStart classFile x code maxLocals ret World_1 tables_1 room_1 Calls_1 rest_1 Pre_1 launch0 p0 e0 about1 theMethod args0 below0 :=
  ⟨lists_1, trivial, launch0.admits_env _ _ _, launch0.least_env, fairChoices_fair.cas, fairChoices_fair.clock, w_frames, w_args, w_heap, w_applies, ⟨(by decide +kernel : framesKnown about1 = true), ⟨(by decide +kernel : tablesKnown about1 = true), ⟨w_consts, trivial⟩⟩⟩, w_rest, w_case⟩
end start1
theorem witness_1 : WitnessClaimed_1 := ⟨start1.p0, start1.e0, start1.about1, start1.theMethod, start1.args0, start1.below0, start1.atStart⟩
end Jvm.Pilot.@@N@@
