import JvmDerived
import JvmDerived.Pilot.@@N@@Statement
import JvmDerived.Pilot.@@N@@Code
set_option linter.unusedVariables false
set_option linter.unusedSimpArgs false
@@BLOCK:NumsL.lean.txt@@
namespace Jvm.Pilot.@@N@@
open Jvm Jvm.ClassFile Sem Op Lib Jvm.Free Jvm.Stand Jvm.LawKit Jvm.RoadKit Bundle Jvm.Pilot.@@N@@.Jvm.D
section Own
variable {p : Program} {l : Launch} {e : Env} {R : Room} {s : State} {m : MethodId} {args : Array Value} {below : List Frame} {meth : Method} {c : Code} {T : State} {locs : List Loc} {cells slots : Nat} {Z : State} {a0 : Array Value} {h : Heap}
/-- a walk that goes forward: from S the run comes to an end of which P holds -/
def own_G (p : Program) (e : Env) (below : List Frame) (S : State) (P : Outcome → State → Prop) : Prop :=
  ∃ s₂ o, Steps p.tables e below S s₂ ∧ s₂.status = .running ∧ Ended s₂ below o ∧ P o s₂
/-- what a body leaves -/
def own_P (s : State) (Q : Option Value → Heap → List Loc → Prop) (kc ks : Nat) (o : Outcome) (U : State) : Prop := ∃ v L, o = .returned v ∧ Q v U.heap L ∧ FrameEnd s o U L kc ks
theorem oS {S S' : State} {P : Outcome → State → Prop} (k : ∀ t, Steps p.tables e below S' t → Steps p.tables e below S t) (h : own_G p e below S' P) : own_G p e below S P := by
  obtain ⟨s2, o, h1, h2⟩ := h; exact ⟨s2, o, k _ h1, h2⟩
theorem oW {Z : State} {a0 : Array Value} (hw : ∀ d ∈ tables_1, d.before a0 Z = true) (i : Nat) {d : Jvm.Cond} (q : tables_1[i]? = some d) : d.before a0 Z = true := hw _ (List.mem_of_getElem? q)
theorem own_cast {g g' : JFrame} {P : Outcome → State → Prop} (q : g = g') (k : own_G p e below (T.setTop g') P) : own_G p e below (T.setTop g) P := q ▸ k
theorem own_leave (X : Stand p l e R s m args below meth c T locs cells slots) {g : JFrame} {v : Option Value} {Q : Option Value → Heap → List Loc → Prop} {kc ks : Nat} (hlocks : meth.locks = false) (hv : meth.sig.returnType = none → v = none)
    (k : ∀ fs, (∀ (f : JFrame) (acts : List Action), f.method = m → f.locked = none → f.entered = [] → (doReturn e (T.setTop f) acts v).1 = T.setFrames fs) → Steps p.tables e below (T.setTop g) (T.setFrames fs))
    (eT : T.heap = h) (hc : cells ≤ kc) (hs : slots ≤ ks) (hq : Q v h locs) : own_G p e below (T.setTop g) (own_P s Q kc ks) := by
  obtain ⟨fs, hr, hrun, hended, hW, hsame⟩ := X.leave (v := v) hv hlocks
  exact ⟨_, _, k fs hr, hrun, hended, _, _, rfl, by show Q v T.heap locs; rw [eT]; exact hq, ⟨_, rfl⟩, hW, hsame.mono hc hs⟩
theorem own_retN (X : Stand p l e R s m args below meth c T locs cells slots) (hx : p.tables.exec = Jvm.exec) {pc : Nat} {Ls : Array Slot} {z : Int32} {t : FieldType} {rest : List Value} {Q : Option Value → Heap → List Loc → Prop} {kc ks : Nat} (hlocks : meth.locks = false) (hret : meth.sig.returnType = some t) (ht : t = .boolean ∨ t = .byte ∨ t = .char ∨ t = .short)
    (hd : decode c.code pc = .ok (.ireturn, 1)) (hn : nar t z = z) (eT : T.heap = h) (hc : cells ≤ kc) (hs : slots ≤ ks) (hq : Q (some (.int z)) h locs) : own_G p e below (T.setTop (mkF m pc Ls (.int z :: rest))) (own_P s Q kc ks) :=
  own_leave X (v := some (.int z)) hlocks (fun q => by rw [hret] at q; cases q) (fun fs hl => retN X hx hret ht hd (by rw [hn]; exact hl)) eT hc hs hq
theorem own_retI (X : Stand p l e R s m args below meth c T locs cells slots) (hx : p.tables.exec = Jvm.exec) {pc : Nat} {Ls : Array Slot} {z : Int32} {rest : List Value} {Q : Option Value → Heap → List Loc → Prop} {kc ks : Nat} (hlocks : meth.locks = false) (hret : meth.sig.returnType = some .int)
    (hd : decode c.code pc = .ok (.ireturn, 1)) (eT : T.heap = h) (hc : cells ≤ kc) (hs : slots ≤ ks) (hq : Q (some (.int z)) h locs) : own_G p e below (T.setTop (mkF m pc Ls (.int z :: rest))) (own_P s Q kc ks) :=
  own_leave X (v := some (.int z)) hlocks (fun q => by rw [hret] at q; cases q) (fun fs hl => retOut X hx hret rfl (Or.inl ⟨rfl, Or.inl rfl, _, rfl⟩) hd hl) eT hc hs hq
theorem own_retL (X : Stand p l e R s m args below meth c T locs cells slots) (hx : p.tables.exec = Jvm.exec) {pc : Nat} {Ls : Array Slot} {z : Int64} {rest : List Value} {Q : Option Value → Heap → List Loc → Prop} {kc ks : Nat} (hlocks : meth.locks = false) (hret : meth.sig.returnType = some .long)
    (hd : decode c.code pc = .ok (.lreturn, 1)) (eT : T.heap = h) (hc : cells ≤ kc) (hs : slots ≤ ks) (hq : Q (some (.long z)) h locs) : own_G p e below (T.setTop (mkF m pc Ls (.long z :: rest))) (own_P s Q kc ks) :=
  own_leave X (v := some (.long z)) hlocks (fun q => by rw [hret] at q; cases q) (fun fs hl => retOut X hx hret rfl (Or.inr (Or.inl ⟨rfl, rfl, _, rfl⟩)) hd hl) eT hc hs hq
theorem own_narR {t : FieldType} {w : Value} (h : w.isRef = true) : narrow t w = w := by
  rcases ref_cases h with rfl | ⟨a, rfl⟩ <;> cases t <;> rfl
theorem own_retA (X : Stand p l e R s m args below meth c T locs cells slots) (hx : p.tables.exec = Jvm.exec) {pc : Nat} {Ls : Array Slot} {w : Value} {t : FieldType} {rest : List Value} {Q : Option Value → Heap → List Loc → Prop} {kc ks : Nat} (hlocks : meth.locks = false) (hret : meth.sig.returnType = some t) (ht : t.isReference = true) (hw : w.isRef = true)
    (hd : decode c.code pc = .ok (.areturn, 1)) (eT : T.heap = h) (hc : cells ≤ kc) (hs : slots ≤ ks) (hq : Q (some w) h locs) : own_G p e below (T.setTop (mkF m pc Ls (w :: rest))) (own_P s Q kc ks) :=
  own_leave X (v := some w) hlocks (fun q => by rw [hret] at q; cases q) (fun fs hl => retOut X hx hret (own_narR hw) (Or.inr (Or.inr (Or.inr (Or.inr ⟨rfl, ht, hw⟩)))) hd hl) eT hc hs hq
theorem own_retV (X : Stand p l e R s m args below meth c T locs cells slots) (hx : p.tables.exec = Jvm.exec) {pc : Nat} {Ls : Array Slot} {Q : Option Value → Heap → List Loc → Prop} {kc ks : Nat} (hlocks : meth.locks = false) (hret : meth.sig.returnType = none)
    (hd : decode c.code pc = .ok (.return_, 1)) (eT : T.heap = h) (hc : cells ≤ kc) (hs : slots ≤ ks) (hq : Q none h locs) : own_G p e below (T.setTop (mkF m pc Ls [])) (own_P s Q kc ks) :=
  own_leave X (v := none) hlocks (fun _ => rfl) (fun fs hl => X.returnOut hx hret hd hl) eT hc hs hq
abbrev own_Met (l : Launch) (Z : State) (h : Heap) (y : MethodName) (bytes : ByteArray) (maxL : Nat) (ret : Option FieldType) (ws : List Jvm.Cond) (rm : Room) (as' : Array Value) (Q : Option Value → Heap → List Loc → Prop) (kc ks : Nat) : Prop :=
  MetFree l y (head1 (Jvm.Cond.code y bytes maxL ret :: ws) rm) (fun a U => a = as' ∧ Z.Warmed39 U.vm ∧ U.heap = h) (fun _ _ _ _ _ => True) (fun _ U o U' => ∃ v L, o = .returned v ∧ Q v U'.heap L ∧ FrameEnd U o U' L kc ks)
variable {own : String} {index : Nat} {y : MethodName} {bytes : ByteArray} {maxL : Nat} {ret : Option FieldType} {rm : Room} {W : Nat} {as' : Array Value} {Q : Option Value → Heap → List Loc → Prop}
abbrev own_After (p : Program) (l : Launch) (e : Env) (R : Room) (s : State) (m : MethodId) (args : Array Value) (below : List Frame) (meth : Method) (c : Code) (T : State) (locs : List Loc) (kc ks : Nat) (g : JFrame) (rest : List Value) (Q : Option Value → Heap → List Loc → Prop) (len : Nat := 3) : Prop :=
  ∃ (T' : State) (h' : Heap) (v : Option Value) (L : List Loc), Stand p l e R s m args below meth c T' (locs ++ L) kc ks ∧ T'.heap = h' ∧ Q v h' L ∧ ∀ target, Steps p.tables e below (T'.setTop { g with pc := g.pc + len, stack := v.toList ++ rest }) target → Steps p.tables e below (T.setTop g) target
theorem own_callS (X : Stand p l e R s m args below meth c T locs cells slots) (hx : p.tables.exec = Jvm.exec) (hZ : Z.Warmed39 s.vm) (hown : s.vm.findClass own = some m.cls) (eT : T.heap = h)
    (w1 : (Jvm.Cond.methodLink own index y).before a0 Z = true) (w2 : (Jvm.Cond.static y).before a0 Z = true) (w3 : (Jvm.Cond.initialized y.cls).before a0 Z = true) (w4 : (Jvm.Cond.code y bytes maxL ret).before a0 Z = true) (hy : y.cls ≠ "java/lang/invoke/MethodHandle" ∧ y.cls ≠ "java/lang/invoke/VarHandle")
    (hM : own_Met l Z h y bytes maxL ret [] rm as' Q rm.cells rm.slots)
    (hf : rm.frames + 1 ≤ R.frames) (hl : W + (maxL + 11) + rm.locals ≤ R.locals) (hc : cells + rm.cells ≤ R.cells) (hsl : slots + rm.slots ≤ R.slots)
    {g : JFrame} (hg : g.method = m) (hsize : g.locals.size = c.maxLocals) {argsL rest : List Value} (has : argsL.toArray = as') (hlen : ∀ sig, parseMethodDescriptor y.desc = some sig → argsL.length = sig.parameters.length)
    (hstack : g.stack = argsL.reverse ++ rest) (hW : 2 * g.monitorRoom + (rest.map fun v => v.category).sum ≤ W) (hd : decode c.code g.pc = .ok (.invokestatic index, 3)) :
    own_After p l e R s m args below meth c T locs (cells + rm.cells) (slots + rm.slots) g rest Q := by
  obtain ⟨v, vm1, ⟨T', L', k', n'⟩, -, X', ⟨Lc, hQ, l1, y1, z1⟩, st⟩ := Jvm.LawKit.callS X hx (y := y) hown (mvT hZ w1) (mvT hZ w2) (mvT hZ w3) (mvT hZ w4) hy (backOf (W := W) hM hZ w4 w3 hf hl) hg hsize hlen hstack hW hd (fun _ _ => ⟨has, eT, hc, hsl⟩)
  dsimp only [Pt.U, Pt.locs, Pt.cells, Pt.slots] at X' l1 y1 z1 st hQ
  subst l1 y1 z1
  exact ⟨T', _, v, Lc, X', rfl, hQ, st⟩
theorem own_callV (X : Stand p l e R s m args below meth c T locs cells slots) (hx : p.tables.exec = Jvm.exec) (hZ : Z.Warmed39 s.vm) (hown : s.vm.findClass own = some m.cls) (eT : T.heap = h) {z : MethodName} {C : String} {b : Addr}
    (w1 : (Jvm.Cond.methodLink own index y).before a0 Z = true) (w2 : (Jvm.Cond.declares y).before a0 Z = true) (nf : NotFace s y) (w3 : (Jvm.Cond.selects C y z).before a0 Z = true) (w5 : (Jvm.Cond.instanceMethod z).before a0 Z = true) (w6 : (Jvm.Cond.initialized z.cls).before a0 Z = true) (w4 : (Jvm.Cond.code z bytes maxL ret).before a0 Z = true) (hy : y.cls ≠ "java/lang/invoke/MethodHandle" ∧ y.cls ≠ "java/lang/invoke/VarHandle")
    (E : Exa Z h b C) (hM : own_Met l Z h z bytes maxL ret [] rm as' Q rm.cells rm.slots)
    (hf : rm.frames + 1 ≤ R.frames) (hl : W + (maxL + 11) + rm.locals ≤ R.locals) (hc : cells + rm.cells ≤ R.cells) (hsl : slots + rm.slots ≤ R.slots)
    {g : JFrame} (hg : g.method = m) (hsize : g.locals.size = c.maxLocals) {argsL rest : List Value} (has : (.ref b :: argsL).toArray = as') (hlen : ∀ sig, parseMethodDescriptor y.desc = some sig → argsL.length = sig.parameters.length)
    (hstack : g.stack = argsL.reverse ++ .ref b :: rest) (hW : 2 * g.monitorRoom + (rest.map fun v => v.category).sum ≤ W) (hd : decode c.code g.pc = .ok (.invokevirtual index, 3)) :
    own_After p l e R s m args below meth c T locs (cells + rm.cells) (slots + rm.slots) g rest Q := by
  obtain ⟨cq, kq, q1, q2, q3⟩ := isOf hZ eT E
  obtain ⟨v, vm1, ⟨T', L', k', n'⟩, -, X', ⟨Lc, hQ, l1, y1, z1⟩, st⟩ := X.virtualBack hx (y := y) (z := z) hown (mvT hZ w1) (mvT hZ w2) nf (mvT hZ w3) (mvT hZ w5) hy (backOf (W := W) hM hZ w4 w6 hf hl) q1 q3 hg hsize (Steps.refl _) hlen hstack hW hd (fun _ _ => ⟨has, eT, hc, hsl⟩)
  dsimp only [Pt.U, Pt.locs, Pt.cells, Pt.slots] at X' l1 y1 z1 st hQ
  subst l1 y1 z1
  exact ⟨T', _, v, Lc, X', rfl, hQ, fun _ k => st.trans k⟩
theorem own_callU (X : Stand p l e R s m args below meth c T locs cells slots) (hx : p.tables.exec = Jvm.exec) (hZ : Z.Warmed39 s.vm) (hown : s.vm.findClass own = some m.cls) (eT : T.heap = h) {z : MethodName} {C owner : String} {b : Addr}
    (w1 : (Jvm.Cond.methodLink own index y).before a0 Z = true) (w2 : (Jvm.Cond.sameMethod y.cls owner y.name y.desc).before a0 Z = true) (w7 : (Jvm.Cond.declares ⟨owner, y.name, y.desc⟩).before a0 Z = true) (w3 : (Jvm.Cond.selects C y z).before a0 Z = true) (w5 : (Jvm.Cond.instanceMethod z).before a0 Z = true) (w6 : (Jvm.Cond.initialized z.cls).before a0 Z = true) (w4 : (Jvm.Cond.code z bytes maxL ret).before a0 Z = true) (hy : owner ≠ "java/lang/invoke/MethodHandle" ∧ owner ≠ "java/lang/invoke/VarHandle")
    (E : Exa Z h b C) (hM : own_Met l Z h z bytes maxL ret [] rm as' Q rm.cells rm.slots)
    (hf : rm.frames + 1 ≤ R.frames) (hl : W + (maxL + 11) + rm.locals ≤ R.locals) (hc : cells + rm.cells ≤ R.cells) (hsl : slots + rm.slots ≤ R.slots)
    {g : JFrame} (hg : g.method = m) (hsize : g.locals.size = c.maxLocals) {argsL rest : List Value} (has : (.ref b :: argsL).toArray = as') (hlen : ∀ sig, parseMethodDescriptor y.desc = some sig → argsL.length = sig.parameters.length)
    (hstack : g.stack = argsL.reverse ++ .ref b :: rest) (hW : 2 * g.monitorRoom + (rest.map fun v => v.category).sum ≤ W) (hd : decode c.code g.pc = .ok (.invokevirtual index, 3)) :
    own_After p l e R s m args below meth c T locs (cells + rm.cells) (slots + rm.slots) g rest Q := by
  obtain ⟨cq, kq, q1, q2, q3⟩ := isOf hZ eT E
  obtain ⟨v, vm1, ⟨T', L', k', n'⟩, -, X', ⟨Lc, hQ, l1, y1, z1⟩, st⟩ := X.virtualBackUp hx (x := y) (y := z) (owner := owner) hown (mvT hZ w1) (mvT hZ w2) (mvT hZ w7) hy (mvT hZ w3) (mvT hZ w5) (backOf (W := W) hM hZ w4 w6 hf hl) q1 q3 hg hsize (Steps.refl _) hlen hstack hW hd (fun _ _ => ⟨has, eT, hc, hsl⟩)
  dsimp only [Pt.U, Pt.locs, Pt.cells, Pt.slots] at X' l1 y1 z1 st hQ
  subst l1 y1 z1
  exact ⟨T', _, v, Lc, X', rfl, hQ, fun _ k => st.trans k⟩
theorem own_callN (X : Stand p l e R s m args below meth c T locs cells slots) (hx : p.tables.exec = Jvm.exec) (hZ : Z.Warmed39 s.vm) (hown : s.vm.findClass own = some m.cls) (eT : T.heap = h) {b : Addr} (hy1 : y.name = "<init>")
    (w1 : (Jvm.Cond.methodLink own index y).before a0 Z = true) (w5 : (Jvm.Cond.instanceMethod y).before a0 Z = true) (w6 : (Jvm.Cond.initialized y.cls).before a0 Z = true) (w4 : (Jvm.Cond.code y bytes maxL none).before a0 Z = true) (hy : y.cls ≠ "java/lang/invoke/MethodHandle" ∧ y.cls ≠ "java/lang/invoke/VarHandle")
    (hM : own_Met l Z h y bytes maxL none [] rm as' Q rm.cells rm.slots)
    (hf : rm.frames + 1 ≤ R.frames) (hl : W + (maxL + 11) + rm.locals ≤ R.locals) (hc : cells + rm.cells ≤ R.cells) (hsl : slots + rm.slots ≤ R.slots)
    {g : JFrame} (hg : g.method = m) (hsize : g.locals.size = c.maxLocals) {argsL rest : List Value} (has : (.ref b :: argsL).toArray = as') (hlen : ∀ sig, parseMethodDescriptor y.desc = some sig → argsL.length = sig.parameters.length)
    (hstack : g.stack = argsL.reverse ++ .ref b :: rest) (hW : 2 * g.monitorRoom + (rest.map fun v => v.category).sum ≤ W) (hd : decode c.code g.pc = .ok (.invokespecial index, 3)) :
    own_After p l e R s m args below meth c T locs (cells + rm.cells) (slots + rm.slots) g rest Q := by
  obtain ⟨v, vm1, ⟨T', L', k', n'⟩, -, X', ⟨Lc, hQ, l1, y1, z1⟩, st⟩ := X.specialBack hx (y := y) hy1 hown (mvT hZ w1) (mvT hZ w5) (mvT hZ w4) hy (backOf (W := W) hM hZ w4 w6 hf hl) hg hsize (Steps.refl _) hlen hstack hW hd (fun _ _ => ⟨has, eT, hc, hsl⟩)
  dsimp only [Pt.U, Pt.locs, Pt.cells, Pt.slots] at X' l1 y1 z1 st hQ
  subst l1 y1 z1
  exact ⟨T', _, v, Lc, X', rfl, hQ, fun _ k => st.trans k⟩
theorem own_callI (X : Stand p l e R s m args below meth c T locs cells slots) (hx : p.tables.exec = Jvm.exec) (hZ : Z.Warmed39 s.vm) (hown : s.vm.findClass own = some m.cls) (eT : T.heap = h) {z : MethodName} {C : String} {b : Addr} {count : Nat}
    (w1 : (Jvm.Cond.methodLink own index y).before a0 Z = true) (w2 : (Jvm.Cond.declares y).before a0 Z = true) (w7 : (Jvm.Cond.interfaceMethod y.cls y.cls y.name y.desc).before a0 Z = true) (h7 : ((Jvm.Cond.interfaceMethod y.cls y.cls y.name y.desc).onTables && (Jvm.Cond.interfaceMethod y.cls y.cls y.name y.desc).keepsFace) = true) (w3 : (Jvm.Cond.selects C y z).before a0 Z = true) (w5 : (Jvm.Cond.instanceMethod z).before a0 Z = true) (w8 : (Jvm.Cond.publicMethod z).before a0 Z = true) (w9 : (Jvm.Cond.unhidden C y.name y.desc).before a0 Z = true) (w10 : (Jvm.Cond.castable C y.cls).before a0 Z = true) (w6 : (Jvm.Cond.initialized z.cls).before a0 Z = true) (w4 : (Jvm.Cond.code z bytes maxL ret).before a0 Z = true) (hy : y.cls ≠ "java/lang/invoke/MethodHandle" ∧ y.cls ≠ "java/lang/invoke/VarHandle")
    (E : Exa Z h b C) (hM : own_Met l Z h z bytes maxL ret [] rm as' Q rm.cells rm.slots)
    (hf : rm.frames + 1 ≤ R.frames) (hl : W + (maxL + 11) + rm.locals ≤ R.locals) (hc : cells + rm.cells ≤ R.cells) (hsl : slots + rm.slots ≤ R.slots)
    {g : JFrame} (hg : g.method = m) (hsize : g.locals.size = c.maxLocals) {argsL rest : List Value} (has : (.ref b :: argsL).toArray = as') (hlen : ∀ sig, parseMethodDescriptor y.desc = some sig → argsL.length = sig.parameters.length)
    (hstack : g.stack = argsL.reverse ++ .ref b :: rest) (hW : 2 * g.monitorRoom + (rest.map fun v => v.category).sum ≤ W) (hd : decode c.code g.pc = .ok (.invokeinterface index count, 5)) :
    own_After p l e R s m args below meth c T locs (cells + rm.cells) (slots + rm.slots) g rest Q 5 := by
  obtain ⟨cq, kq, q1, q2, q3⟩ := isOf hZ eT E
  obtain ⟨v, vm1, ⟨T', L', k', n'⟩, -, X', ⟨Lc, hQ, l1, y1, z1⟩, st⟩ := X.interfaceBack hx (xi := y) (y := z) hown (mvT hZ w1) (mvT hZ w2) (mvT hZ w7 h7) (mvT hZ w3) (mvT hZ w5) (mvT hZ w8) (mvT hZ w9) (mvT hZ w10) hy (backOf (W := W) hM hZ w4 w6 hf hl) q1 q2 q3 hg hsize (Steps.refl _) hlen hstack hW hd (fun _ _ => ⟨has, eT, hc, hsl⟩)
  dsimp only [Pt.U, Pt.locs, Pt.cells, Pt.slots] at X' l1 y1 z1 st hQ
  subst l1 y1 z1
  exact ⟨T', _, v, Lc, X', rfl, hQ, fun _ k => st.trans k⟩
theorem own_callP (X : Stand p l e R s m args below meth c T locs cells slots) (hx : p.tables.exec = Jvm.exec) (hZ : Z.Warmed39 s.vm) (hown : s.vm.findClass own = some m.cls) (eT : T.heap = h) {b : Addr} {C : String}
    (w1 : (Jvm.Cond.methodLink own index y).before a0 Z = true) (w5 : (Jvm.Cond.instanceMethod y).before a0 Z = true) (w3 : (Jvm.Cond.selects y.cls y y).before a0 Z = true) (w7 : (Jvm.Cond.privateMethod y).before a0 Z = true) (w6 : (Jvm.Cond.initialized y.cls).before a0 Z = true) (w4 : (Jvm.Cond.code y bytes maxL ret).before a0 Z = true) (hy : y.cls ≠ "java/lang/invoke/MethodHandle" ∧ y.cls ≠ "java/lang/invoke/VarHandle")
    (E : Exa Z h b C) (hM : own_Met l Z h y bytes maxL ret [] rm as' Q rm.cells rm.slots)
    (hf : rm.frames + 1 ≤ R.frames) (hl : W + (maxL + 11) + rm.locals ≤ R.locals) (hc : cells + rm.cells ≤ R.cells) (hsl : slots + rm.slots ≤ R.slots)
    {g : JFrame} (hg : g.method = m) (hsize : g.locals.size = c.maxLocals) {argsL rest : List Value} (has : (.ref b :: argsL).toArray = as') (hlen : ∀ sig, parseMethodDescriptor y.desc = some sig → argsL.length = sig.parameters.length)
    (hstack : g.stack = argsL.reverse ++ .ref b :: rest) (hW : 2 * g.monitorRoom + (rest.map fun v => v.category).sum ≤ W) (hd : decode c.code g.pc = .ok (.invokevirtual index, 3)) :
    own_After p l e R s m args below meth c T locs (cells + rm.cells) (slots + rm.slots) g rest Q := by
  obtain ⟨cell, hcell, hobj⟩ := E.cell
  obtain ⟨v, vm1, ⟨T', L', k', n'⟩, -, X', ⟨Lc, hQ, l1, y1, z1⟩, st⟩ := X.privateBack hx (y := y) hown (mvT hZ w1) (mvT hZ w5) (mvT hZ w3) (Cond.privateMethod_at (mvP (args := #[]) hZ w7)) (mvT hZ w4) hy (backOf (W := W) hM hZ w4 w6 hf hl) hg hsize (Steps.refl _) (by rw [eT]; exact hcell) hobj hlen hstack hW hd (fun _ _ => ⟨has, eT, hc, hsl⟩)
  dsimp only [Pt.U, Pt.locs, Pt.cells, Pt.slots] at X' l1 y1 z1 st hQ
  subst l1 y1 z1
  exact ⟨T', _, v, Lc, X', rfl, hQ, fun _ k => st.trans k⟩
theorem own_lsw (X : Stand p l e R s m args below meth c T locs cells slots) (hx : p.tables.exec = Jvm.exec) {g : JFrame} (hg : g.method = m) {k : Int32} {rest : List Value} (hs : g.stack = .int k :: rest) {dflt : Int} {pairs : Array (Int × Int)} {len : Nat} (hd : decode c.code g.pc = .ok (.lookupswitch dflt pairs, len))
    (hsorted : (pairs.toList.zip (pairs.toList.drop 1)).all (fun (a, next) => a.1 < next.1) = true) {a off : Int} (hfind : pairs.find? (·.1 == k.toInt) = some (a, off)) {pc0 pc' : Nat} (hpc : g.pc = pc0) (ho : 0 ≤ (pc0 : Int) + off) (hp : ((pc0 : Int) + off).toNat = pc') :
    ∀ t, Steps p.tables e below (T.setTop { g with pc := pc', stack := rest }) t → Steps p.tables e below (T.setTop g) t := by
  subst hpc hp; exact fun t hr => X.lookupswitchHit hx hg hs hd hsorted hfind ho t hr
theorem own_lswM (X : Stand p l e R s m args below meth c T locs cells slots) (hx : p.tables.exec = Jvm.exec) {g : JFrame} (hg : g.method = m) {k : Int32} {rest : List Value} (hs : g.stack = .int k :: rest) {dflt : Int} {pairs : Array (Int × Int)} {len : Nat} (hd : decode c.code g.pc = .ok (.lookupswitch dflt pairs, len))
    (hsorted : (pairs.toList.zip (pairs.toList.drop 1)).all (fun (a, next) => a.1 < next.1) = true) (hfind : pairs.find? (·.1 == k.toInt) = none) {pc0 pc' : Nat} (hpc : g.pc = pc0) (ho : 0 ≤ (pc0 : Int) + dflt) (hp : ((pc0 : Int) + dflt).toNat = pc') :
    ∀ t, Steps p.tables e below (T.setTop { g with pc := pc', stack := rest }) t → Steps p.tables e below (T.setTop g) t := by
  subst hpc hp; exact fun t hr => X.lookupswitchMiss hx hg hs hd hsorted hfind ho t hr
theorem own_rne {a b : Addr} (h : a ≠ b) : ¬ (Value.ref a = Value.ref b) := fun q => h (Value.ref.inj q)
def own_pl : Value → Bool
  | .int _ => true
  | .ref _ => true
  | .null => true
  | .long _ => true
  | _ => false
theorem own_eqv {args : Array Value} {f : State} {o : Option Outcome} {idx : List Nat} {t u : Term} {x y : Value} (ha : t.eval args f o idx s = some x) (hb : u.eval args f o idx s = some y) (h : (Jvm.Cond.eq t u).value args f o s idx = some true) (hk : own_pl y = true := by rfl) : x = y := by
  cases x <;> cases y <;> simp [Jvm.Cond.value, ha, hb, own_pl] at h hk ⊢ <;> first | exact h | exact h.symm
theorem own_fv {args : Array Value} {t u : Term} {O n d : String} {a : Addr} {y : Value} (ht : t.eval args s none [] s = some (.ref a)) (hu : u.eval args s none [] s = some y) (h : (Jvm.Cond.eq (.field t O n d) u).value args s none s [] = some true) (hk : own_pl y = true := by rfl) : Fld s s.heap a O n d y := by
  obtain ⟨x, y', e1, e2, -, -⟩ := cmp_v (Or.inl h)
  have q := own_eqv e1 hu h hk
  subst q
  exact Fld.start ((fld_at ht).symm.trans e1)
end Own
section OwnArr
variable {p : Program} {l : Launch} {e : Env} {R : Room} {s : State} {m : MethodId} {args : Array Value} {below : List Frame} {meth : Method} {c : Code} {T : State} {locs : List Loc} {cells slots : Nat} {Z : State} {a0 : Array Value} {h : Heap} {a : Addr} {k : ClassId} {ty : FieldType} {z j : Int32} {vs : List Value} {dv v : Value}
theorem own_newA (A : Arr Z h a (newA k ty z) ty) (q : ¬ z < 0) (hv : vs = List.replicate z.toNatClampNeg (defaultValue ty)) (hd : dv = defaultValue ty) : Arv Z h a k ty z vs dv := by
  subst hv hd; exact (Arv.new A q).pad (pad_rep [] _ _)
theorem own_newP (X : Stand p l e R s m args below meth c T locs cells slots) (hx : p.tables.exec = Jvm.exec) (hZ : Z.Warmed39 s.vm) {aty : ArrayType} (w : (Jvm.Cond.arrayClass (newarray.typeOf aty)).before a0 Z = true) (eT : T.heap = h) {nm : String} (hnm : "[" ++ (newarray.typeOf aty).toString = nm)
    {g : JFrame} (hg : g.method = m) (hd : decode c.code g.pc = .ok (.newarray aty, 2)) {n : Int32} {rest : List Value} (hs : g.stack = .int n :: rest) (hn : ¬ n < 0) {cap : Nat} (hcap : n.toNatClampNeg ≤ cap) (hb : cap * 8 ≤ 536870912) (hc : cells + 1 ≤ R.cells) (hl : slots + cap ≤ R.slots) :
    ∃ T' h' cA, Stand p l e R s m args below meth c T' locs (cells + 1) (slots + cap) ∧ T'.heap = h' ∧ Ext h h' ∧ Arr Z h' h.size (newA cA (newarray.typeOf aty) n) (newarray.typeOf aty) ∧ Exa Z h' h.size nm ∧
      ∀ target, Steps p.tables e below (T'.setTop { g with pc := g.pc + 2, stack := .ref h.size :: rest }) target → Steps p.tables e below (T.setTop g) target := by
  subst hnm eT
  obtain ⟨cA, kA, comp, h1, h2, h3, X', st⟩ := X.newarrayPrim hx (mvA hZ w) hg hd hs hn (Nat.le_trans (Nat.mul_le_mul hcap (by cases aty <;> decide : componentBytes (newarray.typeOf aty) ≤ 8)) hb) hc (by omega)
  rw [hZ.alike.findClass] at h1
  obtain ⟨kZ, z1, -⟩ := Vm.findClass_spec h1
  obtain ⟨k', z2, z3⟩ := hZ.alike.2.2 _ _ z1
  cases h2.symm.trans z2
  have hk : kZ.kind = .array comp (newarray.typeOf aty) := by rw [← h3, z3]
  have hN : (T.heap.push (newA cA (newarray.typeOf aty) n))[T.heap.size]? = some (newA cA (newarray.typeOf aty) n) := by simp
  have hE : Ext T.heap (T.heap.push (newA cA (newarray.typeOf aty) n)) := ext_of fun a q => Array.getElem?_push_lt q |>.trans (Array.getElem?_eq_getElem q).symm
  exact ⟨_, _, cA, X'.more (Nat.le_refl _) (by omega), rfl, hE, ⟨hN, ⟨by simp [newA], kZ, z1, comp, hk⟩, by simp [newA]⟩, ⟨_, kZ, hN, h1, z1, rfl, fun q => by rw [hk] at q; cases q⟩, st⟩
theorem own_len (X : Stand p l e R s m args below meth c T locs cells slots) (hx : p.tables.exec = Jvm.exec) (hZ : Z.Warmed39 s.vm) (eT : T.heap = h) (A : Arv Z h a k ty z vs dv) {g : JFrame} (hg : g.method = m) {rest : List Value} (hs : g.stack = .ref a :: rest) (hd : decode c.code g.pc = .ok (.arraylength, 1)) :
    ∀ target, Steps p.tables e below (T.setTop { g with pc := g.pc + 1, stack := .int z :: rest }) target → Steps p.tables e below (T.setTop g) target := by
  obtain ⟨cl, A1, q1, S, q3, H, G⟩ := A
  intro target hr
  refine X.arraylength hx (cell := cl) (by rw [eT]; exact A1.1) (State.isArrayOf_alike hZ.alike A1.2.1) hg hs hd target ?_
  rw [len_of S q3]; exact hr
theorem own_iaload (X : Stand p l e R s m args below meth c T locs cells slots) (hx : p.tables.exec = Jvm.exec) (hZ : Z.Warmed39 s.vm) (eT : T.heap = h) (A : Arv Z h a k .int z vs dv) (hj : ¬ j < 0 ∧ j < z) (hv : vs.getD j.toNatClampNeg dv = v) {g : JFrame} (hg : g.method = m) {rest : List Value} (hs : g.stack = .int j :: .ref a :: rest) (hd : decode c.code g.pc = .ok (.iaload, 1)) :
    ∀ target, Steps p.tables e below (T.setTop { g with pc := g.pc + 1, stack := v :: rest }) target → Steps p.tables e below (T.setTop g) target := by
  obtain ⟨cl, A1, q1, S, q3, H, G⟩ := A
  exact fun t k => X.iaload hx (by rw [eT]; exact A1.1) (State.isArrayOf_alike hZ.alike A1.2.1) A1.2.2 (inb_of S hj) (H.at (inb_of S hj) hv) hg hs hd t k
theorem own_baload (X : Stand p l e R s m args below meth c T locs cells slots) (hx : p.tables.exec = Jvm.exec) (hZ : Z.Warmed39 s.vm) (eT : T.heap = h) (A : Arv Z h a k .byte z vs dv) (hj : ¬ j < 0 ∧ j < z) (hv : vs.getD j.toNatClampNeg dv = v) {g : JFrame} (hg : g.method = m) {rest : List Value} (hs : g.stack = .int j :: .ref a :: rest) (hd : decode c.code g.pc = .ok (.baload, 1)) :
    ∀ target, Steps p.tables e below (T.setTop { g with pc := g.pc + 1, stack := v :: rest }) target → Steps p.tables e below (T.setTop g) target := by
  obtain ⟨cl, A1, q1, S, q3, H, G⟩ := A
  exact fun t k => X.baloadBytes hx (by rw [eT]; exact A1.1) (State.isArrayOf_alike hZ.alike A1.2.1) A1.2.2 (inb_of S hj) (H.at (inb_of S hj) hv) hg hs hd t k
theorem own_caload (X : Stand p l e R s m args below meth c T locs cells slots) (hx : p.tables.exec = Jvm.exec) (hZ : Z.Warmed39 s.vm) (eT : T.heap = h) (A : Arv Z h a k .char z vs dv) (hj : ¬ j < 0 ∧ j < z) (hv : vs.getD j.toNatClampNeg dv = v) {g : JFrame} (hg : g.method = m) {rest : List Value} (hs : g.stack = .int j :: .ref a :: rest) (hd : decode c.code g.pc = .ok (.caload, 1)) :
    ∀ target, Steps p.tables e below (T.setTop { g with pc := g.pc + 1, stack := v :: rest }) target → Steps p.tables e below (T.setTop g) target := by
  obtain ⟨cl, A1, q1, S, q3, H, G⟩ := A
  exact fun t k => X.caload hx (by rw [eT]; exact A1.1) (State.isArrayOf_alike hZ.alike A1.2.1) A1.2.2 (inb_of S hj) (H.at (inb_of S hj) hv) hg hs hd t k
theorem own_aaload (X : Stand p l e R s m args below meth c T locs cells slots) (hx : p.tables.exec = Jvm.exec) (hZ : Z.Warmed39 s.vm) (eT : T.heap = h) (A : Arv Z h a k ty z vs dv) (hty : ty.isReference = true) (hj : ¬ j < 0 ∧ j < z) (hv : vs.getD j.toNatClampNeg dv = v) {g : JFrame} (hg : g.method = m) {rest : List Value} (hs : g.stack = .int j :: .ref a :: rest) (hd : decode c.code g.pc = .ok (.aaload, 1)) :
    ∀ target, Steps p.tables e below (T.setTop { g with pc := g.pc + 1, stack := v :: rest }) target → Steps p.tables e below (T.setTop g) target := by
  obtain ⟨cl, A1, q1, S, q3, H, G⟩ := A
  exact fun t k => X.aaload hx (by rw [eT]; exact A1.1) (State.isArrayOf_alike hZ.alike A1.2.1) hty A1.2.2 (inb_of S hj) (H.at (inb_of S hj) hv) hg hs hd t k
theorem own_stB (X : Stand p l e R s m args below meth c T locs cells slots) (hx : p.tables.exec = Jvm.exec) (hZ : Z.Warmed39 s.vm) (eT : T.heap = h) (A : Arv Z h a k .byte z vs dv) {x x' : Int32} (i : Nat) (hn : nar .byte x = x') (hji : j.toNatClampNeg = i) (hj : ¬ j < 0 ∧ j < z) (hi : i < vs.length) {g : JFrame} (hg : g.method = m) {rest : List Value} (hs : g.stack = .int x :: .int j :: .ref a :: rest) (hd : decode c.code g.pc = .ok (.bastore, 1)) :
    ∃ T' h', Stand p l e R s m args below meth c T' (locs ++ [⟨a, i⟩]) cells slots ∧ T'.heap = h' ∧ Wr h h' a i (.int x') ∧ Arv Z h' a k .byte z (vs.set i (.int x')) dv ∧ ∀ target, Steps p.tables e below (T'.setTop { g with pc := g.pc + 1, stack := rest }) target → Steps p.tables e below (T.setTop g) target := by
  obtain ⟨cl, A1, q1, S, q3, H, G⟩ := A
  obtain ⟨T', h', X', e', W, st⟩ := stB X hx hZ eT A1 (inb_of S hj) hg hs hd
  subst hn hji
  exact ⟨T', h', X', e', W, Arv.set A1 q1 S q3 H G (fits_byte_narrow x) W _ rfl hi, st⟩
theorem own_stC (X : Stand p l e R s m args below meth c T locs cells slots) (hx : p.tables.exec = Jvm.exec) (hZ : Z.Warmed39 s.vm) (eT : T.heap = h) (A : Arv Z h a k .char z vs dv) {x x' : Int32} (i : Nat) (hn : nar .char x = x') (hji : j.toNatClampNeg = i) (hj : ¬ j < 0 ∧ j < z) (hi : i < vs.length) {g : JFrame} (hg : g.method = m) {rest : List Value} (hs : g.stack = .int x :: .int j :: .ref a :: rest) (hd : decode c.code g.pc = .ok (.castore, 1)) :
    ∃ T' h', Stand p l e R s m args below meth c T' (locs ++ [⟨a, i⟩]) cells slots ∧ T'.heap = h' ∧ Wr h h' a i (.int x') ∧ Arv Z h' a k .char z (vs.set i (.int x')) dv ∧ ∀ target, Steps p.tables e below (T'.setTop { g with pc := g.pc + 1, stack := rest }) target → Steps p.tables e below (T.setTop g) target := by
  obtain ⟨cl, A1, q1, S, q3, H, G⟩ := A
  obtain ⟨T', h', X', e', W, st⟩ := stC X hx hZ eT A1 (inb_of S hj) hg hs hd
  subst hn hji
  exact ⟨T', h', X', e', W, Arv.set A1 q1 S q3 H G (fits_nar_char x) W _ rfl hi, st⟩
theorem own_stI (X : Stand p l e R s m args below meth c T locs cells slots) (hx : p.tables.exec = Jvm.exec) (hZ : Z.Warmed39 s.vm) (eT : T.heap = h) (A : Arv Z h a k .int z vs dv) {x : Int32} (i : Nat) (hji : j.toNatClampNeg = i) (hj : ¬ j < 0 ∧ j < z) (hi : i < vs.length) {g : JFrame} (hg : g.method = m) {rest : List Value} (hs : g.stack = .int x :: .int j :: .ref a :: rest) (hd : decode c.code g.pc = .ok (.iastore, 1)) :
    ∃ T' h', Stand p l e R s m args below meth c T' (locs ++ [⟨a, i⟩]) cells slots ∧ T'.heap = h' ∧ Wr h h' a i (.int x) ∧ Arv Z h' a k .int z (vs.set i (.int x)) dv ∧ ∀ target, Steps p.tables e below (T'.setTop { g with pc := g.pc + 1, stack := rest }) target → Steps p.tables e below (T.setTop g) target := by
  obtain ⟨cl, A1, q1, S, q3, H, G⟩ := A
  obtain ⟨T', h', X', e', W, st⟩ := stI X hx hZ eT A1 (inb_of S hj) hg hs hd
  subst hji
  exact ⟨T', h', X', e', W, Arv.set A1 q1 S q3 H G rfl W _ rfl hi, st⟩
theorem own_stR (X : Stand p l e R s m args below meth c T locs cells slots) (hx : p.tables.exec = Jvm.exec) (hZ : Z.Warmed39 s.vm) (eT : T.heap = h) (A : Arv Z h a k ty z vs dv) (hty : ty.isReference = true) (i : Nat) (F : Sto Z h a v) (hf : fits ty v = true) (hji : j.toNatClampNeg = i) (hj : ¬ j < 0 ∧ j < z) (hi : i < vs.length) {g : JFrame} (hg : g.method = m) {rest : List Value} (hs : g.stack = v :: .int j :: .ref a :: rest) (hd : decode c.code g.pc = .ok (.aastore, 1)) :
    ∃ T' h', Stand p l e R s m args below meth c T' (locs ++ [⟨a, i⟩]) cells slots ∧ T'.heap = h' ∧ Wr h h' a i v ∧ Arv Z h' a k ty z (vs.set i v) dv ∧ ∀ target, Steps p.tables e below (T'.setTop { g with pc := g.pc + 1, stack := rest }) target → Steps p.tables e below (T.setTop g) target := by
  obtain ⟨cl, A1, q1, S, q3, H, G⟩ := A
  obtain ⟨T', h', X', e', W, st⟩ := stR X hx hZ eT A1 (inb_of S hj) hty F hg hs hd
  subst hji
  exact ⟨T', h', X', e', W, Arv.set A1 q1 S q3 H G hf W _ rfl hi, st⟩
theorem own_sto {C : String} {y : Addr} (A : Arv Z h a k ty z vs dv) (O : Ovr Z k C) (I : Ins Z h y C true) : Sto Z h a (.ref y) := by
  obtain ⟨cl, A1, q1, S, q3, H, G⟩ := A
  exact Sto.ofV A1 q1 O I
theorem own_narB (x : Int32) : nar .byte (x.toInt8.toInt32) = x.toInt8.toInt32 := Value.int.inj (XT.narrow_b x)
theorem own_narC (x : Int32) : nar .char (x.toUInt32.toUInt16.toUInt32.toInt32) = x.toUInt32.toUInt16.toUInt32.toInt32 := Value.int.inj (XT.narrow_c x)
theorem own_fitc {cl : Cell} (A : Arr Z h a cl ty) (H : Has cl vs dv) (G : ∀ i, i < cl.slots.size → fits ty (vs.getD i dv) = true) : FitC Z cl := fun i v hv => by
  obtain ⟨hi, q0⟩ := Array.getElem?_eq_some_iff.mp hv
  have q := G i hi
  have q2 := (H i hi).symm.trans hv
  rw [Option.some.inj q2] at q
  obtain ⟨hs, k, hk, comp, hkind⟩ := A.2.1
  simp [State.fitsSlot, State.slotType?, hk, hkind]; exact q
theorem own_clone (X : Stand p l e R s m args below meth c T locs cells slots) (hx : p.tables.exec = Jvm.exec) (hZ : Z.Warmed39 s.vm) {own ad : String} {index : Nat} (hown : s.vm.findClass own = some m.cls) (eT : T.heap = h)
    (w1 : (Jvm.Cond.methodLink own index ⟨ad, "clone", "()Ljava/lang/Object;"⟩).before a0 Z = true) (w2 : (Jvm.Cond.sameMethod ad "java/lang/Object" "clone" "()Ljava/lang/Object;").before a0 Z = true) (w3 : (Jvm.Cond.native ⟨"java/lang/Object", "clone", "()Ljava/lang/Object;"⟩).before a0 Z = true)
    (w4 : (Jvm.Cond.instanceMethod ⟨"java/lang/Object", "clone", "()Ljava/lang/Object;"⟩).before a0 Z = true) (w5 : (Jvm.Cond.selects ad ⟨ad, "clone", "()Ljava/lang/Object;"⟩ ⟨"java/lang/Object", "clone", "()Ljava/lang/Object;"⟩).before a0 Z = true) (w6 : (Jvm.Cond.castable ad "java/lang/Cloneable").before a0 Z = true)
    (A : Arv Z h a k ty z vs dv) (E : Exa Z h a ad) {g : JFrame} (hg : g.method = m) (hsize : g.locals.size = c.maxLocals) {rest : List Value} (hs : g.stack = .ref a :: rest) (hd : decode c.code g.pc = .ok (.invokevirtual index, 3))
    (hf : 1 ≤ R.frames) {W cap : Nat} (hW : 2 * g.monitorRoom + (rest.map fun v => v.category).sum ≤ W) (hl : W + 14 ≤ R.locals) (hcap : z.toNatClampNeg ≤ cap) (hc : cells + 1 ≤ R.cells) (hsl : slots + cap ≤ R.slots) :
    ∃ T' h', Stand p l e R s m args below meth c T' locs (cells + 1) (slots + cap) ∧ T'.heap = h' ∧ Ext h h' ∧ Arv Z h' h.size k ty z vs dv ∧ Exa Z h' h.size ad ∧
      ∀ target, Steps p.tables e below (T'.setTop { g with pc := g.pc + 3, stack := .ref h.size :: rest }) target → Steps p.tables e below (T.setTop g) target := by
  obtain ⟨cl, A1, q1, S, q3, H, G⟩ := A
  obtain ⟨T', h', X', e', E', A', E2, st⟩ := cloneA X hx hZ hown w1 w2 w3 w4 w5 w6 eT A1 E (own_fitc A1 H G) hg hsize hs hd hf hW hl (by rw [S]; exact hcap) hc hsl
  exact ⟨T', h', X', e', E', ⟨_, A', q1, S, q3, H, G⟩, E2, st⟩
end OwnArr
section OwnCase
variable {s : State} {args : Array Value} {t u : Term} {a : Addr} {ty : FieldType} {n j : Int32} {vs : List Value} {dv v : Value} {cl : Cell}
theorem own_ev {y : Value} (hb : u.eval args s none [] s = some y) (h : (Jvm.Cond.eq t u).value args s none s [] = some true) (hk : own_pl y = true := by rfl) : t.eval args s none [] s = some y := by
  obtain ⟨x, y', e1, e2, -, -⟩ := cmp_v (Or.inl h)
  rw [own_eqv e1 hb h hk] at e1; exact e1
theorem own_ev' {y : Value} (hb : t.eval args s none [] s = some y) (h : (Jvm.Cond.eq t u).value args s none s [] = some true) (hk : own_pl y = true := by rfl) : u.eval args s none [] s = some y := by
  obtain ⟨x, y', e1, e2, -, -⟩ := cmp_v (Or.inl h)
  cases hb.symm.trans e1
  cases y <;> cases y' <;> simp [Jvm.Cond.value, e1, e2, own_pl] at h hk ⊢ <;> simp_all
theorem own_elem (ev : t.eval args s none [] s = some (.ref a)) (hu : u.eval args s none [] s = some v) (h : (Jvm.Cond.eq (.elem t (.int j)) u).value args s none s [] = some true) (hc : s.heap[a]? = some cl) (hk : own_pl v = true := by rfl) : cl.slots[j.toNatClampNeg]? = some v := by
  have e1 := own_ev hu h hk
  obtain ⟨c', e3, e4, e5⟩ := elem_at e1 ev (Term.int_eval j)
  cases hc.symm.trans e3; exact e5
theorem own_arr (hf : Fit s) (ev : t.eval args s none [] s = some (.ref a)) (h1 : (Jvm.Cond.arrayOf t ty).value args s none s [] = some true) (h2 : (Jvm.Cond.eq (.length t) (.int n)).value args s none s [] = some true) (hn : ¬ n < 0) (hl : n.toNatClampNeg = vs.length)
    (he : ∀ cl : Cell, s.heap[a]? = some cl → s.arrayAt? a = some cl → cl.slots.size = n.toNatClampNeg → HasL cl 0 vs) : ∃ k, Arv s s.heap a k ty n vs dv := by
  obtain ⟨cl, A⟩ := Arr.start ev h1
  have e1 := own_ev (Term.int_eval n) h2
  obtain ⟨a', cl', b1, b2, b3⟩ := Term.length_spec e1
  cases ev.symm.trans b1
  have hc' := (State.arrayAt?_spec b2).1
  cases A.1.symm.trans hc'
  have hsz : cl.slots.size.toInt32 = n := (Value.int.inj b3).symm
  have hlt : cl.slots.size < 2 ^ 31 := by
    by_cases q : cl.slots.size < 2147483648
    · exact q
    · simp [Term.eval, ev, b2, q] at e1
  have hS : cl.slots.size = n.toNatClampNeg := by rw [← hsz]; simp only [Int32.toNatClampNeg, len_toInt hlt]; rfl
  exact ⟨_, Arv.start hf A hlt hsz hn hl (he cl hc' b2 hS)⟩
theorem own_allat {C nm d : String} {i : Nat} {b : Int32} (hi : j.toNatClampNeg = i) (hj : ¬ j < 0) (ev : (Term.static C nm d).eval args s none [] s = some (.ref a)) (hc : s.heap[a]? = some cl) (ha : s.arrayAt? a = some cl) (hlt : i < cl.slots.size) (hb : ¬ b ≤ j)
    (h : (Jvm.Cond.all (.static C nm d) (.or (.le (.int b) (.index 0)) (.eq (.elem (.static C nm d) (.index 0)) (.index 0)))).value args s none s [] = some true) : cl.slots[i]? = some (.int j) := by
  have h' := Cond.all_elim ev ha h i hlt
  subst hi
  have e1 : (Term.index 0).eval args s none [j.toNatClampNeg] s = some (.int j) := idx_at hj
  have e2 : (Jvm.Cond.le (.int b) (.index 0)).value args s none s [j.toNatClampNeg] = some false := by
    rw [Cond.le_ints (Term.int_eval b) e1]; simp [hb]
  rw [Cond.or_of_right e2] at h'
  obtain ⟨x, y, q1, q2, -, -⟩ := cmp_v (Or.inl h')
  have q := own_eqv q1 e1 h'
  subst q
  obtain ⟨c', e3, e4, e5⟩ := elem_at q1 (show (Term.static C nm d).eval args s none [j.toNatClampNeg] s = some (.ref a) from ev) e1
  cases hc.symm.trans e3; exact e5
end OwnCase
section OwnWide
variable {p : Program} {l : Launch} {e : Env} {R : Room} {s : State} {m : MethodId} {args : Array Value} {below : List Frame} {meth : Method} {c : Code} {T : State} {locs : List Loc} {cells slots : Nat} {Z : State} {a0 : Array Value} {h : Heap} {vm0 : Vm} {EL : List (String × Nat)} {sf : List Addr}
def own_PW (Z : State) (EL : List (String × Nat)) (s : State) (Q : Vm → Option Value → Heap → List Loc → Prop) (kc ks : Nat) (o : Outcome) (U : State) : Prop := ∃ v L, o = .returned v ∧ Q U.vm v U.heap L ∧ CHr Z EL s.vm s.heap U.vm U.heap ∧ ReturnedEndW s o U L kc ks
abbrev own_MetW (l : Launch) (Z : State) (EL : List (String × Nat)) (sf : List Addr) (h : Heap) (y : MethodName) (bytes : ByteArray) (maxL : Nat) (ret : Option FieldType) (ws : List Jvm.Cond) (rm : Room) (as' : Array Value) (Q : Vm → Option Value → Heap → List Loc → Prop) (kc ks : Nat) : Prop :=
  MetFree l y (head1 (Jvm.Cond.code y bytes maxL ret :: ws) rm) (fun a U => a = as' ∧ Z.Warmed39 U.vm ∧ U.heap = h ∧ CHv Z EL U.vm h ∧ ∀ x ∈ sf, Safe Z EL U.vm h x) (fun _ _ _ _ _ => True) (fun _ U o U' => ∃ v L, o = .returned v ∧ Q U'.vm v U'.heap L ∧ CHr Z EL U.vm U.heap U'.vm U'.heap ∧ ReturnedEndW U o U' L kc ks)
theorem own_safe0 {x : Addr} {vm : Vm} : Safe Z [] vm h x := fun ⟨_, hp, _⟩ => nomatch hp
theorem own_leaveW (X : Stand p l e R (s.setVm vm0) m args below meth c T locs cells slots) {g : JFrame} {v : Option Value} {Q : Vm → Option Value → Heap → List Loc → Prop} {kc ks : Nat} (hlocks : meth.locks = false) (hv : meth.sig.returnType = none → v = none)
    (k : ∀ fs, (∀ (f : JFrame) (acts : List Action), f.method = m → f.locked = none → f.entered = [] → (doReturn e (T.setTop f) acts v).1 = T.setFrames fs) → Steps p.tables e below (T.setTop g) (T.setFrames fs))
    {n : Nat} (hS : s.Since vm0 n) (hZ : Z.Warmed39 (s.setVm vm0).vm) (hEL : EW Z a0 EL) {h0 : Heap} (hh : s.heap = h0) (hR : CHr Z EL s.vm h0 vm0 h) (eT : T.heap = h) (hn : n ≤ h.size) (hc : cells ≤ kc) (hs : slots ≤ ks) (hq : CHr Z EL vm0 h T.vm h → Q T.vm v h locs) : own_G p e below (T.setTop g) (own_PW Z EL s Q kc ks) := by
  obtain ⟨fs, hr, hrun, hended, hW⟩ := X.leaveW hS (by rw [eT]; exact hn) (v := v) hv hlocks
  have A := CHv.at (h := h) X hZ hEL hR.1
  exact ⟨_, _, k fs hr, hrun, hended, _, _, rfl, by show Q T.vm v T.heap locs; rw [eT]; exact hq A, by show CHr Z EL s.vm s.heap T.vm T.heap; rw [eT, hh]; exact hR.trans A, hW.1, hW.2.1, hW.2.2.1, hW.2.2.2.mono hc hs⟩
theorem own_retNW (X : Stand p l e R (s.setVm vm0) m args below meth c T locs cells slots) (hx : p.tables.exec = Jvm.exec) {pc : Nat} {Ls : Array Slot} {z : Int32} {t : FieldType} {rest : List Value} {Q : Vm → Option Value → Heap → List Loc → Prop} {kc ks : Nat} (hlocks : meth.locks = false) (hret : meth.sig.returnType = some t) (ht : t = .boolean ∨ t = .byte ∨ t = .char ∨ t = .short)
    (hd : decode c.code pc = .ok (.ireturn, 1)) (hn : nar t z = z) {n : Nat} (hS : s.Since vm0 n) (hZ : Z.Warmed39 (s.setVm vm0).vm) (hEL : EW Z a0 EL) {h0 : Heap} (hh : s.heap = h0) (hR : CHr Z EL s.vm h0 vm0 h) (eT : T.heap = h) (hk : n ≤ h.size) (hc : cells ≤ kc) (hs : slots ≤ ks) (hq : CHr Z EL vm0 h T.vm h → Q T.vm (some (.int z)) h locs) : own_G p e below (T.setTop (mkF m pc Ls (.int z :: rest))) (own_PW Z EL s Q kc ks) :=
  own_leaveW X (v := some (.int z)) hlocks (fun q => by rw [hret] at q; cases q) (fun fs hl => retN X hx hret ht hd (by rw [hn]; exact hl)) hS hZ hEL hh hR eT hk hc hs hq
theorem own_retIW (X : Stand p l e R (s.setVm vm0) m args below meth c T locs cells slots) (hx : p.tables.exec = Jvm.exec) {pc : Nat} {Ls : Array Slot} {z : Int32} {rest : List Value} {Q : Vm → Option Value → Heap → List Loc → Prop} {kc ks : Nat} (hlocks : meth.locks = false) (hret : meth.sig.returnType = some .int)
    (hd : decode c.code pc = .ok (.ireturn, 1)) {n : Nat} (hS : s.Since vm0 n) (hZ : Z.Warmed39 (s.setVm vm0).vm) (hEL : EW Z a0 EL) {h0 : Heap} (hh : s.heap = h0) (hR : CHr Z EL s.vm h0 vm0 h) (eT : T.heap = h) (hk : n ≤ h.size) (hc : cells ≤ kc) (hs : slots ≤ ks) (hq : CHr Z EL vm0 h T.vm h → Q T.vm (some (.int z)) h locs) : own_G p e below (T.setTop (mkF m pc Ls (.int z :: rest))) (own_PW Z EL s Q kc ks) :=
  own_leaveW X (v := some (.int z)) hlocks (fun q => by rw [hret] at q; cases q) (fun fs hl => retOut X hx hret rfl (Or.inl ⟨rfl, Or.inl rfl, _, rfl⟩) hd hl) hS hZ hEL hh hR eT hk hc hs hq
theorem own_retAW (X : Stand p l e R (s.setVm vm0) m args below meth c T locs cells slots) (hx : p.tables.exec = Jvm.exec) {pc : Nat} {Ls : Array Slot} {w : Value} {t : FieldType} {rest : List Value} {Q : Vm → Option Value → Heap → List Loc → Prop} {kc ks : Nat} (hlocks : meth.locks = false) (hret : meth.sig.returnType = some t) (ht : t.isReference = true) (hw : w.isRef = true)
    (hd : decode c.code pc = .ok (.areturn, 1)) {n : Nat} (hS : s.Since vm0 n) (hZ : Z.Warmed39 (s.setVm vm0).vm) (hEL : EW Z a0 EL) {h0 : Heap} (hh : s.heap = h0) (hR : CHr Z EL s.vm h0 vm0 h) (eT : T.heap = h) (hk : n ≤ h.size) (hc : cells ≤ kc) (hs : slots ≤ ks) (hq : CHr Z EL vm0 h T.vm h → Q T.vm (some w) h locs) : own_G p e below (T.setTop (mkF m pc Ls (w :: rest))) (own_PW Z EL s Q kc ks) :=
  own_leaveW X (v := some w) hlocks (fun q => by rw [hret] at q; cases q) (fun fs hl => retOut X hx hret (own_narR hw) (Or.inr (Or.inr (Or.inr (Or.inr ⟨rfl, ht, hw⟩)))) hd hl) hS hZ hEL hh hR eT hk hc hs hq
theorem own_retVW (X : Stand p l e R (s.setVm vm0) m args below meth c T locs cells slots) (hx : p.tables.exec = Jvm.exec) {pc : Nat} {Ls : Array Slot} {Q : Vm → Option Value → Heap → List Loc → Prop} {kc ks : Nat} (hlocks : meth.locks = false) (hret : meth.sig.returnType = none)
    (hd : decode c.code pc = .ok (.return_, 1)) {n : Nat} (hS : s.Since vm0 n) (hZ : Z.Warmed39 (s.setVm vm0).vm) (hEL : EW Z a0 EL) {h0 : Heap} (hh : s.heap = h0) (hR : CHr Z EL s.vm h0 vm0 h) (eT : T.heap = h) (hk : n ≤ h.size) (hc : cells ≤ kc) (hs : slots ≤ ks) (hq : CHr Z EL vm0 h T.vm h → Q T.vm none h locs) : own_G p e below (T.setTop (mkF m pc Ls [])) (own_PW Z EL s Q kc ks) :=
  own_leaveW X (v := none) hlocks (fun _ => rfl) (fun fs hl => X.returnOut hx hret hd hl) hS hZ hEL hh hR eT hk hc hs hq
variable {own : String} {index : Nat} {y : MethodName} {bytes : ByteArray} {maxL : Nat} {ret : Option FieldType} {rm : Room} {W : Nat} {as' : Array Value} {Q : Vm → Option Value → Heap → List Loc → Prop}
theorem own_backW {len : Nat} (hM : own_MetW l Z EL sf h y bytes maxL ret [] rm as' Q rm.cells rm.slots)
    (hZ : Z.Warmed39 vm0) (wc : (Jvm.Cond.code y bytes maxL ret).before a0 Z = true) (wz : (Jvm.Cond.initialized y.cls).before a0 Z = true) (hf : rm.frames + 1 ≤ R.frames) (hl : W + (maxL + 11) + rm.locals ≤ R.locals) (hEL : EW Z a0 EL) (H : CHv Z EL vm0 h) (hsf : ∀ x ∈ sf, Safe Z EL vm0 h x) (hlt : ∀ x ∈ sf, x < h.size) :
    BackS l R p e below (s.setVm vm0) args y len W (fun A a => a = as' ∧ A.U.heap = h ∧ A.cells + rm.cells ≤ R.cells ∧ A.slots + rm.slots ≤ R.slots)
      (fun A _ v B => ∃ L, Q B.U.vm v B.U.heap L ∧ B.locs = A.locs ++ L ∧ B.cells = A.cells + rm.cells ∧ B.slots = A.slots + rm.slots ∧ CHr Z EL vm0 h B.U.vm B.U.heap) :=
  BackS.of_freeW (bytes := bytes) (maxL := maxL) (ret := ret) (E := fun _ first o t L k n => k = rm.cells ∧ n = rm.slots ∧ (∃ v, o = .returned v ∧ Q t.vm v t.heap L) ∧ CHr Z EL first.vm first.heap t.vm t.heap) hM hf hl
    (fun m meth c A a Y hp => have hU : Z.Warmed39 A.U.vm := wtrans (s := s.setVm vm0) hZ Y.warmed
      ⟨by show (Jvm.Cond.and _ .tt).before a A.U = true; rw [Cond.before_and, mv hU wc]; rfl, mv hU wc, mv hU wz, hp.2.2.1, hp.2.2.2⟩)
    (fun m meth c A a g mk Y hp => ⟨hp.1, wtrans (s := s.setVm vm0) hZ Y.warmed, hp.2.1, (CHv.at Y hZ hEL H).1, fun x q => (CHv.at Y hZ hEL H).safe (hlt x q) (hsf x q)⟩) (fun _ _ _ _ _ _ _ _ _ => trivial)
    (fun _ _ _ _ ⟨v, L, h1, h2, h3, h4⟩ => ⟨L, _, _, h4, rfl, rfl, ⟨v, h1, h2⟩, h3⟩)
    (fun m meth c A a g mk v t L k n Y hp _ _ ⟨e1, e2, ⟨v', e3, e4⟩, e5⟩ => by
      cases e3; subst e1 e2
      refine ⟨L, e4, rfl, rfl, rfl, (CHv.at Y hZ hEL H).trans ?_⟩
      rw [← hp.2.1]; exact e5)
abbrev own_AfterW (p : Program) (l : Launch) (e : Env) (R : Room) (s : State) (Z : State) (EL : List (String × Nat)) (own : String) (vm0 : Vm) (h : Heap) (m : MethodId) (args : Array Value) (below : List Frame) (meth : Method) (c : Code) (T : State) (locs : List Loc) (kc ks : Nat) (g : JFrame) (rest : List Value) (Q : Vm → Option Value → Heap → List Loc → Prop) (len : Nat := 3) : Prop :=
  ∃ (T' : State) (h' : Heap) (v : Option Value) (L : List Loc), Stand p l e R (s.setVm T'.vm) m args below meth c T' (locs ++ L) kc ks ∧ T'.heap = h' ∧ Q T'.vm v h' L ∧ s.Since T'.vm h'.size ∧ Z.Warmed39 (s.setVm T'.vm).vm ∧ (s.setVm T'.vm).vm.findClass own = some m.cls ∧ CHr Z EL vm0 h T'.vm h' ∧
    ∀ target, Steps p.tables e below (T'.setTop { g with pc := g.pc + len, stack := v.toList ++ rest }) target → Steps p.tables e below (T.setTop g) target
theorem own_callSW (X : Stand p l e R (s.setVm vm0) m args below meth c T locs cells slots) (hx : p.tables.exec = Jvm.exec) (hZ : Z.Warmed39 (s.setVm vm0).vm) (hown : (s.setVm vm0).vm.findClass own = some m.cls) (eT : T.heap = h)
    (w1 : (Jvm.Cond.methodLink own index y).before a0 Z = true) (w2 : (Jvm.Cond.static y).before a0 Z = true) (w3 : (Jvm.Cond.initialized y.cls).before a0 Z = true) (w4 : (Jvm.Cond.code y bytes maxL ret).before a0 Z = true) (hy : y.cls ≠ "java/lang/invoke/MethodHandle" ∧ y.cls ≠ "java/lang/invoke/VarHandle")
    {k0 : Nat} (hS : s.Since vm0 k0) (hk : k0 ≤ h.size) (hEL : EW Z a0 EL) (H : CHv Z EL vm0 h) (hsf : ∀ x ∈ sf, Safe Z EL vm0 h x) (hlt : ∀ x ∈ sf, x < h.size)
    (hM : own_MetW l Z EL sf h y bytes maxL ret [] rm as' Q rm.cells rm.slots)
    (hf : rm.frames + 1 ≤ R.frames) (hl : W + (maxL + 11) + rm.locals ≤ R.locals) (hc : cells + rm.cells ≤ R.cells) (hsl : slots + rm.slots ≤ R.slots)
    {g : JFrame} (hg : g.method = m) (hsize : g.locals.size = c.maxLocals) {argsL rest : List Value} (has : argsL.toArray = as') (hlen : ∀ sig, parseMethodDescriptor y.desc = some sig → argsL.length = sig.parameters.length)
    (hstack : g.stack = argsL.reverse ++ rest) (hW : 2 * g.monitorRoom + (rest.map fun v => v.category).sum ≤ W) (hd : decode c.code g.pc = .ok (.invokestatic index, 3)) :
    own_AfterW p l e R s Z EL own vm0 h m args below meth c T locs (cells + rm.cells) (slots + rm.slots) g rest Q := by
  obtain ⟨v, vm1, ⟨T', L', k', n'⟩, -, X', hS', hg', ⟨Lc, hQ, l1, y1, z1, hC⟩, st⟩ := callSS X hx (y := y) hown (mvT hZ w1) (mvT hZ w2) (mvT hZ w3) (mvT hZ w4) hy (own_backW (W := W) hM hZ w4 w3 hf hl hEL H hsf hlt) hg hsize hlen hstack hW hd (fun _ _ => ⟨has, eT, hc, hsl⟩)
  dsimp only [Pt.U, Pt.locs, Pt.cells, Pt.slots] at X' l1 y1 z1 st hQ hS' hg' hC
  subst l1 y1 z1
  obtain ⟨X2, hS2, hZ2, hown2⟩ := rebS hS (n1 := T.heap.size) (by rw [eT]; exact hk) X' hS' hg' hZ hown
  exact ⟨T', _, v, Lc, X2, rfl, hQ, hS2, hZ2, hown2, hC, fun _ k => st.trans k⟩
theorem own_callNW (X : Stand p l e R (s.setVm vm0) m args below meth c T locs cells slots) (hx : p.tables.exec = Jvm.exec) (hZ : Z.Warmed39 (s.setVm vm0).vm) (hown : (s.setVm vm0).vm.findClass own = some m.cls) (eT : T.heap = h) {b : Addr} (hy1 : y.name = "<init>")
    (w1 : (Jvm.Cond.methodLink own index y).before a0 Z = true) (w5 : (Jvm.Cond.instanceMethod y).before a0 Z = true) (w6 : (Jvm.Cond.initialized y.cls).before a0 Z = true) (w4 : (Jvm.Cond.code y bytes maxL none).before a0 Z = true) (hy : y.cls ≠ "java/lang/invoke/MethodHandle" ∧ y.cls ≠ "java/lang/invoke/VarHandle")
    {k0 : Nat} (hS : s.Since vm0 k0) (hk : k0 ≤ h.size) (hEL : EW Z a0 EL) (H : CHv Z EL vm0 h) (hsf : ∀ x ∈ sf, Safe Z EL vm0 h x) (hlt : ∀ x ∈ sf, x < h.size)
    (hM : own_MetW l Z EL sf h y bytes maxL none [] rm as' Q rm.cells rm.slots)
    (hf : rm.frames + 1 ≤ R.frames) (hl : W + (maxL + 11) + rm.locals ≤ R.locals) (hc : cells + rm.cells ≤ R.cells) (hsl : slots + rm.slots ≤ R.slots)
    {g : JFrame} (hg : g.method = m) (hsize : g.locals.size = c.maxLocals) {argsL rest : List Value} (has : (.ref b :: argsL).toArray = as') (hlen : ∀ sig, parseMethodDescriptor y.desc = some sig → argsL.length = sig.parameters.length)
    (hstack : g.stack = argsL.reverse ++ .ref b :: rest) (hW : 2 * g.monitorRoom + (rest.map fun v => v.category).sum ≤ W) (hd : decode c.code g.pc = .ok (.invokespecial index, 3)) :
    own_AfterW p l e R s Z EL own vm0 h m args below meth c T locs (cells + rm.cells) (slots + rm.slots) g rest Q := by
  obtain ⟨v, vm1, ⟨T', L', k', n'⟩, -, X', hS', hg', ⟨Lc, hQ, l1, y1, z1, hC⟩, st⟩ := X.specialBackS hx (y := y) hy1 hown (mvT hZ w1) (mvT hZ w5) (mvT hZ w4) hy (own_backW (W := W) hM hZ w4 w6 hf hl hEL H hsf hlt) hg hsize (Steps.refl _) hlen hstack hW hd (fun _ _ => ⟨has, eT, hc, hsl⟩)
  dsimp only [Pt.U, Pt.locs, Pt.cells, Pt.slots] at X' l1 y1 z1 st hQ hS' hg' hC
  subst l1 y1 z1
  obtain ⟨X2, hS2, hZ2, hown2⟩ := rebS hS (n1 := T.heap.size) (by rw [eT]; exact hk) X' hS' hg' hZ hown
  exact ⟨T', _, v, Lc, X2, rfl, hQ, hS2, hZ2, hown2, hC, fun _ k => st.trans k⟩
theorem own_sk (wS : ∀ d ∈ tables_1, d.before a0 Z = true) (h : Bundle.stringAtoms.all (fun w => tables_1.contains w) = true := by decide +kernel) : ∀ a ∈ Bundle.stringAtoms, a.before a0 Z = true := fun a ha => wS a (by
  have q := List.all_eq_true.mp h a ha
  exact List.contains_iff_mem.mp q)
end OwnWide
theorem own_bm32 {n : Int} (h1 : -2147483648 ≤ n) (h2 : n < 2147483648) : n.bmod (2 ^ 32) = n := Int.bmod_eq_of_le (by omega) (by omega)
theorem own_modlt (x : Int32) (n : Int32) (hn : 0 < n.toInt) : 0 ≤ ((x &&& 2147483647) % n).toInt ∧ ((x &&& 2147483647) % n).toInt < n.toInt := by
  have e := Jvm.Kit.i32_mask x 2147483647 (k := 31) (by decide) (by decide)
  rw [Int32.toInt_mod, e]
  have h0 : 0 ≤ x.toInt % 2 ^ 31 := Int.emod_nonneg _ (by decide)
  rw [Int.tmod_eq_emod_of_nonneg h0]
  exact ⟨Int.emod_nonneg _ (by omega), Int.emod_lt_of_pos _ hn⟩
theorem own_i32 {x : Int32} {k : Int32} (h : x.toInt = k.toInt) : x = k := Int32.toInt_inj.mp h
theorem own_in2 {x : Int32} (h : 0 ≤ x.toInt ∧ x.toInt < 2) : x = 0 ∨ x = 1 := by
  rcases (by omega : x.toInt = 0 ∨ x.toInt = 1) with q | q
  · exact .inl (own_i32 (k := 0) q)
  · exact .inr (own_i32 (k := 1) q)
theorem own_in3 {x : Int32} (h : 0 ≤ x.toInt ∧ x.toInt < 3) : x = 0 ∨ x = 1 ∨ x = 2 := by
  rcases (by omega : x.toInt = 0 ∨ x.toInt = 1 ∨ x.toInt = 2) with q | q | q
  · exact .inl (own_i32 (k := 0) q)
  · exact .inr (.inl (own_i32 (k := 1) q))
  · exact .inr (.inr (own_i32 (k := 2) q))
theorem own_in4 {x : Int32} (h : 0 ≤ x.toInt ∧ x.toInt < 4) : x = 0 ∨ x = 1 ∨ x = 2 ∨ x = 3 := by
  rcases (by omega : x.toInt = 0 ∨ x.toInt = 1 ∨ x.toInt = 2 ∨ x.toInt = 3) with q | q | q | q
  · exact .inl (own_i32 (k := 0) q)
  · exact .inr (.inl (own_i32 (k := 1) q))
  · exact .inr (.inr (.inl (own_i32 (k := 2) q)))
  · exact .inr (.inr (.inr (own_i32 (k := 3) q)))
theorem own_in5 {x : Int32} (h : 0 ≤ x.toInt ∧ x.toInt < 5) : x = 0 ∨ x = 1 ∨ x = 2 ∨ x = 3 ∨ x = 4 := by
  rcases (by omega : x.toInt = 0 ∨ x.toInt = 1 ∨ x.toInt = 2 ∨ x.toInt = 3 ∨ x.toInt = 4) with q | q | q | q | q
  · exact .inl (own_i32 (k := 0) q)
  · exact .inr (.inl (own_i32 (k := 1) q))
  · exact .inr (.inr (.inl (own_i32 (k := 2) q)))
  · exact .inr (.inr (.inr (.inl (own_i32 (k := 3) q))))
  · exact .inr (.inr (.inr (.inr (own_i32 (k := 4) q))))
theorem own_in6 {x : Int32} (h : 0 ≤ x.toInt ∧ x.toInt < 6) : x = 0 ∨ x = 1 ∨ x = 2 ∨ x = 3 ∨ x = 4 ∨ x = 5 := by
  rcases (by omega : x.toInt = 0 ∨ x.toInt = 1 ∨ x.toInt = 2 ∨ x.toInt = 3 ∨ x.toInt = 4 ∨ x.toInt = 5) with q | q | q | q | q | q
  · exact .inl (own_i32 (k := 0) q)
  · exact .inr (.inl (own_i32 (k := 1) q))
  · exact .inr (.inr (.inl (own_i32 (k := 2) q)))
  · exact .inr (.inr (.inr (.inl (own_i32 (k := 3) q))))
  · exact .inr (.inr (.inr (.inr (.inl (own_i32 (k := 4) q)))))
  · exact .inr (.inr (.inr (.inr (.inr (own_i32 (k := 5) q)))))
theorem own_in7 {x : Int32} (h : 0 ≤ x.toInt ∧ x.toInt < 7) : x = 0 ∨ x = 1 ∨ x = 2 ∨ x = 3 ∨ x = 4 ∨ x = 5 ∨ x = 6 := by
  rcases (by omega : x.toInt = 0 ∨ x.toInt = 1 ∨ x.toInt = 2 ∨ x.toInt = 3 ∨ x.toInt = 4 ∨ x.toInt = 5 ∨ x.toInt = 6) with q | q | q | q | q | q | q
  · exact .inl (own_i32 (k := 0) q)
  · exact .inr (.inl (own_i32 (k := 1) q))
  · exact .inr (.inr (.inl (own_i32 (k := 2) q)))
  · exact .inr (.inr (.inr (.inl (own_i32 (k := 3) q))))
  · exact .inr (.inr (.inr (.inr (.inl (own_i32 (k := 4) q)))))
  · exact .inr (.inr (.inr (.inr (.inr (.inl (own_i32 (k := 5) q))))))
  · exact .inr (.inr (.inr (.inr (.inr (.inr (own_i32 (k := 6) q))))))
theorem own_mk3 (x : Int32) : (x &&& 255).toUInt32.toUInt16.toUInt32.toInt32 = x &&& 255 := by
  have e := Jvm.Kit.i32_mask x 255 (k := 8) (by decide) (by decide)
  apply Int32.toInt_inj.mp
  have h1 : ((x &&& 255).toUInt32.toUInt16.toUInt32.toInt32).toInt = ((x &&& 255).toBitVec.toNat % 65536 : Nat) := by
    have hm : ((x &&& 255).toUInt32.toUInt16.toUInt32.toInt32).toBitVec.toNat = (x &&& 255).toBitVec.toNat % 65536 := by
      simp only [Int32.toBitVec_and, UInt32.toBitVec_toInt32] at *
      simp
      rw [show (255 : Nat) = 2 ^ 8 - 1 from rfl, Nat.and_two_pow_sub_one_eq_mod, Nat.and_two_pow_sub_one_eq_mod]; omega
    show ((x &&& 255).toUInt32.toUInt16.toUInt32.toInt32).toBitVec.toInt = _
    rw [BitVec.toInt_eq_toNat_cond, hm, if_pos (by omega)]
  have h2 : (x &&& 255).toBitVec.toInt = (x &&& 255).toInt := rfl
  have h3 : ((x &&& 255).toBitVec.toNat : Int) = (x &&& 255).toInt := by
    rw [← h2, BitVec.toInt_eq_toNat_cond]
    have : (x &&& 255).toBitVec.toInt = x.toInt % 2 ^ 8 := e
    rw [BitVec.toInt_eq_toNat_cond] at this
    split
    · rfl
    · rename_i hc; rw [if_neg hc] at this; have := (x &&& 255).toBitVec.isLt; omega
  rw [h1]; omega
theorem own_mk1 (x : Int32) : ¬ (255 < (x &&& 255)) := by
  have e := Jvm.Kit.i32_mask x 255 (k := 8) (by decide) (by decide)
  rw [Int32.lt_iff_toInt_lt, e]
  have e1 : (255 : Int32).toInt = 255 := rfl
  omega
theorem own_mk0 (x : Int32) : ¬ ((x &&& 255) < 0) := by
  have e := Jvm.Kit.i32_mask x 255 (k := 8) (by decide) (by decide)
  rw [Int32.lt_iff_toInt_lt, e]
  have e1 : (0 : Int32).toInt = 0 := rfl
  omega
theorem own_mk2 (x : Int32) : nar .char (x &&& 255) = x &&& 255 := own_mk3 x
theorem own_chr (x : Int32) : ∃ z : Int32, z = (x &&& 255).toUInt32.toUInt16.toUInt32.toInt32 ∧ ¬ (z < 0) ∧ ¬ (255 < z) ∧ nar .char z = z := by
  refine ⟨_, rfl, ?_, ?_, own_narC _⟩
  · rw [own_mk3]; exact own_mk0 x
  · rw [own_mk3]; exact own_mk1 x
abbrev mN0 : MethodName := ⟨"java/lang/StringUTF16", "compress", "([CI[BII)I"⟩
abbrev mN1 : MethodName := ⟨"java/lang/StringUTF16", "compress", "([CII)[B"⟩
abbrev mN2 : MethodName := ⟨"java/lang/StringUTF16", "coderFromArrayLen", "([BI)B"⟩
abbrev mN3 : MethodName := ⟨"java/lang/String", "<init>", "([CIILjava/lang/Void;)V"⟩
abbrev mN4 : MethodName := ⟨"java/lang/String", "<init>", "([C)V"⟩
abbrev mN5 : MethodName := ⟨"com/example/typub/typub/GroupOfPinLaw", "draw", "(IIII)Ljava/lang/String;"⟩
abbrev mN6 : MethodName := ⟨"java/util/Objects", "requireNonNull", "(Ljava/lang/Object;Ljava/lang/String;)Ljava/lang/Object;"⟩
abbrev mN7 : MethodName := ⟨"java/lang/String", "isEmpty", "()Z"⟩
abbrev mN8 : MethodName := ⟨"com/example/typub/typub/Group", "<init>", "(Ljava/lang/String;)V"⟩
abbrev mN9 : MethodName := ⟨"com/example/typub/typub/Group", "of", "(Ljava/lang/String;)Lcom/example/typub/typub/Group;"⟩
abbrev mN10 : MethodName := ⟨"java/lang/StringLatin1", "equals", "([B[B)Z"⟩
abbrev mN11 : MethodName := ⟨"java/lang/String", "equals", "(Ljava/lang/Object;)Z"⟩
abbrev mN12 : MethodName := ⟨"com/example/typub/typub/Group", "name", "()Ljava/lang/String;"⟩
abbrev mN13 : MethodName := ⟨"com/example/typub/typub/Group", "equals", "(Ljava/lang/Object;)Z"⟩
abbrev mN14 : MethodName := ⟨"java/lang/String", "isLatin1", "()Z"⟩
abbrev mN15 : MethodName := ⟨"java/lang/StringLatin1", "hashCode", "([B)I"⟩
abbrev mN16 : MethodName := ⟨"java/lang/String", "hashCode", "()I"⟩
abbrev mN17 : MethodName := ⟨"com/example/typub/typub/Group", "hashCode", "()I"⟩
abbrev mN18 : MethodName := ⟨"jdk/internal/util/ArraysSupport", "signedHashCode", "(I[BII)I"⟩
abbrev mN19 : MethodName := ⟨"jdk/internal/util/ArraysSupport", "vectorizedHashCode", "(Ljava/lang/Object;IIII)I"⟩
abbrev cN0 : String := "java/lang/StringUTF16"
abbrev cN1 : String := "java/lang/String"
abbrev cN2 : String := "com/example/typub/typub/GroupOfPinLaw"
abbrev cN3 : String := "java/lang/Object"
abbrev cN4 : String := "com/example/typub/typub/Group"
abbrev cN5 : String := "Ljava/lang/String;"
abbrev cN6 : String := "java/lang/StringLatin1"
abbrev cN7 : String := "jdk/internal/util/ArraysSupport"
abbrev cN8 : String := "Lcom/example/typub/typub/Group;"
abbrev own_EL : List (String × Nat) := []
theorem own_ef0 (m : MethodId) (x0 : Int32) (x1 : Int32) (x2 : Int32) (x3 : Int32) (x4 : Int32) (x5 : Int32) : entryFrame m #[(.int x0), (.int x1), (.int x2), (.int x3), (.int x4), (.int x5)] maxLocals = mkF m 0 #[.val (.int x0), .val (.int x1), .val (.int x2), .val (.int x3), .val (.int x4), .val (.int x5), .unset, .unset, .unset, .unset, .unset, .unset, .unset] [] := by first | (simp [entryFrame, mkF, argsToLocals, Value.category, maxLocals]; done) | rfl
theorem own_ef1 (m : MethodId) (x0 : Int32) (x1 : Int32) (x2 : Int32) (x3 : Int32) : entryFrame m #[(.int x0), (.int x1), (.int x2), (.int x3)] 8 = mkF m 0 #[.val (.int x0), .val (.int x1), .val (.int x2), .val (.int x3), .unset, .unset, .unset, .unset] [] := by first | (simp [entryFrame, mkF, argsToLocals, Value.category]; done) | rfl
theorem dd0_0 : decode method_2_code 0 = .ok (.iload_n 1, 1) := by decide +kernel
theorem dd0_1 : decode method_2_code 1 = .ok (.sipush 255, 3) := by decide +kernel
theorem dd0_4 : decode method_2_code 4 = .ok (.iand, 1) := by decide +kernel
theorem dd0_5 : decode method_2_code 5 = .ok (.i2c, 1) := by decide +kernel
theorem dd0_6 : decode method_2_code 6 = .ok (.istore 4, 2) := by decide +kernel
theorem dd0_8 : decode method_2_code 8 = .ok (.iload_n 2, 1) := by decide +kernel
theorem dd0_9 : decode method_2_code 9 = .ok (.sipush 255, 3) := by decide +kernel
theorem dd0_12 : decode method_2_code 12 = .ok (.iand, 1) := by decide +kernel
theorem dd0_13 : decode method_2_code 13 = .ok (.i2c, 1) := by decide +kernel
theorem dd0_14 : decode method_2_code 14 = .ok (.istore 5, 2) := by decide +kernel
theorem dd0_16 : decode method_2_code 16 = .ok (.iload_n 3, 1) := by decide +kernel
theorem dd0_17 : decode method_2_code 17 = .ok (.sipush 255, 3) := by decide +kernel
theorem dd0_20 : decode method_2_code 20 = .ok (.iand, 1) := by decide +kernel
theorem dd0_21 : decode method_2_code 21 = .ok (.i2c, 1) := by decide +kernel
theorem dd0_22 : decode method_2_code 22 = .ok (.istore 6, 2) := by decide +kernel
theorem dd0_24 : decode method_2_code 24 = .ok (.iload_n 0, 1) := by decide +kernel
theorem dd0_25 : decode method_2_code 25 = .ok (.iconst 1, 1) := by decide +kernel
theorem dd0_26 : decode method_2_code 26 = .ok (.if_icmp .ne 23, 3) := by decide +kernel
theorem dd0_29 : decode method_2_code 29 = .ok (.iconst 1, 1) := by decide +kernel
theorem dd0_30 : decode method_2_code 30 = .ok (.newarray .char, 2) := by decide +kernel
theorem dd0_32 : decode method_2_code 32 = .ok (.dup, 1) := by decide +kernel
theorem dd0_33 : decode method_2_code 33 = .ok (.iconst 0, 1) := by decide +kernel
theorem dd0_34 : decode method_2_code 34 = .ok (.iload 4, 2) := by decide +kernel
theorem dd0_36 : decode method_2_code 36 = .ok (.castore, 1) := by decide +kernel
theorem dd0_37 : decode method_2_code 37 = .ok (.astore 7, 2) := by decide +kernel
theorem dd0_39 : decode method_2_code 39 = .ok (.new 7, 3) := by decide +kernel
theorem dd0_42 : decode method_2_code 42 = .ok (.dup, 1) := by decide +kernel
theorem dd0_43 : decode method_2_code 43 = .ok (.aload 7, 2) := by decide +kernel
theorem own_ef2 (m : MethodId) (x0 : Addr) (x1 : Addr) : entryFrame m #[(.ref x0), (.ref x1)] 2 = mkF m 0 #[.val (.ref x0), .val (.ref x1)] [] := by first | (simp [entryFrame, mkF, argsToLocals, Value.category]; done) | rfl
theorem dd1_0 : decode jdk_42_method_3_code 0 = .ok (.aload_n 0, 1) := by decide +kernel
theorem dd1_1 : decode jdk_42_method_3_code 1 = .ok (.aload_n 1, 1) := by decide +kernel
theorem dd1_2 : decode jdk_42_method_3_code 2 = .ok (.iconst 0, 1) := by decide +kernel
theorem dd1_3 : decode jdk_42_method_3_code 3 = .ok (.aload_n 1, 1) := by decide +kernel
theorem dd1_4 : decode jdk_42_method_3_code 4 = .ok (.arraylength, 1) := by decide +kernel
theorem dd1_5 : decode jdk_42_method_3_code 5 = .ok (.aconst_null, 1) := by decide +kernel
theorem own_ef3 (m : MethodId) (x0 : Addr) (x1 : Addr) (x2 : Int32) (x3 : Int32) : entryFrame m #[(.ref x0), (.ref x1), (.int x2), (.int x3), .null] 6 = mkF m 0 #[.val (.ref x0), .val (.ref x1), .val (.int x2), .val (.int x3), .val .null, .unset] [] := by first | (simp [entryFrame, mkF, argsToLocals, Value.category]; done) | rfl
theorem dd2_0 : decode jdk_42_method_149_code 0 = .ok (.aload_n 0, 1) := by decide +kernel
theorem dd2_1 : decode jdk_42_method_149_code 1 = .ok (.invokespecial 1, 3) := by decide +kernel
theorem dd2_4 : decode jdk_42_method_149_code 4 = .ok (.iload_n 3, 1) := by decide +kernel
theorem dd2_5 : decode jdk_42_method_149_code 5 = .ok (.ifCond .ne 22, 3) := by decide +kernel
theorem dd2_27 : decode jdk_42_method_149_code 27 = .ok (.getstatic 38, 3) := by decide +kernel
theorem dd2_30 : decode jdk_42_method_149_code 30 = .ok (.ifCond .eq 28, 3) := by decide +kernel
theorem dd2_33 : decode jdk_42_method_149_code 33 = .ok (.aload_n 1, 1) := by decide +kernel
theorem dd2_34 : decode jdk_42_method_149_code 34 = .ok (.iload_n 2, 1) := by decide +kernel
theorem dd2_35 : decode jdk_42_method_149_code 35 = .ok (.iload_n 3, 1) := by decide +kernel
theorem own_ef4 (m : MethodId) (x0 : Addr) (x1 : Int32) (x2 : Int32) : entryFrame m #[(.ref x0), (.int x1), (.int x2)] 6 = mkF m 0 #[.val (.ref x0), .val (.int x1), .val (.int x2), .unset, .unset, .unset] [] := by first | (simp [entryFrame, mkF, argsToLocals, Value.category]; done) | rfl
theorem dd3_0 : decode jdk_52_method_16_code 0 = .ok (.iload_n 2, 1) := by decide +kernel
theorem dd3_1 : decode jdk_52_method_16_code 1 = .ok (.newarray .byte, 2) := by decide +kernel
theorem dd3_3 : decode jdk_52_method_16_code 3 = .ok (.astore_n 3, 1) := by decide +kernel
theorem dd3_4 : decode jdk_52_method_16_code 4 = .ok (.aload_n 0, 1) := by decide +kernel
theorem dd3_5 : decode jdk_52_method_16_code 5 = .ok (.iload_n 1, 1) := by decide +kernel
theorem dd3_6 : decode jdk_52_method_16_code 6 = .ok (.aload_n 3, 1) := by decide +kernel
theorem dd3_7 : decode jdk_52_method_16_code 7 = .ok (.iconst 0, 1) := by decide +kernel
theorem dd3_8 : decode jdk_52_method_16_code 8 = .ok (.iload_n 2, 1) := by decide +kernel
theorem own_ef5 (m : MethodId) (x0 : Addr) (x1 : Int32) (x2 : Addr) (x3 : Int32) (x4 : Int32) : entryFrame m #[(.ref x0), (.int x1), (.ref x2), (.int x3), (.int x4)] 7 = mkF m 0 #[.val (.ref x0), .val (.int x1), .val (.ref x2), .val (.int x3), .val (.int x4), .unset, .unset] [] := by first | (simp [entryFrame, mkF, argsToLocals, Value.category]; done) | rfl
theorem dd4_0 : decode jdk_52_method_21_code 0 = .ok (.iconst 0, 1) := by decide +kernel
theorem dd4_1 : decode jdk_52_method_21_code 1 = .ok (.istore 5, 2) := by decide +kernel
theorem dd4_3 : decode jdk_52_method_21_code 3 = .ok (.iload 5, 2) := by decide +kernel
theorem dd4_5 : decode jdk_52_method_21_code 5 = .ok (.iload 4, 2) := by decide +kernel
theorem dd4_7 : decode jdk_52_method_21_code 7 = .ok (.if_icmp .ge 37, 3) := by decide +kernel
theorem dd4_10 : decode jdk_52_method_21_code 10 = .ok (.aload_n 0, 1) := by decide +kernel
theorem dd4_11 : decode jdk_52_method_21_code 11 = .ok (.iload_n 1, 1) := by decide +kernel
theorem dd4_12 : decode jdk_52_method_21_code 12 = .ok (.caload, 1) := by decide +kernel
theorem dd4_13 : decode jdk_52_method_21_code 13 = .ok (.istore 6, 2) := by decide +kernel
theorem dd4_15 : decode jdk_52_method_21_code 15 = .ok (.iload 6, 2) := by decide +kernel
theorem dd4_17 : decode jdk_52_method_21_code 17 = .ok (.sipush 255, 3) := by decide +kernel
theorem dd4_20 : decode jdk_52_method_21_code 20 = .ok (.if_icmp .le 6, 3) := by decide +kernel
theorem dd4_26 : decode jdk_52_method_21_code 26 = .ok (.aload_n 2, 1) := by decide +kernel
theorem dd4_27 : decode jdk_52_method_21_code 27 = .ok (.iload_n 3, 1) := by decide +kernel
theorem dd4_28 : decode jdk_52_method_21_code 28 = .ok (.iload 6, 2) := by decide +kernel
theorem dd4_30 : decode jdk_52_method_21_code 30 = .ok (.i2b, 1) := by decide +kernel
theorem dd4_31 : decode jdk_52_method_21_code 31 = .ok (.bastore, 1) := by decide +kernel
theorem dd4_32 : decode jdk_52_method_21_code 32 = .ok (.iinc 1 1, 3) := by decide +kernel
theorem dd4_35 : decode jdk_52_method_21_code 35 = .ok (.iinc 3 1, 3) := by decide +kernel
theorem dd4_38 : decode jdk_52_method_21_code 38 = .ok (.iinc 5 1, 3) := by decide +kernel
theorem dd4_41 : decode jdk_52_method_21_code 41 = .ok (.goto (-38), 3) := by decide +kernel
theorem dd4_44 : decode jdk_52_method_21_code 44 = .ok (.iload 4, 2) := by decide +kernel
theorem dd4_46 : decode jdk_52_method_21_code 46 = .ok (.ireturn, 1) := by decide +kernel
def own_Q6 (Z : State) (ob_30 : Nat) (ob_92 : Nat) (kk_28 : ClassId) (in_1 : Int32) (kk_90 : ClassId) (h0 : Heap) (n0 : Nat) (v : Option Value) (h : Heap) (L : List Loc) : Prop := (v = some (.int 1) ∧ Fr n0 L ∧ Keep h0 h [ob_92] ∧ Arv Z h ob_92 kk_90 .byte 1 [(.int ((in_1 &&& 255).toInt8.toInt32))] (.int 0) ∧ Exa Z h ob_92 "[B")
theorem own_pn0 : plainFor mN0 = true := by decide +kernel
set_option maxRecDepth 65536 in
set_option maxHeartbeats 40000000 in
theorem own_rm6 (l : Launch) (Z : State) (a0 : Array Value) (hw : ∀ d ∈ tables_1, d.before a0 Z = true) (ws : List Jvm.Cond) (ob_30 : Nat) (ob_92 : Nat) (kk_28 : ClassId) (in_1 : Int32) (kk_90 : ClassId) (h0 : Heap) (n0 : Nat) (Z0 : n0 ≤ h0.size) (O0 : Old Z n0 h0) (I99 : Arv Z h0 ob_30 kk_28 .char 1 [(.int (in_1 &&& 255))] (.int 0)) (I100 : Arv Z h0 ob_92 kk_90 .byte 1 [(.int 0)] (.int 0)) (I110 : n0 ≤ ob_92) (I113 : Exa Z h0 ob_92 "[B") :
    own_Met l Z h0 mN0 jdk_52_method_21_code 7 (Option.some FieldType.int) ws ({ frames := 0, cells := 0, slots := 0, locals := 0 } : Room) #[(.ref ob_30), (.int 0), (.ref ob_92), (.int 0), (.int 1)] (own_Q6 Z ob_30 ob_92 kk_28 in_1 kk_90 h0 n0) 0 0 := by
  refine MetFree.of_bodySF own_pn0 hisR ?_
  intro p e s m args below meth c s₁ Bd hml0 hP hK
  obtain ⟨rfl, hZ, hh⟩ := hP
  have hx := Bd.exec
  have hby := Bd.bytes
  have hml : c.maxLocals = 7 := hml0
  have hown : s.vm.findClass cN0 = some m.cls := findClass_of_methodNamed Bd.named
  have hnm := (name_of_methodNamed Bd.named Bd.method).1
  have X0 : Stand p l e ({ frames := 0, cells := 0, slots := 0, locals := 0 } : Room) s m #[(.ref ob_30), (.int 0), (.ref ob_92), (.int 0), (.int 1)] below meth c s₁ [] 0 0 := Stand.of_body Bd
  have e0 : s₁.heap = h0 := by rw [← hh, Bd.state]; rfl
  have N0 := Fr.nil n0
  show own_G p e below (s₁.setTop (entryFrame m #[(.ref ob_30), (.int 0), (.ref ob_92), (.int 0), (.int 1)] 7)) (own_P s (own_Q6 Z ob_30 ob_92 kk_28 in_1 kk_90 h0 n0) 0 0)
  refine own_cast (own_ef5 m ob_30 0 ob_92 0 1) ?_
  show own_G p e below (s₁.setTop (mkF m 0 #[rv ob_30, iv 0, rv ob_92, iv 0, iv 1, .unset, .unset] [])) _
  refine oS (fun _ => XS.iconst X0.here hx rfl (hb hby dd4_0) ) ?_
  refine oS (fun _ => XS.istore X0.here hx rfl (hb hby dd4_1) rfl (l' := #[rv ob_30, iv 0, rv ob_92, iv 0, iv 1, iv 0, .unset]) rfl) ?_
  refine oS (fun _ => XS.iload X0.here hx rfl (hb hby dd4_3) rfl) ?_
  refine oS (fun _ => XS.iload X0.here hx rfl (hb hby dd4_5) rfl) ?_
  show own_G p e below (s₁.setTop (mkF m 7 #[rv ob_30, iv 0, rv ob_92, iv 0, iv 1, iv 0, .unset] [(.int 1), (.int 0)])) _
  refine oS (fun _ => XS.icmpNo X0.here hx rfl (hb hby dd4_7) rfl (XT.ii_ge_f (by decide))) ?_
  show own_G p e below (s₁.setTop (mkF m 10 #[rv ob_30, iv 0, rv ob_92, iv 0, iv 1, iv 0, .unset] [])) _
  refine oS (fun _ => XS.aloadN X0.here hx rfl (hb hby dd4_10) rfl rfl) ?_
  refine oS (fun _ => XS.iloadN X0.here hx rfl (hb hby dd4_11) rfl) ?_
  refine oS (own_caload X0 hx hZ e0 I99 (by decide) (v := (.int (in_1 &&& 255))) rfl rfl rfl (hb hby dd4_12)) ?_
  show own_G p e below (s₁.setTop (mkF m 13 #[rv ob_30, iv 0, rv ob_92, iv 0, iv 1, iv 0, .unset] [(.int (in_1 &&& 255))])) _
  refine oS (fun _ => XS.istore X0.here hx rfl (hb hby dd4_13) rfl (l' := #[rv ob_30, iv 0, rv ob_92, iv 0, iv 1, iv 0, iv (in_1 &&& 255)]) rfl) ?_
  refine oS (fun _ => XS.iload X0.here hx rfl (hb hby dd4_15) rfl) ?_
  refine oS (fun _ => XS.sipush X0.here hx rfl (hb hby dd4_17) ) ?_
  refine oS (fun _ => XS.icmpYes X0.here hx rfl (pc0 := 20) (pc' := 26) rfl (hb hby dd4_20) rfl (XT.ii_le_t (own_mk1 in_1)) (by decide) (by decide)) ?_
  show own_G p e below (s₁.setTop (mkF m 26 #[rv ob_30, iv 0, rv ob_92, iv 0, iv 1, iv 0, iv (in_1 &&& 255)] [])) _
  refine oS (fun _ => XS.aloadN X0.here hx rfl (hb hby dd4_26) rfl rfl) ?_
  refine oS (fun _ => XS.iloadN X0.here hx rfl (hb hby dd4_27) rfl) ?_
  refine oS (fun _ => XS.iload X0.here hx rfl (hb hby dd4_28) rfl) ?_
  refine oS (fun _ => XT.i2b X0.here hx rfl (hb hby dd4_30) rfl) ?_
  show own_G p e below (s₁.setTop (mkF m 31 #[rv ob_30, iv 0, rv ob_92, iv 0, iv 1, iv 0, iv (in_1 &&& 255)] [(.int ((in_1 &&& 255).toInt8.toInt32)), (.int 0), (.ref ob_92)])) _
  obtain ⟨T101, h102, X103, e104, W105, A106, s107⟩ := own_stB X0 hx hZ e0 I100 (x' := ((in_1 &&& 255).toInt8.toInt32)) 0 (own_narB _) rfl (by decide) (by simp) (g := (mkF m 31 #[rv ob_30, iv 0, rv ob_92, iv 0, iv 1, iv 0, iv (in_1 &&& 255)] [(.int ((in_1 &&& 255).toInt8.toInt32)), (.int 0), (.ref ob_92)])) rfl (rest := []) rfl (hb hby dd4_31)
  have N108 := Fr.snoc X103 N0 I110
  have z111 := W105.size
  have F112 : Arv Z h102 ob_92 kk_90 .byte 1 [(.int ((in_1 &&& 255).toInt8.toInt32))] (.int 0) := A106
  refine oS s107 ?_
  show own_G p e below (T101.setTop (mkF m 32 #[rv ob_30, iv 0, rv ob_92, iv 0, iv 1, iv 0, iv (in_1 &&& 255)] [])) _
  refine oS (fun _ => XS.iinc X103.here hx rfl (hb hby dd4_32) rfl (l' := #[rv ob_30, iv 1, rv ob_92, iv 0, iv 1, iv 0, iv (in_1 &&& 255)]) rfl) ?_
  show own_G p e below (T101.setTop (mkF m 35 #[rv ob_30, iv 1, rv ob_92, iv 0, iv 1, iv 0, iv (in_1 &&& 255)] [])) _
  refine oS (fun _ => XS.iinc X103.here hx rfl (hb hby dd4_35) rfl (l' := #[rv ob_30, iv 1, rv ob_92, iv 1, iv 1, iv 0, iv (in_1 &&& 255)]) rfl) ?_
  show own_G p e below (T101.setTop (mkF m 38 #[rv ob_30, iv 1, rv ob_92, iv 1, iv 1, iv 0, iv (in_1 &&& 255)] [])) _
  refine oS (fun _ => XS.iinc X103.here hx rfl (hb hby dd4_38) rfl (l' := #[rv ob_30, iv 1, rv ob_92, iv 1, iv 1, iv 1, iv (in_1 &&& 255)]) rfl) ?_
  show own_G p e below (T101.setTop (mkF m 41 #[rv ob_30, iv 1, rv ob_92, iv 1, iv 1, iv 1, iv (in_1 &&& 255)] [])) _
  refine oS (fun _ => XS.goto X103.here hx rfl (pc0 := 41) (pc' := 3) rfl (hb hby dd4_41) (by decide) (by decide)) ?_
  show own_G p e below (T101.setTop (mkF m 3 #[rv ob_30, iv 1, rv ob_92, iv 1, iv 1, iv 1, iv (in_1 &&& 255)] [])) _
  refine oS (fun _ => XS.iload X103.here hx rfl (hb hby dd4_3) rfl) ?_
  refine oS (fun _ => XS.iload X103.here hx rfl (hb hby dd4_5) rfl) ?_
  refine oS (fun _ => XS.icmpYes X103.here hx rfl (pc0 := 7) (pc' := 44) rfl (hb hby dd4_7) rfl (XT.ii_ge_t (by decide)) (by decide) (by decide)) ?_
  show own_G p e below (T101.setTop (mkF m 44 #[rv ob_30, iv 1, rv ob_92, iv 1, iv 1, iv 1, iv (in_1 &&& 255)] [])) _
  refine oS (fun _ => XS.iload X103.here hx rfl (hb hby dd4_44) rfl) ?_
  have F114 : Exa Z h102 ob_92 "[B" := Exa.wr W105 I113
  have K115 : Keep h0 h102 [ob_92] := ((Keep.refl h0 [ob_92]).wr W105 (Or.inl (by simp)))
  exact own_retI X103 hx Bd.notSynchronized Bd.returns (hb hby dd4_46) e104 (by decide) (by decide) (⟨rfl, N108, K115, F112, F114⟩)
theorem own_pd0 : parseMethodDescriptor "([CI[BII)I" = some ⟨[(.array .char), .int, (.array .byte), .int, .int], (some .int)⟩ := by decide +kernel
theorem dd3_9 : decode jdk_52_method_16_code 9 = .ok (.invokestatic 115, 3) := by decide +kernel
theorem dd3_12 : decode jdk_52_method_16_code 12 = .ok (.istore 4, 2) := by decide +kernel
theorem dd3_14 : decode jdk_52_method_16_code 14 = .ok (.iload 4, 2) := by decide +kernel
theorem dd3_16 : decode jdk_52_method_16_code 16 = .ok (.iload_n 2, 1) := by decide +kernel
theorem dd3_17 : decode jdk_52_method_16_code 17 = .ok (.if_icmp .eq 40, 3) := by decide +kernel
theorem dd3_57 : decode jdk_52_method_16_code 57 = .ok (.aload_n 3, 1) := by decide +kernel
theorem dd3_58 : decode jdk_52_method_16_code 58 = .ok (.areturn, 1) := by decide +kernel
def own_Q5 (Z : State) (ob_30 : Nat) (kk_28 : ClassId) (in_1 : Int32) (h0 : Heap) (n0 : Nat) (v : Option Value) (h : Heap) (L : List Loc) : Prop := (∃ ob_92 : Nat, ∃ kk_90 : ClassId, v = some (.ref ob_92) ∧ Fr n0 L ∧ Keep h0 h [] ∧ h0.size ≤ ob_92 ∧ Arv Z h ob_92 kk_90 .byte 1 [(.int ((in_1 &&& 255).toInt8.toInt32))] (.int 0) ∧ Exa Z h ob_92 "[B" ∧ @LT.lt Nat instLTNat ob_92 h.size)
theorem own_pn1 : plainFor mN1 = true := by decide +kernel
set_option maxRecDepth 65536 in
set_option maxHeartbeats 40000000 in
theorem own_rm5 (l : Launch) (Z : State) (a0 : Array Value) (hw : ∀ d ∈ tables_1, d.before a0 Z = true) (ws : List Jvm.Cond) (ob_30 : Nat) (kk_28 : ClassId) (in_1 : Int32) (h0 : Heap) (n0 : Nat) (Z0 : n0 ≤ h0.size) (O0 : Old Z n0 h0) (I97 : Arv Z h0 ob_30 kk_28 .char 1 [(.int (in_1 &&& 255))] (.int 0)) :
    own_Met l Z h0 mN1 jdk_52_method_16_code 6 (Option.some (FieldType.array FieldType.byte)) ws ({ frames := 1, cells := 1, slots := 1, locals := 18 } : Room) #[(.ref ob_30), (.int 0), (.int 1)] (own_Q5 Z ob_30 kk_28 in_1 h0 n0) 1 1 := by
  refine MetFree.of_bodySF own_pn1 hisR ?_
  intro p e s m args below meth c s₁ Bd hml0 hP hK
  obtain ⟨rfl, hZ, hh⟩ := hP
  have hx := Bd.exec
  have hby := Bd.bytes
  have hml : c.maxLocals = 6 := hml0
  have hown : s.vm.findClass cN0 = some m.cls := findClass_of_methodNamed Bd.named
  have hnm := (name_of_methodNamed Bd.named Bd.method).1
  have X0 : Stand p l e ({ frames := 1, cells := 1, slots := 1, locals := 18 } : Room) s m #[(.ref ob_30), (.int 0), (.int 1)] below meth c s₁ [] 0 0 := Stand.of_body Bd
  have e0 : s₁.heap = h0 := by rw [← hh, Bd.state]; rfl
  have N0 := Fr.nil n0
  show own_G p e below (s₁.setTop (entryFrame m #[(.ref ob_30), (.int 0), (.int 1)] 6)) (own_P s (own_Q5 Z ob_30 kk_28 in_1 h0 n0) 1 1)
  refine own_cast (own_ef4 m ob_30 0 1) ?_
  show own_G p e below (s₁.setTop (mkF m 0 #[rv ob_30, iv 0, iv 1, .unset, .unset, .unset] [])) _
  refine oS (fun _ => XS.iloadN X0.here hx rfl (hb hby dd3_0) rfl) ?_
  obtain ⟨T81, h82, kk_90, X84, e85, E86, A87, B91, s88⟩ := own_newP X0 hx hZ (aty := .byte) (oW hw 24 rfl) e0 (nm := "[B") rfl (g := (mkF m 1 #[rv ob_30, iv 0, iv 1, .unset, .unset, .unset] [(.int 1)])) rfl (hb hby dd3_1) (n := 1) (rest := []) rfl (by decide) (cap := 1) (by decide) (by decide) (by decide) (by decide)
  obtain ⟨ob_92, g93⟩ : ∃ z, z = h0.size := ⟨_, rfl⟩
  rw [← g93] at A87 B91 s88
  have F94 : Arv Z h82 ob_92 kk_90 .byte 1 [(.int 0)] (.int 0) := own_newA A87 (by decide) rfl rfl
  have z95 := E86.1
  have y89 : @LT.lt Nat instLTNat ob_92 h82.size := F94.lt
  refine oS s88 ?_
  show own_G p e below (T81.setTop (mkF m 3 #[rv ob_30, iv 0, iv 1, .unset, .unset, .unset] [(.ref ob_92)])) _
  refine oS (fun _ => XS.astoreN X84.here hx rfl (hb hby dd3_3) rfl rfl (l' := #[rv ob_30, iv 0, iv 1, rv ob_92, .unset, .unset]) rfl) ?_
  refine oS (fun _ => XS.aloadN X84.here hx rfl (hb hby dd3_4) rfl rfl) ?_
  refine oS (fun _ => XS.iloadN X84.here hx rfl (hb hby dd3_5) rfl) ?_
  refine oS (fun _ => XS.aloadN X84.here hx rfl (hb hby dd3_6) rfl rfl) ?_
  show own_G p e below (T81.setTop (mkF m 7 #[rv ob_30, iv 0, iv 1, rv ob_92, .unset, .unset] [(.ref ob_92), (.int 0), (.ref ob_30)])) _
  refine oS (fun _ => XS.iconst X84.here hx rfl (hb hby dd3_7) ) ?_
  refine oS (fun _ => XS.iloadN X84.here hx rfl (hb hby dd3_8) rfl) ?_
  have F98 : Arv Z h82 ob_30 kk_28 .char 1 [(.int (in_1 &&& 255))] (.int 0) := I97.ext E86
  have N109 : n0 ≤ ob_92 := by omega
  have O116 : Old Z n0 h82 := O0.ext E86
  have Z117 : n0 ≤ h82.size := by omega
  obtain ⟨T118, h119, v120, L121, X122, e123, q124, s125⟩ := own_callS X84 hx hZ hown e85 (y := mN0) (oW hw 25 rfl) (oW hw 26 rfl) (oW hw 22 rfl) (oW hw 27 rfl) (by decide) (W := 0) (own_rm6 l Z a0 hw [] ob_30 ob_92 kk_28 in_1 kk_90 h82 n0 Z117 O116 F98 F94 N109 B91) (by decide) (by decide) (by decide) (by decide) (g := (mkF m 9 #[rv ob_30, iv 0, iv 1, rv ob_92, .unset, .unset] [(.int 1), (.int 0), (.ref ob_92), (.int 0), (.ref ob_30)])) rfl (by rw [hml]; rfl) (argsL := [(.ref ob_30), (.int 0), (.ref ob_92), (.int 0), (.int 1)]) (rest := []) rfl (lenOf own_pd0 rfl) rfl (by show 2 * 0 + _ ≤ _; exact Nat.le_of_eq rfl) (hb hby dd3_9)
  refine oS s125 ?_
  obtain ⟨rfl, N126, K127, F128, F129⟩ := q124
  have N130 := Fr.app N0 N126
  have z131 := K127.1
  show own_G p e below (T118.setTop (mkF m 12 #[rv ob_30, iv 0, iv 1, rv ob_92, .unset, .unset] [(.int 1)])) _
  refine oS (fun _ => XS.istore X122.here hx rfl (hb hby dd3_12) rfl (l' := #[rv ob_30, iv 0, iv 1, rv ob_92, iv 1, .unset]) rfl) ?_
  refine oS (fun _ => XS.iload X122.here hx rfl (hb hby dd3_14) rfl) ?_
  refine oS (fun _ => XS.iloadN X122.here hx rfl (hb hby dd3_16) rfl) ?_
  refine oS (fun _ => XS.icmpYes X122.here hx rfl (pc0 := 17) (pc' := 57) rfl (hb hby dd3_17) rfl (XT.ii_eq_t (by decide)) (by decide) (by decide)) ?_
  show own_G p e below (T118.setTop (mkF m 57 #[rv ob_30, iv 0, iv 1, rv ob_92, iv 1, .unset] [])) _
  refine oS (fun _ => XS.aloadN X122.here hx rfl (hb hby dd3_57) rfl rfl) ?_
  have y132 : @LT.lt Nat instLTNat ob_92 h119.size := by omega
  have K133 : Keep h0 h119 [] := (((Keep.refl h0 []).ext E86).trans K127 (allS (Or.inr (by omega)) all0))
  exact own_retA X122 hx Bd.notSynchronized Bd.returns rfl rfl (hb hby dd3_58) e123 (by decide) (by decide) (⟨ob_92, kk_90, rfl, N130, K133, (by omega), F128, F129, y132⟩)
theorem own_pd1 : parseMethodDescriptor "([CII)[B" = some ⟨[(.array .char), .int, .int], (some (.array .byte))⟩ := by decide +kernel
theorem dd2_36 : decode jdk_42_method_149_code 36 = .ok (.invokestatic 177, 3) := by decide +kernel
theorem dd2_39 : decode jdk_42_method_149_code 39 = .ok (.astore 5, 2) := by decide +kernel
theorem dd2_41 : decode jdk_42_method_149_code 41 = .ok (.aload_n 0, 1) := by decide +kernel
theorem dd2_42 : decode jdk_42_method_149_code 42 = .ok (.aload 5, 2) := by decide +kernel
theorem dd2_44 : decode jdk_42_method_149_code 44 = .ok (.iload_n 3, 1) := by decide +kernel
theorem own_ef6 (m : MethodId) (x0 : Addr) (x1 : Int32) : entryFrame m #[(.ref x0), (.int x1)] 2 = mkF m 0 #[.val (.ref x0), .val (.int x1)] [] := by first | (simp [entryFrame, mkF, argsToLocals, Value.category]; done) | rfl
theorem dd5_0 : decode jdk_52_method_15_code 0 = .ok (.iload_n 1, 1) := by decide +kernel
theorem dd5_1 : decode jdk_52_method_15_code 1 = .ok (.aload_n 0, 1) := by decide +kernel
theorem dd5_2 : decode jdk_52_method_15_code 2 = .ok (.arraylength, 1) := by decide +kernel
theorem dd5_3 : decode jdk_52_method_15_code 3 = .ok (.isub, 1) := by decide +kernel
theorem dd5_4 : decode jdk_52_method_15_code 4 = .ok (.bipush 31, 2) := by decide +kernel
theorem dd5_6 : decode jdk_52_method_15_code 6 = .ok (.iushr, 1) := by decide +kernel
theorem dd5_7 : decode jdk_52_method_15_code 7 = .ok (.i2b, 1) := by decide +kernel
theorem dd5_8 : decode jdk_52_method_15_code 8 = .ok (.ireturn, 1) := by decide +kernel
def own_Q7 (Z : State) (ob_142 : Nat) (kk_143 : ClassId) (in_1 : Int32) (h0 : Heap) (n0 : Nat) (v : Option Value) (h : Heap) (L : List Loc) : Prop := (v = some (.int 0) ∧ Fr n0 L ∧ h = h0)
theorem own_pn2 : plainFor mN2 = true := by decide +kernel
set_option maxRecDepth 65536 in
set_option maxHeartbeats 40000000 in
theorem own_rm7 (l : Launch) (Z : State) (a0 : Array Value) (hw : ∀ d ∈ tables_1, d.before a0 Z = true) (ws : List Jvm.Cond) (ob_142 : Nat) (kk_143 : ClassId) (in_1 : Int32) (h0 : Heap) (n0 : Nat) (Z0 : n0 ≤ h0.size) (O0 : Old Z n0 h0) (I152 : Arv Z h0 ob_142 kk_143 .byte 1 [(.int ((in_1 &&& 255).toInt8.toInt32))] (.int 0)) :
    own_Met l Z h0 mN2 jdk_52_method_15_code 2 (Option.some FieldType.byte) ws ({ frames := 0, cells := 0, slots := 0, locals := 0 } : Room) #[(.ref ob_142), (.int 1)] (own_Q7 Z ob_142 kk_143 in_1 h0 n0) 0 0 := by
  refine MetFree.of_bodySF own_pn2 hisR ?_
  intro p e s m args below meth c s₁ Bd hml0 hP hK
  obtain ⟨rfl, hZ, hh⟩ := hP
  have hx := Bd.exec
  have hby := Bd.bytes
  have hml : c.maxLocals = 2 := hml0
  have hown : s.vm.findClass cN0 = some m.cls := findClass_of_methodNamed Bd.named
  have hnm := (name_of_methodNamed Bd.named Bd.method).1
  have X0 : Stand p l e ({ frames := 0, cells := 0, slots := 0, locals := 0 } : Room) s m #[(.ref ob_142), (.int 1)] below meth c s₁ [] 0 0 := Stand.of_body Bd
  have e0 : s₁.heap = h0 := by rw [← hh, Bd.state]; rfl
  have N0 := Fr.nil n0
  show own_G p e below (s₁.setTop (entryFrame m #[(.ref ob_142), (.int 1)] 2)) (own_P s (own_Q7 Z ob_142 kk_143 in_1 h0 n0) 0 0)
  refine own_cast (own_ef6 m ob_142 1) ?_
  show own_G p e below (s₁.setTop (mkF m 0 #[rv ob_142, iv 1] [])) _
  refine oS (fun _ => XS.iloadN X0.here hx rfl (hb hby dd5_0) rfl) ?_
  refine oS (fun _ => XS.aloadN X0.here hx rfl (hb hby dd5_1) rfl rfl) ?_
  refine oS (own_len X0 hx hZ e0 I152 rfl rfl (hb hby dd5_2)) ?_
  show own_G p e below (s₁.setTop (mkF m 3 #[rv ob_142, iv 1] [(.int 1), (.int 1)])) _
  refine oS (fun _ => XS.isub X0.here hx rfl (hb hby dd5_3) rfl) ?_
  refine oS (fun _ => XS.bipush X0.here hx rfl (hb hby dd5_4) ) ?_
  refine oS (fun _ => XT.iushr X0.here hx rfl (hb hby dd5_6) rfl) ?_
  refine oS (fun _ => XT.i2b X0.here hx rfl (hb hby dd5_7) rfl) ?_
  show own_G p e below (s₁.setTop (mkF m 8 #[rv ob_142, iv 1] [(.int 0)])) _
  exact own_retN X0 hx (t := .byte) Bd.notSynchronized Bd.returns (by simp) (hb hby dd5_8) (by decide) e0 (by decide) (by decide) (⟨rfl, N0, rfl⟩)
theorem own_pd2 : parseMethodDescriptor "([BI)B" = some ⟨[(.array .byte), .int], (some .byte)⟩ := by decide +kernel
theorem dd2_45 : decode jdk_42_method_149_code 45 = .ok (.invokestatic 47, 3) := by decide +kernel
theorem dd2_48 : decode jdk_42_method_149_code 48 = .ok (.putfield 15, 3) := by decide +kernel
theorem dd2_51 : decode jdk_42_method_149_code 51 = .ok (.aload_n 0, 1) := by decide +kernel
theorem dd2_52 : decode jdk_42_method_149_code 52 = .ok (.aload 5, 2) := by decide +kernel
theorem dd2_54 : decode jdk_42_method_149_code 54 = .ok (.putfield 9, 3) := by decide +kernel
theorem dd2_57 : decode jdk_42_method_149_code 57 = .ok (.return_, 1) := by decide +kernel
def own_Q4 (Z : State) (ob_55 : Nat) (ob_30 : Nat) (in_7 : Int32) (kk_28 : ClassId) (in_1 : Int32) (h0 : Heap) (n0 : Nat) (v : Option Value) (h : Heap) (L : List Loc) : Prop := (∃ ob_142 : Nat, ∃ kk_143 : ClassId, v = none ∧ Fr n0 L ∧ Keep h0 h [ob_55] ∧ h0.size ≤ ob_142 ∧ Fld Z h ob_55 cN1 "coder" "B" (.int 0) ∧ Exa Z h ob_55 cN1 ∧ Fld Z h ob_55 cN1 "value" "[B" (.ref ob_142) ∧ Fld Z h ob_55 cN1 "hash" "I" (.int 0) ∧ Fld Z h ob_55 cN1 "hashIsZero" "Z" (.int 0) ∧ Arv Z h ob_142 kk_143 .byte 1 [(.int ((in_1 &&& 255).toInt8.toInt32))] (.int 0) ∧ Exa Z h ob_142 "[B" ∧ @LT.lt Nat instLTNat ob_142 h.size)
theorem own_pn3 : plainFor mN3 = true := by decide +kernel
set_option maxRecDepth 65536 in
set_option maxHeartbeats 40000000 in
theorem own_rm4 (l : Launch) (Z : State) (a0 : Array Value) (hw : ∀ d ∈ tables_1, d.before a0 Z = true) (ws : List Jvm.Cond) (ob_55 : Nat) (ob_30 : Nat) (in_7 : Int32) (kk_28 : ClassId) (in_1 : Int32) (h0 : Heap) (n0 : Nat) (Z0 : n0 ≤ h0.size) (O0 : Old Z n0 h0) (I71 : Sta Z Z.heap cN1 "COMPACT_STRINGS" "Z" (.int in_7)) (I80 : ¬ (in_7 = 0)) (I96 : Arv Z h0 ob_30 kk_28 .char 1 [(.int (in_1 &&& 255))] (.int 0)) (I168 : Fld Z h0 ob_55 cN1 "coder" "B" (.int 0)) (I171 : Exa Z h0 ob_55 cN1) (I182 : n0 ≤ ob_55) (I186 : Fld Z h0 ob_55 cN1 "value" "[B" .null) (I202 : Fld Z h0 ob_55 cN1 "hash" "I" (.int 0)) (I207 : Fld Z h0 ob_55 cN1 "hashIsZero" "Z" (.int 0)) (I214 : @LT.lt Nat instLTNat ob_55 h0.size) :
    own_Met l Z h0 mN3 jdk_42_method_149_code 6 (Option.none : Option FieldType) ws ({ frames := 2, cells := 1, slots := 1, locals := 35 } : Room) #[(.ref ob_55), (.ref ob_30), (.int 0), (.int 1), .null] (own_Q4 Z ob_55 ob_30 in_7 kk_28 in_1 h0 n0) 1 1 := by
  refine MetFree.of_bodySF own_pn3 hisR ?_
  intro p e s m args below meth c s₁ Bd hml0 hP hK
  obtain ⟨rfl, hZ, hh⟩ := hP
  have hx := Bd.exec
  have hby := Bd.bytes
  have hml : c.maxLocals = 6 := hml0
  have hown : s.vm.findClass cN1 = some m.cls := findClass_of_methodNamed Bd.named
  have hnm := (name_of_methodNamed Bd.named Bd.method).1
  have X0 : Stand p l e ({ frames := 2, cells := 1, slots := 1, locals := 35 } : Room) s m #[(.ref ob_55), (.ref ob_30), (.int 0), (.int 1), .null] below meth c s₁ [] 0 0 := Stand.of_body Bd
  have e0 : s₁.heap = h0 := by rw [← hh, Bd.state]; rfl
  have N0 := Fr.nil n0
  show own_G p e below (s₁.setTop (entryFrame m #[(.ref ob_55), (.ref ob_30), (.int 0), (.int 1), .null] 6)) (own_P s (own_Q4 Z ob_55 ob_30 in_7 kk_28 in_1 h0 n0) 1 1)
  refine own_cast (own_ef3 m ob_55 ob_30 0 1) ?_
  show own_G p e below (s₁.setTop (mkF m 0 #[rv ob_55, rv ob_30, iv 0, iv 1, .val .null, .unset] [])) _
  refine oS (fun _ => XS.aloadN X0.here hx rfl (hb hby dd2_0) rfl rfl) ?_
  obtain ⟨T64, X65, e66, s67⟩ := initO X0 hx hZ hown (oW hw 16 rfl) (oW hw 17 rfl) (oW hw 18 rfl) e0 (g := (mkF m 1 #[rv ob_55, rv ob_30, iv 0, iv 1, .val .null, .unset] [(.ref ob_55)])) rfl (by rw [hml]; rfl) rfl (hb hby dd2_1) (by decide) (W := 0) (by show 2 * 0 + _ ≤ _; exact Nat.le_of_eq rfl) (by decide)
  refine oS s67 ?_
  show own_G p e below (T64.setTop (mkF m 4 #[rv ob_55, rv ob_30, iv 0, iv 1, .val .null, .unset] [])) _
  refine oS (fun _ => XS.iloadN X65.here hx rfl (hb hby dd2_4) rfl) ?_
  refine oS (fun _ => XS.ifYes X65.here hx rfl (pc0 := 5) (pc' := 27) rfl (hb hby dd2_5) rfl (XT.i0_ne_t (by decide)) (by decide) (by decide)) ?_
  show own_G p e below (T64.setTop (mkF m 27 #[rv ob_55, rv ob_30, iv 0, iv 1, .val .null, .unset] [])) _
  have F72 : Sta Z h0 cN1 "COMPACT_STRINGS" "Z" (.int in_7) := Sta.ext O0.2 I71
  obtain ⟨T73, X74, e75, s76⟩ := getS X65 hx hZ hown (host := "") (oW hw 19 rfl) Via.refl e66 F72 (g := (mkF m 27 #[rv ob_55, rv ob_30, iv 0, iv 1, .val .null, .unset] [])) rfl (hb hby dd2_27)
  refine oS s76 ?_
  show own_G p e below (T73.setTop (mkF m 30 #[rv ob_55, rv ob_30, iv 0, iv 1, .val .null, .unset] [(.int in_7)])) _
  refine oS (fun _ => XS.ifNo X74.here hx rfl (hb hby dd2_30) rfl (XT.i0_eq_f I80)) ?_
  show own_G p e below (T73.setTop (mkF m 33 #[rv ob_55, rv ob_30, iv 0, iv 1, .val .null, .unset] [])) _
  refine oS (fun _ => XS.aloadN X74.here hx rfl (hb hby dd2_33) rfl rfl) ?_
  refine oS (fun _ => XS.iloadN X74.here hx rfl (hb hby dd2_34) rfl) ?_
  refine oS (fun _ => XS.iloadN X74.here hx rfl (hb hby dd2_35) rfl) ?_
  obtain ⟨T134, h135, v136, L137, X138, e139, q140, s141⟩ := own_callS X74 hx hZ hown e75 (y := mN1) (oW hw 20 rfl) (oW hw 21 rfl) (oW hw 22 rfl) (oW hw 23 rfl) (by decide) (W := 0) (own_rm5 l Z a0 hw [] ob_30 kk_28 in_1 h0 n0 Z0 O0 I96) (by decide) (by decide) (by decide) (by decide) (g := (mkF m 36 #[rv ob_55, rv ob_30, iv 0, iv 1, .val .null, .unset] [(.int 1), (.int 0), (.ref ob_30)])) rfl (by rw [hml]; rfl) (argsL := [(.ref ob_30), (.int 0), (.int 1)]) (rest := []) rfl (lenOf own_pd1 rfl) rfl (by show 2 * 0 + _ ≤ _; exact Nat.le_of_eq rfl) (hb hby dd2_36)
  refine oS s141 ?_
  obtain ⟨ob_142, kk_143, rfl, N144, K145, F146, F147, F148, F149⟩ := q140
  have N150 := Fr.app N0 N144
  have z151 := K145.1
  show own_G p e below (T134.setTop (mkF m 39 #[rv ob_55, rv ob_30, iv 0, iv 1, .val .null, .unset] [(.ref ob_142)])) _
  refine oS (fun _ => XS.astore X138.here hx rfl (hb hby dd2_39) rfl rfl (l' := #[rv ob_55, rv ob_30, iv 0, iv 1, .val .null, rv ob_142]) rfl) ?_
  refine oS (fun _ => XS.aloadN X138.here hx rfl (hb hby dd2_41) rfl rfl) ?_
  refine oS (fun _ => XS.aload X138.here hx rfl (hb hby dd2_42) rfl rfl) ?_
  refine oS (fun _ => XS.iloadN X138.here hx rfl (hb hby dd2_44) rfl) ?_
  show own_G p e below (T134.setTop (mkF m 45 #[rv ob_55, rv ob_30, iv 0, iv 1, .val .null, rv ob_142] [(.int 1), (.ref ob_142), (.ref ob_55)])) _
  have O153 : Old Z n0 h135 := O0.keep K145 all0
  have Z154 : n0 ≤ h135.size := by omega
  obtain ⟨T155, h156, v157, L158, X159, e160, q161, s162⟩ := own_callS X138 hx hZ hown e139 (y := mN2) (oW hw 28 rfl) (oW hw 29 rfl) (oW hw 22 rfl) (oW hw 30 rfl) (by decide) (W := 1) (own_rm7 l Z a0 hw [] ob_142 kk_143 in_1 h135 n0 Z154 O153 F147) (by decide) (by decide) (by decide) (by decide) (g := (mkF m 45 #[rv ob_55, rv ob_30, iv 0, iv 1, .val .null, rv ob_142] [(.int 1), (.ref ob_142), (.ref ob_55)])) rfl (by rw [hml]; rfl) (argsL := [(.ref ob_142), (.int 1)]) (rest := [(.ref ob_55)]) rfl (lenOf own_pd2 rfl) rfl (by show 2 * 0 + _ ≤ _; exact Nat.le_of_eq rfl) (hb hby dd2_45)
  refine oS s162 ?_
  obtain ⟨rfl, N163, K164⟩ := q161
  have N165 := Fr.app N150 N163
  have e166 := e160.trans K164
  show own_G p e below (T155.setTop (mkF m 48 #[rv ob_55, rv ob_30, iv 0, iv 1, .val .null, rv ob_142] [(.int 0), (.ref ob_55)])) _
  have F169 : Fld Z h135 ob_55 cN1 "coder" "B" (.int 0) := I168.keep K145 nin0
  have F172 : Exa Z h135 ob_55 cN1 := I171.keep K145
  obtain ⟨T173, h174, X175, e176, W177, s178⟩ := putF X159 hx hZ hown (host := "") (Or.inl (oW hw 31 rfl)) Via.refl e166 F169 F172 (Or.inr ⟨(oW hw 32 rfl), rfl, hnm⟩) (oW hw 7 rfl) (ty := .byte) (by decide) (by decide) (by decide) (g := (mkF m 48 #[rv ob_55, rv ob_30, iv 0, iv 1, .val .null, rv ob_142] [(.int 0), (.ref ob_55)])) rfl rfl (hb hby dd2_48)
  have N179 := Fr.snoc X175 N165 I182
  have z183 := W177.size
  have F184 : Fld Z h174 ob_55 cN1 "coder" "B" (.int 0) := Fld.same W177 F169
  refine oS s178 ?_
  show own_G p e below (T173.setTop (mkF m 51 #[rv ob_55, rv ob_30, iv 0, iv 1, .val .null, rv ob_142] [])) _
  refine oS (fun _ => XS.aloadN X175.here hx rfl (hb hby dd2_51) rfl rfl) ?_
  refine oS (fun _ => XS.aload X175.here hx rfl (hb hby dd2_52) rfl rfl) ?_
  have F187 : Fld Z h135 ob_55 cN1 "value" "[B" .null := I186.keep K145 nin0
  have F188 : Fld Z h174 ob_55 cN1 "value" "[B" .null := Fld.other W177 F187 (Or.inr (slot_ne (C := cN1) (Or.inr (oW hw 34 rfl)) (Or.inr (oW hw 32 rfl)) (by decide) (t := (.array .byte)) (t' := .byte) (by decide) (by decide)))
  have F189 : Exa Z h174 ob_55 cN1 := Exa.wr W177 F172
  obtain ⟨T190, h191, X192, e193, W194, s195⟩ := putF X175 hx hZ hown (host := "") (Or.inl (oW hw 33 rfl)) Via.refl e176 F188 F189 (Or.inr ⟨(oW hw 34 rfl), rfl, hnm⟩) (oW hw 7 rfl) (ty := (.array .byte)) (by decide) rfl rfl (g := (mkF m 54 #[rv ob_55, rv ob_30, iv 0, iv 1, .val .null, rv ob_142] [(.ref ob_142), (.ref ob_55)])) rfl rfl (hb hby dd2_54)
  have N196 := Fr.snoc X192 N179 I182
  have z197 := W194.size
  have F198 : Fld Z h191 ob_55 cN1 "value" "[B" (.ref ob_142) := Fld.same W194 F188
  refine oS s195 ?_
  show own_G p e below (T190.setTop (mkF m 57 #[rv ob_55, rv ob_30, iv 0, iv 1, .val .null, rv ob_142] [])) _
  have F199 : Fld Z h191 ob_55 cN1 "coder" "B" (.int 0) := Fld.other W194 F184 (Or.inr (slot_ne (C := cN1) (Or.inr (oW hw 32 rfl)) (Or.inr (oW hw 34 rfl)) (by decide) (t := .byte) (t' := (.array .byte)) (by decide) (by decide)))
  have F200 : Exa Z h191 ob_55 cN1 := Exa.wr W194 F189
  have F203 : Fld Z h135 ob_55 cN1 "hash" "I" (.int 0) := I202.keep K145 nin0
  have F204 : Fld Z h174 ob_55 cN1 "hash" "I" (.int 0) := Fld.other W177 F203 (Or.inr (slot_ne (C := cN1) (Or.inl (oW hw 95 rfl)) (Or.inr (oW hw 32 rfl)) (by decide) (t := .int) (t' := .byte) (by decide) (by decide)))
  have F205 : Fld Z h191 ob_55 cN1 "hash" "I" (.int 0) := Fld.other W194 F204 (Or.inr (slot_ne (C := cN1) (Or.inl (oW hw 95 rfl)) (Or.inr (oW hw 34 rfl)) (by decide) (t := .int) (t' := (.array .byte)) (by decide) (by decide)))
  have F208 : Fld Z h135 ob_55 cN1 "hashIsZero" "Z" (.int 0) := I207.keep K145 nin0
  have F209 : Fld Z h174 ob_55 cN1 "hashIsZero" "Z" (.int 0) := Fld.other W177 F208 (Or.inr (slot_ne (C := cN1) (Or.inl (oW hw 97 rfl)) (Or.inr (oW hw 32 rfl)) (by decide) (t := .boolean) (t' := .byte) (by decide) (by decide)))
  have F210 : Fld Z h191 ob_55 cN1 "hashIsZero" "Z" (.int 0) := Fld.other W194 F209 (Or.inr (slot_ne (C := cN1) (Or.inl (oW hw 97 rfl)) (Or.inr (oW hw 34 rfl)) (by decide) (t := .boolean) (t' := (.array .byte)) (by decide) (by decide)))
  have N215 : @Ne Nat ob_142 ob_55 := by omega
  have F216 : Arv Z h174 ob_142 kk_143 .byte 1 [(.int ((in_1 &&& 255).toInt8.toInt32))] (.int 0) := F147.other W177 N215
  have F217 : Arv Z h191 ob_142 kk_143 .byte 1 [(.int ((in_1 &&& 255).toInt8.toInt32))] (.int 0) := F216.other W194 N215
  have F218 : Exa Z h174 ob_142 "[B" := Exa.wr W177 F148
  have F219 : Exa Z h191 ob_142 "[B" := Exa.wr W194 F218
  have y220 : @LT.lt Nat instLTNat ob_142 h191.size := by omega
  have K221 : Keep h0 h191 [ob_55] := ((((Keep.refl h0 [ob_55]).trans K145 all0).wr W177 (Or.inl (by simp))).wr W194 (Or.inl (by simp)))
  exact own_retV X192 hx Bd.notSynchronized Bd.returns (hb hby dd2_57) e193 (by decide) (by decide) (⟨ob_142, kk_143, rfl, N196, K221, (by omega), F199, F200, F198, F205, F210, F217, F219, y220⟩)
theorem own_pd3 : parseMethodDescriptor "([CIILjava/lang/Void;)V" = some ⟨[(.array .char), .int, .int, (.object "java/lang/Void")], none⟩ := by decide +kernel
theorem dd1_6 : decode jdk_42_method_3_code 6 = .ok (.invokespecial 27, 3) := by decide +kernel
theorem dd1_9 : decode jdk_42_method_3_code 9 = .ok (.return_, 1) := by decide +kernel
def own_Q3 (Z : State) (ob_55 : Nat) (ob_30 : Nat) (kk_28 : ClassId) (in_1 : Int32) (in_7 : Int32) (h0 : Heap) (n0 : Nat) (v : Option Value) (h : Heap) (L : List Loc) : Prop := (∃ ob_230 : Nat, ∃ kk_231 : ClassId, v = none ∧ Fr n0 L ∧ Keep h0 h [ob_55] ∧ h0.size ≤ ob_230 ∧ Fld Z h ob_55 cN1 "coder" "B" (.int 0) ∧ Exa Z h ob_55 cN1 ∧ Fld Z h ob_55 cN1 "value" "[B" (.ref ob_230) ∧ Fld Z h ob_55 cN1 "hash" "I" (.int 0) ∧ Fld Z h ob_55 cN1 "hashIsZero" "Z" (.int 0) ∧ Arv Z h ob_230 kk_231 .byte 1 [(.int ((in_1 &&& 255).toInt8.toInt32))] (.int 0) ∧ Exa Z h ob_230 "[B" ∧ @LT.lt Nat instLTNat ob_230 h.size)
theorem own_pn4 : plainFor mN4 = true := by decide +kernel
set_option maxRecDepth 65536 in
set_option maxHeartbeats 40000000 in
theorem own_rm3 (l : Launch) (Z : State) (a0 : Array Value) (hw : ∀ d ∈ tables_1, d.before a0 Z = true) (ws : List Jvm.Cond) (ob_55 : Nat) (ob_30 : Nat) (kk_28 : ClassId) (in_1 : Int32) (in_7 : Int32) (h0 : Heap) (n0 : Nat) (Z0 : n0 ≤ h0.size) (O0 : Old Z n0 h0) (I63 : Arv Z h0 ob_30 kk_28 .char 1 [(.int (in_1 &&& 255))] (.int 0)) (I70 : Sta Z Z.heap cN1 "COMPACT_STRINGS" "Z" (.int in_7)) (I79 : ¬ (in_7 = 0)) (I167 : Fld Z h0 ob_55 cN1 "coder" "B" (.int 0)) (I170 : Exa Z h0 ob_55 cN1) (I181 : n0 ≤ ob_55) (I185 : Fld Z h0 ob_55 cN1 "value" "[B" .null) (I201 : Fld Z h0 ob_55 cN1 "hash" "I" (.int 0)) (I206 : Fld Z h0 ob_55 cN1 "hashIsZero" "Z" (.int 0)) (I212 : @LT.lt Nat instLTNat ob_55 h0.size) :
    own_Met l Z h0 mN4 jdk_42_method_3_code 2 (Option.none : Option FieldType) ws ({ frames := 3, cells := 1, slots := 1, locals := 52 } : Room) #[(.ref ob_55), (.ref ob_30)] (own_Q3 Z ob_55 ob_30 kk_28 in_1 in_7 h0 n0) 1 1 := by
  refine MetFree.of_bodySF own_pn4 hisR ?_
  intro p e s m args below meth c s₁ Bd hml0 hP hK
  obtain ⟨rfl, hZ, hh⟩ := hP
  have hx := Bd.exec
  have hby := Bd.bytes
  have hml : c.maxLocals = 2 := hml0
  have hown : s.vm.findClass cN1 = some m.cls := findClass_of_methodNamed Bd.named
  have hnm := (name_of_methodNamed Bd.named Bd.method).1
  have X0 : Stand p l e ({ frames := 3, cells := 1, slots := 1, locals := 52 } : Room) s m #[(.ref ob_55), (.ref ob_30)] below meth c s₁ [] 0 0 := Stand.of_body Bd
  have e0 : s₁.heap = h0 := by rw [← hh, Bd.state]; rfl
  have N0 := Fr.nil n0
  show own_G p e below (s₁.setTop (entryFrame m #[(.ref ob_55), (.ref ob_30)] 2)) (own_P s (own_Q3 Z ob_55 ob_30 kk_28 in_1 in_7 h0 n0) 1 1)
  refine own_cast (own_ef2 m ob_55 ob_30) ?_
  show own_G p e below (s₁.setTop (mkF m 0 #[rv ob_55, rv ob_30] [])) _
  refine oS (fun _ => XS.aloadN X0.here hx rfl (hb hby dd1_0) rfl rfl) ?_
  refine oS (fun _ => XS.aloadN X0.here hx rfl (hb hby dd1_1) rfl rfl) ?_
  refine oS (fun _ => XS.iconst X0.here hx rfl (hb hby dd1_2) ) ?_
  refine oS (fun _ => XS.aloadN X0.here hx rfl (hb hby dd1_3) rfl rfl) ?_
  show own_G p e below (s₁.setTop (mkF m 4 #[rv ob_55, rv ob_30] [(.ref ob_30), (.int 0), (.ref ob_30), (.ref ob_55)])) _
  refine oS (own_len X0 hx hZ e0 I63 rfl rfl (hb hby dd1_4)) ?_
  show own_G p e below (s₁.setTop (mkF m 5 #[rv ob_55, rv ob_30] [(.int 1), (.int 0), (.ref ob_30), (.ref ob_55)])) _
  refine oS (fun _ => XS.aconstNull X0.here hx rfl (hb hby dd1_5) ) ?_
  have y213 : @LT.lt Nat instLTNat ob_55 h0.size := by omega
  obtain ⟨T222, h223, v224, L225, X226, e227, q228, s229⟩ := own_callN X0 hx hZ hown e0 (y := mN3) (b := ob_55) rfl (oW hw 12 rfl) (oW hw 13 rfl) (oW hw 8 rfl) (oW hw 15 rfl) (by decide) (W := 0) (own_rm4 l Z a0 hw [] ob_55 ob_30 in_7 kk_28 in_1 h0 n0 Z0 O0 I70 I79 I63 I167 I170 I181 I185 I201 I206 y213) (by decide) (by decide) (by decide) (by decide) (g := (mkF m 6 #[rv ob_55, rv ob_30] [.null, (.int 1), (.int 0), (.ref ob_30), (.ref ob_55)])) rfl (by rw [hml]; rfl) (argsL := [(.ref ob_30), (.int 0), (.int 1), .null]) (rest := []) rfl (lenOf own_pd3 rfl) rfl (by show 2 * 0 + _ ≤ _; exact Nat.le_of_eq rfl) (hb hby dd1_6)
  refine oS s229 ?_
  obtain ⟨ob_230, kk_231, rfl, N232, K233, F234, F235, F236, F237, F238, F239, F240, F241, F242⟩ := q228
  have N243 := Fr.app N0 N232
  have z244 := K233.1
  show own_G p e below (T222.setTop (mkF m 9 #[rv ob_55, rv ob_30] [])) _
  have y245 : @LT.lt Nat instLTNat ob_230 h223.size := by omega
  have K246 : Keep h0 h223 [ob_55] := ((Keep.refl h0 [ob_55]).trans K233 (allS (Or.inl (by simp)) all0))
  exact own_retV X226 hx Bd.notSynchronized Bd.returns (hb hby dd1_9) e227 (by decide) (by decide) (⟨ob_230, kk_231, rfl, N243, K246, (by omega), F235, F236, F237, F238, F239, F240, F241, y245⟩)
theorem own_pd4 : parseMethodDescriptor "([C)V" = some ⟨[(.array .char)], none⟩ := by decide +kernel
theorem dd0_45 : decode method_2_code 45 = .ok (.invokespecial 9, 3) := by decide +kernel
theorem dd0_48 : decode method_2_code 48 = .ok (.areturn, 1) := by decide +kernel
def own_Q2 (Z : State) (in_1 : Int32) (in_2 : Int32) (in_3 : Int32) (in_7 : Int32) (h0 : Heap) (n0 : Nat) (v : Option Value) (h : Heap) (L : List Loc) : Prop := (∃ ob_55 : Nat, ∃ ob_259 : Nat, ∃ kk_260 : ClassId, v = some (.ref ob_55) ∧ Fr n0 L ∧ Keep h0 h [] ∧ h0.size ≤ ob_55 ∧ ob_55 < ob_259 ∧ Exa Z h ob_55 cN1 ∧ Fld Z h ob_55 cN1 "coder" "B" (.int 0) ∧ Fld Z h ob_55 cN1 "value" "[B" (.ref ob_259) ∧ Fld Z h ob_55 cN1 "hash" "I" (.int 0) ∧ Fld Z h ob_55 cN1 "hashIsZero" "Z" (.int 0) ∧ Arv Z h ob_259 kk_260 .byte 1 [(.int ((in_1 &&& 255).toInt8.toInt32))] (.int 0) ∧ Exa Z h ob_259 "[B" ∧ @LT.lt Nat instLTNat ob_55 h.size ∧ @LT.lt Nat instLTNat ob_259 h.size)
theorem own_pn5 : plainFor mN5 = true := by decide +kernel
set_option maxRecDepth 65536 in
set_option maxHeartbeats 40000000 in
theorem own_rm2 (l : Launch) (Z : State) (a0 : Array Value) (hw : ∀ d ∈ tables_1, d.before a0 Z = true) (ws : List Jvm.Cond) (in_1 : Int32) (in_2 : Int32) (in_3 : Int32) (in_7 : Int32) (h0 : Heap) (n0 : Nat) (Z0 : n0 ≤ h0.size) (O0 : Old Z n0 h0) (I69 : Sta Z Z.heap cN1 "COMPACT_STRINGS" "Z" (.int in_7)) (I78 : ¬ (in_7 = 0)) :
    own_Met l Z h0 mN5 method_2_code 8 (Option.some (FieldType.object cN1)) ws ({ frames := 4, cells := 3, slots := 6, locals := 66 } : Room) #[(.int 1), (.int in_1), (.int in_2), (.int in_3)] (own_Q2 Z in_1 in_2 in_3 in_7 h0 n0) 3 6 := by
  refine MetFree.of_bodySF own_pn5 hisR ?_
  intro p e s m args below meth c s₁ Bd hml0 hP hK
  obtain ⟨rfl, hZ, hh⟩ := hP
  have hx := Bd.exec
  have hby := Bd.bytes
  have hml : c.maxLocals = 8 := hml0
  have hown : s.vm.findClass cN2 = some m.cls := findClass_of_methodNamed Bd.named
  have hnm := (name_of_methodNamed Bd.named Bd.method).1
  have X0 : Stand p l e ({ frames := 4, cells := 3, slots := 6, locals := 66 } : Room) s m #[(.int 1), (.int in_1), (.int in_2), (.int in_3)] below meth c s₁ [] 0 0 := Stand.of_body Bd
  have e0 : s₁.heap = h0 := by rw [← hh, Bd.state]; rfl
  have N0 := Fr.nil n0
  show own_G p e below (s₁.setTop (entryFrame m #[(.int 1), (.int in_1), (.int in_2), (.int in_3)] 8)) (own_P s (own_Q2 Z in_1 in_2 in_3 in_7 h0 n0) 3 6)
  refine own_cast (own_ef1 m 1 in_1 in_2 in_3) ?_
  show own_G p e below (s₁.setTop (mkF m 0 #[iv 1, iv in_1, iv in_2, iv in_3, .unset, .unset, .unset, .unset] [])) _
  refine oS (fun _ => XS.iloadN X0.here hx rfl (hb hby dd0_0) rfl) ?_
  refine oS (fun _ => XS.sipush X0.here hx rfl (hb hby dd0_1) ) ?_
  refine oS (fun _ => XS.iand X0.here hx rfl (hb hby dd0_4) rfl) ?_
  refine oS (fun _ => XT.i2c X0.here hx rfl (hb hby dd0_5) rfl) ?_
  show own_G p e below (s₁.setTop (mkF m 6 #[iv 1, iv in_1, iv in_2, iv in_3, .unset, .unset, .unset, .unset] [(.int ((in_1 &&& 255).toUInt32.toUInt16.toUInt32.toInt32))])) _
  refine own_cast (g' := (mkF m 6 #[iv 1, iv in_1, iv in_2, iv in_3, .unset, .unset, .unset, .unset] [(.int (in_1 &&& 255))])) (by rw [own_mk3]) ?_
  refine oS (fun _ => XS.istore X0.here hx rfl (hb hby dd0_6) rfl (l' := #[iv 1, iv in_1, iv in_2, iv in_3, iv (in_1 &&& 255), .unset, .unset, .unset]) rfl) ?_
  refine oS (fun _ => XS.iloadN X0.here hx rfl (hb hby dd0_8) rfl) ?_
  refine oS (fun _ => XS.sipush X0.here hx rfl (hb hby dd0_9) ) ?_
  refine oS (fun _ => XS.iand X0.here hx rfl (hb hby dd0_12) rfl) ?_
  show own_G p e below (s₁.setTop (mkF m 13 #[iv 1, iv in_1, iv in_2, iv in_3, iv (in_1 &&& 255), .unset, .unset, .unset] [(.int (in_2 &&& 255))])) _
  refine oS (fun _ => XT.i2c X0.here hx rfl (hb hby dd0_13) rfl) ?_
  show own_G p e below (s₁.setTop (mkF m 14 #[iv 1, iv in_1, iv in_2, iv in_3, iv (in_1 &&& 255), .unset, .unset, .unset] [(.int ((in_2 &&& 255).toUInt32.toUInt16.toUInt32.toInt32))])) _
  refine own_cast (g' := (mkF m 14 #[iv 1, iv in_1, iv in_2, iv in_3, iv (in_1 &&& 255), .unset, .unset, .unset] [(.int (in_2 &&& 255))])) (by rw [own_mk3]) ?_
  refine oS (fun _ => XS.istore X0.here hx rfl (hb hby dd0_14) rfl (l' := #[iv 1, iv in_1, iv in_2, iv in_3, iv (in_1 &&& 255), iv (in_2 &&& 255), .unset, .unset]) rfl) ?_
  refine oS (fun _ => XS.iloadN X0.here hx rfl (hb hby dd0_16) rfl) ?_
  refine oS (fun _ => XS.sipush X0.here hx rfl (hb hby dd0_17) ) ?_
  refine oS (fun _ => XS.iand X0.here hx rfl (hb hby dd0_20) rfl) ?_
  show own_G p e below (s₁.setTop (mkF m 21 #[iv 1, iv in_1, iv in_2, iv in_3, iv (in_1 &&& 255), iv (in_2 &&& 255), .unset, .unset] [(.int (in_3 &&& 255))])) _
  refine oS (fun _ => XT.i2c X0.here hx rfl (hb hby dd0_21) rfl) ?_
  show own_G p e below (s₁.setTop (mkF m 22 #[iv 1, iv in_1, iv in_2, iv in_3, iv (in_1 &&& 255), iv (in_2 &&& 255), .unset, .unset] [(.int ((in_3 &&& 255).toUInt32.toUInt16.toUInt32.toInt32))])) _
  refine own_cast (g' := (mkF m 22 #[iv 1, iv in_1, iv in_2, iv in_3, iv (in_1 &&& 255), iv (in_2 &&& 255), .unset, .unset] [(.int (in_3 &&& 255))])) (by rw [own_mk3]) ?_
  refine oS (fun _ => XS.istore X0.here hx rfl (hb hby dd0_22) rfl (l' := #[iv 1, iv in_1, iv in_2, iv in_3, iv (in_1 &&& 255), iv (in_2 &&& 255), iv (in_3 &&& 255), .unset]) rfl) ?_
  refine oS (fun _ => XS.iloadN X0.here hx rfl (hb hby dd0_24) rfl) ?_
  refine oS (fun _ => XS.iconst X0.here hx rfl (hb hby dd0_25) ) ?_
  refine oS (fun _ => XS.icmpNo X0.here hx rfl (hb hby dd0_26) rfl (XT.ii_ne_f (by decide))) ?_
  show own_G p e below (s₁.setTop (mkF m 29 #[iv 1, iv in_1, iv in_2, iv in_3, iv (in_1 &&& 255), iv (in_2 &&& 255), iv (in_3 &&& 255), .unset] [])) _
  refine oS (fun _ => XS.iconst X0.here hx rfl (hb hby dd0_29) ) ?_
  obtain ⟨T19, h20, kk_28, X22, e23, E24, A25, B29, s26⟩ := own_newP X0 hx hZ (aty := .char) (oW hw 5 rfl) e0 (nm := "[C") rfl (g := (mkF m 30 #[iv 1, iv in_1, iv in_2, iv in_3, iv (in_1 &&& 255), iv (in_2 &&& 255), iv (in_3 &&& 255), .unset] [(.int 1)])) rfl (hb hby dd0_30) (n := 1) (rest := []) rfl (by decide) (cap := 1) (by decide) (by decide) (by decide) (by decide)
  obtain ⟨ob_30, g31⟩ : ∃ z, z = h0.size := ⟨_, rfl⟩
  rw [← g31] at A25 B29 s26
  have F32 : Arv Z h20 ob_30 kk_28 .char 1 [(.int 0)] (.int 0) := own_newA A25 (by decide) rfl rfl
  have z33 := E24.1
  have y27 : @LT.lt Nat instLTNat ob_30 h20.size := F32.lt
  refine oS s26 ?_
  show own_G p e below (T19.setTop (mkF m 32 #[iv 1, iv in_1, iv in_2, iv in_3, iv (in_1 &&& 255), iv (in_2 &&& 255), iv (in_3 &&& 255), .unset] [(.ref ob_30)])) _
  refine oS (fun _ => XS.dup X22.here hx rfl (hb hby dd0_32) rfl rfl) ?_
  refine oS (fun _ => XS.iconst X22.here hx rfl (hb hby dd0_33) ) ?_
  refine oS (fun _ => XS.iload X22.here hx rfl (hb hby dd0_34) rfl) ?_
  obtain ⟨T34, h35, X36, e37, W38, A39, s40⟩ := own_stC X22 hx hZ e23 F32 (x' := (in_1 &&& 255)) 0 (own_mk2 in_1) rfl (by decide) (by simp) (g := (mkF m 36 #[iv 1, iv in_1, iv in_2, iv in_3, iv (in_1 &&& 255), iv (in_2 &&& 255), iv (in_3 &&& 255), .unset] [(.int (in_1 &&& 255)), (.int 0), (.ref ob_30), (.ref ob_30)])) rfl (rest := [(.ref ob_30)]) rfl (hb hby dd0_36)
  have N42 : n0 ≤ ob_30 := by omega
  have N41 := Fr.snoc X36 N0 N42
  have z43 := W38.size
  have F44 : Arv Z h35 ob_30 kk_28 .char 1 [(.int (in_1 &&& 255))] (.int 0) := A39
  refine oS s40 ?_
  show own_G p e below (T34.setTop (mkF m 37 #[iv 1, iv in_1, iv in_2, iv in_3, iv (in_1 &&& 255), iv (in_2 &&& 255), iv (in_3 &&& 255), .unset] [(.ref ob_30)])) _
  refine oS (fun _ => XS.astore X36.here hx rfl (hb hby dd0_37) rfl rfl (l' := #[iv 1, iv in_1, iv in_2, iv in_3, iv (in_1 &&& 255), iv (in_2 &&& 255), iv (in_3 &&& 255), rv ob_30]) rfl) ?_
  obtain ⟨T45, h46, X47, e48, E49, A50, D51, U54, s52⟩ := newO X36 hx hZ hown (oW hw 6 rfl) (oW hw 7 rfl) (oW hw 8 rfl) e37 (g := (mkF m 39 #[iv 1, iv in_1, iv in_2, iv in_3, iv (in_1 &&& 255), iv (in_2 &&& 255), iv (in_3 &&& 255), rv ob_30] [])) rfl (hb hby dd0_39) (by decide) (by decide)
  obtain ⟨ob_55, g56⟩ : ∃ z, z = h35.size := ⟨_, rfl⟩
  rw [← g56] at A50 D51 U54 s52
  have z57 := E49.1
  have y53 : @LT.lt Nat instLTNat ob_55 h46.size := A50.lt
  refine oS s52 ?_
  have F58 : Fld Z h46 ob_55 cN1 "coder" "B" (.int 0) := D51 (Or.inr (oW hw 32 rfl)) (ty := .byte) (by decide)
  have F59 : Fld Z h46 ob_55 cN1 "value" "[B" .null := D51 (Or.inr (oW hw 34 rfl)) (ty := (.array .byte)) (by decide)
  have F60 : Fld Z h46 ob_55 cN1 "hash" "I" (.int 0) := D51 (Or.inl (oW hw 95 rfl)) (ty := .int) (by decide)
  have F61 : Fld Z h46 ob_55 cN1 "hashIsZero" "Z" (.int 0) := D51 (Or.inl (oW hw 97 rfl)) (ty := .boolean) (by decide)
  show own_G p e below (T45.setTop (mkF m 42 #[iv 1, iv in_1, iv in_2, iv in_3, iv (in_1 &&& 255), iv (in_2 &&& 255), iv (in_3 &&& 255), rv ob_30] [(.ref ob_55)])) _
  refine oS (fun _ => XS.dup X47.here hx rfl (hb hby dd0_42) rfl rfl) ?_
  refine oS (fun _ => XS.aload X47.here hx rfl (hb hby dd0_43) rfl rfl) ?_
  have F62 : Arv Z h46 ob_30 kk_28 .char 1 [(.int (in_1 &&& 255))] (.int 0) := F44.ext E49
  have N180 : n0 ≤ ob_55 := by omega
  have y211 : @LT.lt Nat instLTNat ob_55 h46.size := by omega
  have O247 : Old Z n0 h20 := O0.ext E24
  have O248 : Old Z n0 h35 := O247.wr W38 N42
  have O249 : Old Z n0 h46 := O248.ext E49
  have Z250 : n0 ≤ h46.size := by omega
  obtain ⟨T251, h252, v253, L254, X255, e256, q257, s258⟩ := own_callN X47 hx hZ hown e48 (y := mN4) (b := ob_55) rfl (oW hw 9 rfl) (oW hw 10 rfl) (oW hw 8 rfl) (oW hw 11 rfl) (by decide) (W := 1) (own_rm3 l Z a0 hw [] ob_55 ob_30 kk_28 in_1 in_7 h46 n0 Z250 O249 F62 I69 I78 F58 A50 N180 F59 F60 F61 y211) (by decide) (by decide) (by decide) (by decide) (g := (mkF m 45 #[iv 1, iv in_1, iv in_2, iv in_3, iv (in_1 &&& 255), iv (in_2 &&& 255), iv (in_3 &&& 255), rv ob_30] [(.ref ob_30), (.ref ob_55), (.ref ob_55)])) rfl (by rw [hml]; rfl) (argsL := [(.ref ob_30)]) (rest := [(.ref ob_55)]) rfl (lenOf own_pd4 rfl) rfl (by show 2 * 0 + _ ≤ _; exact Nat.le_of_eq rfl) (hb hby dd0_45)
  refine oS s258 ?_
  obtain ⟨ob_259, kk_260, rfl, N261, K262, F263, F264, F265, F266, F267, F268, F269, F270, F271⟩ := q257
  have N272 := Fr.app N41 N261
  have z273 := K262.1
  show own_G p e below (T251.setTop (mkF m 48 #[iv 1, iv in_1, iv in_2, iv in_3, iv (in_1 &&& 255), iv (in_2 &&& 255), iv (in_3 &&& 255), rv ob_30] [(.ref ob_55)])) _
  have y274 : @LT.lt Nat instLTNat ob_55 h252.size := by omega
  have y275 : @LT.lt Nat instLTNat ob_259 h252.size := by omega
  have K276 : Keep h0 h252 [] := (((((Keep.refl h0 []).ext E24).wr W38 (Or.inr (by omega))).ext E49).trans K262 (allS (Or.inr (by omega)) all0))
  exact own_retA X255 hx Bd.notSynchronized Bd.returns rfl rfl (hb hby dd0_48) e256 (by decide) (by decide) (⟨ob_55, ob_259, kk_260, rfl, N272, K276, (by omega), (by omega), F265, F264, F266, F267, F268, F269, F270, y274, y275⟩)
theorem own_pd5 : parseMethodDescriptor "(IIII)Ljava/lang/String;" = some ⟨[.int, .int, .int, .int], (some (.object cN1))⟩ := by decide +kernel
theorem own_ef7 (m : MethodId) (x0 : Addr) : entryFrame m #[(.ref x0)] 1 = mkF m 0 #[.val (.ref x0)] [] := by first | (simp [entryFrame, mkF, argsToLocals, Value.category]; done) | rfl
theorem dd6_0 : decode prog_11_method_2_code 0 = .ok (.aload_n 0, 1) := by decide +kernel
theorem dd6_1 : decode prog_11_method_2_code 1 = .ok (.ldc 13, 2) := by decide +kernel
theorem dd7_0 : decode jdk_31_method_11_code 0 = .ok (.aload_n 0, 1) := by decide +kernel
theorem dd7_1 : decode jdk_31_method_11_code 1 = .ok (.ifnonnull 12, 3) := by decide +kernel
theorem dd7_13 : decode jdk_31_method_11_code 13 = .ok (.aload_n 0, 1) := by decide +kernel
theorem dd7_14 : decode jdk_31_method_11_code 14 = .ok (.areturn, 1) := by decide +kernel
def own_Q10 (Z : State) (ob_285 : Nat) (ob_342 : Nat) (h0 : Heap) (n0 : Nat) (v : Option Value) (h : Heap) (L : List Loc) : Prop := (v = some (.ref ob_285) ∧ Fr n0 L ∧ h = h0)
theorem own_pn6 : plainFor mN6 = true := by decide +kernel
set_option maxRecDepth 65536 in
set_option maxHeartbeats 40000000 in
theorem own_rm10 (l : Launch) (Z : State) (a0 : Array Value) (hw : ∀ d ∈ tables_1, d.before a0 Z = true) (ws : List Jvm.Cond) (ob_285 : Nat) (ob_342 : Nat) (h0 : Heap) (n0 : Nat) (Z0 : n0 ≤ h0.size) (O0 : Old Z n0 h0)  :
    own_Met l Z h0 mN6 jdk_31_method_11_code 2 (Option.some (FieldType.object cN3)) ws ({ frames := 0, cells := 0, slots := 0, locals := 0 } : Room) #[(.ref ob_285), (.ref ob_342)] (own_Q10 Z ob_285 ob_342 h0 n0) 0 0 := by
  refine MetFree.of_bodySF own_pn6 hisR ?_
  intro p e s m args below meth c s₁ Bd hml0 hP hK
  obtain ⟨rfl, hZ, hh⟩ := hP
  have hx := Bd.exec
  have hby := Bd.bytes
  have hml : c.maxLocals = 2 := hml0
  have hown : s.vm.findClass "java/util/Objects" = some m.cls := findClass_of_methodNamed Bd.named
  have hnm := (name_of_methodNamed Bd.named Bd.method).1
  have X0 : Stand p l e ({ frames := 0, cells := 0, slots := 0, locals := 0 } : Room) s m #[(.ref ob_285), (.ref ob_342)] below meth c s₁ [] 0 0 := Stand.of_body Bd
  have e0 : s₁.heap = h0 := by rw [← hh, Bd.state]; rfl
  have N0 := Fr.nil n0
  show own_G p e below (s₁.setTop (entryFrame m #[(.ref ob_285), (.ref ob_342)] 2)) (own_P s (own_Q10 Z ob_285 ob_342 h0 n0) 0 0)
  refine own_cast (own_ef2 m ob_285 ob_342) ?_
  show own_G p e below (s₁.setTop (mkF m 0 #[rv ob_285, rv ob_342] [])) _
  refine oS (fun _ => XS.aloadN X0.here hx rfl (hb hby dd7_0) rfl rfl) ?_
  refine oS (fun _ => XT.ifnonnullYes X0.here hx rfl (pc0 := 1) (pc' := 13) rfl (hb hby dd7_1) rfl (by decide) (by decide)) ?_
  show own_G p e below (s₁.setTop (mkF m 13 #[rv ob_285, rv ob_342] [])) _
  refine oS (fun _ => XS.aloadN X0.here hx rfl (hb hby dd7_13) rfl rfl) ?_
  exact own_retA X0 hx Bd.notSynchronized Bd.returns rfl rfl (hb hby dd7_14) e0 (by decide) (by decide) (⟨rfl, N0, rfl⟩)
theorem own_pd6 : parseMethodDescriptor "(Ljava/lang/Object;Ljava/lang/String;)Ljava/lang/Object;" = some ⟨[(.object cN3), (.object cN1)], (some (.object cN3))⟩ := by decide +kernel
theorem dd6_3 : decode prog_11_method_2_code 3 = .ok (.invokestatic 14, 3) := by decide +kernel
theorem dd6_6 : decode prog_11_method_2_code 6 = .ok (.checkcast 20, 3) := by decide +kernel
theorem dd8_0 : decode jdk_42_method_55_code 0 = .ok (.aload_n 0, 1) := by decide +kernel
theorem dd8_1 : decode jdk_42_method_55_code 1 = .ok (.getfield 9, 3) := by decide +kernel
theorem dd8_4 : decode jdk_42_method_55_code 4 = .ok (.arraylength, 1) := by decide +kernel
theorem dd8_5 : decode jdk_42_method_55_code 5 = .ok (.ifCond .ne 7, 3) := by decide +kernel
theorem dd8_12 : decode jdk_42_method_55_code 12 = .ok (.iconst 0, 1) := by decide +kernel
theorem dd8_13 : decode jdk_42_method_55_code 13 = .ok (.ireturn, 1) := by decide +kernel
def own_Q11 (Z : State) (ob_285 : Nat) (ob_286 : Nat) (kk_287 : ClassId) (in_1 : Int32) (h0 : Heap) (n0 : Nat) (v : Option Value) (h : Heap) (L : List Loc) : Prop := (v = some (.int 0) ∧ Fr n0 L ∧ h = h0)
theorem own_pn7 : plainFor mN7 = true := by decide +kernel
set_option maxRecDepth 65536 in
set_option maxHeartbeats 40000000 in
theorem own_rm11 (l : Launch) (Z : State) (a0 : Array Value) (hw : ∀ d ∈ tables_1, d.before a0 Z = true) (ws : List Jvm.Cond) (ob_285 : Nat) (ob_286 : Nat) (kk_287 : ClassId) (in_1 : Int32) (h0 : Heap) (n0 : Nat) (Z0 : n0 ≤ h0.size) (O0 : Old Z n0 h0) (I369 : Fld Z h0 ob_285 cN1 "value" "[B" (.ref ob_286)) (I377 : Arv Z h0 ob_286 kk_287 .byte 1 [(.int ((in_1 &&& 255).toInt8.toInt32))] (.int 0)) :
    own_Met l Z h0 mN7 jdk_42_method_55_code 1 (Option.some FieldType.boolean) ws ({ frames := 0, cells := 0, slots := 0, locals := 0 } : Room) #[(.ref ob_285)] (own_Q11 Z ob_285 ob_286 kk_287 in_1 h0 n0) 0 0 := by
  refine MetFree.of_bodySF own_pn7 hisR ?_
  intro p e s m args below meth c s₁ Bd hml0 hP hK
  obtain ⟨rfl, hZ, hh⟩ := hP
  have hx := Bd.exec
  have hby := Bd.bytes
  have hml : c.maxLocals = 1 := hml0
  have hown : s.vm.findClass cN1 = some m.cls := findClass_of_methodNamed Bd.named
  have hnm := (name_of_methodNamed Bd.named Bd.method).1
  have X0 : Stand p l e ({ frames := 0, cells := 0, slots := 0, locals := 0 } : Room) s m #[(.ref ob_285)] below meth c s₁ [] 0 0 := Stand.of_body Bd
  have e0 : s₁.heap = h0 := by rw [← hh, Bd.state]; rfl
  have N0 := Fr.nil n0
  show own_G p e below (s₁.setTop (entryFrame m #[(.ref ob_285)] 1)) (own_P s (own_Q11 Z ob_285 ob_286 kk_287 in_1 h0 n0) 0 0)
  refine own_cast (own_ef7 m ob_285) ?_
  show own_G p e below (s₁.setTop (mkF m 0 #[rv ob_285] [])) _
  refine oS (fun _ => XS.aloadN X0.here hx rfl (hb hby dd8_0) rfl rfl) ?_
  obtain ⟨T370, X371, e372, s373⟩ := getF X0 hx hZ hown (host := "") (Or.inl (oW hw 33 rfl)) Via.refl e0 I369 (g := (mkF m 1 #[rv ob_285] [(.ref ob_285)])) rfl rfl (hb hby dd8_1)
  refine oS s373 ?_
  show own_G p e below (T370.setTop (mkF m 4 #[rv ob_285] [(.ref ob_286)])) _
  refine oS (own_len X371 hx hZ e372 I377 rfl rfl (hb hby dd8_4)) ?_
  show own_G p e below (T370.setTop (mkF m 5 #[rv ob_285] [(.int 1)])) _
  refine oS (fun _ => XS.ifYes X371.here hx rfl (pc0 := 5) (pc' := 12) rfl (hb hby dd8_5) rfl (XT.i0_ne_t (by decide)) (by decide) (by decide)) ?_
  show own_G p e below (T370.setTop (mkF m 12 #[rv ob_285] [])) _
  refine oS (fun _ => XS.iconst X371.here hx rfl (hb hby dd8_12) ) ?_
  exact own_retN X371 hx (t := .boolean) Bd.notSynchronized Bd.returns (by simp) (hb hby dd8_13) (by decide) e372 (by decide) (by decide) (⟨rfl, N0, rfl⟩)
theorem own_pd7 : parseMethodDescriptor "()Z" = some ⟨[], (some .boolean)⟩ := by decide +kernel
theorem dd6_9 : decode prog_11_method_2_code 9 = .ok (.invokevirtual 22, 3) := by decide +kernel
theorem dd6_12 : decode prog_11_method_2_code 12 = .ok (.ifCond .eq 13, 3) := by decide +kernel
theorem dd6_25 : decode prog_11_method_2_code 25 = .ok (.new 8, 3) := by decide +kernel
theorem dd6_28 : decode prog_11_method_2_code 28 = .ok (.dup, 1) := by decide +kernel
theorem dd6_29 : decode prog_11_method_2_code 29 = .ok (.aload_n 0, 1) := by decide +kernel
theorem dd9_0 : decode prog_11_method_1_code 0 = .ok (.aload_n 0, 1) := by decide +kernel
theorem dd9_1 : decode prog_11_method_1_code 1 = .ok (.invokespecial 1, 3) := by decide +kernel
theorem dd9_4 : decode prog_11_method_1_code 4 = .ok (.aload_n 0, 1) := by decide +kernel
theorem dd9_5 : decode prog_11_method_1_code 5 = .ok (.aload_n 1, 1) := by decide +kernel
theorem dd9_6 : decode prog_11_method_1_code 6 = .ok (.putfield 7, 3) := by decide +kernel
theorem dd9_9 : decode prog_11_method_1_code 9 = .ok (.return_, 1) := by decide +kernel
def own_Q12 (Z : State) (ob_401 : Nat) (ob_285 : Nat) (h0 : Heap) (n0 : Nat) (v : Option Value) (h : Heap) (L : List Loc) : Prop := (v = none ∧ Fr n0 L ∧ Keep h0 h [ob_401] ∧ Fld Z h ob_401 cN4 "name" cN5 (.ref ob_285) ∧ Exa Z h ob_401 cN4)
theorem own_pn8 : plainFor mN8 = true := by decide +kernel
set_option maxRecDepth 65536 in
set_option maxHeartbeats 40000000 in
theorem own_rm12 (l : Launch) (Z : State) (a0 : Array Value) (hw : ∀ d ∈ tables_1, d.before a0 Z = true) (ws : List Jvm.Cond) (ob_401 : Nat) (ob_285 : Nat) (h0 : Heap) (n0 : Nat) (Z0 : n0 ≤ h0.size) (O0 : Old Z n0 h0) (I410 : Fld Z h0 ob_401 cN4 "name" cN5 .null) (I411 : Exa Z h0 ob_401 cN4) (I420 : n0 ≤ ob_401) :
    own_Met l Z h0 mN8 prog_11_method_1_code 2 (Option.none : Option FieldType) ws ({ frames := 1, cells := 0, slots := 0, locals := 12 } : Room) #[(.ref ob_401), (.ref ob_285)] (own_Q12 Z ob_401 ob_285 h0 n0) 0 0 := by
  refine MetFree.of_bodySF own_pn8 hisR ?_
  intro p e s m args below meth c s₁ Bd hml0 hP hK
  obtain ⟨rfl, hZ, hh⟩ := hP
  have hx := Bd.exec
  have hby := Bd.bytes
  have hml : c.maxLocals = 2 := hml0
  have hown : s.vm.findClass cN4 = some m.cls := findClass_of_methodNamed Bd.named
  have hnm := (name_of_methodNamed Bd.named Bd.method).1
  have X0 : Stand p l e ({ frames := 1, cells := 0, slots := 0, locals := 12 } : Room) s m #[(.ref ob_401), (.ref ob_285)] below meth c s₁ [] 0 0 := Stand.of_body Bd
  have e0 : s₁.heap = h0 := by rw [← hh, Bd.state]; rfl
  have N0 := Fr.nil n0
  show own_G p e below (s₁.setTop (entryFrame m #[(.ref ob_401), (.ref ob_285)] 2)) (own_P s (own_Q12 Z ob_401 ob_285 h0 n0) 0 0)
  refine own_cast (own_ef2 m ob_401 ob_285) ?_
  show own_G p e below (s₁.setTop (mkF m 0 #[rv ob_401, rv ob_285] [])) _
  refine oS (fun _ => XS.aloadN X0.here hx rfl (hb hby dd9_0) rfl rfl) ?_
  obtain ⟨T406, X407, e408, s409⟩ := initO X0 hx hZ hown (oW hw 57 rfl) (oW hw 17 rfl) (oW hw 18 rfl) e0 (g := (mkF m 1 #[rv ob_401, rv ob_285] [(.ref ob_401)])) rfl (by rw [hml]; rfl) rfl (hb hby dd9_1) (by decide) (W := 0) (by show 2 * 0 + _ ≤ _; exact Nat.le_of_eq rfl) (by decide)
  refine oS s409 ?_
  show own_G p e below (T406.setTop (mkF m 4 #[rv ob_401, rv ob_285] [])) _
  refine oS (fun _ => XS.aloadN X407.here hx rfl (hb hby dd9_4) rfl rfl) ?_
  refine oS (fun _ => XS.aloadN X407.here hx rfl (hb hby dd9_5) rfl rfl) ?_
  obtain ⟨T412, h413, X414, e415, W416, s417⟩ := putF X407 hx hZ hown (host := "") (Or.inl (oW hw 58 rfl)) Via.refl e408 I410 I411 (Or.inr ⟨(oW hw 59 rfl), rfl, hnm⟩) (oW hw 53 rfl) (ty := (.object cN1)) (by decide) rfl rfl (g := (mkF m 6 #[rv ob_401, rv ob_285] [(.ref ob_285), (.ref ob_401)])) rfl rfl (hb hby dd9_6)
  have N418 := Fr.snoc X414 N0 I420
  have z421 := W416.size
  have F422 : Fld Z h413 ob_401 cN4 "name" cN5 (.ref ob_285) := Fld.same W416 I410
  refine oS s417 ?_
  show own_G p e below (T412.setTop (mkF m 9 #[rv ob_401, rv ob_285] [])) _
  have F423 : Exa Z h413 ob_401 cN4 := Exa.wr W416 I411
  have K424 : Keep h0 h413 [ob_401] := ((Keep.refl h0 [ob_401]).wr W416 (Or.inl (by simp)))
  exact own_retV X414 hx Bd.notSynchronized Bd.returns (hb hby dd9_9) e415 (by decide) (by decide) (⟨rfl, N418, K424, F422, F423⟩)
theorem own_pd8 : parseMethodDescriptor "(Ljava/lang/String;)V" = some ⟨[(.object cN1)], none⟩ := by decide +kernel
theorem dd6_30 : decode prog_11_method_2_code 30 = .ok (.invokespecial 33, 3) := by decide +kernel
theorem dd6_33 : decode prog_11_method_2_code 33 = .ok (.areturn, 1) := by decide +kernel
def own_Q9 (Z : State) (ob_285 : Nat) (ob_286 : Nat) (kk_287 : ClassId) (in_1 : Int32) (h0 : Heap) (n0 : Nat) (vm : Vm) (v : Option Value) (h : Heap) (L : List Loc) : Prop := (∃ ob_401 : Nat, v = some (.ref ob_401) ∧ Fr n0 L ∧ Keep h0 h [] ∧ h0.size ≤ ob_401 ∧ Exa Z h ob_401 cN4 ∧ Fld Z h ob_401 cN4 "name" cN5 (.ref ob_285) ∧ @LT.lt Nat instLTNat ob_401 h.size)
theorem own_pn9 : plainFor mN9 = true := by decide +kernel
set_option maxRecDepth 65536 in
set_option maxHeartbeats 40000000 in
theorem own_rm9 (l : Launch) (Z : State) (a0 : Array Value) (hw : ∀ d ∈ tables_1, d.before a0 Z = true) (hEL : EW Z a0 own_EL) (ws : List Jvm.Cond) (ob_285 : Nat) (ob_286 : Nat) (kk_287 : ClassId) (in_1 : Int32) (h0 : Heap) (n0 : Nat) (Z0 : n0 ≤ h0.size) (O0 : Old Z n0 h0) (I364 : Exa Z h0 ob_285 cN1) (I367 : Fld Z h0 ob_285 cN1 "value" "[B" (.ref ob_286)) (I375 : Arv Z h0 ob_286 kk_287 .byte 1 [(.int ((in_1 &&& 255).toInt8.toInt32))] (.int 0)) :
    own_MetW l Z own_EL [] h0 mN9 prog_11_method_2_code 1 (Option.some (FieldType.object cN4)) ws ({ frames := 2, cells := 3, slots := 21, locals := 26 } : Room) #[(.ref ob_285)] (own_Q9 Z ob_285 ob_286 kk_287 in_1 h0 n0) 3 21 := by
  refine MetFree.of_bodySF own_pn9 hisR ?_
  intro p e s m args below meth c s₁ Bd hml0 hP hK
  obtain ⟨rfl, hZ, hh, hCH, hsf⟩ := hP
  have hx := Bd.exec
  have hby := Bd.bytes
  have hml : c.maxLocals = 1 := hml0
  have hown : (s.setVm s.vm).vm.findClass cN4 = some m.cls := findClass_of_methodNamed Bd.named
  have hnm := (name_of_methodNamed Bd.named Bd.method).1
  have hZ : Z.Warmed39 (s.setVm s.vm).vm := hZ
  have hS : s.Since s.vm 0 := (State.WarmedH.refl s).since 0
  have X0 : Stand p l e ({ frames := 2, cells := 3, slots := 21, locals := 26 } : Room) (s.setVm s.vm) m #[(.ref ob_285)] below meth c s₁ [] 0 0 := Stand.of_body Bd
  have e0 : s₁.heap = h0 := by rw [← hh, Bd.state]; rfl
  have hR : CHr Z own_EL s.vm h0 s.vm h0 := CHr.refl hCH
  have N0 := Fr.nil n0
  show own_G p e below (s₁.setTop (entryFrame m #[(.ref ob_285)] 1)) (own_PW Z own_EL s (own_Q9 Z ob_285 ob_286 kk_287 in_1 h0 n0) 3 21)
  refine own_cast (own_ef7 m ob_285) ?_
  show own_G p e below (s₁.setTop (mkF m 0 #[rv ob_285] [])) _
  refine oS (fun _ => XS.aloadN X0.here hx rfl (hb hby dd6_0) rfl rfl) ?_
  obtain ⟨ob_342, T333, h334, k335, X336, e337, E338, hS, hk, hZ, hown, A339, L340, s341⟩ := ldcOH X0 hx hZ hown (oW hw 39 rfl) (own_sk hw) e0 hS (by omega) hEL hR.1 (g := (mkF m 1 #[rv ob_285] [(.ref ob_285)])) rfl (hb hby dd6_1) (n := 16) (by decide) (by decide) (by decide) (by decide)
  have z343 := E338.1
  refine oS s341 ?_
  have R344 : CHr Z own_EL s.vm h0 T333.vm h334 := hR.trans A339
  show own_G p e below (T333.setTop (mkF m 3 #[rv ob_285] [(.ref ob_342), (.ref ob_285)])) _
  have O345 : Old Z n0 h334 := O0.ext E338
  have Z346 : n0 ≤ h334.size := by omega
  obtain ⟨T347, h348, v349, L350, X351, e352, q353, s354⟩ := own_callS X336 hx hZ hown e337 (y := mN6) (oW hw 42 rfl) (oW hw 43 rfl) (oW hw 44 rfl) (oW hw 45 rfl) (by decide) (W := 0) (own_rm10 l Z a0 hw [] ob_285 ob_342 h334 n0 Z346 O345 ) (by decide) (by decide) (by decide) (by decide) (g := (mkF m 3 #[rv ob_285] [(.ref ob_342), (.ref ob_285)])) rfl (by rw [hml]; rfl) (argsL := [(.ref ob_285), (.ref ob_342)]) (rest := []) rfl (lenOf own_pd6 rfl) rfl (by show 2 * 0 + _ ≤ _; exact Nat.le_of_eq rfl) (hb hby dd6_3)
  refine oS s354 ?_
  obtain ⟨rfl, N355, K356⟩ := q353
  have N357 := Fr.app N0 N355
  have e358 := e352.trans K356
  show own_G p e below (T347.setTop (mkF m 6 #[rv ob_285] [(.ref ob_285)])) _
  have F365 : Exa Z h334 ob_285 cN1 := Exa.ext E338 I364
  obtain ⟨T359, X360, e361, s362⟩ := castY X351 hx hZ hown (oW hw 46 rfl) e358 (Ins.self F365) (g := (mkF m 6 #[rv ob_285] [(.ref ob_285)])) rfl rfl (hb hby dd6_6)
  refine oS s362 ?_
  show own_G p e below (T359.setTop (mkF m 9 #[rv ob_285] [(.ref ob_285)])) _
  have F368 : Fld Z h334 ob_285 cN1 "value" "[B" (.ref ob_286) := Fld.ext E338 I367
  have F376 : Arv Z h334 ob_286 kk_287 .byte 1 [(.int ((in_1 &&& 255).toInt8.toInt32))] (.int 0) := I375.ext E338
  have Z378 : n0 ≤ h334.size := by omega
  obtain ⟨T379, h380, v381, L382, X383, e384, q385, s386⟩ := own_callV X360 hx hZ hown e361 (y := mN7) (z := mN7) (C := cN1) (b := ob_285) (oW hw 47 rfl) (oW hw 48 rfl) (notFace_of_selects (args := #[]) (mvT hZ (oW hw 50 rfl))) (oW hw 50 rfl) (oW hw 49 rfl) (oW hw 8 rfl) (oW hw 51 rfl) (by decide) F365 (W := 0) (own_rm11 l Z a0 hw [] ob_285 ob_286 kk_287 in_1 h334 n0 Z378 O345 F368 F376) (by decide) (by decide) (by decide) (by decide) (g := (mkF m 9 #[rv ob_285] [(.ref ob_285)])) rfl (by rw [hml]; rfl) (argsL := []) (rest := []) rfl (lenOf own_pd7 rfl) rfl (by show 2 * 0 + _ ≤ _; exact Nat.le_of_eq rfl) (hb hby dd6_9)
  refine oS s386 ?_
  obtain ⟨rfl, N387, K388⟩ := q385
  have N389 := Fr.app N357 N387
  have e390 := e384.trans K388
  show own_G p e below (T379.setTop (mkF m 12 #[rv ob_285] [(.int 0)])) _
  refine oS (fun _ => XS.ifYes X383.here hx rfl (pc0 := 12) (pc' := 25) rfl (hb hby dd6_12) rfl (XT.i0_eq_t (by decide)) (by decide) (by decide)) ?_
  show own_G p e below (T379.setTop (mkF m 25 #[rv ob_285] [])) _
  obtain ⟨T391, h392, X393, e394, E395, A396, D397, U400, s398⟩ := newO X383 hx hZ hown (oW hw 52 rfl) (oW hw 53 rfl) (oW hw 37 rfl) e390 (g := (mkF m 25 #[rv ob_285] [])) rfl (hb hby dd6_25) (by decide) (by decide)
  obtain ⟨ob_401, g402⟩ : ∃ z, z = h334.size := ⟨_, rfl⟩
  rw [← g402] at A396 D397 U400 s398
  have z403 := E395.1
  have y399 : @LT.lt Nat instLTNat ob_401 h392.size := A396.lt
  refine oS s398 ?_
  have R404 : CHr Z own_EL s.vm h0 T333.vm h392 := R344.trans (CHr.ext E395 R344.1)
  have F405 : Fld Z h392 ob_401 cN4 "name" cN5 .null := D397 (Or.inr (oW hw 59 rfl)) (ty := (.object cN1)) (by decide)
  show own_G p e below (T391.setTop (mkF m 28 #[rv ob_285] [(.ref ob_401)])) _
  refine oS (fun _ => XS.dup X393.here hx rfl (hb hby dd6_28) rfl rfl) ?_
  refine oS (fun _ => XS.aloadN X393.here hx rfl (hb hby dd6_29) rfl rfl) ?_
  have N419 : n0 ≤ ob_401 := by omega
  have O425 : Old Z n0 h392 := O345.ext E395
  have Z426 : n0 ≤ h392.size := by omega
  obtain ⟨T427, h428, v429, L430, X431, e432, q433, s434⟩ := own_callN X393 hx hZ hown e394 (y := mN8) (b := ob_401) rfl (oW hw 54 rfl) (oW hw 55 rfl) (oW hw 37 rfl) (oW hw 56 rfl) (by decide) (W := 1) (own_rm12 l Z a0 hw [] ob_401 ob_285 h392 n0 Z426 O425 F405 A396 N419) (by decide) (by decide) (by decide) (by decide) (g := (mkF m 30 #[rv ob_285] [(.ref ob_285), (.ref ob_401), (.ref ob_401)])) rfl (by rw [hml]; rfl) (argsL := [(.ref ob_285)]) (rest := [(.ref ob_401)]) rfl (lenOf own_pd8 rfl) rfl (by show 2 * 0 + _ ≤ _; exact Nat.le_of_eq rfl) (hb hby dd6_30)
  refine oS s434 ?_
  obtain ⟨rfl, N435, K436, F437, F438⟩ := q433
  have N439 := Fr.app N389 N435
  have R440 : CHr Z own_EL s.vm h0 T333.vm h428 := R404.trans (CHr.keep K436 (sfS own_safe0 sf0) R404.1)
  have z441 := K436.1
  show own_G p e below (T427.setTop (mkF m 33 #[rv ob_285] [(.ref ob_401)])) _
  have y442 : @LT.lt Nat instLTNat ob_401 h428.size := by omega
  have K443 : Keep h0 h428 [] := ((((Keep.refl h0 []).ext E338).ext E395).trans K436 (allS (Or.inr (by omega)) all0))
  exact own_retAW X431 hx Bd.notSynchronized Bd.returns rfl rfl (hb hby dd6_33) hS hZ hEL hh R440 e432 (by omega) (by decide) (by decide) (fun hA => ⟨ob_401, rfl, N439, K443, (by omega), F438, F437, y442⟩)
theorem own_pd9 : parseMethodDescriptor "(Ljava/lang/String;)Lcom/example/typub/typub/Group;" = some ⟨[(.object cN1)], (some (.object cN4))⟩ := by decide +kernel
theorem own_ef8 (m : MethodId) (x0 : Addr) (x1 : Addr) : entryFrame m #[(.ref x0), (.ref x1)] 3 = mkF m 0 #[.val (.ref x0), .val (.ref x1), .unset] [] := by first | (simp [entryFrame, mkF, argsToLocals, Value.category]; done) | rfl
theorem dd10_0 : decode jdk_42_method_66_code 0 = .ok (.aload_n 0, 1) := by decide +kernel
theorem dd10_1 : decode jdk_42_method_66_code 1 = .ok (.aload_n 1, 1) := by decide +kernel
theorem dd10_2 : decode jdk_42_method_66_code 2 = .ok (.if_acmp .ne 5, 3) := by decide +kernel
theorem dd10_7 : decode jdk_42_method_66_code 7 = .ok (.aload_n 1, 1) := by decide +kernel
theorem dd10_8 : decode jdk_42_method_66_code 8 = .ok (.instanceof 10, 3) := by decide +kernel
theorem dd10_11 : decode jdk_42_method_66_code 11 = .ok (.ifCond .eq 43, 3) := by decide +kernel
theorem dd10_14 : decode jdk_42_method_66_code 14 = .ok (.aload_n 1, 1) := by decide +kernel
theorem dd10_15 : decode jdk_42_method_66_code 15 = .ok (.checkcast 10, 3) := by decide +kernel
theorem dd10_18 : decode jdk_42_method_66_code 18 = .ok (.astore_n 2, 1) := by decide +kernel
theorem dd10_19 : decode jdk_42_method_66_code 19 = .ok (.getstatic 38, 3) := by decide +kernel
theorem dd10_22 : decode jdk_42_method_66_code 22 = .ok (.ifCond .eq 14, 3) := by decide +kernel
theorem dd10_25 : decode jdk_42_method_66_code 25 = .ok (.aload_n 0, 1) := by decide +kernel
theorem dd10_26 : decode jdk_42_method_66_code 26 = .ok (.getfield 15, 3) := by decide +kernel
theorem dd10_29 : decode jdk_42_method_66_code 29 = .ok (.aload_n 2, 1) := by decide +kernel
theorem dd10_30 : decode jdk_42_method_66_code 30 = .ok (.getfield 15, 3) := by decide +kernel
theorem dd10_33 : decode jdk_42_method_66_code 33 = .ok (.if_icmp .ne 21, 3) := by decide +kernel
theorem dd10_36 : decode jdk_42_method_66_code 36 = .ok (.aload_n 0, 1) := by decide +kernel
theorem dd10_37 : decode jdk_42_method_66_code 37 = .ok (.getfield 9, 3) := by decide +kernel
theorem dd10_40 : decode jdk_42_method_66_code 40 = .ok (.aload_n 2, 1) := by decide +kernel
theorem dd10_41 : decode jdk_42_method_66_code 41 = .ok (.getfield 9, 3) := by decide +kernel
theorem dd11_0 : decode jdk_43_method_13_code 0 = .ok (.aload_n 0, 1) := by decide +kernel
theorem dd11_1 : decode jdk_43_method_13_code 1 = .ok (.arraylength, 1) := by decide +kernel
theorem dd11_2 : decode jdk_43_method_13_code 2 = .ok (.aload_n 1, 1) := by decide +kernel
theorem dd11_3 : decode jdk_43_method_13_code 3 = .ok (.arraylength, 1) := by decide +kernel
theorem dd11_4 : decode jdk_43_method_13_code 4 = .ok (.if_icmp .ne 30, 3) := by decide +kernel
theorem dd11_7 : decode jdk_43_method_13_code 7 = .ok (.iconst 0, 1) := by decide +kernel
theorem dd11_8 : decode jdk_43_method_13_code 8 = .ok (.istore_n 2, 1) := by decide +kernel
theorem dd11_9 : decode jdk_43_method_13_code 9 = .ok (.iload_n 2, 1) := by decide +kernel
theorem dd11_10 : decode jdk_43_method_13_code 10 = .ok (.aload_n 0, 1) := by decide +kernel
theorem dd11_11 : decode jdk_43_method_13_code 11 = .ok (.arraylength, 1) := by decide +kernel
theorem dd11_12 : decode jdk_43_method_13_code 12 = .ok (.if_icmp .ge 20, 3) := by decide +kernel
theorem dd11_15 : decode jdk_43_method_13_code 15 = .ok (.aload_n 0, 1) := by decide +kernel
theorem dd11_16 : decode jdk_43_method_13_code 16 = .ok (.iload_n 2, 1) := by decide +kernel
theorem dd11_17 : decode jdk_43_method_13_code 17 = .ok (.baload, 1) := by decide +kernel
theorem dd11_18 : decode jdk_43_method_13_code 18 = .ok (.aload_n 1, 1) := by decide +kernel
theorem dd11_19 : decode jdk_43_method_13_code 19 = .ok (.iload_n 2, 1) := by decide +kernel
theorem dd11_20 : decode jdk_43_method_13_code 20 = .ok (.baload, 1) := by decide +kernel
theorem dd11_21 : decode jdk_43_method_13_code 21 = .ok (.if_icmp .eq 5, 3) := by decide +kernel
theorem dd11_26 : decode jdk_43_method_13_code 26 = .ok (.iinc 2 1, 3) := by decide +kernel
theorem dd11_29 : decode jdk_43_method_13_code 29 = .ok (.goto (-20), 3) := by decide +kernel
theorem dd11_32 : decode jdk_43_method_13_code 32 = .ok (.iconst 1, 1) := by decide +kernel
theorem dd11_33 : decode jdk_43_method_13_code 33 = .ok (.ireturn, 1) := by decide +kernel
def own_Q14 (Z : State) (ob_286 : Nat) (ob_315 : Nat) (kk_287 : ClassId) (in_1 : Int32) (kk_316 : ClassId) (h0 : Heap) (n0 : Nat) (v : Option Value) (h : Heap) (L : List Loc) : Prop := (v = some (.int 1) ∧ Fr n0 L ∧ h = h0)
theorem own_pn10 : plainFor mN10 = true := by decide +kernel
set_option maxRecDepth 65536 in
set_option maxHeartbeats 40000000 in
theorem own_rm14 (l : Launch) (Z : State) (a0 : Array Value) (hw : ∀ d ∈ tables_1, d.before a0 Z = true) (ws : List Jvm.Cond) (ob_286 : Nat) (ob_315 : Nat) (kk_287 : ClassId) (in_1 : Int32) (kk_316 : ClassId) (h0 : Heap) (n0 : Nat) (Z0 : n0 ≤ h0.size) (O0 : Old Z n0 h0) (I539 : Arv Z h0 ob_286 kk_287 .byte 1 [(.int ((in_1 &&& 255).toInt8.toInt32))] (.int 0)) (I542 : Arv Z h0 ob_315 kk_316 .byte 1 [(.int ((in_1 &&& 255).toInt8.toInt32))] (.int 0)) :
    own_Met l Z h0 mN10 jdk_43_method_13_code 3 (Option.some FieldType.boolean) ws ({ frames := 0, cells := 0, slots := 0, locals := 0 } : Room) #[(.ref ob_286), (.ref ob_315)] (own_Q14 Z ob_286 ob_315 kk_287 in_1 kk_316 h0 n0) 0 0 := by
  refine MetFree.of_bodySF own_pn10 hisR ?_
  intro p e s m args below meth c s₁ Bd hml0 hP hK
  obtain ⟨rfl, hZ, hh⟩ := hP
  have hx := Bd.exec
  have hby := Bd.bytes
  have hml : c.maxLocals = 3 := hml0
  have hown : s.vm.findClass cN6 = some m.cls := findClass_of_methodNamed Bd.named
  have hnm := (name_of_methodNamed Bd.named Bd.method).1
  have X0 : Stand p l e ({ frames := 0, cells := 0, slots := 0, locals := 0 } : Room) s m #[(.ref ob_286), (.ref ob_315)] below meth c s₁ [] 0 0 := Stand.of_body Bd
  have e0 : s₁.heap = h0 := by rw [← hh, Bd.state]; rfl
  have N0 := Fr.nil n0
  show own_G p e below (s₁.setTop (entryFrame m #[(.ref ob_286), (.ref ob_315)] 3)) (own_P s (own_Q14 Z ob_286 ob_315 kk_287 in_1 kk_316 h0 n0) 0 0)
  refine own_cast (own_ef8 m ob_286 ob_315) ?_
  show own_G p e below (s₁.setTop (mkF m 0 #[rv ob_286, rv ob_315, .unset] [])) _
  refine oS (fun _ => XS.aloadN X0.here hx rfl (hb hby dd11_0) rfl rfl) ?_
  refine oS (own_len X0 hx hZ e0 I539 rfl rfl (hb hby dd11_1)) ?_
  show own_G p e below (s₁.setTop (mkF m 2 #[rv ob_286, rv ob_315, .unset] [(.int 1)])) _
  refine oS (fun _ => XS.aloadN X0.here hx rfl (hb hby dd11_2) rfl rfl) ?_
  refine oS (own_len X0 hx hZ e0 I542 rfl rfl (hb hby dd11_3)) ?_
  show own_G p e below (s₁.setTop (mkF m 4 #[rv ob_286, rv ob_315, .unset] [(.int 1), (.int 1)])) _
  refine oS (fun _ => XS.icmpNo X0.here hx rfl (hb hby dd11_4) rfl (XT.ii_ne_f (by decide))) ?_
  show own_G p e below (s₁.setTop (mkF m 7 #[rv ob_286, rv ob_315, .unset] [])) _
  refine oS (fun _ => XS.iconst X0.here hx rfl (hb hby dd11_7) ) ?_
  refine oS (fun _ => XS.istoreN X0.here hx rfl (hb hby dd11_8) rfl (l' := #[rv ob_286, rv ob_315, iv 0]) rfl) ?_
  refine oS (fun _ => XS.iloadN X0.here hx rfl (hb hby dd11_9) rfl) ?_
  refine oS (fun _ => XS.aloadN X0.here hx rfl (hb hby dd11_10) rfl rfl) ?_
  show own_G p e below (s₁.setTop (mkF m 11 #[rv ob_286, rv ob_315, iv 0] [(.ref ob_286), (.int 0)])) _
  refine oS (own_len X0 hx hZ e0 I539 rfl rfl (hb hby dd11_11)) ?_
  show own_G p e below (s₁.setTop (mkF m 12 #[rv ob_286, rv ob_315, iv 0] [(.int 1), (.int 0)])) _
  refine oS (fun _ => XS.icmpNo X0.here hx rfl (hb hby dd11_12) rfl (XT.ii_ge_f (by decide))) ?_
  show own_G p e below (s₁.setTop (mkF m 15 #[rv ob_286, rv ob_315, iv 0] [])) _
  refine oS (fun _ => XS.aloadN X0.here hx rfl (hb hby dd11_15) rfl rfl) ?_
  refine oS (fun _ => XS.iloadN X0.here hx rfl (hb hby dd11_16) rfl) ?_
  refine oS (own_baload X0 hx hZ e0 I539 (by decide) (v := (.int ((in_1 &&& 255).toInt8.toInt32))) rfl rfl rfl (hb hby dd11_17)) ?_
  show own_G p e below (s₁.setTop (mkF m 18 #[rv ob_286, rv ob_315, iv 0] [(.int ((in_1 &&& 255).toInt8.toInt32))])) _
  refine oS (fun _ => XS.aloadN X0.here hx rfl (hb hby dd11_18) rfl rfl) ?_
  refine oS (fun _ => XS.iloadN X0.here hx rfl (hb hby dd11_19) rfl) ?_
  refine oS (own_baload X0 hx hZ e0 I542 (by decide) (v := (.int ((in_1 &&& 255).toInt8.toInt32))) rfl rfl rfl (hb hby dd11_20)) ?_
  show own_G p e below (s₁.setTop (mkF m 21 #[rv ob_286, rv ob_315, iv 0] [(.int ((in_1 &&& 255).toInt8.toInt32)), (.int ((in_1 &&& 255).toInt8.toInt32))])) _
  refine oS (fun _ => XS.icmpYes X0.here hx rfl (pc0 := 21) (pc' := 26) rfl (hb hby dd11_21) rfl (XT.ii_eq_t rfl) (by decide) (by decide)) ?_
  show own_G p e below (s₁.setTop (mkF m 26 #[rv ob_286, rv ob_315, iv 0] [])) _
  refine oS (fun _ => XS.iinc X0.here hx rfl (hb hby dd11_26) rfl (l' := #[rv ob_286, rv ob_315, iv 1]) rfl) ?_
  show own_G p e below (s₁.setTop (mkF m 29 #[rv ob_286, rv ob_315, iv 1] [])) _
  refine oS (fun _ => XS.goto X0.here hx rfl (pc0 := 29) (pc' := 9) rfl (hb hby dd11_29) (by decide) (by decide)) ?_
  show own_G p e below (s₁.setTop (mkF m 9 #[rv ob_286, rv ob_315, iv 1] [])) _
  refine oS (fun _ => XS.iloadN X0.here hx rfl (hb hby dd11_9) rfl) ?_
  refine oS (fun _ => XS.aloadN X0.here hx rfl (hb hby dd11_10) rfl rfl) ?_
  refine oS (own_len X0 hx hZ e0 I539 rfl rfl (hb hby dd11_11)) ?_
  show own_G p e below (s₁.setTop (mkF m 12 #[rv ob_286, rv ob_315, iv 1] [(.int 1), (.int 1)])) _
  refine oS (fun _ => XS.icmpYes X0.here hx rfl (pc0 := 12) (pc' := 32) rfl (hb hby dd11_12) rfl (XT.ii_ge_t (by decide)) (by decide) (by decide)) ?_
  show own_G p e below (s₁.setTop (mkF m 32 #[rv ob_286, rv ob_315, iv 1] [])) _
  refine oS (fun _ => XS.iconst X0.here hx rfl (hb hby dd11_32) ) ?_
  exact own_retN X0 hx (t := .boolean) Bd.notSynchronized Bd.returns (by simp) (hb hby dd11_33) (by decide) e0 (by decide) (by decide) (⟨rfl, N0, rfl⟩)
theorem own_pd10 : parseMethodDescriptor "([B[B)Z" = some ⟨[(.array .byte), (.array .byte)], (some .boolean)⟩ := by decide +kernel
theorem dd10_44 : decode jdk_42_method_66_code 44 = .ok (.invokestatic 541, 3) := by decide +kernel
theorem dd10_47 : decode jdk_42_method_66_code 47 = .ok (.ifCond .eq 7, 3) := by decide +kernel
theorem dd10_50 : decode jdk_42_method_66_code 50 = .ok (.iconst 1, 1) := by decide +kernel
theorem dd10_51 : decode jdk_42_method_66_code 51 = .ok (.goto 4, 3) := by decide +kernel
theorem dd10_55 : decode jdk_42_method_66_code 55 = .ok (.ireturn, 1) := by decide +kernel
def own_Q13 (Z : State) (ob_285 : Nat) (ob_314 : Nat) (in_7 : Int32) (ob_286 : Nat) (ob_315 : Nat) (kk_287 : ClassId) (in_1 : Int32) (kk_316 : ClassId) (h0 : Heap) (n0 : Nat) (v : Option Value) (h : Heap) (L : List Loc) : Prop := (v = some (.int 1) ∧ Fr n0 L ∧ h = h0)
theorem own_pn11 : plainFor mN11 = true := by decide +kernel
set_option maxRecDepth 65536 in
set_option maxHeartbeats 40000000 in
theorem own_rm13 (l : Launch) (Z : State) (a0 : Array Value) (hw : ∀ d ∈ tables_1, d.before a0 Z = true) (ws : List Jvm.Cond) (ob_285 : Nat) (ob_314 : Nat) (in_7 : Int32) (ob_286 : Nat) (ob_315 : Nat) (kk_287 : ClassId) (in_1 : Int32) (kk_316 : ClassId) (h0 : Heap) (n0 : Nat) (Z0 : n0 ≤ h0.size) (O0 : Old Z n0 h0) (I490 : @Ne Nat ob_285 ob_314) (I496 : Exa Z h0 ob_314 cN1) (I501 : Sta Z Z.heap cN1 "COMPACT_STRINGS" "Z" (.int in_7)) (I507 : ¬ (in_7 = 0)) (I511 : Fld Z h0 ob_285 cN1 "coder" "B" (.int 0)) (I518 : Fld Z h0 ob_314 cN1 "coder" "B" (.int 0)) (I525 : Fld Z h0 ob_285 cN1 "value" "[B" (.ref ob_286)) (I531 : Fld Z h0 ob_314 cN1 "value" "[B" (.ref ob_315)) (I538 : Arv Z h0 ob_286 kk_287 .byte 1 [(.int ((in_1 &&& 255).toInt8.toInt32))] (.int 0)) (I541 : Arv Z h0 ob_315 kk_316 .byte 1 [(.int ((in_1 &&& 255).toInt8.toInt32))] (.int 0)) :
    own_Met l Z h0 mN11 jdk_42_method_66_code 3 (Option.some FieldType.boolean) ws ({ frames := 1, cells := 0, slots := 0, locals := 14 } : Room) #[(.ref ob_285), (.ref ob_314)] (own_Q13 Z ob_285 ob_314 in_7 ob_286 ob_315 kk_287 in_1 kk_316 h0 n0) 0 0 := by
  refine MetFree.of_bodySF own_pn11 hisR ?_
  intro p e s m args below meth c s₁ Bd hml0 hP hK
  obtain ⟨rfl, hZ, hh⟩ := hP
  have hx := Bd.exec
  have hby := Bd.bytes
  have hml : c.maxLocals = 3 := hml0
  have hown : s.vm.findClass cN1 = some m.cls := findClass_of_methodNamed Bd.named
  have hnm := (name_of_methodNamed Bd.named Bd.method).1
  have X0 : Stand p l e ({ frames := 1, cells := 0, slots := 0, locals := 14 } : Room) s m #[(.ref ob_285), (.ref ob_314)] below meth c s₁ [] 0 0 := Stand.of_body Bd
  have e0 : s₁.heap = h0 := by rw [← hh, Bd.state]; rfl
  have N0 := Fr.nil n0
  show own_G p e below (s₁.setTop (entryFrame m #[(.ref ob_285), (.ref ob_314)] 3)) (own_P s (own_Q13 Z ob_285 ob_314 in_7 ob_286 ob_315 kk_287 in_1 kk_316 h0 n0) 0 0)
  refine own_cast (own_ef8 m ob_285 ob_314) ?_
  show own_G p e below (s₁.setTop (mkF m 0 #[rv ob_285, rv ob_314, .unset] [])) _
  refine oS (fun _ => XS.aloadN X0.here hx rfl (hb hby dd10_0) rfl rfl) ?_
  refine oS (fun _ => XS.aloadN X0.here hx rfl (hb hby dd10_1) rfl rfl) ?_
  refine oS (fun _ => XT.acmpYes X0.here hx rfl (pc0 := 2) (pc' := 7) rfl (hb hby dd10_2) rfl rfl rfl (XT.aa_ne_t (own_rne I490)) (by decide) (by decide)) ?_
  show own_G p e below (s₁.setTop (mkF m 7 #[rv ob_285, rv ob_314, .unset] [])) _
  refine oS (fun _ => XS.aloadN X0.here hx rfl (hb hby dd10_7) rfl rfl) ?_
  obtain ⟨T491, X492, e493, s494⟩ := instY X0 hx hZ hown (oW hw 65 rfl) e0 (Ins.self I496) (g := (mkF m 8 #[rv ob_285, rv ob_314, .unset] [(.ref ob_314)])) rfl rfl (hb hby dd10_8)
  refine oS s494 ?_
  show own_G p e below (T491.setTop (mkF m 11 #[rv ob_285, rv ob_314, .unset] [(.int 1)])) _
  refine oS (fun _ => XS.ifNo X492.here hx rfl (hb hby dd10_11) rfl (XT.i0_eq_f (by decide))) ?_
  show own_G p e below (T491.setTop (mkF m 14 #[rv ob_285, rv ob_314, .unset] [])) _
  refine oS (fun _ => XS.aloadN X492.here hx rfl (hb hby dd10_14) rfl rfl) ?_
  obtain ⟨T497, X498, e499, s500⟩ := castY X492 hx hZ hown (oW hw 65 rfl) e493 (Ins.self I496) (g := (mkF m 15 #[rv ob_285, rv ob_314, .unset] [(.ref ob_314)])) rfl rfl (hb hby dd10_15)
  refine oS s500 ?_
  show own_G p e below (T497.setTop (mkF m 18 #[rv ob_285, rv ob_314, .unset] [(.ref ob_314)])) _
  refine oS (fun _ => XS.astoreN X498.here hx rfl (hb hby dd10_18) rfl rfl (l' := #[rv ob_285, rv ob_314, rv ob_314]) rfl) ?_
  have F502 : Sta Z h0 cN1 "COMPACT_STRINGS" "Z" (.int in_7) := Sta.ext O0.2 I501
  obtain ⟨T503, X504, e505, s506⟩ := getS X498 hx hZ hown (host := "") (oW hw 19 rfl) Via.refl e499 F502 (g := (mkF m 19 #[rv ob_285, rv ob_314, rv ob_314] [])) rfl (hb hby dd10_19)
  refine oS s506 ?_
  show own_G p e below (T503.setTop (mkF m 22 #[rv ob_285, rv ob_314, rv ob_314] [(.int in_7)])) _
  refine oS (fun _ => XS.ifNo X504.here hx rfl (hb hby dd10_22) rfl (XT.i0_eq_f I507)) ?_
  show own_G p e below (T503.setTop (mkF m 25 #[rv ob_285, rv ob_314, rv ob_314] [])) _
  refine oS (fun _ => XS.aloadN X504.here hx rfl (hb hby dd10_25) rfl rfl) ?_
  obtain ⟨T512, X513, e514, s515⟩ := getF X504 hx hZ hown (host := "") (Or.inl (oW hw 31 rfl)) Via.refl e505 I511 (g := (mkF m 26 #[rv ob_285, rv ob_314, rv ob_314] [(.ref ob_285)])) rfl rfl (hb hby dd10_26)
  refine oS s515 ?_
  show own_G p e below (T512.setTop (mkF m 29 #[rv ob_285, rv ob_314, rv ob_314] [(.int 0)])) _
  refine oS (fun _ => XS.aloadN X513.here hx rfl (hb hby dd10_29) rfl rfl) ?_
  obtain ⟨T519, X520, e521, s522⟩ := getF X513 hx hZ hown (host := "") (Or.inl (oW hw 31 rfl)) Via.refl e514 I518 (g := (mkF m 30 #[rv ob_285, rv ob_314, rv ob_314] [(.ref ob_314), (.int 0)])) rfl rfl (hb hby dd10_30)
  refine oS s522 ?_
  show own_G p e below (T519.setTop (mkF m 33 #[rv ob_285, rv ob_314, rv ob_314] [(.int 0), (.int 0)])) _
  refine oS (fun _ => XS.icmpNo X520.here hx rfl (hb hby dd10_33) rfl (XT.ii_ne_f (by decide))) ?_
  show own_G p e below (T519.setTop (mkF m 36 #[rv ob_285, rv ob_314, rv ob_314] [])) _
  refine oS (fun _ => XS.aloadN X520.here hx rfl (hb hby dd10_36) rfl rfl) ?_
  obtain ⟨T526, X527, e528, s529⟩ := getF X520 hx hZ hown (host := "") (Or.inl (oW hw 33 rfl)) Via.refl e521 I525 (g := (mkF m 37 #[rv ob_285, rv ob_314, rv ob_314] [(.ref ob_285)])) rfl rfl (hb hby dd10_37)
  refine oS s529 ?_
  show own_G p e below (T526.setTop (mkF m 40 #[rv ob_285, rv ob_314, rv ob_314] [(.ref ob_286)])) _
  refine oS (fun _ => XS.aloadN X527.here hx rfl (hb hby dd10_40) rfl rfl) ?_
  obtain ⟨T532, X533, e534, s535⟩ := getF X527 hx hZ hown (host := "") (Or.inl (oW hw 33 rfl)) Via.refl e528 I531 (g := (mkF m 41 #[rv ob_285, rv ob_314, rv ob_314] [(.ref ob_314), (.ref ob_286)])) rfl rfl (hb hby dd10_41)
  refine oS s535 ?_
  show own_G p e below (T532.setTop (mkF m 44 #[rv ob_285, rv ob_314, rv ob_314] [(.ref ob_315), (.ref ob_286)])) _
  obtain ⟨T543, h544, v545, L546, X547, e548, q549, s550⟩ := own_callS X533 hx hZ hown e534 (y := mN10) (oW hw 66 rfl) (oW hw 67 rfl) (oW hw 68 rfl) (oW hw 69 rfl) (by decide) (W := 0) (own_rm14 l Z a0 hw [] ob_286 ob_315 kk_287 in_1 kk_316 h0 n0 Z0 O0 I538 I541) (by decide) (by decide) (by decide) (by decide) (g := (mkF m 44 #[rv ob_285, rv ob_314, rv ob_314] [(.ref ob_315), (.ref ob_286)])) rfl (by rw [hml]; rfl) (argsL := [(.ref ob_286), (.ref ob_315)]) (rest := []) rfl (lenOf own_pd10 rfl) rfl (by show 2 * 0 + _ ≤ _; exact Nat.le_of_eq rfl) (hb hby dd10_44)
  refine oS s550 ?_
  obtain ⟨rfl, N551, K552⟩ := q549
  have N553 := Fr.app N0 N551
  have e554 := e548.trans K552
  show own_G p e below (T543.setTop (mkF m 47 #[rv ob_285, rv ob_314, rv ob_314] [(.int 1)])) _
  refine oS (fun _ => XS.ifNo X547.here hx rfl (hb hby dd10_47) rfl (XT.i0_eq_f (by decide))) ?_
  show own_G p e below (T543.setTop (mkF m 50 #[rv ob_285, rv ob_314, rv ob_314] [])) _
  refine oS (fun _ => XS.iconst X547.here hx rfl (hb hby dd10_50) ) ?_
  refine oS (fun _ => XS.goto X547.here hx rfl (pc0 := 51) (pc' := 55) rfl (hb hby dd10_51) (by decide) (by decide)) ?_
  show own_G p e below (T543.setTop (mkF m 55 #[rv ob_285, rv ob_314, rv ob_314] [(.int 1)])) _
  exact own_retN X547 hx (t := .boolean) Bd.notSynchronized Bd.returns (by simp) (hb hby dd10_55) (by decide) e554 (by decide) (by decide) (⟨rfl, N553, rfl⟩)
theorem own_pd11 : parseMethodDescriptor "(Ljava/lang/Object;)Z" = some ⟨[(.object cN3)], (some .boolean)⟩ := by decide +kernel
theorem dd12_0 : decode prog_11_method_3_code 0 = .ok (.aload_n 0, 1) := by decide +kernel
theorem dd12_1 : decode prog_11_method_3_code 1 = .ok (.getfield 7, 3) := by decide +kernel
theorem dd12_4 : decode prog_11_method_3_code 4 = .ok (.areturn, 1) := by decide +kernel
def own_Q15 (Z : State) (ob_455 : Nat) (ob_285 : Nat) (h0 : Heap) (n0 : Nat) (v : Option Value) (h : Heap) (L : List Loc) : Prop := (v = some (.ref ob_285) ∧ Fr n0 L ∧ h = h0)
theorem own_pn12 : plainFor mN12 = true := by decide +kernel
set_option maxRecDepth 65536 in
set_option maxHeartbeats 40000000 in
theorem own_rm15 (l : Launch) (Z : State) (a0 : Array Value) (hw : ∀ d ∈ tables_1, d.before a0 Z = true) (ws : List Jvm.Cond) (ob_455 : Nat) (ob_285 : Nat) (h0 : Heap) (n0 : Nat) (Z0 : n0 ≤ h0.size) (O0 : Old Z n0 h0) (I572 : Fld Z h0 ob_455 cN4 "name" cN5 (.ref ob_285)) :
    own_Met l Z h0 mN12 prog_11_method_3_code 1 (Option.some (FieldType.object cN1)) ws ({ frames := 0, cells := 0, slots := 0, locals := 0 } : Room) #[(.ref ob_455)] (own_Q15 Z ob_455 ob_285 h0 n0) 0 0 := by
  refine MetFree.of_bodySF own_pn12 hisR ?_
  intro p e s m args below meth c s₁ Bd hml0 hP hK
  obtain ⟨rfl, hZ, hh⟩ := hP
  have hx := Bd.exec
  have hby := Bd.bytes
  have hml : c.maxLocals = 1 := hml0
  have hown : s.vm.findClass cN4 = some m.cls := findClass_of_methodNamed Bd.named
  have hnm := (name_of_methodNamed Bd.named Bd.method).1
  have X0 : Stand p l e ({ frames := 0, cells := 0, slots := 0, locals := 0 } : Room) s m #[(.ref ob_455)] below meth c s₁ [] 0 0 := Stand.of_body Bd
  have e0 : s₁.heap = h0 := by rw [← hh, Bd.state]; rfl
  have N0 := Fr.nil n0
  show own_G p e below (s₁.setTop (entryFrame m #[(.ref ob_455)] 1)) (own_P s (own_Q15 Z ob_455 ob_285 h0 n0) 0 0)
  refine own_cast (own_ef7 m ob_455) ?_
  show own_G p e below (s₁.setTop (mkF m 0 #[rv ob_455] [])) _
  refine oS (fun _ => XS.aloadN X0.here hx rfl (hb hby dd12_0) rfl rfl) ?_
  obtain ⟨T573, X574, e575, s576⟩ := getF X0 hx hZ hown (host := "") (Or.inl (oW hw 58 rfl)) Via.refl e0 I572 (g := (mkF m 1 #[rv ob_455] [(.ref ob_455)])) rfl rfl (hb hby dd12_1)
  refine oS s576 ?_
  show own_G p e below (T573.setTop (mkF m 4 #[rv ob_455] [(.ref ob_285)])) _
  exact own_retA X574 hx Bd.notSynchronized Bd.returns rfl rfl (hb hby dd12_4) e575 (by decide) (by decide) (⟨rfl, N0, rfl⟩)
theorem own_pd12 : parseMethodDescriptor "()Ljava/lang/String;" = some ⟨[], (some (.object cN1))⟩ := by decide +kernel
theorem dd10_5 : decode jdk_42_method_66_code 5 = .ok (.iconst 1, 1) := by decide +kernel
theorem dd10_6 : decode jdk_42_method_66_code 6 = .ok (.ireturn, 1) := by decide +kernel
def own_Q16 (Z : State) (ob_285 : Nat) (h0 : Heap) (n0 : Nat) (v : Option Value) (h : Heap) (L : List Loc) : Prop := (v = some (.int 1) ∧ Fr n0 L ∧ h = h0)
set_option maxRecDepth 65536 in
set_option maxHeartbeats 40000000 in
theorem own_rm16 (l : Launch) (Z : State) (a0 : Array Value) (hw : ∀ d ∈ tables_1, d.before a0 Z = true) (ws : List Jvm.Cond) (ob_285 : Nat) (h0 : Heap) (n0 : Nat) (Z0 : n0 ≤ h0.size) (O0 : Old Z n0 h0)  :
    own_Met l Z h0 mN11 jdk_42_method_66_code 3 (Option.some FieldType.boolean) ws ({ frames := 0, cells := 0, slots := 0, locals := 0 } : Room) #[(.ref ob_285), (.ref ob_285)] (own_Q16 Z ob_285 h0 n0) 0 0 := by
  refine MetFree.of_bodySF own_pn11 hisR ?_
  intro p e s m args below meth c s₁ Bd hml0 hP hK
  obtain ⟨rfl, hZ, hh⟩ := hP
  have hx := Bd.exec
  have hby := Bd.bytes
  have hml : c.maxLocals = 3 := hml0
  have hown : s.vm.findClass cN1 = some m.cls := findClass_of_methodNamed Bd.named
  have hnm := (name_of_methodNamed Bd.named Bd.method).1
  have X0 : Stand p l e ({ frames := 0, cells := 0, slots := 0, locals := 0 } : Room) s m #[(.ref ob_285), (.ref ob_285)] below meth c s₁ [] 0 0 := Stand.of_body Bd
  have e0 : s₁.heap = h0 := by rw [← hh, Bd.state]; rfl
  have N0 := Fr.nil n0
  show own_G p e below (s₁.setTop (entryFrame m #[(.ref ob_285), (.ref ob_285)] 3)) (own_P s (own_Q16 Z ob_285 h0 n0) 0 0)
  refine own_cast (own_ef8 m ob_285 ob_285) ?_
  show own_G p e below (s₁.setTop (mkF m 0 #[rv ob_285, rv ob_285, .unset] [])) _
  refine oS (fun _ => XS.aloadN X0.here hx rfl (hb hby dd10_0) rfl rfl) ?_
  refine oS (fun _ => XS.aloadN X0.here hx rfl (hb hby dd10_1) rfl rfl) ?_
  refine oS (fun _ => XT.acmpNo X0.here hx rfl (hb hby dd10_2) rfl rfl rfl (XT.aa_ne_f rfl)) ?_
  show own_G p e below (s₁.setTop (mkF m 5 #[rv ob_285, rv ob_285, .unset] [])) _
  refine oS (fun _ => XS.iconst X0.here hx rfl (hb hby dd10_5) ) ?_
  exact own_retN X0 hx (t := .boolean) Bd.notSynchronized Bd.returns (by simp) (hb hby dd10_6) (by decide) e0 (by decide) (by decide) (⟨rfl, N0, rfl⟩)
theorem dd13_0 : decode prog_11_method_4_code 0 = .ok (.aload_n 1, 1) := by decide +kernel
theorem dd13_1 : decode prog_11_method_4_code 1 = .ok (.instanceof 8, 3) := by decide +kernel
theorem dd13_4 : decode prog_11_method_4_code 4 = .ok (.ifCond .eq 26, 3) := by decide +kernel
theorem dd13_7 : decode prog_11_method_4_code 7 = .ok (.aload_n 1, 1) := by decide +kernel
theorem dd13_8 : decode prog_11_method_4_code 8 = .ok (.checkcast 8, 3) := by decide +kernel
theorem dd13_11 : decode prog_11_method_4_code 11 = .ok (.astore_n 2, 1) := by decide +kernel
theorem dd13_12 : decode prog_11_method_4_code 12 = .ok (.aload_n 2, 1) := by decide +kernel
theorem dd13_13 : decode prog_11_method_4_code 13 = .ok (.getfield 7, 3) := by decide +kernel
theorem dd13_16 : decode prog_11_method_4_code 16 = .ok (.aload_n 0, 1) := by decide +kernel
theorem dd13_17 : decode prog_11_method_4_code 17 = .ok (.getfield 7, 3) := by decide +kernel
theorem dd11_34 : decode jdk_43_method_13_code 34 = .ok (.iconst 0, 1) := by decide +kernel
theorem dd11_35 : decode jdk_43_method_13_code 35 = .ok (.ireturn, 1) := by decide +kernel
def own_Q19 (Z : State) (ob_11 : Nat) (ob_286 : Nat) (kk_12 : ClassId) (kk_287 : ClassId) (in_1 : Int32) (h0 : Heap) (n0 : Nat) (v : Option Value) (h : Heap) (L : List Loc) : Prop := (v = some (.int 0) ∧ Fr n0 L ∧ h = h0)
set_option maxRecDepth 65536 in
set_option maxHeartbeats 40000000 in
theorem own_rm19 (l : Launch) (Z : State) (a0 : Array Value) (hw : ∀ d ∈ tables_1, d.before a0 Z = true) (ws : List Jvm.Cond) (ob_11 : Nat) (ob_286 : Nat) (kk_12 : ClassId) (kk_287 : ClassId) (in_1 : Int32) (h0 : Heap) (n0 : Nat) (Z0 : n0 ≤ h0.size) (O0 : Old Z n0 h0) (I727 : Arv Z Z.heap ob_11 kk_12 FieldType.byte 0 [] (.int 0)) (I731 : Arv Z h0 ob_286 kk_287 .byte 1 [(.int ((in_1 &&& 255).toInt8.toInt32))] (.int 0)) :
    own_Met l Z h0 mN10 jdk_43_method_13_code 3 (Option.some FieldType.boolean) ws ({ frames := 0, cells := 0, slots := 0, locals := 0 } : Room) #[(.ref ob_11), (.ref ob_286)] (own_Q19 Z ob_11 ob_286 kk_12 kk_287 in_1 h0 n0) 0 0 := by
  refine MetFree.of_bodySF own_pn10 hisR ?_
  intro p e s m args below meth c s₁ Bd hml0 hP hK
  obtain ⟨rfl, hZ, hh⟩ := hP
  have hx := Bd.exec
  have hby := Bd.bytes
  have hml : c.maxLocals = 3 := hml0
  have hown : s.vm.findClass cN6 = some m.cls := findClass_of_methodNamed Bd.named
  have hnm := (name_of_methodNamed Bd.named Bd.method).1
  have X0 : Stand p l e ({ frames := 0, cells := 0, slots := 0, locals := 0 } : Room) s m #[(.ref ob_11), (.ref ob_286)] below meth c s₁ [] 0 0 := Stand.of_body Bd
  have e0 : s₁.heap = h0 := by rw [← hh, Bd.state]; rfl
  have N0 := Fr.nil n0
  show own_G p e below (s₁.setTop (entryFrame m #[(.ref ob_11), (.ref ob_286)] 3)) (own_P s (own_Q19 Z ob_11 ob_286 kk_12 kk_287 in_1 h0 n0) 0 0)
  refine own_cast (own_ef8 m ob_11 ob_286) ?_
  show own_G p e below (s₁.setTop (mkF m 0 #[rv ob_11, rv ob_286, .unset] [])) _
  refine oS (fun _ => XS.aloadN X0.here hx rfl (hb hby dd11_0) rfl rfl) ?_
  have F728 : Arv Z h0 ob_11 kk_12 FieldType.byte 0 [] (.int 0) := I727.ext O0.2
  refine oS (own_len X0 hx hZ e0 F728 rfl rfl (hb hby dd11_1)) ?_
  show own_G p e below (s₁.setTop (mkF m 2 #[rv ob_11, rv ob_286, .unset] [(.int 0)])) _
  refine oS (fun _ => XS.aloadN X0.here hx rfl (hb hby dd11_2) rfl rfl) ?_
  refine oS (own_len X0 hx hZ e0 I731 rfl rfl (hb hby dd11_3)) ?_
  show own_G p e below (s₁.setTop (mkF m 4 #[rv ob_11, rv ob_286, .unset] [(.int 1), (.int 0)])) _
  refine oS (fun _ => XS.icmpYes X0.here hx rfl (pc0 := 4) (pc' := 34) rfl (hb hby dd11_4) rfl (XT.ii_ne_t (by decide)) (by decide) (by decide)) ?_
  show own_G p e below (s₁.setTop (mkF m 34 #[rv ob_11, rv ob_286, .unset] [])) _
  refine oS (fun _ => XS.iconst X0.here hx rfl (hb hby dd11_34) ) ?_
  exact own_retN X0 hx (t := .boolean) Bd.notSynchronized Bd.returns (by simp) (hb hby dd11_35) (by decide) e0 (by decide) (by decide) (⟨rfl, N0, rfl⟩)
theorem dd10_54 : decode jdk_42_method_66_code 54 = .ok (.iconst 0, 1) := by decide +kernel
def own_Q18 (Z : State) (ob_10 : Nat) (ob_285 : Nat) (in_7 : Int32) (ob_11 : Nat) (ob_286 : Nat) (kk_12 : ClassId) (kk_287 : ClassId) (in_1 : Int32) (h0 : Heap) (n0 : Nat) (v : Option Value) (h : Heap) (L : List Loc) : Prop := (v = some (.int 0) ∧ Fr n0 L ∧ h = h0)
set_option maxRecDepth 65536 in
set_option maxHeartbeats 40000000 in
theorem own_rm18 (l : Launch) (Z : State) (a0 : Array Value) (hw : ∀ d ∈ tables_1, d.before a0 Z = true) (ws : List Jvm.Cond) (ob_10 : Nat) (ob_285 : Nat) (in_7 : Int32) (ob_11 : Nat) (ob_286 : Nat) (kk_12 : ClassId) (kk_287 : ClassId) (in_1 : Int32) (h0 : Heap) (n0 : Nat) (Z0 : n0 ≤ h0.size) (O0 : Old Z n0 h0) (I681 : Exa Z Z.heap ob_10 cN1) (I685 : n0 ≤ ob_285) (I691 : Exa Z h0 ob_285 cN1) (I696 : Sta Z Z.heap cN1 "COMPACT_STRINGS" "Z" (.int in_7)) (I702 : ¬ (in_7 = 0)) (I703 : Fld Z Z.heap ob_10 cN1 "coder" "B" (.int 0)) (I709 : Fld Z h0 ob_285 cN1 "coder" "B" (.int 0)) (I714 : Fld Z Z.heap ob_10 cN1 "value" "[B" (.ref ob_11)) (I720 : Fld Z h0 ob_285 cN1 "value" "[B" (.ref ob_286)) (I725 : Arv Z Z.heap ob_11 kk_12 FieldType.byte 0 [] (.int 0)) (I730 : Arv Z h0 ob_286 kk_287 .byte 1 [(.int ((in_1 &&& 255).toInt8.toInt32))] (.int 0)) :
    own_Met l Z h0 mN11 jdk_42_method_66_code 3 (Option.some FieldType.boolean) ws ({ frames := 1, cells := 0, slots := 0, locals := 14 } : Room) #[(.ref ob_10), (.ref ob_285)] (own_Q18 Z ob_10 ob_285 in_7 ob_11 ob_286 kk_12 kk_287 in_1 h0 n0) 0 0 := by
  refine MetFree.of_bodySF own_pn11 hisR ?_
  intro p e s m args below meth c s₁ Bd hml0 hP hK
  obtain ⟨rfl, hZ, hh⟩ := hP
  have hx := Bd.exec
  have hby := Bd.bytes
  have hml : c.maxLocals = 3 := hml0
  have hown : s.vm.findClass cN1 = some m.cls := findClass_of_methodNamed Bd.named
  have hnm := (name_of_methodNamed Bd.named Bd.method).1
  have X0 : Stand p l e ({ frames := 1, cells := 0, slots := 0, locals := 14 } : Room) s m #[(.ref ob_10), (.ref ob_285)] below meth c s₁ [] 0 0 := Stand.of_body Bd
  have e0 : s₁.heap = h0 := by rw [← hh, Bd.state]; rfl
  have N0 := Fr.nil n0
  show own_G p e below (s₁.setTop (entryFrame m #[(.ref ob_10), (.ref ob_285)] 3)) (own_P s (own_Q18 Z ob_10 ob_285 in_7 ob_11 ob_286 kk_12 kk_287 in_1 h0 n0) 0 0)
  refine own_cast (own_ef8 m ob_10 ob_285) ?_
  show own_G p e below (s₁.setTop (mkF m 0 #[rv ob_10, rv ob_285, .unset] [])) _
  refine oS (fun _ => XS.aloadN X0.here hx rfl (hb hby dd10_0) rfl rfl) ?_
  refine oS (fun _ => XS.aloadN X0.here hx rfl (hb hby dd10_1) rfl rfl) ?_
  have y682 : @LT.lt Nat instLTNat ob_10 Z.heap.size := I681.lt
  have y683 : Z.heap.size = n0 := O0.1
  have y684 := I685
  have N686 : @Ne Nat ob_10 ob_285 := by omega
  refine oS (fun _ => XT.acmpYes X0.here hx rfl (pc0 := 2) (pc' := 7) rfl (hb hby dd10_2) rfl rfl rfl (XT.aa_ne_t (own_rne N686)) (by decide) (by decide)) ?_
  show own_G p e below (s₁.setTop (mkF m 7 #[rv ob_10, rv ob_285, .unset] [])) _
  refine oS (fun _ => XS.aloadN X0.here hx rfl (hb hby dd10_7) rfl rfl) ?_
  obtain ⟨T687, X688, e689, s690⟩ := instY X0 hx hZ hown (oW hw 65 rfl) e0 (Ins.self I691) (g := (mkF m 8 #[rv ob_10, rv ob_285, .unset] [(.ref ob_285)])) rfl rfl (hb hby dd10_8)
  refine oS s690 ?_
  show own_G p e below (T687.setTop (mkF m 11 #[rv ob_10, rv ob_285, .unset] [(.int 1)])) _
  refine oS (fun _ => XS.ifNo X688.here hx rfl (hb hby dd10_11) rfl (XT.i0_eq_f (by decide))) ?_
  show own_G p e below (T687.setTop (mkF m 14 #[rv ob_10, rv ob_285, .unset] [])) _
  refine oS (fun _ => XS.aloadN X688.here hx rfl (hb hby dd10_14) rfl rfl) ?_
  obtain ⟨T692, X693, e694, s695⟩ := castY X688 hx hZ hown (oW hw 65 rfl) e689 (Ins.self I691) (g := (mkF m 15 #[rv ob_10, rv ob_285, .unset] [(.ref ob_285)])) rfl rfl (hb hby dd10_15)
  refine oS s695 ?_
  show own_G p e below (T692.setTop (mkF m 18 #[rv ob_10, rv ob_285, .unset] [(.ref ob_285)])) _
  refine oS (fun _ => XS.astoreN X693.here hx rfl (hb hby dd10_18) rfl rfl (l' := #[rv ob_10, rv ob_285, rv ob_285]) rfl) ?_
  have F697 : Sta Z h0 cN1 "COMPACT_STRINGS" "Z" (.int in_7) := Sta.ext O0.2 I696
  obtain ⟨T698, X699, e700, s701⟩ := getS X693 hx hZ hown (host := "") (oW hw 19 rfl) Via.refl e694 F697 (g := (mkF m 19 #[rv ob_10, rv ob_285, rv ob_285] [])) rfl (hb hby dd10_19)
  refine oS s701 ?_
  show own_G p e below (T698.setTop (mkF m 22 #[rv ob_10, rv ob_285, rv ob_285] [(.int in_7)])) _
  refine oS (fun _ => XS.ifNo X699.here hx rfl (hb hby dd10_22) rfl (XT.i0_eq_f I702)) ?_
  show own_G p e below (T698.setTop (mkF m 25 #[rv ob_10, rv ob_285, rv ob_285] [])) _
  refine oS (fun _ => XS.aloadN X699.here hx rfl (hb hby dd10_25) rfl rfl) ?_
  have F704 : Fld Z h0 ob_10 cN1 "coder" "B" (.int 0) := Fld.ext O0.2 I703
  obtain ⟨T705, X706, e707, s708⟩ := getF X699 hx hZ hown (host := "") (Or.inl (oW hw 31 rfl)) Via.refl e700 F704 (g := (mkF m 26 #[rv ob_10, rv ob_285, rv ob_285] [(.ref ob_10)])) rfl rfl (hb hby dd10_26)
  refine oS s708 ?_
  show own_G p e below (T705.setTop (mkF m 29 #[rv ob_10, rv ob_285, rv ob_285] [(.int 0)])) _
  refine oS (fun _ => XS.aloadN X706.here hx rfl (hb hby dd10_29) rfl rfl) ?_
  obtain ⟨T710, X711, e712, s713⟩ := getF X706 hx hZ hown (host := "") (Or.inl (oW hw 31 rfl)) Via.refl e707 I709 (g := (mkF m 30 #[rv ob_10, rv ob_285, rv ob_285] [(.ref ob_285), (.int 0)])) rfl rfl (hb hby dd10_30)
  refine oS s713 ?_
  show own_G p e below (T710.setTop (mkF m 33 #[rv ob_10, rv ob_285, rv ob_285] [(.int 0), (.int 0)])) _
  refine oS (fun _ => XS.icmpNo X711.here hx rfl (hb hby dd10_33) rfl (XT.ii_ne_f (by decide))) ?_
  show own_G p e below (T710.setTop (mkF m 36 #[rv ob_10, rv ob_285, rv ob_285] [])) _
  refine oS (fun _ => XS.aloadN X711.here hx rfl (hb hby dd10_36) rfl rfl) ?_
  have F715 : Fld Z h0 ob_10 cN1 "value" "[B" (.ref ob_11) := Fld.ext O0.2 I714
  obtain ⟨T716, X717, e718, s719⟩ := getF X711 hx hZ hown (host := "") (Or.inl (oW hw 33 rfl)) Via.refl e712 F715 (g := (mkF m 37 #[rv ob_10, rv ob_285, rv ob_285] [(.ref ob_10)])) rfl rfl (hb hby dd10_37)
  refine oS s719 ?_
  show own_G p e below (T716.setTop (mkF m 40 #[rv ob_10, rv ob_285, rv ob_285] [(.ref ob_11)])) _
  refine oS (fun _ => XS.aloadN X717.here hx rfl (hb hby dd10_40) rfl rfl) ?_
  obtain ⟨T721, X722, e723, s724⟩ := getF X717 hx hZ hown (host := "") (Or.inl (oW hw 33 rfl)) Via.refl e718 I720 (g := (mkF m 41 #[rv ob_10, rv ob_285, rv ob_285] [(.ref ob_285), (.ref ob_11)])) rfl rfl (hb hby dd10_41)
  refine oS s724 ?_
  show own_G p e below (T721.setTop (mkF m 44 #[rv ob_10, rv ob_285, rv ob_285] [(.ref ob_286), (.ref ob_11)])) _
  have F726 : Arv Z h0 ob_11 kk_12 FieldType.byte 0 [] (.int 0) := I725.ext O0.2
  obtain ⟨T732, h733, v734, L735, X736, e737, q738, s739⟩ := own_callS X722 hx hZ hown e723 (y := mN10) (oW hw 66 rfl) (oW hw 67 rfl) (oW hw 68 rfl) (oW hw 69 rfl) (by decide) (W := 0) (own_rm19 l Z a0 hw [] ob_11 ob_286 kk_12 kk_287 in_1 h0 n0 Z0 O0 I725 I730) (by decide) (by decide) (by decide) (by decide) (g := (mkF m 44 #[rv ob_10, rv ob_285, rv ob_285] [(.ref ob_286), (.ref ob_11)])) rfl (by rw [hml]; rfl) (argsL := [(.ref ob_11), (.ref ob_286)]) (rest := []) rfl (lenOf own_pd10 rfl) rfl (by show 2 * 0 + _ ≤ _; exact Nat.le_of_eq rfl) (hb hby dd10_44)
  refine oS s739 ?_
  obtain ⟨rfl, N740, K741⟩ := q738
  have N742 := Fr.app N0 N740
  have e743 := e737.trans K741
  show own_G p e below (T732.setTop (mkF m 47 #[rv ob_10, rv ob_285, rv ob_285] [(.int 0)])) _
  refine oS (fun _ => XS.ifYes X736.here hx rfl (pc0 := 47) (pc' := 54) rfl (hb hby dd10_47) rfl (XT.i0_eq_t (by decide)) (by decide) (by decide)) ?_
  show own_G p e below (T732.setTop (mkF m 54 #[rv ob_10, rv ob_285, rv ob_285] [])) _
  refine oS (fun _ => XS.iconst X736.here hx rfl (hb hby dd10_54) ) ?_
  exact own_retN X736 hx (t := .boolean) Bd.notSynchronized Bd.returns (by simp) (hb hby dd10_55) (by decide) e743 (by decide) (by decide) (⟨rfl, N742, rfl⟩)
theorem dd13_20 : decode prog_11_method_4_code 20 = .ok (.invokevirtual 34, 3) := by decide +kernel
theorem dd13_23 : decode prog_11_method_4_code 23 = .ok (.ifCond .eq 7, 3) := by decide +kernel
theorem dd13_30 : decode prog_11_method_4_code 30 = .ok (.iconst 0, 1) := by decide +kernel
theorem dd13_31 : decode prog_11_method_4_code 31 = .ok (.ireturn, 1) := by decide +kernel
def own_Q17 (Z : State) (ob_455 : Nat) (ob_9 : Nat) (ob_10 : Nat) (ob_285 : Nat) (in_7 : Int32) (ob_11 : Nat) (ob_286 : Nat) (kk_12 : ClassId) (kk_287 : ClassId) (in_1 : Int32) (h0 : Heap) (n0 : Nat) (v : Option Value) (h : Heap) (L : List Loc) : Prop := (v = some (.int 0) ∧ Fr n0 L ∧ h = h0)
theorem own_pn13 : plainFor mN13 = true := by decide +kernel
set_option maxRecDepth 65536 in
set_option maxHeartbeats 40000000 in
theorem own_rm17 (l : Launch) (Z : State) (a0 : Array Value) (hw : ∀ d ∈ tables_1, d.before a0 Z = true) (ws : List Jvm.Cond) (ob_455 : Nat) (ob_9 : Nat) (ob_10 : Nat) (ob_285 : Nat) (in_7 : Int32) (ob_11 : Nat) (ob_286 : Nat) (kk_12 : ClassId) (kk_287 : ClassId) (in_1 : Int32) (h0 : Heap) (n0 : Nat) (Z0 : n0 ≤ h0.size) (O0 : Old Z n0 h0) (I641 : Exa Z Z.heap ob_9 cN4) (I648 : Fld Z Z.heap ob_9 cN4 "name" cN5 (.ref ob_10)) (I654 : Fld Z h0 ob_455 cN4 "name" cN5 (.ref ob_285)) (I660 : Exa Z Z.heap ob_10 cN1) (I665 : n0 ≤ ob_285) (I667 : Exa Z h0 ob_285 cN1) (I668 : Sta Z Z.heap cN1 "COMPACT_STRINGS" "Z" (.int in_7)) (I669 : ¬ (in_7 = 0)) (I671 : Fld Z Z.heap ob_10 cN1 "coder" "B" (.int 0)) (I673 : Fld Z h0 ob_285 cN1 "coder" "B" (.int 0)) (I675 : Fld Z Z.heap ob_10 cN1 "value" "[B" (.ref ob_11)) (I677 : Fld Z h0 ob_285 cN1 "value" "[B" (.ref ob_286)) (I679 : Arv Z Z.heap ob_11 kk_12 FieldType.byte 0 [] (.int 0)) (I729 : Arv Z h0 ob_286 kk_287 .byte 1 [(.int ((in_1 &&& 255).toInt8.toInt32))] (.int 0)) :
    own_Met l Z h0 mN13 prog_11_method_4_code 3 (Option.some FieldType.boolean) ws ({ frames := 2, cells := 0, slots := 0, locals := 28 } : Room) #[(.ref ob_455), (.ref ob_9)] (own_Q17 Z ob_455 ob_9 ob_10 ob_285 in_7 ob_11 ob_286 kk_12 kk_287 in_1 h0 n0) 0 0 := by
  refine MetFree.of_bodySF own_pn13 hisR ?_
  intro p e s m args below meth c s₁ Bd hml0 hP hK
  obtain ⟨rfl, hZ, hh⟩ := hP
  have hx := Bd.exec
  have hby := Bd.bytes
  have hml : c.maxLocals = 3 := hml0
  have hown : s.vm.findClass cN4 = some m.cls := findClass_of_methodNamed Bd.named
  have hnm := (name_of_methodNamed Bd.named Bd.method).1
  have X0 : Stand p l e ({ frames := 2, cells := 0, slots := 0, locals := 28 } : Room) s m #[(.ref ob_455), (.ref ob_9)] below meth c s₁ [] 0 0 := Stand.of_body Bd
  have e0 : s₁.heap = h0 := by rw [← hh, Bd.state]; rfl
  have N0 := Fr.nil n0
  show own_G p e below (s₁.setTop (entryFrame m #[(.ref ob_455), (.ref ob_9)] 3)) (own_P s (own_Q17 Z ob_455 ob_9 ob_10 ob_285 in_7 ob_11 ob_286 kk_12 kk_287 in_1 h0 n0) 0 0)
  refine own_cast (own_ef8 m ob_455 ob_9) ?_
  show own_G p e below (s₁.setTop (mkF m 0 #[rv ob_455, rv ob_9, .unset] [])) _
  refine oS (fun _ => XS.aloadN X0.here hx rfl (hb hby dd13_0) rfl rfl) ?_
  have F642 : Exa Z h0 ob_9 cN4 := Exa.ext O0.2 I641
  obtain ⟨T636, X637, e638, s639⟩ := instY X0 hx hZ hown (oW hw 52 rfl) e0 (Ins.self F642) (g := (mkF m 1 #[rv ob_455, rv ob_9, .unset] [(.ref ob_9)])) rfl rfl (hb hby dd13_1)
  refine oS s639 ?_
  show own_G p e below (T636.setTop (mkF m 4 #[rv ob_455, rv ob_9, .unset] [(.int 1)])) _
  refine oS (fun _ => XS.ifNo X637.here hx rfl (hb hby dd13_4) rfl (XT.i0_eq_f (by decide))) ?_
  show own_G p e below (T636.setTop (mkF m 7 #[rv ob_455, rv ob_9, .unset] [])) _
  refine oS (fun _ => XS.aloadN X637.here hx rfl (hb hby dd13_7) rfl rfl) ?_
  obtain ⟨T643, X644, e645, s646⟩ := castY X637 hx hZ hown (oW hw 52 rfl) e638 (Ins.self F642) (g := (mkF m 8 #[rv ob_455, rv ob_9, .unset] [(.ref ob_9)])) rfl rfl (hb hby dd13_8)
  refine oS s646 ?_
  show own_G p e below (T643.setTop (mkF m 11 #[rv ob_455, rv ob_9, .unset] [(.ref ob_9)])) _
  refine oS (fun _ => XS.astoreN X644.here hx rfl (hb hby dd13_11) rfl rfl (l' := #[rv ob_455, rv ob_9, rv ob_9]) rfl) ?_
  refine oS (fun _ => XS.aloadN X644.here hx rfl (hb hby dd13_12) rfl rfl) ?_
  have F649 : Fld Z h0 ob_9 cN4 "name" cN5 (.ref ob_10) := Fld.ext O0.2 I648
  obtain ⟨T650, X651, e652, s653⟩ := getF X644 hx hZ hown (host := "") (Or.inl (oW hw 58 rfl)) Via.refl e645 F649 (g := (mkF m 13 #[rv ob_455, rv ob_9, rv ob_9] [(.ref ob_9)])) rfl rfl (hb hby dd13_13)
  refine oS s653 ?_
  show own_G p e below (T650.setTop (mkF m 16 #[rv ob_455, rv ob_9, rv ob_9] [(.ref ob_10)])) _
  refine oS (fun _ => XS.aloadN X651.here hx rfl (hb hby dd13_16) rfl rfl) ?_
  obtain ⟨T655, X656, e657, s658⟩ := getF X651 hx hZ hown (host := "") (Or.inl (oW hw 58 rfl)) Via.refl e652 I654 (g := (mkF m 17 #[rv ob_455, rv ob_9, rv ob_9] [(.ref ob_455), (.ref ob_10)])) rfl rfl (hb hby dd13_17)
  refine oS s658 ?_
  show own_G p e below (T655.setTop (mkF m 20 #[rv ob_455, rv ob_9, rv ob_9] [(.ref ob_285), (.ref ob_10)])) _
  have y661 : @LT.lt Nat instLTNat ob_10 Z.heap.size := I660.lt
  have y662 : Z.heap.size = n0 := O0.1
  have y663 := I665
  have N666 : @Ne Nat ob_10 ob_285 := by omega
  have F672 : Fld Z h0 ob_10 cN1 "coder" "B" (.int 0) := Fld.ext O0.2 I671
  have F676 : Fld Z h0 ob_10 cN1 "value" "[B" (.ref ob_11) := Fld.ext O0.2 I675
  have F680 : Arv Z h0 ob_11 kk_12 FieldType.byte 0 [] (.int 0) := I679.ext O0.2
  have F752 : Exa Z h0 ob_10 cN1 := Exa.ext O0.2 I660
  obtain ⟨T744, h745, v746, L747, X748, e749, q750, s751⟩ := own_callV X656 hx hZ hown e657 (y := mN11) (z := mN11) (C := cN1) (b := ob_10) (oW hw 83 rfl) (oW hw 61 rfl) (notFace_of_selects (args := #[]) (mvT hZ (oW hw 63 rfl))) (oW hw 63 rfl) (oW hw 62 rfl) (oW hw 8 rfl) (oW hw 64 rfl) (by decide) F752 (W := 0) (own_rm18 l Z a0 hw [] ob_10 ob_285 in_7 ob_11 ob_286 kk_12 kk_287 in_1 h0 n0 Z0 O0 I660 I665 I667 I668 I669 I671 I673 I675 I677 I679 I729) (by decide) (by decide) (by decide) (by decide) (g := (mkF m 20 #[rv ob_455, rv ob_9, rv ob_9] [(.ref ob_285), (.ref ob_10)])) rfl (by rw [hml]; rfl) (argsL := [(.ref ob_285)]) (rest := []) rfl (lenOf own_pd11 rfl) rfl (by show 2 * 0 + _ ≤ _; exact Nat.le_of_eq rfl) (hb hby dd13_20)
  refine oS s751 ?_
  obtain ⟨rfl, N753, K754⟩ := q750
  have N755 := Fr.app N0 N753
  have e756 := e749.trans K754
  show own_G p e below (T744.setTop (mkF m 23 #[rv ob_455, rv ob_9, rv ob_9] [(.int 0)])) _
  refine oS (fun _ => XS.ifYes X748.here hx rfl (pc0 := 23) (pc' := 30) rfl (hb hby dd13_23) rfl (XT.i0_eq_t (by decide)) (by decide) (by decide)) ?_
  show own_G p e below (T744.setTop (mkF m 30 #[rv ob_455, rv ob_9, rv ob_9] [])) _
  refine oS (fun _ => XS.iconst X748.here hx rfl (hb hby dd13_30) ) ?_
  exact own_retN X748 hx (t := .boolean) Bd.notSynchronized Bd.returns (by simp) (hb hby dd13_31) (by decide) e756 (by decide) (by decide) (⟨rfl, N755, rfl⟩)
theorem dd13_26 : decode prog_11_method_4_code 26 = .ok (.iconst 1, 1) := by decide +kernel
theorem dd13_27 : decode prog_11_method_4_code 27 = .ok (.goto 4, 3) := by decide +kernel
def own_Q20 (Z : State) (ob_455 : Nat) (ob_479 : Nat) (ob_314 : Nat) (ob_285 : Nat) (in_7 : Int32) (ob_315 : Nat) (ob_286 : Nat) (kk_316 : ClassId) (in_1 : Int32) (kk_287 : ClassId) (h0 : Heap) (n0 : Nat) (v : Option Value) (h : Heap) (L : List Loc) : Prop := (v = some (.int 1) ∧ Fr n0 L ∧ h = h0)
set_option maxRecDepth 65536 in
set_option maxHeartbeats 40000000 in
theorem own_rm20 (l : Launch) (Z : State) (a0 : Array Value) (hw : ∀ d ∈ tables_1, d.before a0 Z = true) (ws : List Jvm.Cond) (ob_455 : Nat) (ob_479 : Nat) (ob_314 : Nat) (ob_285 : Nat) (in_7 : Int32) (ob_315 : Nat) (ob_286 : Nat) (kk_316 : ClassId) (in_1 : Int32) (kk_287 : ClassId) (h0 : Heap) (n0 : Nat) (Z0 : n0 ≤ h0.size) (O0 : Old Z n0 h0) (I774 : Exa Z h0 ob_479 cN4) (I779 : Fld Z h0 ob_479 cN4 "name" cN5 (.ref ob_314)) (I784 : Fld Z h0 ob_455 cN4 "name" cN5 (.ref ob_285)) (I789 : @Ne Nat ob_314 ob_285) (I790 : Exa Z h0 ob_285 cN1) (I791 : Sta Z Z.heap cN1 "COMPACT_STRINGS" "Z" (.int in_7)) (I792 : ¬ (in_7 = 0)) (I793 : Fld Z h0 ob_314 cN1 "coder" "B" (.int 0)) (I794 : Fld Z h0 ob_285 cN1 "coder" "B" (.int 0)) (I795 : Fld Z h0 ob_314 cN1 "value" "[B" (.ref ob_315)) (I796 : Fld Z h0 ob_285 cN1 "value" "[B" (.ref ob_286)) (I797 : Arv Z h0 ob_315 kk_316 .byte 1 [(.int ((in_1 &&& 255).toInt8.toInt32))] (.int 0)) (I798 : Arv Z h0 ob_286 kk_287 .byte 1 [(.int ((in_1 &&& 255).toInt8.toInt32))] (.int 0)) (I807 : Exa Z h0 ob_314 cN1) :
    own_Met l Z h0 mN13 prog_11_method_4_code 3 (Option.some FieldType.boolean) ws ({ frames := 2, cells := 0, slots := 0, locals := 28 } : Room) #[(.ref ob_455), (.ref ob_479)] (own_Q20 Z ob_455 ob_479 ob_314 ob_285 in_7 ob_315 ob_286 kk_316 in_1 kk_287 h0 n0) 0 0 := by
  refine MetFree.of_bodySF own_pn13 hisR ?_
  intro p e s m args below meth c s₁ Bd hml0 hP hK
  obtain ⟨rfl, hZ, hh⟩ := hP
  have hx := Bd.exec
  have hby := Bd.bytes
  have hml : c.maxLocals = 3 := hml0
  have hown : s.vm.findClass cN4 = some m.cls := findClass_of_methodNamed Bd.named
  have hnm := (name_of_methodNamed Bd.named Bd.method).1
  have X0 : Stand p l e ({ frames := 2, cells := 0, slots := 0, locals := 28 } : Room) s m #[(.ref ob_455), (.ref ob_479)] below meth c s₁ [] 0 0 := Stand.of_body Bd
  have e0 : s₁.heap = h0 := by rw [← hh, Bd.state]; rfl
  have N0 := Fr.nil n0
  show own_G p e below (s₁.setTop (entryFrame m #[(.ref ob_455), (.ref ob_479)] 3)) (own_P s (own_Q20 Z ob_455 ob_479 ob_314 ob_285 in_7 ob_315 ob_286 kk_316 in_1 kk_287 h0 n0) 0 0)
  refine own_cast (own_ef8 m ob_455 ob_479) ?_
  show own_G p e below (s₁.setTop (mkF m 0 #[rv ob_455, rv ob_479, .unset] [])) _
  refine oS (fun _ => XS.aloadN X0.here hx rfl (hb hby dd13_0) rfl rfl) ?_
  obtain ⟨T770, X771, e772, s773⟩ := instY X0 hx hZ hown (oW hw 52 rfl) e0 (Ins.self I774) (g := (mkF m 1 #[rv ob_455, rv ob_479, .unset] [(.ref ob_479)])) rfl rfl (hb hby dd13_1)
  refine oS s773 ?_
  show own_G p e below (T770.setTop (mkF m 4 #[rv ob_455, rv ob_479, .unset] [(.int 1)])) _
  refine oS (fun _ => XS.ifNo X771.here hx rfl (hb hby dd13_4) rfl (XT.i0_eq_f (by decide))) ?_
  show own_G p e below (T770.setTop (mkF m 7 #[rv ob_455, rv ob_479, .unset] [])) _
  refine oS (fun _ => XS.aloadN X771.here hx rfl (hb hby dd13_7) rfl rfl) ?_
  obtain ⟨T775, X776, e777, s778⟩ := castY X771 hx hZ hown (oW hw 52 rfl) e772 (Ins.self I774) (g := (mkF m 8 #[rv ob_455, rv ob_479, .unset] [(.ref ob_479)])) rfl rfl (hb hby dd13_8)
  refine oS s778 ?_
  show own_G p e below (T775.setTop (mkF m 11 #[rv ob_455, rv ob_479, .unset] [(.ref ob_479)])) _
  refine oS (fun _ => XS.astoreN X776.here hx rfl (hb hby dd13_11) rfl rfl (l' := #[rv ob_455, rv ob_479, rv ob_479]) rfl) ?_
  refine oS (fun _ => XS.aloadN X776.here hx rfl (hb hby dd13_12) rfl rfl) ?_
  obtain ⟨T780, X781, e782, s783⟩ := getF X776 hx hZ hown (host := "") (Or.inl (oW hw 58 rfl)) Via.refl e777 I779 (g := (mkF m 13 #[rv ob_455, rv ob_479, rv ob_479] [(.ref ob_479)])) rfl rfl (hb hby dd13_13)
  refine oS s783 ?_
  show own_G p e below (T780.setTop (mkF m 16 #[rv ob_455, rv ob_479, rv ob_479] [(.ref ob_314)])) _
  refine oS (fun _ => XS.aloadN X781.here hx rfl (hb hby dd13_16) rfl rfl) ?_
  obtain ⟨T785, X786, e787, s788⟩ := getF X781 hx hZ hown (host := "") (Or.inl (oW hw 58 rfl)) Via.refl e782 I784 (g := (mkF m 17 #[rv ob_455, rv ob_479, rv ob_479] [(.ref ob_455), (.ref ob_314)])) rfl rfl (hb hby dd13_17)
  refine oS s788 ?_
  show own_G p e below (T785.setTop (mkF m 20 #[rv ob_455, rv ob_479, rv ob_479] [(.ref ob_285), (.ref ob_314)])) _
  obtain ⟨T799, h800, v801, L802, X803, e804, q805, s806⟩ := own_callV X786 hx hZ hown e787 (y := mN11) (z := mN11) (C := cN1) (b := ob_314) (oW hw 83 rfl) (oW hw 61 rfl) (notFace_of_selects (args := #[]) (mvT hZ (oW hw 63 rfl))) (oW hw 63 rfl) (oW hw 62 rfl) (oW hw 8 rfl) (oW hw 64 rfl) (by decide) I807 (W := 0) (own_rm13 l Z a0 hw [] ob_314 ob_285 in_7 ob_315 ob_286 kk_316 in_1 kk_287 h0 n0 Z0 O0 I789 I790 I791 I792 I793 I794 I795 I796 I797 I798) (by decide) (by decide) (by decide) (by decide) (g := (mkF m 20 #[rv ob_455, rv ob_479, rv ob_479] [(.ref ob_285), (.ref ob_314)])) rfl (by rw [hml]; rfl) (argsL := [(.ref ob_285)]) (rest := []) rfl (lenOf own_pd11 rfl) rfl (by show 2 * 0 + _ ≤ _; exact Nat.le_of_eq rfl) (hb hby dd13_20)
  refine oS s806 ?_
  obtain ⟨rfl, N808, K809⟩ := q805
  have N810 := Fr.app N0 N808
  have e811 := e804.trans K809
  show own_G p e below (T799.setTop (mkF m 23 #[rv ob_455, rv ob_479, rv ob_479] [(.int 1)])) _
  refine oS (fun _ => XS.ifNo X803.here hx rfl (hb hby dd13_23) rfl (XT.i0_eq_f (by decide))) ?_
  show own_G p e below (T799.setTop (mkF m 26 #[rv ob_455, rv ob_479, rv ob_479] [])) _
  refine oS (fun _ => XS.iconst X803.here hx rfl (hb hby dd13_26) ) ?_
  refine oS (fun _ => XS.goto X803.here hx rfl (pc0 := 27) (pc' := 31) rfl (hb hby dd13_27) (by decide) (by decide)) ?_
  show own_G p e below (T799.setTop (mkF m 31 #[rv ob_455, rv ob_479, rv ob_479] [(.int 1)])) _
  exact own_retN X803 hx (t := .boolean) Bd.notSynchronized Bd.returns (by simp) (hb hby dd13_31) (by decide) e811 (by decide) (by decide) (⟨rfl, N810, rfl⟩)
theorem dd14_0 : decode prog_11_method_5_code 0 = .ok (.aload_n 0, 1) := by decide +kernel
theorem dd14_1 : decode prog_11_method_5_code 1 = .ok (.getfield 7, 3) := by decide +kernel
theorem own_ef9 (m : MethodId) (x0 : Addr) : entryFrame m #[(.ref x0)] 2 = mkF m 0 #[.val (.ref x0), .unset] [] := by first | (simp [entryFrame, mkF, argsToLocals, Value.category]; done) | rfl
theorem dd15_0 : decode jdk_42_method_78_code 0 = .ok (.aload_n 0, 1) := by decide +kernel
theorem dd15_1 : decode jdk_42_method_78_code 1 = .ok (.getfield 19, 3) := by decide +kernel
theorem dd15_4 : decode jdk_42_method_78_code 4 = .ok (.istore_n 1, 1) := by decide +kernel
theorem dd15_5 : decode jdk_42_method_78_code 5 = .ok (.iload_n 1, 1) := by decide +kernel
theorem dd15_6 : decode jdk_42_method_78_code 6 = .ok (.ifCond .ne 52, 3) := by decide +kernel
theorem dd15_9 : decode jdk_42_method_78_code 9 = .ok (.aload_n 0, 1) := by decide +kernel
theorem dd15_10 : decode jdk_42_method_78_code 10 = .ok (.getfield 23, 3) := by decide +kernel
theorem dd15_13 : decode jdk_42_method_78_code 13 = .ok (.ifCond .ne 45, 3) := by decide +kernel
theorem dd15_16 : decode jdk_42_method_78_code 16 = .ok (.aload_n 0, 1) := by decide +kernel
theorem dd16_0 : decode jdk_42_method_154_code 0 = .ok (.getstatic 38, 3) := by decide +kernel
theorem dd16_3 : decode jdk_42_method_154_code 3 = .ok (.ifCond .eq 14, 3) := by decide +kernel
theorem dd16_6 : decode jdk_42_method_154_code 6 = .ok (.aload_n 0, 1) := by decide +kernel
theorem dd16_7 : decode jdk_42_method_154_code 7 = .ok (.getfield 15, 3) := by decide +kernel
theorem dd16_10 : decode jdk_42_method_154_code 10 = .ok (.ifCond .ne 7, 3) := by decide +kernel
theorem dd16_13 : decode jdk_42_method_154_code 13 = .ok (.iconst 1, 1) := by decide +kernel
theorem dd16_14 : decode jdk_42_method_154_code 14 = .ok (.goto 4, 3) := by decide +kernel
theorem dd16_18 : decode jdk_42_method_154_code 18 = .ok (.ireturn, 1) := by decide +kernel
def own_Q23 (Z : State) (ob_285 : Nat) (in_7 : Int32) (h0 : Heap) (n0 : Nat) (v : Option Value) (h : Heap) (L : List Loc) : Prop := (v = some (.int 1) ∧ Fr n0 L ∧ h = h0)
theorem own_pn14 : plainFor mN14 = true := by decide +kernel
set_option maxRecDepth 65536 in
set_option maxHeartbeats 40000000 in
theorem own_rm23 (l : Launch) (Z : State) (a0 : Array Value) (hw : ∀ d ∈ tables_1, d.before a0 Z = true) (ws : List Jvm.Cond) (ob_285 : Nat) (in_7 : Int32) (h0 : Heap) (n0 : Nat) (Z0 : n0 ≤ h0.size) (O0 : Old Z n0 h0) (I850 : Sta Z Z.heap cN1 "COMPACT_STRINGS" "Z" (.int in_7)) (I858 : ¬ (in_7 = 0)) (I861 : Fld Z h0 ob_285 cN1 "coder" "B" (.int 0)) :
    own_Met l Z h0 mN14 jdk_42_method_154_code 1 (Option.some FieldType.boolean) ws ({ frames := 0, cells := 0, slots := 0, locals := 0 } : Room) #[(.ref ob_285)] (own_Q23 Z ob_285 in_7 h0 n0) 0 0 := by
  refine MetFree.of_bodySF own_pn14 hisR ?_
  intro p e s m args below meth c s₁ Bd hml0 hP hK
  obtain ⟨rfl, hZ, hh⟩ := hP
  have hx := Bd.exec
  have hby := Bd.bytes
  have hml : c.maxLocals = 1 := hml0
  have hown : s.vm.findClass cN1 = some m.cls := findClass_of_methodNamed Bd.named
  have hnm := (name_of_methodNamed Bd.named Bd.method).1
  have X0 : Stand p l e ({ frames := 0, cells := 0, slots := 0, locals := 0 } : Room) s m #[(.ref ob_285)] below meth c s₁ [] 0 0 := Stand.of_body Bd
  have e0 : s₁.heap = h0 := by rw [← hh, Bd.state]; rfl
  have N0 := Fr.nil n0
  show own_G p e below (s₁.setTop (entryFrame m #[(.ref ob_285)] 1)) (own_P s (own_Q23 Z ob_285 in_7 h0 n0) 0 0)
  refine own_cast (own_ef7 m ob_285) ?_
  show own_G p e below (s₁.setTop (mkF m 0 #[rv ob_285] [])) _
  have F851 : Sta Z h0 cN1 "COMPACT_STRINGS" "Z" (.int in_7) := Sta.ext O0.2 I850
  obtain ⟨T852, X853, e854, s855⟩ := getS X0 hx hZ hown (host := "") (oW hw 19 rfl) Via.refl e0 F851 (g := (mkF m 0 #[rv ob_285] [])) rfl (hb hby dd16_0)
  refine oS s855 ?_
  show own_G p e below (T852.setTop (mkF m 3 #[rv ob_285] [(.int in_7)])) _
  refine oS (fun _ => XS.ifNo X853.here hx rfl (hb hby dd16_3) rfl (XT.i0_eq_f I858)) ?_
  show own_G p e below (T852.setTop (mkF m 6 #[rv ob_285] [])) _
  refine oS (fun _ => XS.aloadN X853.here hx rfl (hb hby dd16_6) rfl rfl) ?_
  obtain ⟨T862, X863, e864, s865⟩ := getF X853 hx hZ hown (host := "") (Or.inl (oW hw 31 rfl)) Via.refl e854 I861 (g := (mkF m 7 #[rv ob_285] [(.ref ob_285)])) rfl rfl (hb hby dd16_7)
  refine oS s865 ?_
  show own_G p e below (T862.setTop (mkF m 10 #[rv ob_285] [(.int 0)])) _
  refine oS (fun _ => XS.ifNo X863.here hx rfl (hb hby dd16_10) rfl (XT.i0_ne_f (by decide))) ?_
  show own_G p e below (T862.setTop (mkF m 13 #[rv ob_285] [])) _
  refine oS (fun _ => XS.iconst X863.here hx rfl (hb hby dd16_13) ) ?_
  refine oS (fun _ => XS.goto X863.here hx rfl (pc0 := 14) (pc' := 18) rfl (hb hby dd16_14) (by decide) (by decide)) ?_
  show own_G p e below (T862.setTop (mkF m 18 #[rv ob_285] [(.int 1)])) _
  exact own_retN X863 hx (t := .boolean) Bd.notSynchronized Bd.returns (by simp) (hb hby dd16_18) (by decide) e864 (by decide) (by decide) (⟨rfl, N0, rfl⟩)
theorem dd15_17 : decode jdk_42_method_78_code 17 = .ok (.invokevirtual 492, 3) := by decide +kernel
theorem dd15_20 : decode jdk_42_method_78_code 20 = .ok (.ifCond .eq 13, 3) := by decide +kernel
theorem dd15_23 : decode jdk_42_method_78_code 23 = .ok (.aload_n 0, 1) := by decide +kernel
theorem dd15_24 : decode jdk_42_method_78_code 24 = .ok (.getfield 9, 3) := by decide +kernel
theorem dd17_0 : decode jdk_43_method_21_code 0 = .ok (.aload_n 0, 1) := by decide +kernel
theorem dd17_1 : decode jdk_43_method_21_code 1 = .ok (.arraylength, 1) := by decide +kernel
theorem dd17_2 : decode jdk_43_method_21_code 2 = .ok (.lookupswitch 40 #[(0, 26), (1, 30)], 26) := by decide +kernel
theorem dd17_32 : decode jdk_43_method_21_code 32 = .ok (.aload_n 0, 1) := by decide +kernel
theorem dd17_33 : decode jdk_43_method_21_code 33 = .ok (.iconst 0, 1) := by decide +kernel
theorem dd17_34 : decode jdk_43_method_21_code 34 = .ok (.baload, 1) := by decide +kernel
theorem dd17_35 : decode jdk_43_method_21_code 35 = .ok (.sipush 255, 3) := by decide +kernel
theorem dd17_38 : decode jdk_43_method_21_code 38 = .ok (.iand, 1) := by decide +kernel
theorem dd17_39 : decode jdk_43_method_21_code 39 = .ok (.goto 12, 3) := by decide +kernel
theorem dd17_51 : decode jdk_43_method_21_code 51 = .ok (.ireturn, 1) := by decide +kernel
def own_Q24 (Z : State) (ob_286 : Nat) (kk_287 : ClassId) (in_1 : Int32) (h0 : Heap) (n0 : Nat) (v : Option Value) (h : Heap) (L : List Loc) : Prop := (v = some (.int (((in_1 &&& 255).toInt8.toInt32) &&& 255)) ∧ Fr n0 L ∧ h = h0)
theorem own_pn15 : plainFor mN15 = true := by decide +kernel
set_option maxRecDepth 65536 in
set_option maxHeartbeats 40000000 in
theorem own_rm24 (l : Launch) (Z : State) (a0 : Array Value) (hw : ∀ d ∈ tables_1, d.before a0 Z = true) (ws : List Jvm.Cond) (ob_286 : Nat) (kk_287 : ClassId) (in_1 : Int32) (h0 : Heap) (n0 : Nat) (Z0 : n0 ≤ h0.size) (O0 : Old Z n0 h0) (I888 : Arv Z h0 ob_286 kk_287 .byte 1 [(.int ((in_1 &&& 255).toInt8.toInt32))] (.int 0)) :
    own_Met l Z h0 mN15 jdk_43_method_21_code 1 (Option.some FieldType.int) ws ({ frames := 0, cells := 0, slots := 0, locals := 0 } : Room) #[(.ref ob_286)] (own_Q24 Z ob_286 kk_287 in_1 h0 n0) 0 0 := by
  refine MetFree.of_bodySF own_pn15 hisR ?_
  intro p e s m args below meth c s₁ Bd hml0 hP hK
  obtain ⟨rfl, hZ, hh⟩ := hP
  have hx := Bd.exec
  have hby := Bd.bytes
  have hml : c.maxLocals = 1 := hml0
  have hown : s.vm.findClass cN6 = some m.cls := findClass_of_methodNamed Bd.named
  have hnm := (name_of_methodNamed Bd.named Bd.method).1
  have X0 : Stand p l e ({ frames := 0, cells := 0, slots := 0, locals := 0 } : Room) s m #[(.ref ob_286)] below meth c s₁ [] 0 0 := Stand.of_body Bd
  have e0 : s₁.heap = h0 := by rw [← hh, Bd.state]; rfl
  have N0 := Fr.nil n0
  show own_G p e below (s₁.setTop (entryFrame m #[(.ref ob_286)] 1)) (own_P s (own_Q24 Z ob_286 kk_287 in_1 h0 n0) 0 0)
  refine own_cast (own_ef7 m ob_286) ?_
  show own_G p e below (s₁.setTop (mkF m 0 #[rv ob_286] [])) _
  refine oS (fun _ => XS.aloadN X0.here hx rfl (hb hby dd17_0) rfl rfl) ?_
  refine oS (own_len X0 hx hZ e0 I888 rfl rfl (hb hby dd17_1)) ?_
  show own_G p e below (s₁.setTop (mkF m 2 #[rv ob_286] [(.int 1)])) _
  have u889 : ∀ t, Steps p.tables e below (s₁.setTop (mkF m 32 #[rv ob_286] [])) t → Steps p.tables e below (s₁.setTop (mkF m 2 #[rv ob_286] [(.int 1)])) t := fun t hr => own_lsw X0 hx (g := (mkF m 2 #[rv ob_286] [(.int 1)])) rfl (k := 1) rfl (hb hby dd17_2) (by decide +kernel) (a := 1) (off := 30) (by decide +kernel) (pc0 := 2) (pc' := 32) rfl (by decide) (by decide) t hr
  refine oS u889 ?_
  refine oS (fun _ => XS.aloadN X0.here hx rfl (hb hby dd17_32) rfl rfl) ?_
  refine oS (fun _ => XS.iconst X0.here hx rfl (hb hby dd17_33) ) ?_
  refine oS (own_baload X0 hx hZ e0 I888 (by decide) (v := (.int ((in_1 &&& 255).toInt8.toInt32))) rfl rfl rfl (hb hby dd17_34)) ?_
  show own_G p e below (s₁.setTop (mkF m 35 #[rv ob_286] [(.int ((in_1 &&& 255).toInt8.toInt32))])) _
  refine oS (fun _ => XS.sipush X0.here hx rfl (hb hby dd17_35) ) ?_
  refine oS (fun _ => XS.iand X0.here hx rfl (hb hby dd17_38) rfl) ?_
  refine oS (fun _ => XS.goto X0.here hx rfl (pc0 := 39) (pc' := 51) rfl (hb hby dd17_39) (by decide) (by decide)) ?_
  show own_G p e below (s₁.setTop (mkF m 51 #[rv ob_286] [(.int (((in_1 &&& 255).toInt8.toInt32) &&& 255))])) _
  exact own_retI X0 hx Bd.notSynchronized Bd.returns (hb hby dd17_51) e0 (by decide) (by decide) (⟨rfl, N0, rfl⟩)
theorem own_pd13 : parseMethodDescriptor "([B)I" = some ⟨[(.array .byte)], (some .int)⟩ := by decide +kernel
theorem dd15_27 : decode jdk_42_method_78_code 27 = .ok (.invokestatic 628, 3) := by decide +kernel
theorem dd15_30 : decode jdk_42_method_78_code 30 = .ok (.goto 10, 3) := by decide +kernel
theorem dd15_40 : decode jdk_42_method_78_code 40 = .ok (.istore_n 1, 1) := by decide +kernel
theorem dd15_41 : decode jdk_42_method_78_code 41 = .ok (.iload_n 1, 1) := by decide +kernel
theorem dd15_42 : decode jdk_42_method_78_code 42 = .ok (.ifCond .ne 11, 3) := by decide +kernel
theorem dd15_45 : decode jdk_42_method_78_code 45 = .ok (.aload_n 0, 1) := by decide +kernel
theorem dd15_46 : decode jdk_42_method_78_code 46 = .ok (.iconst 1, 1) := by decide +kernel
theorem dd15_47 : decode jdk_42_method_78_code 47 = .ok (.putfield 23, 3) := by decide +kernel
theorem dd15_50 : decode jdk_42_method_78_code 50 = .ok (.goto 8, 3) := by decide +kernel
theorem dd15_58 : decode jdk_42_method_78_code 58 = .ok (.iload_n 1, 1) := by decide +kernel
theorem dd15_59 : decode jdk_42_method_78_code 59 = .ok (.ireturn, 1) := by decide +kernel
theorem dd15_53 : decode jdk_42_method_78_code 53 = .ok (.aload_n 0, 1) := by decide +kernel
theorem dd15_54 : decode jdk_42_method_78_code 54 = .ok (.iload_n 1, 1) := by decide +kernel
theorem dd15_55 : decode jdk_42_method_78_code 55 = .ok (.putfield 19, 3) := by decide +kernel
def own_Q22 (Z : State) (ob_285 : Nat) (in_7 : Int32) (ob_286 : Nat) (kk_287 : ClassId) (in_1 : Int32) (h0 : Heap) (n0 : Nat) (v : Option Value) (h : Heap) (L : List Loc) : Prop := (v = some (.int (((in_1 &&& 255).toInt8.toInt32) &&& 255)) ∧ Fr n0 L ∧ Keep h0 h [ob_285] ∧ Fld Z h ob_285 cN1 "coder" "B" (.int 0) ∧ Exa Z h ob_285 cN1 ∧ Fld Z h ob_285 cN1 "value" "[B" (.ref ob_286))
theorem own_pn16 : plainFor mN16 = true := by decide +kernel
set_option maxRecDepth 65536 in
set_option maxHeartbeats 40000000 in
theorem own_rm22 (l : Launch) (Z : State) (a0 : Array Value) (hw : ∀ d ∈ tables_1, d.before a0 Z = true) (ws : List Jvm.Cond) (ob_285 : Nat) (in_7 : Int32) (ob_286 : Nat) (kk_287 : ClassId) (in_1 : Int32) (h0 : Heap) (n0 : Nat) (Z0 : n0 ≤ h0.size) (O0 : Old Z n0 h0) (I834 : Fld Z h0 ob_285 cN1 "hash" "I" (.int 0)) (I843 : Fld Z h0 ob_285 cN1 "hashIsZero" "Z" (.int 0)) (I849 : Sta Z Z.heap cN1 "COMPACT_STRINGS" "Z" (.int in_7)) (I857 : ¬ (in_7 = 0)) (I860 : Fld Z h0 ob_285 cN1 "coder" "B" (.int 0)) (I875 : Exa Z h0 ob_285 cN1) (I881 : Fld Z h0 ob_285 cN1 "value" "[B" (.ref ob_286)) (I887 : Arv Z h0 ob_286 kk_287 .byte 1 [(.int ((in_1 &&& 255).toInt8.toInt32))] (.int 0)) (I911 : n0 ≤ ob_285) :
    own_Met l Z h0 mN16 jdk_42_method_78_code 2 (Option.some FieldType.int) ws ({ frames := 1, cells := 0, slots := 0, locals := 12 } : Room) #[(.ref ob_285)] (own_Q22 Z ob_285 in_7 ob_286 kk_287 in_1 h0 n0) 0 0 := by
  refine MetFree.of_bodySF own_pn16 hisR ?_
  intro p e s m args below meth c s₁ Bd hml0 hP hK
  obtain ⟨rfl, hZ, hh⟩ := hP
  have hx := Bd.exec
  have hby := Bd.bytes
  have hml : c.maxLocals = 2 := hml0
  have hown : s.vm.findClass cN1 = some m.cls := findClass_of_methodNamed Bd.named
  have hnm := (name_of_methodNamed Bd.named Bd.method).1
  have X0 : Stand p l e ({ frames := 1, cells := 0, slots := 0, locals := 12 } : Room) s m #[(.ref ob_285)] below meth c s₁ [] 0 0 := Stand.of_body Bd
  have e0 : s₁.heap = h0 := by rw [← hh, Bd.state]; rfl
  have N0 := Fr.nil n0
  show own_G p e below (s₁.setTop (entryFrame m #[(.ref ob_285)] 2)) (own_P s (own_Q22 Z ob_285 in_7 ob_286 kk_287 in_1 h0 n0) 0 0)
  refine own_cast (own_ef9 m ob_285) ?_
  show own_G p e below (s₁.setTop (mkF m 0 #[rv ob_285, .unset] [])) _
  refine oS (fun _ => XS.aloadN X0.here hx rfl (hb hby dd15_0) rfl rfl) ?_
  obtain ⟨T835, X836, e837, s838⟩ := getF X0 hx hZ hown (host := "") (Or.inl (oW hw 94 rfl)) Via.refl e0 I834 (g := (mkF m 1 #[rv ob_285, .unset] [(.ref ob_285)])) rfl rfl (hb hby dd15_1)
  refine oS s838 ?_
  show own_G p e below (T835.setTop (mkF m 4 #[rv ob_285, .unset] [(.int 0)])) _
  refine oS (fun _ => XS.istoreN X836.here hx rfl (hb hby dd15_4) rfl (l' := #[rv ob_285, iv 0]) rfl) ?_
  refine oS (fun _ => XS.iloadN X836.here hx rfl (hb hby dd15_5) rfl) ?_
  refine oS (fun _ => XS.ifNo X836.here hx rfl (hb hby dd15_6) rfl (XT.i0_ne_f (by decide))) ?_
  show own_G p e below (T835.setTop (mkF m 9 #[rv ob_285, iv 0] [])) _
  refine oS (fun _ => XS.aloadN X836.here hx rfl (hb hby dd15_9) rfl rfl) ?_
  obtain ⟨T844, X845, e846, s847⟩ := getF X836 hx hZ hown (host := "") (Or.inl (oW hw 96 rfl)) Via.refl e837 I843 (g := (mkF m 10 #[rv ob_285, iv 0] [(.ref ob_285)])) rfl rfl (hb hby dd15_10)
  refine oS s847 ?_
  show own_G p e below (T844.setTop (mkF m 13 #[rv ob_285, iv 0] [(.int 0)])) _
  refine oS (fun _ => XS.ifNo X845.here hx rfl (hb hby dd15_13) rfl (XT.i0_ne_f (by decide))) ?_
  show own_G p e below (T844.setTop (mkF m 16 #[rv ob_285, iv 0] [])) _
  refine oS (fun _ => XS.aloadN X845.here hx rfl (hb hby dd15_16) rfl rfl) ?_
  obtain ⟨T866, h867, v868, L869, X870, e871, q872, s873⟩ := own_callV X845 hx hZ hown e846 (y := mN14) (z := mN14) (C := cN1) (b := ob_285) (oW hw 98 rfl) (oW hw 99 rfl) (notFace_of_selects (args := #[]) (mvT hZ (oW hw 101 rfl))) (oW hw 101 rfl) (oW hw 100 rfl) (oW hw 8 rfl) (oW hw 102 rfl) (by decide) I875 (W := 0) (own_rm23 l Z a0 hw [] ob_285 in_7 h0 n0 Z0 O0 I849 I857 I860) (by decide) (by decide) (by decide) (by decide) (g := (mkF m 17 #[rv ob_285, iv 0] [(.ref ob_285)])) rfl (by rw [hml]; rfl) (argsL := []) (rest := []) rfl (lenOf own_pd7 rfl) rfl (by show 2 * 0 + _ ≤ _; exact Nat.le_of_eq rfl) (hb hby dd15_17)
  refine oS s873 ?_
  obtain ⟨rfl, N876, K877⟩ := q872
  have N878 := Fr.app N0 N876
  have e879 := e871.trans K877
  show own_G p e below (T866.setTop (mkF m 20 #[rv ob_285, iv 0] [(.int 1)])) _
  refine oS (fun _ => XS.ifNo X870.here hx rfl (hb hby dd15_20) rfl (XT.i0_eq_f (by decide))) ?_
  show own_G p e below (T866.setTop (mkF m 23 #[rv ob_285, iv 0] [])) _
  refine oS (fun _ => XS.aloadN X870.here hx rfl (hb hby dd15_23) rfl rfl) ?_
  obtain ⟨T882, X883, e884, s885⟩ := getF X870 hx hZ hown (host := "") (Or.inl (oW hw 33 rfl)) Via.refl e879 I881 (g := (mkF m 24 #[rv ob_285, iv 0] [(.ref ob_285)])) rfl rfl (hb hby dd15_24)
  refine oS s885 ?_
  show own_G p e below (T882.setTop (mkF m 27 #[rv ob_285, iv 0] [(.ref ob_286)])) _
  obtain ⟨T890, h891, v892, L893, X894, e895, q896, s897⟩ := own_callS X883 hx hZ hown e884 (y := mN15) (oW hw 103 rfl) (oW hw 104 rfl) (oW hw 68 rfl) (oW hw 105 rfl) (by decide) (W := 0) (own_rm24 l Z a0 hw [] ob_286 kk_287 in_1 h0 n0 Z0 O0 I887) (by decide) (by decide) (by decide) (by decide) (g := (mkF m 27 #[rv ob_285, iv 0] [(.ref ob_286)])) rfl (by rw [hml]; rfl) (argsL := [(.ref ob_286)]) (rest := []) rfl (lenOf own_pd13 rfl) rfl (by show 2 * 0 + _ ≤ _; exact Nat.le_of_eq rfl) (hb hby dd15_27)
  refine oS s897 ?_
  obtain ⟨rfl, N898, K899⟩ := q896
  have N900 := Fr.app N878 N898
  have e901 := e895.trans K899
  show own_G p e below (T890.setTop (mkF m 30 #[rv ob_285, iv 0] [(.int (((in_1 &&& 255).toInt8.toInt32) &&& 255))])) _
  refine oS (fun _ => XS.goto X894.here hx rfl (pc0 := 30) (pc' := 40) rfl (hb hby dd15_30) (by decide) (by decide)) ?_
  show own_G p e below (T890.setTop (mkF m 40 #[rv ob_285, iv 0] [(.int (((in_1 &&& 255).toInt8.toInt32) &&& 255))])) _
  refine oS (fun _ => XS.istoreN X894.here hx rfl (hb hby dd15_40) rfl (l' := #[rv ob_285, iv (((in_1 &&& 255).toInt8.toInt32) &&& 255)]) rfl) ?_
  refine oS (fun _ => XS.iloadN X894.here hx rfl (hb hby dd15_41) rfl) ?_
  by_cases b902 : (((in_1 &&& 255).toInt8.toInt32) &&& 255) = 0
  · skip
    refine oS (fun _ => XS.ifNo X894.here hx rfl (hb hby dd15_42) rfl (XT.i0_ne_f b902)) ?_
    show own_G p e below (T890.setTop (mkF m 45 #[rv ob_285, iv (((in_1 &&& 255).toInt8.toInt32) &&& 255)] [])) _
    refine oS (fun _ => XS.aloadN X894.here hx rfl (hb hby dd15_45) rfl rfl) ?_
    refine oS (fun _ => XS.iconst X894.here hx rfl (hb hby dd15_46) ) ?_
    obtain ⟨T903, h904, X905, e906, W907, s908⟩ := putF X894 hx hZ hown (host := "") (Or.inl (oW hw 96 rfl)) Via.refl e901 I843 I875 (Or.inl (oW hw 97 rfl)) (oW hw 7 rfl) (ty := .boolean) (by decide) (by decide) (by decide) (g := (mkF m 47 #[rv ob_285, iv (((in_1 &&& 255).toInt8.toInt32) &&& 255)] [(.int 1), (.ref ob_285)])) rfl rfl (hb hby dd15_47)
    have N909 := Fr.snoc X905 N900 I911
    have z912 := W907.size
    have F913 : Fld Z h904 ob_285 cN1 "hashIsZero" "Z" (.int 1) := Fld.same W907 I843
    refine oS s908 ?_
    show own_G p e below (T903.setTop (mkF m 50 #[rv ob_285, iv (((in_1 &&& 255).toInt8.toInt32) &&& 255)] [])) _
    refine oS (fun _ => XS.goto X905.here hx rfl (pc0 := 50) (pc' := 58) rfl (hb hby dd15_50) (by decide) (by decide)) ?_
    show own_G p e below (T903.setTop (mkF m 58 #[rv ob_285, iv (((in_1 &&& 255).toInt8.toInt32) &&& 255)] [])) _
    refine oS (fun _ => XS.iloadN X905.here hx rfl (hb hby dd15_58) rfl) ?_
    have F914 : Fld Z h904 ob_285 cN1 "coder" "B" (.int 0) := Fld.other W907 I860 (Or.inr (slot_ne (C := cN1) (Or.inr (oW hw 32 rfl)) (Or.inl (oW hw 97 rfl)) (by decide) (t := .byte) (t' := .boolean) (by decide) (by decide)))
    have F915 : Exa Z h904 ob_285 cN1 := Exa.wr W907 I875
    have F916 : Fld Z h904 ob_285 cN1 "value" "[B" (.ref ob_286) := Fld.other W907 I881 (Or.inr (slot_ne (C := cN1) (Or.inr (oW hw 34 rfl)) (Or.inl (oW hw 97 rfl)) (by decide) (t := (.array .byte)) (t' := .boolean) (by decide) (by decide)))
    have K917 : Keep h0 h904 [ob_285] := ((Keep.refl h0 [ob_285]).wr W907 (Or.inl (by simp)))
    exact own_retI X905 hx Bd.notSynchronized Bd.returns (hb hby dd15_59) e906 (by decide) (by decide) (⟨rfl, N909, K917, F914, F915, F916⟩)
  · skip
    refine oS (fun _ => XS.ifYes X894.here hx rfl (pc0 := 42) (pc' := 53) rfl (hb hby dd15_42) rfl (XT.i0_ne_t b902) (by decide) (by decide)) ?_
    show own_G p e below (T890.setTop (mkF m 53 #[rv ob_285, iv (((in_1 &&& 255).toInt8.toInt32) &&& 255)] [])) _
    refine oS (fun _ => XS.aloadN X894.here hx rfl (hb hby dd15_53) rfl rfl) ?_
    refine oS (fun _ => XS.iloadN X894.here hx rfl (hb hby dd15_54) rfl) ?_
    obtain ⟨T918, h919, X920, e921, W922, s923⟩ := putF X894 hx hZ hown (host := "") (Or.inl (oW hw 94 rfl)) Via.refl e901 I834 I875 (Or.inl (oW hw 95 rfl)) (oW hw 7 rfl) (ty := .int) (by decide) rfl rfl (g := (mkF m 55 #[rv ob_285, iv (((in_1 &&& 255).toInt8.toInt32) &&& 255)] [(.int (((in_1 &&& 255).toInt8.toInt32) &&& 255)), (.ref ob_285)])) rfl rfl (hb hby dd15_55)
    have N924 := Fr.snoc X920 N900 I911
    have z925 := W922.size
    have F926 : Fld Z h919 ob_285 cN1 "hash" "I" (.int (((in_1 &&& 255).toInt8.toInt32) &&& 255)) := Fld.same W922 I834
    refine oS s923 ?_
    show own_G p e below (T918.setTop (mkF m 58 #[rv ob_285, iv (((in_1 &&& 255).toInt8.toInt32) &&& 255)] [])) _
    refine oS (fun _ => XS.iloadN X920.here hx rfl (hb hby dd15_58) rfl) ?_
    have F927 : Fld Z h919 ob_285 cN1 "coder" "B" (.int 0) := Fld.other W922 I860 (Or.inr (slot_ne (C := cN1) (Or.inr (oW hw 32 rfl)) (Or.inl (oW hw 95 rfl)) (by decide) (t := .byte) (t' := .int) (by decide) (by decide)))
    have F928 : Exa Z h919 ob_285 cN1 := Exa.wr W922 I875
    have F929 : Fld Z h919 ob_285 cN1 "value" "[B" (.ref ob_286) := Fld.other W922 I881 (Or.inr (slot_ne (C := cN1) (Or.inr (oW hw 34 rfl)) (Or.inl (oW hw 95 rfl)) (by decide) (t := (.array .byte)) (t' := .int) (by decide) (by decide)))
    have K930 : Keep h0 h919 [ob_285] := ((Keep.refl h0 [ob_285]).wr W922 (Or.inl (by simp)))
    exact own_retI X920 hx Bd.notSynchronized Bd.returns (hb hby dd15_59) e921 (by decide) (by decide) (⟨rfl, N924, K930, F927, F928, F929⟩)
theorem own_pd14 : parseMethodDescriptor "()I" = some ⟨[], (some .int)⟩ := by decide +kernel
theorem dd14_4 : decode prog_11_method_5_code 4 = .ok (.invokevirtual 38, 3) := by decide +kernel
theorem dd14_7 : decode prog_11_method_5_code 7 = .ok (.ireturn, 1) := by decide +kernel
def own_Q21 (Z : State) (ob_455 : Nat) (ob_285 : Nat) (in_7 : Int32) (ob_286 : Nat) (kk_287 : ClassId) (in_1 : Int32) (h0 : Heap) (n0 : Nat) (v : Option Value) (h : Heap) (L : List Loc) : Prop := (v = some (.int (((in_1 &&& 255).toInt8.toInt32) &&& 255)) ∧ Fr n0 L ∧ Keep h0 h [ob_285] ∧ Fld Z h ob_285 cN1 "coder" "B" (.int 0) ∧ Exa Z h ob_285 cN1 ∧ Fld Z h ob_285 cN1 "value" "[B" (.ref ob_286))
theorem own_pn17 : plainFor mN17 = true := by decide +kernel
set_option maxRecDepth 65536 in
set_option maxHeartbeats 40000000 in
theorem own_rm21 (l : Launch) (Z : State) (a0 : Array Value) (hw : ∀ d ∈ tables_1, d.before a0 Z = true) (ws : List Jvm.Cond) (ob_455 : Nat) (ob_285 : Nat) (in_7 : Int32) (ob_286 : Nat) (kk_287 : ClassId) (in_1 : Int32) (h0 : Heap) (n0 : Nat) (Z0 : n0 ≤ h0.size) (O0 : Old Z n0 h0) (I825 : Fld Z h0 ob_455 cN4 "name" cN5 (.ref ob_285)) (I833 : Fld Z h0 ob_285 cN1 "hash" "I" (.int 0)) (I842 : Fld Z h0 ob_285 cN1 "hashIsZero" "Z" (.int 0)) (I848 : Sta Z Z.heap cN1 "COMPACT_STRINGS" "Z" (.int in_7)) (I856 : ¬ (in_7 = 0)) (I859 : Fld Z h0 ob_285 cN1 "coder" "B" (.int 0)) (I874 : Exa Z h0 ob_285 cN1) (I880 : Fld Z h0 ob_285 cN1 "value" "[B" (.ref ob_286)) (I886 : Arv Z h0 ob_286 kk_287 .byte 1 [(.int ((in_1 &&& 255).toInt8.toInt32))] (.int 0)) (I910 : n0 ≤ ob_285) :
    own_Met l Z h0 mN17 prog_11_method_5_code 1 (Option.some FieldType.int) ws ({ frames := 2, cells := 0, slots := 0, locals := 25 } : Room) #[(.ref ob_455)] (own_Q21 Z ob_455 ob_285 in_7 ob_286 kk_287 in_1 h0 n0) 0 0 := by
  refine MetFree.of_bodySF own_pn17 hisR ?_
  intro p e s m args below meth c s₁ Bd hml0 hP hK
  obtain ⟨rfl, hZ, hh⟩ := hP
  have hx := Bd.exec
  have hby := Bd.bytes
  have hml : c.maxLocals = 1 := hml0
  have hown : s.vm.findClass cN4 = some m.cls := findClass_of_methodNamed Bd.named
  have hnm := (name_of_methodNamed Bd.named Bd.method).1
  have X0 : Stand p l e ({ frames := 2, cells := 0, slots := 0, locals := 25 } : Room) s m #[(.ref ob_455)] below meth c s₁ [] 0 0 := Stand.of_body Bd
  have e0 : s₁.heap = h0 := by rw [← hh, Bd.state]; rfl
  have N0 := Fr.nil n0
  show own_G p e below (s₁.setTop (entryFrame m #[(.ref ob_455)] 1)) (own_P s (own_Q21 Z ob_455 ob_285 in_7 ob_286 kk_287 in_1 h0 n0) 0 0)
  refine own_cast (own_ef7 m ob_455) ?_
  show own_G p e below (s₁.setTop (mkF m 0 #[rv ob_455] [])) _
  refine oS (fun _ => XS.aloadN X0.here hx rfl (hb hby dd14_0) rfl rfl) ?_
  obtain ⟨T826, X827, e828, s829⟩ := getF X0 hx hZ hown (host := "") (Or.inl (oW hw 58 rfl)) Via.refl e0 I825 (g := (mkF m 1 #[rv ob_455] [(.ref ob_455)])) rfl rfl (hb hby dd14_1)
  refine oS s829 ?_
  show own_G p e below (T826.setTop (mkF m 4 #[rv ob_455] [(.ref ob_285)])) _
  obtain ⟨T931, h932, v933, L934, X935, e936, q937, s938⟩ := own_callV X827 hx hZ hown e828 (y := mN16) (z := mN16) (C := cN1) (b := ob_285) (oW hw 89 rfl) (oW hw 90 rfl) (notFace_of_selects (args := #[]) (mvT hZ (oW hw 92 rfl))) (oW hw 92 rfl) (oW hw 91 rfl) (oW hw 8 rfl) (oW hw 93 rfl) (by decide) I874 (W := 0) (own_rm22 l Z a0 hw [] ob_285 in_7 ob_286 kk_287 in_1 h0 n0 Z0 O0 I833 I842 I848 I856 I859 I874 I880 I886 I910) (by decide) (by decide) (by decide) (by decide) (g := (mkF m 4 #[rv ob_455] [(.ref ob_285)])) rfl (by rw [hml]; rfl) (argsL := []) (rest := []) rfl (lenOf own_pd14 rfl) rfl (by show 2 * 0 + _ ≤ _; exact Nat.le_of_eq rfl) (hb hby dd14_4)
  refine oS s938 ?_
  obtain ⟨rfl, N939, K940, F941, F942, F943⟩ := q937
  have N944 := Fr.app N0 N939
  have z945 := K940.1
  show own_G p e below (T931.setTop (mkF m 7 #[rv ob_455] [(.int (((in_1 &&& 255).toInt8.toInt32) &&& 255))])) _
  have K946 : Keep h0 h932 [ob_285] := ((Keep.refl h0 [ob_285]).trans K940 (allS (Or.inl (by simp)) all0))
  exact own_retI X935 hx Bd.notSynchronized Bd.returns (hb hby dd14_7) e936 (by decide) (by decide) (⟨rfl, N944, K946, F941, F942, F943⟩)
theorem dd0_49 : decode method_2_code 49 = .ok (.iload_n 0, 1) := by decide +kernel
theorem dd0_50 : decode method_2_code 50 = .ok (.iconst 2, 1) := by decide +kernel
theorem dd0_51 : decode method_2_code 51 = .ok (.if_icmp .ne 28, 3) := by decide +kernel
theorem dd0_54 : decode method_2_code 54 = .ok (.iconst 2, 1) := by decide +kernel
theorem dd0_55 : decode method_2_code 55 = .ok (.newarray .char, 2) := by decide +kernel
theorem dd0_57 : decode method_2_code 57 = .ok (.dup, 1) := by decide +kernel
theorem dd0_58 : decode method_2_code 58 = .ok (.iconst 0, 1) := by decide +kernel
theorem dd0_59 : decode method_2_code 59 = .ok (.iload 4, 2) := by decide +kernel
theorem dd0_61 : decode method_2_code 61 = .ok (.castore, 1) := by decide +kernel
theorem dd0_62 : decode method_2_code 62 = .ok (.dup, 1) := by decide +kernel
theorem dd0_63 : decode method_2_code 63 = .ok (.iconst 1, 1) := by decide +kernel
theorem dd0_64 : decode method_2_code 64 = .ok (.iload 5, 2) := by decide +kernel
theorem dd0_66 : decode method_2_code 66 = .ok (.castore, 1) := by decide +kernel
theorem dd0_67 : decode method_2_code 67 = .ok (.astore 7, 2) := by decide +kernel
theorem dd0_69 : decode method_2_code 69 = .ok (.new 7, 3) := by decide +kernel
theorem dd0_72 : decode method_2_code 72 = .ok (.dup, 1) := by decide +kernel
theorem dd0_73 : decode method_2_code 73 = .ok (.aload 7, 2) := by decide +kernel
def own_Q29 (Z : State) (ob_1036 : Nat) (ob_1106 : Nat) (kk_1034 : ClassId) (in_1 : Int32) (in_2 : Int32) (kk_1104 : ClassId) (h0 : Heap) (n0 : Nat) (v : Option Value) (h : Heap) (L : List Loc) : Prop := (v = some (.int 2) ∧ Fr n0 L ∧ Keep h0 h [ob_1106] ∧ Arv Z h ob_1106 kk_1104 .byte 2 [(.int ((in_1 &&& 255).toInt8.toInt32)), (.int ((in_2 &&& 255).toInt8.toInt32))] (.int 0) ∧ Exa Z h ob_1106 "[B")
set_option maxRecDepth 65536 in
set_option maxHeartbeats 40000000 in
theorem own_rm29 (l : Launch) (Z : State) (a0 : Array Value) (hw : ∀ d ∈ tables_1, d.before a0 Z = true) (ws : List Jvm.Cond) (ob_1036 : Nat) (ob_1106 : Nat) (kk_1034 : ClassId) (in_1 : Int32) (in_2 : Int32) (kk_1104 : ClassId) (h0 : Heap) (n0 : Nat) (Z0 : n0 ≤ h0.size) (O0 : Old Z n0 h0) (I1113 : Arv Z h0 ob_1036 kk_1034 .char 2 [(.int (in_1 &&& 255)), (.int (in_2 &&& 255))] (.int 0)) (I1114 : Arv Z h0 ob_1106 kk_1104 .byte 2 [(.int 0), (.int 0)] (.int 0)) (I1124 : n0 ≤ ob_1106) (I1134 : @Ne Nat ob_1036 ob_1106) (I1146 : Exa Z h0 ob_1106 "[B") :
    own_Met l Z h0 mN0 jdk_52_method_21_code 7 (Option.some FieldType.int) ws ({ frames := 0, cells := 0, slots := 0, locals := 0 } : Room) #[(.ref ob_1036), (.int 0), (.ref ob_1106), (.int 0), (.int 2)] (own_Q29 Z ob_1036 ob_1106 kk_1034 in_1 in_2 kk_1104 h0 n0) 0 0 := by
  refine MetFree.of_bodySF own_pn0 hisR ?_
  intro p e s m args below meth c s₁ Bd hml0 hP hK
  obtain ⟨rfl, hZ, hh⟩ := hP
  have hx := Bd.exec
  have hby := Bd.bytes
  have hml : c.maxLocals = 7 := hml0
  have hown : s.vm.findClass cN0 = some m.cls := findClass_of_methodNamed Bd.named
  have hnm := (name_of_methodNamed Bd.named Bd.method).1
  have X0 : Stand p l e ({ frames := 0, cells := 0, slots := 0, locals := 0 } : Room) s m #[(.ref ob_1036), (.int 0), (.ref ob_1106), (.int 0), (.int 2)] below meth c s₁ [] 0 0 := Stand.of_body Bd
  have e0 : s₁.heap = h0 := by rw [← hh, Bd.state]; rfl
  have N0 := Fr.nil n0
  show own_G p e below (s₁.setTop (entryFrame m #[(.ref ob_1036), (.int 0), (.ref ob_1106), (.int 0), (.int 2)] 7)) (own_P s (own_Q29 Z ob_1036 ob_1106 kk_1034 in_1 in_2 kk_1104 h0 n0) 0 0)
  refine own_cast (own_ef5 m ob_1036 0 ob_1106 0 2) ?_
  show own_G p e below (s₁.setTop (mkF m 0 #[rv ob_1036, iv 0, rv ob_1106, iv 0, iv 2, .unset, .unset] [])) _
  refine oS (fun _ => XS.iconst X0.here hx rfl (hb hby dd4_0) ) ?_
  refine oS (fun _ => XS.istore X0.here hx rfl (hb hby dd4_1) rfl (l' := #[rv ob_1036, iv 0, rv ob_1106, iv 0, iv 2, iv 0, .unset]) rfl) ?_
  refine oS (fun _ => XS.iload X0.here hx rfl (hb hby dd4_3) rfl) ?_
  refine oS (fun _ => XS.iload X0.here hx rfl (hb hby dd4_5) rfl) ?_
  show own_G p e below (s₁.setTop (mkF m 7 #[rv ob_1036, iv 0, rv ob_1106, iv 0, iv 2, iv 0, .unset] [(.int 2), (.int 0)])) _
  refine oS (fun _ => XS.icmpNo X0.here hx rfl (hb hby dd4_7) rfl (XT.ii_ge_f (by decide))) ?_
  show own_G p e below (s₁.setTop (mkF m 10 #[rv ob_1036, iv 0, rv ob_1106, iv 0, iv 2, iv 0, .unset] [])) _
  refine oS (fun _ => XS.aloadN X0.here hx rfl (hb hby dd4_10) rfl rfl) ?_
  refine oS (fun _ => XS.iloadN X0.here hx rfl (hb hby dd4_11) rfl) ?_
  refine oS (own_caload X0 hx hZ e0 I1113 (by decide) (v := (.int (in_1 &&& 255))) rfl rfl rfl (hb hby dd4_12)) ?_
  show own_G p e below (s₁.setTop (mkF m 13 #[rv ob_1036, iv 0, rv ob_1106, iv 0, iv 2, iv 0, .unset] [(.int (in_1 &&& 255))])) _
  refine oS (fun _ => XS.istore X0.here hx rfl (hb hby dd4_13) rfl (l' := #[rv ob_1036, iv 0, rv ob_1106, iv 0, iv 2, iv 0, iv (in_1 &&& 255)]) rfl) ?_
  refine oS (fun _ => XS.iload X0.here hx rfl (hb hby dd4_15) rfl) ?_
  refine oS (fun _ => XS.sipush X0.here hx rfl (hb hby dd4_17) ) ?_
  refine oS (fun _ => XS.icmpYes X0.here hx rfl (pc0 := 20) (pc' := 26) rfl (hb hby dd4_20) rfl (XT.ii_le_t (own_mk1 in_1)) (by decide) (by decide)) ?_
  show own_G p e below (s₁.setTop (mkF m 26 #[rv ob_1036, iv 0, rv ob_1106, iv 0, iv 2, iv 0, iv (in_1 &&& 255)] [])) _
  refine oS (fun _ => XS.aloadN X0.here hx rfl (hb hby dd4_26) rfl rfl) ?_
  refine oS (fun _ => XS.iloadN X0.here hx rfl (hb hby dd4_27) rfl) ?_
  refine oS (fun _ => XS.iload X0.here hx rfl (hb hby dd4_28) rfl) ?_
  refine oS (fun _ => XT.i2b X0.here hx rfl (hb hby dd4_30) rfl) ?_
  show own_G p e below (s₁.setTop (mkF m 31 #[rv ob_1036, iv 0, rv ob_1106, iv 0, iv 2, iv 0, iv (in_1 &&& 255)] [(.int ((in_1 &&& 255).toInt8.toInt32)), (.int 0), (.ref ob_1106)])) _
  obtain ⟨T1115, h1116, X1117, e1118, W1119, A1120, s1121⟩ := own_stB X0 hx hZ e0 I1114 (x' := ((in_1 &&& 255).toInt8.toInt32)) 0 (own_narB _) rfl (by decide) (by simp) (g := (mkF m 31 #[rv ob_1036, iv 0, rv ob_1106, iv 0, iv 2, iv 0, iv (in_1 &&& 255)] [(.int ((in_1 &&& 255).toInt8.toInt32)), (.int 0), (.ref ob_1106)])) rfl (rest := []) rfl (hb hby dd4_31)
  have N1122 := Fr.snoc X1117 N0 I1124
  have z1125 := W1119.size
  have F1126 : Arv Z h1116 ob_1106 kk_1104 .byte 2 [(.int ((in_1 &&& 255).toInt8.toInt32)), (.int 0)] (.int 0) := A1120
  refine oS s1121 ?_
  show own_G p e below (T1115.setTop (mkF m 32 #[rv ob_1036, iv 0, rv ob_1106, iv 0, iv 2, iv 0, iv (in_1 &&& 255)] [])) _
  refine oS (fun _ => XS.iinc X1117.here hx rfl (hb hby dd4_32) rfl (l' := #[rv ob_1036, iv 1, rv ob_1106, iv 0, iv 2, iv 0, iv (in_1 &&& 255)]) rfl) ?_
  show own_G p e below (T1115.setTop (mkF m 35 #[rv ob_1036, iv 1, rv ob_1106, iv 0, iv 2, iv 0, iv (in_1 &&& 255)] [])) _
  refine oS (fun _ => XS.iinc X1117.here hx rfl (hb hby dd4_35) rfl (l' := #[rv ob_1036, iv 1, rv ob_1106, iv 1, iv 2, iv 0, iv (in_1 &&& 255)]) rfl) ?_
  show own_G p e below (T1115.setTop (mkF m 38 #[rv ob_1036, iv 1, rv ob_1106, iv 1, iv 2, iv 0, iv (in_1 &&& 255)] [])) _
  refine oS (fun _ => XS.iinc X1117.here hx rfl (hb hby dd4_38) rfl (l' := #[rv ob_1036, iv 1, rv ob_1106, iv 1, iv 2, iv 1, iv (in_1 &&& 255)]) rfl) ?_
  show own_G p e below (T1115.setTop (mkF m 41 #[rv ob_1036, iv 1, rv ob_1106, iv 1, iv 2, iv 1, iv (in_1 &&& 255)] [])) _
  refine oS (fun _ => XS.goto X1117.here hx rfl (pc0 := 41) (pc' := 3) rfl (hb hby dd4_41) (by decide) (by decide)) ?_
  show own_G p e below (T1115.setTop (mkF m 3 #[rv ob_1036, iv 1, rv ob_1106, iv 1, iv 2, iv 1, iv (in_1 &&& 255)] [])) _
  refine oS (fun _ => XS.iload X1117.here hx rfl (hb hby dd4_3) rfl) ?_
  refine oS (fun _ => XS.iload X1117.here hx rfl (hb hby dd4_5) rfl) ?_
  refine oS (fun _ => XS.icmpNo X1117.here hx rfl (hb hby dd4_7) rfl (XT.ii_ge_f (by decide))) ?_
  show own_G p e below (T1115.setTop (mkF m 10 #[rv ob_1036, iv 1, rv ob_1106, iv 1, iv 2, iv 1, iv (in_1 &&& 255)] [])) _
  refine oS (fun _ => XS.aloadN X1117.here hx rfl (hb hby dd4_10) rfl rfl) ?_
  refine oS (fun _ => XS.iloadN X1117.here hx rfl (hb hby dd4_11) rfl) ?_
  have F1135 : Arv Z h1116 ob_1036 kk_1034 .char 2 [(.int (in_1 &&& 255)), (.int (in_2 &&& 255))] (.int 0) := I1113.other W1119 I1134
  refine oS (own_caload X1117 hx hZ e1118 F1135 (by decide) (v := (.int (in_2 &&& 255))) rfl rfl rfl (hb hby dd4_12)) ?_
  show own_G p e below (T1115.setTop (mkF m 13 #[rv ob_1036, iv 1, rv ob_1106, iv 1, iv 2, iv 1, iv (in_1 &&& 255)] [(.int (in_2 &&& 255))])) _
  refine oS (fun _ => XS.istore X1117.here hx rfl (hb hby dd4_13) rfl (l' := #[rv ob_1036, iv 1, rv ob_1106, iv 1, iv 2, iv 1, iv (in_2 &&& 255)]) rfl) ?_
  refine oS (fun _ => XS.iload X1117.here hx rfl (hb hby dd4_15) rfl) ?_
  refine oS (fun _ => XS.sipush X1117.here hx rfl (hb hby dd4_17) ) ?_
  refine oS (fun _ => XS.icmpYes X1117.here hx rfl (pc0 := 20) (pc' := 26) rfl (hb hby dd4_20) rfl (XT.ii_le_t (own_mk1 in_2)) (by decide) (by decide)) ?_
  show own_G p e below (T1115.setTop (mkF m 26 #[rv ob_1036, iv 1, rv ob_1106, iv 1, iv 2, iv 1, iv (in_2 &&& 255)] [])) _
  refine oS (fun _ => XS.aloadN X1117.here hx rfl (hb hby dd4_26) rfl rfl) ?_
  refine oS (fun _ => XS.iloadN X1117.here hx rfl (hb hby dd4_27) rfl) ?_
  refine oS (fun _ => XS.iload X1117.here hx rfl (hb hby dd4_28) rfl) ?_
  refine oS (fun _ => XT.i2b X1117.here hx rfl (hb hby dd4_30) rfl) ?_
  show own_G p e below (T1115.setTop (mkF m 31 #[rv ob_1036, iv 1, rv ob_1106, iv 1, iv 2, iv 1, iv (in_2 &&& 255)] [(.int ((in_2 &&& 255).toInt8.toInt32)), (.int 1), (.ref ob_1106)])) _
  obtain ⟨T1136, h1137, X1138, e1139, W1140, A1141, s1142⟩ := own_stB X1117 hx hZ e1118 F1126 (x' := ((in_2 &&& 255).toInt8.toInt32)) 1 (own_narB _) rfl (by decide) (by simp) (g := (mkF m 31 #[rv ob_1036, iv 1, rv ob_1106, iv 1, iv 2, iv 1, iv (in_2 &&& 255)] [(.int ((in_2 &&& 255).toInt8.toInt32)), (.int 1), (.ref ob_1106)])) rfl (rest := []) rfl (hb hby dd4_31)
  have N1143 := Fr.snoc X1138 N1122 I1124
  have z1144 := W1140.size
  have F1145 : Arv Z h1137 ob_1106 kk_1104 .byte 2 [(.int ((in_1 &&& 255).toInt8.toInt32)), (.int ((in_2 &&& 255).toInt8.toInt32))] (.int 0) := A1141
  refine oS s1142 ?_
  show own_G p e below (T1136.setTop (mkF m 32 #[rv ob_1036, iv 1, rv ob_1106, iv 1, iv 2, iv 1, iv (in_2 &&& 255)] [])) _
  refine oS (fun _ => XS.iinc X1138.here hx rfl (hb hby dd4_32) rfl (l' := #[rv ob_1036, iv 2, rv ob_1106, iv 1, iv 2, iv 1, iv (in_2 &&& 255)]) rfl) ?_
  show own_G p e below (T1136.setTop (mkF m 35 #[rv ob_1036, iv 2, rv ob_1106, iv 1, iv 2, iv 1, iv (in_2 &&& 255)] [])) _
  refine oS (fun _ => XS.iinc X1138.here hx rfl (hb hby dd4_35) rfl (l' := #[rv ob_1036, iv 2, rv ob_1106, iv 2, iv 2, iv 1, iv (in_2 &&& 255)]) rfl) ?_
  show own_G p e below (T1136.setTop (mkF m 38 #[rv ob_1036, iv 2, rv ob_1106, iv 2, iv 2, iv 1, iv (in_2 &&& 255)] [])) _
  refine oS (fun _ => XS.iinc X1138.here hx rfl (hb hby dd4_38) rfl (l' := #[rv ob_1036, iv 2, rv ob_1106, iv 2, iv 2, iv 2, iv (in_2 &&& 255)]) rfl) ?_
  show own_G p e below (T1136.setTop (mkF m 41 #[rv ob_1036, iv 2, rv ob_1106, iv 2, iv 2, iv 2, iv (in_2 &&& 255)] [])) _
  refine oS (fun _ => XS.goto X1138.here hx rfl (pc0 := 41) (pc' := 3) rfl (hb hby dd4_41) (by decide) (by decide)) ?_
  show own_G p e below (T1136.setTop (mkF m 3 #[rv ob_1036, iv 2, rv ob_1106, iv 2, iv 2, iv 2, iv (in_2 &&& 255)] [])) _
  refine oS (fun _ => XS.iload X1138.here hx rfl (hb hby dd4_3) rfl) ?_
  refine oS (fun _ => XS.iload X1138.here hx rfl (hb hby dd4_5) rfl) ?_
  refine oS (fun _ => XS.icmpYes X1138.here hx rfl (pc0 := 7) (pc' := 44) rfl (hb hby dd4_7) rfl (XT.ii_ge_t (by decide)) (by decide) (by decide)) ?_
  show own_G p e below (T1136.setTop (mkF m 44 #[rv ob_1036, iv 2, rv ob_1106, iv 2, iv 2, iv 2, iv (in_2 &&& 255)] [])) _
  refine oS (fun _ => XS.iload X1138.here hx rfl (hb hby dd4_44) rfl) ?_
  have F1147 : Exa Z h1116 ob_1106 "[B" := Exa.wr W1119 I1146
  have F1148 : Exa Z h1137 ob_1106 "[B" := Exa.wr W1140 F1147
  have K1149 : Keep h0 h1137 [ob_1106] := (((Keep.refl h0 [ob_1106]).wr W1119 (Or.inl (by simp))).wr W1140 (Or.inl (by simp)))
  exact own_retI X1138 hx Bd.notSynchronized Bd.returns (hb hby dd4_46) e1139 (by decide) (by decide) (⟨rfl, N1143, K1149, F1145, F1148⟩)
def own_Q28 (Z : State) (ob_1036 : Nat) (kk_1034 : ClassId) (in_1 : Int32) (in_2 : Int32) (h0 : Heap) (n0 : Nat) (v : Option Value) (h : Heap) (L : List Loc) : Prop := (∃ ob_1106 : Nat, ∃ kk_1104 : ClassId, v = some (.ref ob_1106) ∧ Fr n0 L ∧ Keep h0 h [] ∧ h0.size ≤ ob_1106 ∧ Arv Z h ob_1106 kk_1104 .byte 2 [(.int ((in_1 &&& 255).toInt8.toInt32)), (.int ((in_2 &&& 255).toInt8.toInt32))] (.int 0) ∧ Exa Z h ob_1106 "[B" ∧ @LT.lt Nat instLTNat ob_1106 h.size)
set_option maxRecDepth 65536 in
set_option maxHeartbeats 40000000 in
theorem own_rm28 (l : Launch) (Z : State) (a0 : Array Value) (hw : ∀ d ∈ tables_1, d.before a0 Z = true) (ws : List Jvm.Cond) (ob_1036 : Nat) (kk_1034 : ClassId) (in_1 : Int32) (in_2 : Int32) (h0 : Heap) (n0 : Nat) (Z0 : n0 ≤ h0.size) (O0 : Old Z n0 h0) (I1111 : Arv Z h0 ob_1036 kk_1034 .char 2 [(.int (in_1 &&& 255)), (.int (in_2 &&& 255))] (.int 0)) (I1132 : @LT.lt Nat instLTNat ob_1036 h0.size) :
    own_Met l Z h0 mN1 jdk_52_method_16_code 6 (Option.some (FieldType.array FieldType.byte)) ws ({ frames := 1, cells := 1, slots := 2, locals := 18 } : Room) #[(.ref ob_1036), (.int 0), (.int 2)] (own_Q28 Z ob_1036 kk_1034 in_1 in_2 h0 n0) 1 2 := by
  refine MetFree.of_bodySF own_pn1 hisR ?_
  intro p e s m args below meth c s₁ Bd hml0 hP hK
  obtain ⟨rfl, hZ, hh⟩ := hP
  have hx := Bd.exec
  have hby := Bd.bytes
  have hml : c.maxLocals = 6 := hml0
  have hown : s.vm.findClass cN0 = some m.cls := findClass_of_methodNamed Bd.named
  have hnm := (name_of_methodNamed Bd.named Bd.method).1
  have X0 : Stand p l e ({ frames := 1, cells := 1, slots := 2, locals := 18 } : Room) s m #[(.ref ob_1036), (.int 0), (.int 2)] below meth c s₁ [] 0 0 := Stand.of_body Bd
  have e0 : s₁.heap = h0 := by rw [← hh, Bd.state]; rfl
  have N0 := Fr.nil n0
  show own_G p e below (s₁.setTop (entryFrame m #[(.ref ob_1036), (.int 0), (.int 2)] 6)) (own_P s (own_Q28 Z ob_1036 kk_1034 in_1 in_2 h0 n0) 1 2)
  refine own_cast (own_ef4 m ob_1036 0 2) ?_
  show own_G p e below (s₁.setTop (mkF m 0 #[rv ob_1036, iv 0, iv 2, .unset, .unset, .unset] [])) _
  refine oS (fun _ => XS.iloadN X0.here hx rfl (hb hby dd3_0) rfl) ?_
  obtain ⟨T1095, h1096, kk_1104, X1098, e1099, E1100, A1101, B1105, s1102⟩ := own_newP X0 hx hZ (aty := .byte) (oW hw 24 rfl) e0 (nm := "[B") rfl (g := (mkF m 1 #[rv ob_1036, iv 0, iv 2, .unset, .unset, .unset] [(.int 2)])) rfl (hb hby dd3_1) (n := 2) (rest := []) rfl (by decide) (cap := 2) (by decide) (by decide) (by decide) (by decide)
  obtain ⟨ob_1106, g1107⟩ : ∃ z, z = h0.size := ⟨_, rfl⟩
  rw [← g1107] at A1101 B1105 s1102
  have F1108 : Arv Z h1096 ob_1106 kk_1104 .byte 2 [(.int 0), (.int 0)] (.int 0) := own_newA A1101 (by decide) rfl rfl
  have z1109 := E1100.1
  have y1103 : @LT.lt Nat instLTNat ob_1106 h1096.size := F1108.lt
  refine oS s1102 ?_
  show own_G p e below (T1095.setTop (mkF m 3 #[rv ob_1036, iv 0, iv 2, .unset, .unset, .unset] [(.ref ob_1106)])) _
  refine oS (fun _ => XS.astoreN X1098.here hx rfl (hb hby dd3_3) rfl rfl (l' := #[rv ob_1036, iv 0, iv 2, rv ob_1106, .unset, .unset]) rfl) ?_
  refine oS (fun _ => XS.aloadN X1098.here hx rfl (hb hby dd3_4) rfl rfl) ?_
  refine oS (fun _ => XS.iloadN X1098.here hx rfl (hb hby dd3_5) rfl) ?_
  refine oS (fun _ => XS.aloadN X1098.here hx rfl (hb hby dd3_6) rfl rfl) ?_
  show own_G p e below (T1095.setTop (mkF m 7 #[rv ob_1036, iv 0, iv 2, rv ob_1106, .unset, .unset] [(.ref ob_1106), (.int 0), (.ref ob_1036)])) _
  refine oS (fun _ => XS.iconst X1098.here hx rfl (hb hby dd3_7) ) ?_
  refine oS (fun _ => XS.iloadN X1098.here hx rfl (hb hby dd3_8) rfl) ?_
  have F1112 : Arv Z h1096 ob_1036 kk_1034 .char 2 [(.int (in_1 &&& 255)), (.int (in_2 &&& 255))] (.int 0) := I1111.ext E1100
  have N1123 : n0 ≤ ob_1106 := by omega
  have N1133 : @Ne Nat ob_1036 ob_1106 := by omega
  have O1150 : Old Z n0 h1096 := O0.ext E1100
  have Z1151 : n0 ≤ h1096.size := by omega
  obtain ⟨T1152, h1153, v1154, L1155, X1156, e1157, q1158, s1159⟩ := own_callS X1098 hx hZ hown e1099 (y := mN0) (oW hw 25 rfl) (oW hw 26 rfl) (oW hw 22 rfl) (oW hw 27 rfl) (by decide) (W := 0) (own_rm29 l Z a0 hw [] ob_1036 ob_1106 kk_1034 in_1 in_2 kk_1104 h1096 n0 Z1151 O1150 F1112 F1108 N1123 N1133 B1105) (by decide) (by decide) (by decide) (by decide) (g := (mkF m 9 #[rv ob_1036, iv 0, iv 2, rv ob_1106, .unset, .unset] [(.int 2), (.int 0), (.ref ob_1106), (.int 0), (.ref ob_1036)])) rfl (by rw [hml]; rfl) (argsL := [(.ref ob_1036), (.int 0), (.ref ob_1106), (.int 0), (.int 2)]) (rest := []) rfl (lenOf own_pd0 rfl) rfl (by show 2 * 0 + _ ≤ _; exact Nat.le_of_eq rfl) (hb hby dd3_9)
  refine oS s1159 ?_
  obtain ⟨rfl, N1160, K1161, F1162, F1163⟩ := q1158
  have N1164 := Fr.app N0 N1160
  have z1165 := K1161.1
  show own_G p e below (T1152.setTop (mkF m 12 #[rv ob_1036, iv 0, iv 2, rv ob_1106, .unset, .unset] [(.int 2)])) _
  refine oS (fun _ => XS.istore X1156.here hx rfl (hb hby dd3_12) rfl (l' := #[rv ob_1036, iv 0, iv 2, rv ob_1106, iv 2, .unset]) rfl) ?_
  refine oS (fun _ => XS.iload X1156.here hx rfl (hb hby dd3_14) rfl) ?_
  refine oS (fun _ => XS.iloadN X1156.here hx rfl (hb hby dd3_16) rfl) ?_
  refine oS (fun _ => XS.icmpYes X1156.here hx rfl (pc0 := 17) (pc' := 57) rfl (hb hby dd3_17) rfl (XT.ii_eq_t (by decide)) (by decide) (by decide)) ?_
  show own_G p e below (T1152.setTop (mkF m 57 #[rv ob_1036, iv 0, iv 2, rv ob_1106, iv 2, .unset] [])) _
  refine oS (fun _ => XS.aloadN X1156.here hx rfl (hb hby dd3_57) rfl rfl) ?_
  have y1166 : @LT.lt Nat instLTNat ob_1106 h1153.size := by omega
  have K1167 : Keep h0 h1153 [] := (((Keep.refl h0 []).ext E1100).trans K1161 (allS (Or.inr (by omega)) all0))
  exact own_retA X1156 hx Bd.notSynchronized Bd.returns rfl rfl (hb hby dd3_58) e1157 (by decide) (by decide) (⟨ob_1106, kk_1104, rfl, N1164, K1167, (by omega), F1162, F1163, y1166⟩)
def own_Q30 (Z : State) (ob_1176 : Nat) (kk_1177 : ClassId) (in_1 : Int32) (in_2 : Int32) (h0 : Heap) (n0 : Nat) (v : Option Value) (h : Heap) (L : List Loc) : Prop := (v = some (.int 0) ∧ Fr n0 L ∧ h = h0)
set_option maxRecDepth 65536 in
set_option maxHeartbeats 40000000 in
theorem own_rm30 (l : Launch) (Z : State) (a0 : Array Value) (hw : ∀ d ∈ tables_1, d.before a0 Z = true) (ws : List Jvm.Cond) (ob_1176 : Nat) (kk_1177 : ClassId) (in_1 : Int32) (in_2 : Int32) (h0 : Heap) (n0 : Nat) (Z0 : n0 ≤ h0.size) (O0 : Old Z n0 h0) (I1186 : Arv Z h0 ob_1176 kk_1177 .byte 2 [(.int ((in_1 &&& 255).toInt8.toInt32)), (.int ((in_2 &&& 255).toInt8.toInt32))] (.int 0)) :
    own_Met l Z h0 mN2 jdk_52_method_15_code 2 (Option.some FieldType.byte) ws ({ frames := 0, cells := 0, slots := 0, locals := 0 } : Room) #[(.ref ob_1176), (.int 2)] (own_Q30 Z ob_1176 kk_1177 in_1 in_2 h0 n0) 0 0 := by
  refine MetFree.of_bodySF own_pn2 hisR ?_
  intro p e s m args below meth c s₁ Bd hml0 hP hK
  obtain ⟨rfl, hZ, hh⟩ := hP
  have hx := Bd.exec
  have hby := Bd.bytes
  have hml : c.maxLocals = 2 := hml0
  have hown : s.vm.findClass cN0 = some m.cls := findClass_of_methodNamed Bd.named
  have hnm := (name_of_methodNamed Bd.named Bd.method).1
  have X0 : Stand p l e ({ frames := 0, cells := 0, slots := 0, locals := 0 } : Room) s m #[(.ref ob_1176), (.int 2)] below meth c s₁ [] 0 0 := Stand.of_body Bd
  have e0 : s₁.heap = h0 := by rw [← hh, Bd.state]; rfl
  have N0 := Fr.nil n0
  show own_G p e below (s₁.setTop (entryFrame m #[(.ref ob_1176), (.int 2)] 2)) (own_P s (own_Q30 Z ob_1176 kk_1177 in_1 in_2 h0 n0) 0 0)
  refine own_cast (own_ef6 m ob_1176 2) ?_
  show own_G p e below (s₁.setTop (mkF m 0 #[rv ob_1176, iv 2] [])) _
  refine oS (fun _ => XS.iloadN X0.here hx rfl (hb hby dd5_0) rfl) ?_
  refine oS (fun _ => XS.aloadN X0.here hx rfl (hb hby dd5_1) rfl rfl) ?_
  refine oS (own_len X0 hx hZ e0 I1186 rfl rfl (hb hby dd5_2)) ?_
  show own_G p e below (s₁.setTop (mkF m 3 #[rv ob_1176, iv 2] [(.int 2), (.int 2)])) _
  refine oS (fun _ => XS.isub X0.here hx rfl (hb hby dd5_3) rfl) ?_
  refine oS (fun _ => XS.bipush X0.here hx rfl (hb hby dd5_4) ) ?_
  refine oS (fun _ => XT.iushr X0.here hx rfl (hb hby dd5_6) rfl) ?_
  refine oS (fun _ => XT.i2b X0.here hx rfl (hb hby dd5_7) rfl) ?_
  show own_G p e below (s₁.setTop (mkF m 8 #[rv ob_1176, iv 2] [(.int 0)])) _
  exact own_retN X0 hx (t := .byte) Bd.notSynchronized Bd.returns (by simp) (hb hby dd5_8) (by decide) e0 (by decide) (by decide) (⟨rfl, N0, rfl⟩)
def own_Q27 (Z : State) (ob_1071 : Nat) (ob_1036 : Nat) (in_7 : Int32) (kk_1034 : ClassId) (in_1 : Int32) (in_2 : Int32) (h0 : Heap) (n0 : Nat) (v : Option Value) (h : Heap) (L : List Loc) : Prop := (∃ ob_1176 : Nat, ∃ kk_1177 : ClassId, v = none ∧ Fr n0 L ∧ Keep h0 h [ob_1071] ∧ h0.size ≤ ob_1176 ∧ Fld Z h ob_1071 cN1 "coder" "B" (.int 0) ∧ Exa Z h ob_1071 cN1 ∧ Fld Z h ob_1071 cN1 "value" "[B" (.ref ob_1176) ∧ Fld Z h ob_1071 cN1 "hash" "I" (.int 0) ∧ Fld Z h ob_1071 cN1 "hashIsZero" "Z" (.int 0) ∧ Arv Z h ob_1176 kk_1177 .byte 2 [(.int ((in_1 &&& 255).toInt8.toInt32)), (.int ((in_2 &&& 255).toInt8.toInt32))] (.int 0) ∧ Exa Z h ob_1176 "[B" ∧ @LT.lt Nat instLTNat ob_1176 h.size)
set_option maxRecDepth 65536 in
set_option maxHeartbeats 40000000 in
theorem own_rm27 (l : Launch) (Z : State) (a0 : Array Value) (hw : ∀ d ∈ tables_1, d.before a0 Z = true) (ws : List Jvm.Cond) (ob_1071 : Nat) (ob_1036 : Nat) (in_7 : Int32) (kk_1034 : ClassId) (in_1 : Int32) (in_2 : Int32) (h0 : Heap) (n0 : Nat) (Z0 : n0 ≤ h0.size) (O0 : Old Z n0 h0) (I1086 : Sta Z Z.heap cN1 "COMPACT_STRINGS" "Z" (.int in_7)) (I1094 : ¬ (in_7 = 0)) (I1110 : Arv Z h0 ob_1036 kk_1034 .char 2 [(.int (in_1 &&& 255)), (.int (in_2 &&& 255))] (.int 0)) (I1130 : @LT.lt Nat instLTNat ob_1036 h0.size) (I1202 : Fld Z h0 ob_1071 cN1 "coder" "B" (.int 0)) (I1205 : Exa Z h0 ob_1071 cN1) (I1216 : n0 ≤ ob_1071) (I1220 : Fld Z h0 ob_1071 cN1 "value" "[B" .null) (I1236 : Fld Z h0 ob_1071 cN1 "hash" "I" (.int 0)) (I1241 : Fld Z h0 ob_1071 cN1 "hashIsZero" "Z" (.int 0)) (I1248 : @LT.lt Nat instLTNat ob_1071 h0.size) :
    own_Met l Z h0 mN3 jdk_42_method_149_code 6 (Option.none : Option FieldType) ws ({ frames := 2, cells := 1, slots := 2, locals := 35 } : Room) #[(.ref ob_1071), (.ref ob_1036), (.int 0), (.int 2), .null] (own_Q27 Z ob_1071 ob_1036 in_7 kk_1034 in_1 in_2 h0 n0) 1 2 := by
  refine MetFree.of_bodySF own_pn3 hisR ?_
  intro p e s m args below meth c s₁ Bd hml0 hP hK
  obtain ⟨rfl, hZ, hh⟩ := hP
  have hx := Bd.exec
  have hby := Bd.bytes
  have hml : c.maxLocals = 6 := hml0
  have hown : s.vm.findClass cN1 = some m.cls := findClass_of_methodNamed Bd.named
  have hnm := (name_of_methodNamed Bd.named Bd.method).1
  have X0 : Stand p l e ({ frames := 2, cells := 1, slots := 2, locals := 35 } : Room) s m #[(.ref ob_1071), (.ref ob_1036), (.int 0), (.int 2), .null] below meth c s₁ [] 0 0 := Stand.of_body Bd
  have e0 : s₁.heap = h0 := by rw [← hh, Bd.state]; rfl
  have N0 := Fr.nil n0
  show own_G p e below (s₁.setTop (entryFrame m #[(.ref ob_1071), (.ref ob_1036), (.int 0), (.int 2), .null] 6)) (own_P s (own_Q27 Z ob_1071 ob_1036 in_7 kk_1034 in_1 in_2 h0 n0) 1 2)
  refine own_cast (own_ef3 m ob_1071 ob_1036 0 2) ?_
  show own_G p e below (s₁.setTop (mkF m 0 #[rv ob_1071, rv ob_1036, iv 0, iv 2, .val .null, .unset] [])) _
  refine oS (fun _ => XS.aloadN X0.here hx rfl (hb hby dd2_0) rfl rfl) ?_
  obtain ⟨T1080, X1081, e1082, s1083⟩ := initO X0 hx hZ hown (oW hw 16 rfl) (oW hw 17 rfl) (oW hw 18 rfl) e0 (g := (mkF m 1 #[rv ob_1071, rv ob_1036, iv 0, iv 2, .val .null, .unset] [(.ref ob_1071)])) rfl (by rw [hml]; rfl) rfl (hb hby dd2_1) (by decide) (W := 0) (by show 2 * 0 + _ ≤ _; exact Nat.le_of_eq rfl) (by decide)
  refine oS s1083 ?_
  show own_G p e below (T1080.setTop (mkF m 4 #[rv ob_1071, rv ob_1036, iv 0, iv 2, .val .null, .unset] [])) _
  refine oS (fun _ => XS.iloadN X1081.here hx rfl (hb hby dd2_4) rfl) ?_
  refine oS (fun _ => XS.ifYes X1081.here hx rfl (pc0 := 5) (pc' := 27) rfl (hb hby dd2_5) rfl (XT.i0_ne_t (by decide)) (by decide) (by decide)) ?_
  show own_G p e below (T1080.setTop (mkF m 27 #[rv ob_1071, rv ob_1036, iv 0, iv 2, .val .null, .unset] [])) _
  have F1087 : Sta Z h0 cN1 "COMPACT_STRINGS" "Z" (.int in_7) := Sta.ext O0.2 I1086
  obtain ⟨T1088, X1089, e1090, s1091⟩ := getS X1081 hx hZ hown (host := "") (oW hw 19 rfl) Via.refl e1082 F1087 (g := (mkF m 27 #[rv ob_1071, rv ob_1036, iv 0, iv 2, .val .null, .unset] [])) rfl (hb hby dd2_27)
  refine oS s1091 ?_
  show own_G p e below (T1088.setTop (mkF m 30 #[rv ob_1071, rv ob_1036, iv 0, iv 2, .val .null, .unset] [(.int in_7)])) _
  refine oS (fun _ => XS.ifNo X1089.here hx rfl (hb hby dd2_30) rfl (XT.i0_eq_f I1094)) ?_
  show own_G p e below (T1088.setTop (mkF m 33 #[rv ob_1071, rv ob_1036, iv 0, iv 2, .val .null, .unset] [])) _
  refine oS (fun _ => XS.aloadN X1089.here hx rfl (hb hby dd2_33) rfl rfl) ?_
  refine oS (fun _ => XS.iloadN X1089.here hx rfl (hb hby dd2_34) rfl) ?_
  refine oS (fun _ => XS.iloadN X1089.here hx rfl (hb hby dd2_35) rfl) ?_
  have y1131 : @LT.lt Nat instLTNat ob_1036 h0.size := by omega
  obtain ⟨T1168, h1169, v1170, L1171, X1172, e1173, q1174, s1175⟩ := own_callS X1089 hx hZ hown e1090 (y := mN1) (oW hw 20 rfl) (oW hw 21 rfl) (oW hw 22 rfl) (oW hw 23 rfl) (by decide) (W := 0) (own_rm28 l Z a0 hw [] ob_1036 kk_1034 in_1 in_2 h0 n0 Z0 O0 I1110 y1131) (by decide) (by decide) (by decide) (by decide) (g := (mkF m 36 #[rv ob_1071, rv ob_1036, iv 0, iv 2, .val .null, .unset] [(.int 2), (.int 0), (.ref ob_1036)])) rfl (by rw [hml]; rfl) (argsL := [(.ref ob_1036), (.int 0), (.int 2)]) (rest := []) rfl (lenOf own_pd1 rfl) rfl (by show 2 * 0 + _ ≤ _; exact Nat.le_of_eq rfl) (hb hby dd2_36)
  refine oS s1175 ?_
  obtain ⟨ob_1176, kk_1177, rfl, N1178, K1179, F1180, F1181, F1182, F1183⟩ := q1174
  have N1184 := Fr.app N0 N1178
  have z1185 := K1179.1
  show own_G p e below (T1168.setTop (mkF m 39 #[rv ob_1071, rv ob_1036, iv 0, iv 2, .val .null, .unset] [(.ref ob_1176)])) _
  refine oS (fun _ => XS.astore X1172.here hx rfl (hb hby dd2_39) rfl rfl (l' := #[rv ob_1071, rv ob_1036, iv 0, iv 2, .val .null, rv ob_1176]) rfl) ?_
  refine oS (fun _ => XS.aloadN X1172.here hx rfl (hb hby dd2_41) rfl rfl) ?_
  refine oS (fun _ => XS.aload X1172.here hx rfl (hb hby dd2_42) rfl rfl) ?_
  refine oS (fun _ => XS.iloadN X1172.here hx rfl (hb hby dd2_44) rfl) ?_
  show own_G p e below (T1168.setTop (mkF m 45 #[rv ob_1071, rv ob_1036, iv 0, iv 2, .val .null, rv ob_1176] [(.int 2), (.ref ob_1176), (.ref ob_1071)])) _
  have O1187 : Old Z n0 h1169 := O0.keep K1179 all0
  have Z1188 : n0 ≤ h1169.size := by omega
  obtain ⟨T1189, h1190, v1191, L1192, X1193, e1194, q1195, s1196⟩ := own_callS X1172 hx hZ hown e1173 (y := mN2) (oW hw 28 rfl) (oW hw 29 rfl) (oW hw 22 rfl) (oW hw 30 rfl) (by decide) (W := 1) (own_rm30 l Z a0 hw [] ob_1176 kk_1177 in_1 in_2 h1169 n0 Z1188 O1187 F1181) (by decide) (by decide) (by decide) (by decide) (g := (mkF m 45 #[rv ob_1071, rv ob_1036, iv 0, iv 2, .val .null, rv ob_1176] [(.int 2), (.ref ob_1176), (.ref ob_1071)])) rfl (by rw [hml]; rfl) (argsL := [(.ref ob_1176), (.int 2)]) (rest := [(.ref ob_1071)]) rfl (lenOf own_pd2 rfl) rfl (by show 2 * 0 + _ ≤ _; exact Nat.le_of_eq rfl) (hb hby dd2_45)
  refine oS s1196 ?_
  obtain ⟨rfl, N1197, K1198⟩ := q1195
  have N1199 := Fr.app N1184 N1197
  have e1200 := e1194.trans K1198
  show own_G p e below (T1189.setTop (mkF m 48 #[rv ob_1071, rv ob_1036, iv 0, iv 2, .val .null, rv ob_1176] [(.int 0), (.ref ob_1071)])) _
  have F1203 : Fld Z h1169 ob_1071 cN1 "coder" "B" (.int 0) := I1202.keep K1179 nin0
  have F1206 : Exa Z h1169 ob_1071 cN1 := I1205.keep K1179
  obtain ⟨T1207, h1208, X1209, e1210, W1211, s1212⟩ := putF X1193 hx hZ hown (host := "") (Or.inl (oW hw 31 rfl)) Via.refl e1200 F1203 F1206 (Or.inr ⟨(oW hw 32 rfl), rfl, hnm⟩) (oW hw 7 rfl) (ty := .byte) (by decide) (by decide) (by decide) (g := (mkF m 48 #[rv ob_1071, rv ob_1036, iv 0, iv 2, .val .null, rv ob_1176] [(.int 0), (.ref ob_1071)])) rfl rfl (hb hby dd2_48)
  have N1213 := Fr.snoc X1209 N1199 I1216
  have z1217 := W1211.size
  have F1218 : Fld Z h1208 ob_1071 cN1 "coder" "B" (.int 0) := Fld.same W1211 F1203
  refine oS s1212 ?_
  show own_G p e below (T1207.setTop (mkF m 51 #[rv ob_1071, rv ob_1036, iv 0, iv 2, .val .null, rv ob_1176] [])) _
  refine oS (fun _ => XS.aloadN X1209.here hx rfl (hb hby dd2_51) rfl rfl) ?_
  refine oS (fun _ => XS.aload X1209.here hx rfl (hb hby dd2_52) rfl rfl) ?_
  have F1221 : Fld Z h1169 ob_1071 cN1 "value" "[B" .null := I1220.keep K1179 nin0
  have F1222 : Fld Z h1208 ob_1071 cN1 "value" "[B" .null := Fld.other W1211 F1221 (Or.inr (slot_ne (C := cN1) (Or.inr (oW hw 34 rfl)) (Or.inr (oW hw 32 rfl)) (by decide) (t := (.array .byte)) (t' := .byte) (by decide) (by decide)))
  have F1223 : Exa Z h1208 ob_1071 cN1 := Exa.wr W1211 F1206
  obtain ⟨T1224, h1225, X1226, e1227, W1228, s1229⟩ := putF X1209 hx hZ hown (host := "") (Or.inl (oW hw 33 rfl)) Via.refl e1210 F1222 F1223 (Or.inr ⟨(oW hw 34 rfl), rfl, hnm⟩) (oW hw 7 rfl) (ty := (.array .byte)) (by decide) rfl rfl (g := (mkF m 54 #[rv ob_1071, rv ob_1036, iv 0, iv 2, .val .null, rv ob_1176] [(.ref ob_1176), (.ref ob_1071)])) rfl rfl (hb hby dd2_54)
  have N1230 := Fr.snoc X1226 N1213 I1216
  have z1231 := W1228.size
  have F1232 : Fld Z h1225 ob_1071 cN1 "value" "[B" (.ref ob_1176) := Fld.same W1228 F1222
  refine oS s1229 ?_
  show own_G p e below (T1224.setTop (mkF m 57 #[rv ob_1071, rv ob_1036, iv 0, iv 2, .val .null, rv ob_1176] [])) _
  have F1233 : Fld Z h1225 ob_1071 cN1 "coder" "B" (.int 0) := Fld.other W1228 F1218 (Or.inr (slot_ne (C := cN1) (Or.inr (oW hw 32 rfl)) (Or.inr (oW hw 34 rfl)) (by decide) (t := .byte) (t' := (.array .byte)) (by decide) (by decide)))
  have F1234 : Exa Z h1225 ob_1071 cN1 := Exa.wr W1228 F1223
  have F1237 : Fld Z h1169 ob_1071 cN1 "hash" "I" (.int 0) := I1236.keep K1179 nin0
  have F1238 : Fld Z h1208 ob_1071 cN1 "hash" "I" (.int 0) := Fld.other W1211 F1237 (Or.inr (slot_ne (C := cN1) (Or.inl (oW hw 95 rfl)) (Or.inr (oW hw 32 rfl)) (by decide) (t := .int) (t' := .byte) (by decide) (by decide)))
  have F1239 : Fld Z h1225 ob_1071 cN1 "hash" "I" (.int 0) := Fld.other W1228 F1238 (Or.inr (slot_ne (C := cN1) (Or.inl (oW hw 95 rfl)) (Or.inr (oW hw 34 rfl)) (by decide) (t := .int) (t' := (.array .byte)) (by decide) (by decide)))
  have F1242 : Fld Z h1169 ob_1071 cN1 "hashIsZero" "Z" (.int 0) := I1241.keep K1179 nin0
  have F1243 : Fld Z h1208 ob_1071 cN1 "hashIsZero" "Z" (.int 0) := Fld.other W1211 F1242 (Or.inr (slot_ne (C := cN1) (Or.inl (oW hw 97 rfl)) (Or.inr (oW hw 32 rfl)) (by decide) (t := .boolean) (t' := .byte) (by decide) (by decide)))
  have F1244 : Fld Z h1225 ob_1071 cN1 "hashIsZero" "Z" (.int 0) := Fld.other W1228 F1243 (Or.inr (slot_ne (C := cN1) (Or.inl (oW hw 97 rfl)) (Or.inr (oW hw 34 rfl)) (by decide) (t := .boolean) (t' := (.array .byte)) (by decide) (by decide)))
  have N1249 : @Ne Nat ob_1176 ob_1071 := by omega
  have F1250 : Arv Z h1208 ob_1176 kk_1177 .byte 2 [(.int ((in_1 &&& 255).toInt8.toInt32)), (.int ((in_2 &&& 255).toInt8.toInt32))] (.int 0) := F1181.other W1211 N1249
  have F1251 : Arv Z h1225 ob_1176 kk_1177 .byte 2 [(.int ((in_1 &&& 255).toInt8.toInt32)), (.int ((in_2 &&& 255).toInt8.toInt32))] (.int 0) := F1250.other W1228 N1249
  have F1252 : Exa Z h1208 ob_1176 "[B" := Exa.wr W1211 F1182
  have F1253 : Exa Z h1225 ob_1176 "[B" := Exa.wr W1228 F1252
  have y1254 : @LT.lt Nat instLTNat ob_1176 h1225.size := by omega
  have K1255 : Keep h0 h1225 [ob_1071] := ((((Keep.refl h0 [ob_1071]).trans K1179 all0).wr W1211 (Or.inl (by simp))).wr W1228 (Or.inl (by simp)))
  exact own_retV X1226 hx Bd.notSynchronized Bd.returns (hb hby dd2_57) e1227 (by decide) (by decide) (⟨ob_1176, kk_1177, rfl, N1230, K1255, (by omega), F1233, F1234, F1232, F1239, F1244, F1251, F1253, y1254⟩)
def own_Q26 (Z : State) (ob_1071 : Nat) (ob_1036 : Nat) (kk_1034 : ClassId) (in_1 : Int32) (in_2 : Int32) (in_7 : Int32) (h0 : Heap) (n0 : Nat) (v : Option Value) (h : Heap) (L : List Loc) : Prop := (∃ ob_1264 : Nat, ∃ kk_1265 : ClassId, v = none ∧ Fr n0 L ∧ Keep h0 h [ob_1071] ∧ h0.size ≤ ob_1264 ∧ Fld Z h ob_1071 cN1 "coder" "B" (.int 0) ∧ Exa Z h ob_1071 cN1 ∧ Fld Z h ob_1071 cN1 "value" "[B" (.ref ob_1264) ∧ Fld Z h ob_1071 cN1 "hash" "I" (.int 0) ∧ Fld Z h ob_1071 cN1 "hashIsZero" "Z" (.int 0) ∧ Arv Z h ob_1264 kk_1265 .byte 2 [(.int ((in_1 &&& 255).toInt8.toInt32)), (.int ((in_2 &&& 255).toInt8.toInt32))] (.int 0) ∧ Exa Z h ob_1264 "[B" ∧ @LT.lt Nat instLTNat ob_1264 h.size)
set_option maxRecDepth 65536 in
set_option maxHeartbeats 40000000 in
theorem own_rm26 (l : Launch) (Z : State) (a0 : Array Value) (hw : ∀ d ∈ tables_1, d.before a0 Z = true) (ws : List Jvm.Cond) (ob_1071 : Nat) (ob_1036 : Nat) (kk_1034 : ClassId) (in_1 : Int32) (in_2 : Int32) (in_7 : Int32) (h0 : Heap) (n0 : Nat) (Z0 : n0 ≤ h0.size) (O0 : Old Z n0 h0) (I1079 : Arv Z h0 ob_1036 kk_1034 .char 2 [(.int (in_1 &&& 255)), (.int (in_2 &&& 255))] (.int 0)) (I1085 : Sta Z Z.heap cN1 "COMPACT_STRINGS" "Z" (.int in_7)) (I1093 : ¬ (in_7 = 0)) (I1128 : @LT.lt Nat instLTNat ob_1036 h0.size) (I1201 : Fld Z h0 ob_1071 cN1 "coder" "B" (.int 0)) (I1204 : Exa Z h0 ob_1071 cN1) (I1215 : n0 ≤ ob_1071) (I1219 : Fld Z h0 ob_1071 cN1 "value" "[B" .null) (I1235 : Fld Z h0 ob_1071 cN1 "hash" "I" (.int 0)) (I1240 : Fld Z h0 ob_1071 cN1 "hashIsZero" "Z" (.int 0)) (I1246 : @LT.lt Nat instLTNat ob_1071 h0.size) :
    own_Met l Z h0 mN4 jdk_42_method_3_code 2 (Option.none : Option FieldType) ws ({ frames := 3, cells := 1, slots := 2, locals := 52 } : Room) #[(.ref ob_1071), (.ref ob_1036)] (own_Q26 Z ob_1071 ob_1036 kk_1034 in_1 in_2 in_7 h0 n0) 1 2 := by
  refine MetFree.of_bodySF own_pn4 hisR ?_
  intro p e s m args below meth c s₁ Bd hml0 hP hK
  obtain ⟨rfl, hZ, hh⟩ := hP
  have hx := Bd.exec
  have hby := Bd.bytes
  have hml : c.maxLocals = 2 := hml0
  have hown : s.vm.findClass cN1 = some m.cls := findClass_of_methodNamed Bd.named
  have hnm := (name_of_methodNamed Bd.named Bd.method).1
  have X0 : Stand p l e ({ frames := 3, cells := 1, slots := 2, locals := 52 } : Room) s m #[(.ref ob_1071), (.ref ob_1036)] below meth c s₁ [] 0 0 := Stand.of_body Bd
  have e0 : s₁.heap = h0 := by rw [← hh, Bd.state]; rfl
  have N0 := Fr.nil n0
  show own_G p e below (s₁.setTop (entryFrame m #[(.ref ob_1071), (.ref ob_1036)] 2)) (own_P s (own_Q26 Z ob_1071 ob_1036 kk_1034 in_1 in_2 in_7 h0 n0) 1 2)
  refine own_cast (own_ef2 m ob_1071 ob_1036) ?_
  show own_G p e below (s₁.setTop (mkF m 0 #[rv ob_1071, rv ob_1036] [])) _
  refine oS (fun _ => XS.aloadN X0.here hx rfl (hb hby dd1_0) rfl rfl) ?_
  refine oS (fun _ => XS.aloadN X0.here hx rfl (hb hby dd1_1) rfl rfl) ?_
  refine oS (fun _ => XS.iconst X0.here hx rfl (hb hby dd1_2) ) ?_
  refine oS (fun _ => XS.aloadN X0.here hx rfl (hb hby dd1_3) rfl rfl) ?_
  show own_G p e below (s₁.setTop (mkF m 4 #[rv ob_1071, rv ob_1036] [(.ref ob_1036), (.int 0), (.ref ob_1036), (.ref ob_1071)])) _
  refine oS (own_len X0 hx hZ e0 I1079 rfl rfl (hb hby dd1_4)) ?_
  show own_G p e below (s₁.setTop (mkF m 5 #[rv ob_1071, rv ob_1036] [(.int 2), (.int 0), (.ref ob_1036), (.ref ob_1071)])) _
  refine oS (fun _ => XS.aconstNull X0.here hx rfl (hb hby dd1_5) ) ?_
  have y1129 : @LT.lt Nat instLTNat ob_1036 h0.size := by omega
  have y1247 : @LT.lt Nat instLTNat ob_1071 h0.size := by omega
  obtain ⟨T1256, h1257, v1258, L1259, X1260, e1261, q1262, s1263⟩ := own_callN X0 hx hZ hown e0 (y := mN3) (b := ob_1071) rfl (oW hw 12 rfl) (oW hw 13 rfl) (oW hw 8 rfl) (oW hw 15 rfl) (by decide) (W := 0) (own_rm27 l Z a0 hw [] ob_1071 ob_1036 in_7 kk_1034 in_1 in_2 h0 n0 Z0 O0 I1085 I1093 I1079 y1129 I1201 I1204 I1215 I1219 I1235 I1240 y1247) (by decide) (by decide) (by decide) (by decide) (g := (mkF m 6 #[rv ob_1071, rv ob_1036] [.null, (.int 2), (.int 0), (.ref ob_1036), (.ref ob_1071)])) rfl (by rw [hml]; rfl) (argsL := [(.ref ob_1036), (.int 0), (.int 2), .null]) (rest := []) rfl (lenOf own_pd3 rfl) rfl (by show 2 * 0 + _ ≤ _; exact Nat.le_of_eq rfl) (hb hby dd1_6)
  refine oS s1263 ?_
  obtain ⟨ob_1264, kk_1265, rfl, N1266, K1267, F1268, F1269, F1270, F1271, F1272, F1273, F1274, F1275, F1276⟩ := q1262
  have N1277 := Fr.app N0 N1266
  have z1278 := K1267.1
  show own_G p e below (T1256.setTop (mkF m 9 #[rv ob_1071, rv ob_1036] [])) _
  have y1279 : @LT.lt Nat instLTNat ob_1264 h1257.size := by omega
  have K1280 : Keep h0 h1257 [ob_1071] := ((Keep.refl h0 [ob_1071]).trans K1267 (allS (Or.inl (by simp)) all0))
  exact own_retV X1260 hx Bd.notSynchronized Bd.returns (hb hby dd1_9) e1261 (by decide) (by decide) (⟨ob_1264, kk_1265, rfl, N1277, K1280, (by omega), F1269, F1270, F1271, F1272, F1273, F1274, F1275, y1279⟩)
theorem dd0_75 : decode method_2_code 75 = .ok (.invokespecial 9, 3) := by decide +kernel
theorem dd0_78 : decode method_2_code 78 = .ok (.areturn, 1) := by decide +kernel
def own_Q25 (Z : State) (in_1 : Int32) (in_2 : Int32) (in_4 : Int32) (in_7 : Int32) (h0 : Heap) (n0 : Nat) (v : Option Value) (h : Heap) (L : List Loc) : Prop := (∃ ob_1071 : Nat, ∃ ob_1294 : Nat, ∃ kk_1295 : ClassId, v = some (.ref ob_1071) ∧ Fr n0 L ∧ Keep h0 h [] ∧ h0.size ≤ ob_1071 ∧ ob_1071 < ob_1294 ∧ Exa Z h ob_1071 cN1 ∧ Fld Z h ob_1071 cN1 "coder" "B" (.int 0) ∧ Fld Z h ob_1071 cN1 "value" "[B" (.ref ob_1294) ∧ Fld Z h ob_1071 cN1 "hash" "I" (.int 0) ∧ Fld Z h ob_1071 cN1 "hashIsZero" "Z" (.int 0) ∧ Arv Z h ob_1294 kk_1295 .byte 2 [(.int ((in_1 &&& 255).toInt8.toInt32)), (.int ((in_2 &&& 255).toInt8.toInt32))] (.int 0) ∧ Exa Z h ob_1294 "[B" ∧ @LT.lt Nat instLTNat ob_1071 h.size ∧ @LT.lt Nat instLTNat ob_1294 h.size)
set_option maxRecDepth 65536 in
set_option maxHeartbeats 40000000 in
theorem own_rm25 (l : Launch) (Z : State) (a0 : Array Value) (hw : ∀ d ∈ tables_1, d.before a0 Z = true) (ws : List Jvm.Cond) (in_1 : Int32) (in_2 : Int32) (in_4 : Int32) (in_7 : Int32) (h0 : Heap) (n0 : Nat) (Z0 : n0 ≤ h0.size) (O0 : Old Z n0 h0) (I1084 : Sta Z Z.heap cN1 "COMPACT_STRINGS" "Z" (.int in_7)) (I1092 : ¬ (in_7 = 0)) :
    own_Met l Z h0 mN5 method_2_code 8 (Option.some (FieldType.object cN1)) ws ({ frames := 4, cells := 3, slots := 8, locals := 66 } : Room) #[(.int 2), (.int in_1), (.int in_2), (.int in_4)] (own_Q25 Z in_1 in_2 in_4 in_7 h0 n0) 3 8 := by
  refine MetFree.of_bodySF own_pn5 hisR ?_
  intro p e s m args below meth c s₁ Bd hml0 hP hK
  obtain ⟨rfl, hZ, hh⟩ := hP
  have hx := Bd.exec
  have hby := Bd.bytes
  have hml : c.maxLocals = 8 := hml0
  have hown : s.vm.findClass cN2 = some m.cls := findClass_of_methodNamed Bd.named
  have hnm := (name_of_methodNamed Bd.named Bd.method).1
  have X0 : Stand p l e ({ frames := 4, cells := 3, slots := 8, locals := 66 } : Room) s m #[(.int 2), (.int in_1), (.int in_2), (.int in_4)] below meth c s₁ [] 0 0 := Stand.of_body Bd
  have e0 : s₁.heap = h0 := by rw [← hh, Bd.state]; rfl
  have N0 := Fr.nil n0
  show own_G p e below (s₁.setTop (entryFrame m #[(.int 2), (.int in_1), (.int in_2), (.int in_4)] 8)) (own_P s (own_Q25 Z in_1 in_2 in_4 in_7 h0 n0) 3 8)
  refine own_cast (own_ef1 m 2 in_1 in_2 in_4) ?_
  show own_G p e below (s₁.setTop (mkF m 0 #[iv 2, iv in_1, iv in_2, iv in_4, .unset, .unset, .unset, .unset] [])) _
  refine oS (fun _ => XS.iloadN X0.here hx rfl (hb hby dd0_0) rfl) ?_
  refine oS (fun _ => XS.sipush X0.here hx rfl (hb hby dd0_1) ) ?_
  refine oS (fun _ => XS.iand X0.here hx rfl (hb hby dd0_4) rfl) ?_
  refine oS (fun _ => XT.i2c X0.here hx rfl (hb hby dd0_5) rfl) ?_
  show own_G p e below (s₁.setTop (mkF m 6 #[iv 2, iv in_1, iv in_2, iv in_4, .unset, .unset, .unset, .unset] [(.int ((in_1 &&& 255).toUInt32.toUInt16.toUInt32.toInt32))])) _
  refine own_cast (g' := (mkF m 6 #[iv 2, iv in_1, iv in_2, iv in_4, .unset, .unset, .unset, .unset] [(.int (in_1 &&& 255))])) (by rw [own_mk3]) ?_
  refine oS (fun _ => XS.istore X0.here hx rfl (hb hby dd0_6) rfl (l' := #[iv 2, iv in_1, iv in_2, iv in_4, iv (in_1 &&& 255), .unset, .unset, .unset]) rfl) ?_
  refine oS (fun _ => XS.iloadN X0.here hx rfl (hb hby dd0_8) rfl) ?_
  refine oS (fun _ => XS.sipush X0.here hx rfl (hb hby dd0_9) ) ?_
  refine oS (fun _ => XS.iand X0.here hx rfl (hb hby dd0_12) rfl) ?_
  show own_G p e below (s₁.setTop (mkF m 13 #[iv 2, iv in_1, iv in_2, iv in_4, iv (in_1 &&& 255), .unset, .unset, .unset] [(.int (in_2 &&& 255))])) _
  refine oS (fun _ => XT.i2c X0.here hx rfl (hb hby dd0_13) rfl) ?_
  show own_G p e below (s₁.setTop (mkF m 14 #[iv 2, iv in_1, iv in_2, iv in_4, iv (in_1 &&& 255), .unset, .unset, .unset] [(.int ((in_2 &&& 255).toUInt32.toUInt16.toUInt32.toInt32))])) _
  refine own_cast (g' := (mkF m 14 #[iv 2, iv in_1, iv in_2, iv in_4, iv (in_1 &&& 255), .unset, .unset, .unset] [(.int (in_2 &&& 255))])) (by rw [own_mk3]) ?_
  refine oS (fun _ => XS.istore X0.here hx rfl (hb hby dd0_14) rfl (l' := #[iv 2, iv in_1, iv in_2, iv in_4, iv (in_1 &&& 255), iv (in_2 &&& 255), .unset, .unset]) rfl) ?_
  refine oS (fun _ => XS.iloadN X0.here hx rfl (hb hby dd0_16) rfl) ?_
  refine oS (fun _ => XS.sipush X0.here hx rfl (hb hby dd0_17) ) ?_
  refine oS (fun _ => XS.iand X0.here hx rfl (hb hby dd0_20) rfl) ?_
  show own_G p e below (s₁.setTop (mkF m 21 #[iv 2, iv in_1, iv in_2, iv in_4, iv (in_1 &&& 255), iv (in_2 &&& 255), .unset, .unset] [(.int (in_4 &&& 255))])) _
  refine oS (fun _ => XT.i2c X0.here hx rfl (hb hby dd0_21) rfl) ?_
  show own_G p e below (s₁.setTop (mkF m 22 #[iv 2, iv in_1, iv in_2, iv in_4, iv (in_1 &&& 255), iv (in_2 &&& 255), .unset, .unset] [(.int ((in_4 &&& 255).toUInt32.toUInt16.toUInt32.toInt32))])) _
  refine own_cast (g' := (mkF m 22 #[iv 2, iv in_1, iv in_2, iv in_4, iv (in_1 &&& 255), iv (in_2 &&& 255), .unset, .unset] [(.int (in_4 &&& 255))])) (by rw [own_mk3]) ?_
  refine oS (fun _ => XS.istore X0.here hx rfl (hb hby dd0_22) rfl (l' := #[iv 2, iv in_1, iv in_2, iv in_4, iv (in_1 &&& 255), iv (in_2 &&& 255), iv (in_4 &&& 255), .unset]) rfl) ?_
  refine oS (fun _ => XS.iloadN X0.here hx rfl (hb hby dd0_24) rfl) ?_
  refine oS (fun _ => XS.iconst X0.here hx rfl (hb hby dd0_25) ) ?_
  refine oS (fun _ => XS.icmpYes X0.here hx rfl (pc0 := 26) (pc' := 49) rfl (hb hby dd0_26) rfl (XT.ii_ne_t (by decide)) (by decide) (by decide)) ?_
  show own_G p e below (s₁.setTop (mkF m 49 #[iv 2, iv in_1, iv in_2, iv in_4, iv (in_1 &&& 255), iv (in_2 &&& 255), iv (in_4 &&& 255), .unset] [])) _
  refine oS (fun _ => XS.iloadN X0.here hx rfl (hb hby dd0_49) rfl) ?_
  refine oS (fun _ => XS.iconst X0.here hx rfl (hb hby dd0_50) ) ?_
  refine oS (fun _ => XS.icmpNo X0.here hx rfl (hb hby dd0_51) rfl (XT.ii_ne_f (by decide))) ?_
  show own_G p e below (s₁.setTop (mkF m 54 #[iv 2, iv in_1, iv in_2, iv in_4, iv (in_1 &&& 255), iv (in_2 &&& 255), iv (in_4 &&& 255), .unset] [])) _
  refine oS (fun _ => XS.iconst X0.here hx rfl (hb hby dd0_54) ) ?_
  obtain ⟨T1025, h1026, kk_1034, X1028, e1029, E1030, A1031, B1035, s1032⟩ := own_newP X0 hx hZ (aty := .char) (oW hw 5 rfl) e0 (nm := "[C") rfl (g := (mkF m 55 #[iv 2, iv in_1, iv in_2, iv in_4, iv (in_1 &&& 255), iv (in_2 &&& 255), iv (in_4 &&& 255), .unset] [(.int 2)])) rfl (hb hby dd0_55) (n := 2) (rest := []) rfl (by decide) (cap := 2) (by decide) (by decide) (by decide) (by decide)
  obtain ⟨ob_1036, g1037⟩ : ∃ z, z = h0.size := ⟨_, rfl⟩
  rw [← g1037] at A1031 B1035 s1032
  have F1038 : Arv Z h1026 ob_1036 kk_1034 .char 2 [(.int 0), (.int 0)] (.int 0) := own_newA A1031 (by decide) rfl rfl
  have z1039 := E1030.1
  have y1033 : @LT.lt Nat instLTNat ob_1036 h1026.size := F1038.lt
  refine oS s1032 ?_
  show own_G p e below (T1025.setTop (mkF m 57 #[iv 2, iv in_1, iv in_2, iv in_4, iv (in_1 &&& 255), iv (in_2 &&& 255), iv (in_4 &&& 255), .unset] [(.ref ob_1036)])) _
  refine oS (fun _ => XS.dup X1028.here hx rfl (hb hby dd0_57) rfl rfl) ?_
  refine oS (fun _ => XS.iconst X1028.here hx rfl (hb hby dd0_58) ) ?_
  refine oS (fun _ => XS.iload X1028.here hx rfl (hb hby dd0_59) rfl) ?_
  obtain ⟨T1040, h1041, X1042, e1043, W1044, A1045, s1046⟩ := own_stC X1028 hx hZ e1029 F1038 (x' := (in_1 &&& 255)) 0 (own_mk2 in_1) rfl (by decide) (by simp) (g := (mkF m 61 #[iv 2, iv in_1, iv in_2, iv in_4, iv (in_1 &&& 255), iv (in_2 &&& 255), iv (in_4 &&& 255), .unset] [(.int (in_1 &&& 255)), (.int 0), (.ref ob_1036), (.ref ob_1036)])) rfl (rest := [(.ref ob_1036)]) rfl (hb hby dd0_61)
  have N1048 : n0 ≤ ob_1036 := by omega
  have N1047 := Fr.snoc X1042 N0 N1048
  have z1049 := W1044.size
  have F1050 : Arv Z h1041 ob_1036 kk_1034 .char 2 [(.int (in_1 &&& 255)), (.int 0)] (.int 0) := A1045
  refine oS s1046 ?_
  show own_G p e below (T1040.setTop (mkF m 62 #[iv 2, iv in_1, iv in_2, iv in_4, iv (in_1 &&& 255), iv (in_2 &&& 255), iv (in_4 &&& 255), .unset] [(.ref ob_1036)])) _
  refine oS (fun _ => XS.dup X1042.here hx rfl (hb hby dd0_62) rfl rfl) ?_
  refine oS (fun _ => XS.iconst X1042.here hx rfl (hb hby dd0_63) ) ?_
  refine oS (fun _ => XS.iload X1042.here hx rfl (hb hby dd0_64) rfl) ?_
  obtain ⟨T1051, h1052, X1053, e1054, W1055, A1056, s1057⟩ := own_stC X1042 hx hZ e1043 F1050 (x' := (in_2 &&& 255)) 1 (own_mk2 in_2) rfl (by decide) (by simp) (g := (mkF m 66 #[iv 2, iv in_1, iv in_2, iv in_4, iv (in_1 &&& 255), iv (in_2 &&& 255), iv (in_4 &&& 255), .unset] [(.int (in_2 &&& 255)), (.int 1), (.ref ob_1036), (.ref ob_1036)])) rfl (rest := [(.ref ob_1036)]) rfl (hb hby dd0_66)
  have N1058 := Fr.snoc X1053 N1047 N1048
  have z1059 := W1055.size
  have F1060 : Arv Z h1052 ob_1036 kk_1034 .char 2 [(.int (in_1 &&& 255)), (.int (in_2 &&& 255))] (.int 0) := A1056
  refine oS s1057 ?_
  show own_G p e below (T1051.setTop (mkF m 67 #[iv 2, iv in_1, iv in_2, iv in_4, iv (in_1 &&& 255), iv (in_2 &&& 255), iv (in_4 &&& 255), .unset] [(.ref ob_1036)])) _
  refine oS (fun _ => XS.astore X1053.here hx rfl (hb hby dd0_67) rfl rfl (l' := #[iv 2, iv in_1, iv in_2, iv in_4, iv (in_1 &&& 255), iv (in_2 &&& 255), iv (in_4 &&& 255), rv ob_1036]) rfl) ?_
  obtain ⟨T1061, h1062, X1063, e1064, E1065, A1066, D1067, U1070, s1068⟩ := newO X1053 hx hZ hown (oW hw 6 rfl) (oW hw 7 rfl) (oW hw 8 rfl) e1054 (g := (mkF m 69 #[iv 2, iv in_1, iv in_2, iv in_4, iv (in_1 &&& 255), iv (in_2 &&& 255), iv (in_4 &&& 255), rv ob_1036] [])) rfl (hb hby dd0_69) (by decide) (by decide)
  obtain ⟨ob_1071, g1072⟩ : ∃ z, z = h1052.size := ⟨_, rfl⟩
  rw [← g1072] at A1066 D1067 U1070 s1068
  have z1073 := E1065.1
  have y1069 : @LT.lt Nat instLTNat ob_1071 h1062.size := A1066.lt
  refine oS s1068 ?_
  have F1074 : Fld Z h1062 ob_1071 cN1 "coder" "B" (.int 0) := D1067 (Or.inr (oW hw 32 rfl)) (ty := .byte) (by decide)
  have F1075 : Fld Z h1062 ob_1071 cN1 "value" "[B" .null := D1067 (Or.inr (oW hw 34 rfl)) (ty := (.array .byte)) (by decide)
  have F1076 : Fld Z h1062 ob_1071 cN1 "hash" "I" (.int 0) := D1067 (Or.inl (oW hw 95 rfl)) (ty := .int) (by decide)
  have F1077 : Fld Z h1062 ob_1071 cN1 "hashIsZero" "Z" (.int 0) := D1067 (Or.inl (oW hw 97 rfl)) (ty := .boolean) (by decide)
  show own_G p e below (T1061.setTop (mkF m 72 #[iv 2, iv in_1, iv in_2, iv in_4, iv (in_1 &&& 255), iv (in_2 &&& 255), iv (in_4 &&& 255), rv ob_1036] [(.ref ob_1071)])) _
  refine oS (fun _ => XS.dup X1063.here hx rfl (hb hby dd0_72) rfl rfl) ?_
  refine oS (fun _ => XS.aload X1063.here hx rfl (hb hby dd0_73) rfl rfl) ?_
  have F1078 : Arv Z h1062 ob_1036 kk_1034 .char 2 [(.int (in_1 &&& 255)), (.int (in_2 &&& 255))] (.int 0) := F1060.ext E1065
  have y1127 : @LT.lt Nat instLTNat ob_1036 h1062.size := by omega
  have N1214 : n0 ≤ ob_1071 := by omega
  have y1245 : @LT.lt Nat instLTNat ob_1071 h1062.size := by omega
  have O1281 : Old Z n0 h1026 := O0.ext E1030
  have O1282 : Old Z n0 h1041 := O1281.wr W1044 N1048
  have O1283 : Old Z n0 h1052 := O1282.wr W1055 N1048
  have O1284 : Old Z n0 h1062 := O1283.ext E1065
  have Z1285 : n0 ≤ h1062.size := by omega
  obtain ⟨T1286, h1287, v1288, L1289, X1290, e1291, q1292, s1293⟩ := own_callN X1063 hx hZ hown e1064 (y := mN4) (b := ob_1071) rfl (oW hw 9 rfl) (oW hw 10 rfl) (oW hw 8 rfl) (oW hw 11 rfl) (by decide) (W := 1) (own_rm26 l Z a0 hw [] ob_1071 ob_1036 kk_1034 in_1 in_2 in_7 h1062 n0 Z1285 O1284 F1078 I1084 I1092 y1127 F1074 A1066 N1214 F1075 F1076 F1077 y1245) (by decide) (by decide) (by decide) (by decide) (g := (mkF m 75 #[iv 2, iv in_1, iv in_2, iv in_4, iv (in_1 &&& 255), iv (in_2 &&& 255), iv (in_4 &&& 255), rv ob_1036] [(.ref ob_1036), (.ref ob_1071), (.ref ob_1071)])) rfl (by rw [hml]; rfl) (argsL := [(.ref ob_1036)]) (rest := [(.ref ob_1071)]) rfl (lenOf own_pd4 rfl) rfl (by show 2 * 0 + _ ≤ _; exact Nat.le_of_eq rfl) (hb hby dd0_75)
  refine oS s1293 ?_
  obtain ⟨ob_1294, kk_1295, rfl, N1296, K1297, F1298, F1299, F1300, F1301, F1302, F1303, F1304, F1305, F1306⟩ := q1292
  have N1307 := Fr.app N1058 N1296
  have z1308 := K1297.1
  show own_G p e below (T1286.setTop (mkF m 78 #[iv 2, iv in_1, iv in_2, iv in_4, iv (in_1 &&& 255), iv (in_2 &&& 255), iv (in_4 &&& 255), rv ob_1036] [(.ref ob_1071)])) _
  have y1309 : @LT.lt Nat instLTNat ob_1071 h1287.size := by omega
  have y1310 : @LT.lt Nat instLTNat ob_1294 h1287.size := by omega
  have K1311 : Keep h0 h1287 [] := ((((((Keep.refl h0 []).ext E1030).wr W1044 (Or.inr (by omega))).wr W1055 (Or.inr (by omega))).ext E1065).trans K1297 (allS (Or.inr (by omega)) all0))
  exact own_retA X1290 hx Bd.notSynchronized Bd.returns rfl rfl (hb hby dd0_78) e1291 (by decide) (by decide) (⟨ob_1071, ob_1294, kk_1295, rfl, N1307, K1311, (by omega), (by omega), F1300, F1299, F1301, F1302, F1303, F1304, F1305, y1309, y1310⟩)
def own_Q33 (Z : State) (ob_1322 : Nat) (ob_1323 : Nat) (kk_1324 : ClassId) (in_1 : Int32) (in_2 : Int32) (h0 : Heap) (n0 : Nat) (v : Option Value) (h : Heap) (L : List Loc) : Prop := (v = some (.int 0) ∧ Fr n0 L ∧ h = h0)
set_option maxRecDepth 65536 in
set_option maxHeartbeats 40000000 in
theorem own_rm33 (l : Launch) (Z : State) (a0 : Array Value) (hw : ∀ d ∈ tables_1, d.before a0 Z = true) (ws : List Jvm.Cond) (ob_1322 : Nat) (ob_1323 : Nat) (kk_1324 : ClassId) (in_1 : Int32) (in_2 : Int32) (h0 : Heap) (n0 : Nat) (Z0 : n0 ≤ h0.size) (O0 : Old Z n0 h0) (I1404 : Fld Z h0 ob_1322 cN1 "value" "[B" (.ref ob_1323)) (I1409 : Arv Z h0 ob_1323 kk_1324 .byte 2 [(.int ((in_1 &&& 255).toInt8.toInt32)), (.int ((in_2 &&& 255).toInt8.toInt32))] (.int 0)) :
    own_Met l Z h0 mN7 jdk_42_method_55_code 1 (Option.some FieldType.boolean) ws ({ frames := 0, cells := 0, slots := 0, locals := 0 } : Room) #[(.ref ob_1322)] (own_Q33 Z ob_1322 ob_1323 kk_1324 in_1 in_2 h0 n0) 0 0 := by
  refine MetFree.of_bodySF own_pn7 hisR ?_
  intro p e s m args below meth c s₁ Bd hml0 hP hK
  obtain ⟨rfl, hZ, hh⟩ := hP
  have hx := Bd.exec
  have hby := Bd.bytes
  have hml : c.maxLocals = 1 := hml0
  have hown : s.vm.findClass cN1 = some m.cls := findClass_of_methodNamed Bd.named
  have hnm := (name_of_methodNamed Bd.named Bd.method).1
  have X0 : Stand p l e ({ frames := 0, cells := 0, slots := 0, locals := 0 } : Room) s m #[(.ref ob_1322)] below meth c s₁ [] 0 0 := Stand.of_body Bd
  have e0 : s₁.heap = h0 := by rw [← hh, Bd.state]; rfl
  have N0 := Fr.nil n0
  show own_G p e below (s₁.setTop (entryFrame m #[(.ref ob_1322)] 1)) (own_P s (own_Q33 Z ob_1322 ob_1323 kk_1324 in_1 in_2 h0 n0) 0 0)
  refine own_cast (own_ef7 m ob_1322) ?_
  show own_G p e below (s₁.setTop (mkF m 0 #[rv ob_1322] [])) _
  refine oS (fun _ => XS.aloadN X0.here hx rfl (hb hby dd8_0) rfl rfl) ?_
  obtain ⟨T1405, X1406, e1407, s1408⟩ := getF X0 hx hZ hown (host := "") (Or.inl (oW hw 33 rfl)) Via.refl e0 I1404 (g := (mkF m 1 #[rv ob_1322] [(.ref ob_1322)])) rfl rfl (hb hby dd8_1)
  refine oS s1408 ?_
  show own_G p e below (T1405.setTop (mkF m 4 #[rv ob_1322] [(.ref ob_1323)])) _
  refine oS (own_len X1406 hx hZ e1407 I1409 rfl rfl (hb hby dd8_4)) ?_
  show own_G p e below (T1405.setTop (mkF m 5 #[rv ob_1322] [(.int 2)])) _
  refine oS (fun _ => XS.ifYes X1406.here hx rfl (pc0 := 5) (pc' := 12) rfl (hb hby dd8_5) rfl (XT.i0_ne_t (by decide)) (by decide) (by decide)) ?_
  show own_G p e below (T1405.setTop (mkF m 12 #[rv ob_1322] [])) _
  refine oS (fun _ => XS.iconst X1406.here hx rfl (hb hby dd8_12) ) ?_
  exact own_retN X1406 hx (t := .boolean) Bd.notSynchronized Bd.returns (by simp) (hb hby dd8_13) (by decide) e1407 (by decide) (by decide) (⟨rfl, N0, rfl⟩)
def own_Q32 (Z : State) (ob_1322 : Nat) (ob_1323 : Nat) (kk_1324 : ClassId) (in_1 : Int32) (in_2 : Int32) (h0 : Heap) (n0 : Nat) (vm : Vm) (v : Option Value) (h : Heap) (L : List Loc) : Prop := (∃ ob_1433 : Nat, v = some (.ref ob_1433) ∧ Fr n0 L ∧ Keep h0 h [] ∧ h0.size ≤ ob_1433 ∧ Exa Z h ob_1433 cN4 ∧ Fld Z h ob_1433 cN4 "name" cN5 (.ref ob_1322) ∧ @LT.lt Nat instLTNat ob_1433 h.size)
set_option maxRecDepth 65536 in
set_option maxHeartbeats 40000000 in
theorem own_rm32 (l : Launch) (Z : State) (a0 : Array Value) (hw : ∀ d ∈ tables_1, d.before a0 Z = true) (hEL : EW Z a0 own_EL) (ws : List Jvm.Cond) (ob_1322 : Nat) (ob_1323 : Nat) (kk_1324 : ClassId) (in_1 : Int32) (in_2 : Int32) (h0 : Heap) (n0 : Nat) (Z0 : n0 ≤ h0.size) (O0 : Old Z n0 h0) (I1398 : Exa Z h0 ob_1322 cN1) (I1400 : Fld Z h0 ob_1322 cN1 "value" "[B" (.ref ob_1323)) (I1402 : Arv Z h0 ob_1323 kk_1324 .byte 2 [(.int ((in_1 &&& 255).toInt8.toInt32)), (.int ((in_2 &&& 255).toInt8.toInt32))] (.int 0)) :
    own_MetW l Z own_EL [] h0 mN9 prog_11_method_2_code 1 (Option.some (FieldType.object cN4)) ws ({ frames := 2, cells := 3, slots := 21, locals := 26 } : Room) #[(.ref ob_1322)] (own_Q32 Z ob_1322 ob_1323 kk_1324 in_1 in_2 h0 n0) 3 21 := by
  refine MetFree.of_bodySF own_pn9 hisR ?_
  intro p e s m args below meth c s₁ Bd hml0 hP hK
  obtain ⟨rfl, hZ, hh, hCH, hsf⟩ := hP
  have hx := Bd.exec
  have hby := Bd.bytes
  have hml : c.maxLocals = 1 := hml0
  have hown : (s.setVm s.vm).vm.findClass cN4 = some m.cls := findClass_of_methodNamed Bd.named
  have hnm := (name_of_methodNamed Bd.named Bd.method).1
  have hZ : Z.Warmed39 (s.setVm s.vm).vm := hZ
  have hS : s.Since s.vm 0 := (State.WarmedH.refl s).since 0
  have X0 : Stand p l e ({ frames := 2, cells := 3, slots := 21, locals := 26 } : Room) (s.setVm s.vm) m #[(.ref ob_1322)] below meth c s₁ [] 0 0 := Stand.of_body Bd
  have e0 : s₁.heap = h0 := by rw [← hh, Bd.state]; rfl
  have hR : CHr Z own_EL s.vm h0 s.vm h0 := CHr.refl hCH
  have N0 := Fr.nil n0
  show own_G p e below (s₁.setTop (entryFrame m #[(.ref ob_1322)] 1)) (own_PW Z own_EL s (own_Q32 Z ob_1322 ob_1323 kk_1324 in_1 in_2 h0 n0) 3 21)
  refine own_cast (own_ef7 m ob_1322) ?_
  show own_G p e below (s₁.setTop (mkF m 0 #[rv ob_1322] [])) _
  refine oS (fun _ => XS.aloadN X0.here hx rfl (hb hby dd6_0) rfl rfl) ?_
  obtain ⟨ob_1377, T1368, h1369, k1370, X1371, e1372, E1373, hS, hk, hZ, hown, A1374, L1375, s1376⟩ := ldcOH X0 hx hZ hown (oW hw 39 rfl) (own_sk hw) e0 hS (by omega) hEL hR.1 (g := (mkF m 1 #[rv ob_1322] [(.ref ob_1322)])) rfl (hb hby dd6_1) (n := 16) (by decide) (by decide) (by decide) (by decide)
  have z1378 := E1373.1
  refine oS s1376 ?_
  have R1379 : CHr Z own_EL s.vm h0 T1368.vm h1369 := hR.trans A1374
  show own_G p e below (T1368.setTop (mkF m 3 #[rv ob_1322] [(.ref ob_1377), (.ref ob_1322)])) _
  have O1380 : Old Z n0 h1369 := O0.ext E1373
  have Z1381 : n0 ≤ h1369.size := by omega
  obtain ⟨T1382, h1383, v1384, L1385, X1386, e1387, q1388, s1389⟩ := own_callS X1371 hx hZ hown e1372 (y := mN6) (oW hw 42 rfl) (oW hw 43 rfl) (oW hw 44 rfl) (oW hw 45 rfl) (by decide) (W := 0) (own_rm10 l Z a0 hw [] ob_1322 ob_1377 h1369 n0 Z1381 O1380 ) (by decide) (by decide) (by decide) (by decide) (g := (mkF m 3 #[rv ob_1322] [(.ref ob_1377), (.ref ob_1322)])) rfl (by rw [hml]; rfl) (argsL := [(.ref ob_1322), (.ref ob_1377)]) (rest := []) rfl (lenOf own_pd6 rfl) rfl (by show 2 * 0 + _ ≤ _; exact Nat.le_of_eq rfl) (hb hby dd6_3)
  refine oS s1389 ?_
  obtain ⟨rfl, N1390, K1391⟩ := q1388
  have N1392 := Fr.app N0 N1390
  have e1393 := e1387.trans K1391
  show own_G p e below (T1382.setTop (mkF m 6 #[rv ob_1322] [(.ref ob_1322)])) _
  have F1399 : Exa Z h1369 ob_1322 cN1 := Exa.ext E1373 I1398
  obtain ⟨T1394, X1395, e1396, s1397⟩ := castY X1386 hx hZ hown (oW hw 46 rfl) e1393 (Ins.self F1399) (g := (mkF m 6 #[rv ob_1322] [(.ref ob_1322)])) rfl rfl (hb hby dd6_6)
  refine oS s1397 ?_
  show own_G p e below (T1394.setTop (mkF m 9 #[rv ob_1322] [(.ref ob_1322)])) _
  have F1401 : Fld Z h1369 ob_1322 cN1 "value" "[B" (.ref ob_1323) := Fld.ext E1373 I1400
  have F1403 : Arv Z h1369 ob_1323 kk_1324 .byte 2 [(.int ((in_1 &&& 255).toInt8.toInt32)), (.int ((in_2 &&& 255).toInt8.toInt32))] (.int 0) := I1402.ext E1373
  have Z1410 : n0 ≤ h1369.size := by omega
  obtain ⟨T1411, h1412, v1413, L1414, X1415, e1416, q1417, s1418⟩ := own_callV X1395 hx hZ hown e1396 (y := mN7) (z := mN7) (C := cN1) (b := ob_1322) (oW hw 47 rfl) (oW hw 48 rfl) (notFace_of_selects (args := #[]) (mvT hZ (oW hw 50 rfl))) (oW hw 50 rfl) (oW hw 49 rfl) (oW hw 8 rfl) (oW hw 51 rfl) (by decide) F1399 (W := 0) (own_rm33 l Z a0 hw [] ob_1322 ob_1323 kk_1324 in_1 in_2 h1369 n0 Z1410 O1380 F1401 F1403) (by decide) (by decide) (by decide) (by decide) (g := (mkF m 9 #[rv ob_1322] [(.ref ob_1322)])) rfl (by rw [hml]; rfl) (argsL := []) (rest := []) rfl (lenOf own_pd7 rfl) rfl (by show 2 * 0 + _ ≤ _; exact Nat.le_of_eq rfl) (hb hby dd6_9)
  refine oS s1418 ?_
  obtain ⟨rfl, N1419, K1420⟩ := q1417
  have N1421 := Fr.app N1392 N1419
  have e1422 := e1416.trans K1420
  show own_G p e below (T1411.setTop (mkF m 12 #[rv ob_1322] [(.int 0)])) _
  refine oS (fun _ => XS.ifYes X1415.here hx rfl (pc0 := 12) (pc' := 25) rfl (hb hby dd6_12) rfl (XT.i0_eq_t (by decide)) (by decide) (by decide)) ?_
  show own_G p e below (T1411.setTop (mkF m 25 #[rv ob_1322] [])) _
  obtain ⟨T1423, h1424, X1425, e1426, E1427, A1428, D1429, U1432, s1430⟩ := newO X1415 hx hZ hown (oW hw 52 rfl) (oW hw 53 rfl) (oW hw 37 rfl) e1422 (g := (mkF m 25 #[rv ob_1322] [])) rfl (hb hby dd6_25) (by decide) (by decide)
  obtain ⟨ob_1433, g1434⟩ : ∃ z, z = h1369.size := ⟨_, rfl⟩
  rw [← g1434] at A1428 D1429 U1432 s1430
  have z1435 := E1427.1
  have y1431 : @LT.lt Nat instLTNat ob_1433 h1424.size := A1428.lt
  refine oS s1430 ?_
  have R1436 : CHr Z own_EL s.vm h0 T1368.vm h1424 := R1379.trans (CHr.ext E1427 R1379.1)
  have F1437 : Fld Z h1424 ob_1433 cN4 "name" cN5 .null := D1429 (Or.inr (oW hw 59 rfl)) (ty := (.object cN1)) (by decide)
  show own_G p e below (T1423.setTop (mkF m 28 #[rv ob_1322] [(.ref ob_1433)])) _
  refine oS (fun _ => XS.dup X1425.here hx rfl (hb hby dd6_28) rfl rfl) ?_
  refine oS (fun _ => XS.aloadN X1425.here hx rfl (hb hby dd6_29) rfl rfl) ?_
  have N1438 : n0 ≤ ob_1433 := by omega
  have O1439 : Old Z n0 h1424 := O1380.ext E1427
  have Z1440 : n0 ≤ h1424.size := by omega
  obtain ⟨T1441, h1442, v1443, L1444, X1445, e1446, q1447, s1448⟩ := own_callN X1425 hx hZ hown e1426 (y := mN8) (b := ob_1433) rfl (oW hw 54 rfl) (oW hw 55 rfl) (oW hw 37 rfl) (oW hw 56 rfl) (by decide) (W := 1) (own_rm12 l Z a0 hw [] ob_1433 ob_1322 h1424 n0 Z1440 O1439 F1437 A1428 N1438) (by decide) (by decide) (by decide) (by decide) (g := (mkF m 30 #[rv ob_1322] [(.ref ob_1322), (.ref ob_1433), (.ref ob_1433)])) rfl (by rw [hml]; rfl) (argsL := [(.ref ob_1322)]) (rest := [(.ref ob_1433)]) rfl (lenOf own_pd8 rfl) rfl (by show 2 * 0 + _ ≤ _; exact Nat.le_of_eq rfl) (hb hby dd6_30)
  refine oS s1448 ?_
  obtain ⟨rfl, N1449, K1450, F1451, F1452⟩ := q1447
  have N1453 := Fr.app N1421 N1449
  have R1454 : CHr Z own_EL s.vm h0 T1368.vm h1442 := R1436.trans (CHr.keep K1450 (sfS own_safe0 sf0) R1436.1)
  have z1455 := K1450.1
  show own_G p e below (T1441.setTop (mkF m 33 #[rv ob_1322] [(.ref ob_1433)])) _
  have y1456 : @LT.lt Nat instLTNat ob_1433 h1442.size := by omega
  have K1457 : Keep h0 h1442 [] := ((((Keep.refl h0 []).ext E1373).ext E1427).trans K1450 (allS (Or.inr (by omega)) all0))
  exact own_retAW X1445 hx Bd.notSynchronized Bd.returns rfl rfl (hb hby dd6_33) hS hZ hEL hh R1454 e1446 (by omega) (by decide) (by decide) (fun hA => ⟨ob_1433, rfl, N1453, K1457, (by omega), F1452, F1451, y1456⟩)
def own_Q35 (Z : State) (ob_1007 : Nat) (ob_1323 : Nat) (kk_1008 : ClassId) (in_1 : Int32) (kk_1324 : ClassId) (in_2 : Int32) (h0 : Heap) (n0 : Nat) (v : Option Value) (h : Heap) (L : List Loc) : Prop := (v = some (.int 0) ∧ Fr n0 L ∧ h = h0)
set_option maxRecDepth 65536 in
set_option maxHeartbeats 40000000 in
theorem own_rm35 (l : Launch) (Z : State) (a0 : Array Value) (hw : ∀ d ∈ tables_1, d.before a0 Z = true) (ws : List Jvm.Cond) (ob_1007 : Nat) (ob_1323 : Nat) (kk_1008 : ClassId) (in_1 : Int32) (kk_1324 : ClassId) (in_2 : Int32) (h0 : Heap) (n0 : Nat) (Z0 : n0 ≤ h0.size) (O0 : Old Z n0 h0) (I1533 : Arv Z h0 ob_1007 kk_1008 .byte 1 [(.int ((in_1 &&& 255).toInt8.toInt32))] (.int 0)) (I1534 : Arv Z h0 ob_1323 kk_1324 .byte 2 [(.int ((in_1 &&& 255).toInt8.toInt32)), (.int ((in_2 &&& 255).toInt8.toInt32))] (.int 0)) :
    own_Met l Z h0 mN10 jdk_43_method_13_code 3 (Option.some FieldType.boolean) ws ({ frames := 0, cells := 0, slots := 0, locals := 0 } : Room) #[(.ref ob_1007), (.ref ob_1323)] (own_Q35 Z ob_1007 ob_1323 kk_1008 in_1 kk_1324 in_2 h0 n0) 0 0 := by
  refine MetFree.of_bodySF own_pn10 hisR ?_
  intro p e s m args below meth c s₁ Bd hml0 hP hK
  obtain ⟨rfl, hZ, hh⟩ := hP
  have hx := Bd.exec
  have hby := Bd.bytes
  have hml : c.maxLocals = 3 := hml0
  have hown : s.vm.findClass cN6 = some m.cls := findClass_of_methodNamed Bd.named
  have hnm := (name_of_methodNamed Bd.named Bd.method).1
  have X0 : Stand p l e ({ frames := 0, cells := 0, slots := 0, locals := 0 } : Room) s m #[(.ref ob_1007), (.ref ob_1323)] below meth c s₁ [] 0 0 := Stand.of_body Bd
  have e0 : s₁.heap = h0 := by rw [← hh, Bd.state]; rfl
  have N0 := Fr.nil n0
  show own_G p e below (s₁.setTop (entryFrame m #[(.ref ob_1007), (.ref ob_1323)] 3)) (own_P s (own_Q35 Z ob_1007 ob_1323 kk_1008 in_1 kk_1324 in_2 h0 n0) 0 0)
  refine own_cast (own_ef8 m ob_1007 ob_1323) ?_
  show own_G p e below (s₁.setTop (mkF m 0 #[rv ob_1007, rv ob_1323, .unset] [])) _
  refine oS (fun _ => XS.aloadN X0.here hx rfl (hb hby dd11_0) rfl rfl) ?_
  refine oS (own_len X0 hx hZ e0 I1533 rfl rfl (hb hby dd11_1)) ?_
  show own_G p e below (s₁.setTop (mkF m 2 #[rv ob_1007, rv ob_1323, .unset] [(.int 1)])) _
  refine oS (fun _ => XS.aloadN X0.here hx rfl (hb hby dd11_2) rfl rfl) ?_
  refine oS (own_len X0 hx hZ e0 I1534 rfl rfl (hb hby dd11_3)) ?_
  show own_G p e below (s₁.setTop (mkF m 4 #[rv ob_1007, rv ob_1323, .unset] [(.int 2), (.int 1)])) _
  refine oS (fun _ => XS.icmpYes X0.here hx rfl (pc0 := 4) (pc' := 34) rfl (hb hby dd11_4) rfl (XT.ii_ne_t (by decide)) (by decide) (by decide)) ?_
  show own_G p e below (s₁.setTop (mkF m 34 #[rv ob_1007, rv ob_1323, .unset] [])) _
  refine oS (fun _ => XS.iconst X0.here hx rfl (hb hby dd11_34) ) ?_
  exact own_retN X0 hx (t := .boolean) Bd.notSynchronized Bd.returns (by simp) (hb hby dd11_35) (by decide) e0 (by decide) (by decide) (⟨rfl, N0, rfl⟩)
def own_Q34 (Z : State) (ob_1006 : Nat) (ob_1322 : Nat) (in_7 : Int32) (ob_1007 : Nat) (ob_1323 : Nat) (kk_1008 : ClassId) (in_1 : Int32) (kk_1324 : ClassId) (in_2 : Int32) (h0 : Heap) (n0 : Nat) (v : Option Value) (h : Heap) (L : List Loc) : Prop := (v = some (.int 0) ∧ Fr n0 L ∧ h = h0)
set_option maxRecDepth 65536 in
set_option maxHeartbeats 40000000 in
theorem own_rm34 (l : Launch) (Z : State) (a0 : Array Value) (hw : ∀ d ∈ tables_1, d.before a0 Z = true) (ws : List Jvm.Cond) (ob_1006 : Nat) (ob_1322 : Nat) (in_7 : Int32) (ob_1007 : Nat) (ob_1323 : Nat) (kk_1008 : ClassId) (in_1 : Int32) (kk_1324 : ClassId) (in_2 : Int32) (h0 : Heap) (n0 : Nat) (Z0 : n0 ≤ h0.size) (O0 : Old Z n0 h0) (I1494 : @Ne Nat ob_1006 ob_1322) (I1499 : Exa Z h0 ob_1322 cN1) (I1504 : Sta Z Z.heap cN1 "COMPACT_STRINGS" "Z" (.int in_7)) (I1510 : ¬ (in_7 = 0)) (I1511 : Fld Z h0 ob_1006 cN1 "coder" "B" (.int 0)) (I1516 : Fld Z h0 ob_1322 cN1 "coder" "B" (.int 0)) (I1521 : Fld Z h0 ob_1006 cN1 "value" "[B" (.ref ob_1007)) (I1526 : Fld Z h0 ob_1322 cN1 "value" "[B" (.ref ob_1323)) (I1531 : Arv Z h0 ob_1007 kk_1008 .byte 1 [(.int ((in_1 &&& 255).toInt8.toInt32))] (.int 0)) (I1532 : Arv Z h0 ob_1323 kk_1324 .byte 2 [(.int ((in_1 &&& 255).toInt8.toInt32)), (.int ((in_2 &&& 255).toInt8.toInt32))] (.int 0)) :
    own_Met l Z h0 mN11 jdk_42_method_66_code 3 (Option.some FieldType.boolean) ws ({ frames := 1, cells := 0, slots := 0, locals := 14 } : Room) #[(.ref ob_1006), (.ref ob_1322)] (own_Q34 Z ob_1006 ob_1322 in_7 ob_1007 ob_1323 kk_1008 in_1 kk_1324 in_2 h0 n0) 0 0 := by
  refine MetFree.of_bodySF own_pn11 hisR ?_
  intro p e s m args below meth c s₁ Bd hml0 hP hK
  obtain ⟨rfl, hZ, hh⟩ := hP
  have hx := Bd.exec
  have hby := Bd.bytes
  have hml : c.maxLocals = 3 := hml0
  have hown : s.vm.findClass cN1 = some m.cls := findClass_of_methodNamed Bd.named
  have hnm := (name_of_methodNamed Bd.named Bd.method).1
  have X0 : Stand p l e ({ frames := 1, cells := 0, slots := 0, locals := 14 } : Room) s m #[(.ref ob_1006), (.ref ob_1322)] below meth c s₁ [] 0 0 := Stand.of_body Bd
  have e0 : s₁.heap = h0 := by rw [← hh, Bd.state]; rfl
  have N0 := Fr.nil n0
  show own_G p e below (s₁.setTop (entryFrame m #[(.ref ob_1006), (.ref ob_1322)] 3)) (own_P s (own_Q34 Z ob_1006 ob_1322 in_7 ob_1007 ob_1323 kk_1008 in_1 kk_1324 in_2 h0 n0) 0 0)
  refine own_cast (own_ef8 m ob_1006 ob_1322) ?_
  show own_G p e below (s₁.setTop (mkF m 0 #[rv ob_1006, rv ob_1322, .unset] [])) _
  refine oS (fun _ => XS.aloadN X0.here hx rfl (hb hby dd10_0) rfl rfl) ?_
  refine oS (fun _ => XS.aloadN X0.here hx rfl (hb hby dd10_1) rfl rfl) ?_
  refine oS (fun _ => XT.acmpYes X0.here hx rfl (pc0 := 2) (pc' := 7) rfl (hb hby dd10_2) rfl rfl rfl (XT.aa_ne_t (own_rne I1494)) (by decide) (by decide)) ?_
  show own_G p e below (s₁.setTop (mkF m 7 #[rv ob_1006, rv ob_1322, .unset] [])) _
  refine oS (fun _ => XS.aloadN X0.here hx rfl (hb hby dd10_7) rfl rfl) ?_
  obtain ⟨T1495, X1496, e1497, s1498⟩ := instY X0 hx hZ hown (oW hw 65 rfl) e0 (Ins.self I1499) (g := (mkF m 8 #[rv ob_1006, rv ob_1322, .unset] [(.ref ob_1322)])) rfl rfl (hb hby dd10_8)
  refine oS s1498 ?_
  show own_G p e below (T1495.setTop (mkF m 11 #[rv ob_1006, rv ob_1322, .unset] [(.int 1)])) _
  refine oS (fun _ => XS.ifNo X1496.here hx rfl (hb hby dd10_11) rfl (XT.i0_eq_f (by decide))) ?_
  show own_G p e below (T1495.setTop (mkF m 14 #[rv ob_1006, rv ob_1322, .unset] [])) _
  refine oS (fun _ => XS.aloadN X1496.here hx rfl (hb hby dd10_14) rfl rfl) ?_
  obtain ⟨T1500, X1501, e1502, s1503⟩ := castY X1496 hx hZ hown (oW hw 65 rfl) e1497 (Ins.self I1499) (g := (mkF m 15 #[rv ob_1006, rv ob_1322, .unset] [(.ref ob_1322)])) rfl rfl (hb hby dd10_15)
  refine oS s1503 ?_
  show own_G p e below (T1500.setTop (mkF m 18 #[rv ob_1006, rv ob_1322, .unset] [(.ref ob_1322)])) _
  refine oS (fun _ => XS.astoreN X1501.here hx rfl (hb hby dd10_18) rfl rfl (l' := #[rv ob_1006, rv ob_1322, rv ob_1322]) rfl) ?_
  have F1505 : Sta Z h0 cN1 "COMPACT_STRINGS" "Z" (.int in_7) := Sta.ext O0.2 I1504
  obtain ⟨T1506, X1507, e1508, s1509⟩ := getS X1501 hx hZ hown (host := "") (oW hw 19 rfl) Via.refl e1502 F1505 (g := (mkF m 19 #[rv ob_1006, rv ob_1322, rv ob_1322] [])) rfl (hb hby dd10_19)
  refine oS s1509 ?_
  show own_G p e below (T1506.setTop (mkF m 22 #[rv ob_1006, rv ob_1322, rv ob_1322] [(.int in_7)])) _
  refine oS (fun _ => XS.ifNo X1507.here hx rfl (hb hby dd10_22) rfl (XT.i0_eq_f I1510)) ?_
  show own_G p e below (T1506.setTop (mkF m 25 #[rv ob_1006, rv ob_1322, rv ob_1322] [])) _
  refine oS (fun _ => XS.aloadN X1507.here hx rfl (hb hby dd10_25) rfl rfl) ?_
  obtain ⟨T1512, X1513, e1514, s1515⟩ := getF X1507 hx hZ hown (host := "") (Or.inl (oW hw 31 rfl)) Via.refl e1508 I1511 (g := (mkF m 26 #[rv ob_1006, rv ob_1322, rv ob_1322] [(.ref ob_1006)])) rfl rfl (hb hby dd10_26)
  refine oS s1515 ?_
  show own_G p e below (T1512.setTop (mkF m 29 #[rv ob_1006, rv ob_1322, rv ob_1322] [(.int 0)])) _
  refine oS (fun _ => XS.aloadN X1513.here hx rfl (hb hby dd10_29) rfl rfl) ?_
  obtain ⟨T1517, X1518, e1519, s1520⟩ := getF X1513 hx hZ hown (host := "") (Or.inl (oW hw 31 rfl)) Via.refl e1514 I1516 (g := (mkF m 30 #[rv ob_1006, rv ob_1322, rv ob_1322] [(.ref ob_1322), (.int 0)])) rfl rfl (hb hby dd10_30)
  refine oS s1520 ?_
  show own_G p e below (T1517.setTop (mkF m 33 #[rv ob_1006, rv ob_1322, rv ob_1322] [(.int 0), (.int 0)])) _
  refine oS (fun _ => XS.icmpNo X1518.here hx rfl (hb hby dd10_33) rfl (XT.ii_ne_f (by decide))) ?_
  show own_G p e below (T1517.setTop (mkF m 36 #[rv ob_1006, rv ob_1322, rv ob_1322] [])) _
  refine oS (fun _ => XS.aloadN X1518.here hx rfl (hb hby dd10_36) rfl rfl) ?_
  obtain ⟨T1522, X1523, e1524, s1525⟩ := getF X1518 hx hZ hown (host := "") (Or.inl (oW hw 33 rfl)) Via.refl e1519 I1521 (g := (mkF m 37 #[rv ob_1006, rv ob_1322, rv ob_1322] [(.ref ob_1006)])) rfl rfl (hb hby dd10_37)
  refine oS s1525 ?_
  show own_G p e below (T1522.setTop (mkF m 40 #[rv ob_1006, rv ob_1322, rv ob_1322] [(.ref ob_1007)])) _
  refine oS (fun _ => XS.aloadN X1523.here hx rfl (hb hby dd10_40) rfl rfl) ?_
  obtain ⟨T1527, X1528, e1529, s1530⟩ := getF X1523 hx hZ hown (host := "") (Or.inl (oW hw 33 rfl)) Via.refl e1524 I1526 (g := (mkF m 41 #[rv ob_1006, rv ob_1322, rv ob_1322] [(.ref ob_1322), (.ref ob_1007)])) rfl rfl (hb hby dd10_41)
  refine oS s1530 ?_
  show own_G p e below (T1527.setTop (mkF m 44 #[rv ob_1006, rv ob_1322, rv ob_1322] [(.ref ob_1323), (.ref ob_1007)])) _
  obtain ⟨T1535, h1536, v1537, L1538, X1539, e1540, q1541, s1542⟩ := own_callS X1528 hx hZ hown e1529 (y := mN10) (oW hw 66 rfl) (oW hw 67 rfl) (oW hw 68 rfl) (oW hw 69 rfl) (by decide) (W := 0) (own_rm35 l Z a0 hw [] ob_1007 ob_1323 kk_1008 in_1 kk_1324 in_2 h0 n0 Z0 O0 I1531 I1532) (by decide) (by decide) (by decide) (by decide) (g := (mkF m 44 #[rv ob_1006, rv ob_1322, rv ob_1322] [(.ref ob_1323), (.ref ob_1007)])) rfl (by rw [hml]; rfl) (argsL := [(.ref ob_1007), (.ref ob_1323)]) (rest := []) rfl (lenOf own_pd10 rfl) rfl (by show 2 * 0 + _ ≤ _; exact Nat.le_of_eq rfl) (hb hby dd10_44)
  refine oS s1542 ?_
  obtain ⟨rfl, N1543, K1544⟩ := q1541
  have N1545 := Fr.app N0 N1543
  have e1546 := e1540.trans K1544
  show own_G p e below (T1535.setTop (mkF m 47 #[rv ob_1006, rv ob_1322, rv ob_1322] [(.int 0)])) _
  refine oS (fun _ => XS.ifYes X1539.here hx rfl (pc0 := 47) (pc' := 54) rfl (hb hby dd10_47) rfl (XT.i0_eq_t (by decide)) (by decide) (by decide)) ?_
  show own_G p e below (T1535.setTop (mkF m 54 #[rv ob_1006, rv ob_1322, rv ob_1322] [])) _
  refine oS (fun _ => XS.iconst X1539.here hx rfl (hb hby dd10_54) ) ?_
  exact own_retN X1539 hx (t := .boolean) Bd.notSynchronized Bd.returns (by simp) (hb hby dd10_55) (by decide) e1546 (by decide) (by decide) (⟨rfl, N1545, rfl⟩)
def own_Q38 (Z : State) (ob_1323 : Nat) (ob_1007 : Nat) (kk_1324 : ClassId) (in_1 : Int32) (in_2 : Int32) (kk_1008 : ClassId) (h0 : Heap) (n0 : Nat) (v : Option Value) (h : Heap) (L : List Loc) : Prop := (v = some (.int 0) ∧ Fr n0 L ∧ h = h0)
set_option maxRecDepth 65536 in
set_option maxHeartbeats 40000000 in
theorem own_rm38 (l : Launch) (Z : State) (a0 : Array Value) (hw : ∀ d ∈ tables_1, d.before a0 Z = true) (ws : List Jvm.Cond) (ob_1323 : Nat) (ob_1007 : Nat) (kk_1324 : ClassId) (in_1 : Int32) (in_2 : Int32) (kk_1008 : ClassId) (h0 : Heap) (n0 : Nat) (Z0 : n0 ≤ h0.size) (O0 : Old Z n0 h0) (I1701 : Arv Z h0 ob_1323 kk_1324 .byte 2 [(.int ((in_1 &&& 255).toInt8.toInt32)), (.int ((in_2 &&& 255).toInt8.toInt32))] (.int 0)) (I1704 : Arv Z h0 ob_1007 kk_1008 .byte 1 [(.int ((in_1 &&& 255).toInt8.toInt32))] (.int 0)) :
    own_Met l Z h0 mN10 jdk_43_method_13_code 3 (Option.some FieldType.boolean) ws ({ frames := 0, cells := 0, slots := 0, locals := 0 } : Room) #[(.ref ob_1323), (.ref ob_1007)] (own_Q38 Z ob_1323 ob_1007 kk_1324 in_1 in_2 kk_1008 h0 n0) 0 0 := by
  refine MetFree.of_bodySF own_pn10 hisR ?_
  intro p e s m args below meth c s₁ Bd hml0 hP hK
  obtain ⟨rfl, hZ, hh⟩ := hP
  have hx := Bd.exec
  have hby := Bd.bytes
  have hml : c.maxLocals = 3 := hml0
  have hown : s.vm.findClass cN6 = some m.cls := findClass_of_methodNamed Bd.named
  have hnm := (name_of_methodNamed Bd.named Bd.method).1
  have X0 : Stand p l e ({ frames := 0, cells := 0, slots := 0, locals := 0 } : Room) s m #[(.ref ob_1323), (.ref ob_1007)] below meth c s₁ [] 0 0 := Stand.of_body Bd
  have e0 : s₁.heap = h0 := by rw [← hh, Bd.state]; rfl
  have N0 := Fr.nil n0
  show own_G p e below (s₁.setTop (entryFrame m #[(.ref ob_1323), (.ref ob_1007)] 3)) (own_P s (own_Q38 Z ob_1323 ob_1007 kk_1324 in_1 in_2 kk_1008 h0 n0) 0 0)
  refine own_cast (own_ef8 m ob_1323 ob_1007) ?_
  show own_G p e below (s₁.setTop (mkF m 0 #[rv ob_1323, rv ob_1007, .unset] [])) _
  refine oS (fun _ => XS.aloadN X0.here hx rfl (hb hby dd11_0) rfl rfl) ?_
  refine oS (own_len X0 hx hZ e0 I1701 rfl rfl (hb hby dd11_1)) ?_
  show own_G p e below (s₁.setTop (mkF m 2 #[rv ob_1323, rv ob_1007, .unset] [(.int 2)])) _
  refine oS (fun _ => XS.aloadN X0.here hx rfl (hb hby dd11_2) rfl rfl) ?_
  refine oS (own_len X0 hx hZ e0 I1704 rfl rfl (hb hby dd11_3)) ?_
  show own_G p e below (s₁.setTop (mkF m 4 #[rv ob_1323, rv ob_1007, .unset] [(.int 1), (.int 2)])) _
  refine oS (fun _ => XS.icmpYes X0.here hx rfl (pc0 := 4) (pc' := 34) rfl (hb hby dd11_4) rfl (XT.ii_ne_t (by decide)) (by decide) (by decide)) ?_
  show own_G p e below (s₁.setTop (mkF m 34 #[rv ob_1323, rv ob_1007, .unset] [])) _
  refine oS (fun _ => XS.iconst X0.here hx rfl (hb hby dd11_34) ) ?_
  exact own_retN X0 hx (t := .boolean) Bd.notSynchronized Bd.returns (by simp) (hb hby dd11_35) (by decide) e0 (by decide) (by decide) (⟨rfl, N0, rfl⟩)
def own_Q37 (Z : State) (ob_1322 : Nat) (ob_1006 : Nat) (in_7 : Int32) (ob_1323 : Nat) (ob_1007 : Nat) (kk_1324 : ClassId) (in_1 : Int32) (in_2 : Int32) (kk_1008 : ClassId) (h0 : Heap) (n0 : Nat) (v : Option Value) (h : Heap) (L : List Loc) : Prop := (v = some (.int 0) ∧ Fr n0 L ∧ h = h0)
set_option maxRecDepth 65536 in
set_option maxHeartbeats 40000000 in
theorem own_rm37 (l : Launch) (Z : State) (a0 : Array Value) (hw : ∀ d ∈ tables_1, d.before a0 Z = true) (ws : List Jvm.Cond) (ob_1322 : Nat) (ob_1006 : Nat) (in_7 : Int32) (ob_1323 : Nat) (ob_1007 : Nat) (kk_1324 : ClassId) (in_1 : Int32) (in_2 : Int32) (kk_1008 : ClassId) (h0 : Heap) (n0 : Nat) (Z0 : n0 ≤ h0.size) (O0 : Old Z n0 h0) (I1663 : @Ne Nat ob_1322 ob_1006) (I1668 : Exa Z h0 ob_1006 cN1) (I1673 : Sta Z Z.heap cN1 "COMPACT_STRINGS" "Z" (.int in_7)) (I1679 : ¬ (in_7 = 0)) (I1680 : Fld Z h0 ob_1322 cN1 "coder" "B" (.int 0)) (I1685 : Fld Z h0 ob_1006 cN1 "coder" "B" (.int 0)) (I1690 : Fld Z h0 ob_1322 cN1 "value" "[B" (.ref ob_1323)) (I1695 : Fld Z h0 ob_1006 cN1 "value" "[B" (.ref ob_1007)) (I1700 : Arv Z h0 ob_1323 kk_1324 .byte 2 [(.int ((in_1 &&& 255).toInt8.toInt32)), (.int ((in_2 &&& 255).toInt8.toInt32))] (.int 0)) (I1703 : Arv Z h0 ob_1007 kk_1008 .byte 1 [(.int ((in_1 &&& 255).toInt8.toInt32))] (.int 0)) :
    own_Met l Z h0 mN11 jdk_42_method_66_code 3 (Option.some FieldType.boolean) ws ({ frames := 1, cells := 0, slots := 0, locals := 14 } : Room) #[(.ref ob_1322), (.ref ob_1006)] (own_Q37 Z ob_1322 ob_1006 in_7 ob_1323 ob_1007 kk_1324 in_1 in_2 kk_1008 h0 n0) 0 0 := by
  refine MetFree.of_bodySF own_pn11 hisR ?_
  intro p e s m args below meth c s₁ Bd hml0 hP hK
  obtain ⟨rfl, hZ, hh⟩ := hP
  have hx := Bd.exec
  have hby := Bd.bytes
  have hml : c.maxLocals = 3 := hml0
  have hown : s.vm.findClass cN1 = some m.cls := findClass_of_methodNamed Bd.named
  have hnm := (name_of_methodNamed Bd.named Bd.method).1
  have X0 : Stand p l e ({ frames := 1, cells := 0, slots := 0, locals := 14 } : Room) s m #[(.ref ob_1322), (.ref ob_1006)] below meth c s₁ [] 0 0 := Stand.of_body Bd
  have e0 : s₁.heap = h0 := by rw [← hh, Bd.state]; rfl
  have N0 := Fr.nil n0
  show own_G p e below (s₁.setTop (entryFrame m #[(.ref ob_1322), (.ref ob_1006)] 3)) (own_P s (own_Q37 Z ob_1322 ob_1006 in_7 ob_1323 ob_1007 kk_1324 in_1 in_2 kk_1008 h0 n0) 0 0)
  refine own_cast (own_ef8 m ob_1322 ob_1006) ?_
  show own_G p e below (s₁.setTop (mkF m 0 #[rv ob_1322, rv ob_1006, .unset] [])) _
  refine oS (fun _ => XS.aloadN X0.here hx rfl (hb hby dd10_0) rfl rfl) ?_
  refine oS (fun _ => XS.aloadN X0.here hx rfl (hb hby dd10_1) rfl rfl) ?_
  refine oS (fun _ => XT.acmpYes X0.here hx rfl (pc0 := 2) (pc' := 7) rfl (hb hby dd10_2) rfl rfl rfl (XT.aa_ne_t (own_rne I1663)) (by decide) (by decide)) ?_
  show own_G p e below (s₁.setTop (mkF m 7 #[rv ob_1322, rv ob_1006, .unset] [])) _
  refine oS (fun _ => XS.aloadN X0.here hx rfl (hb hby dd10_7) rfl rfl) ?_
  obtain ⟨T1664, X1665, e1666, s1667⟩ := instY X0 hx hZ hown (oW hw 65 rfl) e0 (Ins.self I1668) (g := (mkF m 8 #[rv ob_1322, rv ob_1006, .unset] [(.ref ob_1006)])) rfl rfl (hb hby dd10_8)
  refine oS s1667 ?_
  show own_G p e below (T1664.setTop (mkF m 11 #[rv ob_1322, rv ob_1006, .unset] [(.int 1)])) _
  refine oS (fun _ => XS.ifNo X1665.here hx rfl (hb hby dd10_11) rfl (XT.i0_eq_f (by decide))) ?_
  show own_G p e below (T1664.setTop (mkF m 14 #[rv ob_1322, rv ob_1006, .unset] [])) _
  refine oS (fun _ => XS.aloadN X1665.here hx rfl (hb hby dd10_14) rfl rfl) ?_
  obtain ⟨T1669, X1670, e1671, s1672⟩ := castY X1665 hx hZ hown (oW hw 65 rfl) e1666 (Ins.self I1668) (g := (mkF m 15 #[rv ob_1322, rv ob_1006, .unset] [(.ref ob_1006)])) rfl rfl (hb hby dd10_15)
  refine oS s1672 ?_
  show own_G p e below (T1669.setTop (mkF m 18 #[rv ob_1322, rv ob_1006, .unset] [(.ref ob_1006)])) _
  refine oS (fun _ => XS.astoreN X1670.here hx rfl (hb hby dd10_18) rfl rfl (l' := #[rv ob_1322, rv ob_1006, rv ob_1006]) rfl) ?_
  have F1674 : Sta Z h0 cN1 "COMPACT_STRINGS" "Z" (.int in_7) := Sta.ext O0.2 I1673
  obtain ⟨T1675, X1676, e1677, s1678⟩ := getS X1670 hx hZ hown (host := "") (oW hw 19 rfl) Via.refl e1671 F1674 (g := (mkF m 19 #[rv ob_1322, rv ob_1006, rv ob_1006] [])) rfl (hb hby dd10_19)
  refine oS s1678 ?_
  show own_G p e below (T1675.setTop (mkF m 22 #[rv ob_1322, rv ob_1006, rv ob_1006] [(.int in_7)])) _
  refine oS (fun _ => XS.ifNo X1676.here hx rfl (hb hby dd10_22) rfl (XT.i0_eq_f I1679)) ?_
  show own_G p e below (T1675.setTop (mkF m 25 #[rv ob_1322, rv ob_1006, rv ob_1006] [])) _
  refine oS (fun _ => XS.aloadN X1676.here hx rfl (hb hby dd10_25) rfl rfl) ?_
  obtain ⟨T1681, X1682, e1683, s1684⟩ := getF X1676 hx hZ hown (host := "") (Or.inl (oW hw 31 rfl)) Via.refl e1677 I1680 (g := (mkF m 26 #[rv ob_1322, rv ob_1006, rv ob_1006] [(.ref ob_1322)])) rfl rfl (hb hby dd10_26)
  refine oS s1684 ?_
  show own_G p e below (T1681.setTop (mkF m 29 #[rv ob_1322, rv ob_1006, rv ob_1006] [(.int 0)])) _
  refine oS (fun _ => XS.aloadN X1682.here hx rfl (hb hby dd10_29) rfl rfl) ?_
  obtain ⟨T1686, X1687, e1688, s1689⟩ := getF X1682 hx hZ hown (host := "") (Or.inl (oW hw 31 rfl)) Via.refl e1683 I1685 (g := (mkF m 30 #[rv ob_1322, rv ob_1006, rv ob_1006] [(.ref ob_1006), (.int 0)])) rfl rfl (hb hby dd10_30)
  refine oS s1689 ?_
  show own_G p e below (T1686.setTop (mkF m 33 #[rv ob_1322, rv ob_1006, rv ob_1006] [(.int 0), (.int 0)])) _
  refine oS (fun _ => XS.icmpNo X1687.here hx rfl (hb hby dd10_33) rfl (XT.ii_ne_f (by decide))) ?_
  show own_G p e below (T1686.setTop (mkF m 36 #[rv ob_1322, rv ob_1006, rv ob_1006] [])) _
  refine oS (fun _ => XS.aloadN X1687.here hx rfl (hb hby dd10_36) rfl rfl) ?_
  obtain ⟨T1691, X1692, e1693, s1694⟩ := getF X1687 hx hZ hown (host := "") (Or.inl (oW hw 33 rfl)) Via.refl e1688 I1690 (g := (mkF m 37 #[rv ob_1322, rv ob_1006, rv ob_1006] [(.ref ob_1322)])) rfl rfl (hb hby dd10_37)
  refine oS s1694 ?_
  show own_G p e below (T1691.setTop (mkF m 40 #[rv ob_1322, rv ob_1006, rv ob_1006] [(.ref ob_1323)])) _
  refine oS (fun _ => XS.aloadN X1692.here hx rfl (hb hby dd10_40) rfl rfl) ?_
  obtain ⟨T1696, X1697, e1698, s1699⟩ := getF X1692 hx hZ hown (host := "") (Or.inl (oW hw 33 rfl)) Via.refl e1693 I1695 (g := (mkF m 41 #[rv ob_1322, rv ob_1006, rv ob_1006] [(.ref ob_1006), (.ref ob_1323)])) rfl rfl (hb hby dd10_41)
  refine oS s1699 ?_
  show own_G p e below (T1696.setTop (mkF m 44 #[rv ob_1322, rv ob_1006, rv ob_1006] [(.ref ob_1007), (.ref ob_1323)])) _
  obtain ⟨T1705, h1706, v1707, L1708, X1709, e1710, q1711, s1712⟩ := own_callS X1697 hx hZ hown e1698 (y := mN10) (oW hw 66 rfl) (oW hw 67 rfl) (oW hw 68 rfl) (oW hw 69 rfl) (by decide) (W := 0) (own_rm38 l Z a0 hw [] ob_1323 ob_1007 kk_1324 in_1 in_2 kk_1008 h0 n0 Z0 O0 I1700 I1703) (by decide) (by decide) (by decide) (by decide) (g := (mkF m 44 #[rv ob_1322, rv ob_1006, rv ob_1006] [(.ref ob_1007), (.ref ob_1323)])) rfl (by rw [hml]; rfl) (argsL := [(.ref ob_1323), (.ref ob_1007)]) (rest := []) rfl (lenOf own_pd10 rfl) rfl (by show 2 * 0 + _ ≤ _; exact Nat.le_of_eq rfl) (hb hby dd10_44)
  refine oS s1712 ?_
  obtain ⟨rfl, N1713, K1714⟩ := q1711
  have N1715 := Fr.app N0 N1713
  have e1716 := e1710.trans K1714
  show own_G p e below (T1705.setTop (mkF m 47 #[rv ob_1322, rv ob_1006, rv ob_1006] [(.int 0)])) _
  refine oS (fun _ => XS.ifYes X1709.here hx rfl (pc0 := 47) (pc' := 54) rfl (hb hby dd10_47) rfl (XT.i0_eq_t (by decide)) (by decide) (by decide)) ?_
  show own_G p e below (T1705.setTop (mkF m 54 #[rv ob_1322, rv ob_1006, rv ob_1006] [])) _
  refine oS (fun _ => XS.iconst X1709.here hx rfl (hb hby dd10_54) ) ?_
  exact own_retN X1709 hx (t := .boolean) Bd.notSynchronized Bd.returns (by simp) (hb hby dd10_55) (by decide) e1716 (by decide) (by decide) (⟨rfl, N1715, rfl⟩)
def own_Q36 (Z : State) (ob_1355 : Nat) (ob_1469 : Nat) (ob_1322 : Nat) (ob_1006 : Nat) (in_7 : Int32) (ob_1323 : Nat) (ob_1007 : Nat) (kk_1324 : ClassId) (in_1 : Int32) (in_2 : Int32) (kk_1008 : ClassId) (h0 : Heap) (n0 : Nat) (v : Option Value) (h : Heap) (L : List Loc) : Prop := (v = some (.int 0) ∧ Fr n0 L ∧ h = h0)
set_option maxRecDepth 65536 in
set_option maxHeartbeats 40000000 in
theorem own_rm36 (l : Launch) (Z : State) (a0 : Array Value) (hw : ∀ d ∈ tables_1, d.before a0 Z = true) (ws : List Jvm.Cond) (ob_1355 : Nat) (ob_1469 : Nat) (ob_1322 : Nat) (ob_1006 : Nat) (in_7 : Int32) (ob_1323 : Nat) (ob_1007 : Nat) (kk_1324 : ClassId) (in_1 : Int32) (in_2 : Int32) (kk_1008 : ClassId) (h0 : Heap) (n0 : Nat) (Z0 : n0 ≤ h0.size) (O0 : Old Z n0 h0) (I1638 : Exa Z h0 ob_1469 cN4) (I1643 : Fld Z h0 ob_1469 cN4 "name" cN5 (.ref ob_1322)) (I1648 : Fld Z h0 ob_1355 cN4 "name" cN5 (.ref ob_1006)) (I1653 : @Ne Nat ob_1322 ob_1006) (I1654 : Exa Z h0 ob_1006 cN1) (I1655 : Sta Z Z.heap cN1 "COMPACT_STRINGS" "Z" (.int in_7)) (I1656 : ¬ (in_7 = 0)) (I1657 : Fld Z h0 ob_1322 cN1 "coder" "B" (.int 0)) (I1658 : Fld Z h0 ob_1006 cN1 "coder" "B" (.int 0)) (I1659 : Fld Z h0 ob_1322 cN1 "value" "[B" (.ref ob_1323)) (I1660 : Fld Z h0 ob_1006 cN1 "value" "[B" (.ref ob_1007)) (I1661 : Arv Z h0 ob_1323 kk_1324 .byte 2 [(.int ((in_1 &&& 255).toInt8.toInt32)), (.int ((in_2 &&& 255).toInt8.toInt32))] (.int 0)) (I1662 : Exa Z h0 ob_1322 cN1) (I1702 : Arv Z h0 ob_1007 kk_1008 .byte 1 [(.int ((in_1 &&& 255).toInt8.toInt32))] (.int 0)) :
    own_Met l Z h0 mN13 prog_11_method_4_code 3 (Option.some FieldType.boolean) ws ({ frames := 2, cells := 0, slots := 0, locals := 28 } : Room) #[(.ref ob_1355), (.ref ob_1469)] (own_Q36 Z ob_1355 ob_1469 ob_1322 ob_1006 in_7 ob_1323 ob_1007 kk_1324 in_1 in_2 kk_1008 h0 n0) 0 0 := by
  refine MetFree.of_bodySF own_pn13 hisR ?_
  intro p e s m args below meth c s₁ Bd hml0 hP hK
  obtain ⟨rfl, hZ, hh⟩ := hP
  have hx := Bd.exec
  have hby := Bd.bytes
  have hml : c.maxLocals = 3 := hml0
  have hown : s.vm.findClass cN4 = some m.cls := findClass_of_methodNamed Bd.named
  have hnm := (name_of_methodNamed Bd.named Bd.method).1
  have X0 : Stand p l e ({ frames := 2, cells := 0, slots := 0, locals := 28 } : Room) s m #[(.ref ob_1355), (.ref ob_1469)] below meth c s₁ [] 0 0 := Stand.of_body Bd
  have e0 : s₁.heap = h0 := by rw [← hh, Bd.state]; rfl
  have N0 := Fr.nil n0
  show own_G p e below (s₁.setTop (entryFrame m #[(.ref ob_1355), (.ref ob_1469)] 3)) (own_P s (own_Q36 Z ob_1355 ob_1469 ob_1322 ob_1006 in_7 ob_1323 ob_1007 kk_1324 in_1 in_2 kk_1008 h0 n0) 0 0)
  refine own_cast (own_ef8 m ob_1355 ob_1469) ?_
  show own_G p e below (s₁.setTop (mkF m 0 #[rv ob_1355, rv ob_1469, .unset] [])) _
  refine oS (fun _ => XS.aloadN X0.here hx rfl (hb hby dd13_0) rfl rfl) ?_
  obtain ⟨T1634, X1635, e1636, s1637⟩ := instY X0 hx hZ hown (oW hw 52 rfl) e0 (Ins.self I1638) (g := (mkF m 1 #[rv ob_1355, rv ob_1469, .unset] [(.ref ob_1469)])) rfl rfl (hb hby dd13_1)
  refine oS s1637 ?_
  show own_G p e below (T1634.setTop (mkF m 4 #[rv ob_1355, rv ob_1469, .unset] [(.int 1)])) _
  refine oS (fun _ => XS.ifNo X1635.here hx rfl (hb hby dd13_4) rfl (XT.i0_eq_f (by decide))) ?_
  show own_G p e below (T1634.setTop (mkF m 7 #[rv ob_1355, rv ob_1469, .unset] [])) _
  refine oS (fun _ => XS.aloadN X1635.here hx rfl (hb hby dd13_7) rfl rfl) ?_
  obtain ⟨T1639, X1640, e1641, s1642⟩ := castY X1635 hx hZ hown (oW hw 52 rfl) e1636 (Ins.self I1638) (g := (mkF m 8 #[rv ob_1355, rv ob_1469, .unset] [(.ref ob_1469)])) rfl rfl (hb hby dd13_8)
  refine oS s1642 ?_
  show own_G p e below (T1639.setTop (mkF m 11 #[rv ob_1355, rv ob_1469, .unset] [(.ref ob_1469)])) _
  refine oS (fun _ => XS.astoreN X1640.here hx rfl (hb hby dd13_11) rfl rfl (l' := #[rv ob_1355, rv ob_1469, rv ob_1469]) rfl) ?_
  refine oS (fun _ => XS.aloadN X1640.here hx rfl (hb hby dd13_12) rfl rfl) ?_
  obtain ⟨T1644, X1645, e1646, s1647⟩ := getF X1640 hx hZ hown (host := "") (Or.inl (oW hw 58 rfl)) Via.refl e1641 I1643 (g := (mkF m 13 #[rv ob_1355, rv ob_1469, rv ob_1469] [(.ref ob_1469)])) rfl rfl (hb hby dd13_13)
  refine oS s1647 ?_
  show own_G p e below (T1644.setTop (mkF m 16 #[rv ob_1355, rv ob_1469, rv ob_1469] [(.ref ob_1322)])) _
  refine oS (fun _ => XS.aloadN X1645.here hx rfl (hb hby dd13_16) rfl rfl) ?_
  obtain ⟨T1649, X1650, e1651, s1652⟩ := getF X1645 hx hZ hown (host := "") (Or.inl (oW hw 58 rfl)) Via.refl e1646 I1648 (g := (mkF m 17 #[rv ob_1355, rv ob_1469, rv ob_1469] [(.ref ob_1355), (.ref ob_1322)])) rfl rfl (hb hby dd13_17)
  refine oS s1652 ?_
  show own_G p e below (T1649.setTop (mkF m 20 #[rv ob_1355, rv ob_1469, rv ob_1469] [(.ref ob_1006), (.ref ob_1322)])) _
  obtain ⟨T1717, h1718, v1719, L1720, X1721, e1722, q1723, s1724⟩ := own_callV X1650 hx hZ hown e1651 (y := mN11) (z := mN11) (C := cN1) (b := ob_1322) (oW hw 83 rfl) (oW hw 61 rfl) (notFace_of_selects (args := #[]) (mvT hZ (oW hw 63 rfl))) (oW hw 63 rfl) (oW hw 62 rfl) (oW hw 8 rfl) (oW hw 64 rfl) (by decide) I1662 (W := 0) (own_rm37 l Z a0 hw [] ob_1322 ob_1006 in_7 ob_1323 ob_1007 kk_1324 in_1 in_2 kk_1008 h0 n0 Z0 O0 I1653 I1654 I1655 I1656 I1657 I1658 I1659 I1660 I1661 I1702) (by decide) (by decide) (by decide) (by decide) (g := (mkF m 20 #[rv ob_1355, rv ob_1469, rv ob_1469] [(.ref ob_1006), (.ref ob_1322)])) rfl (by rw [hml]; rfl) (argsL := [(.ref ob_1006)]) (rest := []) rfl (lenOf own_pd11 rfl) rfl (by show 2 * 0 + _ ≤ _; exact Nat.le_of_eq rfl) (hb hby dd13_20)
  refine oS s1724 ?_
  obtain ⟨rfl, N1725, K1726⟩ := q1723
  have N1727 := Fr.app N0 N1725
  have e1728 := e1722.trans K1726
  show own_G p e below (T1717.setTop (mkF m 23 #[rv ob_1355, rv ob_1469, rv ob_1469] [(.int 0)])) _
  refine oS (fun _ => XS.ifYes X1721.here hx rfl (pc0 := 23) (pc' := 30) rfl (hb hby dd13_23) rfl (XT.i0_eq_t (by decide)) (by decide) (by decide)) ?_
  show own_G p e below (T1717.setTop (mkF m 30 #[rv ob_1355, rv ob_1469, rv ob_1469] [])) _
  refine oS (fun _ => XS.iconst X1721.here hx rfl (hb hby dd13_30) ) ?_
  exact own_retN X1721 hx (t := .boolean) Bd.notSynchronized Bd.returns (by simp) (hb hby dd13_31) (by decide) e1728 (by decide) (by decide) (⟨rfl, N1727, rfl⟩)
theorem dd0_79 : decode method_2_code 79 = .ok (.iconst 3, 1) := by decide +kernel
theorem dd0_80 : decode method_2_code 80 = .ok (.newarray .char, 2) := by decide +kernel
theorem dd0_82 : decode method_2_code 82 = .ok (.dup, 1) := by decide +kernel
theorem dd0_83 : decode method_2_code 83 = .ok (.iconst 0, 1) := by decide +kernel
theorem dd0_84 : decode method_2_code 84 = .ok (.iload 4, 2) := by decide +kernel
theorem dd0_86 : decode method_2_code 86 = .ok (.castore, 1) := by decide +kernel
theorem dd0_87 : decode method_2_code 87 = .ok (.dup, 1) := by decide +kernel
theorem dd0_88 : decode method_2_code 88 = .ok (.iconst 1, 1) := by decide +kernel
theorem dd0_89 : decode method_2_code 89 = .ok (.iload 5, 2) := by decide +kernel
theorem dd0_91 : decode method_2_code 91 = .ok (.castore, 1) := by decide +kernel
theorem dd0_92 : decode method_2_code 92 = .ok (.dup, 1) := by decide +kernel
theorem dd0_93 : decode method_2_code 93 = .ok (.iconst 2, 1) := by decide +kernel
theorem dd0_94 : decode method_2_code 94 = .ok (.iload 6, 2) := by decide +kernel
theorem dd0_96 : decode method_2_code 96 = .ok (.castore, 1) := by decide +kernel
theorem dd0_97 : decode method_2_code 97 = .ok (.astore 7, 2) := by decide +kernel
theorem dd0_99 : decode method_2_code 99 = .ok (.new 7, 3) := by decide +kernel
theorem dd0_102 : decode method_2_code 102 = .ok (.dup, 1) := by decide +kernel
theorem dd0_103 : decode method_2_code 103 = .ok (.aload 7, 2) := by decide +kernel
def own_Q43 (Z : State) (ob_1781 : Nat) (ob_1861 : Nat) (kk_1779 : ClassId) (in_1 : Int32) (in_2 : Int32) (in_4 : Int32) (kk_1859 : ClassId) (h0 : Heap) (n0 : Nat) (v : Option Value) (h : Heap) (L : List Loc) : Prop := (v = some (.int 3) ∧ Fr n0 L ∧ Keep h0 h [ob_1861] ∧ Arv Z h ob_1861 kk_1859 .byte 3 [(.int ((in_1 &&& 255).toInt8.toInt32)), (.int ((in_2 &&& 255).toInt8.toInt32)), (.int ((in_4 &&& 255).toInt8.toInt32))] (.int 0) ∧ Exa Z h ob_1861 "[B")
set_option maxRecDepth 65536 in
set_option maxHeartbeats 40000000 in
theorem own_rm43 (l : Launch) (Z : State) (a0 : Array Value) (hw : ∀ d ∈ tables_1, d.before a0 Z = true) (ws : List Jvm.Cond) (ob_1781 : Nat) (ob_1861 : Nat) (kk_1779 : ClassId) (in_1 : Int32) (in_2 : Int32) (in_4 : Int32) (kk_1859 : ClassId) (h0 : Heap) (n0 : Nat) (Z0 : n0 ≤ h0.size) (O0 : Old Z n0 h0) (I1868 : Arv Z h0 ob_1781 kk_1779 .char 3 [(.int (in_1 &&& 255)), (.int (in_2 &&& 255)), (.int (in_4 &&& 255))] (.int 0)) (I1869 : Arv Z h0 ob_1861 kk_1859 .byte 3 [(.int 0), (.int 0), (.int 0)] (.int 0)) (I1879 : n0 ≤ ob_1861) (I1889 : @Ne Nat ob_1781 ob_1861) (I1912 : Exa Z h0 ob_1861 "[B") :
    own_Met l Z h0 mN0 jdk_52_method_21_code 7 (Option.some FieldType.int) ws ({ frames := 0, cells := 0, slots := 0, locals := 0 } : Room) #[(.ref ob_1781), (.int 0), (.ref ob_1861), (.int 0), (.int 3)] (own_Q43 Z ob_1781 ob_1861 kk_1779 in_1 in_2 in_4 kk_1859 h0 n0) 0 0 := by
  refine MetFree.of_bodySF own_pn0 hisR ?_
  intro p e s m args below meth c s₁ Bd hml0 hP hK
  obtain ⟨rfl, hZ, hh⟩ := hP
  have hx := Bd.exec
  have hby := Bd.bytes
  have hml : c.maxLocals = 7 := hml0
  have hown : s.vm.findClass cN0 = some m.cls := findClass_of_methodNamed Bd.named
  have hnm := (name_of_methodNamed Bd.named Bd.method).1
  have X0 : Stand p l e ({ frames := 0, cells := 0, slots := 0, locals := 0 } : Room) s m #[(.ref ob_1781), (.int 0), (.ref ob_1861), (.int 0), (.int 3)] below meth c s₁ [] 0 0 := Stand.of_body Bd
  have e0 : s₁.heap = h0 := by rw [← hh, Bd.state]; rfl
  have N0 := Fr.nil n0
  show own_G p e below (s₁.setTop (entryFrame m #[(.ref ob_1781), (.int 0), (.ref ob_1861), (.int 0), (.int 3)] 7)) (own_P s (own_Q43 Z ob_1781 ob_1861 kk_1779 in_1 in_2 in_4 kk_1859 h0 n0) 0 0)
  refine own_cast (own_ef5 m ob_1781 0 ob_1861 0 3) ?_
  show own_G p e below (s₁.setTop (mkF m 0 #[rv ob_1781, iv 0, rv ob_1861, iv 0, iv 3, .unset, .unset] [])) _
  refine oS (fun _ => XS.iconst X0.here hx rfl (hb hby dd4_0) ) ?_
  refine oS (fun _ => XS.istore X0.here hx rfl (hb hby dd4_1) rfl (l' := #[rv ob_1781, iv 0, rv ob_1861, iv 0, iv 3, iv 0, .unset]) rfl) ?_
  refine oS (fun _ => XS.iload X0.here hx rfl (hb hby dd4_3) rfl) ?_
  refine oS (fun _ => XS.iload X0.here hx rfl (hb hby dd4_5) rfl) ?_
  show own_G p e below (s₁.setTop (mkF m 7 #[rv ob_1781, iv 0, rv ob_1861, iv 0, iv 3, iv 0, .unset] [(.int 3), (.int 0)])) _
  refine oS (fun _ => XS.icmpNo X0.here hx rfl (hb hby dd4_7) rfl (XT.ii_ge_f (by decide))) ?_
  show own_G p e below (s₁.setTop (mkF m 10 #[rv ob_1781, iv 0, rv ob_1861, iv 0, iv 3, iv 0, .unset] [])) _
  refine oS (fun _ => XS.aloadN X0.here hx rfl (hb hby dd4_10) rfl rfl) ?_
  refine oS (fun _ => XS.iloadN X0.here hx rfl (hb hby dd4_11) rfl) ?_
  refine oS (own_caload X0 hx hZ e0 I1868 (by decide) (v := (.int (in_1 &&& 255))) rfl rfl rfl (hb hby dd4_12)) ?_
  show own_G p e below (s₁.setTop (mkF m 13 #[rv ob_1781, iv 0, rv ob_1861, iv 0, iv 3, iv 0, .unset] [(.int (in_1 &&& 255))])) _
  refine oS (fun _ => XS.istore X0.here hx rfl (hb hby dd4_13) rfl (l' := #[rv ob_1781, iv 0, rv ob_1861, iv 0, iv 3, iv 0, iv (in_1 &&& 255)]) rfl) ?_
  refine oS (fun _ => XS.iload X0.here hx rfl (hb hby dd4_15) rfl) ?_
  refine oS (fun _ => XS.sipush X0.here hx rfl (hb hby dd4_17) ) ?_
  refine oS (fun _ => XS.icmpYes X0.here hx rfl (pc0 := 20) (pc' := 26) rfl (hb hby dd4_20) rfl (XT.ii_le_t (own_mk1 in_1)) (by decide) (by decide)) ?_
  show own_G p e below (s₁.setTop (mkF m 26 #[rv ob_1781, iv 0, rv ob_1861, iv 0, iv 3, iv 0, iv (in_1 &&& 255)] [])) _
  refine oS (fun _ => XS.aloadN X0.here hx rfl (hb hby dd4_26) rfl rfl) ?_
  refine oS (fun _ => XS.iloadN X0.here hx rfl (hb hby dd4_27) rfl) ?_
  refine oS (fun _ => XS.iload X0.here hx rfl (hb hby dd4_28) rfl) ?_
  refine oS (fun _ => XT.i2b X0.here hx rfl (hb hby dd4_30) rfl) ?_
  show own_G p e below (s₁.setTop (mkF m 31 #[rv ob_1781, iv 0, rv ob_1861, iv 0, iv 3, iv 0, iv (in_1 &&& 255)] [(.int ((in_1 &&& 255).toInt8.toInt32)), (.int 0), (.ref ob_1861)])) _
  obtain ⟨T1870, h1871, X1872, e1873, W1874, A1875, s1876⟩ := own_stB X0 hx hZ e0 I1869 (x' := ((in_1 &&& 255).toInt8.toInt32)) 0 (own_narB _) rfl (by decide) (by simp) (g := (mkF m 31 #[rv ob_1781, iv 0, rv ob_1861, iv 0, iv 3, iv 0, iv (in_1 &&& 255)] [(.int ((in_1 &&& 255).toInt8.toInt32)), (.int 0), (.ref ob_1861)])) rfl (rest := []) rfl (hb hby dd4_31)
  have N1877 := Fr.snoc X1872 N0 I1879
  have z1880 := W1874.size
  have F1881 : Arv Z h1871 ob_1861 kk_1859 .byte 3 [(.int ((in_1 &&& 255).toInt8.toInt32)), (.int 0), (.int 0)] (.int 0) := A1875
  refine oS s1876 ?_
  show own_G p e below (T1870.setTop (mkF m 32 #[rv ob_1781, iv 0, rv ob_1861, iv 0, iv 3, iv 0, iv (in_1 &&& 255)] [])) _
  refine oS (fun _ => XS.iinc X1872.here hx rfl (hb hby dd4_32) rfl (l' := #[rv ob_1781, iv 1, rv ob_1861, iv 0, iv 3, iv 0, iv (in_1 &&& 255)]) rfl) ?_
  show own_G p e below (T1870.setTop (mkF m 35 #[rv ob_1781, iv 1, rv ob_1861, iv 0, iv 3, iv 0, iv (in_1 &&& 255)] [])) _
  refine oS (fun _ => XS.iinc X1872.here hx rfl (hb hby dd4_35) rfl (l' := #[rv ob_1781, iv 1, rv ob_1861, iv 1, iv 3, iv 0, iv (in_1 &&& 255)]) rfl) ?_
  show own_G p e below (T1870.setTop (mkF m 38 #[rv ob_1781, iv 1, rv ob_1861, iv 1, iv 3, iv 0, iv (in_1 &&& 255)] [])) _
  refine oS (fun _ => XS.iinc X1872.here hx rfl (hb hby dd4_38) rfl (l' := #[rv ob_1781, iv 1, rv ob_1861, iv 1, iv 3, iv 1, iv (in_1 &&& 255)]) rfl) ?_
  show own_G p e below (T1870.setTop (mkF m 41 #[rv ob_1781, iv 1, rv ob_1861, iv 1, iv 3, iv 1, iv (in_1 &&& 255)] [])) _
  refine oS (fun _ => XS.goto X1872.here hx rfl (pc0 := 41) (pc' := 3) rfl (hb hby dd4_41) (by decide) (by decide)) ?_
  show own_G p e below (T1870.setTop (mkF m 3 #[rv ob_1781, iv 1, rv ob_1861, iv 1, iv 3, iv 1, iv (in_1 &&& 255)] [])) _
  refine oS (fun _ => XS.iload X1872.here hx rfl (hb hby dd4_3) rfl) ?_
  refine oS (fun _ => XS.iload X1872.here hx rfl (hb hby dd4_5) rfl) ?_
  refine oS (fun _ => XS.icmpNo X1872.here hx rfl (hb hby dd4_7) rfl (XT.ii_ge_f (by decide))) ?_
  show own_G p e below (T1870.setTop (mkF m 10 #[rv ob_1781, iv 1, rv ob_1861, iv 1, iv 3, iv 1, iv (in_1 &&& 255)] [])) _
  refine oS (fun _ => XS.aloadN X1872.here hx rfl (hb hby dd4_10) rfl rfl) ?_
  refine oS (fun _ => XS.iloadN X1872.here hx rfl (hb hby dd4_11) rfl) ?_
  have F1890 : Arv Z h1871 ob_1781 kk_1779 .char 3 [(.int (in_1 &&& 255)), (.int (in_2 &&& 255)), (.int (in_4 &&& 255))] (.int 0) := I1868.other W1874 I1889
  refine oS (own_caload X1872 hx hZ e1873 F1890 (by decide) (v := (.int (in_2 &&& 255))) rfl rfl rfl (hb hby dd4_12)) ?_
  show own_G p e below (T1870.setTop (mkF m 13 #[rv ob_1781, iv 1, rv ob_1861, iv 1, iv 3, iv 1, iv (in_1 &&& 255)] [(.int (in_2 &&& 255))])) _
  refine oS (fun _ => XS.istore X1872.here hx rfl (hb hby dd4_13) rfl (l' := #[rv ob_1781, iv 1, rv ob_1861, iv 1, iv 3, iv 1, iv (in_2 &&& 255)]) rfl) ?_
  refine oS (fun _ => XS.iload X1872.here hx rfl (hb hby dd4_15) rfl) ?_
  refine oS (fun _ => XS.sipush X1872.here hx rfl (hb hby dd4_17) ) ?_
  refine oS (fun _ => XS.icmpYes X1872.here hx rfl (pc0 := 20) (pc' := 26) rfl (hb hby dd4_20) rfl (XT.ii_le_t (own_mk1 in_2)) (by decide) (by decide)) ?_
  show own_G p e below (T1870.setTop (mkF m 26 #[rv ob_1781, iv 1, rv ob_1861, iv 1, iv 3, iv 1, iv (in_2 &&& 255)] [])) _
  refine oS (fun _ => XS.aloadN X1872.here hx rfl (hb hby dd4_26) rfl rfl) ?_
  refine oS (fun _ => XS.iloadN X1872.here hx rfl (hb hby dd4_27) rfl) ?_
  refine oS (fun _ => XS.iload X1872.here hx rfl (hb hby dd4_28) rfl) ?_
  refine oS (fun _ => XT.i2b X1872.here hx rfl (hb hby dd4_30) rfl) ?_
  show own_G p e below (T1870.setTop (mkF m 31 #[rv ob_1781, iv 1, rv ob_1861, iv 1, iv 3, iv 1, iv (in_2 &&& 255)] [(.int ((in_2 &&& 255).toInt8.toInt32)), (.int 1), (.ref ob_1861)])) _
  obtain ⟨T1891, h1892, X1893, e1894, W1895, A1896, s1897⟩ := own_stB X1872 hx hZ e1873 F1881 (x' := ((in_2 &&& 255).toInt8.toInt32)) 1 (own_narB _) rfl (by decide) (by simp) (g := (mkF m 31 #[rv ob_1781, iv 1, rv ob_1861, iv 1, iv 3, iv 1, iv (in_2 &&& 255)] [(.int ((in_2 &&& 255).toInt8.toInt32)), (.int 1), (.ref ob_1861)])) rfl (rest := []) rfl (hb hby dd4_31)
  have N1898 := Fr.snoc X1893 N1877 I1879
  have z1899 := W1895.size
  have F1900 : Arv Z h1892 ob_1861 kk_1859 .byte 3 [(.int ((in_1 &&& 255).toInt8.toInt32)), (.int ((in_2 &&& 255).toInt8.toInt32)), (.int 0)] (.int 0) := A1896
  refine oS s1897 ?_
  show own_G p e below (T1891.setTop (mkF m 32 #[rv ob_1781, iv 1, rv ob_1861, iv 1, iv 3, iv 1, iv (in_2 &&& 255)] [])) _
  refine oS (fun _ => XS.iinc X1893.here hx rfl (hb hby dd4_32) rfl (l' := #[rv ob_1781, iv 2, rv ob_1861, iv 1, iv 3, iv 1, iv (in_2 &&& 255)]) rfl) ?_
  show own_G p e below (T1891.setTop (mkF m 35 #[rv ob_1781, iv 2, rv ob_1861, iv 1, iv 3, iv 1, iv (in_2 &&& 255)] [])) _
  refine oS (fun _ => XS.iinc X1893.here hx rfl (hb hby dd4_35) rfl (l' := #[rv ob_1781, iv 2, rv ob_1861, iv 2, iv 3, iv 1, iv (in_2 &&& 255)]) rfl) ?_
  show own_G p e below (T1891.setTop (mkF m 38 #[rv ob_1781, iv 2, rv ob_1861, iv 2, iv 3, iv 1, iv (in_2 &&& 255)] [])) _
  refine oS (fun _ => XS.iinc X1893.here hx rfl (hb hby dd4_38) rfl (l' := #[rv ob_1781, iv 2, rv ob_1861, iv 2, iv 3, iv 2, iv (in_2 &&& 255)]) rfl) ?_
  show own_G p e below (T1891.setTop (mkF m 41 #[rv ob_1781, iv 2, rv ob_1861, iv 2, iv 3, iv 2, iv (in_2 &&& 255)] [])) _
  refine oS (fun _ => XS.goto X1893.here hx rfl (pc0 := 41) (pc' := 3) rfl (hb hby dd4_41) (by decide) (by decide)) ?_
  show own_G p e below (T1891.setTop (mkF m 3 #[rv ob_1781, iv 2, rv ob_1861, iv 2, iv 3, iv 2, iv (in_2 &&& 255)] [])) _
  refine oS (fun _ => XS.iload X1893.here hx rfl (hb hby dd4_3) rfl) ?_
  refine oS (fun _ => XS.iload X1893.here hx rfl (hb hby dd4_5) rfl) ?_
  refine oS (fun _ => XS.icmpNo X1893.here hx rfl (hb hby dd4_7) rfl (XT.ii_ge_f (by decide))) ?_
  show own_G p e below (T1891.setTop (mkF m 10 #[rv ob_1781, iv 2, rv ob_1861, iv 2, iv 3, iv 2, iv (in_2 &&& 255)] [])) _
  refine oS (fun _ => XS.aloadN X1893.here hx rfl (hb hby dd4_10) rfl rfl) ?_
  refine oS (fun _ => XS.iloadN X1893.here hx rfl (hb hby dd4_11) rfl) ?_
  have F1901 : Arv Z h1892 ob_1781 kk_1779 .char 3 [(.int (in_1 &&& 255)), (.int (in_2 &&& 255)), (.int (in_4 &&& 255))] (.int 0) := F1890.other W1895 I1889
  refine oS (own_caload X1893 hx hZ e1894 F1901 (by decide) (v := (.int (in_4 &&& 255))) rfl rfl rfl (hb hby dd4_12)) ?_
  show own_G p e below (T1891.setTop (mkF m 13 #[rv ob_1781, iv 2, rv ob_1861, iv 2, iv 3, iv 2, iv (in_2 &&& 255)] [(.int (in_4 &&& 255))])) _
  refine oS (fun _ => XS.istore X1893.here hx rfl (hb hby dd4_13) rfl (l' := #[rv ob_1781, iv 2, rv ob_1861, iv 2, iv 3, iv 2, iv (in_4 &&& 255)]) rfl) ?_
  refine oS (fun _ => XS.iload X1893.here hx rfl (hb hby dd4_15) rfl) ?_
  refine oS (fun _ => XS.sipush X1893.here hx rfl (hb hby dd4_17) ) ?_
  refine oS (fun _ => XS.icmpYes X1893.here hx rfl (pc0 := 20) (pc' := 26) rfl (hb hby dd4_20) rfl (XT.ii_le_t (own_mk1 in_4)) (by decide) (by decide)) ?_
  show own_G p e below (T1891.setTop (mkF m 26 #[rv ob_1781, iv 2, rv ob_1861, iv 2, iv 3, iv 2, iv (in_4 &&& 255)] [])) _
  refine oS (fun _ => XS.aloadN X1893.here hx rfl (hb hby dd4_26) rfl rfl) ?_
  refine oS (fun _ => XS.iloadN X1893.here hx rfl (hb hby dd4_27) rfl) ?_
  refine oS (fun _ => XS.iload X1893.here hx rfl (hb hby dd4_28) rfl) ?_
  refine oS (fun _ => XT.i2b X1893.here hx rfl (hb hby dd4_30) rfl) ?_
  show own_G p e below (T1891.setTop (mkF m 31 #[rv ob_1781, iv 2, rv ob_1861, iv 2, iv 3, iv 2, iv (in_4 &&& 255)] [(.int ((in_4 &&& 255).toInt8.toInt32)), (.int 2), (.ref ob_1861)])) _
  obtain ⟨T1902, h1903, X1904, e1905, W1906, A1907, s1908⟩ := own_stB X1893 hx hZ e1894 F1900 (x' := ((in_4 &&& 255).toInt8.toInt32)) 2 (own_narB _) rfl (by decide) (by simp) (g := (mkF m 31 #[rv ob_1781, iv 2, rv ob_1861, iv 2, iv 3, iv 2, iv (in_4 &&& 255)] [(.int ((in_4 &&& 255).toInt8.toInt32)), (.int 2), (.ref ob_1861)])) rfl (rest := []) rfl (hb hby dd4_31)
  have N1909 := Fr.snoc X1904 N1898 I1879
  have z1910 := W1906.size
  have F1911 : Arv Z h1903 ob_1861 kk_1859 .byte 3 [(.int ((in_1 &&& 255).toInt8.toInt32)), (.int ((in_2 &&& 255).toInt8.toInt32)), (.int ((in_4 &&& 255).toInt8.toInt32))] (.int 0) := A1907
  refine oS s1908 ?_
  show own_G p e below (T1902.setTop (mkF m 32 #[rv ob_1781, iv 2, rv ob_1861, iv 2, iv 3, iv 2, iv (in_4 &&& 255)] [])) _
  refine oS (fun _ => XS.iinc X1904.here hx rfl (hb hby dd4_32) rfl (l' := #[rv ob_1781, iv 3, rv ob_1861, iv 2, iv 3, iv 2, iv (in_4 &&& 255)]) rfl) ?_
  show own_G p e below (T1902.setTop (mkF m 35 #[rv ob_1781, iv 3, rv ob_1861, iv 2, iv 3, iv 2, iv (in_4 &&& 255)] [])) _
  refine oS (fun _ => XS.iinc X1904.here hx rfl (hb hby dd4_35) rfl (l' := #[rv ob_1781, iv 3, rv ob_1861, iv 3, iv 3, iv 2, iv (in_4 &&& 255)]) rfl) ?_
  show own_G p e below (T1902.setTop (mkF m 38 #[rv ob_1781, iv 3, rv ob_1861, iv 3, iv 3, iv 2, iv (in_4 &&& 255)] [])) _
  refine oS (fun _ => XS.iinc X1904.here hx rfl (hb hby dd4_38) rfl (l' := #[rv ob_1781, iv 3, rv ob_1861, iv 3, iv 3, iv 3, iv (in_4 &&& 255)]) rfl) ?_
  show own_G p e below (T1902.setTop (mkF m 41 #[rv ob_1781, iv 3, rv ob_1861, iv 3, iv 3, iv 3, iv (in_4 &&& 255)] [])) _
  refine oS (fun _ => XS.goto X1904.here hx rfl (pc0 := 41) (pc' := 3) rfl (hb hby dd4_41) (by decide) (by decide)) ?_
  show own_G p e below (T1902.setTop (mkF m 3 #[rv ob_1781, iv 3, rv ob_1861, iv 3, iv 3, iv 3, iv (in_4 &&& 255)] [])) _
  refine oS (fun _ => XS.iload X1904.here hx rfl (hb hby dd4_3) rfl) ?_
  refine oS (fun _ => XS.iload X1904.here hx rfl (hb hby dd4_5) rfl) ?_
  refine oS (fun _ => XS.icmpYes X1904.here hx rfl (pc0 := 7) (pc' := 44) rfl (hb hby dd4_7) rfl (XT.ii_ge_t (by decide)) (by decide) (by decide)) ?_
  show own_G p e below (T1902.setTop (mkF m 44 #[rv ob_1781, iv 3, rv ob_1861, iv 3, iv 3, iv 3, iv (in_4 &&& 255)] [])) _
  refine oS (fun _ => XS.iload X1904.here hx rfl (hb hby dd4_44) rfl) ?_
  have F1913 : Exa Z h1871 ob_1861 "[B" := Exa.wr W1874 I1912
  have F1914 : Exa Z h1892 ob_1861 "[B" := Exa.wr W1895 F1913
  have F1915 : Exa Z h1903 ob_1861 "[B" := Exa.wr W1906 F1914
  have K1916 : Keep h0 h1903 [ob_1861] := ((((Keep.refl h0 [ob_1861]).wr W1874 (Or.inl (by simp))).wr W1895 (Or.inl (by simp))).wr W1906 (Or.inl (by simp)))
  exact own_retI X1904 hx Bd.notSynchronized Bd.returns (hb hby dd4_46) e1905 (by decide) (by decide) (⟨rfl, N1909, K1916, F1911, F1915⟩)
def own_Q42 (Z : State) (ob_1781 : Nat) (kk_1779 : ClassId) (in_1 : Int32) (in_2 : Int32) (in_4 : Int32) (h0 : Heap) (n0 : Nat) (v : Option Value) (h : Heap) (L : List Loc) : Prop := (∃ ob_1861 : Nat, ∃ kk_1859 : ClassId, v = some (.ref ob_1861) ∧ Fr n0 L ∧ Keep h0 h [] ∧ h0.size ≤ ob_1861 ∧ Arv Z h ob_1861 kk_1859 .byte 3 [(.int ((in_1 &&& 255).toInt8.toInt32)), (.int ((in_2 &&& 255).toInt8.toInt32)), (.int ((in_4 &&& 255).toInt8.toInt32))] (.int 0) ∧ Exa Z h ob_1861 "[B" ∧ @LT.lt Nat instLTNat ob_1861 h.size)
set_option maxRecDepth 65536 in
set_option maxHeartbeats 40000000 in
theorem own_rm42 (l : Launch) (Z : State) (a0 : Array Value) (hw : ∀ d ∈ tables_1, d.before a0 Z = true) (ws : List Jvm.Cond) (ob_1781 : Nat) (kk_1779 : ClassId) (in_1 : Int32) (in_2 : Int32) (in_4 : Int32) (h0 : Heap) (n0 : Nat) (Z0 : n0 ≤ h0.size) (O0 : Old Z n0 h0) (I1866 : Arv Z h0 ob_1781 kk_1779 .char 3 [(.int (in_1 &&& 255)), (.int (in_2 &&& 255)), (.int (in_4 &&& 255))] (.int 0)) (I1887 : @LT.lt Nat instLTNat ob_1781 h0.size) :
    own_Met l Z h0 mN1 jdk_52_method_16_code 6 (Option.some (FieldType.array FieldType.byte)) ws ({ frames := 1, cells := 1, slots := 3, locals := 18 } : Room) #[(.ref ob_1781), (.int 0), (.int 3)] (own_Q42 Z ob_1781 kk_1779 in_1 in_2 in_4 h0 n0) 1 3 := by
  refine MetFree.of_bodySF own_pn1 hisR ?_
  intro p e s m args below meth c s₁ Bd hml0 hP hK
  obtain ⟨rfl, hZ, hh⟩ := hP
  have hx := Bd.exec
  have hby := Bd.bytes
  have hml : c.maxLocals = 6 := hml0
  have hown : s.vm.findClass cN0 = some m.cls := findClass_of_methodNamed Bd.named
  have hnm := (name_of_methodNamed Bd.named Bd.method).1
  have X0 : Stand p l e ({ frames := 1, cells := 1, slots := 3, locals := 18 } : Room) s m #[(.ref ob_1781), (.int 0), (.int 3)] below meth c s₁ [] 0 0 := Stand.of_body Bd
  have e0 : s₁.heap = h0 := by rw [← hh, Bd.state]; rfl
  have N0 := Fr.nil n0
  show own_G p e below (s₁.setTop (entryFrame m #[(.ref ob_1781), (.int 0), (.int 3)] 6)) (own_P s (own_Q42 Z ob_1781 kk_1779 in_1 in_2 in_4 h0 n0) 1 3)
  refine own_cast (own_ef4 m ob_1781 0 3) ?_
  show own_G p e below (s₁.setTop (mkF m 0 #[rv ob_1781, iv 0, iv 3, .unset, .unset, .unset] [])) _
  refine oS (fun _ => XS.iloadN X0.here hx rfl (hb hby dd3_0) rfl) ?_
  obtain ⟨T1850, h1851, kk_1859, X1853, e1854, E1855, A1856, B1860, s1857⟩ := own_newP X0 hx hZ (aty := .byte) (oW hw 24 rfl) e0 (nm := "[B") rfl (g := (mkF m 1 #[rv ob_1781, iv 0, iv 3, .unset, .unset, .unset] [(.int 3)])) rfl (hb hby dd3_1) (n := 3) (rest := []) rfl (by decide) (cap := 3) (by decide) (by decide) (by decide) (by decide)
  obtain ⟨ob_1861, g1862⟩ : ∃ z, z = h0.size := ⟨_, rfl⟩
  rw [← g1862] at A1856 B1860 s1857
  have F1863 : Arv Z h1851 ob_1861 kk_1859 .byte 3 [(.int 0), (.int 0), (.int 0)] (.int 0) := own_newA A1856 (by decide) rfl rfl
  have z1864 := E1855.1
  have y1858 : @LT.lt Nat instLTNat ob_1861 h1851.size := F1863.lt
  refine oS s1857 ?_
  show own_G p e below (T1850.setTop (mkF m 3 #[rv ob_1781, iv 0, iv 3, .unset, .unset, .unset] [(.ref ob_1861)])) _
  refine oS (fun _ => XS.astoreN X1853.here hx rfl (hb hby dd3_3) rfl rfl (l' := #[rv ob_1781, iv 0, iv 3, rv ob_1861, .unset, .unset]) rfl) ?_
  refine oS (fun _ => XS.aloadN X1853.here hx rfl (hb hby dd3_4) rfl rfl) ?_
  refine oS (fun _ => XS.iloadN X1853.here hx rfl (hb hby dd3_5) rfl) ?_
  refine oS (fun _ => XS.aloadN X1853.here hx rfl (hb hby dd3_6) rfl rfl) ?_
  show own_G p e below (T1850.setTop (mkF m 7 #[rv ob_1781, iv 0, iv 3, rv ob_1861, .unset, .unset] [(.ref ob_1861), (.int 0), (.ref ob_1781)])) _
  refine oS (fun _ => XS.iconst X1853.here hx rfl (hb hby dd3_7) ) ?_
  refine oS (fun _ => XS.iloadN X1853.here hx rfl (hb hby dd3_8) rfl) ?_
  have F1867 : Arv Z h1851 ob_1781 kk_1779 .char 3 [(.int (in_1 &&& 255)), (.int (in_2 &&& 255)), (.int (in_4 &&& 255))] (.int 0) := I1866.ext E1855
  have N1878 : n0 ≤ ob_1861 := by omega
  have N1888 : @Ne Nat ob_1781 ob_1861 := by omega
  have O1917 : Old Z n0 h1851 := O0.ext E1855
  have Z1918 : n0 ≤ h1851.size := by omega
  obtain ⟨T1919, h1920, v1921, L1922, X1923, e1924, q1925, s1926⟩ := own_callS X1853 hx hZ hown e1854 (y := mN0) (oW hw 25 rfl) (oW hw 26 rfl) (oW hw 22 rfl) (oW hw 27 rfl) (by decide) (W := 0) (own_rm43 l Z a0 hw [] ob_1781 ob_1861 kk_1779 in_1 in_2 in_4 kk_1859 h1851 n0 Z1918 O1917 F1867 F1863 N1878 N1888 B1860) (by decide) (by decide) (by decide) (by decide) (g := (mkF m 9 #[rv ob_1781, iv 0, iv 3, rv ob_1861, .unset, .unset] [(.int 3), (.int 0), (.ref ob_1861), (.int 0), (.ref ob_1781)])) rfl (by rw [hml]; rfl) (argsL := [(.ref ob_1781), (.int 0), (.ref ob_1861), (.int 0), (.int 3)]) (rest := []) rfl (lenOf own_pd0 rfl) rfl (by show 2 * 0 + _ ≤ _; exact Nat.le_of_eq rfl) (hb hby dd3_9)
  refine oS s1926 ?_
  obtain ⟨rfl, N1927, K1928, F1929, F1930⟩ := q1925
  have N1931 := Fr.app N0 N1927
  have z1932 := K1928.1
  show own_G p e below (T1919.setTop (mkF m 12 #[rv ob_1781, iv 0, iv 3, rv ob_1861, .unset, .unset] [(.int 3)])) _
  refine oS (fun _ => XS.istore X1923.here hx rfl (hb hby dd3_12) rfl (l' := #[rv ob_1781, iv 0, iv 3, rv ob_1861, iv 3, .unset]) rfl) ?_
  refine oS (fun _ => XS.iload X1923.here hx rfl (hb hby dd3_14) rfl) ?_
  refine oS (fun _ => XS.iloadN X1923.here hx rfl (hb hby dd3_16) rfl) ?_
  refine oS (fun _ => XS.icmpYes X1923.here hx rfl (pc0 := 17) (pc' := 57) rfl (hb hby dd3_17) rfl (XT.ii_eq_t (by decide)) (by decide) (by decide)) ?_
  show own_G p e below (T1919.setTop (mkF m 57 #[rv ob_1781, iv 0, iv 3, rv ob_1861, iv 3, .unset] [])) _
  refine oS (fun _ => XS.aloadN X1923.here hx rfl (hb hby dd3_57) rfl rfl) ?_
  have y1933 : @LT.lt Nat instLTNat ob_1861 h1920.size := by omega
  have K1934 : Keep h0 h1920 [] := (((Keep.refl h0 []).ext E1855).trans K1928 (allS (Or.inr (by omega)) all0))
  exact own_retA X1923 hx Bd.notSynchronized Bd.returns rfl rfl (hb hby dd3_58) e1924 (by decide) (by decide) (⟨ob_1861, kk_1859, rfl, N1931, K1934, (by omega), F1929, F1930, y1933⟩)
def own_Q44 (Z : State) (ob_1943 : Nat) (kk_1944 : ClassId) (in_1 : Int32) (in_2 : Int32) (in_4 : Int32) (h0 : Heap) (n0 : Nat) (v : Option Value) (h : Heap) (L : List Loc) : Prop := (v = some (.int 0) ∧ Fr n0 L ∧ h = h0)
set_option maxRecDepth 65536 in
set_option maxHeartbeats 40000000 in
theorem own_rm44 (l : Launch) (Z : State) (a0 : Array Value) (hw : ∀ d ∈ tables_1, d.before a0 Z = true) (ws : List Jvm.Cond) (ob_1943 : Nat) (kk_1944 : ClassId) (in_1 : Int32) (in_2 : Int32) (in_4 : Int32) (h0 : Heap) (n0 : Nat) (Z0 : n0 ≤ h0.size) (O0 : Old Z n0 h0) (I1953 : Arv Z h0 ob_1943 kk_1944 .byte 3 [(.int ((in_1 &&& 255).toInt8.toInt32)), (.int ((in_2 &&& 255).toInt8.toInt32)), (.int ((in_4 &&& 255).toInt8.toInt32))] (.int 0)) :
    own_Met l Z h0 mN2 jdk_52_method_15_code 2 (Option.some FieldType.byte) ws ({ frames := 0, cells := 0, slots := 0, locals := 0 } : Room) #[(.ref ob_1943), (.int 3)] (own_Q44 Z ob_1943 kk_1944 in_1 in_2 in_4 h0 n0) 0 0 := by
  refine MetFree.of_bodySF own_pn2 hisR ?_
  intro p e s m args below meth c s₁ Bd hml0 hP hK
  obtain ⟨rfl, hZ, hh⟩ := hP
  have hx := Bd.exec
  have hby := Bd.bytes
  have hml : c.maxLocals = 2 := hml0
  have hown : s.vm.findClass cN0 = some m.cls := findClass_of_methodNamed Bd.named
  have hnm := (name_of_methodNamed Bd.named Bd.method).1
  have X0 : Stand p l e ({ frames := 0, cells := 0, slots := 0, locals := 0 } : Room) s m #[(.ref ob_1943), (.int 3)] below meth c s₁ [] 0 0 := Stand.of_body Bd
  have e0 : s₁.heap = h0 := by rw [← hh, Bd.state]; rfl
  have N0 := Fr.nil n0
  show own_G p e below (s₁.setTop (entryFrame m #[(.ref ob_1943), (.int 3)] 2)) (own_P s (own_Q44 Z ob_1943 kk_1944 in_1 in_2 in_4 h0 n0) 0 0)
  refine own_cast (own_ef6 m ob_1943 3) ?_
  show own_G p e below (s₁.setTop (mkF m 0 #[rv ob_1943, iv 3] [])) _
  refine oS (fun _ => XS.iloadN X0.here hx rfl (hb hby dd5_0) rfl) ?_
  refine oS (fun _ => XS.aloadN X0.here hx rfl (hb hby dd5_1) rfl rfl) ?_
  refine oS (own_len X0 hx hZ e0 I1953 rfl rfl (hb hby dd5_2)) ?_
  show own_G p e below (s₁.setTop (mkF m 3 #[rv ob_1943, iv 3] [(.int 3), (.int 3)])) _
  refine oS (fun _ => XS.isub X0.here hx rfl (hb hby dd5_3) rfl) ?_
  refine oS (fun _ => XS.bipush X0.here hx rfl (hb hby dd5_4) ) ?_
  refine oS (fun _ => XT.iushr X0.here hx rfl (hb hby dd5_6) rfl) ?_
  refine oS (fun _ => XT.i2b X0.here hx rfl (hb hby dd5_7) rfl) ?_
  show own_G p e below (s₁.setTop (mkF m 8 #[rv ob_1943, iv 3] [(.int 0)])) _
  exact own_retN X0 hx (t := .byte) Bd.notSynchronized Bd.returns (by simp) (hb hby dd5_8) (by decide) e0 (by decide) (by decide) (⟨rfl, N0, rfl⟩)
def own_Q41 (Z : State) (ob_1826 : Nat) (ob_1781 : Nat) (in_7 : Int32) (kk_1779 : ClassId) (in_1 : Int32) (in_2 : Int32) (in_4 : Int32) (h0 : Heap) (n0 : Nat) (v : Option Value) (h : Heap) (L : List Loc) : Prop := (∃ ob_1943 : Nat, ∃ kk_1944 : ClassId, v = none ∧ Fr n0 L ∧ Keep h0 h [ob_1826] ∧ h0.size ≤ ob_1943 ∧ Fld Z h ob_1826 cN1 "coder" "B" (.int 0) ∧ Exa Z h ob_1826 cN1 ∧ Fld Z h ob_1826 cN1 "value" "[B" (.ref ob_1943) ∧ Fld Z h ob_1826 cN1 "hash" "I" (.int 0) ∧ Fld Z h ob_1826 cN1 "hashIsZero" "Z" (.int 0) ∧ Arv Z h ob_1943 kk_1944 .byte 3 [(.int ((in_1 &&& 255).toInt8.toInt32)), (.int ((in_2 &&& 255).toInt8.toInt32)), (.int ((in_4 &&& 255).toInt8.toInt32))] (.int 0) ∧ Exa Z h ob_1943 "[B" ∧ @LT.lt Nat instLTNat ob_1943 h.size)
set_option maxRecDepth 65536 in
set_option maxHeartbeats 40000000 in
theorem own_rm41 (l : Launch) (Z : State) (a0 : Array Value) (hw : ∀ d ∈ tables_1, d.before a0 Z = true) (ws : List Jvm.Cond) (ob_1826 : Nat) (ob_1781 : Nat) (in_7 : Int32) (kk_1779 : ClassId) (in_1 : Int32) (in_2 : Int32) (in_4 : Int32) (h0 : Heap) (n0 : Nat) (Z0 : n0 ≤ h0.size) (O0 : Old Z n0 h0) (I1841 : Sta Z Z.heap cN1 "COMPACT_STRINGS" "Z" (.int in_7)) (I1849 : ¬ (in_7 = 0)) (I1865 : Arv Z h0 ob_1781 kk_1779 .char 3 [(.int (in_1 &&& 255)), (.int (in_2 &&& 255)), (.int (in_4 &&& 255))] (.int 0)) (I1885 : @LT.lt Nat instLTNat ob_1781 h0.size) (I1969 : Fld Z h0 ob_1826 cN1 "coder" "B" (.int 0)) (I1972 : Exa Z h0 ob_1826 cN1) (I1983 : n0 ≤ ob_1826) (I1987 : Fld Z h0 ob_1826 cN1 "value" "[B" .null) (I2003 : Fld Z h0 ob_1826 cN1 "hash" "I" (.int 0)) (I2008 : Fld Z h0 ob_1826 cN1 "hashIsZero" "Z" (.int 0)) (I2015 : @LT.lt Nat instLTNat ob_1826 h0.size) :
    own_Met l Z h0 mN3 jdk_42_method_149_code 6 (Option.none : Option FieldType) ws ({ frames := 2, cells := 1, slots := 3, locals := 35 } : Room) #[(.ref ob_1826), (.ref ob_1781), (.int 0), (.int 3), .null] (own_Q41 Z ob_1826 ob_1781 in_7 kk_1779 in_1 in_2 in_4 h0 n0) 1 3 := by
  refine MetFree.of_bodySF own_pn3 hisR ?_
  intro p e s m args below meth c s₁ Bd hml0 hP hK
  obtain ⟨rfl, hZ, hh⟩ := hP
  have hx := Bd.exec
  have hby := Bd.bytes
  have hml : c.maxLocals = 6 := hml0
  have hown : s.vm.findClass cN1 = some m.cls := findClass_of_methodNamed Bd.named
  have hnm := (name_of_methodNamed Bd.named Bd.method).1
  have X0 : Stand p l e ({ frames := 2, cells := 1, slots := 3, locals := 35 } : Room) s m #[(.ref ob_1826), (.ref ob_1781), (.int 0), (.int 3), .null] below meth c s₁ [] 0 0 := Stand.of_body Bd
  have e0 : s₁.heap = h0 := by rw [← hh, Bd.state]; rfl
  have N0 := Fr.nil n0
  show own_G p e below (s₁.setTop (entryFrame m #[(.ref ob_1826), (.ref ob_1781), (.int 0), (.int 3), .null] 6)) (own_P s (own_Q41 Z ob_1826 ob_1781 in_7 kk_1779 in_1 in_2 in_4 h0 n0) 1 3)
  refine own_cast (own_ef3 m ob_1826 ob_1781 0 3) ?_
  show own_G p e below (s₁.setTop (mkF m 0 #[rv ob_1826, rv ob_1781, iv 0, iv 3, .val .null, .unset] [])) _
  refine oS (fun _ => XS.aloadN X0.here hx rfl (hb hby dd2_0) rfl rfl) ?_
  obtain ⟨T1835, X1836, e1837, s1838⟩ := initO X0 hx hZ hown (oW hw 16 rfl) (oW hw 17 rfl) (oW hw 18 rfl) e0 (g := (mkF m 1 #[rv ob_1826, rv ob_1781, iv 0, iv 3, .val .null, .unset] [(.ref ob_1826)])) rfl (by rw [hml]; rfl) rfl (hb hby dd2_1) (by decide) (W := 0) (by show 2 * 0 + _ ≤ _; exact Nat.le_of_eq rfl) (by decide)
  refine oS s1838 ?_
  show own_G p e below (T1835.setTop (mkF m 4 #[rv ob_1826, rv ob_1781, iv 0, iv 3, .val .null, .unset] [])) _
  refine oS (fun _ => XS.iloadN X1836.here hx rfl (hb hby dd2_4) rfl) ?_
  refine oS (fun _ => XS.ifYes X1836.here hx rfl (pc0 := 5) (pc' := 27) rfl (hb hby dd2_5) rfl (XT.i0_ne_t (by decide)) (by decide) (by decide)) ?_
  show own_G p e below (T1835.setTop (mkF m 27 #[rv ob_1826, rv ob_1781, iv 0, iv 3, .val .null, .unset] [])) _
  have F1842 : Sta Z h0 cN1 "COMPACT_STRINGS" "Z" (.int in_7) := Sta.ext O0.2 I1841
  obtain ⟨T1843, X1844, e1845, s1846⟩ := getS X1836 hx hZ hown (host := "") (oW hw 19 rfl) Via.refl e1837 F1842 (g := (mkF m 27 #[rv ob_1826, rv ob_1781, iv 0, iv 3, .val .null, .unset] [])) rfl (hb hby dd2_27)
  refine oS s1846 ?_
  show own_G p e below (T1843.setTop (mkF m 30 #[rv ob_1826, rv ob_1781, iv 0, iv 3, .val .null, .unset] [(.int in_7)])) _
  refine oS (fun _ => XS.ifNo X1844.here hx rfl (hb hby dd2_30) rfl (XT.i0_eq_f I1849)) ?_
  show own_G p e below (T1843.setTop (mkF m 33 #[rv ob_1826, rv ob_1781, iv 0, iv 3, .val .null, .unset] [])) _
  refine oS (fun _ => XS.aloadN X1844.here hx rfl (hb hby dd2_33) rfl rfl) ?_
  refine oS (fun _ => XS.iloadN X1844.here hx rfl (hb hby dd2_34) rfl) ?_
  refine oS (fun _ => XS.iloadN X1844.here hx rfl (hb hby dd2_35) rfl) ?_
  have y1886 : @LT.lt Nat instLTNat ob_1781 h0.size := by omega
  obtain ⟨T1935, h1936, v1937, L1938, X1939, e1940, q1941, s1942⟩ := own_callS X1844 hx hZ hown e1845 (y := mN1) (oW hw 20 rfl) (oW hw 21 rfl) (oW hw 22 rfl) (oW hw 23 rfl) (by decide) (W := 0) (own_rm42 l Z a0 hw [] ob_1781 kk_1779 in_1 in_2 in_4 h0 n0 Z0 O0 I1865 y1886) (by decide) (by decide) (by decide) (by decide) (g := (mkF m 36 #[rv ob_1826, rv ob_1781, iv 0, iv 3, .val .null, .unset] [(.int 3), (.int 0), (.ref ob_1781)])) rfl (by rw [hml]; rfl) (argsL := [(.ref ob_1781), (.int 0), (.int 3)]) (rest := []) rfl (lenOf own_pd1 rfl) rfl (by show 2 * 0 + _ ≤ _; exact Nat.le_of_eq rfl) (hb hby dd2_36)
  refine oS s1942 ?_
  obtain ⟨ob_1943, kk_1944, rfl, N1945, K1946, F1947, F1948, F1949, F1950⟩ := q1941
  have N1951 := Fr.app N0 N1945
  have z1952 := K1946.1
  show own_G p e below (T1935.setTop (mkF m 39 #[rv ob_1826, rv ob_1781, iv 0, iv 3, .val .null, .unset] [(.ref ob_1943)])) _
  refine oS (fun _ => XS.astore X1939.here hx rfl (hb hby dd2_39) rfl rfl (l' := #[rv ob_1826, rv ob_1781, iv 0, iv 3, .val .null, rv ob_1943]) rfl) ?_
  refine oS (fun _ => XS.aloadN X1939.here hx rfl (hb hby dd2_41) rfl rfl) ?_
  refine oS (fun _ => XS.aload X1939.here hx rfl (hb hby dd2_42) rfl rfl) ?_
  refine oS (fun _ => XS.iloadN X1939.here hx rfl (hb hby dd2_44) rfl) ?_
  show own_G p e below (T1935.setTop (mkF m 45 #[rv ob_1826, rv ob_1781, iv 0, iv 3, .val .null, rv ob_1943] [(.int 3), (.ref ob_1943), (.ref ob_1826)])) _
  have O1954 : Old Z n0 h1936 := O0.keep K1946 all0
  have Z1955 : n0 ≤ h1936.size := by omega
  obtain ⟨T1956, h1957, v1958, L1959, X1960, e1961, q1962, s1963⟩ := own_callS X1939 hx hZ hown e1940 (y := mN2) (oW hw 28 rfl) (oW hw 29 rfl) (oW hw 22 rfl) (oW hw 30 rfl) (by decide) (W := 1) (own_rm44 l Z a0 hw [] ob_1943 kk_1944 in_1 in_2 in_4 h1936 n0 Z1955 O1954 F1948) (by decide) (by decide) (by decide) (by decide) (g := (mkF m 45 #[rv ob_1826, rv ob_1781, iv 0, iv 3, .val .null, rv ob_1943] [(.int 3), (.ref ob_1943), (.ref ob_1826)])) rfl (by rw [hml]; rfl) (argsL := [(.ref ob_1943), (.int 3)]) (rest := [(.ref ob_1826)]) rfl (lenOf own_pd2 rfl) rfl (by show 2 * 0 + _ ≤ _; exact Nat.le_of_eq rfl) (hb hby dd2_45)
  refine oS s1963 ?_
  obtain ⟨rfl, N1964, K1965⟩ := q1962
  have N1966 := Fr.app N1951 N1964
  have e1967 := e1961.trans K1965
  show own_G p e below (T1956.setTop (mkF m 48 #[rv ob_1826, rv ob_1781, iv 0, iv 3, .val .null, rv ob_1943] [(.int 0), (.ref ob_1826)])) _
  have F1970 : Fld Z h1936 ob_1826 cN1 "coder" "B" (.int 0) := I1969.keep K1946 nin0
  have F1973 : Exa Z h1936 ob_1826 cN1 := I1972.keep K1946
  obtain ⟨T1974, h1975, X1976, e1977, W1978, s1979⟩ := putF X1960 hx hZ hown (host := "") (Or.inl (oW hw 31 rfl)) Via.refl e1967 F1970 F1973 (Or.inr ⟨(oW hw 32 rfl), rfl, hnm⟩) (oW hw 7 rfl) (ty := .byte) (by decide) (by decide) (by decide) (g := (mkF m 48 #[rv ob_1826, rv ob_1781, iv 0, iv 3, .val .null, rv ob_1943] [(.int 0), (.ref ob_1826)])) rfl rfl (hb hby dd2_48)
  have N1980 := Fr.snoc X1976 N1966 I1983
  have z1984 := W1978.size
  have F1985 : Fld Z h1975 ob_1826 cN1 "coder" "B" (.int 0) := Fld.same W1978 F1970
  refine oS s1979 ?_
  show own_G p e below (T1974.setTop (mkF m 51 #[rv ob_1826, rv ob_1781, iv 0, iv 3, .val .null, rv ob_1943] [])) _
  refine oS (fun _ => XS.aloadN X1976.here hx rfl (hb hby dd2_51) rfl rfl) ?_
  refine oS (fun _ => XS.aload X1976.here hx rfl (hb hby dd2_52) rfl rfl) ?_
  have F1988 : Fld Z h1936 ob_1826 cN1 "value" "[B" .null := I1987.keep K1946 nin0
  have F1989 : Fld Z h1975 ob_1826 cN1 "value" "[B" .null := Fld.other W1978 F1988 (Or.inr (slot_ne (C := cN1) (Or.inr (oW hw 34 rfl)) (Or.inr (oW hw 32 rfl)) (by decide) (t := (.array .byte)) (t' := .byte) (by decide) (by decide)))
  have F1990 : Exa Z h1975 ob_1826 cN1 := Exa.wr W1978 F1973
  obtain ⟨T1991, h1992, X1993, e1994, W1995, s1996⟩ := putF X1976 hx hZ hown (host := "") (Or.inl (oW hw 33 rfl)) Via.refl e1977 F1989 F1990 (Or.inr ⟨(oW hw 34 rfl), rfl, hnm⟩) (oW hw 7 rfl) (ty := (.array .byte)) (by decide) rfl rfl (g := (mkF m 54 #[rv ob_1826, rv ob_1781, iv 0, iv 3, .val .null, rv ob_1943] [(.ref ob_1943), (.ref ob_1826)])) rfl rfl (hb hby dd2_54)
  have N1997 := Fr.snoc X1993 N1980 I1983
  have z1998 := W1995.size
  have F1999 : Fld Z h1992 ob_1826 cN1 "value" "[B" (.ref ob_1943) := Fld.same W1995 F1989
  refine oS s1996 ?_
  show own_G p e below (T1991.setTop (mkF m 57 #[rv ob_1826, rv ob_1781, iv 0, iv 3, .val .null, rv ob_1943] [])) _
  have F2000 : Fld Z h1992 ob_1826 cN1 "coder" "B" (.int 0) := Fld.other W1995 F1985 (Or.inr (slot_ne (C := cN1) (Or.inr (oW hw 32 rfl)) (Or.inr (oW hw 34 rfl)) (by decide) (t := .byte) (t' := (.array .byte)) (by decide) (by decide)))
  have F2001 : Exa Z h1992 ob_1826 cN1 := Exa.wr W1995 F1990
  have F2004 : Fld Z h1936 ob_1826 cN1 "hash" "I" (.int 0) := I2003.keep K1946 nin0
  have F2005 : Fld Z h1975 ob_1826 cN1 "hash" "I" (.int 0) := Fld.other W1978 F2004 (Or.inr (slot_ne (C := cN1) (Or.inl (oW hw 95 rfl)) (Or.inr (oW hw 32 rfl)) (by decide) (t := .int) (t' := .byte) (by decide) (by decide)))
  have F2006 : Fld Z h1992 ob_1826 cN1 "hash" "I" (.int 0) := Fld.other W1995 F2005 (Or.inr (slot_ne (C := cN1) (Or.inl (oW hw 95 rfl)) (Or.inr (oW hw 34 rfl)) (by decide) (t := .int) (t' := (.array .byte)) (by decide) (by decide)))
  have F2009 : Fld Z h1936 ob_1826 cN1 "hashIsZero" "Z" (.int 0) := I2008.keep K1946 nin0
  have F2010 : Fld Z h1975 ob_1826 cN1 "hashIsZero" "Z" (.int 0) := Fld.other W1978 F2009 (Or.inr (slot_ne (C := cN1) (Or.inl (oW hw 97 rfl)) (Or.inr (oW hw 32 rfl)) (by decide) (t := .boolean) (t' := .byte) (by decide) (by decide)))
  have F2011 : Fld Z h1992 ob_1826 cN1 "hashIsZero" "Z" (.int 0) := Fld.other W1995 F2010 (Or.inr (slot_ne (C := cN1) (Or.inl (oW hw 97 rfl)) (Or.inr (oW hw 34 rfl)) (by decide) (t := .boolean) (t' := (.array .byte)) (by decide) (by decide)))
  have N2016 : @Ne Nat ob_1943 ob_1826 := by omega
  have F2017 : Arv Z h1975 ob_1943 kk_1944 .byte 3 [(.int ((in_1 &&& 255).toInt8.toInt32)), (.int ((in_2 &&& 255).toInt8.toInt32)), (.int ((in_4 &&& 255).toInt8.toInt32))] (.int 0) := F1948.other W1978 N2016
  have F2018 : Arv Z h1992 ob_1943 kk_1944 .byte 3 [(.int ((in_1 &&& 255).toInt8.toInt32)), (.int ((in_2 &&& 255).toInt8.toInt32)), (.int ((in_4 &&& 255).toInt8.toInt32))] (.int 0) := F2017.other W1995 N2016
  have F2019 : Exa Z h1975 ob_1943 "[B" := Exa.wr W1978 F1949
  have F2020 : Exa Z h1992 ob_1943 "[B" := Exa.wr W1995 F2019
  have y2021 : @LT.lt Nat instLTNat ob_1943 h1992.size := by omega
  have K2022 : Keep h0 h1992 [ob_1826] := ((((Keep.refl h0 [ob_1826]).trans K1946 all0).wr W1978 (Or.inl (by simp))).wr W1995 (Or.inl (by simp)))
  exact own_retV X1993 hx Bd.notSynchronized Bd.returns (hb hby dd2_57) e1994 (by decide) (by decide) (⟨ob_1943, kk_1944, rfl, N1997, K2022, (by omega), F2000, F2001, F1999, F2006, F2011, F2018, F2020, y2021⟩)
def own_Q40 (Z : State) (ob_1826 : Nat) (ob_1781 : Nat) (kk_1779 : ClassId) (in_1 : Int32) (in_2 : Int32) (in_4 : Int32) (in_7 : Int32) (h0 : Heap) (n0 : Nat) (v : Option Value) (h : Heap) (L : List Loc) : Prop := (∃ ob_2031 : Nat, ∃ kk_2032 : ClassId, v = none ∧ Fr n0 L ∧ Keep h0 h [ob_1826] ∧ h0.size ≤ ob_2031 ∧ Fld Z h ob_1826 cN1 "coder" "B" (.int 0) ∧ Exa Z h ob_1826 cN1 ∧ Fld Z h ob_1826 cN1 "value" "[B" (.ref ob_2031) ∧ Fld Z h ob_1826 cN1 "hash" "I" (.int 0) ∧ Fld Z h ob_1826 cN1 "hashIsZero" "Z" (.int 0) ∧ Arv Z h ob_2031 kk_2032 .byte 3 [(.int ((in_1 &&& 255).toInt8.toInt32)), (.int ((in_2 &&& 255).toInt8.toInt32)), (.int ((in_4 &&& 255).toInt8.toInt32))] (.int 0) ∧ Exa Z h ob_2031 "[B" ∧ @LT.lt Nat instLTNat ob_2031 h.size)
set_option maxRecDepth 65536 in
set_option maxHeartbeats 40000000 in
theorem own_rm40 (l : Launch) (Z : State) (a0 : Array Value) (hw : ∀ d ∈ tables_1, d.before a0 Z = true) (ws : List Jvm.Cond) (ob_1826 : Nat) (ob_1781 : Nat) (kk_1779 : ClassId) (in_1 : Int32) (in_2 : Int32) (in_4 : Int32) (in_7 : Int32) (h0 : Heap) (n0 : Nat) (Z0 : n0 ≤ h0.size) (O0 : Old Z n0 h0) (I1834 : Arv Z h0 ob_1781 kk_1779 .char 3 [(.int (in_1 &&& 255)), (.int (in_2 &&& 255)), (.int (in_4 &&& 255))] (.int 0)) (I1840 : Sta Z Z.heap cN1 "COMPACT_STRINGS" "Z" (.int in_7)) (I1848 : ¬ (in_7 = 0)) (I1883 : @LT.lt Nat instLTNat ob_1781 h0.size) (I1968 : Fld Z h0 ob_1826 cN1 "coder" "B" (.int 0)) (I1971 : Exa Z h0 ob_1826 cN1) (I1982 : n0 ≤ ob_1826) (I1986 : Fld Z h0 ob_1826 cN1 "value" "[B" .null) (I2002 : Fld Z h0 ob_1826 cN1 "hash" "I" (.int 0)) (I2007 : Fld Z h0 ob_1826 cN1 "hashIsZero" "Z" (.int 0)) (I2013 : @LT.lt Nat instLTNat ob_1826 h0.size) :
    own_Met l Z h0 mN4 jdk_42_method_3_code 2 (Option.none : Option FieldType) ws ({ frames := 3, cells := 1, slots := 3, locals := 52 } : Room) #[(.ref ob_1826), (.ref ob_1781)] (own_Q40 Z ob_1826 ob_1781 kk_1779 in_1 in_2 in_4 in_7 h0 n0) 1 3 := by
  refine MetFree.of_bodySF own_pn4 hisR ?_
  intro p e s m args below meth c s₁ Bd hml0 hP hK
  obtain ⟨rfl, hZ, hh⟩ := hP
  have hx := Bd.exec
  have hby := Bd.bytes
  have hml : c.maxLocals = 2 := hml0
  have hown : s.vm.findClass cN1 = some m.cls := findClass_of_methodNamed Bd.named
  have hnm := (name_of_methodNamed Bd.named Bd.method).1
  have X0 : Stand p l e ({ frames := 3, cells := 1, slots := 3, locals := 52 } : Room) s m #[(.ref ob_1826), (.ref ob_1781)] below meth c s₁ [] 0 0 := Stand.of_body Bd
  have e0 : s₁.heap = h0 := by rw [← hh, Bd.state]; rfl
  have N0 := Fr.nil n0
  show own_G p e below (s₁.setTop (entryFrame m #[(.ref ob_1826), (.ref ob_1781)] 2)) (own_P s (own_Q40 Z ob_1826 ob_1781 kk_1779 in_1 in_2 in_4 in_7 h0 n0) 1 3)
  refine own_cast (own_ef2 m ob_1826 ob_1781) ?_
  show own_G p e below (s₁.setTop (mkF m 0 #[rv ob_1826, rv ob_1781] [])) _
  refine oS (fun _ => XS.aloadN X0.here hx rfl (hb hby dd1_0) rfl rfl) ?_
  refine oS (fun _ => XS.aloadN X0.here hx rfl (hb hby dd1_1) rfl rfl) ?_
  refine oS (fun _ => XS.iconst X0.here hx rfl (hb hby dd1_2) ) ?_
  refine oS (fun _ => XS.aloadN X0.here hx rfl (hb hby dd1_3) rfl rfl) ?_
  show own_G p e below (s₁.setTop (mkF m 4 #[rv ob_1826, rv ob_1781] [(.ref ob_1781), (.int 0), (.ref ob_1781), (.ref ob_1826)])) _
  refine oS (own_len X0 hx hZ e0 I1834 rfl rfl (hb hby dd1_4)) ?_
  show own_G p e below (s₁.setTop (mkF m 5 #[rv ob_1826, rv ob_1781] [(.int 3), (.int 0), (.ref ob_1781), (.ref ob_1826)])) _
  refine oS (fun _ => XS.aconstNull X0.here hx rfl (hb hby dd1_5) ) ?_
  have y1884 : @LT.lt Nat instLTNat ob_1781 h0.size := by omega
  have y2014 : @LT.lt Nat instLTNat ob_1826 h0.size := by omega
  obtain ⟨T2023, h2024, v2025, L2026, X2027, e2028, q2029, s2030⟩ := own_callN X0 hx hZ hown e0 (y := mN3) (b := ob_1826) rfl (oW hw 12 rfl) (oW hw 13 rfl) (oW hw 8 rfl) (oW hw 15 rfl) (by decide) (W := 0) (own_rm41 l Z a0 hw [] ob_1826 ob_1781 in_7 kk_1779 in_1 in_2 in_4 h0 n0 Z0 O0 I1840 I1848 I1834 y1884 I1968 I1971 I1982 I1986 I2002 I2007 y2014) (by decide) (by decide) (by decide) (by decide) (g := (mkF m 6 #[rv ob_1826, rv ob_1781] [.null, (.int 3), (.int 0), (.ref ob_1781), (.ref ob_1826)])) rfl (by rw [hml]; rfl) (argsL := [(.ref ob_1781), (.int 0), (.int 3), .null]) (rest := []) rfl (lenOf own_pd3 rfl) rfl (by show 2 * 0 + _ ≤ _; exact Nat.le_of_eq rfl) (hb hby dd1_6)
  refine oS s2030 ?_
  obtain ⟨ob_2031, kk_2032, rfl, N2033, K2034, F2035, F2036, F2037, F2038, F2039, F2040, F2041, F2042, F2043⟩ := q2029
  have N2044 := Fr.app N0 N2033
  have z2045 := K2034.1
  show own_G p e below (T2023.setTop (mkF m 9 #[rv ob_1826, rv ob_1781] [])) _
  have y2046 : @LT.lt Nat instLTNat ob_2031 h2024.size := by omega
  have K2047 : Keep h0 h2024 [ob_1826] := ((Keep.refl h0 [ob_1826]).trans K2034 (allS (Or.inl (by simp)) all0))
  exact own_retV X2027 hx Bd.notSynchronized Bd.returns (hb hby dd1_9) e2028 (by decide) (by decide) (⟨ob_2031, kk_2032, rfl, N2044, K2047, (by omega), F2036, F2037, F2038, F2039, F2040, F2041, F2042, y2046⟩)
theorem dd0_105 : decode method_2_code 105 = .ok (.invokespecial 9, 3) := by decide +kernel
theorem dd0_108 : decode method_2_code 108 = .ok (.areturn, 1) := by decide +kernel
def own_Q39 (Z : State) (in_1 : Int32) (in_2 : Int32) (in_4 : Int32) (in_7 : Int32) (h0 : Heap) (n0 : Nat) (v : Option Value) (h : Heap) (L : List Loc) : Prop := (∃ ob_1826 : Nat, ∃ ob_2062 : Nat, ∃ kk_2063 : ClassId, v = some (.ref ob_1826) ∧ Fr n0 L ∧ Keep h0 h [] ∧ h0.size ≤ ob_1826 ∧ ob_1826 < ob_2062 ∧ Exa Z h ob_1826 cN1 ∧ Fld Z h ob_1826 cN1 "coder" "B" (.int 0) ∧ Fld Z h ob_1826 cN1 "value" "[B" (.ref ob_2062) ∧ Fld Z h ob_1826 cN1 "hash" "I" (.int 0) ∧ Fld Z h ob_1826 cN1 "hashIsZero" "Z" (.int 0) ∧ Arv Z h ob_2062 kk_2063 .byte 3 [(.int ((in_1 &&& 255).toInt8.toInt32)), (.int ((in_2 &&& 255).toInt8.toInt32)), (.int ((in_4 &&& 255).toInt8.toInt32))] (.int 0) ∧ Exa Z h ob_2062 "[B" ∧ @LT.lt Nat instLTNat ob_1826 h.size ∧ @LT.lt Nat instLTNat ob_2062 h.size)
set_option maxRecDepth 65536 in
set_option maxHeartbeats 40000000 in
theorem own_rm39 (l : Launch) (Z : State) (a0 : Array Value) (hw : ∀ d ∈ tables_1, d.before a0 Z = true) (ws : List Jvm.Cond) (in_1 : Int32) (in_2 : Int32) (in_4 : Int32) (in_7 : Int32) (h0 : Heap) (n0 : Nat) (Z0 : n0 ≤ h0.size) (O0 : Old Z n0 h0) (I1839 : Sta Z Z.heap cN1 "COMPACT_STRINGS" "Z" (.int in_7)) (I1847 : ¬ (in_7 = 0)) :
    own_Met l Z h0 mN5 method_2_code 8 (Option.some (FieldType.object cN1)) ws ({ frames := 4, cells := 3, slots := 10, locals := 66 } : Room) #[(.int 3), (.int in_1), (.int in_2), (.int in_4)] (own_Q39 Z in_1 in_2 in_4 in_7 h0 n0) 3 10 := by
  refine MetFree.of_bodySF own_pn5 hisR ?_
  intro p e s m args below meth c s₁ Bd hml0 hP hK
  obtain ⟨rfl, hZ, hh⟩ := hP
  have hx := Bd.exec
  have hby := Bd.bytes
  have hml : c.maxLocals = 8 := hml0
  have hown : s.vm.findClass cN2 = some m.cls := findClass_of_methodNamed Bd.named
  have hnm := (name_of_methodNamed Bd.named Bd.method).1
  have X0 : Stand p l e ({ frames := 4, cells := 3, slots := 10, locals := 66 } : Room) s m #[(.int 3), (.int in_1), (.int in_2), (.int in_4)] below meth c s₁ [] 0 0 := Stand.of_body Bd
  have e0 : s₁.heap = h0 := by rw [← hh, Bd.state]; rfl
  have N0 := Fr.nil n0
  show own_G p e below (s₁.setTop (entryFrame m #[(.int 3), (.int in_1), (.int in_2), (.int in_4)] 8)) (own_P s (own_Q39 Z in_1 in_2 in_4 in_7 h0 n0) 3 10)
  refine own_cast (own_ef1 m 3 in_1 in_2 in_4) ?_
  show own_G p e below (s₁.setTop (mkF m 0 #[iv 3, iv in_1, iv in_2, iv in_4, .unset, .unset, .unset, .unset] [])) _
  refine oS (fun _ => XS.iloadN X0.here hx rfl (hb hby dd0_0) rfl) ?_
  refine oS (fun _ => XS.sipush X0.here hx rfl (hb hby dd0_1) ) ?_
  refine oS (fun _ => XS.iand X0.here hx rfl (hb hby dd0_4) rfl) ?_
  refine oS (fun _ => XT.i2c X0.here hx rfl (hb hby dd0_5) rfl) ?_
  show own_G p e below (s₁.setTop (mkF m 6 #[iv 3, iv in_1, iv in_2, iv in_4, .unset, .unset, .unset, .unset] [(.int ((in_1 &&& 255).toUInt32.toUInt16.toUInt32.toInt32))])) _
  refine own_cast (g' := (mkF m 6 #[iv 3, iv in_1, iv in_2, iv in_4, .unset, .unset, .unset, .unset] [(.int (in_1 &&& 255))])) (by rw [own_mk3]) ?_
  refine oS (fun _ => XS.istore X0.here hx rfl (hb hby dd0_6) rfl (l' := #[iv 3, iv in_1, iv in_2, iv in_4, iv (in_1 &&& 255), .unset, .unset, .unset]) rfl) ?_
  refine oS (fun _ => XS.iloadN X0.here hx rfl (hb hby dd0_8) rfl) ?_
  refine oS (fun _ => XS.sipush X0.here hx rfl (hb hby dd0_9) ) ?_
  refine oS (fun _ => XS.iand X0.here hx rfl (hb hby dd0_12) rfl) ?_
  show own_G p e below (s₁.setTop (mkF m 13 #[iv 3, iv in_1, iv in_2, iv in_4, iv (in_1 &&& 255), .unset, .unset, .unset] [(.int (in_2 &&& 255))])) _
  refine oS (fun _ => XT.i2c X0.here hx rfl (hb hby dd0_13) rfl) ?_
  show own_G p e below (s₁.setTop (mkF m 14 #[iv 3, iv in_1, iv in_2, iv in_4, iv (in_1 &&& 255), .unset, .unset, .unset] [(.int ((in_2 &&& 255).toUInt32.toUInt16.toUInt32.toInt32))])) _
  refine own_cast (g' := (mkF m 14 #[iv 3, iv in_1, iv in_2, iv in_4, iv (in_1 &&& 255), .unset, .unset, .unset] [(.int (in_2 &&& 255))])) (by rw [own_mk3]) ?_
  refine oS (fun _ => XS.istore X0.here hx rfl (hb hby dd0_14) rfl (l' := #[iv 3, iv in_1, iv in_2, iv in_4, iv (in_1 &&& 255), iv (in_2 &&& 255), .unset, .unset]) rfl) ?_
  refine oS (fun _ => XS.iloadN X0.here hx rfl (hb hby dd0_16) rfl) ?_
  refine oS (fun _ => XS.sipush X0.here hx rfl (hb hby dd0_17) ) ?_
  refine oS (fun _ => XS.iand X0.here hx rfl (hb hby dd0_20) rfl) ?_
  show own_G p e below (s₁.setTop (mkF m 21 #[iv 3, iv in_1, iv in_2, iv in_4, iv (in_1 &&& 255), iv (in_2 &&& 255), .unset, .unset] [(.int (in_4 &&& 255))])) _
  refine oS (fun _ => XT.i2c X0.here hx rfl (hb hby dd0_21) rfl) ?_
  show own_G p e below (s₁.setTop (mkF m 22 #[iv 3, iv in_1, iv in_2, iv in_4, iv (in_1 &&& 255), iv (in_2 &&& 255), .unset, .unset] [(.int ((in_4 &&& 255).toUInt32.toUInt16.toUInt32.toInt32))])) _
  refine own_cast (g' := (mkF m 22 #[iv 3, iv in_1, iv in_2, iv in_4, iv (in_1 &&& 255), iv (in_2 &&& 255), .unset, .unset] [(.int (in_4 &&& 255))])) (by rw [own_mk3]) ?_
  refine oS (fun _ => XS.istore X0.here hx rfl (hb hby dd0_22) rfl (l' := #[iv 3, iv in_1, iv in_2, iv in_4, iv (in_1 &&& 255), iv (in_2 &&& 255), iv (in_4 &&& 255), .unset]) rfl) ?_
  refine oS (fun _ => XS.iloadN X0.here hx rfl (hb hby dd0_24) rfl) ?_
  refine oS (fun _ => XS.iconst X0.here hx rfl (hb hby dd0_25) ) ?_
  refine oS (fun _ => XS.icmpYes X0.here hx rfl (pc0 := 26) (pc' := 49) rfl (hb hby dd0_26) rfl (XT.ii_ne_t (by decide)) (by decide) (by decide)) ?_
  show own_G p e below (s₁.setTop (mkF m 49 #[iv 3, iv in_1, iv in_2, iv in_4, iv (in_1 &&& 255), iv (in_2 &&& 255), iv (in_4 &&& 255), .unset] [])) _
  refine oS (fun _ => XS.iloadN X0.here hx rfl (hb hby dd0_49) rfl) ?_
  refine oS (fun _ => XS.iconst X0.here hx rfl (hb hby dd0_50) ) ?_
  refine oS (fun _ => XS.icmpYes X0.here hx rfl (pc0 := 51) (pc' := 79) rfl (hb hby dd0_51) rfl (XT.ii_ne_t (by decide)) (by decide) (by decide)) ?_
  show own_G p e below (s₁.setTop (mkF m 79 #[iv 3, iv in_1, iv in_2, iv in_4, iv (in_1 &&& 255), iv (in_2 &&& 255), iv (in_4 &&& 255), .unset] [])) _
  refine oS (fun _ => XS.iconst X0.here hx rfl (hb hby dd0_79) ) ?_
  obtain ⟨T1770, h1771, kk_1779, X1773, e1774, E1775, A1776, B1780, s1777⟩ := own_newP X0 hx hZ (aty := .char) (oW hw 5 rfl) e0 (nm := "[C") rfl (g := (mkF m 80 #[iv 3, iv in_1, iv in_2, iv in_4, iv (in_1 &&& 255), iv (in_2 &&& 255), iv (in_4 &&& 255), .unset] [(.int 3)])) rfl (hb hby dd0_80) (n := 3) (rest := []) rfl (by decide) (cap := 3) (by decide) (by decide) (by decide) (by decide)
  obtain ⟨ob_1781, g1782⟩ : ∃ z, z = h0.size := ⟨_, rfl⟩
  rw [← g1782] at A1776 B1780 s1777
  have F1783 : Arv Z h1771 ob_1781 kk_1779 .char 3 [(.int 0), (.int 0), (.int 0)] (.int 0) := own_newA A1776 (by decide) rfl rfl
  have z1784 := E1775.1
  have y1778 : @LT.lt Nat instLTNat ob_1781 h1771.size := F1783.lt
  refine oS s1777 ?_
  show own_G p e below (T1770.setTop (mkF m 82 #[iv 3, iv in_1, iv in_2, iv in_4, iv (in_1 &&& 255), iv (in_2 &&& 255), iv (in_4 &&& 255), .unset] [(.ref ob_1781)])) _
  refine oS (fun _ => XS.dup X1773.here hx rfl (hb hby dd0_82) rfl rfl) ?_
  refine oS (fun _ => XS.iconst X1773.here hx rfl (hb hby dd0_83) ) ?_
  refine oS (fun _ => XS.iload X1773.here hx rfl (hb hby dd0_84) rfl) ?_
  obtain ⟨T1785, h1786, X1787, e1788, W1789, A1790, s1791⟩ := own_stC X1773 hx hZ e1774 F1783 (x' := (in_1 &&& 255)) 0 (own_mk2 in_1) rfl (by decide) (by simp) (g := (mkF m 86 #[iv 3, iv in_1, iv in_2, iv in_4, iv (in_1 &&& 255), iv (in_2 &&& 255), iv (in_4 &&& 255), .unset] [(.int (in_1 &&& 255)), (.int 0), (.ref ob_1781), (.ref ob_1781)])) rfl (rest := [(.ref ob_1781)]) rfl (hb hby dd0_86)
  have N1793 : n0 ≤ ob_1781 := by omega
  have N1792 := Fr.snoc X1787 N0 N1793
  have z1794 := W1789.size
  have F1795 : Arv Z h1786 ob_1781 kk_1779 .char 3 [(.int (in_1 &&& 255)), (.int 0), (.int 0)] (.int 0) := A1790
  refine oS s1791 ?_
  show own_G p e below (T1785.setTop (mkF m 87 #[iv 3, iv in_1, iv in_2, iv in_4, iv (in_1 &&& 255), iv (in_2 &&& 255), iv (in_4 &&& 255), .unset] [(.ref ob_1781)])) _
  refine oS (fun _ => XS.dup X1787.here hx rfl (hb hby dd0_87) rfl rfl) ?_
  refine oS (fun _ => XS.iconst X1787.here hx rfl (hb hby dd0_88) ) ?_
  refine oS (fun _ => XS.iload X1787.here hx rfl (hb hby dd0_89) rfl) ?_
  obtain ⟨T1796, h1797, X1798, e1799, W1800, A1801, s1802⟩ := own_stC X1787 hx hZ e1788 F1795 (x' := (in_2 &&& 255)) 1 (own_mk2 in_2) rfl (by decide) (by simp) (g := (mkF m 91 #[iv 3, iv in_1, iv in_2, iv in_4, iv (in_1 &&& 255), iv (in_2 &&& 255), iv (in_4 &&& 255), .unset] [(.int (in_2 &&& 255)), (.int 1), (.ref ob_1781), (.ref ob_1781)])) rfl (rest := [(.ref ob_1781)]) rfl (hb hby dd0_91)
  have N1803 := Fr.snoc X1798 N1792 N1793
  have z1804 := W1800.size
  have F1805 : Arv Z h1797 ob_1781 kk_1779 .char 3 [(.int (in_1 &&& 255)), (.int (in_2 &&& 255)), (.int 0)] (.int 0) := A1801
  refine oS s1802 ?_
  show own_G p e below (T1796.setTop (mkF m 92 #[iv 3, iv in_1, iv in_2, iv in_4, iv (in_1 &&& 255), iv (in_2 &&& 255), iv (in_4 &&& 255), .unset] [(.ref ob_1781)])) _
  refine oS (fun _ => XS.dup X1798.here hx rfl (hb hby dd0_92) rfl rfl) ?_
  refine oS (fun _ => XS.iconst X1798.here hx rfl (hb hby dd0_93) ) ?_
  refine oS (fun _ => XS.iload X1798.here hx rfl (hb hby dd0_94) rfl) ?_
  obtain ⟨T1806, h1807, X1808, e1809, W1810, A1811, s1812⟩ := own_stC X1798 hx hZ e1799 F1805 (x' := (in_4 &&& 255)) 2 (own_mk2 in_4) rfl (by decide) (by simp) (g := (mkF m 96 #[iv 3, iv in_1, iv in_2, iv in_4, iv (in_1 &&& 255), iv (in_2 &&& 255), iv (in_4 &&& 255), .unset] [(.int (in_4 &&& 255)), (.int 2), (.ref ob_1781), (.ref ob_1781)])) rfl (rest := [(.ref ob_1781)]) rfl (hb hby dd0_96)
  have N1813 := Fr.snoc X1808 N1803 N1793
  have z1814 := W1810.size
  have F1815 : Arv Z h1807 ob_1781 kk_1779 .char 3 [(.int (in_1 &&& 255)), (.int (in_2 &&& 255)), (.int (in_4 &&& 255))] (.int 0) := A1811
  refine oS s1812 ?_
  show own_G p e below (T1806.setTop (mkF m 97 #[iv 3, iv in_1, iv in_2, iv in_4, iv (in_1 &&& 255), iv (in_2 &&& 255), iv (in_4 &&& 255), .unset] [(.ref ob_1781)])) _
  refine oS (fun _ => XS.astore X1808.here hx rfl (hb hby dd0_97) rfl rfl (l' := #[iv 3, iv in_1, iv in_2, iv in_4, iv (in_1 &&& 255), iv (in_2 &&& 255), iv (in_4 &&& 255), rv ob_1781]) rfl) ?_
  obtain ⟨T1816, h1817, X1818, e1819, E1820, A1821, D1822, U1825, s1823⟩ := newO X1808 hx hZ hown (oW hw 6 rfl) (oW hw 7 rfl) (oW hw 8 rfl) e1809 (g := (mkF m 99 #[iv 3, iv in_1, iv in_2, iv in_4, iv (in_1 &&& 255), iv (in_2 &&& 255), iv (in_4 &&& 255), rv ob_1781] [])) rfl (hb hby dd0_99) (by decide) (by decide)
  obtain ⟨ob_1826, g1827⟩ : ∃ z, z = h1807.size := ⟨_, rfl⟩
  rw [← g1827] at A1821 D1822 U1825 s1823
  have z1828 := E1820.1
  have y1824 : @LT.lt Nat instLTNat ob_1826 h1817.size := A1821.lt
  refine oS s1823 ?_
  have F1829 : Fld Z h1817 ob_1826 cN1 "coder" "B" (.int 0) := D1822 (Or.inr (oW hw 32 rfl)) (ty := .byte) (by decide)
  have F1830 : Fld Z h1817 ob_1826 cN1 "value" "[B" .null := D1822 (Or.inr (oW hw 34 rfl)) (ty := (.array .byte)) (by decide)
  have F1831 : Fld Z h1817 ob_1826 cN1 "hash" "I" (.int 0) := D1822 (Or.inl (oW hw 95 rfl)) (ty := .int) (by decide)
  have F1832 : Fld Z h1817 ob_1826 cN1 "hashIsZero" "Z" (.int 0) := D1822 (Or.inl (oW hw 97 rfl)) (ty := .boolean) (by decide)
  show own_G p e below (T1816.setTop (mkF m 102 #[iv 3, iv in_1, iv in_2, iv in_4, iv (in_1 &&& 255), iv (in_2 &&& 255), iv (in_4 &&& 255), rv ob_1781] [(.ref ob_1826)])) _
  refine oS (fun _ => XS.dup X1818.here hx rfl (hb hby dd0_102) rfl rfl) ?_
  refine oS (fun _ => XS.aload X1818.here hx rfl (hb hby dd0_103) rfl rfl) ?_
  have F1833 : Arv Z h1817 ob_1781 kk_1779 .char 3 [(.int (in_1 &&& 255)), (.int (in_2 &&& 255)), (.int (in_4 &&& 255))] (.int 0) := F1815.ext E1820
  have y1882 : @LT.lt Nat instLTNat ob_1781 h1817.size := by omega
  have N1981 : n0 ≤ ob_1826 := by omega
  have y2012 : @LT.lt Nat instLTNat ob_1826 h1817.size := by omega
  have O2048 : Old Z n0 h1771 := O0.ext E1775
  have O2049 : Old Z n0 h1786 := O2048.wr W1789 N1793
  have O2050 : Old Z n0 h1797 := O2049.wr W1800 N1793
  have O2051 : Old Z n0 h1807 := O2050.wr W1810 N1793
  have O2052 : Old Z n0 h1817 := O2051.ext E1820
  have Z2053 : n0 ≤ h1817.size := by omega
  obtain ⟨T2054, h2055, v2056, L2057, X2058, e2059, q2060, s2061⟩ := own_callN X1818 hx hZ hown e1819 (y := mN4) (b := ob_1826) rfl (oW hw 9 rfl) (oW hw 10 rfl) (oW hw 8 rfl) (oW hw 11 rfl) (by decide) (W := 1) (own_rm40 l Z a0 hw [] ob_1826 ob_1781 kk_1779 in_1 in_2 in_4 in_7 h1817 n0 Z2053 O2052 F1833 I1839 I1847 y1882 F1829 A1821 N1981 F1830 F1831 F1832 y2012) (by decide) (by decide) (by decide) (by decide) (g := (mkF m 105 #[iv 3, iv in_1, iv in_2, iv in_4, iv (in_1 &&& 255), iv (in_2 &&& 255), iv (in_4 &&& 255), rv ob_1781] [(.ref ob_1781), (.ref ob_1826), (.ref ob_1826)])) rfl (by rw [hml]; rfl) (argsL := [(.ref ob_1781)]) (rest := [(.ref ob_1826)]) rfl (lenOf own_pd4 rfl) rfl (by show 2 * 0 + _ ≤ _; exact Nat.le_of_eq rfl) (hb hby dd0_105)
  refine oS s2061 ?_
  obtain ⟨ob_2062, kk_2063, rfl, N2064, K2065, F2066, F2067, F2068, F2069, F2070, F2071, F2072, F2073, F2074⟩ := q2060
  have N2075 := Fr.app N1813 N2064
  have z2076 := K2065.1
  show own_G p e below (T2054.setTop (mkF m 108 #[iv 3, iv in_1, iv in_2, iv in_4, iv (in_1 &&& 255), iv (in_2 &&& 255), iv (in_4 &&& 255), rv ob_1781] [(.ref ob_1826)])) _
  have y2077 : @LT.lt Nat instLTNat ob_1826 h2055.size := by omega
  have y2078 : @LT.lt Nat instLTNat ob_2062 h2055.size := by omega
  have K2079 : Keep h0 h2055 [] := (((((((Keep.refl h0 []).ext E1775).wr W1789 (Or.inr (by omega))).wr W1800 (Or.inr (by omega))).wr W1810 (Or.inr (by omega))).ext E1820).trans K2065 (allS (Or.inr (by omega)) all0))
  exact own_retA X2058 hx Bd.notSynchronized Bd.returns rfl rfl (hb hby dd0_108) e2059 (by decide) (by decide) (⟨ob_1826, ob_2062, kk_2063, rfl, N2075, K2079, (by omega), (by omega), F2068, F2067, F2069, F2070, F2071, F2072, F2073, y2077, y2078⟩)
def own_Q47 (Z : State) (ob_2090 : Nat) (ob_2091 : Nat) (kk_2092 : ClassId) (in_1 : Int32) (in_2 : Int32) (in_4 : Int32) (h0 : Heap) (n0 : Nat) (v : Option Value) (h : Heap) (L : List Loc) : Prop := (v = some (.int 0) ∧ Fr n0 L ∧ h = h0)
set_option maxRecDepth 65536 in
set_option maxHeartbeats 40000000 in
theorem own_rm47 (l : Launch) (Z : State) (a0 : Array Value) (hw : ∀ d ∈ tables_1, d.before a0 Z = true) (ws : List Jvm.Cond) (ob_2090 : Nat) (ob_2091 : Nat) (kk_2092 : ClassId) (in_1 : Int32) (in_2 : Int32) (in_4 : Int32) (h0 : Heap) (n0 : Nat) (Z0 : n0 ≤ h0.size) (O0 : Old Z n0 h0) (I2172 : Fld Z h0 ob_2090 cN1 "value" "[B" (.ref ob_2091)) (I2177 : Arv Z h0 ob_2091 kk_2092 .byte 3 [(.int ((in_1 &&& 255).toInt8.toInt32)), (.int ((in_2 &&& 255).toInt8.toInt32)), (.int ((in_4 &&& 255).toInt8.toInt32))] (.int 0)) :
    own_Met l Z h0 mN7 jdk_42_method_55_code 1 (Option.some FieldType.boolean) ws ({ frames := 0, cells := 0, slots := 0, locals := 0 } : Room) #[(.ref ob_2090)] (own_Q47 Z ob_2090 ob_2091 kk_2092 in_1 in_2 in_4 h0 n0) 0 0 := by
  refine MetFree.of_bodySF own_pn7 hisR ?_
  intro p e s m args below meth c s₁ Bd hml0 hP hK
  obtain ⟨rfl, hZ, hh⟩ := hP
  have hx := Bd.exec
  have hby := Bd.bytes
  have hml : c.maxLocals = 1 := hml0
  have hown : s.vm.findClass cN1 = some m.cls := findClass_of_methodNamed Bd.named
  have hnm := (name_of_methodNamed Bd.named Bd.method).1
  have X0 : Stand p l e ({ frames := 0, cells := 0, slots := 0, locals := 0 } : Room) s m #[(.ref ob_2090)] below meth c s₁ [] 0 0 := Stand.of_body Bd
  have e0 : s₁.heap = h0 := by rw [← hh, Bd.state]; rfl
  have N0 := Fr.nil n0
  show own_G p e below (s₁.setTop (entryFrame m #[(.ref ob_2090)] 1)) (own_P s (own_Q47 Z ob_2090 ob_2091 kk_2092 in_1 in_2 in_4 h0 n0) 0 0)
  refine own_cast (own_ef7 m ob_2090) ?_
  show own_G p e below (s₁.setTop (mkF m 0 #[rv ob_2090] [])) _
  refine oS (fun _ => XS.aloadN X0.here hx rfl (hb hby dd8_0) rfl rfl) ?_
  obtain ⟨T2173, X2174, e2175, s2176⟩ := getF X0 hx hZ hown (host := "") (Or.inl (oW hw 33 rfl)) Via.refl e0 I2172 (g := (mkF m 1 #[rv ob_2090] [(.ref ob_2090)])) rfl rfl (hb hby dd8_1)
  refine oS s2176 ?_
  show own_G p e below (T2173.setTop (mkF m 4 #[rv ob_2090] [(.ref ob_2091)])) _
  refine oS (own_len X2174 hx hZ e2175 I2177 rfl rfl (hb hby dd8_4)) ?_
  show own_G p e below (T2173.setTop (mkF m 5 #[rv ob_2090] [(.int 3)])) _
  refine oS (fun _ => XS.ifYes X2174.here hx rfl (pc0 := 5) (pc' := 12) rfl (hb hby dd8_5) rfl (XT.i0_ne_t (by decide)) (by decide) (by decide)) ?_
  show own_G p e below (T2173.setTop (mkF m 12 #[rv ob_2090] [])) _
  refine oS (fun _ => XS.iconst X2174.here hx rfl (hb hby dd8_12) ) ?_
  exact own_retN X2174 hx (t := .boolean) Bd.notSynchronized Bd.returns (by simp) (hb hby dd8_13) (by decide) e2175 (by decide) (by decide) (⟨rfl, N0, rfl⟩)
def own_Q46 (Z : State) (ob_2090 : Nat) (ob_2091 : Nat) (kk_2092 : ClassId) (in_1 : Int32) (in_2 : Int32) (in_4 : Int32) (h0 : Heap) (n0 : Nat) (vm : Vm) (v : Option Value) (h : Heap) (L : List Loc) : Prop := (∃ ob_2201 : Nat, v = some (.ref ob_2201) ∧ Fr n0 L ∧ Keep h0 h [] ∧ h0.size ≤ ob_2201 ∧ Exa Z h ob_2201 cN4 ∧ Fld Z h ob_2201 cN4 "name" cN5 (.ref ob_2090) ∧ @LT.lt Nat instLTNat ob_2201 h.size)
set_option maxRecDepth 65536 in
set_option maxHeartbeats 40000000 in
theorem own_rm46 (l : Launch) (Z : State) (a0 : Array Value) (hw : ∀ d ∈ tables_1, d.before a0 Z = true) (hEL : EW Z a0 own_EL) (ws : List Jvm.Cond) (ob_2090 : Nat) (ob_2091 : Nat) (kk_2092 : ClassId) (in_1 : Int32) (in_2 : Int32) (in_4 : Int32) (h0 : Heap) (n0 : Nat) (Z0 : n0 ≤ h0.size) (O0 : Old Z n0 h0) (I2166 : Exa Z h0 ob_2090 cN1) (I2168 : Fld Z h0 ob_2090 cN1 "value" "[B" (.ref ob_2091)) (I2170 : Arv Z h0 ob_2091 kk_2092 .byte 3 [(.int ((in_1 &&& 255).toInt8.toInt32)), (.int ((in_2 &&& 255).toInt8.toInt32)), (.int ((in_4 &&& 255).toInt8.toInt32))] (.int 0)) :
    own_MetW l Z own_EL [] h0 mN9 prog_11_method_2_code 1 (Option.some (FieldType.object cN4)) ws ({ frames := 2, cells := 3, slots := 21, locals := 26 } : Room) #[(.ref ob_2090)] (own_Q46 Z ob_2090 ob_2091 kk_2092 in_1 in_2 in_4 h0 n0) 3 21 := by
  refine MetFree.of_bodySF own_pn9 hisR ?_
  intro p e s m args below meth c s₁ Bd hml0 hP hK
  obtain ⟨rfl, hZ, hh, hCH, hsf⟩ := hP
  have hx := Bd.exec
  have hby := Bd.bytes
  have hml : c.maxLocals = 1 := hml0
  have hown : (s.setVm s.vm).vm.findClass cN4 = some m.cls := findClass_of_methodNamed Bd.named
  have hnm := (name_of_methodNamed Bd.named Bd.method).1
  have hZ : Z.Warmed39 (s.setVm s.vm).vm := hZ
  have hS : s.Since s.vm 0 := (State.WarmedH.refl s).since 0
  have X0 : Stand p l e ({ frames := 2, cells := 3, slots := 21, locals := 26 } : Room) (s.setVm s.vm) m #[(.ref ob_2090)] below meth c s₁ [] 0 0 := Stand.of_body Bd
  have e0 : s₁.heap = h0 := by rw [← hh, Bd.state]; rfl
  have hR : CHr Z own_EL s.vm h0 s.vm h0 := CHr.refl hCH
  have N0 := Fr.nil n0
  show own_G p e below (s₁.setTop (entryFrame m #[(.ref ob_2090)] 1)) (own_PW Z own_EL s (own_Q46 Z ob_2090 ob_2091 kk_2092 in_1 in_2 in_4 h0 n0) 3 21)
  refine own_cast (own_ef7 m ob_2090) ?_
  show own_G p e below (s₁.setTop (mkF m 0 #[rv ob_2090] [])) _
  refine oS (fun _ => XS.aloadN X0.here hx rfl (hb hby dd6_0) rfl rfl) ?_
  obtain ⟨ob_2145, T2136, h2137, k2138, X2139, e2140, E2141, hS, hk, hZ, hown, A2142, L2143, s2144⟩ := ldcOH X0 hx hZ hown (oW hw 39 rfl) (own_sk hw) e0 hS (by omega) hEL hR.1 (g := (mkF m 1 #[rv ob_2090] [(.ref ob_2090)])) rfl (hb hby dd6_1) (n := 16) (by decide) (by decide) (by decide) (by decide)
  have z2146 := E2141.1
  refine oS s2144 ?_
  have R2147 : CHr Z own_EL s.vm h0 T2136.vm h2137 := hR.trans A2142
  show own_G p e below (T2136.setTop (mkF m 3 #[rv ob_2090] [(.ref ob_2145), (.ref ob_2090)])) _
  have O2148 : Old Z n0 h2137 := O0.ext E2141
  have Z2149 : n0 ≤ h2137.size := by omega
  obtain ⟨T2150, h2151, v2152, L2153, X2154, e2155, q2156, s2157⟩ := own_callS X2139 hx hZ hown e2140 (y := mN6) (oW hw 42 rfl) (oW hw 43 rfl) (oW hw 44 rfl) (oW hw 45 rfl) (by decide) (W := 0) (own_rm10 l Z a0 hw [] ob_2090 ob_2145 h2137 n0 Z2149 O2148 ) (by decide) (by decide) (by decide) (by decide) (g := (mkF m 3 #[rv ob_2090] [(.ref ob_2145), (.ref ob_2090)])) rfl (by rw [hml]; rfl) (argsL := [(.ref ob_2090), (.ref ob_2145)]) (rest := []) rfl (lenOf own_pd6 rfl) rfl (by show 2 * 0 + _ ≤ _; exact Nat.le_of_eq rfl) (hb hby dd6_3)
  refine oS s2157 ?_
  obtain ⟨rfl, N2158, K2159⟩ := q2156
  have N2160 := Fr.app N0 N2158
  have e2161 := e2155.trans K2159
  show own_G p e below (T2150.setTop (mkF m 6 #[rv ob_2090] [(.ref ob_2090)])) _
  have F2167 : Exa Z h2137 ob_2090 cN1 := Exa.ext E2141 I2166
  obtain ⟨T2162, X2163, e2164, s2165⟩ := castY X2154 hx hZ hown (oW hw 46 rfl) e2161 (Ins.self F2167) (g := (mkF m 6 #[rv ob_2090] [(.ref ob_2090)])) rfl rfl (hb hby dd6_6)
  refine oS s2165 ?_
  show own_G p e below (T2162.setTop (mkF m 9 #[rv ob_2090] [(.ref ob_2090)])) _
  have F2169 : Fld Z h2137 ob_2090 cN1 "value" "[B" (.ref ob_2091) := Fld.ext E2141 I2168
  have F2171 : Arv Z h2137 ob_2091 kk_2092 .byte 3 [(.int ((in_1 &&& 255).toInt8.toInt32)), (.int ((in_2 &&& 255).toInt8.toInt32)), (.int ((in_4 &&& 255).toInt8.toInt32))] (.int 0) := I2170.ext E2141
  have Z2178 : n0 ≤ h2137.size := by omega
  obtain ⟨T2179, h2180, v2181, L2182, X2183, e2184, q2185, s2186⟩ := own_callV X2163 hx hZ hown e2164 (y := mN7) (z := mN7) (C := cN1) (b := ob_2090) (oW hw 47 rfl) (oW hw 48 rfl) (notFace_of_selects (args := #[]) (mvT hZ (oW hw 50 rfl))) (oW hw 50 rfl) (oW hw 49 rfl) (oW hw 8 rfl) (oW hw 51 rfl) (by decide) F2167 (W := 0) (own_rm47 l Z a0 hw [] ob_2090 ob_2091 kk_2092 in_1 in_2 in_4 h2137 n0 Z2178 O2148 F2169 F2171) (by decide) (by decide) (by decide) (by decide) (g := (mkF m 9 #[rv ob_2090] [(.ref ob_2090)])) rfl (by rw [hml]; rfl) (argsL := []) (rest := []) rfl (lenOf own_pd7 rfl) rfl (by show 2 * 0 + _ ≤ _; exact Nat.le_of_eq rfl) (hb hby dd6_9)
  refine oS s2186 ?_
  obtain ⟨rfl, N2187, K2188⟩ := q2185
  have N2189 := Fr.app N2160 N2187
  have e2190 := e2184.trans K2188
  show own_G p e below (T2179.setTop (mkF m 12 #[rv ob_2090] [(.int 0)])) _
  refine oS (fun _ => XS.ifYes X2183.here hx rfl (pc0 := 12) (pc' := 25) rfl (hb hby dd6_12) rfl (XT.i0_eq_t (by decide)) (by decide) (by decide)) ?_
  show own_G p e below (T2179.setTop (mkF m 25 #[rv ob_2090] [])) _
  obtain ⟨T2191, h2192, X2193, e2194, E2195, A2196, D2197, U2200, s2198⟩ := newO X2183 hx hZ hown (oW hw 52 rfl) (oW hw 53 rfl) (oW hw 37 rfl) e2190 (g := (mkF m 25 #[rv ob_2090] [])) rfl (hb hby dd6_25) (by decide) (by decide)
  obtain ⟨ob_2201, g2202⟩ : ∃ z, z = h2137.size := ⟨_, rfl⟩
  rw [← g2202] at A2196 D2197 U2200 s2198
  have z2203 := E2195.1
  have y2199 : @LT.lt Nat instLTNat ob_2201 h2192.size := A2196.lt
  refine oS s2198 ?_
  have R2204 : CHr Z own_EL s.vm h0 T2136.vm h2192 := R2147.trans (CHr.ext E2195 R2147.1)
  have F2205 : Fld Z h2192 ob_2201 cN4 "name" cN5 .null := D2197 (Or.inr (oW hw 59 rfl)) (ty := (.object cN1)) (by decide)
  show own_G p e below (T2191.setTop (mkF m 28 #[rv ob_2090] [(.ref ob_2201)])) _
  refine oS (fun _ => XS.dup X2193.here hx rfl (hb hby dd6_28) rfl rfl) ?_
  refine oS (fun _ => XS.aloadN X2193.here hx rfl (hb hby dd6_29) rfl rfl) ?_
  have N2206 : n0 ≤ ob_2201 := by omega
  have O2207 : Old Z n0 h2192 := O2148.ext E2195
  have Z2208 : n0 ≤ h2192.size := by omega
  obtain ⟨T2209, h2210, v2211, L2212, X2213, e2214, q2215, s2216⟩ := own_callN X2193 hx hZ hown e2194 (y := mN8) (b := ob_2201) rfl (oW hw 54 rfl) (oW hw 55 rfl) (oW hw 37 rfl) (oW hw 56 rfl) (by decide) (W := 1) (own_rm12 l Z a0 hw [] ob_2201 ob_2090 h2192 n0 Z2208 O2207 F2205 A2196 N2206) (by decide) (by decide) (by decide) (by decide) (g := (mkF m 30 #[rv ob_2090] [(.ref ob_2090), (.ref ob_2201), (.ref ob_2201)])) rfl (by rw [hml]; rfl) (argsL := [(.ref ob_2090)]) (rest := [(.ref ob_2201)]) rfl (lenOf own_pd8 rfl) rfl (by show 2 * 0 + _ ≤ _; exact Nat.le_of_eq rfl) (hb hby dd6_30)
  refine oS s2216 ?_
  obtain ⟨rfl, N2217, K2218, F2219, F2220⟩ := q2215
  have N2221 := Fr.app N2189 N2217
  have R2222 : CHr Z own_EL s.vm h0 T2136.vm h2210 := R2204.trans (CHr.keep K2218 (sfS own_safe0 sf0) R2204.1)
  have z2223 := K2218.1
  show own_G p e below (T2209.setTop (mkF m 33 #[rv ob_2090] [(.ref ob_2201)])) _
  have y2224 : @LT.lt Nat instLTNat ob_2201 h2210.size := by omega
  have K2225 : Keep h0 h2210 [] := ((((Keep.refl h0 []).ext E2141).ext E2195).trans K2218 (allS (Or.inr (by omega)) all0))
  exact own_retAW X2213 hx Bd.notSynchronized Bd.returns rfl rfl (hb hby dd6_33) hS hZ hEL hh R2222 e2214 (by omega) (by decide) (by decide) (fun hA => ⟨ob_2201, rfl, N2221, K2225, (by omega), F2220, F2219, y2224⟩)
def own_Q49 (Z : State) (ob_1752 : Nat) (ob_2091 : Nat) (kk_1753 : ClassId) (in_1 : Int32) (kk_2092 : ClassId) (in_2 : Int32) (in_4 : Int32) (h0 : Heap) (n0 : Nat) (v : Option Value) (h : Heap) (L : List Loc) : Prop := (v = some (.int 0) ∧ Fr n0 L ∧ h = h0)
set_option maxRecDepth 65536 in
set_option maxHeartbeats 40000000 in
theorem own_rm49 (l : Launch) (Z : State) (a0 : Array Value) (hw : ∀ d ∈ tables_1, d.before a0 Z = true) (ws : List Jvm.Cond) (ob_1752 : Nat) (ob_2091 : Nat) (kk_1753 : ClassId) (in_1 : Int32) (kk_2092 : ClassId) (in_2 : Int32) (in_4 : Int32) (h0 : Heap) (n0 : Nat) (Z0 : n0 ≤ h0.size) (O0 : Old Z n0 h0) (I2301 : Arv Z h0 ob_1752 kk_1753 .byte 1 [(.int ((in_1 &&& 255).toInt8.toInt32))] (.int 0)) (I2302 : Arv Z h0 ob_2091 kk_2092 .byte 3 [(.int ((in_1 &&& 255).toInt8.toInt32)), (.int ((in_2 &&& 255).toInt8.toInt32)), (.int ((in_4 &&& 255).toInt8.toInt32))] (.int 0)) :
    own_Met l Z h0 mN10 jdk_43_method_13_code 3 (Option.some FieldType.boolean) ws ({ frames := 0, cells := 0, slots := 0, locals := 0 } : Room) #[(.ref ob_1752), (.ref ob_2091)] (own_Q49 Z ob_1752 ob_2091 kk_1753 in_1 kk_2092 in_2 in_4 h0 n0) 0 0 := by
  refine MetFree.of_bodySF own_pn10 hisR ?_
  intro p e s m args below meth c s₁ Bd hml0 hP hK
  obtain ⟨rfl, hZ, hh⟩ := hP
  have hx := Bd.exec
  have hby := Bd.bytes
  have hml : c.maxLocals = 3 := hml0
  have hown : s.vm.findClass cN6 = some m.cls := findClass_of_methodNamed Bd.named
  have hnm := (name_of_methodNamed Bd.named Bd.method).1
  have X0 : Stand p l e ({ frames := 0, cells := 0, slots := 0, locals := 0 } : Room) s m #[(.ref ob_1752), (.ref ob_2091)] below meth c s₁ [] 0 0 := Stand.of_body Bd
  have e0 : s₁.heap = h0 := by rw [← hh, Bd.state]; rfl
  have N0 := Fr.nil n0
  show own_G p e below (s₁.setTop (entryFrame m #[(.ref ob_1752), (.ref ob_2091)] 3)) (own_P s (own_Q49 Z ob_1752 ob_2091 kk_1753 in_1 kk_2092 in_2 in_4 h0 n0) 0 0)
  refine own_cast (own_ef8 m ob_1752 ob_2091) ?_
  show own_G p e below (s₁.setTop (mkF m 0 #[rv ob_1752, rv ob_2091, .unset] [])) _
  refine oS (fun _ => XS.aloadN X0.here hx rfl (hb hby dd11_0) rfl rfl) ?_
  refine oS (own_len X0 hx hZ e0 I2301 rfl rfl (hb hby dd11_1)) ?_
  show own_G p e below (s₁.setTop (mkF m 2 #[rv ob_1752, rv ob_2091, .unset] [(.int 1)])) _
  refine oS (fun _ => XS.aloadN X0.here hx rfl (hb hby dd11_2) rfl rfl) ?_
  refine oS (own_len X0 hx hZ e0 I2302 rfl rfl (hb hby dd11_3)) ?_
  show own_G p e below (s₁.setTop (mkF m 4 #[rv ob_1752, rv ob_2091, .unset] [(.int 3), (.int 1)])) _
  refine oS (fun _ => XS.icmpYes X0.here hx rfl (pc0 := 4) (pc' := 34) rfl (hb hby dd11_4) rfl (XT.ii_ne_t (by decide)) (by decide) (by decide)) ?_
  show own_G p e below (s₁.setTop (mkF m 34 #[rv ob_1752, rv ob_2091, .unset] [])) _
  refine oS (fun _ => XS.iconst X0.here hx rfl (hb hby dd11_34) ) ?_
  exact own_retN X0 hx (t := .boolean) Bd.notSynchronized Bd.returns (by simp) (hb hby dd11_35) (by decide) e0 (by decide) (by decide) (⟨rfl, N0, rfl⟩)
def own_Q48 (Z : State) (ob_1751 : Nat) (ob_2090 : Nat) (in_7 : Int32) (ob_1752 : Nat) (ob_2091 : Nat) (kk_1753 : ClassId) (in_1 : Int32) (kk_2092 : ClassId) (in_2 : Int32) (in_4 : Int32) (h0 : Heap) (n0 : Nat) (v : Option Value) (h : Heap) (L : List Loc) : Prop := (v = some (.int 0) ∧ Fr n0 L ∧ h = h0)
set_option maxRecDepth 65536 in
set_option maxHeartbeats 40000000 in
theorem own_rm48 (l : Launch) (Z : State) (a0 : Array Value) (hw : ∀ d ∈ tables_1, d.before a0 Z = true) (ws : List Jvm.Cond) (ob_1751 : Nat) (ob_2090 : Nat) (in_7 : Int32) (ob_1752 : Nat) (ob_2091 : Nat) (kk_1753 : ClassId) (in_1 : Int32) (kk_2092 : ClassId) (in_2 : Int32) (in_4 : Int32) (h0 : Heap) (n0 : Nat) (Z0 : n0 ≤ h0.size) (O0 : Old Z n0 h0) (I2262 : @Ne Nat ob_1751 ob_2090) (I2267 : Exa Z h0 ob_2090 cN1) (I2272 : Sta Z Z.heap cN1 "COMPACT_STRINGS" "Z" (.int in_7)) (I2278 : ¬ (in_7 = 0)) (I2279 : Fld Z h0 ob_1751 cN1 "coder" "B" (.int 0)) (I2284 : Fld Z h0 ob_2090 cN1 "coder" "B" (.int 0)) (I2289 : Fld Z h0 ob_1751 cN1 "value" "[B" (.ref ob_1752)) (I2294 : Fld Z h0 ob_2090 cN1 "value" "[B" (.ref ob_2091)) (I2299 : Arv Z h0 ob_1752 kk_1753 .byte 1 [(.int ((in_1 &&& 255).toInt8.toInt32))] (.int 0)) (I2300 : Arv Z h0 ob_2091 kk_2092 .byte 3 [(.int ((in_1 &&& 255).toInt8.toInt32)), (.int ((in_2 &&& 255).toInt8.toInt32)), (.int ((in_4 &&& 255).toInt8.toInt32))] (.int 0)) :
    own_Met l Z h0 mN11 jdk_42_method_66_code 3 (Option.some FieldType.boolean) ws ({ frames := 1, cells := 0, slots := 0, locals := 14 } : Room) #[(.ref ob_1751), (.ref ob_2090)] (own_Q48 Z ob_1751 ob_2090 in_7 ob_1752 ob_2091 kk_1753 in_1 kk_2092 in_2 in_4 h0 n0) 0 0 := by
  refine MetFree.of_bodySF own_pn11 hisR ?_
  intro p e s m args below meth c s₁ Bd hml0 hP hK
  obtain ⟨rfl, hZ, hh⟩ := hP
  have hx := Bd.exec
  have hby := Bd.bytes
  have hml : c.maxLocals = 3 := hml0
  have hown : s.vm.findClass cN1 = some m.cls := findClass_of_methodNamed Bd.named
  have hnm := (name_of_methodNamed Bd.named Bd.method).1
  have X0 : Stand p l e ({ frames := 1, cells := 0, slots := 0, locals := 14 } : Room) s m #[(.ref ob_1751), (.ref ob_2090)] below meth c s₁ [] 0 0 := Stand.of_body Bd
  have e0 : s₁.heap = h0 := by rw [← hh, Bd.state]; rfl
  have N0 := Fr.nil n0
  show own_G p e below (s₁.setTop (entryFrame m #[(.ref ob_1751), (.ref ob_2090)] 3)) (own_P s (own_Q48 Z ob_1751 ob_2090 in_7 ob_1752 ob_2091 kk_1753 in_1 kk_2092 in_2 in_4 h0 n0) 0 0)
  refine own_cast (own_ef8 m ob_1751 ob_2090) ?_
  show own_G p e below (s₁.setTop (mkF m 0 #[rv ob_1751, rv ob_2090, .unset] [])) _
  refine oS (fun _ => XS.aloadN X0.here hx rfl (hb hby dd10_0) rfl rfl) ?_
  refine oS (fun _ => XS.aloadN X0.here hx rfl (hb hby dd10_1) rfl rfl) ?_
  refine oS (fun _ => XT.acmpYes X0.here hx rfl (pc0 := 2) (pc' := 7) rfl (hb hby dd10_2) rfl rfl rfl (XT.aa_ne_t (own_rne I2262)) (by decide) (by decide)) ?_
  show own_G p e below (s₁.setTop (mkF m 7 #[rv ob_1751, rv ob_2090, .unset] [])) _
  refine oS (fun _ => XS.aloadN X0.here hx rfl (hb hby dd10_7) rfl rfl) ?_
  obtain ⟨T2263, X2264, e2265, s2266⟩ := instY X0 hx hZ hown (oW hw 65 rfl) e0 (Ins.self I2267) (g := (mkF m 8 #[rv ob_1751, rv ob_2090, .unset] [(.ref ob_2090)])) rfl rfl (hb hby dd10_8)
  refine oS s2266 ?_
  show own_G p e below (T2263.setTop (mkF m 11 #[rv ob_1751, rv ob_2090, .unset] [(.int 1)])) _
  refine oS (fun _ => XS.ifNo X2264.here hx rfl (hb hby dd10_11) rfl (XT.i0_eq_f (by decide))) ?_
  show own_G p e below (T2263.setTop (mkF m 14 #[rv ob_1751, rv ob_2090, .unset] [])) _
  refine oS (fun _ => XS.aloadN X2264.here hx rfl (hb hby dd10_14) rfl rfl) ?_
  obtain ⟨T2268, X2269, e2270, s2271⟩ := castY X2264 hx hZ hown (oW hw 65 rfl) e2265 (Ins.self I2267) (g := (mkF m 15 #[rv ob_1751, rv ob_2090, .unset] [(.ref ob_2090)])) rfl rfl (hb hby dd10_15)
  refine oS s2271 ?_
  show own_G p e below (T2268.setTop (mkF m 18 #[rv ob_1751, rv ob_2090, .unset] [(.ref ob_2090)])) _
  refine oS (fun _ => XS.astoreN X2269.here hx rfl (hb hby dd10_18) rfl rfl (l' := #[rv ob_1751, rv ob_2090, rv ob_2090]) rfl) ?_
  have F2273 : Sta Z h0 cN1 "COMPACT_STRINGS" "Z" (.int in_7) := Sta.ext O0.2 I2272
  obtain ⟨T2274, X2275, e2276, s2277⟩ := getS X2269 hx hZ hown (host := "") (oW hw 19 rfl) Via.refl e2270 F2273 (g := (mkF m 19 #[rv ob_1751, rv ob_2090, rv ob_2090] [])) rfl (hb hby dd10_19)
  refine oS s2277 ?_
  show own_G p e below (T2274.setTop (mkF m 22 #[rv ob_1751, rv ob_2090, rv ob_2090] [(.int in_7)])) _
  refine oS (fun _ => XS.ifNo X2275.here hx rfl (hb hby dd10_22) rfl (XT.i0_eq_f I2278)) ?_
  show own_G p e below (T2274.setTop (mkF m 25 #[rv ob_1751, rv ob_2090, rv ob_2090] [])) _
  refine oS (fun _ => XS.aloadN X2275.here hx rfl (hb hby dd10_25) rfl rfl) ?_
  obtain ⟨T2280, X2281, e2282, s2283⟩ := getF X2275 hx hZ hown (host := "") (Or.inl (oW hw 31 rfl)) Via.refl e2276 I2279 (g := (mkF m 26 #[rv ob_1751, rv ob_2090, rv ob_2090] [(.ref ob_1751)])) rfl rfl (hb hby dd10_26)
  refine oS s2283 ?_
  show own_G p e below (T2280.setTop (mkF m 29 #[rv ob_1751, rv ob_2090, rv ob_2090] [(.int 0)])) _
  refine oS (fun _ => XS.aloadN X2281.here hx rfl (hb hby dd10_29) rfl rfl) ?_
  obtain ⟨T2285, X2286, e2287, s2288⟩ := getF X2281 hx hZ hown (host := "") (Or.inl (oW hw 31 rfl)) Via.refl e2282 I2284 (g := (mkF m 30 #[rv ob_1751, rv ob_2090, rv ob_2090] [(.ref ob_2090), (.int 0)])) rfl rfl (hb hby dd10_30)
  refine oS s2288 ?_
  show own_G p e below (T2285.setTop (mkF m 33 #[rv ob_1751, rv ob_2090, rv ob_2090] [(.int 0), (.int 0)])) _
  refine oS (fun _ => XS.icmpNo X2286.here hx rfl (hb hby dd10_33) rfl (XT.ii_ne_f (by decide))) ?_
  show own_G p e below (T2285.setTop (mkF m 36 #[rv ob_1751, rv ob_2090, rv ob_2090] [])) _
  refine oS (fun _ => XS.aloadN X2286.here hx rfl (hb hby dd10_36) rfl rfl) ?_
  obtain ⟨T2290, X2291, e2292, s2293⟩ := getF X2286 hx hZ hown (host := "") (Or.inl (oW hw 33 rfl)) Via.refl e2287 I2289 (g := (mkF m 37 #[rv ob_1751, rv ob_2090, rv ob_2090] [(.ref ob_1751)])) rfl rfl (hb hby dd10_37)
  refine oS s2293 ?_
  show own_G p e below (T2290.setTop (mkF m 40 #[rv ob_1751, rv ob_2090, rv ob_2090] [(.ref ob_1752)])) _
  refine oS (fun _ => XS.aloadN X2291.here hx rfl (hb hby dd10_40) rfl rfl) ?_
  obtain ⟨T2295, X2296, e2297, s2298⟩ := getF X2291 hx hZ hown (host := "") (Or.inl (oW hw 33 rfl)) Via.refl e2292 I2294 (g := (mkF m 41 #[rv ob_1751, rv ob_2090, rv ob_2090] [(.ref ob_2090), (.ref ob_1752)])) rfl rfl (hb hby dd10_41)
  refine oS s2298 ?_
  show own_G p e below (T2295.setTop (mkF m 44 #[rv ob_1751, rv ob_2090, rv ob_2090] [(.ref ob_2091), (.ref ob_1752)])) _
  obtain ⟨T2303, h2304, v2305, L2306, X2307, e2308, q2309, s2310⟩ := own_callS X2296 hx hZ hown e2297 (y := mN10) (oW hw 66 rfl) (oW hw 67 rfl) (oW hw 68 rfl) (oW hw 69 rfl) (by decide) (W := 0) (own_rm49 l Z a0 hw [] ob_1752 ob_2091 kk_1753 in_1 kk_2092 in_2 in_4 h0 n0 Z0 O0 I2299 I2300) (by decide) (by decide) (by decide) (by decide) (g := (mkF m 44 #[rv ob_1751, rv ob_2090, rv ob_2090] [(.ref ob_2091), (.ref ob_1752)])) rfl (by rw [hml]; rfl) (argsL := [(.ref ob_1752), (.ref ob_2091)]) (rest := []) rfl (lenOf own_pd10 rfl) rfl (by show 2 * 0 + _ ≤ _; exact Nat.le_of_eq rfl) (hb hby dd10_44)
  refine oS s2310 ?_
  obtain ⟨rfl, N2311, K2312⟩ := q2309
  have N2313 := Fr.app N0 N2311
  have e2314 := e2308.trans K2312
  show own_G p e below (T2303.setTop (mkF m 47 #[rv ob_1751, rv ob_2090, rv ob_2090] [(.int 0)])) _
  refine oS (fun _ => XS.ifYes X2307.here hx rfl (pc0 := 47) (pc' := 54) rfl (hb hby dd10_47) rfl (XT.i0_eq_t (by decide)) (by decide) (by decide)) ?_
  show own_G p e below (T2303.setTop (mkF m 54 #[rv ob_1751, rv ob_2090, rv ob_2090] [])) _
  refine oS (fun _ => XS.iconst X2307.here hx rfl (hb hby dd10_54) ) ?_
  exact own_retN X2307 hx (t := .boolean) Bd.notSynchronized Bd.returns (by simp) (hb hby dd10_55) (by decide) e2314 (by decide) (by decide) (⟨rfl, N2313, rfl⟩)
def own_Q52 (Z : State) (ob_2091 : Nat) (ob_1752 : Nat) (kk_2092 : ClassId) (in_1 : Int32) (in_2 : Int32) (in_4 : Int32) (kk_1753 : ClassId) (h0 : Heap) (n0 : Nat) (v : Option Value) (h : Heap) (L : List Loc) : Prop := (v = some (.int 0) ∧ Fr n0 L ∧ h = h0)
set_option maxRecDepth 65536 in
set_option maxHeartbeats 40000000 in
theorem own_rm52 (l : Launch) (Z : State) (a0 : Array Value) (hw : ∀ d ∈ tables_1, d.before a0 Z = true) (ws : List Jvm.Cond) (ob_2091 : Nat) (ob_1752 : Nat) (kk_2092 : ClassId) (in_1 : Int32) (in_2 : Int32) (in_4 : Int32) (kk_1753 : ClassId) (h0 : Heap) (n0 : Nat) (Z0 : n0 ≤ h0.size) (O0 : Old Z n0 h0) (I2469 : Arv Z h0 ob_2091 kk_2092 .byte 3 [(.int ((in_1 &&& 255).toInt8.toInt32)), (.int ((in_2 &&& 255).toInt8.toInt32)), (.int ((in_4 &&& 255).toInt8.toInt32))] (.int 0)) (I2472 : Arv Z h0 ob_1752 kk_1753 .byte 1 [(.int ((in_1 &&& 255).toInt8.toInt32))] (.int 0)) :
    own_Met l Z h0 mN10 jdk_43_method_13_code 3 (Option.some FieldType.boolean) ws ({ frames := 0, cells := 0, slots := 0, locals := 0 } : Room) #[(.ref ob_2091), (.ref ob_1752)] (own_Q52 Z ob_2091 ob_1752 kk_2092 in_1 in_2 in_4 kk_1753 h0 n0) 0 0 := by
  refine MetFree.of_bodySF own_pn10 hisR ?_
  intro p e s m args below meth c s₁ Bd hml0 hP hK
  obtain ⟨rfl, hZ, hh⟩ := hP
  have hx := Bd.exec
  have hby := Bd.bytes
  have hml : c.maxLocals = 3 := hml0
  have hown : s.vm.findClass cN6 = some m.cls := findClass_of_methodNamed Bd.named
  have hnm := (name_of_methodNamed Bd.named Bd.method).1
  have X0 : Stand p l e ({ frames := 0, cells := 0, slots := 0, locals := 0 } : Room) s m #[(.ref ob_2091), (.ref ob_1752)] below meth c s₁ [] 0 0 := Stand.of_body Bd
  have e0 : s₁.heap = h0 := by rw [← hh, Bd.state]; rfl
  have N0 := Fr.nil n0
  show own_G p e below (s₁.setTop (entryFrame m #[(.ref ob_2091), (.ref ob_1752)] 3)) (own_P s (own_Q52 Z ob_2091 ob_1752 kk_2092 in_1 in_2 in_4 kk_1753 h0 n0) 0 0)
  refine own_cast (own_ef8 m ob_2091 ob_1752) ?_
  show own_G p e below (s₁.setTop (mkF m 0 #[rv ob_2091, rv ob_1752, .unset] [])) _
  refine oS (fun _ => XS.aloadN X0.here hx rfl (hb hby dd11_0) rfl rfl) ?_
  refine oS (own_len X0 hx hZ e0 I2469 rfl rfl (hb hby dd11_1)) ?_
  show own_G p e below (s₁.setTop (mkF m 2 #[rv ob_2091, rv ob_1752, .unset] [(.int 3)])) _
  refine oS (fun _ => XS.aloadN X0.here hx rfl (hb hby dd11_2) rfl rfl) ?_
  refine oS (own_len X0 hx hZ e0 I2472 rfl rfl (hb hby dd11_3)) ?_
  show own_G p e below (s₁.setTop (mkF m 4 #[rv ob_2091, rv ob_1752, .unset] [(.int 1), (.int 3)])) _
  refine oS (fun _ => XS.icmpYes X0.here hx rfl (pc0 := 4) (pc' := 34) rfl (hb hby dd11_4) rfl (XT.ii_ne_t (by decide)) (by decide) (by decide)) ?_
  show own_G p e below (s₁.setTop (mkF m 34 #[rv ob_2091, rv ob_1752, .unset] [])) _
  refine oS (fun _ => XS.iconst X0.here hx rfl (hb hby dd11_34) ) ?_
  exact own_retN X0 hx (t := .boolean) Bd.notSynchronized Bd.returns (by simp) (hb hby dd11_35) (by decide) e0 (by decide) (by decide) (⟨rfl, N0, rfl⟩)
def own_Q51 (Z : State) (ob_2090 : Nat) (ob_1751 : Nat) (in_7 : Int32) (ob_2091 : Nat) (ob_1752 : Nat) (kk_2092 : ClassId) (in_1 : Int32) (in_2 : Int32) (in_4 : Int32) (kk_1753 : ClassId) (h0 : Heap) (n0 : Nat) (v : Option Value) (h : Heap) (L : List Loc) : Prop := (v = some (.int 0) ∧ Fr n0 L ∧ h = h0)
set_option maxRecDepth 65536 in
set_option maxHeartbeats 40000000 in
theorem own_rm51 (l : Launch) (Z : State) (a0 : Array Value) (hw : ∀ d ∈ tables_1, d.before a0 Z = true) (ws : List Jvm.Cond) (ob_2090 : Nat) (ob_1751 : Nat) (in_7 : Int32) (ob_2091 : Nat) (ob_1752 : Nat) (kk_2092 : ClassId) (in_1 : Int32) (in_2 : Int32) (in_4 : Int32) (kk_1753 : ClassId) (h0 : Heap) (n0 : Nat) (Z0 : n0 ≤ h0.size) (O0 : Old Z n0 h0) (I2431 : @Ne Nat ob_2090 ob_1751) (I2436 : Exa Z h0 ob_1751 cN1) (I2441 : Sta Z Z.heap cN1 "COMPACT_STRINGS" "Z" (.int in_7)) (I2447 : ¬ (in_7 = 0)) (I2448 : Fld Z h0 ob_2090 cN1 "coder" "B" (.int 0)) (I2453 : Fld Z h0 ob_1751 cN1 "coder" "B" (.int 0)) (I2458 : Fld Z h0 ob_2090 cN1 "value" "[B" (.ref ob_2091)) (I2463 : Fld Z h0 ob_1751 cN1 "value" "[B" (.ref ob_1752)) (I2468 : Arv Z h0 ob_2091 kk_2092 .byte 3 [(.int ((in_1 &&& 255).toInt8.toInt32)), (.int ((in_2 &&& 255).toInt8.toInt32)), (.int ((in_4 &&& 255).toInt8.toInt32))] (.int 0)) (I2471 : Arv Z h0 ob_1752 kk_1753 .byte 1 [(.int ((in_1 &&& 255).toInt8.toInt32))] (.int 0)) :
    own_Met l Z h0 mN11 jdk_42_method_66_code 3 (Option.some FieldType.boolean) ws ({ frames := 1, cells := 0, slots := 0, locals := 14 } : Room) #[(.ref ob_2090), (.ref ob_1751)] (own_Q51 Z ob_2090 ob_1751 in_7 ob_2091 ob_1752 kk_2092 in_1 in_2 in_4 kk_1753 h0 n0) 0 0 := by
  refine MetFree.of_bodySF own_pn11 hisR ?_
  intro p e s m args below meth c s₁ Bd hml0 hP hK
  obtain ⟨rfl, hZ, hh⟩ := hP
  have hx := Bd.exec
  have hby := Bd.bytes
  have hml : c.maxLocals = 3 := hml0
  have hown : s.vm.findClass cN1 = some m.cls := findClass_of_methodNamed Bd.named
  have hnm := (name_of_methodNamed Bd.named Bd.method).1
  have X0 : Stand p l e ({ frames := 1, cells := 0, slots := 0, locals := 14 } : Room) s m #[(.ref ob_2090), (.ref ob_1751)] below meth c s₁ [] 0 0 := Stand.of_body Bd
  have e0 : s₁.heap = h0 := by rw [← hh, Bd.state]; rfl
  have N0 := Fr.nil n0
  show own_G p e below (s₁.setTop (entryFrame m #[(.ref ob_2090), (.ref ob_1751)] 3)) (own_P s (own_Q51 Z ob_2090 ob_1751 in_7 ob_2091 ob_1752 kk_2092 in_1 in_2 in_4 kk_1753 h0 n0) 0 0)
  refine own_cast (own_ef8 m ob_2090 ob_1751) ?_
  show own_G p e below (s₁.setTop (mkF m 0 #[rv ob_2090, rv ob_1751, .unset] [])) _
  refine oS (fun _ => XS.aloadN X0.here hx rfl (hb hby dd10_0) rfl rfl) ?_
  refine oS (fun _ => XS.aloadN X0.here hx rfl (hb hby dd10_1) rfl rfl) ?_
  refine oS (fun _ => XT.acmpYes X0.here hx rfl (pc0 := 2) (pc' := 7) rfl (hb hby dd10_2) rfl rfl rfl (XT.aa_ne_t (own_rne I2431)) (by decide) (by decide)) ?_
  show own_G p e below (s₁.setTop (mkF m 7 #[rv ob_2090, rv ob_1751, .unset] [])) _
  refine oS (fun _ => XS.aloadN X0.here hx rfl (hb hby dd10_7) rfl rfl) ?_
  obtain ⟨T2432, X2433, e2434, s2435⟩ := instY X0 hx hZ hown (oW hw 65 rfl) e0 (Ins.self I2436) (g := (mkF m 8 #[rv ob_2090, rv ob_1751, .unset] [(.ref ob_1751)])) rfl rfl (hb hby dd10_8)
  refine oS s2435 ?_
  show own_G p e below (T2432.setTop (mkF m 11 #[rv ob_2090, rv ob_1751, .unset] [(.int 1)])) _
  refine oS (fun _ => XS.ifNo X2433.here hx rfl (hb hby dd10_11) rfl (XT.i0_eq_f (by decide))) ?_
  show own_G p e below (T2432.setTop (mkF m 14 #[rv ob_2090, rv ob_1751, .unset] [])) _
  refine oS (fun _ => XS.aloadN X2433.here hx rfl (hb hby dd10_14) rfl rfl) ?_
  obtain ⟨T2437, X2438, e2439, s2440⟩ := castY X2433 hx hZ hown (oW hw 65 rfl) e2434 (Ins.self I2436) (g := (mkF m 15 #[rv ob_2090, rv ob_1751, .unset] [(.ref ob_1751)])) rfl rfl (hb hby dd10_15)
  refine oS s2440 ?_
  show own_G p e below (T2437.setTop (mkF m 18 #[rv ob_2090, rv ob_1751, .unset] [(.ref ob_1751)])) _
  refine oS (fun _ => XS.astoreN X2438.here hx rfl (hb hby dd10_18) rfl rfl (l' := #[rv ob_2090, rv ob_1751, rv ob_1751]) rfl) ?_
  have F2442 : Sta Z h0 cN1 "COMPACT_STRINGS" "Z" (.int in_7) := Sta.ext O0.2 I2441
  obtain ⟨T2443, X2444, e2445, s2446⟩ := getS X2438 hx hZ hown (host := "") (oW hw 19 rfl) Via.refl e2439 F2442 (g := (mkF m 19 #[rv ob_2090, rv ob_1751, rv ob_1751] [])) rfl (hb hby dd10_19)
  refine oS s2446 ?_
  show own_G p e below (T2443.setTop (mkF m 22 #[rv ob_2090, rv ob_1751, rv ob_1751] [(.int in_7)])) _
  refine oS (fun _ => XS.ifNo X2444.here hx rfl (hb hby dd10_22) rfl (XT.i0_eq_f I2447)) ?_
  show own_G p e below (T2443.setTop (mkF m 25 #[rv ob_2090, rv ob_1751, rv ob_1751] [])) _
  refine oS (fun _ => XS.aloadN X2444.here hx rfl (hb hby dd10_25) rfl rfl) ?_
  obtain ⟨T2449, X2450, e2451, s2452⟩ := getF X2444 hx hZ hown (host := "") (Or.inl (oW hw 31 rfl)) Via.refl e2445 I2448 (g := (mkF m 26 #[rv ob_2090, rv ob_1751, rv ob_1751] [(.ref ob_2090)])) rfl rfl (hb hby dd10_26)
  refine oS s2452 ?_
  show own_G p e below (T2449.setTop (mkF m 29 #[rv ob_2090, rv ob_1751, rv ob_1751] [(.int 0)])) _
  refine oS (fun _ => XS.aloadN X2450.here hx rfl (hb hby dd10_29) rfl rfl) ?_
  obtain ⟨T2454, X2455, e2456, s2457⟩ := getF X2450 hx hZ hown (host := "") (Or.inl (oW hw 31 rfl)) Via.refl e2451 I2453 (g := (mkF m 30 #[rv ob_2090, rv ob_1751, rv ob_1751] [(.ref ob_1751), (.int 0)])) rfl rfl (hb hby dd10_30)
  refine oS s2457 ?_
  show own_G p e below (T2454.setTop (mkF m 33 #[rv ob_2090, rv ob_1751, rv ob_1751] [(.int 0), (.int 0)])) _
  refine oS (fun _ => XS.icmpNo X2455.here hx rfl (hb hby dd10_33) rfl (XT.ii_ne_f (by decide))) ?_
  show own_G p e below (T2454.setTop (mkF m 36 #[rv ob_2090, rv ob_1751, rv ob_1751] [])) _
  refine oS (fun _ => XS.aloadN X2455.here hx rfl (hb hby dd10_36) rfl rfl) ?_
  obtain ⟨T2459, X2460, e2461, s2462⟩ := getF X2455 hx hZ hown (host := "") (Or.inl (oW hw 33 rfl)) Via.refl e2456 I2458 (g := (mkF m 37 #[rv ob_2090, rv ob_1751, rv ob_1751] [(.ref ob_2090)])) rfl rfl (hb hby dd10_37)
  refine oS s2462 ?_
  show own_G p e below (T2459.setTop (mkF m 40 #[rv ob_2090, rv ob_1751, rv ob_1751] [(.ref ob_2091)])) _
  refine oS (fun _ => XS.aloadN X2460.here hx rfl (hb hby dd10_40) rfl rfl) ?_
  obtain ⟨T2464, X2465, e2466, s2467⟩ := getF X2460 hx hZ hown (host := "") (Or.inl (oW hw 33 rfl)) Via.refl e2461 I2463 (g := (mkF m 41 #[rv ob_2090, rv ob_1751, rv ob_1751] [(.ref ob_1751), (.ref ob_2091)])) rfl rfl (hb hby dd10_41)
  refine oS s2467 ?_
  show own_G p e below (T2464.setTop (mkF m 44 #[rv ob_2090, rv ob_1751, rv ob_1751] [(.ref ob_1752), (.ref ob_2091)])) _
  obtain ⟨T2473, h2474, v2475, L2476, X2477, e2478, q2479, s2480⟩ := own_callS X2465 hx hZ hown e2466 (y := mN10) (oW hw 66 rfl) (oW hw 67 rfl) (oW hw 68 rfl) (oW hw 69 rfl) (by decide) (W := 0) (own_rm52 l Z a0 hw [] ob_2091 ob_1752 kk_2092 in_1 in_2 in_4 kk_1753 h0 n0 Z0 O0 I2468 I2471) (by decide) (by decide) (by decide) (by decide) (g := (mkF m 44 #[rv ob_2090, rv ob_1751, rv ob_1751] [(.ref ob_1752), (.ref ob_2091)])) rfl (by rw [hml]; rfl) (argsL := [(.ref ob_2091), (.ref ob_1752)]) (rest := []) rfl (lenOf own_pd10 rfl) rfl (by show 2 * 0 + _ ≤ _; exact Nat.le_of_eq rfl) (hb hby dd10_44)
  refine oS s2480 ?_
  obtain ⟨rfl, N2481, K2482⟩ := q2479
  have N2483 := Fr.app N0 N2481
  have e2484 := e2478.trans K2482
  show own_G p e below (T2473.setTop (mkF m 47 #[rv ob_2090, rv ob_1751, rv ob_1751] [(.int 0)])) _
  refine oS (fun _ => XS.ifYes X2477.here hx rfl (pc0 := 47) (pc' := 54) rfl (hb hby dd10_47) rfl (XT.i0_eq_t (by decide)) (by decide) (by decide)) ?_
  show own_G p e below (T2473.setTop (mkF m 54 #[rv ob_2090, rv ob_1751, rv ob_1751] [])) _
  refine oS (fun _ => XS.iconst X2477.here hx rfl (hb hby dd10_54) ) ?_
  exact own_retN X2477 hx (t := .boolean) Bd.notSynchronized Bd.returns (by simp) (hb hby dd10_55) (by decide) e2484 (by decide) (by decide) (⟨rfl, N2483, rfl⟩)
def own_Q50 (Z : State) (ob_2123 : Nat) (ob_2237 : Nat) (ob_2090 : Nat) (ob_1751 : Nat) (in_7 : Int32) (ob_2091 : Nat) (ob_1752 : Nat) (kk_2092 : ClassId) (in_1 : Int32) (in_2 : Int32) (in_4 : Int32) (kk_1753 : ClassId) (h0 : Heap) (n0 : Nat) (v : Option Value) (h : Heap) (L : List Loc) : Prop := (v = some (.int 0) ∧ Fr n0 L ∧ h = h0)
set_option maxRecDepth 65536 in
set_option maxHeartbeats 40000000 in
theorem own_rm50 (l : Launch) (Z : State) (a0 : Array Value) (hw : ∀ d ∈ tables_1, d.before a0 Z = true) (ws : List Jvm.Cond) (ob_2123 : Nat) (ob_2237 : Nat) (ob_2090 : Nat) (ob_1751 : Nat) (in_7 : Int32) (ob_2091 : Nat) (ob_1752 : Nat) (kk_2092 : ClassId) (in_1 : Int32) (in_2 : Int32) (in_4 : Int32) (kk_1753 : ClassId) (h0 : Heap) (n0 : Nat) (Z0 : n0 ≤ h0.size) (O0 : Old Z n0 h0) (I2406 : Exa Z h0 ob_2237 cN4) (I2411 : Fld Z h0 ob_2237 cN4 "name" cN5 (.ref ob_2090)) (I2416 : Fld Z h0 ob_2123 cN4 "name" cN5 (.ref ob_1751)) (I2421 : @Ne Nat ob_2090 ob_1751) (I2422 : Exa Z h0 ob_1751 cN1) (I2423 : Sta Z Z.heap cN1 "COMPACT_STRINGS" "Z" (.int in_7)) (I2424 : ¬ (in_7 = 0)) (I2425 : Fld Z h0 ob_2090 cN1 "coder" "B" (.int 0)) (I2426 : Fld Z h0 ob_1751 cN1 "coder" "B" (.int 0)) (I2427 : Fld Z h0 ob_2090 cN1 "value" "[B" (.ref ob_2091)) (I2428 : Fld Z h0 ob_1751 cN1 "value" "[B" (.ref ob_1752)) (I2429 : Arv Z h0 ob_2091 kk_2092 .byte 3 [(.int ((in_1 &&& 255).toInt8.toInt32)), (.int ((in_2 &&& 255).toInt8.toInt32)), (.int ((in_4 &&& 255).toInt8.toInt32))] (.int 0)) (I2430 : Exa Z h0 ob_2090 cN1) (I2470 : Arv Z h0 ob_1752 kk_1753 .byte 1 [(.int ((in_1 &&& 255).toInt8.toInt32))] (.int 0)) :
    own_Met l Z h0 mN13 prog_11_method_4_code 3 (Option.some FieldType.boolean) ws ({ frames := 2, cells := 0, slots := 0, locals := 28 } : Room) #[(.ref ob_2123), (.ref ob_2237)] (own_Q50 Z ob_2123 ob_2237 ob_2090 ob_1751 in_7 ob_2091 ob_1752 kk_2092 in_1 in_2 in_4 kk_1753 h0 n0) 0 0 := by
  refine MetFree.of_bodySF own_pn13 hisR ?_
  intro p e s m args below meth c s₁ Bd hml0 hP hK
  obtain ⟨rfl, hZ, hh⟩ := hP
  have hx := Bd.exec
  have hby := Bd.bytes
  have hml : c.maxLocals = 3 := hml0
  have hown : s.vm.findClass cN4 = some m.cls := findClass_of_methodNamed Bd.named
  have hnm := (name_of_methodNamed Bd.named Bd.method).1
  have X0 : Stand p l e ({ frames := 2, cells := 0, slots := 0, locals := 28 } : Room) s m #[(.ref ob_2123), (.ref ob_2237)] below meth c s₁ [] 0 0 := Stand.of_body Bd
  have e0 : s₁.heap = h0 := by rw [← hh, Bd.state]; rfl
  have N0 := Fr.nil n0
  show own_G p e below (s₁.setTop (entryFrame m #[(.ref ob_2123), (.ref ob_2237)] 3)) (own_P s (own_Q50 Z ob_2123 ob_2237 ob_2090 ob_1751 in_7 ob_2091 ob_1752 kk_2092 in_1 in_2 in_4 kk_1753 h0 n0) 0 0)
  refine own_cast (own_ef8 m ob_2123 ob_2237) ?_
  show own_G p e below (s₁.setTop (mkF m 0 #[rv ob_2123, rv ob_2237, .unset] [])) _
  refine oS (fun _ => XS.aloadN X0.here hx rfl (hb hby dd13_0) rfl rfl) ?_
  obtain ⟨T2402, X2403, e2404, s2405⟩ := instY X0 hx hZ hown (oW hw 52 rfl) e0 (Ins.self I2406) (g := (mkF m 1 #[rv ob_2123, rv ob_2237, .unset] [(.ref ob_2237)])) rfl rfl (hb hby dd13_1)
  refine oS s2405 ?_
  show own_G p e below (T2402.setTop (mkF m 4 #[rv ob_2123, rv ob_2237, .unset] [(.int 1)])) _
  refine oS (fun _ => XS.ifNo X2403.here hx rfl (hb hby dd13_4) rfl (XT.i0_eq_f (by decide))) ?_
  show own_G p e below (T2402.setTop (mkF m 7 #[rv ob_2123, rv ob_2237, .unset] [])) _
  refine oS (fun _ => XS.aloadN X2403.here hx rfl (hb hby dd13_7) rfl rfl) ?_
  obtain ⟨T2407, X2408, e2409, s2410⟩ := castY X2403 hx hZ hown (oW hw 52 rfl) e2404 (Ins.self I2406) (g := (mkF m 8 #[rv ob_2123, rv ob_2237, .unset] [(.ref ob_2237)])) rfl rfl (hb hby dd13_8)
  refine oS s2410 ?_
  show own_G p e below (T2407.setTop (mkF m 11 #[rv ob_2123, rv ob_2237, .unset] [(.ref ob_2237)])) _
  refine oS (fun _ => XS.astoreN X2408.here hx rfl (hb hby dd13_11) rfl rfl (l' := #[rv ob_2123, rv ob_2237, rv ob_2237]) rfl) ?_
  refine oS (fun _ => XS.aloadN X2408.here hx rfl (hb hby dd13_12) rfl rfl) ?_
  obtain ⟨T2412, X2413, e2414, s2415⟩ := getF X2408 hx hZ hown (host := "") (Or.inl (oW hw 58 rfl)) Via.refl e2409 I2411 (g := (mkF m 13 #[rv ob_2123, rv ob_2237, rv ob_2237] [(.ref ob_2237)])) rfl rfl (hb hby dd13_13)
  refine oS s2415 ?_
  show own_G p e below (T2412.setTop (mkF m 16 #[rv ob_2123, rv ob_2237, rv ob_2237] [(.ref ob_2090)])) _
  refine oS (fun _ => XS.aloadN X2413.here hx rfl (hb hby dd13_16) rfl rfl) ?_
  obtain ⟨T2417, X2418, e2419, s2420⟩ := getF X2413 hx hZ hown (host := "") (Or.inl (oW hw 58 rfl)) Via.refl e2414 I2416 (g := (mkF m 17 #[rv ob_2123, rv ob_2237, rv ob_2237] [(.ref ob_2123), (.ref ob_2090)])) rfl rfl (hb hby dd13_17)
  refine oS s2420 ?_
  show own_G p e below (T2417.setTop (mkF m 20 #[rv ob_2123, rv ob_2237, rv ob_2237] [(.ref ob_1751), (.ref ob_2090)])) _
  obtain ⟨T2485, h2486, v2487, L2488, X2489, e2490, q2491, s2492⟩ := own_callV X2418 hx hZ hown e2419 (y := mN11) (z := mN11) (C := cN1) (b := ob_2090) (oW hw 83 rfl) (oW hw 61 rfl) (notFace_of_selects (args := #[]) (mvT hZ (oW hw 63 rfl))) (oW hw 63 rfl) (oW hw 62 rfl) (oW hw 8 rfl) (oW hw 64 rfl) (by decide) I2430 (W := 0) (own_rm51 l Z a0 hw [] ob_2090 ob_1751 in_7 ob_2091 ob_1752 kk_2092 in_1 in_2 in_4 kk_1753 h0 n0 Z0 O0 I2421 I2422 I2423 I2424 I2425 I2426 I2427 I2428 I2429 I2470) (by decide) (by decide) (by decide) (by decide) (g := (mkF m 20 #[rv ob_2123, rv ob_2237, rv ob_2237] [(.ref ob_1751), (.ref ob_2090)])) rfl (by rw [hml]; rfl) (argsL := [(.ref ob_1751)]) (rest := []) rfl (lenOf own_pd11 rfl) rfl (by show 2 * 0 + _ ≤ _; exact Nat.le_of_eq rfl) (hb hby dd13_20)
  refine oS s2492 ?_
  obtain ⟨rfl, N2493, K2494⟩ := q2491
  have N2495 := Fr.app N0 N2493
  have e2496 := e2490.trans K2494
  show own_G p e below (T2485.setTop (mkF m 23 #[rv ob_2123, rv ob_2237, rv ob_2237] [(.int 0)])) _
  refine oS (fun _ => XS.ifYes X2489.here hx rfl (pc0 := 23) (pc' := 30) rfl (hb hby dd13_23) rfl (XT.i0_eq_t (by decide)) (by decide) (by decide)) ?_
  show own_G p e below (T2485.setTop (mkF m 30 #[rv ob_2123, rv ob_2237, rv ob_2237] [])) _
  refine oS (fun _ => XS.iconst X2489.here hx rfl (hb hby dd13_30) ) ?_
  exact own_retN X2489 hx (t := .boolean) Bd.notSynchronized Bd.returns (by simp) (hb hby dd13_31) (by decide) e2496 (by decide) (by decide) (⟨rfl, N2495, rfl⟩)
def own_Q55 (Z : State) (ob_11 : Nat) (ob_2523 : Nat) (kk_12 : ClassId) (kk_2524 : ClassId) (in_1 : Int32) (in_2 : Int32) (h0 : Heap) (n0 : Nat) (v : Option Value) (h : Heap) (L : List Loc) : Prop := (v = some (.int 0) ∧ Fr n0 L ∧ h = h0)
set_option maxRecDepth 65536 in
set_option maxHeartbeats 40000000 in
theorem own_rm55 (l : Launch) (Z : State) (a0 : Array Value) (hw : ∀ d ∈ tables_1, d.before a0 Z = true) (ws : List Jvm.Cond) (ob_11 : Nat) (ob_2523 : Nat) (kk_12 : ClassId) (kk_2524 : ClassId) (in_1 : Int32) (in_2 : Int32) (h0 : Heap) (n0 : Nat) (Z0 : n0 ≤ h0.size) (O0 : Old Z n0 h0) (I2801 : Arv Z Z.heap ob_11 kk_12 FieldType.byte 0 [] (.int 0)) (I2803 : Arv Z h0 ob_2523 kk_2524 .byte 2 [(.int ((in_1 &&& 255).toInt8.toInt32)), (.int ((in_2 &&& 255).toInt8.toInt32))] (.int 0)) :
    own_Met l Z h0 mN10 jdk_43_method_13_code 3 (Option.some FieldType.boolean) ws ({ frames := 0, cells := 0, slots := 0, locals := 0 } : Room) #[(.ref ob_11), (.ref ob_2523)] (own_Q55 Z ob_11 ob_2523 kk_12 kk_2524 in_1 in_2 h0 n0) 0 0 := by
  refine MetFree.of_bodySF own_pn10 hisR ?_
  intro p e s m args below meth c s₁ Bd hml0 hP hK
  obtain ⟨rfl, hZ, hh⟩ := hP
  have hx := Bd.exec
  have hby := Bd.bytes
  have hml : c.maxLocals = 3 := hml0
  have hown : s.vm.findClass cN6 = some m.cls := findClass_of_methodNamed Bd.named
  have hnm := (name_of_methodNamed Bd.named Bd.method).1
  have X0 : Stand p l e ({ frames := 0, cells := 0, slots := 0, locals := 0 } : Room) s m #[(.ref ob_11), (.ref ob_2523)] below meth c s₁ [] 0 0 := Stand.of_body Bd
  have e0 : s₁.heap = h0 := by rw [← hh, Bd.state]; rfl
  have N0 := Fr.nil n0
  show own_G p e below (s₁.setTop (entryFrame m #[(.ref ob_11), (.ref ob_2523)] 3)) (own_P s (own_Q55 Z ob_11 ob_2523 kk_12 kk_2524 in_1 in_2 h0 n0) 0 0)
  refine own_cast (own_ef8 m ob_11 ob_2523) ?_
  show own_G p e below (s₁.setTop (mkF m 0 #[rv ob_11, rv ob_2523, .unset] [])) _
  refine oS (fun _ => XS.aloadN X0.here hx rfl (hb hby dd11_0) rfl rfl) ?_
  have F2802 : Arv Z h0 ob_11 kk_12 FieldType.byte 0 [] (.int 0) := I2801.ext O0.2
  refine oS (own_len X0 hx hZ e0 F2802 rfl rfl (hb hby dd11_1)) ?_
  show own_G p e below (s₁.setTop (mkF m 2 #[rv ob_11, rv ob_2523, .unset] [(.int 0)])) _
  refine oS (fun _ => XS.aloadN X0.here hx rfl (hb hby dd11_2) rfl rfl) ?_
  refine oS (own_len X0 hx hZ e0 I2803 rfl rfl (hb hby dd11_3)) ?_
  show own_G p e below (s₁.setTop (mkF m 4 #[rv ob_11, rv ob_2523, .unset] [(.int 2), (.int 0)])) _
  refine oS (fun _ => XS.icmpYes X0.here hx rfl (pc0 := 4) (pc' := 34) rfl (hb hby dd11_4) rfl (XT.ii_ne_t (by decide)) (by decide) (by decide)) ?_
  show own_G p e below (s₁.setTop (mkF m 34 #[rv ob_11, rv ob_2523, .unset] [])) _
  refine oS (fun _ => XS.iconst X0.here hx rfl (hb hby dd11_34) ) ?_
  exact own_retN X0 hx (t := .boolean) Bd.notSynchronized Bd.returns (by simp) (hb hby dd11_35) (by decide) e0 (by decide) (by decide) (⟨rfl, N0, rfl⟩)
def own_Q54 (Z : State) (ob_10 : Nat) (ob_2522 : Nat) (in_7 : Int32) (ob_11 : Nat) (ob_2523 : Nat) (kk_12 : ClassId) (kk_2524 : ClassId) (in_1 : Int32) (in_2 : Int32) (h0 : Heap) (n0 : Nat) (v : Option Value) (h : Heap) (L : List Loc) : Prop := (v = some (.int 0) ∧ Fr n0 L ∧ h = h0)
set_option maxRecDepth 65536 in
set_option maxHeartbeats 40000000 in
theorem own_rm54 (l : Launch) (Z : State) (a0 : Array Value) (hw : ∀ d ∈ tables_1, d.before a0 Z = true) (ws : List Jvm.Cond) (ob_10 : Nat) (ob_2522 : Nat) (in_7 : Int32) (ob_11 : Nat) (ob_2523 : Nat) (kk_12 : ClassId) (kk_2524 : ClassId) (in_1 : Int32) (in_2 : Int32) (h0 : Heap) (n0 : Nat) (Z0 : n0 ≤ h0.size) (O0 : Old Z n0 h0) (I2754 : Exa Z Z.heap ob_10 cN1) (I2758 : n0 ≤ ob_2522) (I2764 : Exa Z h0 ob_2522 cN1) (I2769 : Sta Z Z.heap cN1 "COMPACT_STRINGS" "Z" (.int in_7)) (I2775 : ¬ (in_7 = 0)) (I2776 : Fld Z Z.heap ob_10 cN1 "coder" "B" (.int 0)) (I2782 : Fld Z h0 ob_2522 cN1 "coder" "B" (.int 0)) (I2787 : Fld Z Z.heap ob_10 cN1 "value" "[B" (.ref ob_11)) (I2793 : Fld Z h0 ob_2522 cN1 "value" "[B" (.ref ob_2523)) (I2798 : Arv Z Z.heap ob_11 kk_12 FieldType.byte 0 [] (.int 0)) (I2800 : Arv Z h0 ob_2523 kk_2524 .byte 2 [(.int ((in_1 &&& 255).toInt8.toInt32)), (.int ((in_2 &&& 255).toInt8.toInt32))] (.int 0)) :
    own_Met l Z h0 mN11 jdk_42_method_66_code 3 (Option.some FieldType.boolean) ws ({ frames := 1, cells := 0, slots := 0, locals := 14 } : Room) #[(.ref ob_10), (.ref ob_2522)] (own_Q54 Z ob_10 ob_2522 in_7 ob_11 ob_2523 kk_12 kk_2524 in_1 in_2 h0 n0) 0 0 := by
  refine MetFree.of_bodySF own_pn11 hisR ?_
  intro p e s m args below meth c s₁ Bd hml0 hP hK
  obtain ⟨rfl, hZ, hh⟩ := hP
  have hx := Bd.exec
  have hby := Bd.bytes
  have hml : c.maxLocals = 3 := hml0
  have hown : s.vm.findClass cN1 = some m.cls := findClass_of_methodNamed Bd.named
  have hnm := (name_of_methodNamed Bd.named Bd.method).1
  have X0 : Stand p l e ({ frames := 1, cells := 0, slots := 0, locals := 14 } : Room) s m #[(.ref ob_10), (.ref ob_2522)] below meth c s₁ [] 0 0 := Stand.of_body Bd
  have e0 : s₁.heap = h0 := by rw [← hh, Bd.state]; rfl
  have N0 := Fr.nil n0
  show own_G p e below (s₁.setTop (entryFrame m #[(.ref ob_10), (.ref ob_2522)] 3)) (own_P s (own_Q54 Z ob_10 ob_2522 in_7 ob_11 ob_2523 kk_12 kk_2524 in_1 in_2 h0 n0) 0 0)
  refine own_cast (own_ef8 m ob_10 ob_2522) ?_
  show own_G p e below (s₁.setTop (mkF m 0 #[rv ob_10, rv ob_2522, .unset] [])) _
  refine oS (fun _ => XS.aloadN X0.here hx rfl (hb hby dd10_0) rfl rfl) ?_
  refine oS (fun _ => XS.aloadN X0.here hx rfl (hb hby dd10_1) rfl rfl) ?_
  have y2755 : @LT.lt Nat instLTNat ob_10 Z.heap.size := I2754.lt
  have y2756 : Z.heap.size = n0 := O0.1
  have y2757 := I2758
  have N2759 : @Ne Nat ob_10 ob_2522 := by omega
  refine oS (fun _ => XT.acmpYes X0.here hx rfl (pc0 := 2) (pc' := 7) rfl (hb hby dd10_2) rfl rfl rfl (XT.aa_ne_t (own_rne N2759)) (by decide) (by decide)) ?_
  show own_G p e below (s₁.setTop (mkF m 7 #[rv ob_10, rv ob_2522, .unset] [])) _
  refine oS (fun _ => XS.aloadN X0.here hx rfl (hb hby dd10_7) rfl rfl) ?_
  obtain ⟨T2760, X2761, e2762, s2763⟩ := instY X0 hx hZ hown (oW hw 65 rfl) e0 (Ins.self I2764) (g := (mkF m 8 #[rv ob_10, rv ob_2522, .unset] [(.ref ob_2522)])) rfl rfl (hb hby dd10_8)
  refine oS s2763 ?_
  show own_G p e below (T2760.setTop (mkF m 11 #[rv ob_10, rv ob_2522, .unset] [(.int 1)])) _
  refine oS (fun _ => XS.ifNo X2761.here hx rfl (hb hby dd10_11) rfl (XT.i0_eq_f (by decide))) ?_
  show own_G p e below (T2760.setTop (mkF m 14 #[rv ob_10, rv ob_2522, .unset] [])) _
  refine oS (fun _ => XS.aloadN X2761.here hx rfl (hb hby dd10_14) rfl rfl) ?_
  obtain ⟨T2765, X2766, e2767, s2768⟩ := castY X2761 hx hZ hown (oW hw 65 rfl) e2762 (Ins.self I2764) (g := (mkF m 15 #[rv ob_10, rv ob_2522, .unset] [(.ref ob_2522)])) rfl rfl (hb hby dd10_15)
  refine oS s2768 ?_
  show own_G p e below (T2765.setTop (mkF m 18 #[rv ob_10, rv ob_2522, .unset] [(.ref ob_2522)])) _
  refine oS (fun _ => XS.astoreN X2766.here hx rfl (hb hby dd10_18) rfl rfl (l' := #[rv ob_10, rv ob_2522, rv ob_2522]) rfl) ?_
  have F2770 : Sta Z h0 cN1 "COMPACT_STRINGS" "Z" (.int in_7) := Sta.ext O0.2 I2769
  obtain ⟨T2771, X2772, e2773, s2774⟩ := getS X2766 hx hZ hown (host := "") (oW hw 19 rfl) Via.refl e2767 F2770 (g := (mkF m 19 #[rv ob_10, rv ob_2522, rv ob_2522] [])) rfl (hb hby dd10_19)
  refine oS s2774 ?_
  show own_G p e below (T2771.setTop (mkF m 22 #[rv ob_10, rv ob_2522, rv ob_2522] [(.int in_7)])) _
  refine oS (fun _ => XS.ifNo X2772.here hx rfl (hb hby dd10_22) rfl (XT.i0_eq_f I2775)) ?_
  show own_G p e below (T2771.setTop (mkF m 25 #[rv ob_10, rv ob_2522, rv ob_2522] [])) _
  refine oS (fun _ => XS.aloadN X2772.here hx rfl (hb hby dd10_25) rfl rfl) ?_
  have F2777 : Fld Z h0 ob_10 cN1 "coder" "B" (.int 0) := Fld.ext O0.2 I2776
  obtain ⟨T2778, X2779, e2780, s2781⟩ := getF X2772 hx hZ hown (host := "") (Or.inl (oW hw 31 rfl)) Via.refl e2773 F2777 (g := (mkF m 26 #[rv ob_10, rv ob_2522, rv ob_2522] [(.ref ob_10)])) rfl rfl (hb hby dd10_26)
  refine oS s2781 ?_
  show own_G p e below (T2778.setTop (mkF m 29 #[rv ob_10, rv ob_2522, rv ob_2522] [(.int 0)])) _
  refine oS (fun _ => XS.aloadN X2779.here hx rfl (hb hby dd10_29) rfl rfl) ?_
  obtain ⟨T2783, X2784, e2785, s2786⟩ := getF X2779 hx hZ hown (host := "") (Or.inl (oW hw 31 rfl)) Via.refl e2780 I2782 (g := (mkF m 30 #[rv ob_10, rv ob_2522, rv ob_2522] [(.ref ob_2522), (.int 0)])) rfl rfl (hb hby dd10_30)
  refine oS s2786 ?_
  show own_G p e below (T2783.setTop (mkF m 33 #[rv ob_10, rv ob_2522, rv ob_2522] [(.int 0), (.int 0)])) _
  refine oS (fun _ => XS.icmpNo X2784.here hx rfl (hb hby dd10_33) rfl (XT.ii_ne_f (by decide))) ?_
  show own_G p e below (T2783.setTop (mkF m 36 #[rv ob_10, rv ob_2522, rv ob_2522] [])) _
  refine oS (fun _ => XS.aloadN X2784.here hx rfl (hb hby dd10_36) rfl rfl) ?_
  have F2788 : Fld Z h0 ob_10 cN1 "value" "[B" (.ref ob_11) := Fld.ext O0.2 I2787
  obtain ⟨T2789, X2790, e2791, s2792⟩ := getF X2784 hx hZ hown (host := "") (Or.inl (oW hw 33 rfl)) Via.refl e2785 F2788 (g := (mkF m 37 #[rv ob_10, rv ob_2522, rv ob_2522] [(.ref ob_10)])) rfl rfl (hb hby dd10_37)
  refine oS s2792 ?_
  show own_G p e below (T2789.setTop (mkF m 40 #[rv ob_10, rv ob_2522, rv ob_2522] [(.ref ob_11)])) _
  refine oS (fun _ => XS.aloadN X2790.here hx rfl (hb hby dd10_40) rfl rfl) ?_
  obtain ⟨T2794, X2795, e2796, s2797⟩ := getF X2790 hx hZ hown (host := "") (Or.inl (oW hw 33 rfl)) Via.refl e2791 I2793 (g := (mkF m 41 #[rv ob_10, rv ob_2522, rv ob_2522] [(.ref ob_2522), (.ref ob_11)])) rfl rfl (hb hby dd10_41)
  refine oS s2797 ?_
  show own_G p e below (T2794.setTop (mkF m 44 #[rv ob_10, rv ob_2522, rv ob_2522] [(.ref ob_2523), (.ref ob_11)])) _
  have F2799 : Arv Z h0 ob_11 kk_12 FieldType.byte 0 [] (.int 0) := I2798.ext O0.2
  obtain ⟨T2804, h2805, v2806, L2807, X2808, e2809, q2810, s2811⟩ := own_callS X2795 hx hZ hown e2796 (y := mN10) (oW hw 66 rfl) (oW hw 67 rfl) (oW hw 68 rfl) (oW hw 69 rfl) (by decide) (W := 0) (own_rm55 l Z a0 hw [] ob_11 ob_2523 kk_12 kk_2524 in_1 in_2 h0 n0 Z0 O0 I2798 I2800) (by decide) (by decide) (by decide) (by decide) (g := (mkF m 44 #[rv ob_10, rv ob_2522, rv ob_2522] [(.ref ob_2523), (.ref ob_11)])) rfl (by rw [hml]; rfl) (argsL := [(.ref ob_11), (.ref ob_2523)]) (rest := []) rfl (lenOf own_pd10 rfl) rfl (by show 2 * 0 + _ ≤ _; exact Nat.le_of_eq rfl) (hb hby dd10_44)
  refine oS s2811 ?_
  obtain ⟨rfl, N2812, K2813⟩ := q2810
  have N2814 := Fr.app N0 N2812
  have e2815 := e2809.trans K2813
  show own_G p e below (T2804.setTop (mkF m 47 #[rv ob_10, rv ob_2522, rv ob_2522] [(.int 0)])) _
  refine oS (fun _ => XS.ifYes X2808.here hx rfl (pc0 := 47) (pc' := 54) rfl (hb hby dd10_47) rfl (XT.i0_eq_t (by decide)) (by decide) (by decide)) ?_
  show own_G p e below (T2804.setTop (mkF m 54 #[rv ob_10, rv ob_2522, rv ob_2522] [])) _
  refine oS (fun _ => XS.iconst X2808.here hx rfl (hb hby dd10_54) ) ?_
  exact own_retN X2808 hx (t := .boolean) Bd.notSynchronized Bd.returns (by simp) (hb hby dd10_55) (by decide) e2815 (by decide) (by decide) (⟨rfl, N2814, rfl⟩)
def own_Q53 (Z : State) (ob_2584 : Nat) (ob_9 : Nat) (ob_10 : Nat) (ob_2522 : Nat) (in_7 : Int32) (ob_11 : Nat) (ob_2523 : Nat) (kk_12 : ClassId) (kk_2524 : ClassId) (in_1 : Int32) (in_2 : Int32) (h0 : Heap) (n0 : Nat) (v : Option Value) (h : Heap) (L : List Loc) : Prop := (v = some (.int 0) ∧ Fr n0 L ∧ h = h0)
set_option maxRecDepth 65536 in
set_option maxHeartbeats 40000000 in
theorem own_rm53 (l : Launch) (Z : State) (a0 : Array Value) (hw : ∀ d ∈ tables_1, d.before a0 Z = true) (ws : List Jvm.Cond) (ob_2584 : Nat) (ob_9 : Nat) (ob_10 : Nat) (ob_2522 : Nat) (in_7 : Int32) (ob_11 : Nat) (ob_2523 : Nat) (kk_12 : ClassId) (kk_2524 : ClassId) (in_1 : Int32) (in_2 : Int32) (h0 : Heap) (n0 : Nat) (Z0 : n0 ≤ h0.size) (O0 : Old Z n0 h0) (I2719 : Exa Z Z.heap ob_9 cN4) (I2725 : Fld Z Z.heap ob_9 cN4 "name" cN5 (.ref ob_10)) (I2731 : Fld Z h0 ob_2584 cN4 "name" cN5 (.ref ob_2522)) (I2736 : Exa Z Z.heap ob_10 cN1) (I2740 : n0 ≤ ob_2522) (I2742 : Exa Z h0 ob_2522 cN1) (I2743 : Sta Z Z.heap cN1 "COMPACT_STRINGS" "Z" (.int in_7)) (I2744 : ¬ (in_7 = 0)) (I2745 : Fld Z Z.heap ob_10 cN1 "coder" "B" (.int 0)) (I2747 : Fld Z h0 ob_2522 cN1 "coder" "B" (.int 0)) (I2748 : Fld Z Z.heap ob_10 cN1 "value" "[B" (.ref ob_11)) (I2750 : Fld Z h0 ob_2522 cN1 "value" "[B" (.ref ob_2523)) (I2751 : Arv Z Z.heap ob_11 kk_12 FieldType.byte 0 [] (.int 0)) (I2753 : Arv Z h0 ob_2523 kk_2524 .byte 2 [(.int ((in_1 &&& 255).toInt8.toInt32)), (.int ((in_2 &&& 255).toInt8.toInt32))] (.int 0)) :
    own_Met l Z h0 mN13 prog_11_method_4_code 3 (Option.some FieldType.boolean) ws ({ frames := 2, cells := 0, slots := 0, locals := 28 } : Room) #[(.ref ob_2584), (.ref ob_9)] (own_Q53 Z ob_2584 ob_9 ob_10 ob_2522 in_7 ob_11 ob_2523 kk_12 kk_2524 in_1 in_2 h0 n0) 0 0 := by
  refine MetFree.of_bodySF own_pn13 hisR ?_
  intro p e s m args below meth c s₁ Bd hml0 hP hK
  obtain ⟨rfl, hZ, hh⟩ := hP
  have hx := Bd.exec
  have hby := Bd.bytes
  have hml : c.maxLocals = 3 := hml0
  have hown : s.vm.findClass cN4 = some m.cls := findClass_of_methodNamed Bd.named
  have hnm := (name_of_methodNamed Bd.named Bd.method).1
  have X0 : Stand p l e ({ frames := 2, cells := 0, slots := 0, locals := 28 } : Room) s m #[(.ref ob_2584), (.ref ob_9)] below meth c s₁ [] 0 0 := Stand.of_body Bd
  have e0 : s₁.heap = h0 := by rw [← hh, Bd.state]; rfl
  have N0 := Fr.nil n0
  show own_G p e below (s₁.setTop (entryFrame m #[(.ref ob_2584), (.ref ob_9)] 3)) (own_P s (own_Q53 Z ob_2584 ob_9 ob_10 ob_2522 in_7 ob_11 ob_2523 kk_12 kk_2524 in_1 in_2 h0 n0) 0 0)
  refine own_cast (own_ef8 m ob_2584 ob_9) ?_
  show own_G p e below (s₁.setTop (mkF m 0 #[rv ob_2584, rv ob_9, .unset] [])) _
  refine oS (fun _ => XS.aloadN X0.here hx rfl (hb hby dd13_0) rfl rfl) ?_
  have F2720 : Exa Z h0 ob_9 cN4 := Exa.ext O0.2 I2719
  obtain ⟨T2715, X2716, e2717, s2718⟩ := instY X0 hx hZ hown (oW hw 52 rfl) e0 (Ins.self F2720) (g := (mkF m 1 #[rv ob_2584, rv ob_9, .unset] [(.ref ob_9)])) rfl rfl (hb hby dd13_1)
  refine oS s2718 ?_
  show own_G p e below (T2715.setTop (mkF m 4 #[rv ob_2584, rv ob_9, .unset] [(.int 1)])) _
  refine oS (fun _ => XS.ifNo X2716.here hx rfl (hb hby dd13_4) rfl (XT.i0_eq_f (by decide))) ?_
  show own_G p e below (T2715.setTop (mkF m 7 #[rv ob_2584, rv ob_9, .unset] [])) _
  refine oS (fun _ => XS.aloadN X2716.here hx rfl (hb hby dd13_7) rfl rfl) ?_
  obtain ⟨T2721, X2722, e2723, s2724⟩ := castY X2716 hx hZ hown (oW hw 52 rfl) e2717 (Ins.self F2720) (g := (mkF m 8 #[rv ob_2584, rv ob_9, .unset] [(.ref ob_9)])) rfl rfl (hb hby dd13_8)
  refine oS s2724 ?_
  show own_G p e below (T2721.setTop (mkF m 11 #[rv ob_2584, rv ob_9, .unset] [(.ref ob_9)])) _
  refine oS (fun _ => XS.astoreN X2722.here hx rfl (hb hby dd13_11) rfl rfl (l' := #[rv ob_2584, rv ob_9, rv ob_9]) rfl) ?_
  refine oS (fun _ => XS.aloadN X2722.here hx rfl (hb hby dd13_12) rfl rfl) ?_
  have F2726 : Fld Z h0 ob_9 cN4 "name" cN5 (.ref ob_10) := Fld.ext O0.2 I2725
  obtain ⟨T2727, X2728, e2729, s2730⟩ := getF X2722 hx hZ hown (host := "") (Or.inl (oW hw 58 rfl)) Via.refl e2723 F2726 (g := (mkF m 13 #[rv ob_2584, rv ob_9, rv ob_9] [(.ref ob_9)])) rfl rfl (hb hby dd13_13)
  refine oS s2730 ?_
  show own_G p e below (T2727.setTop (mkF m 16 #[rv ob_2584, rv ob_9, rv ob_9] [(.ref ob_10)])) _
  refine oS (fun _ => XS.aloadN X2728.here hx rfl (hb hby dd13_16) rfl rfl) ?_
  obtain ⟨T2732, X2733, e2734, s2735⟩ := getF X2728 hx hZ hown (host := "") (Or.inl (oW hw 58 rfl)) Via.refl e2729 I2731 (g := (mkF m 17 #[rv ob_2584, rv ob_9, rv ob_9] [(.ref ob_2584), (.ref ob_10)])) rfl rfl (hb hby dd13_17)
  refine oS s2735 ?_
  show own_G p e below (T2732.setTop (mkF m 20 #[rv ob_2584, rv ob_9, rv ob_9] [(.ref ob_2522), (.ref ob_10)])) _
  have y2737 : @LT.lt Nat instLTNat ob_10 Z.heap.size := I2736.lt
  have y2738 : Z.heap.size = n0 := O0.1
  have y2739 := I2740
  have N2741 : @Ne Nat ob_10 ob_2522 := by omega
  have F2746 : Fld Z h0 ob_10 cN1 "coder" "B" (.int 0) := Fld.ext O0.2 I2745
  have F2749 : Fld Z h0 ob_10 cN1 "value" "[B" (.ref ob_11) := Fld.ext O0.2 I2748
  have F2752 : Arv Z h0 ob_11 kk_12 FieldType.byte 0 [] (.int 0) := I2751.ext O0.2
  have F2824 : Exa Z h0 ob_10 cN1 := Exa.ext O0.2 I2736
  obtain ⟨T2816, h2817, v2818, L2819, X2820, e2821, q2822, s2823⟩ := own_callV X2733 hx hZ hown e2734 (y := mN11) (z := mN11) (C := cN1) (b := ob_10) (oW hw 83 rfl) (oW hw 61 rfl) (notFace_of_selects (args := #[]) (mvT hZ (oW hw 63 rfl))) (oW hw 63 rfl) (oW hw 62 rfl) (oW hw 8 rfl) (oW hw 64 rfl) (by decide) F2824 (W := 0) (own_rm54 l Z a0 hw [] ob_10 ob_2522 in_7 ob_11 ob_2523 kk_12 kk_2524 in_1 in_2 h0 n0 Z0 O0 I2736 I2740 I2742 I2743 I2744 I2745 I2747 I2748 I2750 I2751 I2753) (by decide) (by decide) (by decide) (by decide) (g := (mkF m 20 #[rv ob_2584, rv ob_9, rv ob_9] [(.ref ob_2522), (.ref ob_10)])) rfl (by rw [hml]; rfl) (argsL := [(.ref ob_2522)]) (rest := []) rfl (lenOf own_pd11 rfl) rfl (by show 2 * 0 + _ ≤ _; exact Nat.le_of_eq rfl) (hb hby dd13_20)
  refine oS s2823 ?_
  obtain ⟨rfl, N2825, K2826⟩ := q2822
  have N2827 := Fr.app N0 N2825
  have e2828 := e2821.trans K2826
  show own_G p e below (T2816.setTop (mkF m 23 #[rv ob_2584, rv ob_9, rv ob_9] [(.int 0)])) _
  refine oS (fun _ => XS.ifYes X2820.here hx rfl (pc0 := 23) (pc' := 30) rfl (hb hby dd13_23) rfl (XT.i0_eq_t (by decide)) (by decide) (by decide)) ?_
  show own_G p e below (T2816.setTop (mkF m 30 #[rv ob_2584, rv ob_9, rv ob_9] [])) _
  refine oS (fun _ => XS.iconst X2820.here hx rfl (hb hby dd13_30) ) ?_
  exact own_retN X2820 hx (t := .boolean) Bd.notSynchronized Bd.returns (by simp) (hb hby dd13_31) (by decide) e2828 (by decide) (by decide) (⟨rfl, N2827, rfl⟩)
def own_Q56 (Z : State) (ob_2584 : Nat) (ob_2608 : Nat) (ob_2551 : Nat) (ob_2522 : Nat) (in_7 : Int32) (ob_2552 : Nat) (ob_2523 : Nat) (kk_2553 : ClassId) (in_1 : Int32) (kk_2524 : ClassId) (in_2 : Int32) (h0 : Heap) (n0 : Nat) (v : Option Value) (h : Heap) (L : List Loc) : Prop := (v = some (.int 0) ∧ Fr n0 L ∧ h = h0)
set_option maxRecDepth 65536 in
set_option maxHeartbeats 40000000 in
theorem own_rm56 (l : Launch) (Z : State) (a0 : Array Value) (hw : ∀ d ∈ tables_1, d.before a0 Z = true) (ws : List Jvm.Cond) (ob_2584 : Nat) (ob_2608 : Nat) (ob_2551 : Nat) (ob_2522 : Nat) (in_7 : Int32) (ob_2552 : Nat) (ob_2523 : Nat) (kk_2553 : ClassId) (in_1 : Int32) (kk_2524 : ClassId) (in_2 : Int32) (h0 : Heap) (n0 : Nat) (Z0 : n0 ≤ h0.size) (O0 : Old Z n0 h0) (I2846 : Exa Z h0 ob_2608 cN4) (I2851 : Fld Z h0 ob_2608 cN4 "name" cN5 (.ref ob_2551)) (I2856 : Fld Z h0 ob_2584 cN4 "name" cN5 (.ref ob_2522)) (I2861 : @Ne Nat ob_2551 ob_2522) (I2862 : Exa Z h0 ob_2522 cN1) (I2863 : Sta Z Z.heap cN1 "COMPACT_STRINGS" "Z" (.int in_7)) (I2864 : ¬ (in_7 = 0)) (I2865 : Fld Z h0 ob_2551 cN1 "coder" "B" (.int 0)) (I2866 : Fld Z h0 ob_2522 cN1 "coder" "B" (.int 0)) (I2867 : Fld Z h0 ob_2551 cN1 "value" "[B" (.ref ob_2552)) (I2868 : Fld Z h0 ob_2522 cN1 "value" "[B" (.ref ob_2523)) (I2869 : Arv Z h0 ob_2552 kk_2553 .byte 1 [(.int ((in_1 &&& 255).toInt8.toInt32))] (.int 0)) (I2870 : Arv Z h0 ob_2523 kk_2524 .byte 2 [(.int ((in_1 &&& 255).toInt8.toInt32)), (.int ((in_2 &&& 255).toInt8.toInt32))] (.int 0)) (I2871 : Exa Z h0 ob_2551 cN1) :
    own_Met l Z h0 mN13 prog_11_method_4_code 3 (Option.some FieldType.boolean) ws ({ frames := 2, cells := 0, slots := 0, locals := 28 } : Room) #[(.ref ob_2584), (.ref ob_2608)] (own_Q56 Z ob_2584 ob_2608 ob_2551 ob_2522 in_7 ob_2552 ob_2523 kk_2553 in_1 kk_2524 in_2 h0 n0) 0 0 := by
  refine MetFree.of_bodySF own_pn13 hisR ?_
  intro p e s m args below meth c s₁ Bd hml0 hP hK
  obtain ⟨rfl, hZ, hh⟩ := hP
  have hx := Bd.exec
  have hby := Bd.bytes
  have hml : c.maxLocals = 3 := hml0
  have hown : s.vm.findClass cN4 = some m.cls := findClass_of_methodNamed Bd.named
  have hnm := (name_of_methodNamed Bd.named Bd.method).1
  have X0 : Stand p l e ({ frames := 2, cells := 0, slots := 0, locals := 28 } : Room) s m #[(.ref ob_2584), (.ref ob_2608)] below meth c s₁ [] 0 0 := Stand.of_body Bd
  have e0 : s₁.heap = h0 := by rw [← hh, Bd.state]; rfl
  have N0 := Fr.nil n0
  show own_G p e below (s₁.setTop (entryFrame m #[(.ref ob_2584), (.ref ob_2608)] 3)) (own_P s (own_Q56 Z ob_2584 ob_2608 ob_2551 ob_2522 in_7 ob_2552 ob_2523 kk_2553 in_1 kk_2524 in_2 h0 n0) 0 0)
  refine own_cast (own_ef8 m ob_2584 ob_2608) ?_
  show own_G p e below (s₁.setTop (mkF m 0 #[rv ob_2584, rv ob_2608, .unset] [])) _
  refine oS (fun _ => XS.aloadN X0.here hx rfl (hb hby dd13_0) rfl rfl) ?_
  obtain ⟨T2842, X2843, e2844, s2845⟩ := instY X0 hx hZ hown (oW hw 52 rfl) e0 (Ins.self I2846) (g := (mkF m 1 #[rv ob_2584, rv ob_2608, .unset] [(.ref ob_2608)])) rfl rfl (hb hby dd13_1)
  refine oS s2845 ?_
  show own_G p e below (T2842.setTop (mkF m 4 #[rv ob_2584, rv ob_2608, .unset] [(.int 1)])) _
  refine oS (fun _ => XS.ifNo X2843.here hx rfl (hb hby dd13_4) rfl (XT.i0_eq_f (by decide))) ?_
  show own_G p e below (T2842.setTop (mkF m 7 #[rv ob_2584, rv ob_2608, .unset] [])) _
  refine oS (fun _ => XS.aloadN X2843.here hx rfl (hb hby dd13_7) rfl rfl) ?_
  obtain ⟨T2847, X2848, e2849, s2850⟩ := castY X2843 hx hZ hown (oW hw 52 rfl) e2844 (Ins.self I2846) (g := (mkF m 8 #[rv ob_2584, rv ob_2608, .unset] [(.ref ob_2608)])) rfl rfl (hb hby dd13_8)
  refine oS s2850 ?_
  show own_G p e below (T2847.setTop (mkF m 11 #[rv ob_2584, rv ob_2608, .unset] [(.ref ob_2608)])) _
  refine oS (fun _ => XS.astoreN X2848.here hx rfl (hb hby dd13_11) rfl rfl (l' := #[rv ob_2584, rv ob_2608, rv ob_2608]) rfl) ?_
  refine oS (fun _ => XS.aloadN X2848.here hx rfl (hb hby dd13_12) rfl rfl) ?_
  obtain ⟨T2852, X2853, e2854, s2855⟩ := getF X2848 hx hZ hown (host := "") (Or.inl (oW hw 58 rfl)) Via.refl e2849 I2851 (g := (mkF m 13 #[rv ob_2584, rv ob_2608, rv ob_2608] [(.ref ob_2608)])) rfl rfl (hb hby dd13_13)
  refine oS s2855 ?_
  show own_G p e below (T2852.setTop (mkF m 16 #[rv ob_2584, rv ob_2608, rv ob_2608] [(.ref ob_2551)])) _
  refine oS (fun _ => XS.aloadN X2853.here hx rfl (hb hby dd13_16) rfl rfl) ?_
  obtain ⟨T2857, X2858, e2859, s2860⟩ := getF X2853 hx hZ hown (host := "") (Or.inl (oW hw 58 rfl)) Via.refl e2854 I2856 (g := (mkF m 17 #[rv ob_2584, rv ob_2608, rv ob_2608] [(.ref ob_2584), (.ref ob_2551)])) rfl rfl (hb hby dd13_17)
  refine oS s2860 ?_
  show own_G p e below (T2857.setTop (mkF m 20 #[rv ob_2584, rv ob_2608, rv ob_2608] [(.ref ob_2522), (.ref ob_2551)])) _
  obtain ⟨T2872, h2873, v2874, L2875, X2876, e2877, q2878, s2879⟩ := own_callV X2858 hx hZ hown e2859 (y := mN11) (z := mN11) (C := cN1) (b := ob_2551) (oW hw 83 rfl) (oW hw 61 rfl) (notFace_of_selects (args := #[]) (mvT hZ (oW hw 63 rfl))) (oW hw 63 rfl) (oW hw 62 rfl) (oW hw 8 rfl) (oW hw 64 rfl) (by decide) I2871 (W := 0) (own_rm34 l Z a0 hw [] ob_2551 ob_2522 in_7 ob_2552 ob_2523 kk_2553 in_1 kk_2524 in_2 h0 n0 Z0 O0 I2861 I2862 I2863 I2864 I2865 I2866 I2867 I2868 I2869 I2870) (by decide) (by decide) (by decide) (by decide) (g := (mkF m 20 #[rv ob_2584, rv ob_2608, rv ob_2608] [(.ref ob_2522), (.ref ob_2551)])) rfl (by rw [hml]; rfl) (argsL := [(.ref ob_2522)]) (rest := []) rfl (lenOf own_pd11 rfl) rfl (by show 2 * 0 + _ ≤ _; exact Nat.le_of_eq rfl) (hb hby dd13_20)
  refine oS s2879 ?_
  obtain ⟨rfl, N2880, K2881⟩ := q2878
  have N2882 := Fr.app N0 N2880
  have e2883 := e2877.trans K2881
  show own_G p e below (T2872.setTop (mkF m 23 #[rv ob_2584, rv ob_2608, rv ob_2608] [(.int 0)])) _
  refine oS (fun _ => XS.ifYes X2876.here hx rfl (pc0 := 23) (pc' := 30) rfl (hb hby dd13_23) rfl (XT.i0_eq_t (by decide)) (by decide) (by decide)) ?_
  show own_G p e below (T2872.setTop (mkF m 30 #[rv ob_2584, rv ob_2608, rv ob_2608] [])) _
  refine oS (fun _ => XS.iconst X2876.here hx rfl (hb hby dd13_30) ) ?_
  exact own_retN X2876 hx (t := .boolean) Bd.notSynchronized Bd.returns (by simp) (hb hby dd13_31) (by decide) e2883 (by decide) (by decide) (⟨rfl, N2882, rfl⟩)
def own_Q58 (Z : State) (ob_2907 : Nat) (ob_2936 : Nat) (kk_2908 : ClassId) (in_1 : Int32) (in_2 : Int32) (kk_2937 : ClassId) (h0 : Heap) (n0 : Nat) (v : Option Value) (h : Heap) (L : List Loc) : Prop := (v = some (.int 1) ∧ Fr n0 L ∧ h = h0)
set_option maxRecDepth 65536 in
set_option maxHeartbeats 40000000 in
theorem own_rm58 (l : Launch) (Z : State) (a0 : Array Value) (hw : ∀ d ∈ tables_1, d.before a0 Z = true) (ws : List Jvm.Cond) (ob_2907 : Nat) (ob_2936 : Nat) (kk_2908 : ClassId) (in_1 : Int32) (in_2 : Int32) (kk_2937 : ClassId) (h0 : Heap) (n0 : Nat) (Z0 : n0 ≤ h0.size) (O0 : Old Z n0 h0) (I3056 : Arv Z h0 ob_2907 kk_2908 .byte 2 [(.int ((in_1 &&& 255).toInt8.toInt32)), (.int ((in_2 &&& 255).toInt8.toInt32))] (.int 0)) (I3057 : Arv Z h0 ob_2936 kk_2937 .byte 2 [(.int ((in_1 &&& 255).toInt8.toInt32)), (.int ((in_2 &&& 255).toInt8.toInt32))] (.int 0)) :
    own_Met l Z h0 mN10 jdk_43_method_13_code 3 (Option.some FieldType.boolean) ws ({ frames := 0, cells := 0, slots := 0, locals := 0 } : Room) #[(.ref ob_2907), (.ref ob_2936)] (own_Q58 Z ob_2907 ob_2936 kk_2908 in_1 in_2 kk_2937 h0 n0) 0 0 := by
  refine MetFree.of_bodySF own_pn10 hisR ?_
  intro p e s m args below meth c s₁ Bd hml0 hP hK
  obtain ⟨rfl, hZ, hh⟩ := hP
  have hx := Bd.exec
  have hby := Bd.bytes
  have hml : c.maxLocals = 3 := hml0
  have hown : s.vm.findClass cN6 = some m.cls := findClass_of_methodNamed Bd.named
  have hnm := (name_of_methodNamed Bd.named Bd.method).1
  have X0 : Stand p l e ({ frames := 0, cells := 0, slots := 0, locals := 0 } : Room) s m #[(.ref ob_2907), (.ref ob_2936)] below meth c s₁ [] 0 0 := Stand.of_body Bd
  have e0 : s₁.heap = h0 := by rw [← hh, Bd.state]; rfl
  have N0 := Fr.nil n0
  show own_G p e below (s₁.setTop (entryFrame m #[(.ref ob_2907), (.ref ob_2936)] 3)) (own_P s (own_Q58 Z ob_2907 ob_2936 kk_2908 in_1 in_2 kk_2937 h0 n0) 0 0)
  refine own_cast (own_ef8 m ob_2907 ob_2936) ?_
  show own_G p e below (s₁.setTop (mkF m 0 #[rv ob_2907, rv ob_2936, .unset] [])) _
  refine oS (fun _ => XS.aloadN X0.here hx rfl (hb hby dd11_0) rfl rfl) ?_
  refine oS (own_len X0 hx hZ e0 I3056 rfl rfl (hb hby dd11_1)) ?_
  show own_G p e below (s₁.setTop (mkF m 2 #[rv ob_2907, rv ob_2936, .unset] [(.int 2)])) _
  refine oS (fun _ => XS.aloadN X0.here hx rfl (hb hby dd11_2) rfl rfl) ?_
  refine oS (own_len X0 hx hZ e0 I3057 rfl rfl (hb hby dd11_3)) ?_
  show own_G p e below (s₁.setTop (mkF m 4 #[rv ob_2907, rv ob_2936, .unset] [(.int 2), (.int 2)])) _
  refine oS (fun _ => XS.icmpNo X0.here hx rfl (hb hby dd11_4) rfl (XT.ii_ne_f (by decide))) ?_
  show own_G p e below (s₁.setTop (mkF m 7 #[rv ob_2907, rv ob_2936, .unset] [])) _
  refine oS (fun _ => XS.iconst X0.here hx rfl (hb hby dd11_7) ) ?_
  refine oS (fun _ => XS.istoreN X0.here hx rfl (hb hby dd11_8) rfl (l' := #[rv ob_2907, rv ob_2936, iv 0]) rfl) ?_
  refine oS (fun _ => XS.iloadN X0.here hx rfl (hb hby dd11_9) rfl) ?_
  refine oS (fun _ => XS.aloadN X0.here hx rfl (hb hby dd11_10) rfl rfl) ?_
  show own_G p e below (s₁.setTop (mkF m 11 #[rv ob_2907, rv ob_2936, iv 0] [(.ref ob_2907), (.int 0)])) _
  refine oS (own_len X0 hx hZ e0 I3056 rfl rfl (hb hby dd11_11)) ?_
  show own_G p e below (s₁.setTop (mkF m 12 #[rv ob_2907, rv ob_2936, iv 0] [(.int 2), (.int 0)])) _
  refine oS (fun _ => XS.icmpNo X0.here hx rfl (hb hby dd11_12) rfl (XT.ii_ge_f (by decide))) ?_
  show own_G p e below (s₁.setTop (mkF m 15 #[rv ob_2907, rv ob_2936, iv 0] [])) _
  refine oS (fun _ => XS.aloadN X0.here hx rfl (hb hby dd11_15) rfl rfl) ?_
  refine oS (fun _ => XS.iloadN X0.here hx rfl (hb hby dd11_16) rfl) ?_
  refine oS (own_baload X0 hx hZ e0 I3056 (by decide) (v := (.int ((in_1 &&& 255).toInt8.toInt32))) rfl rfl rfl (hb hby dd11_17)) ?_
  show own_G p e below (s₁.setTop (mkF m 18 #[rv ob_2907, rv ob_2936, iv 0] [(.int ((in_1 &&& 255).toInt8.toInt32))])) _
  refine oS (fun _ => XS.aloadN X0.here hx rfl (hb hby dd11_18) rfl rfl) ?_
  refine oS (fun _ => XS.iloadN X0.here hx rfl (hb hby dd11_19) rfl) ?_
  refine oS (own_baload X0 hx hZ e0 I3057 (by decide) (v := (.int ((in_1 &&& 255).toInt8.toInt32))) rfl rfl rfl (hb hby dd11_20)) ?_
  show own_G p e below (s₁.setTop (mkF m 21 #[rv ob_2907, rv ob_2936, iv 0] [(.int ((in_1 &&& 255).toInt8.toInt32)), (.int ((in_1 &&& 255).toInt8.toInt32))])) _
  refine oS (fun _ => XS.icmpYes X0.here hx rfl (pc0 := 21) (pc' := 26) rfl (hb hby dd11_21) rfl (XT.ii_eq_t rfl) (by decide) (by decide)) ?_
  show own_G p e below (s₁.setTop (mkF m 26 #[rv ob_2907, rv ob_2936, iv 0] [])) _
  refine oS (fun _ => XS.iinc X0.here hx rfl (hb hby dd11_26) rfl (l' := #[rv ob_2907, rv ob_2936, iv 1]) rfl) ?_
  show own_G p e below (s₁.setTop (mkF m 29 #[rv ob_2907, rv ob_2936, iv 1] [])) _
  refine oS (fun _ => XS.goto X0.here hx rfl (pc0 := 29) (pc' := 9) rfl (hb hby dd11_29) (by decide) (by decide)) ?_
  show own_G p e below (s₁.setTop (mkF m 9 #[rv ob_2907, rv ob_2936, iv 1] [])) _
  refine oS (fun _ => XS.iloadN X0.here hx rfl (hb hby dd11_9) rfl) ?_
  refine oS (fun _ => XS.aloadN X0.here hx rfl (hb hby dd11_10) rfl rfl) ?_
  refine oS (own_len X0 hx hZ e0 I3056 rfl rfl (hb hby dd11_11)) ?_
  show own_G p e below (s₁.setTop (mkF m 12 #[rv ob_2907, rv ob_2936, iv 1] [(.int 2), (.int 1)])) _
  refine oS (fun _ => XS.icmpNo X0.here hx rfl (hb hby dd11_12) rfl (XT.ii_ge_f (by decide))) ?_
  show own_G p e below (s₁.setTop (mkF m 15 #[rv ob_2907, rv ob_2936, iv 1] [])) _
  refine oS (fun _ => XS.aloadN X0.here hx rfl (hb hby dd11_15) rfl rfl) ?_
  refine oS (fun _ => XS.iloadN X0.here hx rfl (hb hby dd11_16) rfl) ?_
  refine oS (own_baload X0 hx hZ e0 I3056 (by decide) (v := (.int ((in_2 &&& 255).toInt8.toInt32))) rfl rfl rfl (hb hby dd11_17)) ?_
  show own_G p e below (s₁.setTop (mkF m 18 #[rv ob_2907, rv ob_2936, iv 1] [(.int ((in_2 &&& 255).toInt8.toInt32))])) _
  refine oS (fun _ => XS.aloadN X0.here hx rfl (hb hby dd11_18) rfl rfl) ?_
  refine oS (fun _ => XS.iloadN X0.here hx rfl (hb hby dd11_19) rfl) ?_
  refine oS (own_baload X0 hx hZ e0 I3057 (by decide) (v := (.int ((in_2 &&& 255).toInt8.toInt32))) rfl rfl rfl (hb hby dd11_20)) ?_
  show own_G p e below (s₁.setTop (mkF m 21 #[rv ob_2907, rv ob_2936, iv 1] [(.int ((in_2 &&& 255).toInt8.toInt32)), (.int ((in_2 &&& 255).toInt8.toInt32))])) _
  refine oS (fun _ => XS.icmpYes X0.here hx rfl (pc0 := 21) (pc' := 26) rfl (hb hby dd11_21) rfl (XT.ii_eq_t rfl) (by decide) (by decide)) ?_
  show own_G p e below (s₁.setTop (mkF m 26 #[rv ob_2907, rv ob_2936, iv 1] [])) _
  refine oS (fun _ => XS.iinc X0.here hx rfl (hb hby dd11_26) rfl (l' := #[rv ob_2907, rv ob_2936, iv 2]) rfl) ?_
  show own_G p e below (s₁.setTop (mkF m 29 #[rv ob_2907, rv ob_2936, iv 2] [])) _
  refine oS (fun _ => XS.goto X0.here hx rfl (pc0 := 29) (pc' := 9) rfl (hb hby dd11_29) (by decide) (by decide)) ?_
  show own_G p e below (s₁.setTop (mkF m 9 #[rv ob_2907, rv ob_2936, iv 2] [])) _
  refine oS (fun _ => XS.iloadN X0.here hx rfl (hb hby dd11_9) rfl) ?_
  refine oS (fun _ => XS.aloadN X0.here hx rfl (hb hby dd11_10) rfl rfl) ?_
  refine oS (own_len X0 hx hZ e0 I3056 rfl rfl (hb hby dd11_11)) ?_
  show own_G p e below (s₁.setTop (mkF m 12 #[rv ob_2907, rv ob_2936, iv 2] [(.int 2), (.int 2)])) _
  refine oS (fun _ => XS.icmpYes X0.here hx rfl (pc0 := 12) (pc' := 32) rfl (hb hby dd11_12) rfl (XT.ii_ge_t (by decide)) (by decide) (by decide)) ?_
  show own_G p e below (s₁.setTop (mkF m 32 #[rv ob_2907, rv ob_2936, iv 2] [])) _
  refine oS (fun _ => XS.iconst X0.here hx rfl (hb hby dd11_32) ) ?_
  exact own_retN X0 hx (t := .boolean) Bd.notSynchronized Bd.returns (by simp) (hb hby dd11_33) (by decide) e0 (by decide) (by decide) (⟨rfl, N0, rfl⟩)
def own_Q57 (Z : State) (ob_2906 : Nat) (ob_2935 : Nat) (in_7 : Int32) (ob_2907 : Nat) (ob_2936 : Nat) (kk_2908 : ClassId) (in_1 : Int32) (in_2 : Int32) (kk_2937 : ClassId) (h0 : Heap) (n0 : Nat) (v : Option Value) (h : Heap) (L : List Loc) : Prop := (v = some (.int 1) ∧ Fr n0 L ∧ h = h0)
set_option maxRecDepth 65536 in
set_option maxHeartbeats 40000000 in
theorem own_rm57 (l : Launch) (Z : State) (a0 : Array Value) (hw : ∀ d ∈ tables_1, d.before a0 Z = true) (ws : List Jvm.Cond) (ob_2906 : Nat) (ob_2935 : Nat) (in_7 : Int32) (ob_2907 : Nat) (ob_2936 : Nat) (kk_2908 : ClassId) (in_1 : Int32) (in_2 : Int32) (kk_2937 : ClassId) (h0 : Heap) (n0 : Nat) (Z0 : n0 ≤ h0.size) (O0 : Old Z n0 h0) (I3017 : @Ne Nat ob_2906 ob_2935) (I3022 : Exa Z h0 ob_2935 cN1) (I3027 : Sta Z Z.heap cN1 "COMPACT_STRINGS" "Z" (.int in_7)) (I3033 : ¬ (in_7 = 0)) (I3034 : Fld Z h0 ob_2906 cN1 "coder" "B" (.int 0)) (I3039 : Fld Z h0 ob_2935 cN1 "coder" "B" (.int 0)) (I3044 : Fld Z h0 ob_2906 cN1 "value" "[B" (.ref ob_2907)) (I3049 : Fld Z h0 ob_2935 cN1 "value" "[B" (.ref ob_2936)) (I3054 : Arv Z h0 ob_2907 kk_2908 .byte 2 [(.int ((in_1 &&& 255).toInt8.toInt32)), (.int ((in_2 &&& 255).toInt8.toInt32))] (.int 0)) (I3055 : Arv Z h0 ob_2936 kk_2937 .byte 2 [(.int ((in_1 &&& 255).toInt8.toInt32)), (.int ((in_2 &&& 255).toInt8.toInt32))] (.int 0)) :
    own_Met l Z h0 mN11 jdk_42_method_66_code 3 (Option.some FieldType.boolean) ws ({ frames := 1, cells := 0, slots := 0, locals := 14 } : Room) #[(.ref ob_2906), (.ref ob_2935)] (own_Q57 Z ob_2906 ob_2935 in_7 ob_2907 ob_2936 kk_2908 in_1 in_2 kk_2937 h0 n0) 0 0 := by
  refine MetFree.of_bodySF own_pn11 hisR ?_
  intro p e s m args below meth c s₁ Bd hml0 hP hK
  obtain ⟨rfl, hZ, hh⟩ := hP
  have hx := Bd.exec
  have hby := Bd.bytes
  have hml : c.maxLocals = 3 := hml0
  have hown : s.vm.findClass cN1 = some m.cls := findClass_of_methodNamed Bd.named
  have hnm := (name_of_methodNamed Bd.named Bd.method).1
  have X0 : Stand p l e ({ frames := 1, cells := 0, slots := 0, locals := 14 } : Room) s m #[(.ref ob_2906), (.ref ob_2935)] below meth c s₁ [] 0 0 := Stand.of_body Bd
  have e0 : s₁.heap = h0 := by rw [← hh, Bd.state]; rfl
  have N0 := Fr.nil n0
  show own_G p e below (s₁.setTop (entryFrame m #[(.ref ob_2906), (.ref ob_2935)] 3)) (own_P s (own_Q57 Z ob_2906 ob_2935 in_7 ob_2907 ob_2936 kk_2908 in_1 in_2 kk_2937 h0 n0) 0 0)
  refine own_cast (own_ef8 m ob_2906 ob_2935) ?_
  show own_G p e below (s₁.setTop (mkF m 0 #[rv ob_2906, rv ob_2935, .unset] [])) _
  refine oS (fun _ => XS.aloadN X0.here hx rfl (hb hby dd10_0) rfl rfl) ?_
  refine oS (fun _ => XS.aloadN X0.here hx rfl (hb hby dd10_1) rfl rfl) ?_
  refine oS (fun _ => XT.acmpYes X0.here hx rfl (pc0 := 2) (pc' := 7) rfl (hb hby dd10_2) rfl rfl rfl (XT.aa_ne_t (own_rne I3017)) (by decide) (by decide)) ?_
  show own_G p e below (s₁.setTop (mkF m 7 #[rv ob_2906, rv ob_2935, .unset] [])) _
  refine oS (fun _ => XS.aloadN X0.here hx rfl (hb hby dd10_7) rfl rfl) ?_
  obtain ⟨T3018, X3019, e3020, s3021⟩ := instY X0 hx hZ hown (oW hw 65 rfl) e0 (Ins.self I3022) (g := (mkF m 8 #[rv ob_2906, rv ob_2935, .unset] [(.ref ob_2935)])) rfl rfl (hb hby dd10_8)
  refine oS s3021 ?_
  show own_G p e below (T3018.setTop (mkF m 11 #[rv ob_2906, rv ob_2935, .unset] [(.int 1)])) _
  refine oS (fun _ => XS.ifNo X3019.here hx rfl (hb hby dd10_11) rfl (XT.i0_eq_f (by decide))) ?_
  show own_G p e below (T3018.setTop (mkF m 14 #[rv ob_2906, rv ob_2935, .unset] [])) _
  refine oS (fun _ => XS.aloadN X3019.here hx rfl (hb hby dd10_14) rfl rfl) ?_
  obtain ⟨T3023, X3024, e3025, s3026⟩ := castY X3019 hx hZ hown (oW hw 65 rfl) e3020 (Ins.self I3022) (g := (mkF m 15 #[rv ob_2906, rv ob_2935, .unset] [(.ref ob_2935)])) rfl rfl (hb hby dd10_15)
  refine oS s3026 ?_
  show own_G p e below (T3023.setTop (mkF m 18 #[rv ob_2906, rv ob_2935, .unset] [(.ref ob_2935)])) _
  refine oS (fun _ => XS.astoreN X3024.here hx rfl (hb hby dd10_18) rfl rfl (l' := #[rv ob_2906, rv ob_2935, rv ob_2935]) rfl) ?_
  have F3028 : Sta Z h0 cN1 "COMPACT_STRINGS" "Z" (.int in_7) := Sta.ext O0.2 I3027
  obtain ⟨T3029, X3030, e3031, s3032⟩ := getS X3024 hx hZ hown (host := "") (oW hw 19 rfl) Via.refl e3025 F3028 (g := (mkF m 19 #[rv ob_2906, rv ob_2935, rv ob_2935] [])) rfl (hb hby dd10_19)
  refine oS s3032 ?_
  show own_G p e below (T3029.setTop (mkF m 22 #[rv ob_2906, rv ob_2935, rv ob_2935] [(.int in_7)])) _
  refine oS (fun _ => XS.ifNo X3030.here hx rfl (hb hby dd10_22) rfl (XT.i0_eq_f I3033)) ?_
  show own_G p e below (T3029.setTop (mkF m 25 #[rv ob_2906, rv ob_2935, rv ob_2935] [])) _
  refine oS (fun _ => XS.aloadN X3030.here hx rfl (hb hby dd10_25) rfl rfl) ?_
  obtain ⟨T3035, X3036, e3037, s3038⟩ := getF X3030 hx hZ hown (host := "") (Or.inl (oW hw 31 rfl)) Via.refl e3031 I3034 (g := (mkF m 26 #[rv ob_2906, rv ob_2935, rv ob_2935] [(.ref ob_2906)])) rfl rfl (hb hby dd10_26)
  refine oS s3038 ?_
  show own_G p e below (T3035.setTop (mkF m 29 #[rv ob_2906, rv ob_2935, rv ob_2935] [(.int 0)])) _
  refine oS (fun _ => XS.aloadN X3036.here hx rfl (hb hby dd10_29) rfl rfl) ?_
  obtain ⟨T3040, X3041, e3042, s3043⟩ := getF X3036 hx hZ hown (host := "") (Or.inl (oW hw 31 rfl)) Via.refl e3037 I3039 (g := (mkF m 30 #[rv ob_2906, rv ob_2935, rv ob_2935] [(.ref ob_2935), (.int 0)])) rfl rfl (hb hby dd10_30)
  refine oS s3043 ?_
  show own_G p e below (T3040.setTop (mkF m 33 #[rv ob_2906, rv ob_2935, rv ob_2935] [(.int 0), (.int 0)])) _
  refine oS (fun _ => XS.icmpNo X3041.here hx rfl (hb hby dd10_33) rfl (XT.ii_ne_f (by decide))) ?_
  show own_G p e below (T3040.setTop (mkF m 36 #[rv ob_2906, rv ob_2935, rv ob_2935] [])) _
  refine oS (fun _ => XS.aloadN X3041.here hx rfl (hb hby dd10_36) rfl rfl) ?_
  obtain ⟨T3045, X3046, e3047, s3048⟩ := getF X3041 hx hZ hown (host := "") (Or.inl (oW hw 33 rfl)) Via.refl e3042 I3044 (g := (mkF m 37 #[rv ob_2906, rv ob_2935, rv ob_2935] [(.ref ob_2906)])) rfl rfl (hb hby dd10_37)
  refine oS s3048 ?_
  show own_G p e below (T3045.setTop (mkF m 40 #[rv ob_2906, rv ob_2935, rv ob_2935] [(.ref ob_2907)])) _
  refine oS (fun _ => XS.aloadN X3046.here hx rfl (hb hby dd10_40) rfl rfl) ?_
  obtain ⟨T3050, X3051, e3052, s3053⟩ := getF X3046 hx hZ hown (host := "") (Or.inl (oW hw 33 rfl)) Via.refl e3047 I3049 (g := (mkF m 41 #[rv ob_2906, rv ob_2935, rv ob_2935] [(.ref ob_2935), (.ref ob_2907)])) rfl rfl (hb hby dd10_41)
  refine oS s3053 ?_
  show own_G p e below (T3050.setTop (mkF m 44 #[rv ob_2906, rv ob_2935, rv ob_2935] [(.ref ob_2936), (.ref ob_2907)])) _
  obtain ⟨T3058, h3059, v3060, L3061, X3062, e3063, q3064, s3065⟩ := own_callS X3051 hx hZ hown e3052 (y := mN10) (oW hw 66 rfl) (oW hw 67 rfl) (oW hw 68 rfl) (oW hw 69 rfl) (by decide) (W := 0) (own_rm58 l Z a0 hw [] ob_2907 ob_2936 kk_2908 in_1 in_2 kk_2937 h0 n0 Z0 O0 I3054 I3055) (by decide) (by decide) (by decide) (by decide) (g := (mkF m 44 #[rv ob_2906, rv ob_2935, rv ob_2935] [(.ref ob_2936), (.ref ob_2907)])) rfl (by rw [hml]; rfl) (argsL := [(.ref ob_2907), (.ref ob_2936)]) (rest := []) rfl (lenOf own_pd10 rfl) rfl (by show 2 * 0 + _ ≤ _; exact Nat.le_of_eq rfl) (hb hby dd10_44)
  refine oS s3065 ?_
  obtain ⟨rfl, N3066, K3067⟩ := q3064
  have N3068 := Fr.app N0 N3066
  have e3069 := e3063.trans K3067
  show own_G p e below (T3058.setTop (mkF m 47 #[rv ob_2906, rv ob_2935, rv ob_2935] [(.int 1)])) _
  refine oS (fun _ => XS.ifNo X3062.here hx rfl (hb hby dd10_47) rfl (XT.i0_eq_f (by decide))) ?_
  show own_G p e below (T3058.setTop (mkF m 50 #[rv ob_2906, rv ob_2935, rv ob_2935] [])) _
  refine oS (fun _ => XS.iconst X3062.here hx rfl (hb hby dd10_50) ) ?_
  refine oS (fun _ => XS.goto X3062.here hx rfl (pc0 := 51) (pc' := 55) rfl (hb hby dd10_51) (by decide) (by decide)) ?_
  show own_G p e below (T3058.setTop (mkF m 55 #[rv ob_2906, rv ob_2935, rv ob_2935] [(.int 1)])) _
  exact own_retN X3062 hx (t := .boolean) Bd.notSynchronized Bd.returns (by simp) (hb hby dd10_55) (by decide) e3069 (by decide) (by decide) (⟨rfl, N3068, rfl⟩)
def own_Q59 (Z : State) (ob_2968 : Nat) (ob_2992 : Nat) (ob_2935 : Nat) (ob_2906 : Nat) (in_7 : Int32) (ob_2936 : Nat) (ob_2907 : Nat) (kk_2937 : ClassId) (in_1 : Int32) (in_2 : Int32) (kk_2908 : ClassId) (h0 : Heap) (n0 : Nat) (v : Option Value) (h : Heap) (L : List Loc) : Prop := (v = some (.int 1) ∧ Fr n0 L ∧ h = h0)
set_option maxRecDepth 65536 in
set_option maxHeartbeats 40000000 in
theorem own_rm59 (l : Launch) (Z : State) (a0 : Array Value) (hw : ∀ d ∈ tables_1, d.before a0 Z = true) (ws : List Jvm.Cond) (ob_2968 : Nat) (ob_2992 : Nat) (ob_2935 : Nat) (ob_2906 : Nat) (in_7 : Int32) (ob_2936 : Nat) (ob_2907 : Nat) (kk_2937 : ClassId) (in_1 : Int32) (in_2 : Int32) (kk_2908 : ClassId) (h0 : Heap) (n0 : Nat) (Z0 : n0 ≤ h0.size) (O0 : Old Z n0 h0) (I3169 : Exa Z h0 ob_2992 cN4) (I3174 : Fld Z h0 ob_2992 cN4 "name" cN5 (.ref ob_2935)) (I3179 : Fld Z h0 ob_2968 cN4 "name" cN5 (.ref ob_2906)) (I3184 : @Ne Nat ob_2935 ob_2906) (I3185 : Exa Z h0 ob_2906 cN1) (I3186 : Sta Z Z.heap cN1 "COMPACT_STRINGS" "Z" (.int in_7)) (I3187 : ¬ (in_7 = 0)) (I3188 : Fld Z h0 ob_2935 cN1 "coder" "B" (.int 0)) (I3189 : Fld Z h0 ob_2906 cN1 "coder" "B" (.int 0)) (I3190 : Fld Z h0 ob_2935 cN1 "value" "[B" (.ref ob_2936)) (I3191 : Fld Z h0 ob_2906 cN1 "value" "[B" (.ref ob_2907)) (I3192 : Arv Z h0 ob_2936 kk_2937 .byte 2 [(.int ((in_1 &&& 255).toInt8.toInt32)), (.int ((in_2 &&& 255).toInt8.toInt32))] (.int 0)) (I3193 : Exa Z h0 ob_2935 cN1) (I3194 : Arv Z h0 ob_2907 kk_2908 .byte 2 [(.int ((in_1 &&& 255).toInt8.toInt32)), (.int ((in_2 &&& 255).toInt8.toInt32))] (.int 0)) :
    own_Met l Z h0 mN13 prog_11_method_4_code 3 (Option.some FieldType.boolean) ws ({ frames := 2, cells := 0, slots := 0, locals := 28 } : Room) #[(.ref ob_2968), (.ref ob_2992)] (own_Q59 Z ob_2968 ob_2992 ob_2935 ob_2906 in_7 ob_2936 ob_2907 kk_2937 in_1 in_2 kk_2908 h0 n0) 0 0 := by
  refine MetFree.of_bodySF own_pn13 hisR ?_
  intro p e s m args below meth c s₁ Bd hml0 hP hK
  obtain ⟨rfl, hZ, hh⟩ := hP
  have hx := Bd.exec
  have hby := Bd.bytes
  have hml : c.maxLocals = 3 := hml0
  have hown : s.vm.findClass cN4 = some m.cls := findClass_of_methodNamed Bd.named
  have hnm := (name_of_methodNamed Bd.named Bd.method).1
  have X0 : Stand p l e ({ frames := 2, cells := 0, slots := 0, locals := 28 } : Room) s m #[(.ref ob_2968), (.ref ob_2992)] below meth c s₁ [] 0 0 := Stand.of_body Bd
  have e0 : s₁.heap = h0 := by rw [← hh, Bd.state]; rfl
  have N0 := Fr.nil n0
  show own_G p e below (s₁.setTop (entryFrame m #[(.ref ob_2968), (.ref ob_2992)] 3)) (own_P s (own_Q59 Z ob_2968 ob_2992 ob_2935 ob_2906 in_7 ob_2936 ob_2907 kk_2937 in_1 in_2 kk_2908 h0 n0) 0 0)
  refine own_cast (own_ef8 m ob_2968 ob_2992) ?_
  show own_G p e below (s₁.setTop (mkF m 0 #[rv ob_2968, rv ob_2992, .unset] [])) _
  refine oS (fun _ => XS.aloadN X0.here hx rfl (hb hby dd13_0) rfl rfl) ?_
  obtain ⟨T3165, X3166, e3167, s3168⟩ := instY X0 hx hZ hown (oW hw 52 rfl) e0 (Ins.self I3169) (g := (mkF m 1 #[rv ob_2968, rv ob_2992, .unset] [(.ref ob_2992)])) rfl rfl (hb hby dd13_1)
  refine oS s3168 ?_
  show own_G p e below (T3165.setTop (mkF m 4 #[rv ob_2968, rv ob_2992, .unset] [(.int 1)])) _
  refine oS (fun _ => XS.ifNo X3166.here hx rfl (hb hby dd13_4) rfl (XT.i0_eq_f (by decide))) ?_
  show own_G p e below (T3165.setTop (mkF m 7 #[rv ob_2968, rv ob_2992, .unset] [])) _
  refine oS (fun _ => XS.aloadN X3166.here hx rfl (hb hby dd13_7) rfl rfl) ?_
  obtain ⟨T3170, X3171, e3172, s3173⟩ := castY X3166 hx hZ hown (oW hw 52 rfl) e3167 (Ins.self I3169) (g := (mkF m 8 #[rv ob_2968, rv ob_2992, .unset] [(.ref ob_2992)])) rfl rfl (hb hby dd13_8)
  refine oS s3173 ?_
  show own_G p e below (T3170.setTop (mkF m 11 #[rv ob_2968, rv ob_2992, .unset] [(.ref ob_2992)])) _
  refine oS (fun _ => XS.astoreN X3171.here hx rfl (hb hby dd13_11) rfl rfl (l' := #[rv ob_2968, rv ob_2992, rv ob_2992]) rfl) ?_
  refine oS (fun _ => XS.aloadN X3171.here hx rfl (hb hby dd13_12) rfl rfl) ?_
  obtain ⟨T3175, X3176, e3177, s3178⟩ := getF X3171 hx hZ hown (host := "") (Or.inl (oW hw 58 rfl)) Via.refl e3172 I3174 (g := (mkF m 13 #[rv ob_2968, rv ob_2992, rv ob_2992] [(.ref ob_2992)])) rfl rfl (hb hby dd13_13)
  refine oS s3178 ?_
  show own_G p e below (T3175.setTop (mkF m 16 #[rv ob_2968, rv ob_2992, rv ob_2992] [(.ref ob_2935)])) _
  refine oS (fun _ => XS.aloadN X3176.here hx rfl (hb hby dd13_16) rfl rfl) ?_
  obtain ⟨T3180, X3181, e3182, s3183⟩ := getF X3176 hx hZ hown (host := "") (Or.inl (oW hw 58 rfl)) Via.refl e3177 I3179 (g := (mkF m 17 #[rv ob_2968, rv ob_2992, rv ob_2992] [(.ref ob_2968), (.ref ob_2935)])) rfl rfl (hb hby dd13_17)
  refine oS s3183 ?_
  show own_G p e below (T3180.setTop (mkF m 20 #[rv ob_2968, rv ob_2992, rv ob_2992] [(.ref ob_2906), (.ref ob_2935)])) _
  obtain ⟨T3195, h3196, v3197, L3198, X3199, e3200, q3201, s3202⟩ := own_callV X3181 hx hZ hown e3182 (y := mN11) (z := mN11) (C := cN1) (b := ob_2935) (oW hw 83 rfl) (oW hw 61 rfl) (notFace_of_selects (args := #[]) (mvT hZ (oW hw 63 rfl))) (oW hw 63 rfl) (oW hw 62 rfl) (oW hw 8 rfl) (oW hw 64 rfl) (by decide) I3193 (W := 0) (own_rm57 l Z a0 hw [] ob_2935 ob_2906 in_7 ob_2936 ob_2907 kk_2937 in_1 in_2 kk_2908 h0 n0 Z0 O0 I3184 I3185 I3186 I3187 I3188 I3189 I3190 I3191 I3192 I3194) (by decide) (by decide) (by decide) (by decide) (g := (mkF m 20 #[rv ob_2968, rv ob_2992, rv ob_2992] [(.ref ob_2906), (.ref ob_2935)])) rfl (by rw [hml]; rfl) (argsL := [(.ref ob_2906)]) (rest := []) rfl (lenOf own_pd11 rfl) rfl (by show 2 * 0 + _ ≤ _; exact Nat.le_of_eq rfl) (hb hby dd13_20)
  refine oS s3202 ?_
  obtain ⟨rfl, N3203, K3204⟩ := q3201
  have N3205 := Fr.app N0 N3203
  have e3206 := e3200.trans K3204
  show own_G p e below (T3195.setTop (mkF m 23 #[rv ob_2968, rv ob_2992, rv ob_2992] [(.int 1)])) _
  refine oS (fun _ => XS.ifNo X3199.here hx rfl (hb hby dd13_23) rfl (XT.i0_eq_f (by decide))) ?_
  show own_G p e below (T3195.setTop (mkF m 26 #[rv ob_2968, rv ob_2992, rv ob_2992] [])) _
  refine oS (fun _ => XS.iconst X3199.here hx rfl (hb hby dd13_26) ) ?_
  refine oS (fun _ => XS.goto X3199.here hx rfl (pc0 := 27) (pc' := 31) rfl (hb hby dd13_27) (by decide) (by decide)) ?_
  show own_G p e below (T3195.setTop (mkF m 31 #[rv ob_2968, rv ob_2992, rv ob_2992] [(.int 1)])) _
  exact own_retN X3199 hx (t := .boolean) Bd.notSynchronized Bd.returns (by simp) (hb hby dd13_31) (by decide) e3206 (by decide) (by decide) (⟨rfl, N3205, rfl⟩)
theorem dd17_42 : decode jdk_43_method_21_code 42 = .ok (.aload_n 0, 1) := by decide +kernel
theorem dd17_43 : decode jdk_43_method_21_code 43 = .ok (.iconst 0, 1) := by decide +kernel
theorem dd17_44 : decode jdk_43_method_21_code 44 = .ok (.aload_n 0, 1) := by decide +kernel
theorem dd17_45 : decode jdk_43_method_21_code 45 = .ok (.arraylength, 1) := by decide +kernel
theorem dd17_46 : decode jdk_43_method_21_code 46 = .ok (.iconst 0, 1) := by decide +kernel
theorem dd17_47 : decode jdk_43_method_21_code 47 = .ok (.iconst 4, 1) := by decide +kernel
theorem own_ef10 (m : MethodId) (x0 : Addr) (x1 : Int32) (x2 : Int32) (x3 : Int32) (x4 : Int32) : entryFrame m #[(.ref x0), (.int x1), (.int x2), (.int x3), (.int x4)] 5 = mkF m 0 #[.val (.ref x0), .val (.int x1), .val (.int x2), .val (.int x3), .val (.int x4)] [] := by first | (simp [entryFrame, mkF, argsToLocals, Value.category]; done) | rfl
theorem dd18_0 : decode jdk_48_method_4_code 0 = .ok (.iload 4, 2) := by decide +kernel
theorem dd18_2 : decode jdk_48_method_4_code 2 = .ok (.tableswitch 127 4 10 #[42, 55, 127, 127, 88, 101, 114], 42) := by decide +kernel
theorem dd18_44 : decode jdk_48_method_4_code 44 = .ok (.iload_n 3, 1) := by decide +kernel
theorem dd18_45 : decode jdk_48_method_4_code 45 = .ok (.aload_n 0, 1) := by decide +kernel
theorem dd18_46 : decode jdk_48_method_4_code 46 = .ok (.checkcast 60, 3) := by decide +kernel
theorem dd18_49 : decode jdk_48_method_4_code 49 = .ok (.iload_n 1, 1) := by decide +kernel
theorem dd18_50 : decode jdk_48_method_4_code 50 = .ok (.iload_n 2, 1) := by decide +kernel
theorem own_ef11 (m : MethodId) (x0 : Int32) (x1 : Addr) (x2 : Int32) (x3 : Int32) : entryFrame m #[(.int x0), (.ref x1), (.int x2), (.int x3)] 6 = mkF m 0 #[.val (.int x0), .val (.ref x1), .val (.int x2), .val (.int x3), .unset, .unset] [] := by first | (simp [entryFrame, mkF, argsToLocals, Value.category]; done) | rfl
theorem dd19_0 : decode jdk_48_method_5_code 0 = .ok (.iload_n 2, 1) := by decide +kernel
theorem dd19_1 : decode jdk_48_method_5_code 1 = .ok (.iload_n 3, 1) := by decide +kernel
theorem dd19_2 : decode jdk_48_method_5_code 2 = .ok (.iadd, 1) := by decide +kernel
theorem dd19_3 : decode jdk_48_method_5_code 3 = .ok (.istore 4, 2) := by decide +kernel
theorem dd19_5 : decode jdk_48_method_5_code 5 = .ok (.iload_n 2, 1) := by decide +kernel
theorem dd19_6 : decode jdk_48_method_5_code 6 = .ok (.istore 5, 2) := by decide +kernel
theorem dd19_8 : decode jdk_48_method_5_code 8 = .ok (.iload 5, 2) := by decide +kernel
theorem dd19_10 : decode jdk_48_method_5_code 10 = .ok (.iload 4, 2) := by decide +kernel
theorem dd19_12 : decode jdk_48_method_5_code 12 = .ok (.if_icmp .ge 23, 3) := by decide +kernel
theorem dd19_15 : decode jdk_48_method_5_code 15 = .ok (.bipush 31, 2) := by decide +kernel
theorem dd19_17 : decode jdk_48_method_5_code 17 = .ok (.iload_n 0, 1) := by decide +kernel
theorem dd19_18 : decode jdk_48_method_5_code 18 = .ok (.imul, 1) := by decide +kernel
theorem dd19_19 : decode jdk_48_method_5_code 19 = .ok (.aload_n 1, 1) := by decide +kernel
theorem dd19_20 : decode jdk_48_method_5_code 20 = .ok (.iload 5, 2) := by decide +kernel
theorem dd19_22 : decode jdk_48_method_5_code 22 = .ok (.baload, 1) := by decide +kernel
theorem dd19_23 : decode jdk_48_method_5_code 23 = .ok (.sipush 255, 3) := by decide +kernel
theorem dd19_26 : decode jdk_48_method_5_code 26 = .ok (.iand, 1) := by decide +kernel
theorem dd19_27 : decode jdk_48_method_5_code 27 = .ok (.iadd, 1) := by decide +kernel
theorem dd19_28 : decode jdk_48_method_5_code 28 = .ok (.istore_n 0, 1) := by decide +kernel
theorem dd19_29 : decode jdk_48_method_5_code 29 = .ok (.iinc 5 1, 3) := by decide +kernel
theorem dd19_32 : decode jdk_48_method_5_code 32 = .ok (.goto (-24), 3) := by decide +kernel
theorem dd19_35 : decode jdk_48_method_5_code 35 = .ok (.iload_n 0, 1) := by decide +kernel
theorem dd19_36 : decode jdk_48_method_5_code 36 = .ok (.ireturn, 1) := by decide +kernel
def own_Q64 (Z : State) (ob_2907 : Nat) (kk_2908 : ClassId) (in_1 : Int32) (in_2 : Int32) (h0 : Heap) (n0 : Nat) (v : Option Value) (h : Heap) (L : List Loc) : Prop := (v = some (.int (((31 : Int32) * ((0 : Int32) + (((in_1 &&& 255).toInt8.toInt32) &&& 255))) + (((in_2 &&& 255).toInt8.toInt32) &&& 255))) ∧ Fr n0 L ∧ h = h0)
theorem own_pn18 : plainFor mN18 = true := by decide +kernel
set_option maxRecDepth 65536 in
set_option maxHeartbeats 40000000 in
theorem own_rm64 (l : Launch) (Z : State) (a0 : Array Value) (hw : ∀ d ∈ tables_1, d.before a0 Z = true) (ws : List Jvm.Cond) (ob_2907 : Nat) (kk_2908 : ClassId) (in_1 : Int32) (in_2 : Int32) (h0 : Heap) (n0 : Nat) (Z0 : n0 ≤ h0.size) (O0 : Old Z n0 h0) (I3286 : Arv Z h0 ob_2907 kk_2908 .byte 2 [(.int ((in_1 &&& 255).toInt8.toInt32)), (.int ((in_2 &&& 255).toInt8.toInt32))] (.int 0)) :
    own_Met l Z h0 mN18 jdk_48_method_5_code 6 (Option.some FieldType.int) ws ({ frames := 0, cells := 0, slots := 0, locals := 0 } : Room) #[(.int 0), (.ref ob_2907), (.int 0), (.int 2)] (own_Q64 Z ob_2907 kk_2908 in_1 in_2 h0 n0) 0 0 := by
  refine MetFree.of_bodySF own_pn18 hisR ?_
  intro p e s m args below meth c s₁ Bd hml0 hP hK
  obtain ⟨rfl, hZ, hh⟩ := hP
  have hx := Bd.exec
  have hby := Bd.bytes
  have hml : c.maxLocals = 6 := hml0
  have hown : s.vm.findClass cN7 = some m.cls := findClass_of_methodNamed Bd.named
  have hnm := (name_of_methodNamed Bd.named Bd.method).1
  have X0 : Stand p l e ({ frames := 0, cells := 0, slots := 0, locals := 0 } : Room) s m #[(.int 0), (.ref ob_2907), (.int 0), (.int 2)] below meth c s₁ [] 0 0 := Stand.of_body Bd
  have e0 : s₁.heap = h0 := by rw [← hh, Bd.state]; rfl
  have N0 := Fr.nil n0
  show own_G p e below (s₁.setTop (entryFrame m #[(.int 0), (.ref ob_2907), (.int 0), (.int 2)] 6)) (own_P s (own_Q64 Z ob_2907 kk_2908 in_1 in_2 h0 n0) 0 0)
  refine own_cast (own_ef11 m 0 ob_2907 0 2) ?_
  show own_G p e below (s₁.setTop (mkF m 0 #[iv 0, rv ob_2907, iv 0, iv 2, .unset, .unset] [])) _
  refine oS (fun _ => XS.iloadN X0.here hx rfl (hb hby dd19_0) rfl) ?_
  refine oS (fun _ => XS.iloadN X0.here hx rfl (hb hby dd19_1) rfl) ?_
  refine oS (fun _ => XS.iadd X0.here hx rfl (hb hby dd19_2) rfl) ?_
  refine oS (fun _ => XS.istore X0.here hx rfl (hb hby dd19_3) rfl (l' := #[iv 0, rv ob_2907, iv 0, iv 2, iv 2, .unset]) rfl) ?_
  show own_G p e below (s₁.setTop (mkF m 5 #[iv 0, rv ob_2907, iv 0, iv 2, iv 2, .unset] [])) _
  refine oS (fun _ => XS.iloadN X0.here hx rfl (hb hby dd19_5) rfl) ?_
  refine oS (fun _ => XS.istore X0.here hx rfl (hb hby dd19_6) rfl (l' := #[iv 0, rv ob_2907, iv 0, iv 2, iv 2, iv 0]) rfl) ?_
  refine oS (fun _ => XS.iload X0.here hx rfl (hb hby dd19_8) rfl) ?_
  refine oS (fun _ => XS.iload X0.here hx rfl (hb hby dd19_10) rfl) ?_
  show own_G p e below (s₁.setTop (mkF m 12 #[iv 0, rv ob_2907, iv 0, iv 2, iv 2, iv 0] [(.int 2), (.int 0)])) _
  refine oS (fun _ => XS.icmpNo X0.here hx rfl (hb hby dd19_12) rfl (XT.ii_ge_f (by decide))) ?_
  show own_G p e below (s₁.setTop (mkF m 15 #[iv 0, rv ob_2907, iv 0, iv 2, iv 2, iv 0] [])) _
  refine oS (fun _ => XS.bipush X0.here hx rfl (hb hby dd19_15) ) ?_
  refine oS (fun _ => XS.iloadN X0.here hx rfl (hb hby dd19_17) rfl) ?_
  refine oS (fun _ => XS.imul X0.here hx rfl (hb hby dd19_18) rfl) ?_
  refine oS (fun _ => XS.aloadN X0.here hx rfl (hb hby dd19_19) rfl rfl) ?_
  show own_G p e below (s₁.setTop (mkF m 20 #[iv 0, rv ob_2907, iv 0, iv 2, iv 2, iv 0] [(.ref ob_2907), (.int 0)])) _
  refine oS (fun _ => XS.iload X0.here hx rfl (hb hby dd19_20) rfl) ?_
  refine oS (own_baload X0 hx hZ e0 I3286 (by decide) (v := (.int ((in_1 &&& 255).toInt8.toInt32))) rfl rfl rfl (hb hby dd19_22)) ?_
  show own_G p e below (s₁.setTop (mkF m 23 #[iv 0, rv ob_2907, iv 0, iv 2, iv 2, iv 0] [(.int ((in_1 &&& 255).toInt8.toInt32)), (.int 0)])) _
  refine oS (fun _ => XS.sipush X0.here hx rfl (hb hby dd19_23) ) ?_
  refine oS (fun _ => XS.iand X0.here hx rfl (hb hby dd19_26) rfl) ?_
  refine oS (fun _ => XS.iadd X0.here hx rfl (hb hby dd19_27) rfl) ?_
  refine oS (fun _ => XS.istoreN X0.here hx rfl (hb hby dd19_28) rfl (l' := #[iv ((0 : Int32) + (((in_1 &&& 255).toInt8.toInt32) &&& 255)), rv ob_2907, iv 0, iv 2, iv 2, iv 0]) rfl) ?_
  show own_G p e below (s₁.setTop (mkF m 29 #[iv ((0 : Int32) + (((in_1 &&& 255).toInt8.toInt32) &&& 255)), rv ob_2907, iv 0, iv 2, iv 2, iv 0] [])) _
  refine oS (fun _ => XS.iinc X0.here hx rfl (hb hby dd19_29) rfl (l' := #[iv ((0 : Int32) + (((in_1 &&& 255).toInt8.toInt32) &&& 255)), rv ob_2907, iv 0, iv 2, iv 2, iv 1]) rfl) ?_
  show own_G p e below (s₁.setTop (mkF m 32 #[iv ((0 : Int32) + (((in_1 &&& 255).toInt8.toInt32) &&& 255)), rv ob_2907, iv 0, iv 2, iv 2, iv 1] [])) _
  refine oS (fun _ => XS.goto X0.here hx rfl (pc0 := 32) (pc' := 8) rfl (hb hby dd19_32) (by decide) (by decide)) ?_
  show own_G p e below (s₁.setTop (mkF m 8 #[iv ((0 : Int32) + (((in_1 &&& 255).toInt8.toInt32) &&& 255)), rv ob_2907, iv 0, iv 2, iv 2, iv 1] [])) _
  refine oS (fun _ => XS.iload X0.here hx rfl (hb hby dd19_8) rfl) ?_
  refine oS (fun _ => XS.iload X0.here hx rfl (hb hby dd19_10) rfl) ?_
  refine oS (fun _ => XS.icmpNo X0.here hx rfl (hb hby dd19_12) rfl (XT.ii_ge_f (by decide))) ?_
  show own_G p e below (s₁.setTop (mkF m 15 #[iv ((0 : Int32) + (((in_1 &&& 255).toInt8.toInt32) &&& 255)), rv ob_2907, iv 0, iv 2, iv 2, iv 1] [])) _
  refine oS (fun _ => XS.bipush X0.here hx rfl (hb hby dd19_15) ) ?_
  refine oS (fun _ => XS.iloadN X0.here hx rfl (hb hby dd19_17) rfl) ?_
  refine oS (fun _ => XS.imul X0.here hx rfl (hb hby dd19_18) rfl) ?_
  refine oS (fun _ => XS.aloadN X0.here hx rfl (hb hby dd19_19) rfl rfl) ?_
  show own_G p e below (s₁.setTop (mkF m 20 #[iv ((0 : Int32) + (((in_1 &&& 255).toInt8.toInt32) &&& 255)), rv ob_2907, iv 0, iv 2, iv 2, iv 1] [(.ref ob_2907), (.int ((31 : Int32) * ((0 : Int32) + (((in_1 &&& 255).toInt8.toInt32) &&& 255))))])) _
  refine oS (fun _ => XS.iload X0.here hx rfl (hb hby dd19_20) rfl) ?_
  refine oS (own_baload X0 hx hZ e0 I3286 (by decide) (v := (.int ((in_2 &&& 255).toInt8.toInt32))) rfl rfl rfl (hb hby dd19_22)) ?_
  show own_G p e below (s₁.setTop (mkF m 23 #[iv ((0 : Int32) + (((in_1 &&& 255).toInt8.toInt32) &&& 255)), rv ob_2907, iv 0, iv 2, iv 2, iv 1] [(.int ((in_2 &&& 255).toInt8.toInt32)), (.int ((31 : Int32) * ((0 : Int32) + (((in_1 &&& 255).toInt8.toInt32) &&& 255))))])) _
  refine oS (fun _ => XS.sipush X0.here hx rfl (hb hby dd19_23) ) ?_
  refine oS (fun _ => XS.iand X0.here hx rfl (hb hby dd19_26) rfl) ?_
  refine oS (fun _ => XS.iadd X0.here hx rfl (hb hby dd19_27) rfl) ?_
  refine oS (fun _ => XS.istoreN X0.here hx rfl (hb hby dd19_28) rfl (l' := #[iv (((31 : Int32) * ((0 : Int32) + (((in_1 &&& 255).toInt8.toInt32) &&& 255))) + (((in_2 &&& 255).toInt8.toInt32) &&& 255)), rv ob_2907, iv 0, iv 2, iv 2, iv 1]) rfl) ?_
  show own_G p e below (s₁.setTop (mkF m 29 #[iv (((31 : Int32) * ((0 : Int32) + (((in_1 &&& 255).toInt8.toInt32) &&& 255))) + (((in_2 &&& 255).toInt8.toInt32) &&& 255)), rv ob_2907, iv 0, iv 2, iv 2, iv 1] [])) _
  refine oS (fun _ => XS.iinc X0.here hx rfl (hb hby dd19_29) rfl (l' := #[iv (((31 : Int32) * ((0 : Int32) + (((in_1 &&& 255).toInt8.toInt32) &&& 255))) + (((in_2 &&& 255).toInt8.toInt32) &&& 255)), rv ob_2907, iv 0, iv 2, iv 2, iv 2]) rfl) ?_
  show own_G p e below (s₁.setTop (mkF m 32 #[iv (((31 : Int32) * ((0 : Int32) + (((in_1 &&& 255).toInt8.toInt32) &&& 255))) + (((in_2 &&& 255).toInt8.toInt32) &&& 255)), rv ob_2907, iv 0, iv 2, iv 2, iv 2] [])) _
  refine oS (fun _ => XS.goto X0.here hx rfl (pc0 := 32) (pc' := 8) rfl (hb hby dd19_32) (by decide) (by decide)) ?_
  show own_G p e below (s₁.setTop (mkF m 8 #[iv (((31 : Int32) * ((0 : Int32) + (((in_1 &&& 255).toInt8.toInt32) &&& 255))) + (((in_2 &&& 255).toInt8.toInt32) &&& 255)), rv ob_2907, iv 0, iv 2, iv 2, iv 2] [])) _
  refine oS (fun _ => XS.iload X0.here hx rfl (hb hby dd19_8) rfl) ?_
  refine oS (fun _ => XS.iload X0.here hx rfl (hb hby dd19_10) rfl) ?_
  refine oS (fun _ => XS.icmpYes X0.here hx rfl (pc0 := 12) (pc' := 35) rfl (hb hby dd19_12) rfl (XT.ii_ge_t (by decide)) (by decide) (by decide)) ?_
  show own_G p e below (s₁.setTop (mkF m 35 #[iv (((31 : Int32) * ((0 : Int32) + (((in_1 &&& 255).toInt8.toInt32) &&& 255))) + (((in_2 &&& 255).toInt8.toInt32) &&& 255)), rv ob_2907, iv 0, iv 2, iv 2, iv 2] [])) _
  refine oS (fun _ => XS.iloadN X0.here hx rfl (hb hby dd19_35) rfl) ?_
  exact own_retI X0 hx Bd.notSynchronized Bd.returns (hb hby dd19_36) e0 (by decide) (by decide) (⟨rfl, N0, rfl⟩)
theorem own_pd15 : parseMethodDescriptor "(I[BII)I" = some ⟨[.int, (.array .byte), .int, .int], (some .int)⟩ := by decide +kernel
theorem dd18_51 : decode jdk_48_method_4_code 51 = .ok (.invokestatic 62, 3) := by decide +kernel
theorem dd18_54 : decode jdk_48_method_4_code 54 = .ok (.goto 103, 3) := by decide +kernel
theorem dd18_157 : decode jdk_48_method_4_code 157 = .ok (.ireturn, 1) := by decide +kernel
def own_Q63 (Z : State) (ob_2907 : Nat) (kk_2908 : ClassId) (in_1 : Int32) (in_2 : Int32) (h0 : Heap) (n0 : Nat) (v : Option Value) (h : Heap) (L : List Loc) : Prop := (v = some (.int (((31 : Int32) * ((0 : Int32) + (((in_1 &&& 255).toInt8.toInt32) &&& 255))) + (((in_2 &&& 255).toInt8.toInt32) &&& 255))) ∧ Fr n0 L ∧ h = h0)
theorem own_pn19 : plainFor mN19 = true := by decide +kernel
set_option maxRecDepth 65536 in
set_option maxHeartbeats 40000000 in
theorem own_rm63 (l : Launch) (Z : State) (a0 : Array Value) (hw : ∀ d ∈ tables_1, d.before a0 Z = true) (ws : List Jvm.Cond) (ob_2907 : Nat) (kk_2908 : ClassId) (in_1 : Int32) (in_2 : Int32) (h0 : Heap) (n0 : Nat) (Z0 : n0 ≤ h0.size) (O0 : Old Z n0 h0) (I3284 : Exa Z h0 ob_2907 "[B") (I3285 : Arv Z h0 ob_2907 kk_2908 .byte 2 [(.int ((in_1 &&& 255).toInt8.toInt32)), (.int ((in_2 &&& 255).toInt8.toInt32))] (.int 0)) :
    own_Met l Z h0 mN19 jdk_48_method_4_code 5 (Option.some FieldType.int) ws ({ frames := 1, cells := 0, slots := 0, locals := 17 } : Room) #[(.ref ob_2907), (.int 0), (.int 2), (.int 0), (.int 4)] (own_Q63 Z ob_2907 kk_2908 in_1 in_2 h0 n0) 0 0 := by
  refine MetFree.of_bodySF own_pn19 hisR ?_
  intro p e s m args below meth c s₁ Bd hml0 hP hK
  obtain ⟨rfl, hZ, hh⟩ := hP
  have hx := Bd.exec
  have hby := Bd.bytes
  have hml : c.maxLocals = 5 := hml0
  have hown : s.vm.findClass cN7 = some m.cls := findClass_of_methodNamed Bd.named
  have hnm := (name_of_methodNamed Bd.named Bd.method).1
  have X0 : Stand p l e ({ frames := 1, cells := 0, slots := 0, locals := 17 } : Room) s m #[(.ref ob_2907), (.int 0), (.int 2), (.int 0), (.int 4)] below meth c s₁ [] 0 0 := Stand.of_body Bd
  have e0 : s₁.heap = h0 := by rw [← hh, Bd.state]; rfl
  have N0 := Fr.nil n0
  show own_G p e below (s₁.setTop (entryFrame m #[(.ref ob_2907), (.int 0), (.int 2), (.int 0), (.int 4)] 5)) (own_P s (own_Q63 Z ob_2907 kk_2908 in_1 in_2 h0 n0) 0 0)
  refine own_cast (own_ef10 m ob_2907 0 2 0 4) ?_
  show own_G p e below (s₁.setTop (mkF m 0 #[rv ob_2907, iv 0, iv 2, iv 0, iv 4] [])) _
  refine oS (fun _ => XS.iload X0.here hx rfl (hb hby dd18_0) rfl) ?_
  have u3273 : ∀ t, Steps p.tables e below (s₁.setTop (mkF m 44 #[rv ob_2907, iv 0, iv 2, iv 0, iv 4] [])) t → Steps p.tables e below (s₁.setTop (mkF m 2 #[rv ob_2907, iv 0, iv 2, iv 0, iv 4] [(.int 4)])) t := fun t hr => XS.tswIn X0.here hx (g := (mkF m 2 #[rv ob_2907, iv 0, iv 2, iv 0, iv 4] [(.int 4)])) rfl (pc0 := 2) (pc' := 44) rfl (hb hby dd18_2) rfl (by decide +kernel) (o := 42) (by decide +kernel) (by decide) (by decide) hr
  refine oS u3273 ?_
  refine oS (fun _ => XS.iloadN X0.here hx rfl (hb hby dd18_44) rfl) ?_
  refine oS (fun _ => XS.aloadN X0.here hx rfl (hb hby dd18_45) rfl rfl) ?_
  obtain ⟨T3274, X3275, e3276, s3277⟩ := castY X0 hx hZ hown (oW hw 110 rfl) e0 (Ins.self I3284) (g := (mkF m 46 #[rv ob_2907, iv 0, iv 2, iv 0, iv 4] [(.ref ob_2907), (.int 0)])) rfl rfl (hb hby dd18_46)
  refine oS s3277 ?_
  show own_G p e below (T3274.setTop (mkF m 49 #[rv ob_2907, iv 0, iv 2, iv 0, iv 4] [(.ref ob_2907), (.int 0)])) _
  refine oS (fun _ => XS.iloadN X3275.here hx rfl (hb hby dd18_49) rfl) ?_
  refine oS (fun _ => XS.iloadN X3275.here hx rfl (hb hby dd18_50) rfl) ?_
  obtain ⟨T3287, h3288, v3289, L3290, X3291, e3292, q3293, s3294⟩ := own_callS X3275 hx hZ hown e3276 (y := mN18) (oW hw 112 rfl) (oW hw 113 rfl) (oW hw 108 rfl) (oW hw 114 rfl) (by decide) (W := 0) (own_rm64 l Z a0 hw [] ob_2907 kk_2908 in_1 in_2 h0 n0 Z0 O0 I3285) (by decide) (by decide) (by decide) (by decide) (g := (mkF m 51 #[rv ob_2907, iv 0, iv 2, iv 0, iv 4] [(.int 2), (.int 0), (.ref ob_2907), (.int 0)])) rfl (by rw [hml]; rfl) (argsL := [(.int 0), (.ref ob_2907), (.int 0), (.int 2)]) (rest := []) rfl (lenOf own_pd15 rfl) rfl (by show 2 * 0 + _ ≤ _; exact Nat.le_of_eq rfl) (hb hby dd18_51)
  refine oS s3294 ?_
  obtain ⟨rfl, N3295, K3296⟩ := q3293
  have N3297 := Fr.app N0 N3295
  have e3298 := e3292.trans K3296
  show own_G p e below (T3287.setTop (mkF m 54 #[rv ob_2907, iv 0, iv 2, iv 0, iv 4] [(.int (((31 : Int32) * ((0 : Int32) + (((in_1 &&& 255).toInt8.toInt32) &&& 255))) + (((in_2 &&& 255).toInt8.toInt32) &&& 255)))])) _
  refine oS (fun _ => XS.goto X3291.here hx rfl (pc0 := 54) (pc' := 157) rfl (hb hby dd18_54) (by decide) (by decide)) ?_
  show own_G p e below (T3287.setTop (mkF m 157 #[rv ob_2907, iv 0, iv 2, iv 0, iv 4] [(.int (((31 : Int32) * ((0 : Int32) + (((in_1 &&& 255).toInt8.toInt32) &&& 255))) + (((in_2 &&& 255).toInt8.toInt32) &&& 255)))])) _
  exact own_retI X3291 hx Bd.notSynchronized Bd.returns (hb hby dd18_157) e3298 (by decide) (by decide) (⟨rfl, N3297, rfl⟩)
theorem own_pd16 : parseMethodDescriptor "(Ljava/lang/Object;IIII)I" = some ⟨[(.object cN3), .int, .int, .int, .int], (some .int)⟩ := by decide +kernel
theorem dd17_48 : decode jdk_43_method_21_code 48 = .ok (.invokestatic 84, 3) := by decide +kernel
def own_Q62 (Z : State) (ob_2907 : Nat) (kk_2908 : ClassId) (in_1 : Int32) (in_2 : Int32) (h0 : Heap) (n0 : Nat) (v : Option Value) (h : Heap) (L : List Loc) : Prop := (v = some (.int (((31 : Int32) * ((0 : Int32) + (((in_1 &&& 255).toInt8.toInt32) &&& 255))) + (((in_2 &&& 255).toInt8.toInt32) &&& 255))) ∧ Fr n0 L ∧ h = h0)
set_option maxRecDepth 65536 in
set_option maxHeartbeats 40000000 in
theorem own_rm62 (l : Launch) (Z : State) (a0 : Array Value) (hw : ∀ d ∈ tables_1, d.before a0 Z = true) (ws : List Jvm.Cond) (ob_2907 : Nat) (kk_2908 : ClassId) (in_1 : Int32) (in_2 : Int32) (h0 : Heap) (n0 : Nat) (Z0 : n0 ≤ h0.size) (O0 : Old Z n0 h0) (I3271 : Arv Z h0 ob_2907 kk_2908 .byte 2 [(.int ((in_1 &&& 255).toInt8.toInt32)), (.int ((in_2 &&& 255).toInt8.toInt32))] (.int 0)) (I3283 : Exa Z h0 ob_2907 "[B") :
    own_Met l Z h0 mN15 jdk_43_method_21_code 1 (Option.some FieldType.int) ws ({ frames := 2, cells := 0, slots := 0, locals := 33 } : Room) #[(.ref ob_2907)] (own_Q62 Z ob_2907 kk_2908 in_1 in_2 h0 n0) 0 0 := by
  refine MetFree.of_bodySF own_pn15 hisR ?_
  intro p e s m args below meth c s₁ Bd hml0 hP hK
  obtain ⟨rfl, hZ, hh⟩ := hP
  have hx := Bd.exec
  have hby := Bd.bytes
  have hml : c.maxLocals = 1 := hml0
  have hown : s.vm.findClass cN6 = some m.cls := findClass_of_methodNamed Bd.named
  have hnm := (name_of_methodNamed Bd.named Bd.method).1
  have X0 : Stand p l e ({ frames := 2, cells := 0, slots := 0, locals := 33 } : Room) s m #[(.ref ob_2907)] below meth c s₁ [] 0 0 := Stand.of_body Bd
  have e0 : s₁.heap = h0 := by rw [← hh, Bd.state]; rfl
  have N0 := Fr.nil n0
  show own_G p e below (s₁.setTop (entryFrame m #[(.ref ob_2907)] 1)) (own_P s (own_Q62 Z ob_2907 kk_2908 in_1 in_2 h0 n0) 0 0)
  refine own_cast (own_ef7 m ob_2907) ?_
  show own_G p e below (s₁.setTop (mkF m 0 #[rv ob_2907] [])) _
  refine oS (fun _ => XS.aloadN X0.here hx rfl (hb hby dd17_0) rfl rfl) ?_
  refine oS (own_len X0 hx hZ e0 I3271 rfl rfl (hb hby dd17_1)) ?_
  show own_G p e below (s₁.setTop (mkF m 2 #[rv ob_2907] [(.int 2)])) _
  have u3272 : ∀ t, Steps p.tables e below (s₁.setTop (mkF m 42 #[rv ob_2907] [])) t → Steps p.tables e below (s₁.setTop (mkF m 2 #[rv ob_2907] [(.int 2)])) t := fun t hr => own_lswM X0 hx (g := (mkF m 2 #[rv ob_2907] [(.int 2)])) rfl (k := 2) rfl (hb hby dd17_2) (by decide +kernel) (by decide +kernel) (pc0 := 2) (pc' := 42) rfl (by decide) (by decide) t hr
  refine oS u3272 ?_
  refine oS (fun _ => XS.aloadN X0.here hx rfl (hb hby dd17_42) rfl rfl) ?_
  refine oS (fun _ => XS.iconst X0.here hx rfl (hb hby dd17_43) ) ?_
  refine oS (fun _ => XS.aloadN X0.here hx rfl (hb hby dd17_44) rfl rfl) ?_
  refine oS (own_len X0 hx hZ e0 I3271 rfl rfl (hb hby dd17_45)) ?_
  show own_G p e below (s₁.setTop (mkF m 46 #[rv ob_2907] [(.int 2), (.int 0), (.ref ob_2907)])) _
  refine oS (fun _ => XS.iconst X0.here hx rfl (hb hby dd17_46) ) ?_
  refine oS (fun _ => XS.iconst X0.here hx rfl (hb hby dd17_47) ) ?_
  obtain ⟨T3299, h3300, v3301, L3302, X3303, e3304, q3305, s3306⟩ := own_callS X0 hx hZ hown e0 (y := mN19) (oW hw 106 rfl) (oW hw 107 rfl) (oW hw 108 rfl) (oW hw 109 rfl) (by decide) (W := 0) (own_rm63 l Z a0 hw [] ob_2907 kk_2908 in_1 in_2 h0 n0 Z0 O0 I3283 I3271) (by decide) (by decide) (by decide) (by decide) (g := (mkF m 48 #[rv ob_2907] [(.int 4), (.int 0), (.int 2), (.int 0), (.ref ob_2907)])) rfl (by rw [hml]; rfl) (argsL := [(.ref ob_2907), (.int 0), (.int 2), (.int 0), (.int 4)]) (rest := []) rfl (lenOf own_pd16 rfl) rfl (by show 2 * 0 + _ ≤ _; exact Nat.le_of_eq rfl) (hb hby dd17_48)
  refine oS s3306 ?_
  obtain ⟨rfl, N3307, K3308⟩ := q3305
  have N3309 := Fr.app N0 N3307
  have e3310 := e3304.trans K3308
  show own_G p e below (T3299.setTop (mkF m 51 #[rv ob_2907] [(.int (((31 : Int32) * ((0 : Int32) + (((in_1 &&& 255).toInt8.toInt32) &&& 255))) + (((in_2 &&& 255).toInt8.toInt32) &&& 255)))])) _
  exact own_retI X3303 hx Bd.notSynchronized Bd.returns (hb hby dd17_51) e3310 (by decide) (by decide) (⟨rfl, N3309, rfl⟩)
def own_Q61 (Z : State) (ob_2906 : Nat) (in_7 : Int32) (ob_2907 : Nat) (kk_2908 : ClassId) (in_1 : Int32) (in_2 : Int32) (h0 : Heap) (n0 : Nat) (v : Option Value) (h : Heap) (L : List Loc) : Prop := (v = some (.int (((31 : Int32) * ((0 : Int32) + (((in_1 &&& 255).toInt8.toInt32) &&& 255))) + (((in_2 &&& 255).toInt8.toInt32) &&& 255))) ∧ Fr n0 L ∧ Keep h0 h [ob_2906] ∧ Fld Z h ob_2906 cN1 "coder" "B" (.int 0) ∧ Exa Z h ob_2906 cN1 ∧ Fld Z h ob_2906 cN1 "value" "[B" (.ref ob_2907))
set_option maxRecDepth 65536 in
set_option maxHeartbeats 40000000 in
theorem own_rm61 (l : Launch) (Z : State) (a0 : Array Value) (hw : ∀ d ∈ tables_1, d.before a0 Z = true) (ws : List Jvm.Cond) (ob_2906 : Nat) (in_7 : Int32) (ob_2907 : Nat) (kk_2908 : ClassId) (in_1 : Int32) (in_2 : Int32) (h0 : Heap) (n0 : Nat) (Z0 : n0 ≤ h0.size) (O0 : Old Z n0 h0) (I3239 : Fld Z h0 ob_2906 cN1 "hash" "I" (.int 0)) (I3244 : Fld Z h0 ob_2906 cN1 "hashIsZero" "Z" (.int 0)) (I3249 : Sta Z Z.heap cN1 "COMPACT_STRINGS" "Z" (.int in_7)) (I3250 : ¬ (in_7 = 0)) (I3251 : Fld Z h0 ob_2906 cN1 "coder" "B" (.int 0)) (I3260 : Exa Z h0 ob_2906 cN1) (I3265 : Fld Z h0 ob_2906 cN1 "value" "[B" (.ref ob_2907)) (I3270 : Arv Z h0 ob_2907 kk_2908 .byte 2 [(.int ((in_1 &&& 255).toInt8.toInt32)), (.int ((in_2 &&& 255).toInt8.toInt32))] (.int 0)) (I3282 : Exa Z h0 ob_2907 "[B") (I3332 : n0 ≤ ob_2906) :
    own_Met l Z h0 mN16 jdk_42_method_78_code 2 (Option.some FieldType.int) ws ({ frames := 3, cells := 0, slots := 0, locals := 45 } : Room) #[(.ref ob_2906)] (own_Q61 Z ob_2906 in_7 ob_2907 kk_2908 in_1 in_2 h0 n0) 0 0 := by
  refine MetFree.of_bodySF own_pn16 hisR ?_
  intro p e s m args below meth c s₁ Bd hml0 hP hK
  obtain ⟨rfl, hZ, hh⟩ := hP
  have hx := Bd.exec
  have hby := Bd.bytes
  have hml : c.maxLocals = 2 := hml0
  have hown : s.vm.findClass cN1 = some m.cls := findClass_of_methodNamed Bd.named
  have hnm := (name_of_methodNamed Bd.named Bd.method).1
  have X0 : Stand p l e ({ frames := 3, cells := 0, slots := 0, locals := 45 } : Room) s m #[(.ref ob_2906)] below meth c s₁ [] 0 0 := Stand.of_body Bd
  have e0 : s₁.heap = h0 := by rw [← hh, Bd.state]; rfl
  have N0 := Fr.nil n0
  show own_G p e below (s₁.setTop (entryFrame m #[(.ref ob_2906)] 2)) (own_P s (own_Q61 Z ob_2906 in_7 ob_2907 kk_2908 in_1 in_2 h0 n0) 0 0)
  refine own_cast (own_ef9 m ob_2906) ?_
  show own_G p e below (s₁.setTop (mkF m 0 #[rv ob_2906, .unset] [])) _
  refine oS (fun _ => XS.aloadN X0.here hx rfl (hb hby dd15_0) rfl rfl) ?_
  obtain ⟨T3240, X3241, e3242, s3243⟩ := getF X0 hx hZ hown (host := "") (Or.inl (oW hw 94 rfl)) Via.refl e0 I3239 (g := (mkF m 1 #[rv ob_2906, .unset] [(.ref ob_2906)])) rfl rfl (hb hby dd15_1)
  refine oS s3243 ?_
  show own_G p e below (T3240.setTop (mkF m 4 #[rv ob_2906, .unset] [(.int 0)])) _
  refine oS (fun _ => XS.istoreN X3241.here hx rfl (hb hby dd15_4) rfl (l' := #[rv ob_2906, iv 0]) rfl) ?_
  refine oS (fun _ => XS.iloadN X3241.here hx rfl (hb hby dd15_5) rfl) ?_
  refine oS (fun _ => XS.ifNo X3241.here hx rfl (hb hby dd15_6) rfl (XT.i0_ne_f (by decide))) ?_
  show own_G p e below (T3240.setTop (mkF m 9 #[rv ob_2906, iv 0] [])) _
  refine oS (fun _ => XS.aloadN X3241.here hx rfl (hb hby dd15_9) rfl rfl) ?_
  obtain ⟨T3245, X3246, e3247, s3248⟩ := getF X3241 hx hZ hown (host := "") (Or.inl (oW hw 96 rfl)) Via.refl e3242 I3244 (g := (mkF m 10 #[rv ob_2906, iv 0] [(.ref ob_2906)])) rfl rfl (hb hby dd15_10)
  refine oS s3248 ?_
  show own_G p e below (T3245.setTop (mkF m 13 #[rv ob_2906, iv 0] [(.int 0)])) _
  refine oS (fun _ => XS.ifNo X3246.here hx rfl (hb hby dd15_13) rfl (XT.i0_ne_f (by decide))) ?_
  show own_G p e below (T3245.setTop (mkF m 16 #[rv ob_2906, iv 0] [])) _
  refine oS (fun _ => XS.aloadN X3246.here hx rfl (hb hby dd15_16) rfl rfl) ?_
  obtain ⟨T3252, h3253, v3254, L3255, X3256, e3257, q3258, s3259⟩ := own_callV X3246 hx hZ hown e3247 (y := mN14) (z := mN14) (C := cN1) (b := ob_2906) (oW hw 98 rfl) (oW hw 99 rfl) (notFace_of_selects (args := #[]) (mvT hZ (oW hw 101 rfl))) (oW hw 101 rfl) (oW hw 100 rfl) (oW hw 8 rfl) (oW hw 102 rfl) (by decide) I3260 (W := 0) (own_rm23 l Z a0 hw [] ob_2906 in_7 h0 n0 Z0 O0 I3249 I3250 I3251) (by decide) (by decide) (by decide) (by decide) (g := (mkF m 17 #[rv ob_2906, iv 0] [(.ref ob_2906)])) rfl (by rw [hml]; rfl) (argsL := []) (rest := []) rfl (lenOf own_pd7 rfl) rfl (by show 2 * 0 + _ ≤ _; exact Nat.le_of_eq rfl) (hb hby dd15_17)
  refine oS s3259 ?_
  obtain ⟨rfl, N3261, K3262⟩ := q3258
  have N3263 := Fr.app N0 N3261
  have e3264 := e3257.trans K3262
  show own_G p e below (T3252.setTop (mkF m 20 #[rv ob_2906, iv 0] [(.int 1)])) _
  refine oS (fun _ => XS.ifNo X3256.here hx rfl (hb hby dd15_20) rfl (XT.i0_eq_f (by decide))) ?_
  show own_G p e below (T3252.setTop (mkF m 23 #[rv ob_2906, iv 0] [])) _
  refine oS (fun _ => XS.aloadN X3256.here hx rfl (hb hby dd15_23) rfl rfl) ?_
  obtain ⟨T3266, X3267, e3268, s3269⟩ := getF X3256 hx hZ hown (host := "") (Or.inl (oW hw 33 rfl)) Via.refl e3264 I3265 (g := (mkF m 24 #[rv ob_2906, iv 0] [(.ref ob_2906)])) rfl rfl (hb hby dd15_24)
  refine oS s3269 ?_
  show own_G p e below (T3266.setTop (mkF m 27 #[rv ob_2906, iv 0] [(.ref ob_2907)])) _
  obtain ⟨T3311, h3312, v3313, L3314, X3315, e3316, q3317, s3318⟩ := own_callS X3267 hx hZ hown e3268 (y := mN15) (oW hw 103 rfl) (oW hw 104 rfl) (oW hw 68 rfl) (oW hw 105 rfl) (by decide) (W := 0) (own_rm62 l Z a0 hw [] ob_2907 kk_2908 in_1 in_2 h0 n0 Z0 O0 I3270 I3282) (by decide) (by decide) (by decide) (by decide) (g := (mkF m 27 #[rv ob_2906, iv 0] [(.ref ob_2907)])) rfl (by rw [hml]; rfl) (argsL := [(.ref ob_2907)]) (rest := []) rfl (lenOf own_pd13 rfl) rfl (by show 2 * 0 + _ ≤ _; exact Nat.le_of_eq rfl) (hb hby dd15_27)
  refine oS s3318 ?_
  obtain ⟨rfl, N3319, K3320⟩ := q3317
  have N3321 := Fr.app N3263 N3319
  have e3322 := e3316.trans K3320
  show own_G p e below (T3311.setTop (mkF m 30 #[rv ob_2906, iv 0] [(.int (((31 : Int32) * ((0 : Int32) + (((in_1 &&& 255).toInt8.toInt32) &&& 255))) + (((in_2 &&& 255).toInt8.toInt32) &&& 255)))])) _
  refine oS (fun _ => XS.goto X3315.here hx rfl (pc0 := 30) (pc' := 40) rfl (hb hby dd15_30) (by decide) (by decide)) ?_
  show own_G p e below (T3311.setTop (mkF m 40 #[rv ob_2906, iv 0] [(.int (((31 : Int32) * ((0 : Int32) + (((in_1 &&& 255).toInt8.toInt32) &&& 255))) + (((in_2 &&& 255).toInt8.toInt32) &&& 255)))])) _
  refine oS (fun _ => XS.istoreN X3315.here hx rfl (hb hby dd15_40) rfl (l' := #[rv ob_2906, iv (((31 : Int32) * ((0 : Int32) + (((in_1 &&& 255).toInt8.toInt32) &&& 255))) + (((in_2 &&& 255).toInt8.toInt32) &&& 255))]) rfl) ?_
  refine oS (fun _ => XS.iloadN X3315.here hx rfl (hb hby dd15_41) rfl) ?_
  by_cases b3323 : (((31 : Int32) * ((0 : Int32) + (((in_1 &&& 255).toInt8.toInt32) &&& 255))) + (((in_2 &&& 255).toInt8.toInt32) &&& 255)) = 0
  · skip
    refine oS (fun _ => XS.ifNo X3315.here hx rfl (hb hby dd15_42) rfl (XT.i0_ne_f b3323)) ?_
    show own_G p e below (T3311.setTop (mkF m 45 #[rv ob_2906, iv (((31 : Int32) * ((0 : Int32) + (((in_1 &&& 255).toInt8.toInt32) &&& 255))) + (((in_2 &&& 255).toInt8.toInt32) &&& 255))] [])) _
    refine oS (fun _ => XS.aloadN X3315.here hx rfl (hb hby dd15_45) rfl rfl) ?_
    refine oS (fun _ => XS.iconst X3315.here hx rfl (hb hby dd15_46) ) ?_
    obtain ⟨T3324, h3325, X3326, e3327, W3328, s3329⟩ := putF X3315 hx hZ hown (host := "") (Or.inl (oW hw 96 rfl)) Via.refl e3322 I3244 I3260 (Or.inl (oW hw 97 rfl)) (oW hw 7 rfl) (ty := .boolean) (by decide) (by decide) (by decide) (g := (mkF m 47 #[rv ob_2906, iv (((31 : Int32) * ((0 : Int32) + (((in_1 &&& 255).toInt8.toInt32) &&& 255))) + (((in_2 &&& 255).toInt8.toInt32) &&& 255))] [(.int 1), (.ref ob_2906)])) rfl rfl (hb hby dd15_47)
    have N3330 := Fr.snoc X3326 N3321 I3332
    have z3333 := W3328.size
    have F3334 : Fld Z h3325 ob_2906 cN1 "hashIsZero" "Z" (.int 1) := Fld.same W3328 I3244
    refine oS s3329 ?_
    show own_G p e below (T3324.setTop (mkF m 50 #[rv ob_2906, iv (((31 : Int32) * ((0 : Int32) + (((in_1 &&& 255).toInt8.toInt32) &&& 255))) + (((in_2 &&& 255).toInt8.toInt32) &&& 255))] [])) _
    refine oS (fun _ => XS.goto X3326.here hx rfl (pc0 := 50) (pc' := 58) rfl (hb hby dd15_50) (by decide) (by decide)) ?_
    show own_G p e below (T3324.setTop (mkF m 58 #[rv ob_2906, iv (((31 : Int32) * ((0 : Int32) + (((in_1 &&& 255).toInt8.toInt32) &&& 255))) + (((in_2 &&& 255).toInt8.toInt32) &&& 255))] [])) _
    refine oS (fun _ => XS.iloadN X3326.here hx rfl (hb hby dd15_58) rfl) ?_
    have F3335 : Fld Z h3325 ob_2906 cN1 "coder" "B" (.int 0) := Fld.other W3328 I3251 (Or.inr (slot_ne (C := cN1) (Or.inr (oW hw 32 rfl)) (Or.inl (oW hw 97 rfl)) (by decide) (t := .byte) (t' := .boolean) (by decide) (by decide)))
    have F3336 : Exa Z h3325 ob_2906 cN1 := Exa.wr W3328 I3260
    have F3337 : Fld Z h3325 ob_2906 cN1 "value" "[B" (.ref ob_2907) := Fld.other W3328 I3265 (Or.inr (slot_ne (C := cN1) (Or.inr (oW hw 34 rfl)) (Or.inl (oW hw 97 rfl)) (by decide) (t := (.array .byte)) (t' := .boolean) (by decide) (by decide)))
    have K3338 : Keep h0 h3325 [ob_2906] := ((Keep.refl h0 [ob_2906]).wr W3328 (Or.inl (by simp)))
    exact own_retI X3326 hx Bd.notSynchronized Bd.returns (hb hby dd15_59) e3327 (by decide) (by decide) (⟨rfl, N3330, K3338, F3335, F3336, F3337⟩)
  · skip
    refine oS (fun _ => XS.ifYes X3315.here hx rfl (pc0 := 42) (pc' := 53) rfl (hb hby dd15_42) rfl (XT.i0_ne_t b3323) (by decide) (by decide)) ?_
    show own_G p e below (T3311.setTop (mkF m 53 #[rv ob_2906, iv (((31 : Int32) * ((0 : Int32) + (((in_1 &&& 255).toInt8.toInt32) &&& 255))) + (((in_2 &&& 255).toInt8.toInt32) &&& 255))] [])) _
    refine oS (fun _ => XS.aloadN X3315.here hx rfl (hb hby dd15_53) rfl rfl) ?_
    refine oS (fun _ => XS.iloadN X3315.here hx rfl (hb hby dd15_54) rfl) ?_
    obtain ⟨T3339, h3340, X3341, e3342, W3343, s3344⟩ := putF X3315 hx hZ hown (host := "") (Or.inl (oW hw 94 rfl)) Via.refl e3322 I3239 I3260 (Or.inl (oW hw 95 rfl)) (oW hw 7 rfl) (ty := .int) (by decide) rfl rfl (g := (mkF m 55 #[rv ob_2906, iv (((31 : Int32) * ((0 : Int32) + (((in_1 &&& 255).toInt8.toInt32) &&& 255))) + (((in_2 &&& 255).toInt8.toInt32) &&& 255))] [(.int (((31 : Int32) * ((0 : Int32) + (((in_1 &&& 255).toInt8.toInt32) &&& 255))) + (((in_2 &&& 255).toInt8.toInt32) &&& 255))), (.ref ob_2906)])) rfl rfl (hb hby dd15_55)
    have N3345 := Fr.snoc X3341 N3321 I3332
    have z3346 := W3343.size
    have F3347 : Fld Z h3340 ob_2906 cN1 "hash" "I" (.int (((31 : Int32) * ((0 : Int32) + (((in_1 &&& 255).toInt8.toInt32) &&& 255))) + (((in_2 &&& 255).toInt8.toInt32) &&& 255))) := Fld.same W3343 I3239
    refine oS s3344 ?_
    show own_G p e below (T3339.setTop (mkF m 58 #[rv ob_2906, iv (((31 : Int32) * ((0 : Int32) + (((in_1 &&& 255).toInt8.toInt32) &&& 255))) + (((in_2 &&& 255).toInt8.toInt32) &&& 255))] [])) _
    refine oS (fun _ => XS.iloadN X3341.here hx rfl (hb hby dd15_58) rfl) ?_
    have F3348 : Fld Z h3340 ob_2906 cN1 "coder" "B" (.int 0) := Fld.other W3343 I3251 (Or.inr (slot_ne (C := cN1) (Or.inr (oW hw 32 rfl)) (Or.inl (oW hw 95 rfl)) (by decide) (t := .byte) (t' := .int) (by decide) (by decide)))
    have F3349 : Exa Z h3340 ob_2906 cN1 := Exa.wr W3343 I3260
    have F3350 : Fld Z h3340 ob_2906 cN1 "value" "[B" (.ref ob_2907) := Fld.other W3343 I3265 (Or.inr (slot_ne (C := cN1) (Or.inr (oW hw 34 rfl)) (Or.inl (oW hw 95 rfl)) (by decide) (t := (.array .byte)) (t' := .int) (by decide) (by decide)))
    have K3351 : Keep h0 h3340 [ob_2906] := ((Keep.refl h0 [ob_2906]).wr W3343 (Or.inl (by simp)))
    exact own_retI X3341 hx Bd.notSynchronized Bd.returns (hb hby dd15_59) e3342 (by decide) (by decide) (⟨rfl, N3345, K3351, F3348, F3349, F3350⟩)
def own_Q60 (Z : State) (ob_2968 : Nat) (ob_2906 : Nat) (in_7 : Int32) (ob_2907 : Nat) (kk_2908 : ClassId) (in_1 : Int32) (in_2 : Int32) (h0 : Heap) (n0 : Nat) (v : Option Value) (h : Heap) (L : List Loc) : Prop := (v = some (.int (((31 : Int32) * ((0 : Int32) + (((in_1 &&& 255).toInt8.toInt32) &&& 255))) + (((in_2 &&& 255).toInt8.toInt32) &&& 255))) ∧ Fr n0 L ∧ Keep h0 h [ob_2906] ∧ Fld Z h ob_2906 cN1 "coder" "B" (.int 0) ∧ Exa Z h ob_2906 cN1 ∧ Fld Z h ob_2906 cN1 "value" "[B" (.ref ob_2907))
set_option maxRecDepth 65536 in
set_option maxHeartbeats 40000000 in
theorem own_rm60 (l : Launch) (Z : State) (a0 : Array Value) (hw : ∀ d ∈ tables_1, d.before a0 Z = true) (ws : List Jvm.Cond) (ob_2968 : Nat) (ob_2906 : Nat) (in_7 : Int32) (ob_2907 : Nat) (kk_2908 : ClassId) (in_1 : Int32) (in_2 : Int32) (h0 : Heap) (n0 : Nat) (Z0 : n0 ≤ h0.size) (O0 : Old Z n0 h0) (I3226 : Fld Z h0 ob_2968 cN4 "name" cN5 (.ref ob_2906)) (I3231 : Fld Z h0 ob_2906 cN1 "hash" "I" (.int 0)) (I3232 : Fld Z h0 ob_2906 cN1 "hashIsZero" "Z" (.int 0)) (I3233 : Sta Z Z.heap cN1 "COMPACT_STRINGS" "Z" (.int in_7)) (I3234 : ¬ (in_7 = 0)) (I3235 : Fld Z h0 ob_2906 cN1 "coder" "B" (.int 0)) (I3236 : Exa Z h0 ob_2906 cN1) (I3237 : Fld Z h0 ob_2906 cN1 "value" "[B" (.ref ob_2907)) (I3238 : Arv Z h0 ob_2907 kk_2908 .byte 2 [(.int ((in_1 &&& 255).toInt8.toInt32)), (.int ((in_2 &&& 255).toInt8.toInt32))] (.int 0)) (I3281 : Exa Z h0 ob_2907 "[B") (I3331 : n0 ≤ ob_2906) :
    own_Met l Z h0 mN17 prog_11_method_5_code 1 (Option.some FieldType.int) ws ({ frames := 4, cells := 0, slots := 0, locals := 58 } : Room) #[(.ref ob_2968)] (own_Q60 Z ob_2968 ob_2906 in_7 ob_2907 kk_2908 in_1 in_2 h0 n0) 0 0 := by
  refine MetFree.of_bodySF own_pn17 hisR ?_
  intro p e s m args below meth c s₁ Bd hml0 hP hK
  obtain ⟨rfl, hZ, hh⟩ := hP
  have hx := Bd.exec
  have hby := Bd.bytes
  have hml : c.maxLocals = 1 := hml0
  have hown : s.vm.findClass cN4 = some m.cls := findClass_of_methodNamed Bd.named
  have hnm := (name_of_methodNamed Bd.named Bd.method).1
  have X0 : Stand p l e ({ frames := 4, cells := 0, slots := 0, locals := 58 } : Room) s m #[(.ref ob_2968)] below meth c s₁ [] 0 0 := Stand.of_body Bd
  have e0 : s₁.heap = h0 := by rw [← hh, Bd.state]; rfl
  have N0 := Fr.nil n0
  show own_G p e below (s₁.setTop (entryFrame m #[(.ref ob_2968)] 1)) (own_P s (own_Q60 Z ob_2968 ob_2906 in_7 ob_2907 kk_2908 in_1 in_2 h0 n0) 0 0)
  refine own_cast (own_ef7 m ob_2968) ?_
  show own_G p e below (s₁.setTop (mkF m 0 #[rv ob_2968] [])) _
  refine oS (fun _ => XS.aloadN X0.here hx rfl (hb hby dd14_0) rfl rfl) ?_
  obtain ⟨T3227, X3228, e3229, s3230⟩ := getF X0 hx hZ hown (host := "") (Or.inl (oW hw 58 rfl)) Via.refl e0 I3226 (g := (mkF m 1 #[rv ob_2968] [(.ref ob_2968)])) rfl rfl (hb hby dd14_1)
  refine oS s3230 ?_
  show own_G p e below (T3227.setTop (mkF m 4 #[rv ob_2968] [(.ref ob_2906)])) _
  obtain ⟨T3352, h3353, v3354, L3355, X3356, e3357, q3358, s3359⟩ := own_callV X3228 hx hZ hown e3229 (y := mN16) (z := mN16) (C := cN1) (b := ob_2906) (oW hw 89 rfl) (oW hw 90 rfl) (notFace_of_selects (args := #[]) (mvT hZ (oW hw 92 rfl))) (oW hw 92 rfl) (oW hw 91 rfl) (oW hw 8 rfl) (oW hw 93 rfl) (by decide) I3236 (W := 0) (own_rm61 l Z a0 hw [] ob_2906 in_7 ob_2907 kk_2908 in_1 in_2 h0 n0 Z0 O0 I3231 I3232 I3233 I3234 I3235 I3236 I3237 I3238 I3281 I3331) (by decide) (by decide) (by decide) (by decide) (g := (mkF m 4 #[rv ob_2968] [(.ref ob_2906)])) rfl (by rw [hml]; rfl) (argsL := []) (rest := []) rfl (lenOf own_pd14 rfl) rfl (by show 2 * 0 + _ ≤ _; exact Nat.le_of_eq rfl) (hb hby dd14_4)
  refine oS s3359 ?_
  obtain ⟨rfl, N3360, K3361, F3362, F3363, F3364⟩ := q3358
  have N3365 := Fr.app N0 N3360
  have z3366 := K3361.1
  show own_G p e below (T3352.setTop (mkF m 7 #[rv ob_2968] [(.int (((31 : Int32) * ((0 : Int32) + (((in_1 &&& 255).toInt8.toInt32) &&& 255))) + (((in_2 &&& 255).toInt8.toInt32) &&& 255)))])) _
  have K3367 : Keep h0 h3353 [ob_2906] := ((Keep.refl h0 [ob_2906]).trans K3361 (allS (Or.inl (by simp)) all0))
  exact own_retI X3356 hx Bd.notSynchronized Bd.returns (hb hby dd14_7) e3357 (by decide) (by decide) (⟨rfl, N3365, K3367, F3362, F3363, F3364⟩)
def own_Q66 (Z : State) (ob_3431 : Nat) (ob_3460 : Nat) (kk_3432 : ClassId) (in_1 : Int32) (in_2 : Int32) (kk_3461 : ClassId) (in_4 : Int32) (h0 : Heap) (n0 : Nat) (v : Option Value) (h : Heap) (L : List Loc) : Prop := (v = some (.int 0) ∧ Fr n0 L ∧ h = h0)
set_option maxRecDepth 65536 in
set_option maxHeartbeats 40000000 in
theorem own_rm66 (l : Launch) (Z : State) (a0 : Array Value) (hw : ∀ d ∈ tables_1, d.before a0 Z = true) (ws : List Jvm.Cond) (ob_3431 : Nat) (ob_3460 : Nat) (kk_3432 : ClassId) (in_1 : Int32) (in_2 : Int32) (kk_3461 : ClassId) (in_4 : Int32) (h0 : Heap) (n0 : Nat) (Z0 : n0 ≤ h0.size) (O0 : Old Z n0 h0) (I3580 : Arv Z h0 ob_3431 kk_3432 .byte 2 [(.int ((in_1 &&& 255).toInt8.toInt32)), (.int ((in_2 &&& 255).toInt8.toInt32))] (.int 0)) (I3581 : Arv Z h0 ob_3460 kk_3461 .byte 3 [(.int ((in_1 &&& 255).toInt8.toInt32)), (.int ((in_2 &&& 255).toInt8.toInt32)), (.int ((in_4 &&& 255).toInt8.toInt32))] (.int 0)) :
    own_Met l Z h0 mN10 jdk_43_method_13_code 3 (Option.some FieldType.boolean) ws ({ frames := 0, cells := 0, slots := 0, locals := 0 } : Room) #[(.ref ob_3431), (.ref ob_3460)] (own_Q66 Z ob_3431 ob_3460 kk_3432 in_1 in_2 kk_3461 in_4 h0 n0) 0 0 := by
  refine MetFree.of_bodySF own_pn10 hisR ?_
  intro p e s m args below meth c s₁ Bd hml0 hP hK
  obtain ⟨rfl, hZ, hh⟩ := hP
  have hx := Bd.exec
  have hby := Bd.bytes
  have hml : c.maxLocals = 3 := hml0
  have hown : s.vm.findClass cN6 = some m.cls := findClass_of_methodNamed Bd.named
  have hnm := (name_of_methodNamed Bd.named Bd.method).1
  have X0 : Stand p l e ({ frames := 0, cells := 0, slots := 0, locals := 0 } : Room) s m #[(.ref ob_3431), (.ref ob_3460)] below meth c s₁ [] 0 0 := Stand.of_body Bd
  have e0 : s₁.heap = h0 := by rw [← hh, Bd.state]; rfl
  have N0 := Fr.nil n0
  show own_G p e below (s₁.setTop (entryFrame m #[(.ref ob_3431), (.ref ob_3460)] 3)) (own_P s (own_Q66 Z ob_3431 ob_3460 kk_3432 in_1 in_2 kk_3461 in_4 h0 n0) 0 0)
  refine own_cast (own_ef8 m ob_3431 ob_3460) ?_
  show own_G p e below (s₁.setTop (mkF m 0 #[rv ob_3431, rv ob_3460, .unset] [])) _
  refine oS (fun _ => XS.aloadN X0.here hx rfl (hb hby dd11_0) rfl rfl) ?_
  refine oS (own_len X0 hx hZ e0 I3580 rfl rfl (hb hby dd11_1)) ?_
  show own_G p e below (s₁.setTop (mkF m 2 #[rv ob_3431, rv ob_3460, .unset] [(.int 2)])) _
  refine oS (fun _ => XS.aloadN X0.here hx rfl (hb hby dd11_2) rfl rfl) ?_
  refine oS (own_len X0 hx hZ e0 I3581 rfl rfl (hb hby dd11_3)) ?_
  show own_G p e below (s₁.setTop (mkF m 4 #[rv ob_3431, rv ob_3460, .unset] [(.int 3), (.int 2)])) _
  refine oS (fun _ => XS.icmpYes X0.here hx rfl (pc0 := 4) (pc' := 34) rfl (hb hby dd11_4) rfl (XT.ii_ne_t (by decide)) (by decide) (by decide)) ?_
  show own_G p e below (s₁.setTop (mkF m 34 #[rv ob_3431, rv ob_3460, .unset] [])) _
  refine oS (fun _ => XS.iconst X0.here hx rfl (hb hby dd11_34) ) ?_
  exact own_retN X0 hx (t := .boolean) Bd.notSynchronized Bd.returns (by simp) (hb hby dd11_35) (by decide) e0 (by decide) (by decide) (⟨rfl, N0, rfl⟩)
def own_Q65 (Z : State) (ob_3430 : Nat) (ob_3459 : Nat) (in_7 : Int32) (ob_3431 : Nat) (ob_3460 : Nat) (kk_3432 : ClassId) (in_1 : Int32) (in_2 : Int32) (kk_3461 : ClassId) (in_4 : Int32) (h0 : Heap) (n0 : Nat) (v : Option Value) (h : Heap) (L : List Loc) : Prop := (v = some (.int 0) ∧ Fr n0 L ∧ h = h0)
set_option maxRecDepth 65536 in
set_option maxHeartbeats 40000000 in
theorem own_rm65 (l : Launch) (Z : State) (a0 : Array Value) (hw : ∀ d ∈ tables_1, d.before a0 Z = true) (ws : List Jvm.Cond) (ob_3430 : Nat) (ob_3459 : Nat) (in_7 : Int32) (ob_3431 : Nat) (ob_3460 : Nat) (kk_3432 : ClassId) (in_1 : Int32) (in_2 : Int32) (kk_3461 : ClassId) (in_4 : Int32) (h0 : Heap) (n0 : Nat) (Z0 : n0 ≤ h0.size) (O0 : Old Z n0 h0) (I3541 : @Ne Nat ob_3430 ob_3459) (I3546 : Exa Z h0 ob_3459 cN1) (I3551 : Sta Z Z.heap cN1 "COMPACT_STRINGS" "Z" (.int in_7)) (I3557 : ¬ (in_7 = 0)) (I3558 : Fld Z h0 ob_3430 cN1 "coder" "B" (.int 0)) (I3563 : Fld Z h0 ob_3459 cN1 "coder" "B" (.int 0)) (I3568 : Fld Z h0 ob_3430 cN1 "value" "[B" (.ref ob_3431)) (I3573 : Fld Z h0 ob_3459 cN1 "value" "[B" (.ref ob_3460)) (I3578 : Arv Z h0 ob_3431 kk_3432 .byte 2 [(.int ((in_1 &&& 255).toInt8.toInt32)), (.int ((in_2 &&& 255).toInt8.toInt32))] (.int 0)) (I3579 : Arv Z h0 ob_3460 kk_3461 .byte 3 [(.int ((in_1 &&& 255).toInt8.toInt32)), (.int ((in_2 &&& 255).toInt8.toInt32)), (.int ((in_4 &&& 255).toInt8.toInt32))] (.int 0)) :
    own_Met l Z h0 mN11 jdk_42_method_66_code 3 (Option.some FieldType.boolean) ws ({ frames := 1, cells := 0, slots := 0, locals := 14 } : Room) #[(.ref ob_3430), (.ref ob_3459)] (own_Q65 Z ob_3430 ob_3459 in_7 ob_3431 ob_3460 kk_3432 in_1 in_2 kk_3461 in_4 h0 n0) 0 0 := by
  refine MetFree.of_bodySF own_pn11 hisR ?_
  intro p e s m args below meth c s₁ Bd hml0 hP hK
  obtain ⟨rfl, hZ, hh⟩ := hP
  have hx := Bd.exec
  have hby := Bd.bytes
  have hml : c.maxLocals = 3 := hml0
  have hown : s.vm.findClass cN1 = some m.cls := findClass_of_methodNamed Bd.named
  have hnm := (name_of_methodNamed Bd.named Bd.method).1
  have X0 : Stand p l e ({ frames := 1, cells := 0, slots := 0, locals := 14 } : Room) s m #[(.ref ob_3430), (.ref ob_3459)] below meth c s₁ [] 0 0 := Stand.of_body Bd
  have e0 : s₁.heap = h0 := by rw [← hh, Bd.state]; rfl
  have N0 := Fr.nil n0
  show own_G p e below (s₁.setTop (entryFrame m #[(.ref ob_3430), (.ref ob_3459)] 3)) (own_P s (own_Q65 Z ob_3430 ob_3459 in_7 ob_3431 ob_3460 kk_3432 in_1 in_2 kk_3461 in_4 h0 n0) 0 0)
  refine own_cast (own_ef8 m ob_3430 ob_3459) ?_
  show own_G p e below (s₁.setTop (mkF m 0 #[rv ob_3430, rv ob_3459, .unset] [])) _
  refine oS (fun _ => XS.aloadN X0.here hx rfl (hb hby dd10_0) rfl rfl) ?_
  refine oS (fun _ => XS.aloadN X0.here hx rfl (hb hby dd10_1) rfl rfl) ?_
  refine oS (fun _ => XT.acmpYes X0.here hx rfl (pc0 := 2) (pc' := 7) rfl (hb hby dd10_2) rfl rfl rfl (XT.aa_ne_t (own_rne I3541)) (by decide) (by decide)) ?_
  show own_G p e below (s₁.setTop (mkF m 7 #[rv ob_3430, rv ob_3459, .unset] [])) _
  refine oS (fun _ => XS.aloadN X0.here hx rfl (hb hby dd10_7) rfl rfl) ?_
  obtain ⟨T3542, X3543, e3544, s3545⟩ := instY X0 hx hZ hown (oW hw 65 rfl) e0 (Ins.self I3546) (g := (mkF m 8 #[rv ob_3430, rv ob_3459, .unset] [(.ref ob_3459)])) rfl rfl (hb hby dd10_8)
  refine oS s3545 ?_
  show own_G p e below (T3542.setTop (mkF m 11 #[rv ob_3430, rv ob_3459, .unset] [(.int 1)])) _
  refine oS (fun _ => XS.ifNo X3543.here hx rfl (hb hby dd10_11) rfl (XT.i0_eq_f (by decide))) ?_
  show own_G p e below (T3542.setTop (mkF m 14 #[rv ob_3430, rv ob_3459, .unset] [])) _
  refine oS (fun _ => XS.aloadN X3543.here hx rfl (hb hby dd10_14) rfl rfl) ?_
  obtain ⟨T3547, X3548, e3549, s3550⟩ := castY X3543 hx hZ hown (oW hw 65 rfl) e3544 (Ins.self I3546) (g := (mkF m 15 #[rv ob_3430, rv ob_3459, .unset] [(.ref ob_3459)])) rfl rfl (hb hby dd10_15)
  refine oS s3550 ?_
  show own_G p e below (T3547.setTop (mkF m 18 #[rv ob_3430, rv ob_3459, .unset] [(.ref ob_3459)])) _
  refine oS (fun _ => XS.astoreN X3548.here hx rfl (hb hby dd10_18) rfl rfl (l' := #[rv ob_3430, rv ob_3459, rv ob_3459]) rfl) ?_
  have F3552 : Sta Z h0 cN1 "COMPACT_STRINGS" "Z" (.int in_7) := Sta.ext O0.2 I3551
  obtain ⟨T3553, X3554, e3555, s3556⟩ := getS X3548 hx hZ hown (host := "") (oW hw 19 rfl) Via.refl e3549 F3552 (g := (mkF m 19 #[rv ob_3430, rv ob_3459, rv ob_3459] [])) rfl (hb hby dd10_19)
  refine oS s3556 ?_
  show own_G p e below (T3553.setTop (mkF m 22 #[rv ob_3430, rv ob_3459, rv ob_3459] [(.int in_7)])) _
  refine oS (fun _ => XS.ifNo X3554.here hx rfl (hb hby dd10_22) rfl (XT.i0_eq_f I3557)) ?_
  show own_G p e below (T3553.setTop (mkF m 25 #[rv ob_3430, rv ob_3459, rv ob_3459] [])) _
  refine oS (fun _ => XS.aloadN X3554.here hx rfl (hb hby dd10_25) rfl rfl) ?_
  obtain ⟨T3559, X3560, e3561, s3562⟩ := getF X3554 hx hZ hown (host := "") (Or.inl (oW hw 31 rfl)) Via.refl e3555 I3558 (g := (mkF m 26 #[rv ob_3430, rv ob_3459, rv ob_3459] [(.ref ob_3430)])) rfl rfl (hb hby dd10_26)
  refine oS s3562 ?_
  show own_G p e below (T3559.setTop (mkF m 29 #[rv ob_3430, rv ob_3459, rv ob_3459] [(.int 0)])) _
  refine oS (fun _ => XS.aloadN X3560.here hx rfl (hb hby dd10_29) rfl rfl) ?_
  obtain ⟨T3564, X3565, e3566, s3567⟩ := getF X3560 hx hZ hown (host := "") (Or.inl (oW hw 31 rfl)) Via.refl e3561 I3563 (g := (mkF m 30 #[rv ob_3430, rv ob_3459, rv ob_3459] [(.ref ob_3459), (.int 0)])) rfl rfl (hb hby dd10_30)
  refine oS s3567 ?_
  show own_G p e below (T3564.setTop (mkF m 33 #[rv ob_3430, rv ob_3459, rv ob_3459] [(.int 0), (.int 0)])) _
  refine oS (fun _ => XS.icmpNo X3565.here hx rfl (hb hby dd10_33) rfl (XT.ii_ne_f (by decide))) ?_
  show own_G p e below (T3564.setTop (mkF m 36 #[rv ob_3430, rv ob_3459, rv ob_3459] [])) _
  refine oS (fun _ => XS.aloadN X3565.here hx rfl (hb hby dd10_36) rfl rfl) ?_
  obtain ⟨T3569, X3570, e3571, s3572⟩ := getF X3565 hx hZ hown (host := "") (Or.inl (oW hw 33 rfl)) Via.refl e3566 I3568 (g := (mkF m 37 #[rv ob_3430, rv ob_3459, rv ob_3459] [(.ref ob_3430)])) rfl rfl (hb hby dd10_37)
  refine oS s3572 ?_
  show own_G p e below (T3569.setTop (mkF m 40 #[rv ob_3430, rv ob_3459, rv ob_3459] [(.ref ob_3431)])) _
  refine oS (fun _ => XS.aloadN X3570.here hx rfl (hb hby dd10_40) rfl rfl) ?_
  obtain ⟨T3574, X3575, e3576, s3577⟩ := getF X3570 hx hZ hown (host := "") (Or.inl (oW hw 33 rfl)) Via.refl e3571 I3573 (g := (mkF m 41 #[rv ob_3430, rv ob_3459, rv ob_3459] [(.ref ob_3459), (.ref ob_3431)])) rfl rfl (hb hby dd10_41)
  refine oS s3577 ?_
  show own_G p e below (T3574.setTop (mkF m 44 #[rv ob_3430, rv ob_3459, rv ob_3459] [(.ref ob_3460), (.ref ob_3431)])) _
  obtain ⟨T3582, h3583, v3584, L3585, X3586, e3587, q3588, s3589⟩ := own_callS X3575 hx hZ hown e3576 (y := mN10) (oW hw 66 rfl) (oW hw 67 rfl) (oW hw 68 rfl) (oW hw 69 rfl) (by decide) (W := 0) (own_rm66 l Z a0 hw [] ob_3431 ob_3460 kk_3432 in_1 in_2 kk_3461 in_4 h0 n0 Z0 O0 I3578 I3579) (by decide) (by decide) (by decide) (by decide) (g := (mkF m 44 #[rv ob_3430, rv ob_3459, rv ob_3459] [(.ref ob_3460), (.ref ob_3431)])) rfl (by rw [hml]; rfl) (argsL := [(.ref ob_3431), (.ref ob_3460)]) (rest := []) rfl (lenOf own_pd10 rfl) rfl (by show 2 * 0 + _ ≤ _; exact Nat.le_of_eq rfl) (hb hby dd10_44)
  refine oS s3589 ?_
  obtain ⟨rfl, N3590, K3591⟩ := q3588
  have N3592 := Fr.app N0 N3590
  have e3593 := e3587.trans K3591
  show own_G p e below (T3582.setTop (mkF m 47 #[rv ob_3430, rv ob_3459, rv ob_3459] [(.int 0)])) _
  refine oS (fun _ => XS.ifYes X3586.here hx rfl (pc0 := 47) (pc' := 54) rfl (hb hby dd10_47) rfl (XT.i0_eq_t (by decide)) (by decide) (by decide)) ?_
  show own_G p e below (T3582.setTop (mkF m 54 #[rv ob_3430, rv ob_3459, rv ob_3459] [])) _
  refine oS (fun _ => XS.iconst X3586.here hx rfl (hb hby dd10_54) ) ?_
  exact own_retN X3586 hx (t := .boolean) Bd.notSynchronized Bd.returns (by simp) (hb hby dd10_55) (by decide) e3593 (by decide) (by decide) (⟨rfl, N3592, rfl⟩)
def own_Q69 (Z : State) (ob_3460 : Nat) (ob_3431 : Nat) (kk_3461 : ClassId) (in_1 : Int32) (in_2 : Int32) (in_4 : Int32) (kk_3432 : ClassId) (h0 : Heap) (n0 : Nat) (v : Option Value) (h : Heap) (L : List Loc) : Prop := (v = some (.int 0) ∧ Fr n0 L ∧ h = h0)
set_option maxRecDepth 65536 in
set_option maxHeartbeats 40000000 in
theorem own_rm69 (l : Launch) (Z : State) (a0 : Array Value) (hw : ∀ d ∈ tables_1, d.before a0 Z = true) (ws : List Jvm.Cond) (ob_3460 : Nat) (ob_3431 : Nat) (kk_3461 : ClassId) (in_1 : Int32) (in_2 : Int32) (in_4 : Int32) (kk_3432 : ClassId) (h0 : Heap) (n0 : Nat) (Z0 : n0 ≤ h0.size) (O0 : Old Z n0 h0) (I3758 : Arv Z h0 ob_3460 kk_3461 .byte 3 [(.int ((in_1 &&& 255).toInt8.toInt32)), (.int ((in_2 &&& 255).toInt8.toInt32)), (.int ((in_4 &&& 255).toInt8.toInt32))] (.int 0)) (I3759 : Arv Z h0 ob_3431 kk_3432 .byte 2 [(.int ((in_1 &&& 255).toInt8.toInt32)), (.int ((in_2 &&& 255).toInt8.toInt32))] (.int 0)) :
    own_Met l Z h0 mN10 jdk_43_method_13_code 3 (Option.some FieldType.boolean) ws ({ frames := 0, cells := 0, slots := 0, locals := 0 } : Room) #[(.ref ob_3460), (.ref ob_3431)] (own_Q69 Z ob_3460 ob_3431 kk_3461 in_1 in_2 in_4 kk_3432 h0 n0) 0 0 := by
  refine MetFree.of_bodySF own_pn10 hisR ?_
  intro p e s m args below meth c s₁ Bd hml0 hP hK
  obtain ⟨rfl, hZ, hh⟩ := hP
  have hx := Bd.exec
  have hby := Bd.bytes
  have hml : c.maxLocals = 3 := hml0
  have hown : s.vm.findClass cN6 = some m.cls := findClass_of_methodNamed Bd.named
  have hnm := (name_of_methodNamed Bd.named Bd.method).1
  have X0 : Stand p l e ({ frames := 0, cells := 0, slots := 0, locals := 0 } : Room) s m #[(.ref ob_3460), (.ref ob_3431)] below meth c s₁ [] 0 0 := Stand.of_body Bd
  have e0 : s₁.heap = h0 := by rw [← hh, Bd.state]; rfl
  have N0 := Fr.nil n0
  show own_G p e below (s₁.setTop (entryFrame m #[(.ref ob_3460), (.ref ob_3431)] 3)) (own_P s (own_Q69 Z ob_3460 ob_3431 kk_3461 in_1 in_2 in_4 kk_3432 h0 n0) 0 0)
  refine own_cast (own_ef8 m ob_3460 ob_3431) ?_
  show own_G p e below (s₁.setTop (mkF m 0 #[rv ob_3460, rv ob_3431, .unset] [])) _
  refine oS (fun _ => XS.aloadN X0.here hx rfl (hb hby dd11_0) rfl rfl) ?_
  refine oS (own_len X0 hx hZ e0 I3758 rfl rfl (hb hby dd11_1)) ?_
  show own_G p e below (s₁.setTop (mkF m 2 #[rv ob_3460, rv ob_3431, .unset] [(.int 3)])) _
  refine oS (fun _ => XS.aloadN X0.here hx rfl (hb hby dd11_2) rfl rfl) ?_
  refine oS (own_len X0 hx hZ e0 I3759 rfl rfl (hb hby dd11_3)) ?_
  show own_G p e below (s₁.setTop (mkF m 4 #[rv ob_3460, rv ob_3431, .unset] [(.int 2), (.int 3)])) _
  refine oS (fun _ => XS.icmpYes X0.here hx rfl (pc0 := 4) (pc' := 34) rfl (hb hby dd11_4) rfl (XT.ii_ne_t (by decide)) (by decide) (by decide)) ?_
  show own_G p e below (s₁.setTop (mkF m 34 #[rv ob_3460, rv ob_3431, .unset] [])) _
  refine oS (fun _ => XS.iconst X0.here hx rfl (hb hby dd11_34) ) ?_
  exact own_retN X0 hx (t := .boolean) Bd.notSynchronized Bd.returns (by simp) (hb hby dd11_35) (by decide) e0 (by decide) (by decide) (⟨rfl, N0, rfl⟩)
def own_Q68 (Z : State) (ob_3459 : Nat) (ob_3430 : Nat) (in_7 : Int32) (ob_3460 : Nat) (ob_3431 : Nat) (kk_3461 : ClassId) (in_1 : Int32) (in_2 : Int32) (in_4 : Int32) (kk_3432 : ClassId) (h0 : Heap) (n0 : Nat) (v : Option Value) (h : Heap) (L : List Loc) : Prop := (v = some (.int 0) ∧ Fr n0 L ∧ h = h0)
set_option maxRecDepth 65536 in
set_option maxHeartbeats 40000000 in
theorem own_rm68 (l : Launch) (Z : State) (a0 : Array Value) (hw : ∀ d ∈ tables_1, d.before a0 Z = true) (ws : List Jvm.Cond) (ob_3459 : Nat) (ob_3430 : Nat) (in_7 : Int32) (ob_3460 : Nat) (ob_3431 : Nat) (kk_3461 : ClassId) (in_1 : Int32) (in_2 : Int32) (in_4 : Int32) (kk_3432 : ClassId) (h0 : Heap) (n0 : Nat) (Z0 : n0 ≤ h0.size) (O0 : Old Z n0 h0) (I3719 : @Ne Nat ob_3459 ob_3430) (I3724 : Exa Z h0 ob_3430 cN1) (I3729 : Sta Z Z.heap cN1 "COMPACT_STRINGS" "Z" (.int in_7)) (I3735 : ¬ (in_7 = 0)) (I3736 : Fld Z h0 ob_3459 cN1 "coder" "B" (.int 0)) (I3741 : Fld Z h0 ob_3430 cN1 "coder" "B" (.int 0)) (I3746 : Fld Z h0 ob_3459 cN1 "value" "[B" (.ref ob_3460)) (I3751 : Fld Z h0 ob_3430 cN1 "value" "[B" (.ref ob_3431)) (I3756 : Arv Z h0 ob_3460 kk_3461 .byte 3 [(.int ((in_1 &&& 255).toInt8.toInt32)), (.int ((in_2 &&& 255).toInt8.toInt32)), (.int ((in_4 &&& 255).toInt8.toInt32))] (.int 0)) (I3757 : Arv Z h0 ob_3431 kk_3432 .byte 2 [(.int ((in_1 &&& 255).toInt8.toInt32)), (.int ((in_2 &&& 255).toInt8.toInt32))] (.int 0)) :
    own_Met l Z h0 mN11 jdk_42_method_66_code 3 (Option.some FieldType.boolean) ws ({ frames := 1, cells := 0, slots := 0, locals := 14 } : Room) #[(.ref ob_3459), (.ref ob_3430)] (own_Q68 Z ob_3459 ob_3430 in_7 ob_3460 ob_3431 kk_3461 in_1 in_2 in_4 kk_3432 h0 n0) 0 0 := by
  refine MetFree.of_bodySF own_pn11 hisR ?_
  intro p e s m args below meth c s₁ Bd hml0 hP hK
  obtain ⟨rfl, hZ, hh⟩ := hP
  have hx := Bd.exec
  have hby := Bd.bytes
  have hml : c.maxLocals = 3 := hml0
  have hown : s.vm.findClass cN1 = some m.cls := findClass_of_methodNamed Bd.named
  have hnm := (name_of_methodNamed Bd.named Bd.method).1
  have X0 : Stand p l e ({ frames := 1, cells := 0, slots := 0, locals := 14 } : Room) s m #[(.ref ob_3459), (.ref ob_3430)] below meth c s₁ [] 0 0 := Stand.of_body Bd
  have e0 : s₁.heap = h0 := by rw [← hh, Bd.state]; rfl
  have N0 := Fr.nil n0
  show own_G p e below (s₁.setTop (entryFrame m #[(.ref ob_3459), (.ref ob_3430)] 3)) (own_P s (own_Q68 Z ob_3459 ob_3430 in_7 ob_3460 ob_3431 kk_3461 in_1 in_2 in_4 kk_3432 h0 n0) 0 0)
  refine own_cast (own_ef8 m ob_3459 ob_3430) ?_
  show own_G p e below (s₁.setTop (mkF m 0 #[rv ob_3459, rv ob_3430, .unset] [])) _
  refine oS (fun _ => XS.aloadN X0.here hx rfl (hb hby dd10_0) rfl rfl) ?_
  refine oS (fun _ => XS.aloadN X0.here hx rfl (hb hby dd10_1) rfl rfl) ?_
  refine oS (fun _ => XT.acmpYes X0.here hx rfl (pc0 := 2) (pc' := 7) rfl (hb hby dd10_2) rfl rfl rfl (XT.aa_ne_t (own_rne I3719)) (by decide) (by decide)) ?_
  show own_G p e below (s₁.setTop (mkF m 7 #[rv ob_3459, rv ob_3430, .unset] [])) _
  refine oS (fun _ => XS.aloadN X0.here hx rfl (hb hby dd10_7) rfl rfl) ?_
  obtain ⟨T3720, X3721, e3722, s3723⟩ := instY X0 hx hZ hown (oW hw 65 rfl) e0 (Ins.self I3724) (g := (mkF m 8 #[rv ob_3459, rv ob_3430, .unset] [(.ref ob_3430)])) rfl rfl (hb hby dd10_8)
  refine oS s3723 ?_
  show own_G p e below (T3720.setTop (mkF m 11 #[rv ob_3459, rv ob_3430, .unset] [(.int 1)])) _
  refine oS (fun _ => XS.ifNo X3721.here hx rfl (hb hby dd10_11) rfl (XT.i0_eq_f (by decide))) ?_
  show own_G p e below (T3720.setTop (mkF m 14 #[rv ob_3459, rv ob_3430, .unset] [])) _
  refine oS (fun _ => XS.aloadN X3721.here hx rfl (hb hby dd10_14) rfl rfl) ?_
  obtain ⟨T3725, X3726, e3727, s3728⟩ := castY X3721 hx hZ hown (oW hw 65 rfl) e3722 (Ins.self I3724) (g := (mkF m 15 #[rv ob_3459, rv ob_3430, .unset] [(.ref ob_3430)])) rfl rfl (hb hby dd10_15)
  refine oS s3728 ?_
  show own_G p e below (T3725.setTop (mkF m 18 #[rv ob_3459, rv ob_3430, .unset] [(.ref ob_3430)])) _
  refine oS (fun _ => XS.astoreN X3726.here hx rfl (hb hby dd10_18) rfl rfl (l' := #[rv ob_3459, rv ob_3430, rv ob_3430]) rfl) ?_
  have F3730 : Sta Z h0 cN1 "COMPACT_STRINGS" "Z" (.int in_7) := Sta.ext O0.2 I3729
  obtain ⟨T3731, X3732, e3733, s3734⟩ := getS X3726 hx hZ hown (host := "") (oW hw 19 rfl) Via.refl e3727 F3730 (g := (mkF m 19 #[rv ob_3459, rv ob_3430, rv ob_3430] [])) rfl (hb hby dd10_19)
  refine oS s3734 ?_
  show own_G p e below (T3731.setTop (mkF m 22 #[rv ob_3459, rv ob_3430, rv ob_3430] [(.int in_7)])) _
  refine oS (fun _ => XS.ifNo X3732.here hx rfl (hb hby dd10_22) rfl (XT.i0_eq_f I3735)) ?_
  show own_G p e below (T3731.setTop (mkF m 25 #[rv ob_3459, rv ob_3430, rv ob_3430] [])) _
  refine oS (fun _ => XS.aloadN X3732.here hx rfl (hb hby dd10_25) rfl rfl) ?_
  obtain ⟨T3737, X3738, e3739, s3740⟩ := getF X3732 hx hZ hown (host := "") (Or.inl (oW hw 31 rfl)) Via.refl e3733 I3736 (g := (mkF m 26 #[rv ob_3459, rv ob_3430, rv ob_3430] [(.ref ob_3459)])) rfl rfl (hb hby dd10_26)
  refine oS s3740 ?_
  show own_G p e below (T3737.setTop (mkF m 29 #[rv ob_3459, rv ob_3430, rv ob_3430] [(.int 0)])) _
  refine oS (fun _ => XS.aloadN X3738.here hx rfl (hb hby dd10_29) rfl rfl) ?_
  obtain ⟨T3742, X3743, e3744, s3745⟩ := getF X3738 hx hZ hown (host := "") (Or.inl (oW hw 31 rfl)) Via.refl e3739 I3741 (g := (mkF m 30 #[rv ob_3459, rv ob_3430, rv ob_3430] [(.ref ob_3430), (.int 0)])) rfl rfl (hb hby dd10_30)
  refine oS s3745 ?_
  show own_G p e below (T3742.setTop (mkF m 33 #[rv ob_3459, rv ob_3430, rv ob_3430] [(.int 0), (.int 0)])) _
  refine oS (fun _ => XS.icmpNo X3743.here hx rfl (hb hby dd10_33) rfl (XT.ii_ne_f (by decide))) ?_
  show own_G p e below (T3742.setTop (mkF m 36 #[rv ob_3459, rv ob_3430, rv ob_3430] [])) _
  refine oS (fun _ => XS.aloadN X3743.here hx rfl (hb hby dd10_36) rfl rfl) ?_
  obtain ⟨T3747, X3748, e3749, s3750⟩ := getF X3743 hx hZ hown (host := "") (Or.inl (oW hw 33 rfl)) Via.refl e3744 I3746 (g := (mkF m 37 #[rv ob_3459, rv ob_3430, rv ob_3430] [(.ref ob_3459)])) rfl rfl (hb hby dd10_37)
  refine oS s3750 ?_
  show own_G p e below (T3747.setTop (mkF m 40 #[rv ob_3459, rv ob_3430, rv ob_3430] [(.ref ob_3460)])) _
  refine oS (fun _ => XS.aloadN X3748.here hx rfl (hb hby dd10_40) rfl rfl) ?_
  obtain ⟨T3752, X3753, e3754, s3755⟩ := getF X3748 hx hZ hown (host := "") (Or.inl (oW hw 33 rfl)) Via.refl e3749 I3751 (g := (mkF m 41 #[rv ob_3459, rv ob_3430, rv ob_3430] [(.ref ob_3430), (.ref ob_3460)])) rfl rfl (hb hby dd10_41)
  refine oS s3755 ?_
  show own_G p e below (T3752.setTop (mkF m 44 #[rv ob_3459, rv ob_3430, rv ob_3430] [(.ref ob_3431), (.ref ob_3460)])) _
  obtain ⟨T3760, h3761, v3762, L3763, X3764, e3765, q3766, s3767⟩ := own_callS X3753 hx hZ hown e3754 (y := mN10) (oW hw 66 rfl) (oW hw 67 rfl) (oW hw 68 rfl) (oW hw 69 rfl) (by decide) (W := 0) (own_rm69 l Z a0 hw [] ob_3460 ob_3431 kk_3461 in_1 in_2 in_4 kk_3432 h0 n0 Z0 O0 I3756 I3757) (by decide) (by decide) (by decide) (by decide) (g := (mkF m 44 #[rv ob_3459, rv ob_3430, rv ob_3430] [(.ref ob_3431), (.ref ob_3460)])) rfl (by rw [hml]; rfl) (argsL := [(.ref ob_3460), (.ref ob_3431)]) (rest := []) rfl (lenOf own_pd10 rfl) rfl (by show 2 * 0 + _ ≤ _; exact Nat.le_of_eq rfl) (hb hby dd10_44)
  refine oS s3767 ?_
  obtain ⟨rfl, N3768, K3769⟩ := q3766
  have N3770 := Fr.app N0 N3768
  have e3771 := e3765.trans K3769
  show own_G p e below (T3760.setTop (mkF m 47 #[rv ob_3459, rv ob_3430, rv ob_3430] [(.int 0)])) _
  refine oS (fun _ => XS.ifYes X3764.here hx rfl (pc0 := 47) (pc' := 54) rfl (hb hby dd10_47) rfl (XT.i0_eq_t (by decide)) (by decide) (by decide)) ?_
  show own_G p e below (T3760.setTop (mkF m 54 #[rv ob_3459, rv ob_3430, rv ob_3430] [])) _
  refine oS (fun _ => XS.iconst X3764.here hx rfl (hb hby dd10_54) ) ?_
  exact own_retN X3764 hx (t := .boolean) Bd.notSynchronized Bd.returns (by simp) (hb hby dd10_55) (by decide) e3771 (by decide) (by decide) (⟨rfl, N3770, rfl⟩)
def own_Q67 (Z : State) (ob_3492 : Nat) (ob_3516 : Nat) (ob_3459 : Nat) (ob_3430 : Nat) (in_7 : Int32) (ob_3460 : Nat) (ob_3431 : Nat) (kk_3461 : ClassId) (in_1 : Int32) (in_2 : Int32) (in_4 : Int32) (kk_3432 : ClassId) (h0 : Heap) (n0 : Nat) (v : Option Value) (h : Heap) (L : List Loc) : Prop := (v = some (.int 0) ∧ Fr n0 L ∧ h = h0)
set_option maxRecDepth 65536 in
set_option maxHeartbeats 40000000 in
theorem own_rm67 (l : Launch) (Z : State) (a0 : Array Value) (hw : ∀ d ∈ tables_1, d.before a0 Z = true) (ws : List Jvm.Cond) (ob_3492 : Nat) (ob_3516 : Nat) (ob_3459 : Nat) (ob_3430 : Nat) (in_7 : Int32) (ob_3460 : Nat) (ob_3431 : Nat) (kk_3461 : ClassId) (in_1 : Int32) (in_2 : Int32) (in_4 : Int32) (kk_3432 : ClassId) (h0 : Heap) (n0 : Nat) (Z0 : n0 ≤ h0.size) (O0 : Old Z n0 h0) (I3693 : Exa Z h0 ob_3516 cN4) (I3698 : Fld Z h0 ob_3516 cN4 "name" cN5 (.ref ob_3459)) (I3703 : Fld Z h0 ob_3492 cN4 "name" cN5 (.ref ob_3430)) (I3708 : @Ne Nat ob_3459 ob_3430) (I3709 : Exa Z h0 ob_3430 cN1) (I3710 : Sta Z Z.heap cN1 "COMPACT_STRINGS" "Z" (.int in_7)) (I3711 : ¬ (in_7 = 0)) (I3712 : Fld Z h0 ob_3459 cN1 "coder" "B" (.int 0)) (I3713 : Fld Z h0 ob_3430 cN1 "coder" "B" (.int 0)) (I3714 : Fld Z h0 ob_3459 cN1 "value" "[B" (.ref ob_3460)) (I3715 : Fld Z h0 ob_3430 cN1 "value" "[B" (.ref ob_3431)) (I3716 : Arv Z h0 ob_3460 kk_3461 .byte 3 [(.int ((in_1 &&& 255).toInt8.toInt32)), (.int ((in_2 &&& 255).toInt8.toInt32)), (.int ((in_4 &&& 255).toInt8.toInt32))] (.int 0)) (I3717 : Exa Z h0 ob_3459 cN1) (I3718 : Arv Z h0 ob_3431 kk_3432 .byte 2 [(.int ((in_1 &&& 255).toInt8.toInt32)), (.int ((in_2 &&& 255).toInt8.toInt32))] (.int 0)) :
    own_Met l Z h0 mN13 prog_11_method_4_code 3 (Option.some FieldType.boolean) ws ({ frames := 2, cells := 0, slots := 0, locals := 28 } : Room) #[(.ref ob_3492), (.ref ob_3516)] (own_Q67 Z ob_3492 ob_3516 ob_3459 ob_3430 in_7 ob_3460 ob_3431 kk_3461 in_1 in_2 in_4 kk_3432 h0 n0) 0 0 := by
  refine MetFree.of_bodySF own_pn13 hisR ?_
  intro p e s m args below meth c s₁ Bd hml0 hP hK
  obtain ⟨rfl, hZ, hh⟩ := hP
  have hx := Bd.exec
  have hby := Bd.bytes
  have hml : c.maxLocals = 3 := hml0
  have hown : s.vm.findClass cN4 = some m.cls := findClass_of_methodNamed Bd.named
  have hnm := (name_of_methodNamed Bd.named Bd.method).1
  have X0 : Stand p l e ({ frames := 2, cells := 0, slots := 0, locals := 28 } : Room) s m #[(.ref ob_3492), (.ref ob_3516)] below meth c s₁ [] 0 0 := Stand.of_body Bd
  have e0 : s₁.heap = h0 := by rw [← hh, Bd.state]; rfl
  have N0 := Fr.nil n0
  show own_G p e below (s₁.setTop (entryFrame m #[(.ref ob_3492), (.ref ob_3516)] 3)) (own_P s (own_Q67 Z ob_3492 ob_3516 ob_3459 ob_3430 in_7 ob_3460 ob_3431 kk_3461 in_1 in_2 in_4 kk_3432 h0 n0) 0 0)
  refine own_cast (own_ef8 m ob_3492 ob_3516) ?_
  show own_G p e below (s₁.setTop (mkF m 0 #[rv ob_3492, rv ob_3516, .unset] [])) _
  refine oS (fun _ => XS.aloadN X0.here hx rfl (hb hby dd13_0) rfl rfl) ?_
  obtain ⟨T3689, X3690, e3691, s3692⟩ := instY X0 hx hZ hown (oW hw 52 rfl) e0 (Ins.self I3693) (g := (mkF m 1 #[rv ob_3492, rv ob_3516, .unset] [(.ref ob_3516)])) rfl rfl (hb hby dd13_1)
  refine oS s3692 ?_
  show own_G p e below (T3689.setTop (mkF m 4 #[rv ob_3492, rv ob_3516, .unset] [(.int 1)])) _
  refine oS (fun _ => XS.ifNo X3690.here hx rfl (hb hby dd13_4) rfl (XT.i0_eq_f (by decide))) ?_
  show own_G p e below (T3689.setTop (mkF m 7 #[rv ob_3492, rv ob_3516, .unset] [])) _
  refine oS (fun _ => XS.aloadN X3690.here hx rfl (hb hby dd13_7) rfl rfl) ?_
  obtain ⟨T3694, X3695, e3696, s3697⟩ := castY X3690 hx hZ hown (oW hw 52 rfl) e3691 (Ins.self I3693) (g := (mkF m 8 #[rv ob_3492, rv ob_3516, .unset] [(.ref ob_3516)])) rfl rfl (hb hby dd13_8)
  refine oS s3697 ?_
  show own_G p e below (T3694.setTop (mkF m 11 #[rv ob_3492, rv ob_3516, .unset] [(.ref ob_3516)])) _
  refine oS (fun _ => XS.astoreN X3695.here hx rfl (hb hby dd13_11) rfl rfl (l' := #[rv ob_3492, rv ob_3516, rv ob_3516]) rfl) ?_
  refine oS (fun _ => XS.aloadN X3695.here hx rfl (hb hby dd13_12) rfl rfl) ?_
  obtain ⟨T3699, X3700, e3701, s3702⟩ := getF X3695 hx hZ hown (host := "") (Or.inl (oW hw 58 rfl)) Via.refl e3696 I3698 (g := (mkF m 13 #[rv ob_3492, rv ob_3516, rv ob_3516] [(.ref ob_3516)])) rfl rfl (hb hby dd13_13)
  refine oS s3702 ?_
  show own_G p e below (T3699.setTop (mkF m 16 #[rv ob_3492, rv ob_3516, rv ob_3516] [(.ref ob_3459)])) _
  refine oS (fun _ => XS.aloadN X3700.here hx rfl (hb hby dd13_16) rfl rfl) ?_
  obtain ⟨T3704, X3705, e3706, s3707⟩ := getF X3700 hx hZ hown (host := "") (Or.inl (oW hw 58 rfl)) Via.refl e3701 I3703 (g := (mkF m 17 #[rv ob_3492, rv ob_3516, rv ob_3516] [(.ref ob_3492), (.ref ob_3459)])) rfl rfl (hb hby dd13_17)
  refine oS s3707 ?_
  show own_G p e below (T3704.setTop (mkF m 20 #[rv ob_3492, rv ob_3516, rv ob_3516] [(.ref ob_3430), (.ref ob_3459)])) _
  obtain ⟨T3772, h3773, v3774, L3775, X3776, e3777, q3778, s3779⟩ := own_callV X3705 hx hZ hown e3706 (y := mN11) (z := mN11) (C := cN1) (b := ob_3459) (oW hw 83 rfl) (oW hw 61 rfl) (notFace_of_selects (args := #[]) (mvT hZ (oW hw 63 rfl))) (oW hw 63 rfl) (oW hw 62 rfl) (oW hw 8 rfl) (oW hw 64 rfl) (by decide) I3717 (W := 0) (own_rm68 l Z a0 hw [] ob_3459 ob_3430 in_7 ob_3460 ob_3431 kk_3461 in_1 in_2 in_4 kk_3432 h0 n0 Z0 O0 I3708 I3709 I3710 I3711 I3712 I3713 I3714 I3715 I3716 I3718) (by decide) (by decide) (by decide) (by decide) (g := (mkF m 20 #[rv ob_3492, rv ob_3516, rv ob_3516] [(.ref ob_3430), (.ref ob_3459)])) rfl (by rw [hml]; rfl) (argsL := [(.ref ob_3430)]) (rest := []) rfl (lenOf own_pd11 rfl) rfl (by show 2 * 0 + _ ≤ _; exact Nat.le_of_eq rfl) (hb hby dd13_20)
  refine oS s3779 ?_
  obtain ⟨rfl, N3780, K3781⟩ := q3778
  have N3782 := Fr.app N0 N3780
  have e3783 := e3777.trans K3781
  show own_G p e below (T3772.setTop (mkF m 23 #[rv ob_3492, rv ob_3516, rv ob_3516] [(.int 0)])) _
  refine oS (fun _ => XS.ifYes X3776.here hx rfl (pc0 := 23) (pc' := 30) rfl (hb hby dd13_23) rfl (XT.i0_eq_t (by decide)) (by decide) (by decide)) ?_
  show own_G p e below (T3772.setTop (mkF m 30 #[rv ob_3492, rv ob_3516, rv ob_3516] [])) _
  refine oS (fun _ => XS.iconst X3776.here hx rfl (hb hby dd13_30) ) ?_
  exact own_retN X3776 hx (t := .boolean) Bd.notSynchronized Bd.returns (by simp) (hb hby dd13_31) (by decide) e3783 (by decide) (by decide) (⟨rfl, N3782, rfl⟩)
def own_Q72 (Z : State) (ob_11 : Nat) (ob_3810 : Nat) (kk_12 : ClassId) (kk_3811 : ClassId) (in_1 : Int32) (in_2 : Int32) (in_3 : Int32) (h0 : Heap) (n0 : Nat) (v : Option Value) (h : Heap) (L : List Loc) : Prop := (v = some (.int 0) ∧ Fr n0 L ∧ h = h0)
set_option maxRecDepth 65536 in
set_option maxHeartbeats 40000000 in
theorem own_rm72 (l : Launch) (Z : State) (a0 : Array Value) (hw : ∀ d ∈ tables_1, d.before a0 Z = true) (ws : List Jvm.Cond) (ob_11 : Nat) (ob_3810 : Nat) (kk_12 : ClassId) (kk_3811 : ClassId) (in_1 : Int32) (in_2 : Int32) (in_3 : Int32) (h0 : Heap) (n0 : Nat) (Z0 : n0 ≤ h0.size) (O0 : Old Z n0 h0) (I4088 : Arv Z Z.heap ob_11 kk_12 FieldType.byte 0 [] (.int 0)) (I4090 : Arv Z h0 ob_3810 kk_3811 .byte 3 [(.int ((in_1 &&& 255).toInt8.toInt32)), (.int ((in_2 &&& 255).toInt8.toInt32)), (.int ((in_3 &&& 255).toInt8.toInt32))] (.int 0)) :
    own_Met l Z h0 mN10 jdk_43_method_13_code 3 (Option.some FieldType.boolean) ws ({ frames := 0, cells := 0, slots := 0, locals := 0 } : Room) #[(.ref ob_11), (.ref ob_3810)] (own_Q72 Z ob_11 ob_3810 kk_12 kk_3811 in_1 in_2 in_3 h0 n0) 0 0 := by
  refine MetFree.of_bodySF own_pn10 hisR ?_
  intro p e s m args below meth c s₁ Bd hml0 hP hK
  obtain ⟨rfl, hZ, hh⟩ := hP
  have hx := Bd.exec
  have hby := Bd.bytes
  have hml : c.maxLocals = 3 := hml0
  have hown : s.vm.findClass cN6 = some m.cls := findClass_of_methodNamed Bd.named
  have hnm := (name_of_methodNamed Bd.named Bd.method).1
  have X0 : Stand p l e ({ frames := 0, cells := 0, slots := 0, locals := 0 } : Room) s m #[(.ref ob_11), (.ref ob_3810)] below meth c s₁ [] 0 0 := Stand.of_body Bd
  have e0 : s₁.heap = h0 := by rw [← hh, Bd.state]; rfl
  have N0 := Fr.nil n0
  show own_G p e below (s₁.setTop (entryFrame m #[(.ref ob_11), (.ref ob_3810)] 3)) (own_P s (own_Q72 Z ob_11 ob_3810 kk_12 kk_3811 in_1 in_2 in_3 h0 n0) 0 0)
  refine own_cast (own_ef8 m ob_11 ob_3810) ?_
  show own_G p e below (s₁.setTop (mkF m 0 #[rv ob_11, rv ob_3810, .unset] [])) _
  refine oS (fun _ => XS.aloadN X0.here hx rfl (hb hby dd11_0) rfl rfl) ?_
  have F4089 : Arv Z h0 ob_11 kk_12 FieldType.byte 0 [] (.int 0) := I4088.ext O0.2
  refine oS (own_len X0 hx hZ e0 F4089 rfl rfl (hb hby dd11_1)) ?_
  show own_G p e below (s₁.setTop (mkF m 2 #[rv ob_11, rv ob_3810, .unset] [(.int 0)])) _
  refine oS (fun _ => XS.aloadN X0.here hx rfl (hb hby dd11_2) rfl rfl) ?_
  refine oS (own_len X0 hx hZ e0 I4090 rfl rfl (hb hby dd11_3)) ?_
  show own_G p e below (s₁.setTop (mkF m 4 #[rv ob_11, rv ob_3810, .unset] [(.int 3), (.int 0)])) _
  refine oS (fun _ => XS.icmpYes X0.here hx rfl (pc0 := 4) (pc' := 34) rfl (hb hby dd11_4) rfl (XT.ii_ne_t (by decide)) (by decide) (by decide)) ?_
  show own_G p e below (s₁.setTop (mkF m 34 #[rv ob_11, rv ob_3810, .unset] [])) _
  refine oS (fun _ => XS.iconst X0.here hx rfl (hb hby dd11_34) ) ?_
  exact own_retN X0 hx (t := .boolean) Bd.notSynchronized Bd.returns (by simp) (hb hby dd11_35) (by decide) e0 (by decide) (by decide) (⟨rfl, N0, rfl⟩)
def own_Q71 (Z : State) (ob_10 : Nat) (ob_3809 : Nat) (in_7 : Int32) (ob_11 : Nat) (ob_3810 : Nat) (kk_12 : ClassId) (kk_3811 : ClassId) (in_1 : Int32) (in_2 : Int32) (in_3 : Int32) (h0 : Heap) (n0 : Nat) (v : Option Value) (h : Heap) (L : List Loc) : Prop := (v = some (.int 0) ∧ Fr n0 L ∧ h = h0)
set_option maxRecDepth 65536 in
set_option maxHeartbeats 40000000 in
theorem own_rm71 (l : Launch) (Z : State) (a0 : Array Value) (hw : ∀ d ∈ tables_1, d.before a0 Z = true) (ws : List Jvm.Cond) (ob_10 : Nat) (ob_3809 : Nat) (in_7 : Int32) (ob_11 : Nat) (ob_3810 : Nat) (kk_12 : ClassId) (kk_3811 : ClassId) (in_1 : Int32) (in_2 : Int32) (in_3 : Int32) (h0 : Heap) (n0 : Nat) (Z0 : n0 ≤ h0.size) (O0 : Old Z n0 h0) (I4041 : Exa Z Z.heap ob_10 cN1) (I4045 : n0 ≤ ob_3809) (I4051 : Exa Z h0 ob_3809 cN1) (I4056 : Sta Z Z.heap cN1 "COMPACT_STRINGS" "Z" (.int in_7)) (I4062 : ¬ (in_7 = 0)) (I4063 : Fld Z Z.heap ob_10 cN1 "coder" "B" (.int 0)) (I4069 : Fld Z h0 ob_3809 cN1 "coder" "B" (.int 0)) (I4074 : Fld Z Z.heap ob_10 cN1 "value" "[B" (.ref ob_11)) (I4080 : Fld Z h0 ob_3809 cN1 "value" "[B" (.ref ob_3810)) (I4085 : Arv Z Z.heap ob_11 kk_12 FieldType.byte 0 [] (.int 0)) (I4087 : Arv Z h0 ob_3810 kk_3811 .byte 3 [(.int ((in_1 &&& 255).toInt8.toInt32)), (.int ((in_2 &&& 255).toInt8.toInt32)), (.int ((in_3 &&& 255).toInt8.toInt32))] (.int 0)) :
    own_Met l Z h0 mN11 jdk_42_method_66_code 3 (Option.some FieldType.boolean) ws ({ frames := 1, cells := 0, slots := 0, locals := 14 } : Room) #[(.ref ob_10), (.ref ob_3809)] (own_Q71 Z ob_10 ob_3809 in_7 ob_11 ob_3810 kk_12 kk_3811 in_1 in_2 in_3 h0 n0) 0 0 := by
  refine MetFree.of_bodySF own_pn11 hisR ?_
  intro p e s m args below meth c s₁ Bd hml0 hP hK
  obtain ⟨rfl, hZ, hh⟩ := hP
  have hx := Bd.exec
  have hby := Bd.bytes
  have hml : c.maxLocals = 3 := hml0
  have hown : s.vm.findClass cN1 = some m.cls := findClass_of_methodNamed Bd.named
  have hnm := (name_of_methodNamed Bd.named Bd.method).1
  have X0 : Stand p l e ({ frames := 1, cells := 0, slots := 0, locals := 14 } : Room) s m #[(.ref ob_10), (.ref ob_3809)] below meth c s₁ [] 0 0 := Stand.of_body Bd
  have e0 : s₁.heap = h0 := by rw [← hh, Bd.state]; rfl
  have N0 := Fr.nil n0
  show own_G p e below (s₁.setTop (entryFrame m #[(.ref ob_10), (.ref ob_3809)] 3)) (own_P s (own_Q71 Z ob_10 ob_3809 in_7 ob_11 ob_3810 kk_12 kk_3811 in_1 in_2 in_3 h0 n0) 0 0)
  refine own_cast (own_ef8 m ob_10 ob_3809) ?_
  show own_G p e below (s₁.setTop (mkF m 0 #[rv ob_10, rv ob_3809, .unset] [])) _
  refine oS (fun _ => XS.aloadN X0.here hx rfl (hb hby dd10_0) rfl rfl) ?_
  refine oS (fun _ => XS.aloadN X0.here hx rfl (hb hby dd10_1) rfl rfl) ?_
  have y4042 : @LT.lt Nat instLTNat ob_10 Z.heap.size := I4041.lt
  have y4043 : Z.heap.size = n0 := O0.1
  have y4044 := I4045
  have N4046 : @Ne Nat ob_10 ob_3809 := by omega
  refine oS (fun _ => XT.acmpYes X0.here hx rfl (pc0 := 2) (pc' := 7) rfl (hb hby dd10_2) rfl rfl rfl (XT.aa_ne_t (own_rne N4046)) (by decide) (by decide)) ?_
  show own_G p e below (s₁.setTop (mkF m 7 #[rv ob_10, rv ob_3809, .unset] [])) _
  refine oS (fun _ => XS.aloadN X0.here hx rfl (hb hby dd10_7) rfl rfl) ?_
  obtain ⟨T4047, X4048, e4049, s4050⟩ := instY X0 hx hZ hown (oW hw 65 rfl) e0 (Ins.self I4051) (g := (mkF m 8 #[rv ob_10, rv ob_3809, .unset] [(.ref ob_3809)])) rfl rfl (hb hby dd10_8)
  refine oS s4050 ?_
  show own_G p e below (T4047.setTop (mkF m 11 #[rv ob_10, rv ob_3809, .unset] [(.int 1)])) _
  refine oS (fun _ => XS.ifNo X4048.here hx rfl (hb hby dd10_11) rfl (XT.i0_eq_f (by decide))) ?_
  show own_G p e below (T4047.setTop (mkF m 14 #[rv ob_10, rv ob_3809, .unset] [])) _
  refine oS (fun _ => XS.aloadN X4048.here hx rfl (hb hby dd10_14) rfl rfl) ?_
  obtain ⟨T4052, X4053, e4054, s4055⟩ := castY X4048 hx hZ hown (oW hw 65 rfl) e4049 (Ins.self I4051) (g := (mkF m 15 #[rv ob_10, rv ob_3809, .unset] [(.ref ob_3809)])) rfl rfl (hb hby dd10_15)
  refine oS s4055 ?_
  show own_G p e below (T4052.setTop (mkF m 18 #[rv ob_10, rv ob_3809, .unset] [(.ref ob_3809)])) _
  refine oS (fun _ => XS.astoreN X4053.here hx rfl (hb hby dd10_18) rfl rfl (l' := #[rv ob_10, rv ob_3809, rv ob_3809]) rfl) ?_
  have F4057 : Sta Z h0 cN1 "COMPACT_STRINGS" "Z" (.int in_7) := Sta.ext O0.2 I4056
  obtain ⟨T4058, X4059, e4060, s4061⟩ := getS X4053 hx hZ hown (host := "") (oW hw 19 rfl) Via.refl e4054 F4057 (g := (mkF m 19 #[rv ob_10, rv ob_3809, rv ob_3809] [])) rfl (hb hby dd10_19)
  refine oS s4061 ?_
  show own_G p e below (T4058.setTop (mkF m 22 #[rv ob_10, rv ob_3809, rv ob_3809] [(.int in_7)])) _
  refine oS (fun _ => XS.ifNo X4059.here hx rfl (hb hby dd10_22) rfl (XT.i0_eq_f I4062)) ?_
  show own_G p e below (T4058.setTop (mkF m 25 #[rv ob_10, rv ob_3809, rv ob_3809] [])) _
  refine oS (fun _ => XS.aloadN X4059.here hx rfl (hb hby dd10_25) rfl rfl) ?_
  have F4064 : Fld Z h0 ob_10 cN1 "coder" "B" (.int 0) := Fld.ext O0.2 I4063
  obtain ⟨T4065, X4066, e4067, s4068⟩ := getF X4059 hx hZ hown (host := "") (Or.inl (oW hw 31 rfl)) Via.refl e4060 F4064 (g := (mkF m 26 #[rv ob_10, rv ob_3809, rv ob_3809] [(.ref ob_10)])) rfl rfl (hb hby dd10_26)
  refine oS s4068 ?_
  show own_G p e below (T4065.setTop (mkF m 29 #[rv ob_10, rv ob_3809, rv ob_3809] [(.int 0)])) _
  refine oS (fun _ => XS.aloadN X4066.here hx rfl (hb hby dd10_29) rfl rfl) ?_
  obtain ⟨T4070, X4071, e4072, s4073⟩ := getF X4066 hx hZ hown (host := "") (Or.inl (oW hw 31 rfl)) Via.refl e4067 I4069 (g := (mkF m 30 #[rv ob_10, rv ob_3809, rv ob_3809] [(.ref ob_3809), (.int 0)])) rfl rfl (hb hby dd10_30)
  refine oS s4073 ?_
  show own_G p e below (T4070.setTop (mkF m 33 #[rv ob_10, rv ob_3809, rv ob_3809] [(.int 0), (.int 0)])) _
  refine oS (fun _ => XS.icmpNo X4071.here hx rfl (hb hby dd10_33) rfl (XT.ii_ne_f (by decide))) ?_
  show own_G p e below (T4070.setTop (mkF m 36 #[rv ob_10, rv ob_3809, rv ob_3809] [])) _
  refine oS (fun _ => XS.aloadN X4071.here hx rfl (hb hby dd10_36) rfl rfl) ?_
  have F4075 : Fld Z h0 ob_10 cN1 "value" "[B" (.ref ob_11) := Fld.ext O0.2 I4074
  obtain ⟨T4076, X4077, e4078, s4079⟩ := getF X4071 hx hZ hown (host := "") (Or.inl (oW hw 33 rfl)) Via.refl e4072 F4075 (g := (mkF m 37 #[rv ob_10, rv ob_3809, rv ob_3809] [(.ref ob_10)])) rfl rfl (hb hby dd10_37)
  refine oS s4079 ?_
  show own_G p e below (T4076.setTop (mkF m 40 #[rv ob_10, rv ob_3809, rv ob_3809] [(.ref ob_11)])) _
  refine oS (fun _ => XS.aloadN X4077.here hx rfl (hb hby dd10_40) rfl rfl) ?_
  obtain ⟨T4081, X4082, e4083, s4084⟩ := getF X4077 hx hZ hown (host := "") (Or.inl (oW hw 33 rfl)) Via.refl e4078 I4080 (g := (mkF m 41 #[rv ob_10, rv ob_3809, rv ob_3809] [(.ref ob_3809), (.ref ob_11)])) rfl rfl (hb hby dd10_41)
  refine oS s4084 ?_
  show own_G p e below (T4081.setTop (mkF m 44 #[rv ob_10, rv ob_3809, rv ob_3809] [(.ref ob_3810), (.ref ob_11)])) _
  have F4086 : Arv Z h0 ob_11 kk_12 FieldType.byte 0 [] (.int 0) := I4085.ext O0.2
  obtain ⟨T4091, h4092, v4093, L4094, X4095, e4096, q4097, s4098⟩ := own_callS X4082 hx hZ hown e4083 (y := mN10) (oW hw 66 rfl) (oW hw 67 rfl) (oW hw 68 rfl) (oW hw 69 rfl) (by decide) (W := 0) (own_rm72 l Z a0 hw [] ob_11 ob_3810 kk_12 kk_3811 in_1 in_2 in_3 h0 n0 Z0 O0 I4085 I4087) (by decide) (by decide) (by decide) (by decide) (g := (mkF m 44 #[rv ob_10, rv ob_3809, rv ob_3809] [(.ref ob_3810), (.ref ob_11)])) rfl (by rw [hml]; rfl) (argsL := [(.ref ob_11), (.ref ob_3810)]) (rest := []) rfl (lenOf own_pd10 rfl) rfl (by show 2 * 0 + _ ≤ _; exact Nat.le_of_eq rfl) (hb hby dd10_44)
  refine oS s4098 ?_
  obtain ⟨rfl, N4099, K4100⟩ := q4097
  have N4101 := Fr.app N0 N4099
  have e4102 := e4096.trans K4100
  show own_G p e below (T4091.setTop (mkF m 47 #[rv ob_10, rv ob_3809, rv ob_3809] [(.int 0)])) _
  refine oS (fun _ => XS.ifYes X4095.here hx rfl (pc0 := 47) (pc' := 54) rfl (hb hby dd10_47) rfl (XT.i0_eq_t (by decide)) (by decide) (by decide)) ?_
  show own_G p e below (T4091.setTop (mkF m 54 #[rv ob_10, rv ob_3809, rv ob_3809] [])) _
  refine oS (fun _ => XS.iconst X4095.here hx rfl (hb hby dd10_54) ) ?_
  exact own_retN X4095 hx (t := .boolean) Bd.notSynchronized Bd.returns (by simp) (hb hby dd10_55) (by decide) e4102 (by decide) (by decide) (⟨rfl, N4101, rfl⟩)
def own_Q70 (Z : State) (ob_3871 : Nat) (ob_9 : Nat) (ob_10 : Nat) (ob_3809 : Nat) (in_7 : Int32) (ob_11 : Nat) (ob_3810 : Nat) (kk_12 : ClassId) (kk_3811 : ClassId) (in_1 : Int32) (in_2 : Int32) (in_3 : Int32) (h0 : Heap) (n0 : Nat) (v : Option Value) (h : Heap) (L : List Loc) : Prop := (v = some (.int 0) ∧ Fr n0 L ∧ h = h0)
set_option maxRecDepth 65536 in
set_option maxHeartbeats 40000000 in
theorem own_rm70 (l : Launch) (Z : State) (a0 : Array Value) (hw : ∀ d ∈ tables_1, d.before a0 Z = true) (ws : List Jvm.Cond) (ob_3871 : Nat) (ob_9 : Nat) (ob_10 : Nat) (ob_3809 : Nat) (in_7 : Int32) (ob_11 : Nat) (ob_3810 : Nat) (kk_12 : ClassId) (kk_3811 : ClassId) (in_1 : Int32) (in_2 : Int32) (in_3 : Int32) (h0 : Heap) (n0 : Nat) (Z0 : n0 ≤ h0.size) (O0 : Old Z n0 h0) (I4006 : Exa Z Z.heap ob_9 cN4) (I4012 : Fld Z Z.heap ob_9 cN4 "name" cN5 (.ref ob_10)) (I4018 : Fld Z h0 ob_3871 cN4 "name" cN5 (.ref ob_3809)) (I4023 : Exa Z Z.heap ob_10 cN1) (I4027 : n0 ≤ ob_3809) (I4029 : Exa Z h0 ob_3809 cN1) (I4030 : Sta Z Z.heap cN1 "COMPACT_STRINGS" "Z" (.int in_7)) (I4031 : ¬ (in_7 = 0)) (I4032 : Fld Z Z.heap ob_10 cN1 "coder" "B" (.int 0)) (I4034 : Fld Z h0 ob_3809 cN1 "coder" "B" (.int 0)) (I4035 : Fld Z Z.heap ob_10 cN1 "value" "[B" (.ref ob_11)) (I4037 : Fld Z h0 ob_3809 cN1 "value" "[B" (.ref ob_3810)) (I4038 : Arv Z Z.heap ob_11 kk_12 FieldType.byte 0 [] (.int 0)) (I4040 : Arv Z h0 ob_3810 kk_3811 .byte 3 [(.int ((in_1 &&& 255).toInt8.toInt32)), (.int ((in_2 &&& 255).toInt8.toInt32)), (.int ((in_3 &&& 255).toInt8.toInt32))] (.int 0)) :
    own_Met l Z h0 mN13 prog_11_method_4_code 3 (Option.some FieldType.boolean) ws ({ frames := 2, cells := 0, slots := 0, locals := 28 } : Room) #[(.ref ob_3871), (.ref ob_9)] (own_Q70 Z ob_3871 ob_9 ob_10 ob_3809 in_7 ob_11 ob_3810 kk_12 kk_3811 in_1 in_2 in_3 h0 n0) 0 0 := by
  refine MetFree.of_bodySF own_pn13 hisR ?_
  intro p e s m args below meth c s₁ Bd hml0 hP hK
  obtain ⟨rfl, hZ, hh⟩ := hP
  have hx := Bd.exec
  have hby := Bd.bytes
  have hml : c.maxLocals = 3 := hml0
  have hown : s.vm.findClass cN4 = some m.cls := findClass_of_methodNamed Bd.named
  have hnm := (name_of_methodNamed Bd.named Bd.method).1
  have X0 : Stand p l e ({ frames := 2, cells := 0, slots := 0, locals := 28 } : Room) s m #[(.ref ob_3871), (.ref ob_9)] below meth c s₁ [] 0 0 := Stand.of_body Bd
  have e0 : s₁.heap = h0 := by rw [← hh, Bd.state]; rfl
  have N0 := Fr.nil n0
  show own_G p e below (s₁.setTop (entryFrame m #[(.ref ob_3871), (.ref ob_9)] 3)) (own_P s (own_Q70 Z ob_3871 ob_9 ob_10 ob_3809 in_7 ob_11 ob_3810 kk_12 kk_3811 in_1 in_2 in_3 h0 n0) 0 0)
  refine own_cast (own_ef8 m ob_3871 ob_9) ?_
  show own_G p e below (s₁.setTop (mkF m 0 #[rv ob_3871, rv ob_9, .unset] [])) _
  refine oS (fun _ => XS.aloadN X0.here hx rfl (hb hby dd13_0) rfl rfl) ?_
  have F4007 : Exa Z h0 ob_9 cN4 := Exa.ext O0.2 I4006
  obtain ⟨T4002, X4003, e4004, s4005⟩ := instY X0 hx hZ hown (oW hw 52 rfl) e0 (Ins.self F4007) (g := (mkF m 1 #[rv ob_3871, rv ob_9, .unset] [(.ref ob_9)])) rfl rfl (hb hby dd13_1)
  refine oS s4005 ?_
  show own_G p e below (T4002.setTop (mkF m 4 #[rv ob_3871, rv ob_9, .unset] [(.int 1)])) _
  refine oS (fun _ => XS.ifNo X4003.here hx rfl (hb hby dd13_4) rfl (XT.i0_eq_f (by decide))) ?_
  show own_G p e below (T4002.setTop (mkF m 7 #[rv ob_3871, rv ob_9, .unset] [])) _
  refine oS (fun _ => XS.aloadN X4003.here hx rfl (hb hby dd13_7) rfl rfl) ?_
  obtain ⟨T4008, X4009, e4010, s4011⟩ := castY X4003 hx hZ hown (oW hw 52 rfl) e4004 (Ins.self F4007) (g := (mkF m 8 #[rv ob_3871, rv ob_9, .unset] [(.ref ob_9)])) rfl rfl (hb hby dd13_8)
  refine oS s4011 ?_
  show own_G p e below (T4008.setTop (mkF m 11 #[rv ob_3871, rv ob_9, .unset] [(.ref ob_9)])) _
  refine oS (fun _ => XS.astoreN X4009.here hx rfl (hb hby dd13_11) rfl rfl (l' := #[rv ob_3871, rv ob_9, rv ob_9]) rfl) ?_
  refine oS (fun _ => XS.aloadN X4009.here hx rfl (hb hby dd13_12) rfl rfl) ?_
  have F4013 : Fld Z h0 ob_9 cN4 "name" cN5 (.ref ob_10) := Fld.ext O0.2 I4012
  obtain ⟨T4014, X4015, e4016, s4017⟩ := getF X4009 hx hZ hown (host := "") (Or.inl (oW hw 58 rfl)) Via.refl e4010 F4013 (g := (mkF m 13 #[rv ob_3871, rv ob_9, rv ob_9] [(.ref ob_9)])) rfl rfl (hb hby dd13_13)
  refine oS s4017 ?_
  show own_G p e below (T4014.setTop (mkF m 16 #[rv ob_3871, rv ob_9, rv ob_9] [(.ref ob_10)])) _
  refine oS (fun _ => XS.aloadN X4015.here hx rfl (hb hby dd13_16) rfl rfl) ?_
  obtain ⟨T4019, X4020, e4021, s4022⟩ := getF X4015 hx hZ hown (host := "") (Or.inl (oW hw 58 rfl)) Via.refl e4016 I4018 (g := (mkF m 17 #[rv ob_3871, rv ob_9, rv ob_9] [(.ref ob_3871), (.ref ob_10)])) rfl rfl (hb hby dd13_17)
  refine oS s4022 ?_
  show own_G p e below (T4019.setTop (mkF m 20 #[rv ob_3871, rv ob_9, rv ob_9] [(.ref ob_3809), (.ref ob_10)])) _
  have y4024 : @LT.lt Nat instLTNat ob_10 Z.heap.size := I4023.lt
  have y4025 : Z.heap.size = n0 := O0.1
  have y4026 := I4027
  have N4028 : @Ne Nat ob_10 ob_3809 := by omega
  have F4033 : Fld Z h0 ob_10 cN1 "coder" "B" (.int 0) := Fld.ext O0.2 I4032
  have F4036 : Fld Z h0 ob_10 cN1 "value" "[B" (.ref ob_11) := Fld.ext O0.2 I4035
  have F4039 : Arv Z h0 ob_11 kk_12 FieldType.byte 0 [] (.int 0) := I4038.ext O0.2
  have F4111 : Exa Z h0 ob_10 cN1 := Exa.ext O0.2 I4023
  obtain ⟨T4103, h4104, v4105, L4106, X4107, e4108, q4109, s4110⟩ := own_callV X4020 hx hZ hown e4021 (y := mN11) (z := mN11) (C := cN1) (b := ob_10) (oW hw 83 rfl) (oW hw 61 rfl) (notFace_of_selects (args := #[]) (mvT hZ (oW hw 63 rfl))) (oW hw 63 rfl) (oW hw 62 rfl) (oW hw 8 rfl) (oW hw 64 rfl) (by decide) F4111 (W := 0) (own_rm71 l Z a0 hw [] ob_10 ob_3809 in_7 ob_11 ob_3810 kk_12 kk_3811 in_1 in_2 in_3 h0 n0 Z0 O0 I4023 I4027 I4029 I4030 I4031 I4032 I4034 I4035 I4037 I4038 I4040) (by decide) (by decide) (by decide) (by decide) (g := (mkF m 20 #[rv ob_3871, rv ob_9, rv ob_9] [(.ref ob_3809), (.ref ob_10)])) rfl (by rw [hml]; rfl) (argsL := [(.ref ob_3809)]) (rest := []) rfl (lenOf own_pd11 rfl) rfl (by show 2 * 0 + _ ≤ _; exact Nat.le_of_eq rfl) (hb hby dd13_20)
  refine oS s4110 ?_
  obtain ⟨rfl, N4112, K4113⟩ := q4109
  have N4114 := Fr.app N0 N4112
  have e4115 := e4108.trans K4113
  show own_G p e below (T4103.setTop (mkF m 23 #[rv ob_3871, rv ob_9, rv ob_9] [(.int 0)])) _
  refine oS (fun _ => XS.ifYes X4107.here hx rfl (pc0 := 23) (pc' := 30) rfl (hb hby dd13_23) rfl (XT.i0_eq_t (by decide)) (by decide) (by decide)) ?_
  show own_G p e below (T4103.setTop (mkF m 30 #[rv ob_3871, rv ob_9, rv ob_9] [])) _
  refine oS (fun _ => XS.iconst X4107.here hx rfl (hb hby dd13_30) ) ?_
  exact own_retN X4107 hx (t := .boolean) Bd.notSynchronized Bd.returns (by simp) (hb hby dd13_31) (by decide) e4115 (by decide) (by decide) (⟨rfl, N4114, rfl⟩)
def own_Q73 (Z : State) (ob_3871 : Nat) (ob_3895 : Nat) (ob_3838 : Nat) (ob_3809 : Nat) (in_7 : Int32) (ob_3839 : Nat) (ob_3810 : Nat) (kk_3840 : ClassId) (in_1 : Int32) (kk_3811 : ClassId) (in_2 : Int32) (in_3 : Int32) (h0 : Heap) (n0 : Nat) (v : Option Value) (h : Heap) (L : List Loc) : Prop := (v = some (.int 0) ∧ Fr n0 L ∧ h = h0)
set_option maxRecDepth 65536 in
set_option maxHeartbeats 40000000 in
theorem own_rm73 (l : Launch) (Z : State) (a0 : Array Value) (hw : ∀ d ∈ tables_1, d.before a0 Z = true) (ws : List Jvm.Cond) (ob_3871 : Nat) (ob_3895 : Nat) (ob_3838 : Nat) (ob_3809 : Nat) (in_7 : Int32) (ob_3839 : Nat) (ob_3810 : Nat) (kk_3840 : ClassId) (in_1 : Int32) (kk_3811 : ClassId) (in_2 : Int32) (in_3 : Int32) (h0 : Heap) (n0 : Nat) (Z0 : n0 ≤ h0.size) (O0 : Old Z n0 h0) (I4133 : Exa Z h0 ob_3895 cN4) (I4138 : Fld Z h0 ob_3895 cN4 "name" cN5 (.ref ob_3838)) (I4143 : Fld Z h0 ob_3871 cN4 "name" cN5 (.ref ob_3809)) (I4148 : @Ne Nat ob_3838 ob_3809) (I4149 : Exa Z h0 ob_3809 cN1) (I4150 : Sta Z Z.heap cN1 "COMPACT_STRINGS" "Z" (.int in_7)) (I4151 : ¬ (in_7 = 0)) (I4152 : Fld Z h0 ob_3838 cN1 "coder" "B" (.int 0)) (I4153 : Fld Z h0 ob_3809 cN1 "coder" "B" (.int 0)) (I4154 : Fld Z h0 ob_3838 cN1 "value" "[B" (.ref ob_3839)) (I4155 : Fld Z h0 ob_3809 cN1 "value" "[B" (.ref ob_3810)) (I4156 : Arv Z h0 ob_3839 kk_3840 .byte 1 [(.int ((in_1 &&& 255).toInt8.toInt32))] (.int 0)) (I4157 : Arv Z h0 ob_3810 kk_3811 .byte 3 [(.int ((in_1 &&& 255).toInt8.toInt32)), (.int ((in_2 &&& 255).toInt8.toInt32)), (.int ((in_3 &&& 255).toInt8.toInt32))] (.int 0)) (I4158 : Exa Z h0 ob_3838 cN1) :
    own_Met l Z h0 mN13 prog_11_method_4_code 3 (Option.some FieldType.boolean) ws ({ frames := 2, cells := 0, slots := 0, locals := 28 } : Room) #[(.ref ob_3871), (.ref ob_3895)] (own_Q73 Z ob_3871 ob_3895 ob_3838 ob_3809 in_7 ob_3839 ob_3810 kk_3840 in_1 kk_3811 in_2 in_3 h0 n0) 0 0 := by
  refine MetFree.of_bodySF own_pn13 hisR ?_
  intro p e s m args below meth c s₁ Bd hml0 hP hK
  obtain ⟨rfl, hZ, hh⟩ := hP
  have hx := Bd.exec
  have hby := Bd.bytes
  have hml : c.maxLocals = 3 := hml0
  have hown : s.vm.findClass cN4 = some m.cls := findClass_of_methodNamed Bd.named
  have hnm := (name_of_methodNamed Bd.named Bd.method).1
  have X0 : Stand p l e ({ frames := 2, cells := 0, slots := 0, locals := 28 } : Room) s m #[(.ref ob_3871), (.ref ob_3895)] below meth c s₁ [] 0 0 := Stand.of_body Bd
  have e0 : s₁.heap = h0 := by rw [← hh, Bd.state]; rfl
  have N0 := Fr.nil n0
  show own_G p e below (s₁.setTop (entryFrame m #[(.ref ob_3871), (.ref ob_3895)] 3)) (own_P s (own_Q73 Z ob_3871 ob_3895 ob_3838 ob_3809 in_7 ob_3839 ob_3810 kk_3840 in_1 kk_3811 in_2 in_3 h0 n0) 0 0)
  refine own_cast (own_ef8 m ob_3871 ob_3895) ?_
  show own_G p e below (s₁.setTop (mkF m 0 #[rv ob_3871, rv ob_3895, .unset] [])) _
  refine oS (fun _ => XS.aloadN X0.here hx rfl (hb hby dd13_0) rfl rfl) ?_
  obtain ⟨T4129, X4130, e4131, s4132⟩ := instY X0 hx hZ hown (oW hw 52 rfl) e0 (Ins.self I4133) (g := (mkF m 1 #[rv ob_3871, rv ob_3895, .unset] [(.ref ob_3895)])) rfl rfl (hb hby dd13_1)
  refine oS s4132 ?_
  show own_G p e below (T4129.setTop (mkF m 4 #[rv ob_3871, rv ob_3895, .unset] [(.int 1)])) _
  refine oS (fun _ => XS.ifNo X4130.here hx rfl (hb hby dd13_4) rfl (XT.i0_eq_f (by decide))) ?_
  show own_G p e below (T4129.setTop (mkF m 7 #[rv ob_3871, rv ob_3895, .unset] [])) _
  refine oS (fun _ => XS.aloadN X4130.here hx rfl (hb hby dd13_7) rfl rfl) ?_
  obtain ⟨T4134, X4135, e4136, s4137⟩ := castY X4130 hx hZ hown (oW hw 52 rfl) e4131 (Ins.self I4133) (g := (mkF m 8 #[rv ob_3871, rv ob_3895, .unset] [(.ref ob_3895)])) rfl rfl (hb hby dd13_8)
  refine oS s4137 ?_
  show own_G p e below (T4134.setTop (mkF m 11 #[rv ob_3871, rv ob_3895, .unset] [(.ref ob_3895)])) _
  refine oS (fun _ => XS.astoreN X4135.here hx rfl (hb hby dd13_11) rfl rfl (l' := #[rv ob_3871, rv ob_3895, rv ob_3895]) rfl) ?_
  refine oS (fun _ => XS.aloadN X4135.here hx rfl (hb hby dd13_12) rfl rfl) ?_
  obtain ⟨T4139, X4140, e4141, s4142⟩ := getF X4135 hx hZ hown (host := "") (Or.inl (oW hw 58 rfl)) Via.refl e4136 I4138 (g := (mkF m 13 #[rv ob_3871, rv ob_3895, rv ob_3895] [(.ref ob_3895)])) rfl rfl (hb hby dd13_13)
  refine oS s4142 ?_
  show own_G p e below (T4139.setTop (mkF m 16 #[rv ob_3871, rv ob_3895, rv ob_3895] [(.ref ob_3838)])) _
  refine oS (fun _ => XS.aloadN X4140.here hx rfl (hb hby dd13_16) rfl rfl) ?_
  obtain ⟨T4144, X4145, e4146, s4147⟩ := getF X4140 hx hZ hown (host := "") (Or.inl (oW hw 58 rfl)) Via.refl e4141 I4143 (g := (mkF m 17 #[rv ob_3871, rv ob_3895, rv ob_3895] [(.ref ob_3871), (.ref ob_3838)])) rfl rfl (hb hby dd13_17)
  refine oS s4147 ?_
  show own_G p e below (T4144.setTop (mkF m 20 #[rv ob_3871, rv ob_3895, rv ob_3895] [(.ref ob_3809), (.ref ob_3838)])) _
  obtain ⟨T4159, h4160, v4161, L4162, X4163, e4164, q4165, s4166⟩ := own_callV X4145 hx hZ hown e4146 (y := mN11) (z := mN11) (C := cN1) (b := ob_3838) (oW hw 83 rfl) (oW hw 61 rfl) (notFace_of_selects (args := #[]) (mvT hZ (oW hw 63 rfl))) (oW hw 63 rfl) (oW hw 62 rfl) (oW hw 8 rfl) (oW hw 64 rfl) (by decide) I4158 (W := 0) (own_rm48 l Z a0 hw [] ob_3838 ob_3809 in_7 ob_3839 ob_3810 kk_3840 in_1 kk_3811 in_2 in_3 h0 n0 Z0 O0 I4148 I4149 I4150 I4151 I4152 I4153 I4154 I4155 I4156 I4157) (by decide) (by decide) (by decide) (by decide) (g := (mkF m 20 #[rv ob_3871, rv ob_3895, rv ob_3895] [(.ref ob_3809), (.ref ob_3838)])) rfl (by rw [hml]; rfl) (argsL := [(.ref ob_3809)]) (rest := []) rfl (lenOf own_pd11 rfl) rfl (by show 2 * 0 + _ ≤ _; exact Nat.le_of_eq rfl) (hb hby dd13_20)
  refine oS s4166 ?_
  obtain ⟨rfl, N4167, K4168⟩ := q4165
  have N4169 := Fr.app N0 N4167
  have e4170 := e4164.trans K4168
  show own_G p e below (T4159.setTop (mkF m 23 #[rv ob_3871, rv ob_3895, rv ob_3895] [(.int 0)])) _
  refine oS (fun _ => XS.ifYes X4163.here hx rfl (pc0 := 23) (pc' := 30) rfl (hb hby dd13_23) rfl (XT.i0_eq_t (by decide)) (by decide) (by decide)) ?_
  show own_G p e below (T4159.setTop (mkF m 30 #[rv ob_3871, rv ob_3895, rv ob_3895] [])) _
  refine oS (fun _ => XS.iconst X4163.here hx rfl (hb hby dd13_30) ) ?_
  exact own_retN X4163 hx (t := .boolean) Bd.notSynchronized Bd.returns (by simp) (hb hby dd13_31) (by decide) e4170 (by decide) (by decide) (⟨rfl, N4169, rfl⟩)
def own_Q74 (Z : State) (ob_4255 : Nat) (ob_4279 : Nat) (ob_4222 : Nat) (ob_4193 : Nat) (in_7 : Int32) (ob_4223 : Nat) (ob_4194 : Nat) (kk_4224 : ClassId) (in_1 : Int32) (in_2 : Int32) (kk_4195 : ClassId) (in_3 : Int32) (h0 : Heap) (n0 : Nat) (v : Option Value) (h : Heap) (L : List Loc) : Prop := (v = some (.int 0) ∧ Fr n0 L ∧ h = h0)
set_option maxRecDepth 65536 in
set_option maxHeartbeats 40000000 in
theorem own_rm74 (l : Launch) (Z : State) (a0 : Array Value) (hw : ∀ d ∈ tables_1, d.before a0 Z = true) (ws : List Jvm.Cond) (ob_4255 : Nat) (ob_4279 : Nat) (ob_4222 : Nat) (ob_4193 : Nat) (in_7 : Int32) (ob_4223 : Nat) (ob_4194 : Nat) (kk_4224 : ClassId) (in_1 : Int32) (in_2 : Int32) (kk_4195 : ClassId) (in_3 : Int32) (h0 : Heap) (n0 : Nat) (Z0 : n0 ≤ h0.size) (O0 : Old Z n0 h0) (I4403 : Exa Z h0 ob_4279 cN4) (I4408 : Fld Z h0 ob_4279 cN4 "name" cN5 (.ref ob_4222)) (I4413 : Fld Z h0 ob_4255 cN4 "name" cN5 (.ref ob_4193)) (I4418 : @Ne Nat ob_4222 ob_4193) (I4419 : Exa Z h0 ob_4193 cN1) (I4420 : Sta Z Z.heap cN1 "COMPACT_STRINGS" "Z" (.int in_7)) (I4421 : ¬ (in_7 = 0)) (I4422 : Fld Z h0 ob_4222 cN1 "coder" "B" (.int 0)) (I4423 : Fld Z h0 ob_4193 cN1 "coder" "B" (.int 0)) (I4424 : Fld Z h0 ob_4222 cN1 "value" "[B" (.ref ob_4223)) (I4425 : Fld Z h0 ob_4193 cN1 "value" "[B" (.ref ob_4194)) (I4426 : Arv Z h0 ob_4223 kk_4224 .byte 2 [(.int ((in_1 &&& 255).toInt8.toInt32)), (.int ((in_2 &&& 255).toInt8.toInt32))] (.int 0)) (I4427 : Exa Z h0 ob_4222 cN1) (I4428 : Arv Z h0 ob_4194 kk_4195 .byte 3 [(.int ((in_1 &&& 255).toInt8.toInt32)), (.int ((in_2 &&& 255).toInt8.toInt32)), (.int ((in_3 &&& 255).toInt8.toInt32))] (.int 0)) :
    own_Met l Z h0 mN13 prog_11_method_4_code 3 (Option.some FieldType.boolean) ws ({ frames := 2, cells := 0, slots := 0, locals := 28 } : Room) #[(.ref ob_4255), (.ref ob_4279)] (own_Q74 Z ob_4255 ob_4279 ob_4222 ob_4193 in_7 ob_4223 ob_4194 kk_4224 in_1 in_2 kk_4195 in_3 h0 n0) 0 0 := by
  refine MetFree.of_bodySF own_pn13 hisR ?_
  intro p e s m args below meth c s₁ Bd hml0 hP hK
  obtain ⟨rfl, hZ, hh⟩ := hP
  have hx := Bd.exec
  have hby := Bd.bytes
  have hml : c.maxLocals = 3 := hml0
  have hown : s.vm.findClass cN4 = some m.cls := findClass_of_methodNamed Bd.named
  have hnm := (name_of_methodNamed Bd.named Bd.method).1
  have X0 : Stand p l e ({ frames := 2, cells := 0, slots := 0, locals := 28 } : Room) s m #[(.ref ob_4255), (.ref ob_4279)] below meth c s₁ [] 0 0 := Stand.of_body Bd
  have e0 : s₁.heap = h0 := by rw [← hh, Bd.state]; rfl
  have N0 := Fr.nil n0
  show own_G p e below (s₁.setTop (entryFrame m #[(.ref ob_4255), (.ref ob_4279)] 3)) (own_P s (own_Q74 Z ob_4255 ob_4279 ob_4222 ob_4193 in_7 ob_4223 ob_4194 kk_4224 in_1 in_2 kk_4195 in_3 h0 n0) 0 0)
  refine own_cast (own_ef8 m ob_4255 ob_4279) ?_
  show own_G p e below (s₁.setTop (mkF m 0 #[rv ob_4255, rv ob_4279, .unset] [])) _
  refine oS (fun _ => XS.aloadN X0.here hx rfl (hb hby dd13_0) rfl rfl) ?_
  obtain ⟨T4399, X4400, e4401, s4402⟩ := instY X0 hx hZ hown (oW hw 52 rfl) e0 (Ins.self I4403) (g := (mkF m 1 #[rv ob_4255, rv ob_4279, .unset] [(.ref ob_4279)])) rfl rfl (hb hby dd13_1)
  refine oS s4402 ?_
  show own_G p e below (T4399.setTop (mkF m 4 #[rv ob_4255, rv ob_4279, .unset] [(.int 1)])) _
  refine oS (fun _ => XS.ifNo X4400.here hx rfl (hb hby dd13_4) rfl (XT.i0_eq_f (by decide))) ?_
  show own_G p e below (T4399.setTop (mkF m 7 #[rv ob_4255, rv ob_4279, .unset] [])) _
  refine oS (fun _ => XS.aloadN X4400.here hx rfl (hb hby dd13_7) rfl rfl) ?_
  obtain ⟨T4404, X4405, e4406, s4407⟩ := castY X4400 hx hZ hown (oW hw 52 rfl) e4401 (Ins.self I4403) (g := (mkF m 8 #[rv ob_4255, rv ob_4279, .unset] [(.ref ob_4279)])) rfl rfl (hb hby dd13_8)
  refine oS s4407 ?_
  show own_G p e below (T4404.setTop (mkF m 11 #[rv ob_4255, rv ob_4279, .unset] [(.ref ob_4279)])) _
  refine oS (fun _ => XS.astoreN X4405.here hx rfl (hb hby dd13_11) rfl rfl (l' := #[rv ob_4255, rv ob_4279, rv ob_4279]) rfl) ?_
  refine oS (fun _ => XS.aloadN X4405.here hx rfl (hb hby dd13_12) rfl rfl) ?_
  obtain ⟨T4409, X4410, e4411, s4412⟩ := getF X4405 hx hZ hown (host := "") (Or.inl (oW hw 58 rfl)) Via.refl e4406 I4408 (g := (mkF m 13 #[rv ob_4255, rv ob_4279, rv ob_4279] [(.ref ob_4279)])) rfl rfl (hb hby dd13_13)
  refine oS s4412 ?_
  show own_G p e below (T4409.setTop (mkF m 16 #[rv ob_4255, rv ob_4279, rv ob_4279] [(.ref ob_4222)])) _
  refine oS (fun _ => XS.aloadN X4410.here hx rfl (hb hby dd13_16) rfl rfl) ?_
  obtain ⟨T4414, X4415, e4416, s4417⟩ := getF X4410 hx hZ hown (host := "") (Or.inl (oW hw 58 rfl)) Via.refl e4411 I4413 (g := (mkF m 17 #[rv ob_4255, rv ob_4279, rv ob_4279] [(.ref ob_4255), (.ref ob_4222)])) rfl rfl (hb hby dd13_17)
  refine oS s4417 ?_
  show own_G p e below (T4414.setTop (mkF m 20 #[rv ob_4255, rv ob_4279, rv ob_4279] [(.ref ob_4193), (.ref ob_4222)])) _
  obtain ⟨T4429, h4430, v4431, L4432, X4433, e4434, q4435, s4436⟩ := own_callV X4415 hx hZ hown e4416 (y := mN11) (z := mN11) (C := cN1) (b := ob_4222) (oW hw 83 rfl) (oW hw 61 rfl) (notFace_of_selects (args := #[]) (mvT hZ (oW hw 63 rfl))) (oW hw 63 rfl) (oW hw 62 rfl) (oW hw 8 rfl) (oW hw 64 rfl) (by decide) I4427 (W := 0) (own_rm65 l Z a0 hw [] ob_4222 ob_4193 in_7 ob_4223 ob_4194 kk_4224 in_1 in_2 kk_4195 in_3 h0 n0 Z0 O0 I4418 I4419 I4420 I4421 I4422 I4423 I4424 I4425 I4426 I4428) (by decide) (by decide) (by decide) (by decide) (g := (mkF m 20 #[rv ob_4255, rv ob_4279, rv ob_4279] [(.ref ob_4193), (.ref ob_4222)])) rfl (by rw [hml]; rfl) (argsL := [(.ref ob_4193)]) (rest := []) rfl (lenOf own_pd11 rfl) rfl (by show 2 * 0 + _ ≤ _; exact Nat.le_of_eq rfl) (hb hby dd13_20)
  refine oS s4436 ?_
  obtain ⟨rfl, N4437, K4438⟩ := q4435
  have N4439 := Fr.app N0 N4437
  have e4440 := e4434.trans K4438
  show own_G p e below (T4429.setTop (mkF m 23 #[rv ob_4255, rv ob_4279, rv ob_4279] [(.int 0)])) _
  refine oS (fun _ => XS.ifYes X4433.here hx rfl (pc0 := 23) (pc' := 30) rfl (hb hby dd13_23) rfl (XT.i0_eq_t (by decide)) (by decide) (by decide)) ?_
  show own_G p e below (T4429.setTop (mkF m 30 #[rv ob_4255, rv ob_4279, rv ob_4279] [])) _
  refine oS (fun _ => XS.iconst X4433.here hx rfl (hb hby dd13_30) ) ?_
  exact own_retN X4433 hx (t := .boolean) Bd.notSynchronized Bd.returns (by simp) (hb hby dd13_31) (by decide) e4440 (by decide) (by decide) (⟨rfl, N4439, rfl⟩)
theorem dd11_24 : decode jdk_43_method_13_code 24 = .ok (.iconst 0, 1) := by decide +kernel
theorem dd11_25 : decode jdk_43_method_13_code 25 = .ok (.ireturn, 1) := by decide +kernel
def own_Q76 (Z : State) (ob_4464 : Nat) (ob_4493 : Nat) (kk_4465 : ClassId) (in_1 : Int32) (in_2 : Int32) (in_3 : Int32) (kk_4494 : ClassId) (in_4 : Int32) (h0 : Heap) (n0 : Nat) (v : Option Value) (h : Heap) (L : List Loc) : Prop := ((((in_3 &&& 255).toInt8.toInt32) = ((in_4 &&& 255).toInt8.toInt32)) ∧ v = some (.int 1) ∧ Fr n0 L ∧ h = h0) ∨ (¬ (((in_3 &&& 255).toInt8.toInt32) = ((in_4 &&& 255).toInt8.toInt32)) ∧ v = some (.int 0) ∧ Fr n0 L ∧ h = h0)
set_option maxRecDepth 65536 in
set_option maxHeartbeats 40000000 in
theorem own_rm76 (l : Launch) (Z : State) (a0 : Array Value) (hw : ∀ d ∈ tables_1, d.before a0 Z = true) (ws : List Jvm.Cond) (ob_4464 : Nat) (ob_4493 : Nat) (kk_4465 : ClassId) (in_1 : Int32) (in_2 : Int32) (in_3 : Int32) (kk_4494 : ClassId) (in_4 : Int32) (h0 : Heap) (n0 : Nat) (Z0 : n0 ≤ h0.size) (O0 : Old Z n0 h0) (I4613 : Arv Z h0 ob_4464 kk_4465 .byte 3 [(.int ((in_1 &&& 255).toInt8.toInt32)), (.int ((in_2 &&& 255).toInt8.toInt32)), (.int ((in_3 &&& 255).toInt8.toInt32))] (.int 0)) (I4614 : Arv Z h0 ob_4493 kk_4494 .byte 3 [(.int ((in_1 &&& 255).toInt8.toInt32)), (.int ((in_2 &&& 255).toInt8.toInt32)), (.int ((in_4 &&& 255).toInt8.toInt32))] (.int 0)) :
    own_Met l Z h0 mN10 jdk_43_method_13_code 3 (Option.some FieldType.boolean) ws ({ frames := 0, cells := 0, slots := 0, locals := 0 } : Room) #[(.ref ob_4464), (.ref ob_4493)] (own_Q76 Z ob_4464 ob_4493 kk_4465 in_1 in_2 in_3 kk_4494 in_4 h0 n0) 0 0 := by
  refine MetFree.of_bodySF own_pn10 hisR ?_
  intro p e s m args below meth c s₁ Bd hml0 hP hK
  obtain ⟨rfl, hZ, hh⟩ := hP
  have hx := Bd.exec
  have hby := Bd.bytes
  have hml : c.maxLocals = 3 := hml0
  have hown : s.vm.findClass cN6 = some m.cls := findClass_of_methodNamed Bd.named
  have hnm := (name_of_methodNamed Bd.named Bd.method).1
  have X0 : Stand p l e ({ frames := 0, cells := 0, slots := 0, locals := 0 } : Room) s m #[(.ref ob_4464), (.ref ob_4493)] below meth c s₁ [] 0 0 := Stand.of_body Bd
  have e0 : s₁.heap = h0 := by rw [← hh, Bd.state]; rfl
  have N0 := Fr.nil n0
  show own_G p e below (s₁.setTop (entryFrame m #[(.ref ob_4464), (.ref ob_4493)] 3)) (own_P s (own_Q76 Z ob_4464 ob_4493 kk_4465 in_1 in_2 in_3 kk_4494 in_4 h0 n0) 0 0)
  refine own_cast (own_ef8 m ob_4464 ob_4493) ?_
  show own_G p e below (s₁.setTop (mkF m 0 #[rv ob_4464, rv ob_4493, .unset] [])) _
  refine oS (fun _ => XS.aloadN X0.here hx rfl (hb hby dd11_0) rfl rfl) ?_
  refine oS (own_len X0 hx hZ e0 I4613 rfl rfl (hb hby dd11_1)) ?_
  show own_G p e below (s₁.setTop (mkF m 2 #[rv ob_4464, rv ob_4493, .unset] [(.int 3)])) _
  refine oS (fun _ => XS.aloadN X0.here hx rfl (hb hby dd11_2) rfl rfl) ?_
  refine oS (own_len X0 hx hZ e0 I4614 rfl rfl (hb hby dd11_3)) ?_
  show own_G p e below (s₁.setTop (mkF m 4 #[rv ob_4464, rv ob_4493, .unset] [(.int 3), (.int 3)])) _
  refine oS (fun _ => XS.icmpNo X0.here hx rfl (hb hby dd11_4) rfl (XT.ii_ne_f (by decide))) ?_
  show own_G p e below (s₁.setTop (mkF m 7 #[rv ob_4464, rv ob_4493, .unset] [])) _
  refine oS (fun _ => XS.iconst X0.here hx rfl (hb hby dd11_7) ) ?_
  refine oS (fun _ => XS.istoreN X0.here hx rfl (hb hby dd11_8) rfl (l' := #[rv ob_4464, rv ob_4493, iv 0]) rfl) ?_
  refine oS (fun _ => XS.iloadN X0.here hx rfl (hb hby dd11_9) rfl) ?_
  refine oS (fun _ => XS.aloadN X0.here hx rfl (hb hby dd11_10) rfl rfl) ?_
  show own_G p e below (s₁.setTop (mkF m 11 #[rv ob_4464, rv ob_4493, iv 0] [(.ref ob_4464), (.int 0)])) _
  refine oS (own_len X0 hx hZ e0 I4613 rfl rfl (hb hby dd11_11)) ?_
  show own_G p e below (s₁.setTop (mkF m 12 #[rv ob_4464, rv ob_4493, iv 0] [(.int 3), (.int 0)])) _
  refine oS (fun _ => XS.icmpNo X0.here hx rfl (hb hby dd11_12) rfl (XT.ii_ge_f (by decide))) ?_
  show own_G p e below (s₁.setTop (mkF m 15 #[rv ob_4464, rv ob_4493, iv 0] [])) _
  refine oS (fun _ => XS.aloadN X0.here hx rfl (hb hby dd11_15) rfl rfl) ?_
  refine oS (fun _ => XS.iloadN X0.here hx rfl (hb hby dd11_16) rfl) ?_
  refine oS (own_baload X0 hx hZ e0 I4613 (by decide) (v := (.int ((in_1 &&& 255).toInt8.toInt32))) rfl rfl rfl (hb hby dd11_17)) ?_
  show own_G p e below (s₁.setTop (mkF m 18 #[rv ob_4464, rv ob_4493, iv 0] [(.int ((in_1 &&& 255).toInt8.toInt32))])) _
  refine oS (fun _ => XS.aloadN X0.here hx rfl (hb hby dd11_18) rfl rfl) ?_
  refine oS (fun _ => XS.iloadN X0.here hx rfl (hb hby dd11_19) rfl) ?_
  refine oS (own_baload X0 hx hZ e0 I4614 (by decide) (v := (.int ((in_1 &&& 255).toInt8.toInt32))) rfl rfl rfl (hb hby dd11_20)) ?_
  show own_G p e below (s₁.setTop (mkF m 21 #[rv ob_4464, rv ob_4493, iv 0] [(.int ((in_1 &&& 255).toInt8.toInt32)), (.int ((in_1 &&& 255).toInt8.toInt32))])) _
  refine oS (fun _ => XS.icmpYes X0.here hx rfl (pc0 := 21) (pc' := 26) rfl (hb hby dd11_21) rfl (XT.ii_eq_t rfl) (by decide) (by decide)) ?_
  show own_G p e below (s₁.setTop (mkF m 26 #[rv ob_4464, rv ob_4493, iv 0] [])) _
  refine oS (fun _ => XS.iinc X0.here hx rfl (hb hby dd11_26) rfl (l' := #[rv ob_4464, rv ob_4493, iv 1]) rfl) ?_
  show own_G p e below (s₁.setTop (mkF m 29 #[rv ob_4464, rv ob_4493, iv 1] [])) _
  refine oS (fun _ => XS.goto X0.here hx rfl (pc0 := 29) (pc' := 9) rfl (hb hby dd11_29) (by decide) (by decide)) ?_
  show own_G p e below (s₁.setTop (mkF m 9 #[rv ob_4464, rv ob_4493, iv 1] [])) _
  refine oS (fun _ => XS.iloadN X0.here hx rfl (hb hby dd11_9) rfl) ?_
  refine oS (fun _ => XS.aloadN X0.here hx rfl (hb hby dd11_10) rfl rfl) ?_
  refine oS (own_len X0 hx hZ e0 I4613 rfl rfl (hb hby dd11_11)) ?_
  show own_G p e below (s₁.setTop (mkF m 12 #[rv ob_4464, rv ob_4493, iv 1] [(.int 3), (.int 1)])) _
  refine oS (fun _ => XS.icmpNo X0.here hx rfl (hb hby dd11_12) rfl (XT.ii_ge_f (by decide))) ?_
  show own_G p e below (s₁.setTop (mkF m 15 #[rv ob_4464, rv ob_4493, iv 1] [])) _
  refine oS (fun _ => XS.aloadN X0.here hx rfl (hb hby dd11_15) rfl rfl) ?_
  refine oS (fun _ => XS.iloadN X0.here hx rfl (hb hby dd11_16) rfl) ?_
  refine oS (own_baload X0 hx hZ e0 I4613 (by decide) (v := (.int ((in_2 &&& 255).toInt8.toInt32))) rfl rfl rfl (hb hby dd11_17)) ?_
  show own_G p e below (s₁.setTop (mkF m 18 #[rv ob_4464, rv ob_4493, iv 1] [(.int ((in_2 &&& 255).toInt8.toInt32))])) _
  refine oS (fun _ => XS.aloadN X0.here hx rfl (hb hby dd11_18) rfl rfl) ?_
  refine oS (fun _ => XS.iloadN X0.here hx rfl (hb hby dd11_19) rfl) ?_
  refine oS (own_baload X0 hx hZ e0 I4614 (by decide) (v := (.int ((in_2 &&& 255).toInt8.toInt32))) rfl rfl rfl (hb hby dd11_20)) ?_
  show own_G p e below (s₁.setTop (mkF m 21 #[rv ob_4464, rv ob_4493, iv 1] [(.int ((in_2 &&& 255).toInt8.toInt32)), (.int ((in_2 &&& 255).toInt8.toInt32))])) _
  refine oS (fun _ => XS.icmpYes X0.here hx rfl (pc0 := 21) (pc' := 26) rfl (hb hby dd11_21) rfl (XT.ii_eq_t rfl) (by decide) (by decide)) ?_
  show own_G p e below (s₁.setTop (mkF m 26 #[rv ob_4464, rv ob_4493, iv 1] [])) _
  refine oS (fun _ => XS.iinc X0.here hx rfl (hb hby dd11_26) rfl (l' := #[rv ob_4464, rv ob_4493, iv 2]) rfl) ?_
  show own_G p e below (s₁.setTop (mkF m 29 #[rv ob_4464, rv ob_4493, iv 2] [])) _
  refine oS (fun _ => XS.goto X0.here hx rfl (pc0 := 29) (pc' := 9) rfl (hb hby dd11_29) (by decide) (by decide)) ?_
  show own_G p e below (s₁.setTop (mkF m 9 #[rv ob_4464, rv ob_4493, iv 2] [])) _
  refine oS (fun _ => XS.iloadN X0.here hx rfl (hb hby dd11_9) rfl) ?_
  refine oS (fun _ => XS.aloadN X0.here hx rfl (hb hby dd11_10) rfl rfl) ?_
  refine oS (own_len X0 hx hZ e0 I4613 rfl rfl (hb hby dd11_11)) ?_
  show own_G p e below (s₁.setTop (mkF m 12 #[rv ob_4464, rv ob_4493, iv 2] [(.int 3), (.int 2)])) _
  refine oS (fun _ => XS.icmpNo X0.here hx rfl (hb hby dd11_12) rfl (XT.ii_ge_f (by decide))) ?_
  show own_G p e below (s₁.setTop (mkF m 15 #[rv ob_4464, rv ob_4493, iv 2] [])) _
  refine oS (fun _ => XS.aloadN X0.here hx rfl (hb hby dd11_15) rfl rfl) ?_
  refine oS (fun _ => XS.iloadN X0.here hx rfl (hb hby dd11_16) rfl) ?_
  refine oS (own_baload X0 hx hZ e0 I4613 (by decide) (v := (.int ((in_3 &&& 255).toInt8.toInt32))) rfl rfl rfl (hb hby dd11_17)) ?_
  show own_G p e below (s₁.setTop (mkF m 18 #[rv ob_4464, rv ob_4493, iv 2] [(.int ((in_3 &&& 255).toInt8.toInt32))])) _
  refine oS (fun _ => XS.aloadN X0.here hx rfl (hb hby dd11_18) rfl rfl) ?_
  refine oS (fun _ => XS.iloadN X0.here hx rfl (hb hby dd11_19) rfl) ?_
  refine oS (own_baload X0 hx hZ e0 I4614 (by decide) (v := (.int ((in_4 &&& 255).toInt8.toInt32))) rfl rfl rfl (hb hby dd11_20)) ?_
  show own_G p e below (s₁.setTop (mkF m 21 #[rv ob_4464, rv ob_4493, iv 2] [(.int ((in_4 &&& 255).toInt8.toInt32)), (.int ((in_3 &&& 255).toInt8.toInt32))])) _
  by_cases b4615 : ((in_3 &&& 255).toInt8.toInt32) = ((in_4 &&& 255).toInt8.toInt32)
  · skip
    refine oS (fun _ => XS.icmpYes X0.here hx rfl (pc0 := 21) (pc' := 26) rfl (hb hby dd11_21) rfl (XT.ii_eq_t b4615) (by decide) (by decide)) ?_
    show own_G p e below (s₁.setTop (mkF m 26 #[rv ob_4464, rv ob_4493, iv 2] [])) _
    refine oS (fun _ => XS.iinc X0.here hx rfl (hb hby dd11_26) rfl (l' := #[rv ob_4464, rv ob_4493, iv 3]) rfl) ?_
    show own_G p e below (s₁.setTop (mkF m 29 #[rv ob_4464, rv ob_4493, iv 3] [])) _
    refine oS (fun _ => XS.goto X0.here hx rfl (pc0 := 29) (pc' := 9) rfl (hb hby dd11_29) (by decide) (by decide)) ?_
    show own_G p e below (s₁.setTop (mkF m 9 #[rv ob_4464, rv ob_4493, iv 3] [])) _
    refine oS (fun _ => XS.iloadN X0.here hx rfl (hb hby dd11_9) rfl) ?_
    refine oS (fun _ => XS.aloadN X0.here hx rfl (hb hby dd11_10) rfl rfl) ?_
    refine oS (own_len X0 hx hZ e0 I4613 rfl rfl (hb hby dd11_11)) ?_
    show own_G p e below (s₁.setTop (mkF m 12 #[rv ob_4464, rv ob_4493, iv 3] [(.int 3), (.int 3)])) _
    refine oS (fun _ => XS.icmpYes X0.here hx rfl (pc0 := 12) (pc' := 32) rfl (hb hby dd11_12) rfl (XT.ii_ge_t (by decide)) (by decide) (by decide)) ?_
    show own_G p e below (s₁.setTop (mkF m 32 #[rv ob_4464, rv ob_4493, iv 3] [])) _
    refine oS (fun _ => XS.iconst X0.here hx rfl (hb hby dd11_32) ) ?_
    exact own_retN X0 hx (t := .boolean) Bd.notSynchronized Bd.returns (by simp) (hb hby dd11_33) (by decide) e0 (by decide) (by decide) (Or.inl ⟨b4615, rfl, N0, rfl⟩)
  · skip
    refine oS (fun _ => XS.icmpNo X0.here hx rfl (hb hby dd11_21) rfl (XT.ii_eq_f b4615)) ?_
    show own_G p e below (s₁.setTop (mkF m 24 #[rv ob_4464, rv ob_4493, iv 2] [])) _
    refine oS (fun _ => XS.iconst X0.here hx rfl (hb hby dd11_24) ) ?_
    exact own_retN X0 hx (t := .boolean) Bd.notSynchronized Bd.returns (by simp) (hb hby dd11_25) (by decide) e0 (by decide) (by decide) (Or.inr (⟨b4615, rfl, N0, rfl⟩))
def own_Q75 (Z : State) (ob_4463 : Nat) (ob_4492 : Nat) (in_7 : Int32) (ob_4464 : Nat) (ob_4493 : Nat) (kk_4465 : ClassId) (in_1 : Int32) (in_2 : Int32) (in_3 : Int32) (kk_4494 : ClassId) (in_4 : Int32) (h0 : Heap) (n0 : Nat) (v : Option Value) (h : Heap) (L : List Loc) : Prop := ((((in_3 &&& 255).toInt8.toInt32) = ((in_4 &&& 255).toInt8.toInt32)) ∧ v = some (.int 1) ∧ Fr n0 L ∧ h = h0) ∨ (¬ (((in_3 &&& 255).toInt8.toInt32) = ((in_4 &&& 255).toInt8.toInt32)) ∧ v = some (.int 0) ∧ Fr n0 L ∧ h = h0)
set_option maxRecDepth 65536 in
set_option maxHeartbeats 40000000 in
theorem own_rm75 (l : Launch) (Z : State) (a0 : Array Value) (hw : ∀ d ∈ tables_1, d.before a0 Z = true) (ws : List Jvm.Cond) (ob_4463 : Nat) (ob_4492 : Nat) (in_7 : Int32) (ob_4464 : Nat) (ob_4493 : Nat) (kk_4465 : ClassId) (in_1 : Int32) (in_2 : Int32) (in_3 : Int32) (kk_4494 : ClassId) (in_4 : Int32) (h0 : Heap) (n0 : Nat) (Z0 : n0 ≤ h0.size) (O0 : Old Z n0 h0) (I4574 : @Ne Nat ob_4463 ob_4492) (I4579 : Exa Z h0 ob_4492 cN1) (I4584 : Sta Z Z.heap cN1 "COMPACT_STRINGS" "Z" (.int in_7)) (I4590 : ¬ (in_7 = 0)) (I4591 : Fld Z h0 ob_4463 cN1 "coder" "B" (.int 0)) (I4596 : Fld Z h0 ob_4492 cN1 "coder" "B" (.int 0)) (I4601 : Fld Z h0 ob_4463 cN1 "value" "[B" (.ref ob_4464)) (I4606 : Fld Z h0 ob_4492 cN1 "value" "[B" (.ref ob_4493)) (I4611 : Arv Z h0 ob_4464 kk_4465 .byte 3 [(.int ((in_1 &&& 255).toInt8.toInt32)), (.int ((in_2 &&& 255).toInt8.toInt32)), (.int ((in_3 &&& 255).toInt8.toInt32))] (.int 0)) (I4612 : Arv Z h0 ob_4493 kk_4494 .byte 3 [(.int ((in_1 &&& 255).toInt8.toInt32)), (.int ((in_2 &&& 255).toInt8.toInt32)), (.int ((in_4 &&& 255).toInt8.toInt32))] (.int 0)) :
    own_Met l Z h0 mN11 jdk_42_method_66_code 3 (Option.some FieldType.boolean) ws ({ frames := 1, cells := 0, slots := 0, locals := 14 } : Room) #[(.ref ob_4463), (.ref ob_4492)] (own_Q75 Z ob_4463 ob_4492 in_7 ob_4464 ob_4493 kk_4465 in_1 in_2 in_3 kk_4494 in_4 h0 n0) 0 0 := by
  refine MetFree.of_bodySF own_pn11 hisR ?_
  intro p e s m args below meth c s₁ Bd hml0 hP hK
  obtain ⟨rfl, hZ, hh⟩ := hP
  have hx := Bd.exec
  have hby := Bd.bytes
  have hml : c.maxLocals = 3 := hml0
  have hown : s.vm.findClass cN1 = some m.cls := findClass_of_methodNamed Bd.named
  have hnm := (name_of_methodNamed Bd.named Bd.method).1
  have X0 : Stand p l e ({ frames := 1, cells := 0, slots := 0, locals := 14 } : Room) s m #[(.ref ob_4463), (.ref ob_4492)] below meth c s₁ [] 0 0 := Stand.of_body Bd
  have e0 : s₁.heap = h0 := by rw [← hh, Bd.state]; rfl
  have N0 := Fr.nil n0
  show own_G p e below (s₁.setTop (entryFrame m #[(.ref ob_4463), (.ref ob_4492)] 3)) (own_P s (own_Q75 Z ob_4463 ob_4492 in_7 ob_4464 ob_4493 kk_4465 in_1 in_2 in_3 kk_4494 in_4 h0 n0) 0 0)
  refine own_cast (own_ef8 m ob_4463 ob_4492) ?_
  show own_G p e below (s₁.setTop (mkF m 0 #[rv ob_4463, rv ob_4492, .unset] [])) _
  refine oS (fun _ => XS.aloadN X0.here hx rfl (hb hby dd10_0) rfl rfl) ?_
  refine oS (fun _ => XS.aloadN X0.here hx rfl (hb hby dd10_1) rfl rfl) ?_
  refine oS (fun _ => XT.acmpYes X0.here hx rfl (pc0 := 2) (pc' := 7) rfl (hb hby dd10_2) rfl rfl rfl (XT.aa_ne_t (own_rne I4574)) (by decide) (by decide)) ?_
  show own_G p e below (s₁.setTop (mkF m 7 #[rv ob_4463, rv ob_4492, .unset] [])) _
  refine oS (fun _ => XS.aloadN X0.here hx rfl (hb hby dd10_7) rfl rfl) ?_
  obtain ⟨T4575, X4576, e4577, s4578⟩ := instY X0 hx hZ hown (oW hw 65 rfl) e0 (Ins.self I4579) (g := (mkF m 8 #[rv ob_4463, rv ob_4492, .unset] [(.ref ob_4492)])) rfl rfl (hb hby dd10_8)
  refine oS s4578 ?_
  show own_G p e below (T4575.setTop (mkF m 11 #[rv ob_4463, rv ob_4492, .unset] [(.int 1)])) _
  refine oS (fun _ => XS.ifNo X4576.here hx rfl (hb hby dd10_11) rfl (XT.i0_eq_f (by decide))) ?_
  show own_G p e below (T4575.setTop (mkF m 14 #[rv ob_4463, rv ob_4492, .unset] [])) _
  refine oS (fun _ => XS.aloadN X4576.here hx rfl (hb hby dd10_14) rfl rfl) ?_
  obtain ⟨T4580, X4581, e4582, s4583⟩ := castY X4576 hx hZ hown (oW hw 65 rfl) e4577 (Ins.self I4579) (g := (mkF m 15 #[rv ob_4463, rv ob_4492, .unset] [(.ref ob_4492)])) rfl rfl (hb hby dd10_15)
  refine oS s4583 ?_
  show own_G p e below (T4580.setTop (mkF m 18 #[rv ob_4463, rv ob_4492, .unset] [(.ref ob_4492)])) _
  refine oS (fun _ => XS.astoreN X4581.here hx rfl (hb hby dd10_18) rfl rfl (l' := #[rv ob_4463, rv ob_4492, rv ob_4492]) rfl) ?_
  have F4585 : Sta Z h0 cN1 "COMPACT_STRINGS" "Z" (.int in_7) := Sta.ext O0.2 I4584
  obtain ⟨T4586, X4587, e4588, s4589⟩ := getS X4581 hx hZ hown (host := "") (oW hw 19 rfl) Via.refl e4582 F4585 (g := (mkF m 19 #[rv ob_4463, rv ob_4492, rv ob_4492] [])) rfl (hb hby dd10_19)
  refine oS s4589 ?_
  show own_G p e below (T4586.setTop (mkF m 22 #[rv ob_4463, rv ob_4492, rv ob_4492] [(.int in_7)])) _
  refine oS (fun _ => XS.ifNo X4587.here hx rfl (hb hby dd10_22) rfl (XT.i0_eq_f I4590)) ?_
  show own_G p e below (T4586.setTop (mkF m 25 #[rv ob_4463, rv ob_4492, rv ob_4492] [])) _
  refine oS (fun _ => XS.aloadN X4587.here hx rfl (hb hby dd10_25) rfl rfl) ?_
  obtain ⟨T4592, X4593, e4594, s4595⟩ := getF X4587 hx hZ hown (host := "") (Or.inl (oW hw 31 rfl)) Via.refl e4588 I4591 (g := (mkF m 26 #[rv ob_4463, rv ob_4492, rv ob_4492] [(.ref ob_4463)])) rfl rfl (hb hby dd10_26)
  refine oS s4595 ?_
  show own_G p e below (T4592.setTop (mkF m 29 #[rv ob_4463, rv ob_4492, rv ob_4492] [(.int 0)])) _
  refine oS (fun _ => XS.aloadN X4593.here hx rfl (hb hby dd10_29) rfl rfl) ?_
  obtain ⟨T4597, X4598, e4599, s4600⟩ := getF X4593 hx hZ hown (host := "") (Or.inl (oW hw 31 rfl)) Via.refl e4594 I4596 (g := (mkF m 30 #[rv ob_4463, rv ob_4492, rv ob_4492] [(.ref ob_4492), (.int 0)])) rfl rfl (hb hby dd10_30)
  refine oS s4600 ?_
  show own_G p e below (T4597.setTop (mkF m 33 #[rv ob_4463, rv ob_4492, rv ob_4492] [(.int 0), (.int 0)])) _
  refine oS (fun _ => XS.icmpNo X4598.here hx rfl (hb hby dd10_33) rfl (XT.ii_ne_f (by decide))) ?_
  show own_G p e below (T4597.setTop (mkF m 36 #[rv ob_4463, rv ob_4492, rv ob_4492] [])) _
  refine oS (fun _ => XS.aloadN X4598.here hx rfl (hb hby dd10_36) rfl rfl) ?_
  obtain ⟨T4602, X4603, e4604, s4605⟩ := getF X4598 hx hZ hown (host := "") (Or.inl (oW hw 33 rfl)) Via.refl e4599 I4601 (g := (mkF m 37 #[rv ob_4463, rv ob_4492, rv ob_4492] [(.ref ob_4463)])) rfl rfl (hb hby dd10_37)
  refine oS s4605 ?_
  show own_G p e below (T4602.setTop (mkF m 40 #[rv ob_4463, rv ob_4492, rv ob_4492] [(.ref ob_4464)])) _
  refine oS (fun _ => XS.aloadN X4603.here hx rfl (hb hby dd10_40) rfl rfl) ?_
  obtain ⟨T4607, X4608, e4609, s4610⟩ := getF X4603 hx hZ hown (host := "") (Or.inl (oW hw 33 rfl)) Via.refl e4604 I4606 (g := (mkF m 41 #[rv ob_4463, rv ob_4492, rv ob_4492] [(.ref ob_4492), (.ref ob_4464)])) rfl rfl (hb hby dd10_41)
  refine oS s4610 ?_
  show own_G p e below (T4607.setTop (mkF m 44 #[rv ob_4463, rv ob_4492, rv ob_4492] [(.ref ob_4493), (.ref ob_4464)])) _
  obtain ⟨T4616, h4617, v4618, L4619, X4620, e4621, q4622, s4623⟩ := own_callS X4608 hx hZ hown e4609 (y := mN10) (oW hw 66 rfl) (oW hw 67 rfl) (oW hw 68 rfl) (oW hw 69 rfl) (by decide) (W := 0) (own_rm76 l Z a0 hw [] ob_4464 ob_4493 kk_4465 in_1 in_2 in_3 kk_4494 in_4 h0 n0 Z0 O0 I4611 I4612) (by decide) (by decide) (by decide) (by decide) (g := (mkF m 44 #[rv ob_4463, rv ob_4492, rv ob_4492] [(.ref ob_4493), (.ref ob_4464)])) rfl (by rw [hml]; rfl) (argsL := [(.ref ob_4464), (.ref ob_4493)]) (rest := []) rfl (lenOf own_pd10 rfl) rfl (by show 2 * 0 + _ ≤ _; exact Nat.le_of_eq rfl) (hb hby dd10_44)
  refine oS s4623 ?_
  rcases q4622 with ⟨b4624, rfl, N4625, K4626⟩ | ⟨b4627, rfl, N4628, K4629⟩
  · skip
    have N4630 := Fr.app N0 N4625
    have e4631 := e4621.trans K4626
    show own_G p e below (T4616.setTop (mkF m 47 #[rv ob_4463, rv ob_4492, rv ob_4492] [(.int 1)])) _
    refine oS (fun _ => XS.ifNo X4620.here hx rfl (hb hby dd10_47) rfl (XT.i0_eq_f (by decide))) ?_
    show own_G p e below (T4616.setTop (mkF m 50 #[rv ob_4463, rv ob_4492, rv ob_4492] [])) _
    refine oS (fun _ => XS.iconst X4620.here hx rfl (hb hby dd10_50) ) ?_
    refine oS (fun _ => XS.goto X4620.here hx rfl (pc0 := 51) (pc' := 55) rfl (hb hby dd10_51) (by decide) (by decide)) ?_
    show own_G p e below (T4616.setTop (mkF m 55 #[rv ob_4463, rv ob_4492, rv ob_4492] [(.int 1)])) _
    exact own_retN X4620 hx (t := .boolean) Bd.notSynchronized Bd.returns (by simp) (hb hby dd10_55) (by decide) e4631 (by decide) (by decide) (Or.inl ⟨b4624, rfl, N4630, rfl⟩)
  · skip
    have N4632 := Fr.app N0 N4628
    have e4633 := e4621.trans K4629
    show own_G p e below (T4616.setTop (mkF m 47 #[rv ob_4463, rv ob_4492, rv ob_4492] [(.int 0)])) _
    refine oS (fun _ => XS.ifYes X4620.here hx rfl (pc0 := 47) (pc' := 54) rfl (hb hby dd10_47) rfl (XT.i0_eq_t (by decide)) (by decide) (by decide)) ?_
    show own_G p e below (T4616.setTop (mkF m 54 #[rv ob_4463, rv ob_4492, rv ob_4492] [])) _
    refine oS (fun _ => XS.iconst X4620.here hx rfl (hb hby dd10_54) ) ?_
    exact own_retN X4620 hx (t := .boolean) Bd.notSynchronized Bd.returns (by simp) (hb hby dd10_55) (by decide) e4633 (by decide) (by decide) (Or.inr (⟨b4627, rfl, N4632, rfl⟩))
def own_Q77 (Z : State) (ob_4525 : Nat) (ob_4549 : Nat) (ob_4492 : Nat) (ob_4463 : Nat) (in_7 : Int32) (ob_4493 : Nat) (ob_4464 : Nat) (kk_4494 : ClassId) (in_1 : Int32) (in_2 : Int32) (in_4 : Int32) (kk_4465 : ClassId) (in_3 : Int32) (h0 : Heap) (n0 : Nat) (v : Option Value) (h : Heap) (L : List Loc) : Prop := ((((in_4 &&& 255).toInt8.toInt32) = ((in_3 &&& 255).toInt8.toInt32)) ∧ v = some (.int 1) ∧ Fr n0 L ∧ h = h0)
set_option maxRecDepth 65536 in
set_option maxHeartbeats 40000000 in
theorem own_rm77 (l : Launch) (Z : State) (a0 : Array Value) (hw : ∀ d ∈ tables_1, d.before a0 Z = true) (ws : List Jvm.Cond) (ob_4525 : Nat) (ob_4549 : Nat) (ob_4492 : Nat) (ob_4463 : Nat) (in_7 : Int32) (ob_4493 : Nat) (ob_4464 : Nat) (kk_4494 : ClassId) (in_1 : Int32) (in_2 : Int32) (in_4 : Int32) (kk_4465 : ClassId) (in_3 : Int32) (h0 : Heap) (n0 : Nat) (Z0 : n0 ≤ h0.size) (O0 : Old Z n0 h0) (I4737 : Exa Z h0 ob_4549 cN4) (I4742 : Fld Z h0 ob_4549 cN4 "name" cN5 (.ref ob_4492)) (I4747 : Fld Z h0 ob_4525 cN4 "name" cN5 (.ref ob_4463)) (I4752 : @Ne Nat ob_4492 ob_4463) (I4753 : Exa Z h0 ob_4463 cN1) (I4754 : Sta Z Z.heap cN1 "COMPACT_STRINGS" "Z" (.int in_7)) (I4755 : ¬ (in_7 = 0)) (I4756 : Fld Z h0 ob_4492 cN1 "coder" "B" (.int 0)) (I4757 : Fld Z h0 ob_4463 cN1 "coder" "B" (.int 0)) (I4758 : Fld Z h0 ob_4492 cN1 "value" "[B" (.ref ob_4493)) (I4759 : Fld Z h0 ob_4463 cN1 "value" "[B" (.ref ob_4464)) (I4760 : Arv Z h0 ob_4493 kk_4494 .byte 3 [(.int ((in_1 &&& 255).toInt8.toInt32)), (.int ((in_2 &&& 255).toInt8.toInt32)), (.int ((in_4 &&& 255).toInt8.toInt32))] (.int 0)) (I4761 : Exa Z h0 ob_4492 cN1) (I4762 : Arv Z h0 ob_4464 kk_4465 .byte 3 [(.int ((in_1 &&& 255).toInt8.toInt32)), (.int ((in_2 &&& 255).toInt8.toInt32)), (.int ((in_3 &&& 255).toInt8.toInt32))] (.int 0)) (I4777 : ((in_4 &&& 255).toInt8.toInt32) = ((in_3 &&& 255).toInt8.toInt32)) :
    own_Met l Z h0 mN13 prog_11_method_4_code 3 (Option.some FieldType.boolean) ws ({ frames := 2, cells := 0, slots := 0, locals := 28 } : Room) #[(.ref ob_4525), (.ref ob_4549)] (own_Q77 Z ob_4525 ob_4549 ob_4492 ob_4463 in_7 ob_4493 ob_4464 kk_4494 in_1 in_2 in_4 kk_4465 in_3 h0 n0) 0 0 := by
  refine MetFree.of_bodySF own_pn13 hisR ?_
  intro p e s m args below meth c s₁ Bd hml0 hP hK
  obtain ⟨rfl, hZ, hh⟩ := hP
  have hx := Bd.exec
  have hby := Bd.bytes
  have hml : c.maxLocals = 3 := hml0
  have hown : s.vm.findClass cN4 = some m.cls := findClass_of_methodNamed Bd.named
  have hnm := (name_of_methodNamed Bd.named Bd.method).1
  have X0 : Stand p l e ({ frames := 2, cells := 0, slots := 0, locals := 28 } : Room) s m #[(.ref ob_4525), (.ref ob_4549)] below meth c s₁ [] 0 0 := Stand.of_body Bd
  have e0 : s₁.heap = h0 := by rw [← hh, Bd.state]; rfl
  have N0 := Fr.nil n0
  show own_G p e below (s₁.setTop (entryFrame m #[(.ref ob_4525), (.ref ob_4549)] 3)) (own_P s (own_Q77 Z ob_4525 ob_4549 ob_4492 ob_4463 in_7 ob_4493 ob_4464 kk_4494 in_1 in_2 in_4 kk_4465 in_3 h0 n0) 0 0)
  refine own_cast (own_ef8 m ob_4525 ob_4549) ?_
  show own_G p e below (s₁.setTop (mkF m 0 #[rv ob_4525, rv ob_4549, .unset] [])) _
  refine oS (fun _ => XS.aloadN X0.here hx rfl (hb hby dd13_0) rfl rfl) ?_
  obtain ⟨T4733, X4734, e4735, s4736⟩ := instY X0 hx hZ hown (oW hw 52 rfl) e0 (Ins.self I4737) (g := (mkF m 1 #[rv ob_4525, rv ob_4549, .unset] [(.ref ob_4549)])) rfl rfl (hb hby dd13_1)
  refine oS s4736 ?_
  show own_G p e below (T4733.setTop (mkF m 4 #[rv ob_4525, rv ob_4549, .unset] [(.int 1)])) _
  refine oS (fun _ => XS.ifNo X4734.here hx rfl (hb hby dd13_4) rfl (XT.i0_eq_f (by decide))) ?_
  show own_G p e below (T4733.setTop (mkF m 7 #[rv ob_4525, rv ob_4549, .unset] [])) _
  refine oS (fun _ => XS.aloadN X4734.here hx rfl (hb hby dd13_7) rfl rfl) ?_
  obtain ⟨T4738, X4739, e4740, s4741⟩ := castY X4734 hx hZ hown (oW hw 52 rfl) e4735 (Ins.self I4737) (g := (mkF m 8 #[rv ob_4525, rv ob_4549, .unset] [(.ref ob_4549)])) rfl rfl (hb hby dd13_8)
  refine oS s4741 ?_
  show own_G p e below (T4738.setTop (mkF m 11 #[rv ob_4525, rv ob_4549, .unset] [(.ref ob_4549)])) _
  refine oS (fun _ => XS.astoreN X4739.here hx rfl (hb hby dd13_11) rfl rfl (l' := #[rv ob_4525, rv ob_4549, rv ob_4549]) rfl) ?_
  refine oS (fun _ => XS.aloadN X4739.here hx rfl (hb hby dd13_12) rfl rfl) ?_
  obtain ⟨T4743, X4744, e4745, s4746⟩ := getF X4739 hx hZ hown (host := "") (Or.inl (oW hw 58 rfl)) Via.refl e4740 I4742 (g := (mkF m 13 #[rv ob_4525, rv ob_4549, rv ob_4549] [(.ref ob_4549)])) rfl rfl (hb hby dd13_13)
  refine oS s4746 ?_
  show own_G p e below (T4743.setTop (mkF m 16 #[rv ob_4525, rv ob_4549, rv ob_4549] [(.ref ob_4492)])) _
  refine oS (fun _ => XS.aloadN X4744.here hx rfl (hb hby dd13_16) rfl rfl) ?_
  obtain ⟨T4748, X4749, e4750, s4751⟩ := getF X4744 hx hZ hown (host := "") (Or.inl (oW hw 58 rfl)) Via.refl e4745 I4747 (g := (mkF m 17 #[rv ob_4525, rv ob_4549, rv ob_4549] [(.ref ob_4525), (.ref ob_4492)])) rfl rfl (hb hby dd13_17)
  refine oS s4751 ?_
  show own_G p e below (T4748.setTop (mkF m 20 #[rv ob_4525, rv ob_4549, rv ob_4549] [(.ref ob_4463), (.ref ob_4492)])) _
  obtain ⟨T4763, h4764, v4765, L4766, X4767, e4768, q4769, s4770⟩ := own_callV X4749 hx hZ hown e4750 (y := mN11) (z := mN11) (C := cN1) (b := ob_4492) (oW hw 83 rfl) (oW hw 61 rfl) (notFace_of_selects (args := #[]) (mvT hZ (oW hw 63 rfl))) (oW hw 63 rfl) (oW hw 62 rfl) (oW hw 8 rfl) (oW hw 64 rfl) (by decide) I4761 (W := 0) (own_rm75 l Z a0 hw [] ob_4492 ob_4463 in_7 ob_4493 ob_4464 kk_4494 in_1 in_2 in_4 kk_4465 in_3 h0 n0 Z0 O0 I4752 I4753 I4754 I4755 I4756 I4757 I4758 I4759 I4760 I4762) (by decide) (by decide) (by decide) (by decide) (g := (mkF m 20 #[rv ob_4525, rv ob_4549, rv ob_4549] [(.ref ob_4463), (.ref ob_4492)])) rfl (by rw [hml]; rfl) (argsL := [(.ref ob_4463)]) (rest := []) rfl (lenOf own_pd11 rfl) rfl (by show 2 * 0 + _ ≤ _; exact Nat.le_of_eq rfl) (hb hby dd13_20)
  refine oS s4770 ?_
  rcases q4769 with ⟨b4771, rfl, N4772, K4773⟩ | ⟨b4774, rfl, N4775, K4776⟩
  · skip
    have N4778 := Fr.app N0 N4772
    have e4779 := e4768.trans K4773
    show own_G p e below (T4763.setTop (mkF m 23 #[rv ob_4525, rv ob_4549, rv ob_4549] [(.int 1)])) _
    refine oS (fun _ => XS.ifNo X4767.here hx rfl (hb hby dd13_23) rfl (XT.i0_eq_f (by decide))) ?_
    show own_G p e below (T4763.setTop (mkF m 26 #[rv ob_4525, rv ob_4549, rv ob_4549] [])) _
    refine oS (fun _ => XS.iconst X4767.here hx rfl (hb hby dd13_26) ) ?_
    refine oS (fun _ => XS.goto X4767.here hx rfl (pc0 := 27) (pc' := 31) rfl (hb hby dd13_27) (by decide) (by decide)) ?_
    show own_G p e below (T4763.setTop (mkF m 31 #[rv ob_4525, rv ob_4549, rv ob_4549] [(.int 1)])) _
    exact own_retN X4767 hx (t := .boolean) Bd.notSynchronized Bd.returns (by simp) (hb hby dd13_31) (by decide) e4779 (by decide) (by decide) (⟨b4771, rfl, N4778, rfl⟩)
  · skip
    exact absurd I4777 b4774
def own_Q82 (Z : State) (ob_4464 : Nat) (kk_4465 : ClassId) (in_1 : Int32) (in_2 : Int32) (in_3 : Int32) (h0 : Heap) (n0 : Nat) (v : Option Value) (h : Heap) (L : List Loc) : Prop := (v = some (.int (((31 : Int32) * (((31 : Int32) * ((0 : Int32) + (((in_1 &&& 255).toInt8.toInt32) &&& 255))) + (((in_2 &&& 255).toInt8.toInt32) &&& 255))) + (((in_3 &&& 255).toInt8.toInt32) &&& 255))) ∧ Fr n0 L ∧ h = h0)
set_option maxRecDepth 65536 in
set_option maxHeartbeats 40000000 in
theorem own_rm82 (l : Launch) (Z : State) (a0 : Array Value) (hw : ∀ d ∈ tables_1, d.before a0 Z = true) (ws : List Jvm.Cond) (ob_4464 : Nat) (kk_4465 : ClassId) (in_1 : Int32) (in_2 : Int32) (in_3 : Int32) (h0 : Heap) (n0 : Nat) (Z0 : n0 ≤ h0.size) (O0 : Old Z n0 h0) (I4860 : Arv Z h0 ob_4464 kk_4465 .byte 3 [(.int ((in_1 &&& 255).toInt8.toInt32)), (.int ((in_2 &&& 255).toInt8.toInt32)), (.int ((in_3 &&& 255).toInt8.toInt32))] (.int 0)) :
    own_Met l Z h0 mN18 jdk_48_method_5_code 6 (Option.some FieldType.int) ws ({ frames := 0, cells := 0, slots := 0, locals := 0 } : Room) #[(.int 0), (.ref ob_4464), (.int 0), (.int 3)] (own_Q82 Z ob_4464 kk_4465 in_1 in_2 in_3 h0 n0) 0 0 := by
  refine MetFree.of_bodySF own_pn18 hisR ?_
  intro p e s m args below meth c s₁ Bd hml0 hP hK
  obtain ⟨rfl, hZ, hh⟩ := hP
  have hx := Bd.exec
  have hby := Bd.bytes
  have hml : c.maxLocals = 6 := hml0
  have hown : s.vm.findClass cN7 = some m.cls := findClass_of_methodNamed Bd.named
  have hnm := (name_of_methodNamed Bd.named Bd.method).1
  have X0 : Stand p l e ({ frames := 0, cells := 0, slots := 0, locals := 0 } : Room) s m #[(.int 0), (.ref ob_4464), (.int 0), (.int 3)] below meth c s₁ [] 0 0 := Stand.of_body Bd
  have e0 : s₁.heap = h0 := by rw [← hh, Bd.state]; rfl
  have N0 := Fr.nil n0
  show own_G p e below (s₁.setTop (entryFrame m #[(.int 0), (.ref ob_4464), (.int 0), (.int 3)] 6)) (own_P s (own_Q82 Z ob_4464 kk_4465 in_1 in_2 in_3 h0 n0) 0 0)
  refine own_cast (own_ef11 m 0 ob_4464 0 3) ?_
  show own_G p e below (s₁.setTop (mkF m 0 #[iv 0, rv ob_4464, iv 0, iv 3, .unset, .unset] [])) _
  refine oS (fun _ => XS.iloadN X0.here hx rfl (hb hby dd19_0) rfl) ?_
  refine oS (fun _ => XS.iloadN X0.here hx rfl (hb hby dd19_1) rfl) ?_
  refine oS (fun _ => XS.iadd X0.here hx rfl (hb hby dd19_2) rfl) ?_
  refine oS (fun _ => XS.istore X0.here hx rfl (hb hby dd19_3) rfl (l' := #[iv 0, rv ob_4464, iv 0, iv 3, iv 3, .unset]) rfl) ?_
  show own_G p e below (s₁.setTop (mkF m 5 #[iv 0, rv ob_4464, iv 0, iv 3, iv 3, .unset] [])) _
  refine oS (fun _ => XS.iloadN X0.here hx rfl (hb hby dd19_5) rfl) ?_
  refine oS (fun _ => XS.istore X0.here hx rfl (hb hby dd19_6) rfl (l' := #[iv 0, rv ob_4464, iv 0, iv 3, iv 3, iv 0]) rfl) ?_
  refine oS (fun _ => XS.iload X0.here hx rfl (hb hby dd19_8) rfl) ?_
  refine oS (fun _ => XS.iload X0.here hx rfl (hb hby dd19_10) rfl) ?_
  show own_G p e below (s₁.setTop (mkF m 12 #[iv 0, rv ob_4464, iv 0, iv 3, iv 3, iv 0] [(.int 3), (.int 0)])) _
  refine oS (fun _ => XS.icmpNo X0.here hx rfl (hb hby dd19_12) rfl (XT.ii_ge_f (by decide))) ?_
  show own_G p e below (s₁.setTop (mkF m 15 #[iv 0, rv ob_4464, iv 0, iv 3, iv 3, iv 0] [])) _
  refine oS (fun _ => XS.bipush X0.here hx rfl (hb hby dd19_15) ) ?_
  refine oS (fun _ => XS.iloadN X0.here hx rfl (hb hby dd19_17) rfl) ?_
  refine oS (fun _ => XS.imul X0.here hx rfl (hb hby dd19_18) rfl) ?_
  refine oS (fun _ => XS.aloadN X0.here hx rfl (hb hby dd19_19) rfl rfl) ?_
  show own_G p e below (s₁.setTop (mkF m 20 #[iv 0, rv ob_4464, iv 0, iv 3, iv 3, iv 0] [(.ref ob_4464), (.int 0)])) _
  refine oS (fun _ => XS.iload X0.here hx rfl (hb hby dd19_20) rfl) ?_
  refine oS (own_baload X0 hx hZ e0 I4860 (by decide) (v := (.int ((in_1 &&& 255).toInt8.toInt32))) rfl rfl rfl (hb hby dd19_22)) ?_
  show own_G p e below (s₁.setTop (mkF m 23 #[iv 0, rv ob_4464, iv 0, iv 3, iv 3, iv 0] [(.int ((in_1 &&& 255).toInt8.toInt32)), (.int 0)])) _
  refine oS (fun _ => XS.sipush X0.here hx rfl (hb hby dd19_23) ) ?_
  refine oS (fun _ => XS.iand X0.here hx rfl (hb hby dd19_26) rfl) ?_
  refine oS (fun _ => XS.iadd X0.here hx rfl (hb hby dd19_27) rfl) ?_
  refine oS (fun _ => XS.istoreN X0.here hx rfl (hb hby dd19_28) rfl (l' := #[iv ((0 : Int32) + (((in_1 &&& 255).toInt8.toInt32) &&& 255)), rv ob_4464, iv 0, iv 3, iv 3, iv 0]) rfl) ?_
  show own_G p e below (s₁.setTop (mkF m 29 #[iv ((0 : Int32) + (((in_1 &&& 255).toInt8.toInt32) &&& 255)), rv ob_4464, iv 0, iv 3, iv 3, iv 0] [])) _
  refine oS (fun _ => XS.iinc X0.here hx rfl (hb hby dd19_29) rfl (l' := #[iv ((0 : Int32) + (((in_1 &&& 255).toInt8.toInt32) &&& 255)), rv ob_4464, iv 0, iv 3, iv 3, iv 1]) rfl) ?_
  show own_G p e below (s₁.setTop (mkF m 32 #[iv ((0 : Int32) + (((in_1 &&& 255).toInt8.toInt32) &&& 255)), rv ob_4464, iv 0, iv 3, iv 3, iv 1] [])) _
  refine oS (fun _ => XS.goto X0.here hx rfl (pc0 := 32) (pc' := 8) rfl (hb hby dd19_32) (by decide) (by decide)) ?_
  show own_G p e below (s₁.setTop (mkF m 8 #[iv ((0 : Int32) + (((in_1 &&& 255).toInt8.toInt32) &&& 255)), rv ob_4464, iv 0, iv 3, iv 3, iv 1] [])) _
  refine oS (fun _ => XS.iload X0.here hx rfl (hb hby dd19_8) rfl) ?_
  refine oS (fun _ => XS.iload X0.here hx rfl (hb hby dd19_10) rfl) ?_
  refine oS (fun _ => XS.icmpNo X0.here hx rfl (hb hby dd19_12) rfl (XT.ii_ge_f (by decide))) ?_
  show own_G p e below (s₁.setTop (mkF m 15 #[iv ((0 : Int32) + (((in_1 &&& 255).toInt8.toInt32) &&& 255)), rv ob_4464, iv 0, iv 3, iv 3, iv 1] [])) _
  refine oS (fun _ => XS.bipush X0.here hx rfl (hb hby dd19_15) ) ?_
  refine oS (fun _ => XS.iloadN X0.here hx rfl (hb hby dd19_17) rfl) ?_
  refine oS (fun _ => XS.imul X0.here hx rfl (hb hby dd19_18) rfl) ?_
  refine oS (fun _ => XS.aloadN X0.here hx rfl (hb hby dd19_19) rfl rfl) ?_
  show own_G p e below (s₁.setTop (mkF m 20 #[iv ((0 : Int32) + (((in_1 &&& 255).toInt8.toInt32) &&& 255)), rv ob_4464, iv 0, iv 3, iv 3, iv 1] [(.ref ob_4464), (.int ((31 : Int32) * ((0 : Int32) + (((in_1 &&& 255).toInt8.toInt32) &&& 255))))])) _
  refine oS (fun _ => XS.iload X0.here hx rfl (hb hby dd19_20) rfl) ?_
  refine oS (own_baload X0 hx hZ e0 I4860 (by decide) (v := (.int ((in_2 &&& 255).toInt8.toInt32))) rfl rfl rfl (hb hby dd19_22)) ?_
  show own_G p e below (s₁.setTop (mkF m 23 #[iv ((0 : Int32) + (((in_1 &&& 255).toInt8.toInt32) &&& 255)), rv ob_4464, iv 0, iv 3, iv 3, iv 1] [(.int ((in_2 &&& 255).toInt8.toInt32)), (.int ((31 : Int32) * ((0 : Int32) + (((in_1 &&& 255).toInt8.toInt32) &&& 255))))])) _
  refine oS (fun _ => XS.sipush X0.here hx rfl (hb hby dd19_23) ) ?_
  refine oS (fun _ => XS.iand X0.here hx rfl (hb hby dd19_26) rfl) ?_
  refine oS (fun _ => XS.iadd X0.here hx rfl (hb hby dd19_27) rfl) ?_
  refine oS (fun _ => XS.istoreN X0.here hx rfl (hb hby dd19_28) rfl (l' := #[iv (((31 : Int32) * ((0 : Int32) + (((in_1 &&& 255).toInt8.toInt32) &&& 255))) + (((in_2 &&& 255).toInt8.toInt32) &&& 255)), rv ob_4464, iv 0, iv 3, iv 3, iv 1]) rfl) ?_
  show own_G p e below (s₁.setTop (mkF m 29 #[iv (((31 : Int32) * ((0 : Int32) + (((in_1 &&& 255).toInt8.toInt32) &&& 255))) + (((in_2 &&& 255).toInt8.toInt32) &&& 255)), rv ob_4464, iv 0, iv 3, iv 3, iv 1] [])) _
  refine oS (fun _ => XS.iinc X0.here hx rfl (hb hby dd19_29) rfl (l' := #[iv (((31 : Int32) * ((0 : Int32) + (((in_1 &&& 255).toInt8.toInt32) &&& 255))) + (((in_2 &&& 255).toInt8.toInt32) &&& 255)), rv ob_4464, iv 0, iv 3, iv 3, iv 2]) rfl) ?_
  show own_G p e below (s₁.setTop (mkF m 32 #[iv (((31 : Int32) * ((0 : Int32) + (((in_1 &&& 255).toInt8.toInt32) &&& 255))) + (((in_2 &&& 255).toInt8.toInt32) &&& 255)), rv ob_4464, iv 0, iv 3, iv 3, iv 2] [])) _
  refine oS (fun _ => XS.goto X0.here hx rfl (pc0 := 32) (pc' := 8) rfl (hb hby dd19_32) (by decide) (by decide)) ?_
  show own_G p e below (s₁.setTop (mkF m 8 #[iv (((31 : Int32) * ((0 : Int32) + (((in_1 &&& 255).toInt8.toInt32) &&& 255))) + (((in_2 &&& 255).toInt8.toInt32) &&& 255)), rv ob_4464, iv 0, iv 3, iv 3, iv 2] [])) _
  refine oS (fun _ => XS.iload X0.here hx rfl (hb hby dd19_8) rfl) ?_
  refine oS (fun _ => XS.iload X0.here hx rfl (hb hby dd19_10) rfl) ?_
  refine oS (fun _ => XS.icmpNo X0.here hx rfl (hb hby dd19_12) rfl (XT.ii_ge_f (by decide))) ?_
  show own_G p e below (s₁.setTop (mkF m 15 #[iv (((31 : Int32) * ((0 : Int32) + (((in_1 &&& 255).toInt8.toInt32) &&& 255))) + (((in_2 &&& 255).toInt8.toInt32) &&& 255)), rv ob_4464, iv 0, iv 3, iv 3, iv 2] [])) _
  refine oS (fun _ => XS.bipush X0.here hx rfl (hb hby dd19_15) ) ?_
  refine oS (fun _ => XS.iloadN X0.here hx rfl (hb hby dd19_17) rfl) ?_
  refine oS (fun _ => XS.imul X0.here hx rfl (hb hby dd19_18) rfl) ?_
  refine oS (fun _ => XS.aloadN X0.here hx rfl (hb hby dd19_19) rfl rfl) ?_
  show own_G p e below (s₁.setTop (mkF m 20 #[iv (((31 : Int32) * ((0 : Int32) + (((in_1 &&& 255).toInt8.toInt32) &&& 255))) + (((in_2 &&& 255).toInt8.toInt32) &&& 255)), rv ob_4464, iv 0, iv 3, iv 3, iv 2] [(.ref ob_4464), (.int ((31 : Int32) * (((31 : Int32) * ((0 : Int32) + (((in_1 &&& 255).toInt8.toInt32) &&& 255))) + (((in_2 &&& 255).toInt8.toInt32) &&& 255))))])) _
  refine oS (fun _ => XS.iload X0.here hx rfl (hb hby dd19_20) rfl) ?_
  refine oS (own_baload X0 hx hZ e0 I4860 (by decide) (v := (.int ((in_3 &&& 255).toInt8.toInt32))) rfl rfl rfl (hb hby dd19_22)) ?_
  show own_G p e below (s₁.setTop (mkF m 23 #[iv (((31 : Int32) * ((0 : Int32) + (((in_1 &&& 255).toInt8.toInt32) &&& 255))) + (((in_2 &&& 255).toInt8.toInt32) &&& 255)), rv ob_4464, iv 0, iv 3, iv 3, iv 2] [(.int ((in_3 &&& 255).toInt8.toInt32)), (.int ((31 : Int32) * (((31 : Int32) * ((0 : Int32) + (((in_1 &&& 255).toInt8.toInt32) &&& 255))) + (((in_2 &&& 255).toInt8.toInt32) &&& 255))))])) _
  refine oS (fun _ => XS.sipush X0.here hx rfl (hb hby dd19_23) ) ?_
  refine oS (fun _ => XS.iand X0.here hx rfl (hb hby dd19_26) rfl) ?_
  refine oS (fun _ => XS.iadd X0.here hx rfl (hb hby dd19_27) rfl) ?_
  refine oS (fun _ => XS.istoreN X0.here hx rfl (hb hby dd19_28) rfl (l' := #[iv (((31 : Int32) * (((31 : Int32) * ((0 : Int32) + (((in_1 &&& 255).toInt8.toInt32) &&& 255))) + (((in_2 &&& 255).toInt8.toInt32) &&& 255))) + (((in_3 &&& 255).toInt8.toInt32) &&& 255)), rv ob_4464, iv 0, iv 3, iv 3, iv 2]) rfl) ?_
  show own_G p e below (s₁.setTop (mkF m 29 #[iv (((31 : Int32) * (((31 : Int32) * ((0 : Int32) + (((in_1 &&& 255).toInt8.toInt32) &&& 255))) + (((in_2 &&& 255).toInt8.toInt32) &&& 255))) + (((in_3 &&& 255).toInt8.toInt32) &&& 255)), rv ob_4464, iv 0, iv 3, iv 3, iv 2] [])) _
  refine oS (fun _ => XS.iinc X0.here hx rfl (hb hby dd19_29) rfl (l' := #[iv (((31 : Int32) * (((31 : Int32) * ((0 : Int32) + (((in_1 &&& 255).toInt8.toInt32) &&& 255))) + (((in_2 &&& 255).toInt8.toInt32) &&& 255))) + (((in_3 &&& 255).toInt8.toInt32) &&& 255)), rv ob_4464, iv 0, iv 3, iv 3, iv 3]) rfl) ?_
  show own_G p e below (s₁.setTop (mkF m 32 #[iv (((31 : Int32) * (((31 : Int32) * ((0 : Int32) + (((in_1 &&& 255).toInt8.toInt32) &&& 255))) + (((in_2 &&& 255).toInt8.toInt32) &&& 255))) + (((in_3 &&& 255).toInt8.toInt32) &&& 255)), rv ob_4464, iv 0, iv 3, iv 3, iv 3] [])) _
  refine oS (fun _ => XS.goto X0.here hx rfl (pc0 := 32) (pc' := 8) rfl (hb hby dd19_32) (by decide) (by decide)) ?_
  show own_G p e below (s₁.setTop (mkF m 8 #[iv (((31 : Int32) * (((31 : Int32) * ((0 : Int32) + (((in_1 &&& 255).toInt8.toInt32) &&& 255))) + (((in_2 &&& 255).toInt8.toInt32) &&& 255))) + (((in_3 &&& 255).toInt8.toInt32) &&& 255)), rv ob_4464, iv 0, iv 3, iv 3, iv 3] [])) _
  refine oS (fun _ => XS.iload X0.here hx rfl (hb hby dd19_8) rfl) ?_
  refine oS (fun _ => XS.iload X0.here hx rfl (hb hby dd19_10) rfl) ?_
  refine oS (fun _ => XS.icmpYes X0.here hx rfl (pc0 := 12) (pc' := 35) rfl (hb hby dd19_12) rfl (XT.ii_ge_t (by decide)) (by decide) (by decide)) ?_
  show own_G p e below (s₁.setTop (mkF m 35 #[iv (((31 : Int32) * (((31 : Int32) * ((0 : Int32) + (((in_1 &&& 255).toInt8.toInt32) &&& 255))) + (((in_2 &&& 255).toInt8.toInt32) &&& 255))) + (((in_3 &&& 255).toInt8.toInt32) &&& 255)), rv ob_4464, iv 0, iv 3, iv 3, iv 3] [])) _
  refine oS (fun _ => XS.iloadN X0.here hx rfl (hb hby dd19_35) rfl) ?_
  exact own_retI X0 hx Bd.notSynchronized Bd.returns (hb hby dd19_36) e0 (by decide) (by decide) (⟨rfl, N0, rfl⟩)
def own_Q81 (Z : State) (ob_4464 : Nat) (kk_4465 : ClassId) (in_1 : Int32) (in_2 : Int32) (in_3 : Int32) (h0 : Heap) (n0 : Nat) (v : Option Value) (h : Heap) (L : List Loc) : Prop := (v = some (.int (((31 : Int32) * (((31 : Int32) * ((0 : Int32) + (((in_1 &&& 255).toInt8.toInt32) &&& 255))) + (((in_2 &&& 255).toInt8.toInt32) &&& 255))) + (((in_3 &&& 255).toInt8.toInt32) &&& 255))) ∧ Fr n0 L ∧ h = h0)
set_option maxRecDepth 65536 in
set_option maxHeartbeats 40000000 in
theorem own_rm81 (l : Launch) (Z : State) (a0 : Array Value) (hw : ∀ d ∈ tables_1, d.before a0 Z = true) (ws : List Jvm.Cond) (ob_4464 : Nat) (kk_4465 : ClassId) (in_1 : Int32) (in_2 : Int32) (in_3 : Int32) (h0 : Heap) (n0 : Nat) (Z0 : n0 ≤ h0.size) (O0 : Old Z n0 h0) (I4858 : Exa Z h0 ob_4464 "[B") (I4859 : Arv Z h0 ob_4464 kk_4465 .byte 3 [(.int ((in_1 &&& 255).toInt8.toInt32)), (.int ((in_2 &&& 255).toInt8.toInt32)), (.int ((in_3 &&& 255).toInt8.toInt32))] (.int 0)) :
    own_Met l Z h0 mN19 jdk_48_method_4_code 5 (Option.some FieldType.int) ws ({ frames := 1, cells := 0, slots := 0, locals := 17 } : Room) #[(.ref ob_4464), (.int 0), (.int 3), (.int 0), (.int 4)] (own_Q81 Z ob_4464 kk_4465 in_1 in_2 in_3 h0 n0) 0 0 := by
  refine MetFree.of_bodySF own_pn19 hisR ?_
  intro p e s m args below meth c s₁ Bd hml0 hP hK
  obtain ⟨rfl, hZ, hh⟩ := hP
  have hx := Bd.exec
  have hby := Bd.bytes
  have hml : c.maxLocals = 5 := hml0
  have hown : s.vm.findClass cN7 = some m.cls := findClass_of_methodNamed Bd.named
  have hnm := (name_of_methodNamed Bd.named Bd.method).1
  have X0 : Stand p l e ({ frames := 1, cells := 0, slots := 0, locals := 17 } : Room) s m #[(.ref ob_4464), (.int 0), (.int 3), (.int 0), (.int 4)] below meth c s₁ [] 0 0 := Stand.of_body Bd
  have e0 : s₁.heap = h0 := by rw [← hh, Bd.state]; rfl
  have N0 := Fr.nil n0
  show own_G p e below (s₁.setTop (entryFrame m #[(.ref ob_4464), (.int 0), (.int 3), (.int 0), (.int 4)] 5)) (own_P s (own_Q81 Z ob_4464 kk_4465 in_1 in_2 in_3 h0 n0) 0 0)
  refine own_cast (own_ef10 m ob_4464 0 3 0 4) ?_
  show own_G p e below (s₁.setTop (mkF m 0 #[rv ob_4464, iv 0, iv 3, iv 0, iv 4] [])) _
  refine oS (fun _ => XS.iload X0.here hx rfl (hb hby dd18_0) rfl) ?_
  have u4847 : ∀ t, Steps p.tables e below (s₁.setTop (mkF m 44 #[rv ob_4464, iv 0, iv 3, iv 0, iv 4] [])) t → Steps p.tables e below (s₁.setTop (mkF m 2 #[rv ob_4464, iv 0, iv 3, iv 0, iv 4] [(.int 4)])) t := fun t hr => XS.tswIn X0.here hx (g := (mkF m 2 #[rv ob_4464, iv 0, iv 3, iv 0, iv 4] [(.int 4)])) rfl (pc0 := 2) (pc' := 44) rfl (hb hby dd18_2) rfl (by decide +kernel) (o := 42) (by decide +kernel) (by decide) (by decide) hr
  refine oS u4847 ?_
  refine oS (fun _ => XS.iloadN X0.here hx rfl (hb hby dd18_44) rfl) ?_
  refine oS (fun _ => XS.aloadN X0.here hx rfl (hb hby dd18_45) rfl rfl) ?_
  obtain ⟨T4848, X4849, e4850, s4851⟩ := castY X0 hx hZ hown (oW hw 110 rfl) e0 (Ins.self I4858) (g := (mkF m 46 #[rv ob_4464, iv 0, iv 3, iv 0, iv 4] [(.ref ob_4464), (.int 0)])) rfl rfl (hb hby dd18_46)
  refine oS s4851 ?_
  show own_G p e below (T4848.setTop (mkF m 49 #[rv ob_4464, iv 0, iv 3, iv 0, iv 4] [(.ref ob_4464), (.int 0)])) _
  refine oS (fun _ => XS.iloadN X4849.here hx rfl (hb hby dd18_49) rfl) ?_
  refine oS (fun _ => XS.iloadN X4849.here hx rfl (hb hby dd18_50) rfl) ?_
  obtain ⟨T4861, h4862, v4863, L4864, X4865, e4866, q4867, s4868⟩ := own_callS X4849 hx hZ hown e4850 (y := mN18) (oW hw 112 rfl) (oW hw 113 rfl) (oW hw 108 rfl) (oW hw 114 rfl) (by decide) (W := 0) (own_rm82 l Z a0 hw [] ob_4464 kk_4465 in_1 in_2 in_3 h0 n0 Z0 O0 I4859) (by decide) (by decide) (by decide) (by decide) (g := (mkF m 51 #[rv ob_4464, iv 0, iv 3, iv 0, iv 4] [(.int 3), (.int 0), (.ref ob_4464), (.int 0)])) rfl (by rw [hml]; rfl) (argsL := [(.int 0), (.ref ob_4464), (.int 0), (.int 3)]) (rest := []) rfl (lenOf own_pd15 rfl) rfl (by show 2 * 0 + _ ≤ _; exact Nat.le_of_eq rfl) (hb hby dd18_51)
  refine oS s4868 ?_
  obtain ⟨rfl, N4869, K4870⟩ := q4867
  have N4871 := Fr.app N0 N4869
  have e4872 := e4866.trans K4870
  show own_G p e below (T4861.setTop (mkF m 54 #[rv ob_4464, iv 0, iv 3, iv 0, iv 4] [(.int (((31 : Int32) * (((31 : Int32) * ((0 : Int32) + (((in_1 &&& 255).toInt8.toInt32) &&& 255))) + (((in_2 &&& 255).toInt8.toInt32) &&& 255))) + (((in_3 &&& 255).toInt8.toInt32) &&& 255)))])) _
  refine oS (fun _ => XS.goto X4865.here hx rfl (pc0 := 54) (pc' := 157) rfl (hb hby dd18_54) (by decide) (by decide)) ?_
  show own_G p e below (T4861.setTop (mkF m 157 #[rv ob_4464, iv 0, iv 3, iv 0, iv 4] [(.int (((31 : Int32) * (((31 : Int32) * ((0 : Int32) + (((in_1 &&& 255).toInt8.toInt32) &&& 255))) + (((in_2 &&& 255).toInt8.toInt32) &&& 255))) + (((in_3 &&& 255).toInt8.toInt32) &&& 255)))])) _
  exact own_retI X4865 hx Bd.notSynchronized Bd.returns (hb hby dd18_157) e4872 (by decide) (by decide) (⟨rfl, N4871, rfl⟩)
def own_Q80 (Z : State) (ob_4464 : Nat) (kk_4465 : ClassId) (in_1 : Int32) (in_2 : Int32) (in_3 : Int32) (h0 : Heap) (n0 : Nat) (v : Option Value) (h : Heap) (L : List Loc) : Prop := (v = some (.int (((31 : Int32) * (((31 : Int32) * ((0 : Int32) + (((in_1 &&& 255).toInt8.toInt32) &&& 255))) + (((in_2 &&& 255).toInt8.toInt32) &&& 255))) + (((in_3 &&& 255).toInt8.toInt32) &&& 255))) ∧ Fr n0 L ∧ h = h0)
set_option maxRecDepth 65536 in
set_option maxHeartbeats 40000000 in
theorem own_rm80 (l : Launch) (Z : State) (a0 : Array Value) (hw : ∀ d ∈ tables_1, d.before a0 Z = true) (ws : List Jvm.Cond) (ob_4464 : Nat) (kk_4465 : ClassId) (in_1 : Int32) (in_2 : Int32) (in_3 : Int32) (h0 : Heap) (n0 : Nat) (Z0 : n0 ≤ h0.size) (O0 : Old Z n0 h0) (I4845 : Arv Z h0 ob_4464 kk_4465 .byte 3 [(.int ((in_1 &&& 255).toInt8.toInt32)), (.int ((in_2 &&& 255).toInt8.toInt32)), (.int ((in_3 &&& 255).toInt8.toInt32))] (.int 0)) (I4857 : Exa Z h0 ob_4464 "[B") :
    own_Met l Z h0 mN15 jdk_43_method_21_code 1 (Option.some FieldType.int) ws ({ frames := 2, cells := 0, slots := 0, locals := 33 } : Room) #[(.ref ob_4464)] (own_Q80 Z ob_4464 kk_4465 in_1 in_2 in_3 h0 n0) 0 0 := by
  refine MetFree.of_bodySF own_pn15 hisR ?_
  intro p e s m args below meth c s₁ Bd hml0 hP hK
  obtain ⟨rfl, hZ, hh⟩ := hP
  have hx := Bd.exec
  have hby := Bd.bytes
  have hml : c.maxLocals = 1 := hml0
  have hown : s.vm.findClass cN6 = some m.cls := findClass_of_methodNamed Bd.named
  have hnm := (name_of_methodNamed Bd.named Bd.method).1
  have X0 : Stand p l e ({ frames := 2, cells := 0, slots := 0, locals := 33 } : Room) s m #[(.ref ob_4464)] below meth c s₁ [] 0 0 := Stand.of_body Bd
  have e0 : s₁.heap = h0 := by rw [← hh, Bd.state]; rfl
  have N0 := Fr.nil n0
  show own_G p e below (s₁.setTop (entryFrame m #[(.ref ob_4464)] 1)) (own_P s (own_Q80 Z ob_4464 kk_4465 in_1 in_2 in_3 h0 n0) 0 0)
  refine own_cast (own_ef7 m ob_4464) ?_
  show own_G p e below (s₁.setTop (mkF m 0 #[rv ob_4464] [])) _
  refine oS (fun _ => XS.aloadN X0.here hx rfl (hb hby dd17_0) rfl rfl) ?_
  refine oS (own_len X0 hx hZ e0 I4845 rfl rfl (hb hby dd17_1)) ?_
  show own_G p e below (s₁.setTop (mkF m 2 #[rv ob_4464] [(.int 3)])) _
  have u4846 : ∀ t, Steps p.tables e below (s₁.setTop (mkF m 42 #[rv ob_4464] [])) t → Steps p.tables e below (s₁.setTop (mkF m 2 #[rv ob_4464] [(.int 3)])) t := fun t hr => own_lswM X0 hx (g := (mkF m 2 #[rv ob_4464] [(.int 3)])) rfl (k := 3) rfl (hb hby dd17_2) (by decide +kernel) (by decide +kernel) (pc0 := 2) (pc' := 42) rfl (by decide) (by decide) t hr
  refine oS u4846 ?_
  refine oS (fun _ => XS.aloadN X0.here hx rfl (hb hby dd17_42) rfl rfl) ?_
  refine oS (fun _ => XS.iconst X0.here hx rfl (hb hby dd17_43) ) ?_
  refine oS (fun _ => XS.aloadN X0.here hx rfl (hb hby dd17_44) rfl rfl) ?_
  refine oS (own_len X0 hx hZ e0 I4845 rfl rfl (hb hby dd17_45)) ?_
  show own_G p e below (s₁.setTop (mkF m 46 #[rv ob_4464] [(.int 3), (.int 0), (.ref ob_4464)])) _
  refine oS (fun _ => XS.iconst X0.here hx rfl (hb hby dd17_46) ) ?_
  refine oS (fun _ => XS.iconst X0.here hx rfl (hb hby dd17_47) ) ?_
  obtain ⟨T4873, h4874, v4875, L4876, X4877, e4878, q4879, s4880⟩ := own_callS X0 hx hZ hown e0 (y := mN19) (oW hw 106 rfl) (oW hw 107 rfl) (oW hw 108 rfl) (oW hw 109 rfl) (by decide) (W := 0) (own_rm81 l Z a0 hw [] ob_4464 kk_4465 in_1 in_2 in_3 h0 n0 Z0 O0 I4857 I4845) (by decide) (by decide) (by decide) (by decide) (g := (mkF m 48 #[rv ob_4464] [(.int 4), (.int 0), (.int 3), (.int 0), (.ref ob_4464)])) rfl (by rw [hml]; rfl) (argsL := [(.ref ob_4464), (.int 0), (.int 3), (.int 0), (.int 4)]) (rest := []) rfl (lenOf own_pd16 rfl) rfl (by show 2 * 0 + _ ≤ _; exact Nat.le_of_eq rfl) (hb hby dd17_48)
  refine oS s4880 ?_
  obtain ⟨rfl, N4881, K4882⟩ := q4879
  have N4883 := Fr.app N0 N4881
  have e4884 := e4878.trans K4882
  show own_G p e below (T4873.setTop (mkF m 51 #[rv ob_4464] [(.int (((31 : Int32) * (((31 : Int32) * ((0 : Int32) + (((in_1 &&& 255).toInt8.toInt32) &&& 255))) + (((in_2 &&& 255).toInt8.toInt32) &&& 255))) + (((in_3 &&& 255).toInt8.toInt32) &&& 255)))])) _
  exact own_retI X4877 hx Bd.notSynchronized Bd.returns (hb hby dd17_51) e4884 (by decide) (by decide) (⟨rfl, N4883, rfl⟩)
def own_Q79 (Z : State) (ob_4463 : Nat) (in_7 : Int32) (ob_4464 : Nat) (kk_4465 : ClassId) (in_1 : Int32) (in_2 : Int32) (in_3 : Int32) (h0 : Heap) (n0 : Nat) (v : Option Value) (h : Heap) (L : List Loc) : Prop := (v = some (.int (((31 : Int32) * (((31 : Int32) * ((0 : Int32) + (((in_1 &&& 255).toInt8.toInt32) &&& 255))) + (((in_2 &&& 255).toInt8.toInt32) &&& 255))) + (((in_3 &&& 255).toInt8.toInt32) &&& 255))) ∧ Fr n0 L ∧ Keep h0 h [ob_4463] ∧ Fld Z h ob_4463 cN1 "coder" "B" (.int 0) ∧ Exa Z h ob_4463 cN1 ∧ Fld Z h ob_4463 cN1 "value" "[B" (.ref ob_4464))
set_option maxRecDepth 65536 in
set_option maxHeartbeats 40000000 in
theorem own_rm79 (l : Launch) (Z : State) (a0 : Array Value) (hw : ∀ d ∈ tables_1, d.before a0 Z = true) (ws : List Jvm.Cond) (ob_4463 : Nat) (in_7 : Int32) (ob_4464 : Nat) (kk_4465 : ClassId) (in_1 : Int32) (in_2 : Int32) (in_3 : Int32) (h0 : Heap) (n0 : Nat) (Z0 : n0 ≤ h0.size) (O0 : Old Z n0 h0) (I4813 : Fld Z h0 ob_4463 cN1 "hash" "I" (.int 0)) (I4818 : Fld Z h0 ob_4463 cN1 "hashIsZero" "Z" (.int 0)) (I4823 : Sta Z Z.heap cN1 "COMPACT_STRINGS" "Z" (.int in_7)) (I4824 : ¬ (in_7 = 0)) (I4825 : Fld Z h0 ob_4463 cN1 "coder" "B" (.int 0)) (I4834 : Exa Z h0 ob_4463 cN1) (I4839 : Fld Z h0 ob_4463 cN1 "value" "[B" (.ref ob_4464)) (I4844 : Arv Z h0 ob_4464 kk_4465 .byte 3 [(.int ((in_1 &&& 255).toInt8.toInt32)), (.int ((in_2 &&& 255).toInt8.toInt32)), (.int ((in_3 &&& 255).toInt8.toInt32))] (.int 0)) (I4856 : Exa Z h0 ob_4464 "[B") (I4906 : n0 ≤ ob_4463) :
    own_Met l Z h0 mN16 jdk_42_method_78_code 2 (Option.some FieldType.int) ws ({ frames := 3, cells := 0, slots := 0, locals := 45 } : Room) #[(.ref ob_4463)] (own_Q79 Z ob_4463 in_7 ob_4464 kk_4465 in_1 in_2 in_3 h0 n0) 0 0 := by
  refine MetFree.of_bodySF own_pn16 hisR ?_
  intro p e s m args below meth c s₁ Bd hml0 hP hK
  obtain ⟨rfl, hZ, hh⟩ := hP
  have hx := Bd.exec
  have hby := Bd.bytes
  have hml : c.maxLocals = 2 := hml0
  have hown : s.vm.findClass cN1 = some m.cls := findClass_of_methodNamed Bd.named
  have hnm := (name_of_methodNamed Bd.named Bd.method).1
  have X0 : Stand p l e ({ frames := 3, cells := 0, slots := 0, locals := 45 } : Room) s m #[(.ref ob_4463)] below meth c s₁ [] 0 0 := Stand.of_body Bd
  have e0 : s₁.heap = h0 := by rw [← hh, Bd.state]; rfl
  have N0 := Fr.nil n0
  show own_G p e below (s₁.setTop (entryFrame m #[(.ref ob_4463)] 2)) (own_P s (own_Q79 Z ob_4463 in_7 ob_4464 kk_4465 in_1 in_2 in_3 h0 n0) 0 0)
  refine own_cast (own_ef9 m ob_4463) ?_
  show own_G p e below (s₁.setTop (mkF m 0 #[rv ob_4463, .unset] [])) _
  refine oS (fun _ => XS.aloadN X0.here hx rfl (hb hby dd15_0) rfl rfl) ?_
  obtain ⟨T4814, X4815, e4816, s4817⟩ := getF X0 hx hZ hown (host := "") (Or.inl (oW hw 94 rfl)) Via.refl e0 I4813 (g := (mkF m 1 #[rv ob_4463, .unset] [(.ref ob_4463)])) rfl rfl (hb hby dd15_1)
  refine oS s4817 ?_
  show own_G p e below (T4814.setTop (mkF m 4 #[rv ob_4463, .unset] [(.int 0)])) _
  refine oS (fun _ => XS.istoreN X4815.here hx rfl (hb hby dd15_4) rfl (l' := #[rv ob_4463, iv 0]) rfl) ?_
  refine oS (fun _ => XS.iloadN X4815.here hx rfl (hb hby dd15_5) rfl) ?_
  refine oS (fun _ => XS.ifNo X4815.here hx rfl (hb hby dd15_6) rfl (XT.i0_ne_f (by decide))) ?_
  show own_G p e below (T4814.setTop (mkF m 9 #[rv ob_4463, iv 0] [])) _
  refine oS (fun _ => XS.aloadN X4815.here hx rfl (hb hby dd15_9) rfl rfl) ?_
  obtain ⟨T4819, X4820, e4821, s4822⟩ := getF X4815 hx hZ hown (host := "") (Or.inl (oW hw 96 rfl)) Via.refl e4816 I4818 (g := (mkF m 10 #[rv ob_4463, iv 0] [(.ref ob_4463)])) rfl rfl (hb hby dd15_10)
  refine oS s4822 ?_
  show own_G p e below (T4819.setTop (mkF m 13 #[rv ob_4463, iv 0] [(.int 0)])) _
  refine oS (fun _ => XS.ifNo X4820.here hx rfl (hb hby dd15_13) rfl (XT.i0_ne_f (by decide))) ?_
  show own_G p e below (T4819.setTop (mkF m 16 #[rv ob_4463, iv 0] [])) _
  refine oS (fun _ => XS.aloadN X4820.here hx rfl (hb hby dd15_16) rfl rfl) ?_
  obtain ⟨T4826, h4827, v4828, L4829, X4830, e4831, q4832, s4833⟩ := own_callV X4820 hx hZ hown e4821 (y := mN14) (z := mN14) (C := cN1) (b := ob_4463) (oW hw 98 rfl) (oW hw 99 rfl) (notFace_of_selects (args := #[]) (mvT hZ (oW hw 101 rfl))) (oW hw 101 rfl) (oW hw 100 rfl) (oW hw 8 rfl) (oW hw 102 rfl) (by decide) I4834 (W := 0) (own_rm23 l Z a0 hw [] ob_4463 in_7 h0 n0 Z0 O0 I4823 I4824 I4825) (by decide) (by decide) (by decide) (by decide) (g := (mkF m 17 #[rv ob_4463, iv 0] [(.ref ob_4463)])) rfl (by rw [hml]; rfl) (argsL := []) (rest := []) rfl (lenOf own_pd7 rfl) rfl (by show 2 * 0 + _ ≤ _; exact Nat.le_of_eq rfl) (hb hby dd15_17)
  refine oS s4833 ?_
  obtain ⟨rfl, N4835, K4836⟩ := q4832
  have N4837 := Fr.app N0 N4835
  have e4838 := e4831.trans K4836
  show own_G p e below (T4826.setTop (mkF m 20 #[rv ob_4463, iv 0] [(.int 1)])) _
  refine oS (fun _ => XS.ifNo X4830.here hx rfl (hb hby dd15_20) rfl (XT.i0_eq_f (by decide))) ?_
  show own_G p e below (T4826.setTop (mkF m 23 #[rv ob_4463, iv 0] [])) _
  refine oS (fun _ => XS.aloadN X4830.here hx rfl (hb hby dd15_23) rfl rfl) ?_
  obtain ⟨T4840, X4841, e4842, s4843⟩ := getF X4830 hx hZ hown (host := "") (Or.inl (oW hw 33 rfl)) Via.refl e4838 I4839 (g := (mkF m 24 #[rv ob_4463, iv 0] [(.ref ob_4463)])) rfl rfl (hb hby dd15_24)
  refine oS s4843 ?_
  show own_G p e below (T4840.setTop (mkF m 27 #[rv ob_4463, iv 0] [(.ref ob_4464)])) _
  obtain ⟨T4885, h4886, v4887, L4888, X4889, e4890, q4891, s4892⟩ := own_callS X4841 hx hZ hown e4842 (y := mN15) (oW hw 103 rfl) (oW hw 104 rfl) (oW hw 68 rfl) (oW hw 105 rfl) (by decide) (W := 0) (own_rm80 l Z a0 hw [] ob_4464 kk_4465 in_1 in_2 in_3 h0 n0 Z0 O0 I4844 I4856) (by decide) (by decide) (by decide) (by decide) (g := (mkF m 27 #[rv ob_4463, iv 0] [(.ref ob_4464)])) rfl (by rw [hml]; rfl) (argsL := [(.ref ob_4464)]) (rest := []) rfl (lenOf own_pd13 rfl) rfl (by show 2 * 0 + _ ≤ _; exact Nat.le_of_eq rfl) (hb hby dd15_27)
  refine oS s4892 ?_
  obtain ⟨rfl, N4893, K4894⟩ := q4891
  have N4895 := Fr.app N4837 N4893
  have e4896 := e4890.trans K4894
  show own_G p e below (T4885.setTop (mkF m 30 #[rv ob_4463, iv 0] [(.int (((31 : Int32) * (((31 : Int32) * ((0 : Int32) + (((in_1 &&& 255).toInt8.toInt32) &&& 255))) + (((in_2 &&& 255).toInt8.toInt32) &&& 255))) + (((in_3 &&& 255).toInt8.toInt32) &&& 255)))])) _
  refine oS (fun _ => XS.goto X4889.here hx rfl (pc0 := 30) (pc' := 40) rfl (hb hby dd15_30) (by decide) (by decide)) ?_
  show own_G p e below (T4885.setTop (mkF m 40 #[rv ob_4463, iv 0] [(.int (((31 : Int32) * (((31 : Int32) * ((0 : Int32) + (((in_1 &&& 255).toInt8.toInt32) &&& 255))) + (((in_2 &&& 255).toInt8.toInt32) &&& 255))) + (((in_3 &&& 255).toInt8.toInt32) &&& 255)))])) _
  refine oS (fun _ => XS.istoreN X4889.here hx rfl (hb hby dd15_40) rfl (l' := #[rv ob_4463, iv (((31 : Int32) * (((31 : Int32) * ((0 : Int32) + (((in_1 &&& 255).toInt8.toInt32) &&& 255))) + (((in_2 &&& 255).toInt8.toInt32) &&& 255))) + (((in_3 &&& 255).toInt8.toInt32) &&& 255))]) rfl) ?_
  refine oS (fun _ => XS.iloadN X4889.here hx rfl (hb hby dd15_41) rfl) ?_
  by_cases b4897 : (((31 : Int32) * (((31 : Int32) * ((0 : Int32) + (((in_1 &&& 255).toInt8.toInt32) &&& 255))) + (((in_2 &&& 255).toInt8.toInt32) &&& 255))) + (((in_3 &&& 255).toInt8.toInt32) &&& 255)) = 0
  · skip
    refine oS (fun _ => XS.ifNo X4889.here hx rfl (hb hby dd15_42) rfl (XT.i0_ne_f b4897)) ?_
    show own_G p e below (T4885.setTop (mkF m 45 #[rv ob_4463, iv (((31 : Int32) * (((31 : Int32) * ((0 : Int32) + (((in_1 &&& 255).toInt8.toInt32) &&& 255))) + (((in_2 &&& 255).toInt8.toInt32) &&& 255))) + (((in_3 &&& 255).toInt8.toInt32) &&& 255))] [])) _
    refine oS (fun _ => XS.aloadN X4889.here hx rfl (hb hby dd15_45) rfl rfl) ?_
    refine oS (fun _ => XS.iconst X4889.here hx rfl (hb hby dd15_46) ) ?_
    obtain ⟨T4898, h4899, X4900, e4901, W4902, s4903⟩ := putF X4889 hx hZ hown (host := "") (Or.inl (oW hw 96 rfl)) Via.refl e4896 I4818 I4834 (Or.inl (oW hw 97 rfl)) (oW hw 7 rfl) (ty := .boolean) (by decide) (by decide) (by decide) (g := (mkF m 47 #[rv ob_4463, iv (((31 : Int32) * (((31 : Int32) * ((0 : Int32) + (((in_1 &&& 255).toInt8.toInt32) &&& 255))) + (((in_2 &&& 255).toInt8.toInt32) &&& 255))) + (((in_3 &&& 255).toInt8.toInt32) &&& 255))] [(.int 1), (.ref ob_4463)])) rfl rfl (hb hby dd15_47)
    have N4904 := Fr.snoc X4900 N4895 I4906
    have z4907 := W4902.size
    have F4908 : Fld Z h4899 ob_4463 cN1 "hashIsZero" "Z" (.int 1) := Fld.same W4902 I4818
    refine oS s4903 ?_
    show own_G p e below (T4898.setTop (mkF m 50 #[rv ob_4463, iv (((31 : Int32) * (((31 : Int32) * ((0 : Int32) + (((in_1 &&& 255).toInt8.toInt32) &&& 255))) + (((in_2 &&& 255).toInt8.toInt32) &&& 255))) + (((in_3 &&& 255).toInt8.toInt32) &&& 255))] [])) _
    refine oS (fun _ => XS.goto X4900.here hx rfl (pc0 := 50) (pc' := 58) rfl (hb hby dd15_50) (by decide) (by decide)) ?_
    show own_G p e below (T4898.setTop (mkF m 58 #[rv ob_4463, iv (((31 : Int32) * (((31 : Int32) * ((0 : Int32) + (((in_1 &&& 255).toInt8.toInt32) &&& 255))) + (((in_2 &&& 255).toInt8.toInt32) &&& 255))) + (((in_3 &&& 255).toInt8.toInt32) &&& 255))] [])) _
    refine oS (fun _ => XS.iloadN X4900.here hx rfl (hb hby dd15_58) rfl) ?_
    have F4909 : Fld Z h4899 ob_4463 cN1 "coder" "B" (.int 0) := Fld.other W4902 I4825 (Or.inr (slot_ne (C := cN1) (Or.inr (oW hw 32 rfl)) (Or.inl (oW hw 97 rfl)) (by decide) (t := .byte) (t' := .boolean) (by decide) (by decide)))
    have F4910 : Exa Z h4899 ob_4463 cN1 := Exa.wr W4902 I4834
    have F4911 : Fld Z h4899 ob_4463 cN1 "value" "[B" (.ref ob_4464) := Fld.other W4902 I4839 (Or.inr (slot_ne (C := cN1) (Or.inr (oW hw 34 rfl)) (Or.inl (oW hw 97 rfl)) (by decide) (t := (.array .byte)) (t' := .boolean) (by decide) (by decide)))
    have K4912 : Keep h0 h4899 [ob_4463] := ((Keep.refl h0 [ob_4463]).wr W4902 (Or.inl (by simp)))
    exact own_retI X4900 hx Bd.notSynchronized Bd.returns (hb hby dd15_59) e4901 (by decide) (by decide) (⟨rfl, N4904, K4912, F4909, F4910, F4911⟩)
  · skip
    refine oS (fun _ => XS.ifYes X4889.here hx rfl (pc0 := 42) (pc' := 53) rfl (hb hby dd15_42) rfl (XT.i0_ne_t b4897) (by decide) (by decide)) ?_
    show own_G p e below (T4885.setTop (mkF m 53 #[rv ob_4463, iv (((31 : Int32) * (((31 : Int32) * ((0 : Int32) + (((in_1 &&& 255).toInt8.toInt32) &&& 255))) + (((in_2 &&& 255).toInt8.toInt32) &&& 255))) + (((in_3 &&& 255).toInt8.toInt32) &&& 255))] [])) _
    refine oS (fun _ => XS.aloadN X4889.here hx rfl (hb hby dd15_53) rfl rfl) ?_
    refine oS (fun _ => XS.iloadN X4889.here hx rfl (hb hby dd15_54) rfl) ?_
    obtain ⟨T4913, h4914, X4915, e4916, W4917, s4918⟩ := putF X4889 hx hZ hown (host := "") (Or.inl (oW hw 94 rfl)) Via.refl e4896 I4813 I4834 (Or.inl (oW hw 95 rfl)) (oW hw 7 rfl) (ty := .int) (by decide) rfl rfl (g := (mkF m 55 #[rv ob_4463, iv (((31 : Int32) * (((31 : Int32) * ((0 : Int32) + (((in_1 &&& 255).toInt8.toInt32) &&& 255))) + (((in_2 &&& 255).toInt8.toInt32) &&& 255))) + (((in_3 &&& 255).toInt8.toInt32) &&& 255))] [(.int (((31 : Int32) * (((31 : Int32) * ((0 : Int32) + (((in_1 &&& 255).toInt8.toInt32) &&& 255))) + (((in_2 &&& 255).toInt8.toInt32) &&& 255))) + (((in_3 &&& 255).toInt8.toInt32) &&& 255))), (.ref ob_4463)])) rfl rfl (hb hby dd15_55)
    have N4919 := Fr.snoc X4915 N4895 I4906
    have z4920 := W4917.size
    have F4921 : Fld Z h4914 ob_4463 cN1 "hash" "I" (.int (((31 : Int32) * (((31 : Int32) * ((0 : Int32) + (((in_1 &&& 255).toInt8.toInt32) &&& 255))) + (((in_2 &&& 255).toInt8.toInt32) &&& 255))) + (((in_3 &&& 255).toInt8.toInt32) &&& 255))) := Fld.same W4917 I4813
    refine oS s4918 ?_
    show own_G p e below (T4913.setTop (mkF m 58 #[rv ob_4463, iv (((31 : Int32) * (((31 : Int32) * ((0 : Int32) + (((in_1 &&& 255).toInt8.toInt32) &&& 255))) + (((in_2 &&& 255).toInt8.toInt32) &&& 255))) + (((in_3 &&& 255).toInt8.toInt32) &&& 255))] [])) _
    refine oS (fun _ => XS.iloadN X4915.here hx rfl (hb hby dd15_58) rfl) ?_
    have F4922 : Fld Z h4914 ob_4463 cN1 "coder" "B" (.int 0) := Fld.other W4917 I4825 (Or.inr (slot_ne (C := cN1) (Or.inr (oW hw 32 rfl)) (Or.inl (oW hw 95 rfl)) (by decide) (t := .byte) (t' := .int) (by decide) (by decide)))
    have F4923 : Exa Z h4914 ob_4463 cN1 := Exa.wr W4917 I4834
    have F4924 : Fld Z h4914 ob_4463 cN1 "value" "[B" (.ref ob_4464) := Fld.other W4917 I4839 (Or.inr (slot_ne (C := cN1) (Or.inr (oW hw 34 rfl)) (Or.inl (oW hw 95 rfl)) (by decide) (t := (.array .byte)) (t' := .int) (by decide) (by decide)))
    have K4925 : Keep h0 h4914 [ob_4463] := ((Keep.refl h0 [ob_4463]).wr W4917 (Or.inl (by simp)))
    exact own_retI X4915 hx Bd.notSynchronized Bd.returns (hb hby dd15_59) e4916 (by decide) (by decide) (⟨rfl, N4919, K4925, F4922, F4923, F4924⟩)
def own_Q78 (Z : State) (ob_4525 : Nat) (ob_4463 : Nat) (in_7 : Int32) (ob_4464 : Nat) (kk_4465 : ClassId) (in_1 : Int32) (in_2 : Int32) (in_3 : Int32) (h0 : Heap) (n0 : Nat) (v : Option Value) (h : Heap) (L : List Loc) : Prop := (v = some (.int (((31 : Int32) * (((31 : Int32) * ((0 : Int32) + (((in_1 &&& 255).toInt8.toInt32) &&& 255))) + (((in_2 &&& 255).toInt8.toInt32) &&& 255))) + (((in_3 &&& 255).toInt8.toInt32) &&& 255))) ∧ Fr n0 L ∧ Keep h0 h [ob_4463] ∧ Fld Z h ob_4463 cN1 "coder" "B" (.int 0) ∧ Exa Z h ob_4463 cN1 ∧ Fld Z h ob_4463 cN1 "value" "[B" (.ref ob_4464))
set_option maxRecDepth 65536 in
set_option maxHeartbeats 40000000 in
theorem own_rm78 (l : Launch) (Z : State) (a0 : Array Value) (hw : ∀ d ∈ tables_1, d.before a0 Z = true) (ws : List Jvm.Cond) (ob_4525 : Nat) (ob_4463 : Nat) (in_7 : Int32) (ob_4464 : Nat) (kk_4465 : ClassId) (in_1 : Int32) (in_2 : Int32) (in_3 : Int32) (h0 : Heap) (n0 : Nat) (Z0 : n0 ≤ h0.size) (O0 : Old Z n0 h0) (I4800 : Fld Z h0 ob_4525 cN4 "name" cN5 (.ref ob_4463)) (I4805 : Fld Z h0 ob_4463 cN1 "hash" "I" (.int 0)) (I4806 : Fld Z h0 ob_4463 cN1 "hashIsZero" "Z" (.int 0)) (I4807 : Sta Z Z.heap cN1 "COMPACT_STRINGS" "Z" (.int in_7)) (I4808 : ¬ (in_7 = 0)) (I4809 : Fld Z h0 ob_4463 cN1 "coder" "B" (.int 0)) (I4810 : Exa Z h0 ob_4463 cN1) (I4811 : Fld Z h0 ob_4463 cN1 "value" "[B" (.ref ob_4464)) (I4812 : Arv Z h0 ob_4464 kk_4465 .byte 3 [(.int ((in_1 &&& 255).toInt8.toInt32)), (.int ((in_2 &&& 255).toInt8.toInt32)), (.int ((in_3 &&& 255).toInt8.toInt32))] (.int 0)) (I4855 : Exa Z h0 ob_4464 "[B") (I4905 : n0 ≤ ob_4463) :
    own_Met l Z h0 mN17 prog_11_method_5_code 1 (Option.some FieldType.int) ws ({ frames := 4, cells := 0, slots := 0, locals := 58 } : Room) #[(.ref ob_4525)] (own_Q78 Z ob_4525 ob_4463 in_7 ob_4464 kk_4465 in_1 in_2 in_3 h0 n0) 0 0 := by
  refine MetFree.of_bodySF own_pn17 hisR ?_
  intro p e s m args below meth c s₁ Bd hml0 hP hK
  obtain ⟨rfl, hZ, hh⟩ := hP
  have hx := Bd.exec
  have hby := Bd.bytes
  have hml : c.maxLocals = 1 := hml0
  have hown : s.vm.findClass cN4 = some m.cls := findClass_of_methodNamed Bd.named
  have hnm := (name_of_methodNamed Bd.named Bd.method).1
  have X0 : Stand p l e ({ frames := 4, cells := 0, slots := 0, locals := 58 } : Room) s m #[(.ref ob_4525)] below meth c s₁ [] 0 0 := Stand.of_body Bd
  have e0 : s₁.heap = h0 := by rw [← hh, Bd.state]; rfl
  have N0 := Fr.nil n0
  show own_G p e below (s₁.setTop (entryFrame m #[(.ref ob_4525)] 1)) (own_P s (own_Q78 Z ob_4525 ob_4463 in_7 ob_4464 kk_4465 in_1 in_2 in_3 h0 n0) 0 0)
  refine own_cast (own_ef7 m ob_4525) ?_
  show own_G p e below (s₁.setTop (mkF m 0 #[rv ob_4525] [])) _
  refine oS (fun _ => XS.aloadN X0.here hx rfl (hb hby dd14_0) rfl rfl) ?_
  obtain ⟨T4801, X4802, e4803, s4804⟩ := getF X0 hx hZ hown (host := "") (Or.inl (oW hw 58 rfl)) Via.refl e0 I4800 (g := (mkF m 1 #[rv ob_4525] [(.ref ob_4525)])) rfl rfl (hb hby dd14_1)
  refine oS s4804 ?_
  show own_G p e below (T4801.setTop (mkF m 4 #[rv ob_4525] [(.ref ob_4463)])) _
  obtain ⟨T4926, h4927, v4928, L4929, X4930, e4931, q4932, s4933⟩ := own_callV X4802 hx hZ hown e4803 (y := mN16) (z := mN16) (C := cN1) (b := ob_4463) (oW hw 89 rfl) (oW hw 90 rfl) (notFace_of_selects (args := #[]) (mvT hZ (oW hw 92 rfl))) (oW hw 92 rfl) (oW hw 91 rfl) (oW hw 8 rfl) (oW hw 93 rfl) (by decide) I4810 (W := 0) (own_rm79 l Z a0 hw [] ob_4463 in_7 ob_4464 kk_4465 in_1 in_2 in_3 h0 n0 Z0 O0 I4805 I4806 I4807 I4808 I4809 I4810 I4811 I4812 I4855 I4905) (by decide) (by decide) (by decide) (by decide) (g := (mkF m 4 #[rv ob_4525] [(.ref ob_4463)])) rfl (by rw [hml]; rfl) (argsL := []) (rest := []) rfl (lenOf own_pd14 rfl) rfl (by show 2 * 0 + _ ≤ _; exact Nat.le_of_eq rfl) (hb hby dd14_4)
  refine oS s4933 ?_
  obtain ⟨rfl, N4934, K4935, F4936, F4937, F4938⟩ := q4932
  have N4939 := Fr.app N0 N4934
  have z4940 := K4935.1
  show own_G p e below (T4926.setTop (mkF m 7 #[rv ob_4525] [(.int (((31 : Int32) * (((31 : Int32) * ((0 : Int32) + (((in_1 &&& 255).toInt8.toInt32) &&& 255))) + (((in_2 &&& 255).toInt8.toInt32) &&& 255))) + (((in_3 &&& 255).toInt8.toInt32) &&& 255)))])) _
  have K4941 : Keep h0 h4927 [ob_4463] := ((Keep.refl h0 [ob_4463]).trans K4935 (allS (Or.inl (by simp)) all0))
  exact own_retI X4930 hx Bd.notSynchronized Bd.returns (hb hby dd14_7) e4931 (by decide) (by decide) (⟨rfl, N4939, K4941, F4936, F4937, F4938⟩)
def own_Q83 (Z : State) (ob_4525 : Nat) (ob_4549 : Nat) (ob_4492 : Nat) (ob_4463 : Nat) (in_7 : Int32) (ob_4493 : Nat) (ob_4464 : Nat) (kk_4494 : ClassId) (in_1 : Int32) (in_2 : Int32) (in_4 : Int32) (kk_4465 : ClassId) (in_3 : Int32) (h0 : Heap) (n0 : Nat) (v : Option Value) (h : Heap) (L : List Loc) : Prop := (¬ (((in_4 &&& 255).toInt8.toInt32) = ((in_3 &&& 255).toInt8.toInt32)) ∧ v = some (.int 0) ∧ Fr n0 L ∧ h = h0)
set_option maxRecDepth 65536 in
set_option maxHeartbeats 40000000 in
theorem own_rm83 (l : Launch) (Z : State) (a0 : Array Value) (hw : ∀ d ∈ tables_1, d.before a0 Z = true) (ws : List Jvm.Cond) (ob_4525 : Nat) (ob_4549 : Nat) (ob_4492 : Nat) (ob_4463 : Nat) (in_7 : Int32) (ob_4493 : Nat) (ob_4464 : Nat) (kk_4494 : ClassId) (in_1 : Int32) (in_2 : Int32) (in_4 : Int32) (kk_4465 : ClassId) (in_3 : Int32) (h0 : Heap) (n0 : Nat) (Z0 : n0 ≤ h0.size) (O0 : Old Z n0 h0) (I5083 : Exa Z h0 ob_4549 cN4) (I5088 : Fld Z h0 ob_4549 cN4 "name" cN5 (.ref ob_4492)) (I5093 : Fld Z h0 ob_4525 cN4 "name" cN5 (.ref ob_4463)) (I5098 : @Ne Nat ob_4492 ob_4463) (I5099 : Exa Z h0 ob_4463 cN1) (I5100 : Sta Z Z.heap cN1 "COMPACT_STRINGS" "Z" (.int in_7)) (I5101 : ¬ (in_7 = 0)) (I5102 : Fld Z h0 ob_4492 cN1 "coder" "B" (.int 0)) (I5103 : Fld Z h0 ob_4463 cN1 "coder" "B" (.int 0)) (I5104 : Fld Z h0 ob_4492 cN1 "value" "[B" (.ref ob_4493)) (I5105 : Fld Z h0 ob_4463 cN1 "value" "[B" (.ref ob_4464)) (I5106 : Arv Z h0 ob_4493 kk_4494 .byte 3 [(.int ((in_1 &&& 255).toInt8.toInt32)), (.int ((in_2 &&& 255).toInt8.toInt32)), (.int ((in_4 &&& 255).toInt8.toInt32))] (.int 0)) (I5107 : Exa Z h0 ob_4492 cN1) (I5108 : Arv Z h0 ob_4464 kk_4465 .byte 3 [(.int ((in_1 &&& 255).toInt8.toInt32)), (.int ((in_2 &&& 255).toInt8.toInt32)), (.int ((in_3 &&& 255).toInt8.toInt32))] (.int 0)) (I5123 : ¬ (((in_4 &&& 255).toInt8.toInt32) = ((in_3 &&& 255).toInt8.toInt32))) :
    own_Met l Z h0 mN13 prog_11_method_4_code 3 (Option.some FieldType.boolean) ws ({ frames := 2, cells := 0, slots := 0, locals := 28 } : Room) #[(.ref ob_4525), (.ref ob_4549)] (own_Q83 Z ob_4525 ob_4549 ob_4492 ob_4463 in_7 ob_4493 ob_4464 kk_4494 in_1 in_2 in_4 kk_4465 in_3 h0 n0) 0 0 := by
  refine MetFree.of_bodySF own_pn13 hisR ?_
  intro p e s m args below meth c s₁ Bd hml0 hP hK
  obtain ⟨rfl, hZ, hh⟩ := hP
  have hx := Bd.exec
  have hby := Bd.bytes
  have hml : c.maxLocals = 3 := hml0
  have hown : s.vm.findClass cN4 = some m.cls := findClass_of_methodNamed Bd.named
  have hnm := (name_of_methodNamed Bd.named Bd.method).1
  have X0 : Stand p l e ({ frames := 2, cells := 0, slots := 0, locals := 28 } : Room) s m #[(.ref ob_4525), (.ref ob_4549)] below meth c s₁ [] 0 0 := Stand.of_body Bd
  have e0 : s₁.heap = h0 := by rw [← hh, Bd.state]; rfl
  have N0 := Fr.nil n0
  show own_G p e below (s₁.setTop (entryFrame m #[(.ref ob_4525), (.ref ob_4549)] 3)) (own_P s (own_Q83 Z ob_4525 ob_4549 ob_4492 ob_4463 in_7 ob_4493 ob_4464 kk_4494 in_1 in_2 in_4 kk_4465 in_3 h0 n0) 0 0)
  refine own_cast (own_ef8 m ob_4525 ob_4549) ?_
  show own_G p e below (s₁.setTop (mkF m 0 #[rv ob_4525, rv ob_4549, .unset] [])) _
  refine oS (fun _ => XS.aloadN X0.here hx rfl (hb hby dd13_0) rfl rfl) ?_
  obtain ⟨T5079, X5080, e5081, s5082⟩ := instY X0 hx hZ hown (oW hw 52 rfl) e0 (Ins.self I5083) (g := (mkF m 1 #[rv ob_4525, rv ob_4549, .unset] [(.ref ob_4549)])) rfl rfl (hb hby dd13_1)
  refine oS s5082 ?_
  show own_G p e below (T5079.setTop (mkF m 4 #[rv ob_4525, rv ob_4549, .unset] [(.int 1)])) _
  refine oS (fun _ => XS.ifNo X5080.here hx rfl (hb hby dd13_4) rfl (XT.i0_eq_f (by decide))) ?_
  show own_G p e below (T5079.setTop (mkF m 7 #[rv ob_4525, rv ob_4549, .unset] [])) _
  refine oS (fun _ => XS.aloadN X5080.here hx rfl (hb hby dd13_7) rfl rfl) ?_
  obtain ⟨T5084, X5085, e5086, s5087⟩ := castY X5080 hx hZ hown (oW hw 52 rfl) e5081 (Ins.self I5083) (g := (mkF m 8 #[rv ob_4525, rv ob_4549, .unset] [(.ref ob_4549)])) rfl rfl (hb hby dd13_8)
  refine oS s5087 ?_
  show own_G p e below (T5084.setTop (mkF m 11 #[rv ob_4525, rv ob_4549, .unset] [(.ref ob_4549)])) _
  refine oS (fun _ => XS.astoreN X5085.here hx rfl (hb hby dd13_11) rfl rfl (l' := #[rv ob_4525, rv ob_4549, rv ob_4549]) rfl) ?_
  refine oS (fun _ => XS.aloadN X5085.here hx rfl (hb hby dd13_12) rfl rfl) ?_
  obtain ⟨T5089, X5090, e5091, s5092⟩ := getF X5085 hx hZ hown (host := "") (Or.inl (oW hw 58 rfl)) Via.refl e5086 I5088 (g := (mkF m 13 #[rv ob_4525, rv ob_4549, rv ob_4549] [(.ref ob_4549)])) rfl rfl (hb hby dd13_13)
  refine oS s5092 ?_
  show own_G p e below (T5089.setTop (mkF m 16 #[rv ob_4525, rv ob_4549, rv ob_4549] [(.ref ob_4492)])) _
  refine oS (fun _ => XS.aloadN X5090.here hx rfl (hb hby dd13_16) rfl rfl) ?_
  obtain ⟨T5094, X5095, e5096, s5097⟩ := getF X5090 hx hZ hown (host := "") (Or.inl (oW hw 58 rfl)) Via.refl e5091 I5093 (g := (mkF m 17 #[rv ob_4525, rv ob_4549, rv ob_4549] [(.ref ob_4525), (.ref ob_4492)])) rfl rfl (hb hby dd13_17)
  refine oS s5097 ?_
  show own_G p e below (T5094.setTop (mkF m 20 #[rv ob_4525, rv ob_4549, rv ob_4549] [(.ref ob_4463), (.ref ob_4492)])) _
  obtain ⟨T5109, h5110, v5111, L5112, X5113, e5114, q5115, s5116⟩ := own_callV X5095 hx hZ hown e5096 (y := mN11) (z := mN11) (C := cN1) (b := ob_4492) (oW hw 83 rfl) (oW hw 61 rfl) (notFace_of_selects (args := #[]) (mvT hZ (oW hw 63 rfl))) (oW hw 63 rfl) (oW hw 62 rfl) (oW hw 8 rfl) (oW hw 64 rfl) (by decide) I5107 (W := 0) (own_rm75 l Z a0 hw [] ob_4492 ob_4463 in_7 ob_4493 ob_4464 kk_4494 in_1 in_2 in_4 kk_4465 in_3 h0 n0 Z0 O0 I5098 I5099 I5100 I5101 I5102 I5103 I5104 I5105 I5106 I5108) (by decide) (by decide) (by decide) (by decide) (g := (mkF m 20 #[rv ob_4525, rv ob_4549, rv ob_4549] [(.ref ob_4463), (.ref ob_4492)])) rfl (by rw [hml]; rfl) (argsL := [(.ref ob_4463)]) (rest := []) rfl (lenOf own_pd11 rfl) rfl (by show 2 * 0 + _ ≤ _; exact Nat.le_of_eq rfl) (hb hby dd13_20)
  refine oS s5116 ?_
  rcases q5115 with ⟨b5117, rfl, N5118, K5119⟩ | ⟨b5120, rfl, N5121, K5122⟩
  · skip
    exact absurd b5117 I5123
  · skip
    have N5124 := Fr.app N0 N5121
    have e5125 := e5114.trans K5122
    show own_G p e below (T5109.setTop (mkF m 23 #[rv ob_4525, rv ob_4549, rv ob_4549] [(.int 0)])) _
    refine oS (fun _ => XS.ifYes X5113.here hx rfl (pc0 := 23) (pc' := 30) rfl (hb hby dd13_23) rfl (XT.i0_eq_t (by decide)) (by decide) (by decide)) ?_
    show own_G p e below (T5109.setTop (mkF m 30 #[rv ob_4525, rv ob_4549, rv ob_4549] [])) _
    refine oS (fun _ => XS.iconst X5113.here hx rfl (hb hby dd13_30) ) ?_
    exact own_retN X5113 hx (t := .boolean) Bd.notSynchronized Bd.returns (by simp) (hb hby dd13_31) (by decide) e5125 (by decide) (by decide) (⟨b5120, rfl, N5124, rfl⟩)
def own_Q1 (Z : State) (in_1 : Int32) (in_2 : Int32) (in_3 : Int32) (in_4 : Int32) (in_5 : Int32) (in_6 : Int32) (in_7 : Int32) (ob_9 : Nat) (ob_10 : Nat) (ob_11 : Nat) (kk_12 : ClassId) (h0 : Heap) (n0 : Nat) (vm : Vm) (v : Option Value) (h : Heap) (L : List Loc) : Prop := (v = some (.int 1) ∧ Fr n0 L)
theorem own_pn20 : plainFor x = true := by decide +kernel
set_option maxRecDepth 65536 in
set_option maxHeartbeats 40000000 in
theorem own_rm1 (l : Launch) (Z : State) (a0 : Array Value) (hw : ∀ d ∈ tables_1, d.before a0 Z = true) (hEL : EW Z a0 own_EL) (ws : List Jvm.Cond) (in_1 : Int32) (in_2 : Int32) (in_3 : Int32) (in_4 : Int32) (in_5 : Int32) (in_6 : Int32) (in_7 : Int32) (ob_9 : Nat) (ob_10 : Nat) (ob_11 : Nat) (kk_12 : ClassId) (h0 : Heap) (n0 : Nat) (Z0 : n0 ≤ h0.size) (O0 : Old Z n0 h0) (I68 : Sta Z Z.heap cN1 "COMPACT_STRINGS" "Z" (.int in_7)) (I77 : ¬ (in_7 = 0)) (I630 : Sta Z Z.heap cN4 "NONE" cN8 (.ref ob_9)) (I640 : Exa Z Z.heap ob_9 cN4) (I647 : Fld Z Z.heap ob_9 cN4 "name" cN5 (.ref ob_10)) (I659 : Exa Z Z.heap ob_10 cN1) (I670 : Fld Z Z.heap ob_10 cN1 "coder" "B" (.int 0)) (I674 : Fld Z Z.heap ob_10 cN1 "value" "[B" (.ref ob_11)) (I678 : Arv Z Z.heap ob_11 kk_12 FieldType.byte 0 [] (.int 0)) :
    own_MetW l Z own_EL [] h0 x code maxLocals ret ws room_1 #[(.int in_1), (.int in_2), (.int in_3), (.int in_4), (.int in_5), (.int in_6)] (own_Q1 Z in_1 in_2 in_3 in_4 in_5 in_6 in_7 ob_9 ob_10 ob_11 kk_12 h0 n0) 32 1152 := by
  refine MetFree.of_bodySF own_pn20 hisR ?_
  intro p e s m args below meth c s₁ Bd hml0 hP hK
  obtain ⟨rfl, hZ, hh, hCH, hsf⟩ := hP
  have hx := Bd.exec
  have hby := Bd.bytes
  have hml : c.maxLocals = 13 := hml0
  have hown : (s.setVm s.vm).vm.findClass cN2 = some m.cls := findClass_of_methodNamed Bd.named
  have hnm := (name_of_methodNamed Bd.named Bd.method).1
  have hZ : Z.Warmed39 (s.setVm s.vm).vm := hZ
  have hS : s.Since s.vm 0 := (State.WarmedH.refl s).since 0
  have X0 : Stand p l e room_1 (s.setVm s.vm) m #[(.int in_1), (.int in_2), (.int in_3), (.int in_4), (.int in_5), (.int in_6)] below meth c s₁ [] 0 0 := Stand.of_body Bd
  have e0 : s₁.heap = h0 := by rw [← hh, Bd.state]; rfl
  have hR : CHr Z own_EL s.vm h0 s.vm h0 := CHr.refl hCH
  have N0 := Fr.nil n0
  show own_G p e below (s₁.setTop (entryFrame m #[(.int in_1), (.int in_2), (.int in_3), (.int in_4), (.int in_5), (.int in_6)] maxLocals)) (own_PW Z own_EL s (own_Q1 Z in_1 in_2 in_3 in_4 in_5 in_6 in_7 ob_9 ob_10 ob_11 kk_12 h0 n0) 32 1152)
  refine own_cast (own_ef0 m in_1 in_2 in_3 in_4 in_5 in_6) ?_
  show own_G p e below (s₁.setTop (mkF m 0 #[iv in_1, iv in_2, iv in_3, iv in_4, iv in_5, iv in_6, .unset, .unset, .unset, .unset, .unset, .unset, .unset] [])) _
  refine oS (fun _ => XS.iconst X0.here hx rfl (hb hby at_0) ) ?_
  refine oS (fun _ => XS.iload X0.here hx rfl (hb hby at_1) rfl) ?_
  refine oS (fun _ => X0.ldcI hx hown (mvT hZ (oW hw 0 rfl)) rfl (hb hby at_3)) ?_
  show own_G p e below (s₁.setTop (mkF m 5 #[iv in_1, iv in_2, iv in_3, iv in_4, iv in_5, iv in_6, .unset, .unset, .unset, .unset, .unset, .unset, .unset] [(.int 2147483647), (.int in_5), (.int 1)])) _
  refine oS (fun _ => XS.iand X0.here hx rfl (hb hby at_5) rfl) ?_
  refine oS (fun _ => XS.iconst X0.here hx rfl (hb hby at_6) ) ?_
  refine oS (fun _ => iremM X0 hx rfl (hb hby at_7) rfl (by decide)) ?_
  show own_G p e below (s₁.setTop (mkF m 8 #[iv in_1, iv in_2, iv in_3, iv in_4, iv in_5, iv in_6, .unset, .unset, .unset, .unset, .unset, .unset, .unset] [(.int ((in_5 &&& 2147483647) % 3)), (.int 1)])) _
  rcases own_in3 (own_modlt in_5 3 (by decide)) with q13 | q14 | q15
  · skip
    refine own_cast (g' := (mkF m 8 #[iv in_1, iv in_2, iv in_3, iv in_4, iv in_5, iv in_6, .unset, .unset, .unset, .unset, .unset, .unset, .unset] [(.int 0), (.int 1)])) (by rw [q13]) ?_
    show own_G p e below (s₁.setTop (mkF m 8 #[iv in_1, iv in_2, iv in_3, iv in_4, iv in_5, iv in_6, .unset, .unset, .unset, .unset, .unset, .unset, .unset] [(.int 0), (.int 1)])) _
    refine oS (fun _ => XS.iadd X0.here hx rfl (hb hby at_8) rfl) ?_
    refine oS (fun _ => XS.istore X0.here hx rfl (hb hby at_9) rfl (l' := #[iv in_1, iv in_2, iv in_3, iv in_4, iv in_5, iv in_6, iv 1, .unset, .unset, .unset, .unset, .unset, .unset]) rfl) ?_
    refine oS (fun _ => XS.iconst X0.here hx rfl (hb hby at_11) ) ?_
    refine oS (fun _ => XS.iload X0.here hx rfl (hb hby at_12) rfl) ?_
    show own_G p e below (s₁.setTop (mkF m 14 #[iv in_1, iv in_2, iv in_3, iv in_4, iv in_5, iv in_6, iv 1, .unset, .unset, .unset, .unset, .unset, .unset] [(.int in_6), (.int 1)])) _
    refine oS (fun _ => X0.ldcI hx hown (mvT hZ (oW hw 0 rfl)) rfl (hb hby at_14)) ?_
    show own_G p e below (s₁.setTop (mkF m 16 #[iv in_1, iv in_2, iv in_3, iv in_4, iv in_5, iv in_6, iv 1, .unset, .unset, .unset, .unset, .unset, .unset] [(.int 2147483647), (.int in_6), (.int 1)])) _
    refine oS (fun _ => XS.iand X0.here hx rfl (hb hby at_16) rfl) ?_
    refine oS (fun _ => XS.iconst X0.here hx rfl (hb hby at_17) ) ?_
    refine oS (fun _ => iremM X0 hx rfl (hb hby at_18) rfl (by decide)) ?_
    show own_G p e below (s₁.setTop (mkF m 19 #[iv in_1, iv in_2, iv in_3, iv in_4, iv in_5, iv in_6, iv 1, .unset, .unset, .unset, .unset, .unset, .unset] [(.int ((in_6 &&& 2147483647) % 3)), (.int 1)])) _
    rcases own_in3 (own_modlt in_6 3 (by decide)) with q16 | q17 | q18
    · skip
      refine own_cast (g' := (mkF m 19 #[iv in_1, iv in_2, iv in_3, iv in_4, iv in_5, iv in_6, iv 1, .unset, .unset, .unset, .unset, .unset, .unset] [(.int 0), (.int 1)])) (by rw [q16]) ?_
      show own_G p e below (s₁.setTop (mkF m 19 #[iv in_1, iv in_2, iv in_3, iv in_4, iv in_5, iv in_6, iv 1, .unset, .unset, .unset, .unset, .unset, .unset] [(.int 0), (.int 1)])) _
      refine oS (fun _ => XS.iadd X0.here hx rfl (hb hby at_19) rfl) ?_
      refine oS (fun _ => XS.istore X0.here hx rfl (hb hby at_20) rfl (l' := #[iv in_1, iv in_2, iv in_3, iv in_4, iv in_5, iv in_6, iv 1, iv 1, .unset, .unset, .unset, .unset, .unset]) rfl) ?_
      refine oS (fun _ => XS.iload X0.here hx rfl (hb hby at_22) rfl) ?_
      refine oS (fun _ => XS.iloadN X0.here hx rfl (hb hby at_24) rfl) ?_
      show own_G p e below (s₁.setTop (mkF m 25 #[iv in_1, iv in_2, iv in_3, iv in_4, iv in_5, iv in_6, iv 1, iv 1, .unset, .unset, .unset, .unset, .unset] [(.int in_1), (.int 1)])) _
      refine oS (fun _ => XS.iloadN X0.here hx rfl (hb hby at_25) rfl) ?_
      refine oS (fun _ => XS.iloadN X0.here hx rfl (hb hby at_26) rfl) ?_
      obtain ⟨T277, h278, v279, L280, X281, e282, q283, s284⟩ := own_callS X0 hx hZ hown e0 (y := mN5) (oW hw 1 rfl) (oW hw 2 rfl) (oW hw 3 rfl) (oW hw 4 rfl) (by decide) (W := 0) (own_rm2 l Z a0 hw [] in_1 in_2 in_3 in_7 h0 n0 Z0 O0 I68 I77) (by decide) (by decide) (by decide) (by decide) (g := (mkF m 27 #[iv in_1, iv in_2, iv in_3, iv in_4, iv in_5, iv in_6, iv 1, iv 1, .unset, .unset, .unset, .unset, .unset] [(.int in_3), (.int in_2), (.int in_1), (.int 1)])) rfl (by rw [hml]; rfl) (argsL := [(.int 1), (.int in_1), (.int in_2), (.int in_3)]) (rest := []) rfl (lenOf own_pd5 rfl) rfl (by show 2 * 0 + _ ≤ _; exact Nat.le_of_eq rfl) (hb hby at_27)
      refine oS s284 ?_
      obtain ⟨ob_285, ob_286, kk_287, rfl, N288, K289, F290, F291, F292, F293, F294, F295, F296, F297, F298, F299, F300⟩ := q283
      have N301 := Fr.app N0 N288
      have R302 : CHr Z own_EL s.vm h0 s.vm h278 := hR.trans (CHr.keep K289 sf0 hR.1)
      have z303 := K289.1
      show own_G p e below (T277.setTop (mkF m 30 #[iv in_1, iv in_2, iv in_3, iv in_4, iv in_5, iv in_6, iv 1, iv 1, .unset, .unset, .unset, .unset, .unset] [(.ref ob_285)])) _
      refine oS (fun _ => XS.astore X281.here hx rfl (hb hby at_30) rfl rfl (l' := #[iv in_1, iv in_2, iv in_3, iv in_4, iv in_5, iv in_6, iv 1, iv 1, rv ob_285, .unset, .unset, .unset, .unset]) rfl) ?_
      refine oS (fun _ => XS.iload X281.here hx rfl (hb hby at_32) rfl) ?_
      refine oS (fun _ => XS.iloadN X281.here hx rfl (hb hby at_34) rfl) ?_
      refine oS (fun _ => XS.iloadN X281.here hx rfl (hb hby at_35) rfl) ?_
      show own_G p e below (T277.setTop (mkF m 36 #[iv in_1, iv in_2, iv in_3, iv in_4, iv in_5, iv in_6, iv 1, iv 1, rv ob_285, .unset, .unset, .unset, .unset] [(.int in_2), (.int in_1), (.int 1)])) _
      refine oS (fun _ => XS.iloadN X281.here hx rfl (hb hby at_36) rfl) ?_
      have O304 : Old Z n0 h278 := O0.keep K289 all0
      have Z305 : n0 ≤ h278.size := by omega
      obtain ⟨T306, h307, v308, L309, X310, e311, q312, s313⟩ := own_callS X281 hx hZ hown e282 (y := mN5) (oW hw 1 rfl) (oW hw 2 rfl) (oW hw 3 rfl) (oW hw 4 rfl) (by decide) (W := 0) (own_rm2 l Z a0 hw [] in_1 in_2 in_4 in_7 h278 n0 Z305 O304 I68 I77) (by decide) (by decide) (by decide) (by decide) (g := (mkF m 37 #[iv in_1, iv in_2, iv in_3, iv in_4, iv in_5, iv in_6, iv 1, iv 1, rv ob_285, .unset, .unset, .unset, .unset] [(.int in_4), (.int in_2), (.int in_1), (.int 1)])) rfl (by rw [hml]; rfl) (argsL := [(.int 1), (.int in_1), (.int in_2), (.int in_4)]) (rest := []) rfl (lenOf own_pd5 rfl) rfl (by show 2 * 0 + _ ≤ _; exact Nat.le_of_eq rfl) (hb hby at_37)
      refine oS s313 ?_
      obtain ⟨ob_314, ob_315, kk_316, rfl, N317, K318, F319, F320, F321, F322, F323, F324, F325, F326, F327, F328, F329⟩ := q312
      have N330 := Fr.app N301 N317
      have R331 : CHr Z own_EL s.vm h0 s.vm h307 := R302.trans (CHr.keep K318 sf0 R302.1)
      have z332 := K318.1
      show own_G p e below (T306.setTop (mkF m 40 #[iv in_1, iv in_2, iv in_3, iv in_4, iv in_5, iv in_6, iv 1, iv 1, rv ob_285, .unset, .unset, .unset, .unset] [(.ref ob_314)])) _
      refine oS (fun _ => XS.astore X310.here hx rfl (hb hby at_40) rfl rfl (l' := #[iv in_1, iv in_2, iv in_3, iv in_4, iv in_5, iv in_6, iv 1, iv 1, rv ob_285, rv ob_314, .unset, .unset, .unset]) rfl) ?_
      refine oS (fun _ => XS.aload X310.here hx rfl (hb hby at_42) rfl rfl) ?_
      have F363 : Exa Z h307 ob_285 cN1 := F292.keep K318
      have F366 : Fld Z h307 ob_285 cN1 "value" "[B" (.ref ob_286) := F294.keep K318 nin0
      have F374 : Arv Z h307 ob_286 kk_287 .byte 1 [(.int ((in_1 &&& 255).toInt8.toInt32))] (.int 0) := F297.keep K318 nin0
      have O444 : Old Z n0 h307 := O304.keep K318 all0
      have Z445 : n0 ≤ h307.size := by omega
      obtain ⟨T446, h447, v448, L449, X450, e451, q452, hS, hZ, hown, A453, s454⟩ := own_callSW X310 hx hZ hown e311 (y := mN9) (sf := []) (oW hw 35 rfl) (oW hw 36 rfl) (oW hw 37 rfl) (oW hw 38 rfl) (by decide) hS (by omega) hEL R331.1 sf0 all0 (W := 0) (own_rm9 l Z a0 hw hEL [] ob_285 ob_286 kk_287 in_1 h307 n0 Z445 O444 F363 F366 F374) (by decide) (by decide) (by decide) (by decide) (g := (mkF m 44 #[iv in_1, iv in_2, iv in_3, iv in_4, iv in_5, iv in_6, iv 1, iv 1, rv ob_285, rv ob_314, .unset, .unset, .unset] [(.ref ob_285)])) rfl (by rw [hml]; rfl) (argsL := [(.ref ob_285)]) (rest := []) rfl (lenOf own_pd9 rfl) rfl (by show 2 * 0 + _ ≤ _; exact Nat.le_of_eq rfl) (hb hby at_44)
      refine oS s454 ?_
      obtain ⟨ob_455, rfl, N456, K457, F458, F459, F460, F461⟩ := q452
      have N462 := Fr.app N330 N456
      have R463 : CHr Z own_EL s.vm h0 T446.vm h447 := R331.trans A453
      have z464 := K457.1
      show own_G p e below (T446.setTop (mkF m 47 #[iv in_1, iv in_2, iv in_3, iv in_4, iv in_5, iv in_6, iv 1, iv 1, rv ob_285, rv ob_314, .unset, .unset, .unset] [(.ref ob_455)])) _
      refine oS (fun _ => XS.astore X450.here hx rfl (hb hby at_47) rfl rfl (l' := #[iv in_1, iv in_2, iv in_3, iv in_4, iv in_5, iv in_6, iv 1, iv 1, rv ob_285, rv ob_314, rv ob_455, .unset, .unset]) rfl) ?_
      refine oS (fun _ => XS.aload X450.here hx rfl (hb hby at_49) rfl rfl) ?_
      have F465 : Exa Z h447 ob_314 cN1 := F321.keep K457
      have F466 : Fld Z h447 ob_314 cN1 "value" "[B" (.ref ob_315) := F323.keep K457 nin0
      have F467 : Arv Z h447 ob_315 kk_316 .byte 1 [(.int ((in_1 &&& 255).toInt8.toInt32))] (.int 0) := F326.keep K457 nin0
      have O468 : Old Z n0 h447 := O444.keep K457 all0
      have Z469 : n0 ≤ h447.size := by omega
      obtain ⟨T470, h471, v472, L473, X474, e475, q476, hS, hZ, hown, A477, s478⟩ := own_callSW X450 hx hZ hown e451 (y := mN9) (sf := []) (oW hw 35 rfl) (oW hw 36 rfl) (oW hw 37 rfl) (oW hw 38 rfl) (by decide) hS (by omega) hEL R463.1 sf0 all0 (W := 0) (own_rm9 l Z a0 hw hEL [] ob_314 ob_315 kk_316 in_1 h447 n0 Z469 O468 F465 F466 F467) (by decide) (by decide) (by decide) (by decide) (g := (mkF m 51 #[iv in_1, iv in_2, iv in_3, iv in_4, iv in_5, iv in_6, iv 1, iv 1, rv ob_285, rv ob_314, rv ob_455, .unset, .unset] [(.ref ob_314)])) rfl (by rw [hml]; rfl) (argsL := [(.ref ob_314)]) (rest := []) rfl (lenOf own_pd9 rfl) rfl (by show 2 * 0 + _ ≤ _; exact Nat.le_of_eq rfl) (hb hby at_51)
      refine oS s478 ?_
      obtain ⟨ob_479, rfl, N480, K481, F482, F483, F484, F485⟩ := q476
      have N486 := Fr.app N462 N480
      have R487 : CHr Z own_EL s.vm h0 T470.vm h471 := R463.trans A477
      have z488 := K481.1
      show own_G p e below (T470.setTop (mkF m 54 #[iv in_1, iv in_2, iv in_3, iv in_4, iv in_5, iv in_6, iv 1, iv 1, rv ob_285, rv ob_314, rv ob_455, .unset, .unset] [(.ref ob_479)])) _
      refine oS (fun _ => XS.astore X474.here hx rfl (hb hby at_54) rfl rfl (l' := #[iv in_1, iv in_2, iv in_3, iv in_4, iv in_5, iv in_6, iv 1, iv 1, rv ob_285, rv ob_314, rv ob_455, rv ob_479, .unset]) rfl) ?_
      refine oS (fun _ => XS.aload X474.here hx rfl (hb hby at_56) rfl rfl) ?_
      refine oS (fun _ => XS.aload X474.here hx rfl (hb hby at_58) rfl rfl) ?_
      have N489 : @Ne Nat ob_285 ob_314 := by omega
      have F495 : Exa Z h471 ob_314 cN1 := F465.keep K481
      have F508 : Fld Z h307 ob_285 cN1 "coder" "B" (.int 0) := F293.keep K318 nin0
      have F509 : Fld Z h447 ob_285 cN1 "coder" "B" (.int 0) := F508.keep K457 nin0
      have F510 : Fld Z h471 ob_285 cN1 "coder" "B" (.int 0) := F509.keep K481 nin0
      have F516 : Fld Z h447 ob_314 cN1 "coder" "B" (.int 0) := F322.keep K457 nin0
      have F517 : Fld Z h471 ob_314 cN1 "coder" "B" (.int 0) := F516.keep K481 nin0
      have F523 : Fld Z h447 ob_285 cN1 "value" "[B" (.ref ob_286) := F366.keep K457 nin0
      have F524 : Fld Z h471 ob_285 cN1 "value" "[B" (.ref ob_286) := F523.keep K481 nin0
      have F530 : Fld Z h471 ob_314 cN1 "value" "[B" (.ref ob_315) := F466.keep K481 nin0
      have F536 : Arv Z h447 ob_286 kk_287 .byte 1 [(.int ((in_1 &&& 255).toInt8.toInt32))] (.int 0) := F374.keep K457 nin0
      have F537 : Arv Z h471 ob_286 kk_287 .byte 1 [(.int ((in_1 &&& 255).toInt8.toInt32))] (.int 0) := F536.keep K481 nin0
      have F540 : Arv Z h471 ob_315 kk_316 .byte 1 [(.int ((in_1 &&& 255).toInt8.toInt32))] (.int 0) := F467.keep K481 nin0
      have O555 : Old Z n0 h471 := O468.keep K481 all0
      have Z556 : n0 ≤ h471.size := by omega
      have F565 : Exa Z h447 ob_285 cN1 := F363.keep K457
      have F566 : Exa Z h471 ob_285 cN1 := F565.keep K481
      obtain ⟨T557, h558, v559, L560, X561, e562, q563, s564⟩ := own_callV X474 hx hZ hown e475 (y := mN11) (z := mN11) (C := cN1) (b := ob_285) (oW hw 60 rfl) (oW hw 61 rfl) (notFace_of_selects (args := #[]) (mvT hZ (oW hw 63 rfl))) (oW hw 63 rfl) (oW hw 62 rfl) (oW hw 8 rfl) (oW hw 64 rfl) (by decide) F566 (W := 0) (own_rm13 l Z a0 hw [] ob_285 ob_314 in_7 ob_286 ob_315 kk_287 in_1 kk_316 h471 n0 Z556 O555 N489 F495 I68 I77 F510 F517 F524 F530 F537 F540) (by decide) (by decide) (by decide) (by decide) (g := (mkF m 60 #[iv in_1, iv in_2, iv in_3, iv in_4, iv in_5, iv in_6, iv 1, iv 1, rv ob_285, rv ob_314, rv ob_455, rv ob_479, .unset] [(.ref ob_314), (.ref ob_285)])) rfl (by rw [hml]; rfl) (argsL := [(.ref ob_314)]) (rest := []) rfl (lenOf own_pd11 rfl) rfl (by show 2 * 0 + _ ≤ _; exact Nat.le_of_eq rfl) (hb hby at_60)
      refine oS s564 ?_
      obtain ⟨rfl, N567, K568⟩ := q563
      have N569 := Fr.app N486 N567
      have e570 := e562.trans K568
      show own_G p e below (T557.setTop (mkF m 63 #[iv in_1, iv in_2, iv in_3, iv in_4, iv in_5, iv in_6, iv 1, iv 1, rv ob_285, rv ob_314, rv ob_455, rv ob_479, .unset] [(.int 1)])) _
      refine oS (fun _ => XS.istore X561.here hx rfl (hb hby at_63) rfl (l' := #[iv in_1, iv in_2, iv in_3, iv in_4, iv in_5, iv in_6, iv 1, iv 1, rv ob_285, rv ob_314, rv ob_455, rv ob_479, iv 1]) rfl) ?_
      refine oS (fun _ => XS.aload X561.here hx rfl (hb hby at_65) rfl rfl) ?_
      have F571 : Fld Z h471 ob_455 cN4 "name" cN5 (.ref ob_285) := F460.keep K481 nin0
      have Z577 : n0 ≤ h471.size := by omega
      have F586 : Exa Z h471 ob_455 cN4 := F459.keep K481
      obtain ⟨T578, h579, v580, L581, X582, e583, q584, s585⟩ := own_callV X561 hx hZ hown e570 (y := mN12) (z := mN12) (C := cN4) (b := ob_455) (oW hw 70 rfl) (oW hw 71 rfl) (notFace_of_selects (args := #[]) (mvT hZ (oW hw 73 rfl))) (oW hw 73 rfl) (oW hw 72 rfl) (oW hw 37 rfl) (oW hw 74 rfl) (by decide) F586 (W := 0) (own_rm15 l Z a0 hw [] ob_455 ob_285 h471 n0 Z577 O555 F571) (by decide) (by decide) (by decide) (by decide) (g := (mkF m 67 #[iv in_1, iv in_2, iv in_3, iv in_4, iv in_5, iv in_6, iv 1, iv 1, rv ob_285, rv ob_314, rv ob_455, rv ob_479, iv 1] [(.ref ob_455)])) rfl (by rw [hml]; rfl) (argsL := []) (rest := []) rfl (lenOf own_pd12 rfl) rfl (by show 2 * 0 + _ ≤ _; exact Nat.le_of_eq rfl) (hb hby at_67)
      refine oS s585 ?_
      obtain ⟨rfl, N587, K588⟩ := q584
      have N589 := Fr.app N569 N587
      have e590 := e583.trans K588
      show own_G p e below (T578.setTop (mkF m 70 #[iv in_1, iv in_2, iv in_3, iv in_4, iv in_5, iv in_6, iv 1, iv 1, rv ob_285, rv ob_314, rv ob_455, rv ob_479, iv 1] [(.ref ob_285)])) _
      refine oS (fun _ => XS.aload X582.here hx rfl (hb hby at_70) rfl rfl) ?_
      have Z591 : n0 ≤ h471.size := by omega
      obtain ⟨T592, h593, v594, L595, X596, e597, q598, s599⟩ := own_callV X582 hx hZ hown e590 (y := mN11) (z := mN11) (C := cN1) (b := ob_285) (oW hw 60 rfl) (oW hw 61 rfl) (notFace_of_selects (args := #[]) (mvT hZ (oW hw 63 rfl))) (oW hw 63 rfl) (oW hw 62 rfl) (oW hw 8 rfl) (oW hw 64 rfl) (by decide) F566 (W := 0) (own_rm16 l Z a0 hw [] ob_285 h471 n0 Z591 O555 ) (by decide) (by decide) (by decide) (by decide) (g := (mkF m 72 #[iv in_1, iv in_2, iv in_3, iv in_4, iv in_5, iv in_6, iv 1, iv 1, rv ob_285, rv ob_314, rv ob_455, rv ob_479, iv 1] [(.ref ob_285), (.ref ob_285)])) rfl (by rw [hml]; rfl) (argsL := [(.ref ob_285)]) (rest := []) rfl (lenOf own_pd11 rfl) rfl (by show 2 * 0 + _ ≤ _; exact Nat.le_of_eq rfl) (hb hby at_72)
      refine oS s599 ?_
      obtain ⟨rfl, N600, K601⟩ := q598
      have N602 := Fr.app N589 N600
      have e603 := e597.trans K601
      show own_G p e below (T592.setTop (mkF m 75 #[iv in_1, iv in_2, iv in_3, iv in_4, iv in_5, iv in_6, iv 1, iv 1, rv ob_285, rv ob_314, rv ob_455, rv ob_479, iv 1] [(.int 1)])) _
      refine oS (fun _ => XS.ifYes X596.here hx rfl (pc0 := 75) (pc' := 80) rfl (hb hby at_75) rfl (XT.i0_ne_t (by decide)) (by decide) (by decide)) ?_
      show own_G p e below (T592.setTop (mkF m 80 #[iv in_1, iv in_2, iv in_3, iv in_4, iv in_5, iv in_6, iv 1, iv 1, rv ob_285, rv ob_314, rv ob_455, rv ob_479, iv 1] [])) _
      refine oS (fun _ => XS.aload X596.here hx rfl (hb hby at_80) rfl rfl) ?_
      have Z604 : n0 ≤ h471.size := by omega
      obtain ⟨T605, h606, v607, L608, X609, e610, q611, s612⟩ := own_callV X596 hx hZ hown e603 (y := mN12) (z := mN12) (C := cN4) (b := ob_479) (oW hw 70 rfl) (oW hw 71 rfl) (notFace_of_selects (args := #[]) (mvT hZ (oW hw 73 rfl))) (oW hw 73 rfl) (oW hw 72 rfl) (oW hw 37 rfl) (oW hw 74 rfl) (by decide) F483 (W := 0) (own_rm15 l Z a0 hw [] ob_479 ob_314 h471 n0 Z604 O555 F484) (by decide) (by decide) (by decide) (by decide) (g := (mkF m 82 #[iv in_1, iv in_2, iv in_3, iv in_4, iv in_5, iv in_6, iv 1, iv 1, rv ob_285, rv ob_314, rv ob_455, rv ob_479, iv 1] [(.ref ob_479)])) rfl (by rw [hml]; rfl) (argsL := []) (rest := []) rfl (lenOf own_pd12 rfl) rfl (by show 2 * 0 + _ ≤ _; exact Nat.le_of_eq rfl) (hb hby at_82)
      refine oS s612 ?_
      obtain ⟨rfl, N613, K614⟩ := q611
      have N615 := Fr.app N602 N613
      have e616 := e610.trans K614
      show own_G p e below (T605.setTop (mkF m 85 #[iv in_1, iv in_2, iv in_3, iv in_4, iv in_5, iv in_6, iv 1, iv 1, rv ob_285, rv ob_314, rv ob_455, rv ob_479, iv 1] [(.ref ob_314)])) _
      refine oS (fun _ => XS.aload X609.here hx rfl (hb hby at_85) rfl rfl) ?_
      have Z617 : n0 ≤ h471.size := by omega
      obtain ⟨T618, h619, v620, L621, X622, e623, q624, s625⟩ := own_callV X609 hx hZ hown e616 (y := mN11) (z := mN11) (C := cN1) (b := ob_314) (oW hw 60 rfl) (oW hw 61 rfl) (notFace_of_selects (args := #[]) (mvT hZ (oW hw 63 rfl))) (oW hw 63 rfl) (oW hw 62 rfl) (oW hw 8 rfl) (oW hw 64 rfl) (by decide) F495 (W := 0) (own_rm16 l Z a0 hw [] ob_314 h471 n0 Z617 O555 ) (by decide) (by decide) (by decide) (by decide) (g := (mkF m 87 #[iv in_1, iv in_2, iv in_3, iv in_4, iv in_5, iv in_6, iv 1, iv 1, rv ob_285, rv ob_314, rv ob_455, rv ob_479, iv 1] [(.ref ob_314), (.ref ob_314)])) rfl (by rw [hml]; rfl) (argsL := [(.ref ob_314)]) (rest := []) rfl (lenOf own_pd11 rfl) rfl (by show 2 * 0 + _ ≤ _; exact Nat.le_of_eq rfl) (hb hby at_87)
      refine oS s625 ?_
      obtain ⟨rfl, N626, K627⟩ := q624
      have N628 := Fr.app N615 N626
      have e629 := e623.trans K627
      show own_G p e below (T618.setTop (mkF m 90 #[iv in_1, iv in_2, iv in_3, iv in_4, iv in_5, iv in_6, iv 1, iv 1, rv ob_285, rv ob_314, rv ob_455, rv ob_479, iv 1] [(.int 1)])) _
      refine oS (fun _ => XS.ifYes X622.here hx rfl (pc0 := 90) (pc' := 95) rfl (hb hby at_90) rfl (XT.i0_ne_t (by decide)) (by decide) (by decide)) ?_
      show own_G p e below (T618.setTop (mkF m 95 #[iv in_1, iv in_2, iv in_3, iv in_4, iv in_5, iv in_6, iv 1, iv 1, rv ob_285, rv ob_314, rv ob_455, rv ob_479, iv 1] [])) _
      refine oS (fun _ => XS.aload X622.here hx rfl (hb hby at_95) rfl rfl) ?_
      have F631 : Sta Z h471 cN4 "NONE" cN8 (.ref ob_9) := Sta.ext O555.2 I630
      obtain ⟨T632, X633, e634, s635⟩ := getS X622 hx hZ hown (host := "") (oW hw 75 rfl) Via.refl e629 F631 (g := (mkF m 97 #[iv in_1, iv in_2, iv in_3, iv in_4, iv in_5, iv in_6, iv 1, iv 1, rv ob_285, rv ob_314, rv ob_455, rv ob_479, iv 1] [(.ref ob_455)])) rfl (hb hby at_97)
      refine oS s635 ?_
      show own_G p e below (T632.setTop (mkF m 100 #[iv in_1, iv in_2, iv in_3, iv in_4, iv in_5, iv in_6, iv 1, iv 1, rv ob_285, rv ob_314, rv ob_455, rv ob_479, iv 1] [(.ref ob_9), (.ref ob_455)])) _
      have N664 : n0 ≤ ob_285 := by omega
      have Z757 : n0 ≤ h471.size := by omega
      obtain ⟨T758, h759, v760, L761, X762, e763, q764, s765⟩ := own_callV X633 hx hZ hown e634 (y := mN13) (z := mN13) (C := cN4) (b := ob_455) (oW hw 77 rfl) (oW hw 78 rfl) (notFace_of_selects (args := #[]) (mvT hZ (oW hw 80 rfl))) (oW hw 80 rfl) (oW hw 79 rfl) (oW hw 37 rfl) (oW hw 81 rfl) (by decide) F586 (W := 0) (own_rm17 l Z a0 hw [] ob_455 ob_9 ob_10 ob_285 in_7 ob_11 ob_286 kk_12 kk_287 in_1 h471 n0 Z757 O555 I640 I647 F571 I659 N664 F566 I68 I77 I670 F510 I674 F524 I678 F537) (by decide) (by decide) (by decide) (by decide) (g := (mkF m 100 #[iv in_1, iv in_2, iv in_3, iv in_4, iv in_5, iv in_6, iv 1, iv 1, rv ob_285, rv ob_314, rv ob_455, rv ob_479, iv 1] [(.ref ob_9), (.ref ob_455)])) rfl (by rw [hml]; rfl) (argsL := [(.ref ob_9)]) (rest := []) rfl (lenOf own_pd11 rfl) rfl (by show 2 * 0 + _ ≤ _; exact Nat.le_of_eq rfl) (hb hby at_100)
      refine oS s765 ?_
      obtain ⟨rfl, N766, K767⟩ := q764
      have N768 := Fr.app N628 N766
      have e769 := e763.trans K767
      show own_G p e below (T758.setTop (mkF m 103 #[iv in_1, iv in_2, iv in_3, iv in_4, iv in_5, iv in_6, iv 1, iv 1, rv ob_285, rv ob_314, rv ob_455, rv ob_479, iv 1] [(.int 0)])) _
      refine oS (fun _ => XS.ifYes X762.here hx rfl (pc0 := 103) (pc' := 108) rfl (hb hby at_103) rfl (XT.i0_eq_t (by decide)) (by decide) (by decide)) ?_
      show own_G p e below (T758.setTop (mkF m 108 #[iv in_1, iv in_2, iv in_3, iv in_4, iv in_5, iv in_6, iv 1, iv 1, rv ob_285, rv ob_314, rv ob_455, rv ob_479, iv 1] [])) _
      refine oS (fun _ => XS.aload X762.here hx rfl (hb hby at_108) rfl rfl) ?_
      refine oS (fun _ => XS.aload X762.here hx rfl (hb hby at_110) rfl rfl) ?_
      have Z812 : n0 ≤ h471.size := by omega
      obtain ⟨T813, h814, v815, L816, X817, e818, q819, s820⟩ := own_callV X762 hx hZ hown e769 (y := mN13) (z := mN13) (C := cN4) (b := ob_455) (oW hw 77 rfl) (oW hw 78 rfl) (notFace_of_selects (args := #[]) (mvT hZ (oW hw 80 rfl))) (oW hw 80 rfl) (oW hw 79 rfl) (oW hw 37 rfl) (oW hw 81 rfl) (by decide) F586 (W := 0) (own_rm20 l Z a0 hw [] ob_455 ob_479 ob_314 ob_285 in_7 ob_315 ob_286 kk_316 in_1 kk_287 h471 n0 Z812 O555 F483 F484 F571 (Ne.symm N489) F566 I68 I77 F517 F510 F530 F524 F540 F537 F495) (by decide) (by decide) (by decide) (by decide) (g := (mkF m 112 #[iv in_1, iv in_2, iv in_3, iv in_4, iv in_5, iv in_6, iv 1, iv 1, rv ob_285, rv ob_314, rv ob_455, rv ob_479, iv 1] [(.ref ob_479), (.ref ob_455)])) rfl (by rw [hml]; rfl) (argsL := [(.ref ob_479)]) (rest := []) rfl (lenOf own_pd11 rfl) rfl (by show 2 * 0 + _ ≤ _; exact Nat.le_of_eq rfl) (hb hby at_112)
      refine oS s820 ?_
      obtain ⟨rfl, N821, K822⟩ := q819
      have N823 := Fr.app N768 N821
      have e824 := e818.trans K822
      show own_G p e below (T813.setTop (mkF m 115 #[iv in_1, iv in_2, iv in_3, iv in_4, iv in_5, iv in_6, iv 1, iv 1, rv ob_285, rv ob_314, rv ob_455, rv ob_479, iv 1] [(.int 1)])) _
      refine oS (fun _ => XS.iload X817.here hx rfl (hb hby at_115) rfl) ?_
      refine oS (fun _ => XS.icmpYes X817.here hx rfl (pc0 := 117) (pc' := 122) rfl (hb hby at_117) rfl (XT.ii_eq_t (by decide)) (by decide) (by decide)) ?_
      show own_G p e below (T813.setTop (mkF m 122 #[iv in_1, iv in_2, iv in_3, iv in_4, iv in_5, iv in_6, iv 1, iv 1, rv ob_285, rv ob_314, rv ob_455, rv ob_479, iv 1] [])) _
      refine oS (fun _ => XS.iload X817.here hx rfl (hb hby at_122) rfl) ?_
      refine oS (fun _ => XS.ifNo X817.here hx rfl (hb hby at_124) rfl (XT.i0_eq_f (by decide))) ?_
      show own_G p e below (T813.setTop (mkF m 127 #[iv in_1, iv in_2, iv in_3, iv in_4, iv in_5, iv in_6, iv 1, iv 1, rv ob_285, rv ob_314, rv ob_455, rv ob_479, iv 1] [])) _
      refine oS (fun _ => XS.aload X817.here hx rfl (hb hby at_127) rfl rfl) ?_
      have F830 : Fld Z h307 ob_285 cN1 "hash" "I" (.int 0) := F295.keep K318 nin0
      have F831 : Fld Z h447 ob_285 cN1 "hash" "I" (.int 0) := F830.keep K457 nin0
      have F832 : Fld Z h471 ob_285 cN1 "hash" "I" (.int 0) := F831.keep K481 nin0
      have F839 : Fld Z h307 ob_285 cN1 "hashIsZero" "Z" (.int 0) := F296.keep K318 nin0
      have F840 : Fld Z h447 ob_285 cN1 "hashIsZero" "Z" (.int 0) := F839.keep K457 nin0
      have F841 : Fld Z h471 ob_285 cN1 "hashIsZero" "Z" (.int 0) := F840.keep K481 nin0
      have Z947 : n0 ≤ h471.size := by omega
      obtain ⟨T948, h949, v950, L951, X952, e953, q954, s955⟩ := own_callV X817 hx hZ hown e824 (y := mN17) (z := mN17) (C := cN4) (b := ob_455) (oW hw 84 rfl) (oW hw 85 rfl) (notFace_of_selects (args := #[]) (mvT hZ (oW hw 87 rfl))) (oW hw 87 rfl) (oW hw 86 rfl) (oW hw 37 rfl) (oW hw 88 rfl) (by decide) F586 (W := 0) (own_rm21 l Z a0 hw [] ob_455 ob_285 in_7 ob_286 kk_287 in_1 h471 n0 Z947 O555 F571 F832 F841 I68 I77 F510 F566 F524 F537 N664) (by decide) (by decide) (by decide) (by decide) (g := (mkF m 129 #[iv in_1, iv in_2, iv in_3, iv in_4, iv in_5, iv in_6, iv 1, iv 1, rv ob_285, rv ob_314, rv ob_455, rv ob_479, iv 1] [(.ref ob_455)])) rfl (by rw [hml]; rfl) (argsL := []) (rest := []) rfl (lenOf own_pd14 rfl) rfl (by show 2 * 0 + _ ≤ _; exact Nat.le_of_eq rfl) (hb hby at_129)
      refine oS s955 ?_
      obtain ⟨rfl, N956, K957, F958, F959, F960⟩ := q954
      have N961 := Fr.app N823 N956
      have R962 : CHr Z own_EL s.vm h0 T470.vm h949 := R487.trans (CHr.keep K957 (sfS own_safe0 sf0) R487.1)
      have z963 := K957.1
      show own_G p e below (T948.setTop (mkF m 132 #[iv in_1, iv in_2, iv in_3, iv in_4, iv in_5, iv in_6, iv 1, iv 1, rv ob_285, rv ob_314, rv ob_455, rv ob_479, iv 1] [(.int (((in_1 &&& 255).toInt8.toInt32) &&& 255))])) _
      refine oS (fun _ => XS.aload X952.here hx rfl (hb hby at_132) rfl rfl) ?_
      have N964 : @Ne Nat ob_479 ob_285 := by omega
      have F965 : Fld Z h949 ob_479 cN4 "name" cN5 (.ref ob_314) := F484.keep K957 (ninS N964 nin0)
      have F966 : Fld Z h447 ob_314 cN1 "hash" "I" (.int 0) := F324.keep K457 nin0
      have F967 : Fld Z h471 ob_314 cN1 "hash" "I" (.int 0) := F966.keep K481 nin0
      have F968 : Fld Z h949 ob_314 cN1 "hash" "I" (.int 0) := F967.keep K957 (ninS (Ne.symm N489) nin0)
      have F969 : Fld Z h447 ob_314 cN1 "hashIsZero" "Z" (.int 0) := F325.keep K457 nin0
      have F970 : Fld Z h471 ob_314 cN1 "hashIsZero" "Z" (.int 0) := F969.keep K481 nin0
      have F971 : Fld Z h949 ob_314 cN1 "hashIsZero" "Z" (.int 0) := F970.keep K957 (ninS (Ne.symm N489) nin0)
      have F972 : Fld Z h949 ob_314 cN1 "coder" "B" (.int 0) := F517.keep K957 (ninS (Ne.symm N489) nin0)
      have F973 : Exa Z h949 ob_314 cN1 := F495.keep K957
      have F974 : Fld Z h949 ob_314 cN1 "value" "[B" (.ref ob_315) := F530.keep K957 (ninS (Ne.symm N489) nin0)
      have N975 : @Ne Nat ob_315 ob_285 := by omega
      have F976 : Arv Z h949 ob_315 kk_316 .byte 1 [(.int ((in_1 &&& 255).toInt8.toInt32))] (.int 0) := F540.keep K957 (ninS N975 nin0)
      have N977 : n0 ≤ ob_314 := by omega
      have O978 : Old Z n0 h949 := O555.keep K957 (allS N664 all0)
      have Z979 : n0 ≤ h949.size := by omega
      have F988 : Exa Z h949 ob_479 cN4 := F483.keep K957
      obtain ⟨T980, h981, v982, L983, X984, e985, q986, s987⟩ := own_callV X952 hx hZ hown e953 (y := mN17) (z := mN17) (C := cN4) (b := ob_479) (oW hw 84 rfl) (oW hw 85 rfl) (notFace_of_selects (args := #[]) (mvT hZ (oW hw 87 rfl))) (oW hw 87 rfl) (oW hw 86 rfl) (oW hw 37 rfl) (oW hw 88 rfl) (by decide) F988 (W := 1) (own_rm21 l Z a0 hw [] ob_479 ob_314 in_7 ob_315 kk_316 in_1 h949 n0 Z979 O978 F965 F968 F971 I68 I77 F972 F973 F974 F976 N977) (by decide) (by decide) (by decide) (by decide) (g := (mkF m 134 #[iv in_1, iv in_2, iv in_3, iv in_4, iv in_5, iv in_6, iv 1, iv 1, rv ob_285, rv ob_314, rv ob_455, rv ob_479, iv 1] [(.ref ob_479), (.int (((in_1 &&& 255).toInt8.toInt32) &&& 255))])) rfl (by rw [hml]; rfl) (argsL := []) (rest := [(.int (((in_1 &&& 255).toInt8.toInt32) &&& 255))]) rfl (lenOf own_pd14 rfl) rfl (by show 2 * 0 + _ ≤ _; exact Nat.le_of_eq rfl) (hb hby at_134)
      refine oS s987 ?_
      obtain ⟨rfl, N989, K990, F991, F992, F993⟩ := q986
      have N994 := Fr.app N961 N989
      have R995 : CHr Z own_EL s.vm h0 T470.vm h981 := R962.trans (CHr.keep K990 (sfS own_safe0 sf0) R962.1)
      have z996 := K990.1
      show own_G p e below (T980.setTop (mkF m 137 #[iv in_1, iv in_2, iv in_3, iv in_4, iv in_5, iv in_6, iv 1, iv 1, rv ob_285, rv ob_314, rv ob_455, rv ob_479, iv 1] [(.int (((in_1 &&& 255).toInt8.toInt32) &&& 255)), (.int (((in_1 &&& 255).toInt8.toInt32) &&& 255))])) _
      refine oS (fun _ => XS.icmpYes X984.here hx rfl (pc0 := 137) (pc' := 142) rfl (hb hby at_137) rfl (XT.ii_eq_t rfl) (by decide) (by decide)) ?_
      show own_G p e below (T980.setTop (mkF m 142 #[iv in_1, iv in_2, iv in_3, iv in_4, iv in_5, iv in_6, iv 1, iv 1, rv ob_285, rv ob_314, rv ob_455, rv ob_479, iv 1] [])) _
      refine oS (fun _ => XS.iconst X984.here hx rfl (hb hby at_142) ) ?_
      have K997 : Keep h0 h981 [] := (((((((Keep.refl h0 []).trans K289 all0).trans K318 all0).trans K457 all0).trans K481 all0).trans K957 (allS (Or.inr (by omega)) all0)).trans K990 (allS (Or.inr (by omega)) all0))
      exact own_retNW X984 hx (t := .boolean) Bd.notSynchronized Bd.returns (by simp) (hb hby at_143) (by decide) hS hZ hEL hh R995 e985 (by omega) (by decide) (by decide) (fun hA => ⟨rfl, N994⟩)
    · skip
      refine own_cast (g' := (mkF m 19 #[iv in_1, iv in_2, iv in_3, iv in_4, iv in_5, iv in_6, iv 1, .unset, .unset, .unset, .unset, .unset, .unset] [(.int 1), (.int 1)])) (by rw [q17]) ?_
      show own_G p e below (s₁.setTop (mkF m 19 #[iv in_1, iv in_2, iv in_3, iv in_4, iv in_5, iv in_6, iv 1, .unset, .unset, .unset, .unset, .unset, .unset] [(.int 1), (.int 1)])) _
      refine oS (fun _ => XS.iadd X0.here hx rfl (hb hby at_19) rfl) ?_
      refine oS (fun _ => XS.istore X0.here hx rfl (hb hby at_20) rfl (l' := #[iv in_1, iv in_2, iv in_3, iv in_4, iv in_5, iv in_6, iv 1, iv 2, .unset, .unset, .unset, .unset, .unset]) rfl) ?_
      refine oS (fun _ => XS.iload X0.here hx rfl (hb hby at_22) rfl) ?_
      refine oS (fun _ => XS.iloadN X0.here hx rfl (hb hby at_24) rfl) ?_
      show own_G p e below (s₁.setTop (mkF m 25 #[iv in_1, iv in_2, iv in_3, iv in_4, iv in_5, iv in_6, iv 1, iv 2, .unset, .unset, .unset, .unset, .unset] [(.int in_1), (.int 1)])) _
      refine oS (fun _ => XS.iloadN X0.here hx rfl (hb hby at_25) rfl) ?_
      refine oS (fun _ => XS.iloadN X0.here hx rfl (hb hby at_26) rfl) ?_
      obtain ⟨T998, h999, v1000, L1001, X1002, e1003, q1004, s1005⟩ := own_callS X0 hx hZ hown e0 (y := mN5) (oW hw 1 rfl) (oW hw 2 rfl) (oW hw 3 rfl) (oW hw 4 rfl) (by decide) (W := 0) (own_rm2 l Z a0 hw [] in_1 in_2 in_3 in_7 h0 n0 Z0 O0 I68 I77) (by decide) (by decide) (by decide) (by decide) (g := (mkF m 27 #[iv in_1, iv in_2, iv in_3, iv in_4, iv in_5, iv in_6, iv 1, iv 2, .unset, .unset, .unset, .unset, .unset] [(.int in_3), (.int in_2), (.int in_1), (.int 1)])) rfl (by rw [hml]; rfl) (argsL := [(.int 1), (.int in_1), (.int in_2), (.int in_3)]) (rest := []) rfl (lenOf own_pd5 rfl) rfl (by show 2 * 0 + _ ≤ _; exact Nat.le_of_eq rfl) (hb hby at_27)
      refine oS s1005 ?_
      obtain ⟨ob_1006, ob_1007, kk_1008, rfl, N1009, K1010, F1011, F1012, F1013, F1014, F1015, F1016, F1017, F1018, F1019, F1020, F1021⟩ := q1004
      have N1022 := Fr.app N0 N1009
      have R1023 : CHr Z own_EL s.vm h0 s.vm h999 := hR.trans (CHr.keep K1010 sf0 hR.1)
      have z1024 := K1010.1
      show own_G p e below (T998.setTop (mkF m 30 #[iv in_1, iv in_2, iv in_3, iv in_4, iv in_5, iv in_6, iv 1, iv 2, .unset, .unset, .unset, .unset, .unset] [(.ref ob_1006)])) _
      refine oS (fun _ => XS.astore X1002.here hx rfl (hb hby at_30) rfl rfl (l' := #[iv in_1, iv in_2, iv in_3, iv in_4, iv in_5, iv in_6, iv 1, iv 2, rv ob_1006, .unset, .unset, .unset, .unset]) rfl) ?_
      refine oS (fun _ => XS.iload X1002.here hx rfl (hb hby at_32) rfl) ?_
      refine oS (fun _ => XS.iloadN X1002.here hx rfl (hb hby at_34) rfl) ?_
      refine oS (fun _ => XS.iloadN X1002.here hx rfl (hb hby at_35) rfl) ?_
      show own_G p e below (T998.setTop (mkF m 36 #[iv in_1, iv in_2, iv in_3, iv in_4, iv in_5, iv in_6, iv 1, iv 2, rv ob_1006, .unset, .unset, .unset, .unset] [(.int in_2), (.int in_1), (.int 2)])) _
      refine oS (fun _ => XS.iloadN X1002.here hx rfl (hb hby at_36) rfl) ?_
      have O1312 : Old Z n0 h999 := O0.keep K1010 all0
      have Z1313 : n0 ≤ h999.size := by omega
      obtain ⟨T1314, h1315, v1316, L1317, X1318, e1319, q1320, s1321⟩ := own_callS X1002 hx hZ hown e1003 (y := mN5) (oW hw 1 rfl) (oW hw 2 rfl) (oW hw 3 rfl) (oW hw 4 rfl) (by decide) (W := 0) (own_rm25 l Z a0 hw [] in_1 in_2 in_4 in_7 h999 n0 Z1313 O1312 I68 I77) (by decide) (by decide) (by decide) (by decide) (g := (mkF m 37 #[iv in_1, iv in_2, iv in_3, iv in_4, iv in_5, iv in_6, iv 1, iv 2, rv ob_1006, .unset, .unset, .unset, .unset] [(.int in_4), (.int in_2), (.int in_1), (.int 2)])) rfl (by rw [hml]; rfl) (argsL := [(.int 2), (.int in_1), (.int in_2), (.int in_4)]) (rest := []) rfl (lenOf own_pd5 rfl) rfl (by show 2 * 0 + _ ≤ _; exact Nat.le_of_eq rfl) (hb hby at_37)
      refine oS s1321 ?_
      obtain ⟨ob_1322, ob_1323, kk_1324, rfl, N1325, K1326, F1327, F1328, F1329, F1330, F1331, F1332, F1333, F1334, F1335, F1336, F1337⟩ := q1320
      have N1338 := Fr.app N1022 N1325
      have R1339 : CHr Z own_EL s.vm h0 s.vm h1315 := R1023.trans (CHr.keep K1326 sf0 R1023.1)
      have z1340 := K1326.1
      show own_G p e below (T1314.setTop (mkF m 40 #[iv in_1, iv in_2, iv in_3, iv in_4, iv in_5, iv in_6, iv 1, iv 2, rv ob_1006, .unset, .unset, .unset, .unset] [(.ref ob_1322)])) _
      refine oS (fun _ => XS.astore X1318.here hx rfl (hb hby at_40) rfl rfl (l' := #[iv in_1, iv in_2, iv in_3, iv in_4, iv in_5, iv in_6, iv 1, iv 2, rv ob_1006, rv ob_1322, .unset, .unset, .unset]) rfl) ?_
      refine oS (fun _ => XS.aload X1318.here hx rfl (hb hby at_42) rfl rfl) ?_
      have F1341 : Exa Z h1315 ob_1006 cN1 := F1013.keep K1326
      have F1342 : Fld Z h1315 ob_1006 cN1 "value" "[B" (.ref ob_1007) := F1015.keep K1326 nin0
      have F1343 : Arv Z h1315 ob_1007 kk_1008 .byte 1 [(.int ((in_1 &&& 255).toInt8.toInt32))] (.int 0) := F1018.keep K1326 nin0
      have O1344 : Old Z n0 h1315 := O1312.keep K1326 all0
      have Z1345 : n0 ≤ h1315.size := by omega
      obtain ⟨T1346, h1347, v1348, L1349, X1350, e1351, q1352, hS, hZ, hown, A1353, s1354⟩ := own_callSW X1318 hx hZ hown e1319 (y := mN9) (sf := []) (oW hw 35 rfl) (oW hw 36 rfl) (oW hw 37 rfl) (oW hw 38 rfl) (by decide) hS (by omega) hEL R1339.1 sf0 all0 (W := 0) (own_rm9 l Z a0 hw hEL [] ob_1006 ob_1007 kk_1008 in_1 h1315 n0 Z1345 O1344 F1341 F1342 F1343) (by decide) (by decide) (by decide) (by decide) (g := (mkF m 44 #[iv in_1, iv in_2, iv in_3, iv in_4, iv in_5, iv in_6, iv 1, iv 2, rv ob_1006, rv ob_1322, .unset, .unset, .unset] [(.ref ob_1006)])) rfl (by rw [hml]; rfl) (argsL := [(.ref ob_1006)]) (rest := []) rfl (lenOf own_pd9 rfl) rfl (by show 2 * 0 + _ ≤ _; exact Nat.le_of_eq rfl) (hb hby at_44)
      refine oS s1354 ?_
      obtain ⟨ob_1355, rfl, N1356, K1357, F1358, F1359, F1360, F1361⟩ := q1352
      have N1362 := Fr.app N1338 N1356
      have R1363 : CHr Z own_EL s.vm h0 T1346.vm h1347 := R1339.trans A1353
      have z1364 := K1357.1
      show own_G p e below (T1346.setTop (mkF m 47 #[iv in_1, iv in_2, iv in_3, iv in_4, iv in_5, iv in_6, iv 1, iv 2, rv ob_1006, rv ob_1322, .unset, .unset, .unset] [(.ref ob_1355)])) _
      refine oS (fun _ => XS.astore X1350.here hx rfl (hb hby at_47) rfl rfl (l' := #[iv in_1, iv in_2, iv in_3, iv in_4, iv in_5, iv in_6, iv 1, iv 2, rv ob_1006, rv ob_1322, rv ob_1355, .unset, .unset]) rfl) ?_
      refine oS (fun _ => XS.aload X1350.here hx rfl (hb hby at_49) rfl rfl) ?_
      have F1365 : Exa Z h1347 ob_1322 cN1 := F1329.keep K1357
      have F1366 : Fld Z h1347 ob_1322 cN1 "value" "[B" (.ref ob_1323) := F1331.keep K1357 nin0
      have F1367 : Arv Z h1347 ob_1323 kk_1324 .byte 2 [(.int ((in_1 &&& 255).toInt8.toInt32)), (.int ((in_2 &&& 255).toInt8.toInt32))] (.int 0) := F1334.keep K1357 nin0
      have O1458 : Old Z n0 h1347 := O1344.keep K1357 all0
      have Z1459 : n0 ≤ h1347.size := by omega
      obtain ⟨T1460, h1461, v1462, L1463, X1464, e1465, q1466, hS, hZ, hown, A1467, s1468⟩ := own_callSW X1350 hx hZ hown e1351 (y := mN9) (sf := []) (oW hw 35 rfl) (oW hw 36 rfl) (oW hw 37 rfl) (oW hw 38 rfl) (by decide) hS (by omega) hEL R1363.1 sf0 all0 (W := 0) (own_rm32 l Z a0 hw hEL [] ob_1322 ob_1323 kk_1324 in_1 in_2 h1347 n0 Z1459 O1458 F1365 F1366 F1367) (by decide) (by decide) (by decide) (by decide) (g := (mkF m 51 #[iv in_1, iv in_2, iv in_3, iv in_4, iv in_5, iv in_6, iv 1, iv 2, rv ob_1006, rv ob_1322, rv ob_1355, .unset, .unset] [(.ref ob_1322)])) rfl (by rw [hml]; rfl) (argsL := [(.ref ob_1322)]) (rest := []) rfl (lenOf own_pd9 rfl) rfl (by show 2 * 0 + _ ≤ _; exact Nat.le_of_eq rfl) (hb hby at_51)
      refine oS s1468 ?_
      obtain ⟨ob_1469, rfl, N1470, K1471, F1472, F1473, F1474, F1475⟩ := q1466
      have N1476 := Fr.app N1362 N1470
      have R1477 : CHr Z own_EL s.vm h0 T1460.vm h1461 := R1363.trans A1467
      have z1478 := K1471.1
      show own_G p e below (T1460.setTop (mkF m 54 #[iv in_1, iv in_2, iv in_3, iv in_4, iv in_5, iv in_6, iv 1, iv 2, rv ob_1006, rv ob_1322, rv ob_1355, .unset, .unset] [(.ref ob_1469)])) _
      refine oS (fun _ => XS.astore X1464.here hx rfl (hb hby at_54) rfl rfl (l' := #[iv in_1, iv in_2, iv in_3, iv in_4, iv in_5, iv in_6, iv 1, iv 2, rv ob_1006, rv ob_1322, rv ob_1355, rv ob_1469, .unset]) rfl) ?_
      refine oS (fun _ => XS.aload X1464.here hx rfl (hb hby at_56) rfl rfl) ?_
      refine oS (fun _ => XS.aload X1464.here hx rfl (hb hby at_58) rfl rfl) ?_
      have N1479 : @Ne Nat ob_1006 ob_1322 := by omega
      have F1480 : Exa Z h1461 ob_1322 cN1 := F1365.keep K1471
      have F1481 : Fld Z h1315 ob_1006 cN1 "coder" "B" (.int 0) := F1014.keep K1326 nin0
      have F1482 : Fld Z h1347 ob_1006 cN1 "coder" "B" (.int 0) := F1481.keep K1357 nin0
      have F1483 : Fld Z h1461 ob_1006 cN1 "coder" "B" (.int 0) := F1482.keep K1471 nin0
      have F1484 : Fld Z h1347 ob_1322 cN1 "coder" "B" (.int 0) := F1330.keep K1357 nin0
      have F1485 : Fld Z h1461 ob_1322 cN1 "coder" "B" (.int 0) := F1484.keep K1471 nin0
      have F1486 : Fld Z h1347 ob_1006 cN1 "value" "[B" (.ref ob_1007) := F1342.keep K1357 nin0
      have F1487 : Fld Z h1461 ob_1006 cN1 "value" "[B" (.ref ob_1007) := F1486.keep K1471 nin0
      have F1488 : Fld Z h1461 ob_1322 cN1 "value" "[B" (.ref ob_1323) := F1366.keep K1471 nin0
      have F1489 : Arv Z h1347 ob_1007 kk_1008 .byte 1 [(.int ((in_1 &&& 255).toInt8.toInt32))] (.int 0) := F1343.keep K1357 nin0
      have F1490 : Arv Z h1461 ob_1007 kk_1008 .byte 1 [(.int ((in_1 &&& 255).toInt8.toInt32))] (.int 0) := F1489.keep K1471 nin0
      have F1491 : Arv Z h1461 ob_1323 kk_1324 .byte 2 [(.int ((in_1 &&& 255).toInt8.toInt32)), (.int ((in_2 &&& 255).toInt8.toInt32))] (.int 0) := F1367.keep K1471 nin0
      have F1492 : Exa Z h1347 ob_1006 cN1 := F1341.keep K1357
      have F1493 : Exa Z h1461 ob_1006 cN1 := F1492.keep K1471
      have O1547 : Old Z n0 h1461 := O1458.keep K1471 all0
      have Z1548 : n0 ≤ h1461.size := by omega
      obtain ⟨T1549, h1550, v1551, L1552, X1553, e1554, q1555, s1556⟩ := own_callV X1464 hx hZ hown e1465 (y := mN11) (z := mN11) (C := cN1) (b := ob_1006) (oW hw 60 rfl) (oW hw 61 rfl) (notFace_of_selects (args := #[]) (mvT hZ (oW hw 63 rfl))) (oW hw 63 rfl) (oW hw 62 rfl) (oW hw 8 rfl) (oW hw 64 rfl) (by decide) F1493 (W := 0) (own_rm34 l Z a0 hw [] ob_1006 ob_1322 in_7 ob_1007 ob_1323 kk_1008 in_1 kk_1324 in_2 h1461 n0 Z1548 O1547 N1479 F1480 I68 I77 F1483 F1485 F1487 F1488 F1490 F1491) (by decide) (by decide) (by decide) (by decide) (g := (mkF m 60 #[iv in_1, iv in_2, iv in_3, iv in_4, iv in_5, iv in_6, iv 1, iv 2, rv ob_1006, rv ob_1322, rv ob_1355, rv ob_1469, .unset] [(.ref ob_1322), (.ref ob_1006)])) rfl (by rw [hml]; rfl) (argsL := [(.ref ob_1322)]) (rest := []) rfl (lenOf own_pd11 rfl) rfl (by show 2 * 0 + _ ≤ _; exact Nat.le_of_eq rfl) (hb hby at_60)
      refine oS s1556 ?_
      obtain ⟨rfl, N1557, K1558⟩ := q1555
      have N1559 := Fr.app N1476 N1557
      have e1560 := e1554.trans K1558
      show own_G p e below (T1549.setTop (mkF m 63 #[iv in_1, iv in_2, iv in_3, iv in_4, iv in_5, iv in_6, iv 1, iv 2, rv ob_1006, rv ob_1322, rv ob_1355, rv ob_1469, .unset] [(.int 0)])) _
      refine oS (fun _ => XS.istore X1553.here hx rfl (hb hby at_63) rfl (l' := #[iv in_1, iv in_2, iv in_3, iv in_4, iv in_5, iv in_6, iv 1, iv 2, rv ob_1006, rv ob_1322, rv ob_1355, rv ob_1469, iv 0]) rfl) ?_
      refine oS (fun _ => XS.aload X1553.here hx rfl (hb hby at_65) rfl rfl) ?_
      have F1561 : Fld Z h1461 ob_1355 cN4 "name" cN5 (.ref ob_1006) := F1360.keep K1471 nin0
      have Z1562 : n0 ≤ h1461.size := by omega
      have F1571 : Exa Z h1461 ob_1355 cN4 := F1359.keep K1471
      obtain ⟨T1563, h1564, v1565, L1566, X1567, e1568, q1569, s1570⟩ := own_callV X1553 hx hZ hown e1560 (y := mN12) (z := mN12) (C := cN4) (b := ob_1355) (oW hw 70 rfl) (oW hw 71 rfl) (notFace_of_selects (args := #[]) (mvT hZ (oW hw 73 rfl))) (oW hw 73 rfl) (oW hw 72 rfl) (oW hw 37 rfl) (oW hw 74 rfl) (by decide) F1571 (W := 0) (own_rm15 l Z a0 hw [] ob_1355 ob_1006 h1461 n0 Z1562 O1547 F1561) (by decide) (by decide) (by decide) (by decide) (g := (mkF m 67 #[iv in_1, iv in_2, iv in_3, iv in_4, iv in_5, iv in_6, iv 1, iv 2, rv ob_1006, rv ob_1322, rv ob_1355, rv ob_1469, iv 0] [(.ref ob_1355)])) rfl (by rw [hml]; rfl) (argsL := []) (rest := []) rfl (lenOf own_pd12 rfl) rfl (by show 2 * 0 + _ ≤ _; exact Nat.le_of_eq rfl) (hb hby at_67)
      refine oS s1570 ?_
      obtain ⟨rfl, N1572, K1573⟩ := q1569
      have N1574 := Fr.app N1559 N1572
      have e1575 := e1568.trans K1573
      show own_G p e below (T1563.setTop (mkF m 70 #[iv in_1, iv in_2, iv in_3, iv in_4, iv in_5, iv in_6, iv 1, iv 2, rv ob_1006, rv ob_1322, rv ob_1355, rv ob_1469, iv 0] [(.ref ob_1006)])) _
      refine oS (fun _ => XS.aload X1567.here hx rfl (hb hby at_70) rfl rfl) ?_
      have Z1576 : n0 ≤ h1461.size := by omega
      obtain ⟨T1577, h1578, v1579, L1580, X1581, e1582, q1583, s1584⟩ := own_callV X1567 hx hZ hown e1575 (y := mN11) (z := mN11) (C := cN1) (b := ob_1006) (oW hw 60 rfl) (oW hw 61 rfl) (notFace_of_selects (args := #[]) (mvT hZ (oW hw 63 rfl))) (oW hw 63 rfl) (oW hw 62 rfl) (oW hw 8 rfl) (oW hw 64 rfl) (by decide) F1493 (W := 0) (own_rm16 l Z a0 hw [] ob_1006 h1461 n0 Z1576 O1547 ) (by decide) (by decide) (by decide) (by decide) (g := (mkF m 72 #[iv in_1, iv in_2, iv in_3, iv in_4, iv in_5, iv in_6, iv 1, iv 2, rv ob_1006, rv ob_1322, rv ob_1355, rv ob_1469, iv 0] [(.ref ob_1006), (.ref ob_1006)])) rfl (by rw [hml]; rfl) (argsL := [(.ref ob_1006)]) (rest := []) rfl (lenOf own_pd11 rfl) rfl (by show 2 * 0 + _ ≤ _; exact Nat.le_of_eq rfl) (hb hby at_72)
      refine oS s1584 ?_
      obtain ⟨rfl, N1585, K1586⟩ := q1583
      have N1587 := Fr.app N1574 N1585
      have e1588 := e1582.trans K1586
      show own_G p e below (T1577.setTop (mkF m 75 #[iv in_1, iv in_2, iv in_3, iv in_4, iv in_5, iv in_6, iv 1, iv 2, rv ob_1006, rv ob_1322, rv ob_1355, rv ob_1469, iv 0] [(.int 1)])) _
      refine oS (fun _ => XS.ifYes X1581.here hx rfl (pc0 := 75) (pc' := 80) rfl (hb hby at_75) rfl (XT.i0_ne_t (by decide)) (by decide) (by decide)) ?_
      show own_G p e below (T1577.setTop (mkF m 80 #[iv in_1, iv in_2, iv in_3, iv in_4, iv in_5, iv in_6, iv 1, iv 2, rv ob_1006, rv ob_1322, rv ob_1355, rv ob_1469, iv 0] [])) _
      refine oS (fun _ => XS.aload X1581.here hx rfl (hb hby at_80) rfl rfl) ?_
      have Z1589 : n0 ≤ h1461.size := by omega
      obtain ⟨T1590, h1591, v1592, L1593, X1594, e1595, q1596, s1597⟩ := own_callV X1581 hx hZ hown e1588 (y := mN12) (z := mN12) (C := cN4) (b := ob_1469) (oW hw 70 rfl) (oW hw 71 rfl) (notFace_of_selects (args := #[]) (mvT hZ (oW hw 73 rfl))) (oW hw 73 rfl) (oW hw 72 rfl) (oW hw 37 rfl) (oW hw 74 rfl) (by decide) F1473 (W := 0) (own_rm15 l Z a0 hw [] ob_1469 ob_1322 h1461 n0 Z1589 O1547 F1474) (by decide) (by decide) (by decide) (by decide) (g := (mkF m 82 #[iv in_1, iv in_2, iv in_3, iv in_4, iv in_5, iv in_6, iv 1, iv 2, rv ob_1006, rv ob_1322, rv ob_1355, rv ob_1469, iv 0] [(.ref ob_1469)])) rfl (by rw [hml]; rfl) (argsL := []) (rest := []) rfl (lenOf own_pd12 rfl) rfl (by show 2 * 0 + _ ≤ _; exact Nat.le_of_eq rfl) (hb hby at_82)
      refine oS s1597 ?_
      obtain ⟨rfl, N1598, K1599⟩ := q1596
      have N1600 := Fr.app N1587 N1598
      have e1601 := e1595.trans K1599
      show own_G p e below (T1590.setTop (mkF m 85 #[iv in_1, iv in_2, iv in_3, iv in_4, iv in_5, iv in_6, iv 1, iv 2, rv ob_1006, rv ob_1322, rv ob_1355, rv ob_1469, iv 0] [(.ref ob_1322)])) _
      refine oS (fun _ => XS.aload X1594.here hx rfl (hb hby at_85) rfl rfl) ?_
      have Z1602 : n0 ≤ h1461.size := by omega
      obtain ⟨T1603, h1604, v1605, L1606, X1607, e1608, q1609, s1610⟩ := own_callV X1594 hx hZ hown e1601 (y := mN11) (z := mN11) (C := cN1) (b := ob_1322) (oW hw 60 rfl) (oW hw 61 rfl) (notFace_of_selects (args := #[]) (mvT hZ (oW hw 63 rfl))) (oW hw 63 rfl) (oW hw 62 rfl) (oW hw 8 rfl) (oW hw 64 rfl) (by decide) F1480 (W := 0) (own_rm16 l Z a0 hw [] ob_1322 h1461 n0 Z1602 O1547 ) (by decide) (by decide) (by decide) (by decide) (g := (mkF m 87 #[iv in_1, iv in_2, iv in_3, iv in_4, iv in_5, iv in_6, iv 1, iv 2, rv ob_1006, rv ob_1322, rv ob_1355, rv ob_1469, iv 0] [(.ref ob_1322), (.ref ob_1322)])) rfl (by rw [hml]; rfl) (argsL := [(.ref ob_1322)]) (rest := []) rfl (lenOf own_pd11 rfl) rfl (by show 2 * 0 + _ ≤ _; exact Nat.le_of_eq rfl) (hb hby at_87)
      refine oS s1610 ?_
      obtain ⟨rfl, N1611, K1612⟩ := q1609
      have N1613 := Fr.app N1600 N1611
      have e1614 := e1608.trans K1612
      show own_G p e below (T1603.setTop (mkF m 90 #[iv in_1, iv in_2, iv in_3, iv in_4, iv in_5, iv in_6, iv 1, iv 2, rv ob_1006, rv ob_1322, rv ob_1355, rv ob_1469, iv 0] [(.int 1)])) _
      refine oS (fun _ => XS.ifYes X1607.here hx rfl (pc0 := 90) (pc' := 95) rfl (hb hby at_90) rfl (XT.i0_ne_t (by decide)) (by decide) (by decide)) ?_
      show own_G p e below (T1603.setTop (mkF m 95 #[iv in_1, iv in_2, iv in_3, iv in_4, iv in_5, iv in_6, iv 1, iv 2, rv ob_1006, rv ob_1322, rv ob_1355, rv ob_1469, iv 0] [])) _
      refine oS (fun _ => XS.aload X1607.here hx rfl (hb hby at_95) rfl rfl) ?_
      have F1615 : Sta Z h1461 cN4 "NONE" cN8 (.ref ob_9) := Sta.ext O1547.2 I630
      obtain ⟨T1616, X1617, e1618, s1619⟩ := getS X1607 hx hZ hown (host := "") (oW hw 75 rfl) Via.refl e1614 F1615 (g := (mkF m 97 #[iv in_1, iv in_2, iv in_3, iv in_4, iv in_5, iv in_6, iv 1, iv 2, rv ob_1006, rv ob_1322, rv ob_1355, rv ob_1469, iv 0] [(.ref ob_1355)])) rfl (hb hby at_97)
      refine oS s1619 ?_
      show own_G p e below (T1616.setTop (mkF m 100 #[iv in_1, iv in_2, iv in_3, iv in_4, iv in_5, iv in_6, iv 1, iv 2, rv ob_1006, rv ob_1322, rv ob_1355, rv ob_1469, iv 0] [(.ref ob_9), (.ref ob_1355)])) _
      have N1620 : n0 ≤ ob_1006 := by omega
      have Z1621 : n0 ≤ h1461.size := by omega
      obtain ⟨T1622, h1623, v1624, L1625, X1626, e1627, q1628, s1629⟩ := own_callV X1617 hx hZ hown e1618 (y := mN13) (z := mN13) (C := cN4) (b := ob_1355) (oW hw 77 rfl) (oW hw 78 rfl) (notFace_of_selects (args := #[]) (mvT hZ (oW hw 80 rfl))) (oW hw 80 rfl) (oW hw 79 rfl) (oW hw 37 rfl) (oW hw 81 rfl) (by decide) F1571 (W := 0) (own_rm17 l Z a0 hw [] ob_1355 ob_9 ob_10 ob_1006 in_7 ob_11 ob_1007 kk_12 kk_1008 in_1 h1461 n0 Z1621 O1547 I640 I647 F1561 I659 N1620 F1493 I68 I77 I670 F1483 I674 F1487 I678 F1490) (by decide) (by decide) (by decide) (by decide) (g := (mkF m 100 #[iv in_1, iv in_2, iv in_3, iv in_4, iv in_5, iv in_6, iv 1, iv 2, rv ob_1006, rv ob_1322, rv ob_1355, rv ob_1469, iv 0] [(.ref ob_9), (.ref ob_1355)])) rfl (by rw [hml]; rfl) (argsL := [(.ref ob_9)]) (rest := []) rfl (lenOf own_pd11 rfl) rfl (by show 2 * 0 + _ ≤ _; exact Nat.le_of_eq rfl) (hb hby at_100)
      refine oS s1629 ?_
      obtain ⟨rfl, N1630, K1631⟩ := q1628
      have N1632 := Fr.app N1613 N1630
      have e1633 := e1627.trans K1631
      show own_G p e below (T1622.setTop (mkF m 103 #[iv in_1, iv in_2, iv in_3, iv in_4, iv in_5, iv in_6, iv 1, iv 2, rv ob_1006, rv ob_1322, rv ob_1355, rv ob_1469, iv 0] [(.int 0)])) _
      refine oS (fun _ => XS.ifYes X1626.here hx rfl (pc0 := 103) (pc' := 108) rfl (hb hby at_103) rfl (XT.i0_eq_t (by decide)) (by decide) (by decide)) ?_
      show own_G p e below (T1622.setTop (mkF m 108 #[iv in_1, iv in_2, iv in_3, iv in_4, iv in_5, iv in_6, iv 1, iv 2, rv ob_1006, rv ob_1322, rv ob_1355, rv ob_1469, iv 0] [])) _
      refine oS (fun _ => XS.aload X1626.here hx rfl (hb hby at_108) rfl rfl) ?_
      refine oS (fun _ => XS.aload X1626.here hx rfl (hb hby at_110) rfl rfl) ?_
      have Z1729 : n0 ≤ h1461.size := by omega
      obtain ⟨T1730, h1731, v1732, L1733, X1734, e1735, q1736, s1737⟩ := own_callV X1626 hx hZ hown e1633 (y := mN13) (z := mN13) (C := cN4) (b := ob_1355) (oW hw 77 rfl) (oW hw 78 rfl) (notFace_of_selects (args := #[]) (mvT hZ (oW hw 80 rfl))) (oW hw 80 rfl) (oW hw 79 rfl) (oW hw 37 rfl) (oW hw 81 rfl) (by decide) F1571 (W := 0) (own_rm36 l Z a0 hw [] ob_1355 ob_1469 ob_1322 ob_1006 in_7 ob_1323 ob_1007 kk_1324 in_1 in_2 kk_1008 h1461 n0 Z1729 O1547 F1473 F1474 F1561 (Ne.symm N1479) F1493 I68 I77 F1485 F1483 F1488 F1487 F1491 F1480 F1490) (by decide) (by decide) (by decide) (by decide) (g := (mkF m 112 #[iv in_1, iv in_2, iv in_3, iv in_4, iv in_5, iv in_6, iv 1, iv 2, rv ob_1006, rv ob_1322, rv ob_1355, rv ob_1469, iv 0] [(.ref ob_1469), (.ref ob_1355)])) rfl (by rw [hml]; rfl) (argsL := [(.ref ob_1469)]) (rest := []) rfl (lenOf own_pd11 rfl) rfl (by show 2 * 0 + _ ≤ _; exact Nat.le_of_eq rfl) (hb hby at_112)
      refine oS s1737 ?_
      obtain ⟨rfl, N1738, K1739⟩ := q1736
      have N1740 := Fr.app N1632 N1738
      have e1741 := e1735.trans K1739
      show own_G p e below (T1730.setTop (mkF m 115 #[iv in_1, iv in_2, iv in_3, iv in_4, iv in_5, iv in_6, iv 1, iv 2, rv ob_1006, rv ob_1322, rv ob_1355, rv ob_1469, iv 0] [(.int 0)])) _
      refine oS (fun _ => XS.iload X1734.here hx rfl (hb hby at_115) rfl) ?_
      refine oS (fun _ => XS.icmpYes X1734.here hx rfl (pc0 := 117) (pc' := 122) rfl (hb hby at_117) rfl (XT.ii_eq_t (by decide)) (by decide) (by decide)) ?_
      show own_G p e below (T1730.setTop (mkF m 122 #[iv in_1, iv in_2, iv in_3, iv in_4, iv in_5, iv in_6, iv 1, iv 2, rv ob_1006, rv ob_1322, rv ob_1355, rv ob_1469, iv 0] [])) _
      refine oS (fun _ => XS.iload X1734.here hx rfl (hb hby at_122) rfl) ?_
      refine oS (fun _ => XS.ifYes X1734.here hx rfl (pc0 := 124) (pc' := 142) rfl (hb hby at_124) rfl (XT.i0_eq_t (by decide)) (by decide) (by decide)) ?_
      show own_G p e below (T1730.setTop (mkF m 142 #[iv in_1, iv in_2, iv in_3, iv in_4, iv in_5, iv in_6, iv 1, iv 2, rv ob_1006, rv ob_1322, rv ob_1355, rv ob_1469, iv 0] [])) _
      refine oS (fun _ => XS.iconst X1734.here hx rfl (hb hby at_142) ) ?_
      have K1742 : Keep h0 h1461 [] := (((((Keep.refl h0 []).trans K1010 all0).trans K1326 all0).trans K1357 all0).trans K1471 all0)
      exact own_retNW X1734 hx (t := .boolean) Bd.notSynchronized Bd.returns (by simp) (hb hby at_143) (by decide) hS hZ hEL hh R1477 e1741 (by omega) (by decide) (by decide) (fun hA => ⟨rfl, N1740⟩)
    · skip
      refine own_cast (g' := (mkF m 19 #[iv in_1, iv in_2, iv in_3, iv in_4, iv in_5, iv in_6, iv 1, .unset, .unset, .unset, .unset, .unset, .unset] [(.int 2), (.int 1)])) (by rw [q18]) ?_
      show own_G p e below (s₁.setTop (mkF m 19 #[iv in_1, iv in_2, iv in_3, iv in_4, iv in_5, iv in_6, iv 1, .unset, .unset, .unset, .unset, .unset, .unset] [(.int 2), (.int 1)])) _
      refine oS (fun _ => XS.iadd X0.here hx rfl (hb hby at_19) rfl) ?_
      refine oS (fun _ => XS.istore X0.here hx rfl (hb hby at_20) rfl (l' := #[iv in_1, iv in_2, iv in_3, iv in_4, iv in_5, iv in_6, iv 1, iv 3, .unset, .unset, .unset, .unset, .unset]) rfl) ?_
      refine oS (fun _ => XS.iload X0.here hx rfl (hb hby at_22) rfl) ?_
      refine oS (fun _ => XS.iloadN X0.here hx rfl (hb hby at_24) rfl) ?_
      show own_G p e below (s₁.setTop (mkF m 25 #[iv in_1, iv in_2, iv in_3, iv in_4, iv in_5, iv in_6, iv 1, iv 3, .unset, .unset, .unset, .unset, .unset] [(.int in_1), (.int 1)])) _
      refine oS (fun _ => XS.iloadN X0.here hx rfl (hb hby at_25) rfl) ?_
      refine oS (fun _ => XS.iloadN X0.here hx rfl (hb hby at_26) rfl) ?_
      obtain ⟨T1743, h1744, v1745, L1746, X1747, e1748, q1749, s1750⟩ := own_callS X0 hx hZ hown e0 (y := mN5) (oW hw 1 rfl) (oW hw 2 rfl) (oW hw 3 rfl) (oW hw 4 rfl) (by decide) (W := 0) (own_rm2 l Z a0 hw [] in_1 in_2 in_3 in_7 h0 n0 Z0 O0 I68 I77) (by decide) (by decide) (by decide) (by decide) (g := (mkF m 27 #[iv in_1, iv in_2, iv in_3, iv in_4, iv in_5, iv in_6, iv 1, iv 3, .unset, .unset, .unset, .unset, .unset] [(.int in_3), (.int in_2), (.int in_1), (.int 1)])) rfl (by rw [hml]; rfl) (argsL := [(.int 1), (.int in_1), (.int in_2), (.int in_3)]) (rest := []) rfl (lenOf own_pd5 rfl) rfl (by show 2 * 0 + _ ≤ _; exact Nat.le_of_eq rfl) (hb hby at_27)
      refine oS s1750 ?_
      obtain ⟨ob_1751, ob_1752, kk_1753, rfl, N1754, K1755, F1756, F1757, F1758, F1759, F1760, F1761, F1762, F1763, F1764, F1765, F1766⟩ := q1749
      have N1767 := Fr.app N0 N1754
      have R1768 : CHr Z own_EL s.vm h0 s.vm h1744 := hR.trans (CHr.keep K1755 sf0 hR.1)
      have z1769 := K1755.1
      show own_G p e below (T1743.setTop (mkF m 30 #[iv in_1, iv in_2, iv in_3, iv in_4, iv in_5, iv in_6, iv 1, iv 3, .unset, .unset, .unset, .unset, .unset] [(.ref ob_1751)])) _
      refine oS (fun _ => XS.astore X1747.here hx rfl (hb hby at_30) rfl rfl (l' := #[iv in_1, iv in_2, iv in_3, iv in_4, iv in_5, iv in_6, iv 1, iv 3, rv ob_1751, .unset, .unset, .unset, .unset]) rfl) ?_
      refine oS (fun _ => XS.iload X1747.here hx rfl (hb hby at_32) rfl) ?_
      refine oS (fun _ => XS.iloadN X1747.here hx rfl (hb hby at_34) rfl) ?_
      refine oS (fun _ => XS.iloadN X1747.here hx rfl (hb hby at_35) rfl) ?_
      show own_G p e below (T1743.setTop (mkF m 36 #[iv in_1, iv in_2, iv in_3, iv in_4, iv in_5, iv in_6, iv 1, iv 3, rv ob_1751, .unset, .unset, .unset, .unset] [(.int in_2), (.int in_1), (.int 3)])) _
      refine oS (fun _ => XS.iloadN X1747.here hx rfl (hb hby at_36) rfl) ?_
      have O2080 : Old Z n0 h1744 := O0.keep K1755 all0
      have Z2081 : n0 ≤ h1744.size := by omega
      obtain ⟨T2082, h2083, v2084, L2085, X2086, e2087, q2088, s2089⟩ := own_callS X1747 hx hZ hown e1748 (y := mN5) (oW hw 1 rfl) (oW hw 2 rfl) (oW hw 3 rfl) (oW hw 4 rfl) (by decide) (W := 0) (own_rm39 l Z a0 hw [] in_1 in_2 in_4 in_7 h1744 n0 Z2081 O2080 I68 I77) (by decide) (by decide) (by decide) (by decide) (g := (mkF m 37 #[iv in_1, iv in_2, iv in_3, iv in_4, iv in_5, iv in_6, iv 1, iv 3, rv ob_1751, .unset, .unset, .unset, .unset] [(.int in_4), (.int in_2), (.int in_1), (.int 3)])) rfl (by rw [hml]; rfl) (argsL := [(.int 3), (.int in_1), (.int in_2), (.int in_4)]) (rest := []) rfl (lenOf own_pd5 rfl) rfl (by show 2 * 0 + _ ≤ _; exact Nat.le_of_eq rfl) (hb hby at_37)
      refine oS s2089 ?_
      obtain ⟨ob_2090, ob_2091, kk_2092, rfl, N2093, K2094, F2095, F2096, F2097, F2098, F2099, F2100, F2101, F2102, F2103, F2104, F2105⟩ := q2088
      have N2106 := Fr.app N1767 N2093
      have R2107 : CHr Z own_EL s.vm h0 s.vm h2083 := R1768.trans (CHr.keep K2094 sf0 R1768.1)
      have z2108 := K2094.1
      show own_G p e below (T2082.setTop (mkF m 40 #[iv in_1, iv in_2, iv in_3, iv in_4, iv in_5, iv in_6, iv 1, iv 3, rv ob_1751, .unset, .unset, .unset, .unset] [(.ref ob_2090)])) _
      refine oS (fun _ => XS.astore X2086.here hx rfl (hb hby at_40) rfl rfl (l' := #[iv in_1, iv in_2, iv in_3, iv in_4, iv in_5, iv in_6, iv 1, iv 3, rv ob_1751, rv ob_2090, .unset, .unset, .unset]) rfl) ?_
      refine oS (fun _ => XS.aload X2086.here hx rfl (hb hby at_42) rfl rfl) ?_
      have F2109 : Exa Z h2083 ob_1751 cN1 := F1758.keep K2094
      have F2110 : Fld Z h2083 ob_1751 cN1 "value" "[B" (.ref ob_1752) := F1760.keep K2094 nin0
      have F2111 : Arv Z h2083 ob_1752 kk_1753 .byte 1 [(.int ((in_1 &&& 255).toInt8.toInt32))] (.int 0) := F1763.keep K2094 nin0
      have O2112 : Old Z n0 h2083 := O2080.keep K2094 all0
      have Z2113 : n0 ≤ h2083.size := by omega
      obtain ⟨T2114, h2115, v2116, L2117, X2118, e2119, q2120, hS, hZ, hown, A2121, s2122⟩ := own_callSW X2086 hx hZ hown e2087 (y := mN9) (sf := []) (oW hw 35 rfl) (oW hw 36 rfl) (oW hw 37 rfl) (oW hw 38 rfl) (by decide) hS (by omega) hEL R2107.1 sf0 all0 (W := 0) (own_rm9 l Z a0 hw hEL [] ob_1751 ob_1752 kk_1753 in_1 h2083 n0 Z2113 O2112 F2109 F2110 F2111) (by decide) (by decide) (by decide) (by decide) (g := (mkF m 44 #[iv in_1, iv in_2, iv in_3, iv in_4, iv in_5, iv in_6, iv 1, iv 3, rv ob_1751, rv ob_2090, .unset, .unset, .unset] [(.ref ob_1751)])) rfl (by rw [hml]; rfl) (argsL := [(.ref ob_1751)]) (rest := []) rfl (lenOf own_pd9 rfl) rfl (by show 2 * 0 + _ ≤ _; exact Nat.le_of_eq rfl) (hb hby at_44)
      refine oS s2122 ?_
      obtain ⟨ob_2123, rfl, N2124, K2125, F2126, F2127, F2128, F2129⟩ := q2120
      have N2130 := Fr.app N2106 N2124
      have R2131 : CHr Z own_EL s.vm h0 T2114.vm h2115 := R2107.trans A2121
      have z2132 := K2125.1
      show own_G p e below (T2114.setTop (mkF m 47 #[iv in_1, iv in_2, iv in_3, iv in_4, iv in_5, iv in_6, iv 1, iv 3, rv ob_1751, rv ob_2090, .unset, .unset, .unset] [(.ref ob_2123)])) _
      refine oS (fun _ => XS.astore X2118.here hx rfl (hb hby at_47) rfl rfl (l' := #[iv in_1, iv in_2, iv in_3, iv in_4, iv in_5, iv in_6, iv 1, iv 3, rv ob_1751, rv ob_2090, rv ob_2123, .unset, .unset]) rfl) ?_
      refine oS (fun _ => XS.aload X2118.here hx rfl (hb hby at_49) rfl rfl) ?_
      have F2133 : Exa Z h2115 ob_2090 cN1 := F2097.keep K2125
      have F2134 : Fld Z h2115 ob_2090 cN1 "value" "[B" (.ref ob_2091) := F2099.keep K2125 nin0
      have F2135 : Arv Z h2115 ob_2091 kk_2092 .byte 3 [(.int ((in_1 &&& 255).toInt8.toInt32)), (.int ((in_2 &&& 255).toInt8.toInt32)), (.int ((in_4 &&& 255).toInt8.toInt32))] (.int 0) := F2102.keep K2125 nin0
      have O2226 : Old Z n0 h2115 := O2112.keep K2125 all0
      have Z2227 : n0 ≤ h2115.size := by omega
      obtain ⟨T2228, h2229, v2230, L2231, X2232, e2233, q2234, hS, hZ, hown, A2235, s2236⟩ := own_callSW X2118 hx hZ hown e2119 (y := mN9) (sf := []) (oW hw 35 rfl) (oW hw 36 rfl) (oW hw 37 rfl) (oW hw 38 rfl) (by decide) hS (by omega) hEL R2131.1 sf0 all0 (W := 0) (own_rm46 l Z a0 hw hEL [] ob_2090 ob_2091 kk_2092 in_1 in_2 in_4 h2115 n0 Z2227 O2226 F2133 F2134 F2135) (by decide) (by decide) (by decide) (by decide) (g := (mkF m 51 #[iv in_1, iv in_2, iv in_3, iv in_4, iv in_5, iv in_6, iv 1, iv 3, rv ob_1751, rv ob_2090, rv ob_2123, .unset, .unset] [(.ref ob_2090)])) rfl (by rw [hml]; rfl) (argsL := [(.ref ob_2090)]) (rest := []) rfl (lenOf own_pd9 rfl) rfl (by show 2 * 0 + _ ≤ _; exact Nat.le_of_eq rfl) (hb hby at_51)
      refine oS s2236 ?_
      obtain ⟨ob_2237, rfl, N2238, K2239, F2240, F2241, F2242, F2243⟩ := q2234
      have N2244 := Fr.app N2130 N2238
      have R2245 : CHr Z own_EL s.vm h0 T2228.vm h2229 := R2131.trans A2235
      have z2246 := K2239.1
      show own_G p e below (T2228.setTop (mkF m 54 #[iv in_1, iv in_2, iv in_3, iv in_4, iv in_5, iv in_6, iv 1, iv 3, rv ob_1751, rv ob_2090, rv ob_2123, .unset, .unset] [(.ref ob_2237)])) _
      refine oS (fun _ => XS.astore X2232.here hx rfl (hb hby at_54) rfl rfl (l' := #[iv in_1, iv in_2, iv in_3, iv in_4, iv in_5, iv in_6, iv 1, iv 3, rv ob_1751, rv ob_2090, rv ob_2123, rv ob_2237, .unset]) rfl) ?_
      refine oS (fun _ => XS.aload X2232.here hx rfl (hb hby at_56) rfl rfl) ?_
      refine oS (fun _ => XS.aload X2232.here hx rfl (hb hby at_58) rfl rfl) ?_
      have N2247 : @Ne Nat ob_1751 ob_2090 := by omega
      have F2248 : Exa Z h2229 ob_2090 cN1 := F2133.keep K2239
      have F2249 : Fld Z h2083 ob_1751 cN1 "coder" "B" (.int 0) := F1759.keep K2094 nin0
      have F2250 : Fld Z h2115 ob_1751 cN1 "coder" "B" (.int 0) := F2249.keep K2125 nin0
      have F2251 : Fld Z h2229 ob_1751 cN1 "coder" "B" (.int 0) := F2250.keep K2239 nin0
      have F2252 : Fld Z h2115 ob_2090 cN1 "coder" "B" (.int 0) := F2098.keep K2125 nin0
      have F2253 : Fld Z h2229 ob_2090 cN1 "coder" "B" (.int 0) := F2252.keep K2239 nin0
      have F2254 : Fld Z h2115 ob_1751 cN1 "value" "[B" (.ref ob_1752) := F2110.keep K2125 nin0
      have F2255 : Fld Z h2229 ob_1751 cN1 "value" "[B" (.ref ob_1752) := F2254.keep K2239 nin0
      have F2256 : Fld Z h2229 ob_2090 cN1 "value" "[B" (.ref ob_2091) := F2134.keep K2239 nin0
      have F2257 : Arv Z h2115 ob_1752 kk_1753 .byte 1 [(.int ((in_1 &&& 255).toInt8.toInt32))] (.int 0) := F2111.keep K2125 nin0
      have F2258 : Arv Z h2229 ob_1752 kk_1753 .byte 1 [(.int ((in_1 &&& 255).toInt8.toInt32))] (.int 0) := F2257.keep K2239 nin0
      have F2259 : Arv Z h2229 ob_2091 kk_2092 .byte 3 [(.int ((in_1 &&& 255).toInt8.toInt32)), (.int ((in_2 &&& 255).toInt8.toInt32)), (.int ((in_4 &&& 255).toInt8.toInt32))] (.int 0) := F2135.keep K2239 nin0
      have F2260 : Exa Z h2115 ob_1751 cN1 := F2109.keep K2125
      have F2261 : Exa Z h2229 ob_1751 cN1 := F2260.keep K2239
      have O2315 : Old Z n0 h2229 := O2226.keep K2239 all0
      have Z2316 : n0 ≤ h2229.size := by omega
      obtain ⟨T2317, h2318, v2319, L2320, X2321, e2322, q2323, s2324⟩ := own_callV X2232 hx hZ hown e2233 (y := mN11) (z := mN11) (C := cN1) (b := ob_1751) (oW hw 60 rfl) (oW hw 61 rfl) (notFace_of_selects (args := #[]) (mvT hZ (oW hw 63 rfl))) (oW hw 63 rfl) (oW hw 62 rfl) (oW hw 8 rfl) (oW hw 64 rfl) (by decide) F2261 (W := 0) (own_rm48 l Z a0 hw [] ob_1751 ob_2090 in_7 ob_1752 ob_2091 kk_1753 in_1 kk_2092 in_2 in_4 h2229 n0 Z2316 O2315 N2247 F2248 I68 I77 F2251 F2253 F2255 F2256 F2258 F2259) (by decide) (by decide) (by decide) (by decide) (g := (mkF m 60 #[iv in_1, iv in_2, iv in_3, iv in_4, iv in_5, iv in_6, iv 1, iv 3, rv ob_1751, rv ob_2090, rv ob_2123, rv ob_2237, .unset] [(.ref ob_2090), (.ref ob_1751)])) rfl (by rw [hml]; rfl) (argsL := [(.ref ob_2090)]) (rest := []) rfl (lenOf own_pd11 rfl) rfl (by show 2 * 0 + _ ≤ _; exact Nat.le_of_eq rfl) (hb hby at_60)
      refine oS s2324 ?_
      obtain ⟨rfl, N2325, K2326⟩ := q2323
      have N2327 := Fr.app N2244 N2325
      have e2328 := e2322.trans K2326
      show own_G p e below (T2317.setTop (mkF m 63 #[iv in_1, iv in_2, iv in_3, iv in_4, iv in_5, iv in_6, iv 1, iv 3, rv ob_1751, rv ob_2090, rv ob_2123, rv ob_2237, .unset] [(.int 0)])) _
      refine oS (fun _ => XS.istore X2321.here hx rfl (hb hby at_63) rfl (l' := #[iv in_1, iv in_2, iv in_3, iv in_4, iv in_5, iv in_6, iv 1, iv 3, rv ob_1751, rv ob_2090, rv ob_2123, rv ob_2237, iv 0]) rfl) ?_
      refine oS (fun _ => XS.aload X2321.here hx rfl (hb hby at_65) rfl rfl) ?_
      have F2329 : Fld Z h2229 ob_2123 cN4 "name" cN5 (.ref ob_1751) := F2128.keep K2239 nin0
      have Z2330 : n0 ≤ h2229.size := by omega
      have F2339 : Exa Z h2229 ob_2123 cN4 := F2127.keep K2239
      obtain ⟨T2331, h2332, v2333, L2334, X2335, e2336, q2337, s2338⟩ := own_callV X2321 hx hZ hown e2328 (y := mN12) (z := mN12) (C := cN4) (b := ob_2123) (oW hw 70 rfl) (oW hw 71 rfl) (notFace_of_selects (args := #[]) (mvT hZ (oW hw 73 rfl))) (oW hw 73 rfl) (oW hw 72 rfl) (oW hw 37 rfl) (oW hw 74 rfl) (by decide) F2339 (W := 0) (own_rm15 l Z a0 hw [] ob_2123 ob_1751 h2229 n0 Z2330 O2315 F2329) (by decide) (by decide) (by decide) (by decide) (g := (mkF m 67 #[iv in_1, iv in_2, iv in_3, iv in_4, iv in_5, iv in_6, iv 1, iv 3, rv ob_1751, rv ob_2090, rv ob_2123, rv ob_2237, iv 0] [(.ref ob_2123)])) rfl (by rw [hml]; rfl) (argsL := []) (rest := []) rfl (lenOf own_pd12 rfl) rfl (by show 2 * 0 + _ ≤ _; exact Nat.le_of_eq rfl) (hb hby at_67)
      refine oS s2338 ?_
      obtain ⟨rfl, N2340, K2341⟩ := q2337
      have N2342 := Fr.app N2327 N2340
      have e2343 := e2336.trans K2341
      show own_G p e below (T2331.setTop (mkF m 70 #[iv in_1, iv in_2, iv in_3, iv in_4, iv in_5, iv in_6, iv 1, iv 3, rv ob_1751, rv ob_2090, rv ob_2123, rv ob_2237, iv 0] [(.ref ob_1751)])) _
      refine oS (fun _ => XS.aload X2335.here hx rfl (hb hby at_70) rfl rfl) ?_
      have Z2344 : n0 ≤ h2229.size := by omega
      obtain ⟨T2345, h2346, v2347, L2348, X2349, e2350, q2351, s2352⟩ := own_callV X2335 hx hZ hown e2343 (y := mN11) (z := mN11) (C := cN1) (b := ob_1751) (oW hw 60 rfl) (oW hw 61 rfl) (notFace_of_selects (args := #[]) (mvT hZ (oW hw 63 rfl))) (oW hw 63 rfl) (oW hw 62 rfl) (oW hw 8 rfl) (oW hw 64 rfl) (by decide) F2261 (W := 0) (own_rm16 l Z a0 hw [] ob_1751 h2229 n0 Z2344 O2315 ) (by decide) (by decide) (by decide) (by decide) (g := (mkF m 72 #[iv in_1, iv in_2, iv in_3, iv in_4, iv in_5, iv in_6, iv 1, iv 3, rv ob_1751, rv ob_2090, rv ob_2123, rv ob_2237, iv 0] [(.ref ob_1751), (.ref ob_1751)])) rfl (by rw [hml]; rfl) (argsL := [(.ref ob_1751)]) (rest := []) rfl (lenOf own_pd11 rfl) rfl (by show 2 * 0 + _ ≤ _; exact Nat.le_of_eq rfl) (hb hby at_72)
      refine oS s2352 ?_
      obtain ⟨rfl, N2353, K2354⟩ := q2351
      have N2355 := Fr.app N2342 N2353
      have e2356 := e2350.trans K2354
      show own_G p e below (T2345.setTop (mkF m 75 #[iv in_1, iv in_2, iv in_3, iv in_4, iv in_5, iv in_6, iv 1, iv 3, rv ob_1751, rv ob_2090, rv ob_2123, rv ob_2237, iv 0] [(.int 1)])) _
      refine oS (fun _ => XS.ifYes X2349.here hx rfl (pc0 := 75) (pc' := 80) rfl (hb hby at_75) rfl (XT.i0_ne_t (by decide)) (by decide) (by decide)) ?_
      show own_G p e below (T2345.setTop (mkF m 80 #[iv in_1, iv in_2, iv in_3, iv in_4, iv in_5, iv in_6, iv 1, iv 3, rv ob_1751, rv ob_2090, rv ob_2123, rv ob_2237, iv 0] [])) _
      refine oS (fun _ => XS.aload X2349.here hx rfl (hb hby at_80) rfl rfl) ?_
      have Z2357 : n0 ≤ h2229.size := by omega
      obtain ⟨T2358, h2359, v2360, L2361, X2362, e2363, q2364, s2365⟩ := own_callV X2349 hx hZ hown e2356 (y := mN12) (z := mN12) (C := cN4) (b := ob_2237) (oW hw 70 rfl) (oW hw 71 rfl) (notFace_of_selects (args := #[]) (mvT hZ (oW hw 73 rfl))) (oW hw 73 rfl) (oW hw 72 rfl) (oW hw 37 rfl) (oW hw 74 rfl) (by decide) F2241 (W := 0) (own_rm15 l Z a0 hw [] ob_2237 ob_2090 h2229 n0 Z2357 O2315 F2242) (by decide) (by decide) (by decide) (by decide) (g := (mkF m 82 #[iv in_1, iv in_2, iv in_3, iv in_4, iv in_5, iv in_6, iv 1, iv 3, rv ob_1751, rv ob_2090, rv ob_2123, rv ob_2237, iv 0] [(.ref ob_2237)])) rfl (by rw [hml]; rfl) (argsL := []) (rest := []) rfl (lenOf own_pd12 rfl) rfl (by show 2 * 0 + _ ≤ _; exact Nat.le_of_eq rfl) (hb hby at_82)
      refine oS s2365 ?_
      obtain ⟨rfl, N2366, K2367⟩ := q2364
      have N2368 := Fr.app N2355 N2366
      have e2369 := e2363.trans K2367
      show own_G p e below (T2358.setTop (mkF m 85 #[iv in_1, iv in_2, iv in_3, iv in_4, iv in_5, iv in_6, iv 1, iv 3, rv ob_1751, rv ob_2090, rv ob_2123, rv ob_2237, iv 0] [(.ref ob_2090)])) _
      refine oS (fun _ => XS.aload X2362.here hx rfl (hb hby at_85) rfl rfl) ?_
      have Z2370 : n0 ≤ h2229.size := by omega
      obtain ⟨T2371, h2372, v2373, L2374, X2375, e2376, q2377, s2378⟩ := own_callV X2362 hx hZ hown e2369 (y := mN11) (z := mN11) (C := cN1) (b := ob_2090) (oW hw 60 rfl) (oW hw 61 rfl) (notFace_of_selects (args := #[]) (mvT hZ (oW hw 63 rfl))) (oW hw 63 rfl) (oW hw 62 rfl) (oW hw 8 rfl) (oW hw 64 rfl) (by decide) F2248 (W := 0) (own_rm16 l Z a0 hw [] ob_2090 h2229 n0 Z2370 O2315 ) (by decide) (by decide) (by decide) (by decide) (g := (mkF m 87 #[iv in_1, iv in_2, iv in_3, iv in_4, iv in_5, iv in_6, iv 1, iv 3, rv ob_1751, rv ob_2090, rv ob_2123, rv ob_2237, iv 0] [(.ref ob_2090), (.ref ob_2090)])) rfl (by rw [hml]; rfl) (argsL := [(.ref ob_2090)]) (rest := []) rfl (lenOf own_pd11 rfl) rfl (by show 2 * 0 + _ ≤ _; exact Nat.le_of_eq rfl) (hb hby at_87)
      refine oS s2378 ?_
      obtain ⟨rfl, N2379, K2380⟩ := q2377
      have N2381 := Fr.app N2368 N2379
      have e2382 := e2376.trans K2380
      show own_G p e below (T2371.setTop (mkF m 90 #[iv in_1, iv in_2, iv in_3, iv in_4, iv in_5, iv in_6, iv 1, iv 3, rv ob_1751, rv ob_2090, rv ob_2123, rv ob_2237, iv 0] [(.int 1)])) _
      refine oS (fun _ => XS.ifYes X2375.here hx rfl (pc0 := 90) (pc' := 95) rfl (hb hby at_90) rfl (XT.i0_ne_t (by decide)) (by decide) (by decide)) ?_
      show own_G p e below (T2371.setTop (mkF m 95 #[iv in_1, iv in_2, iv in_3, iv in_4, iv in_5, iv in_6, iv 1, iv 3, rv ob_1751, rv ob_2090, rv ob_2123, rv ob_2237, iv 0] [])) _
      refine oS (fun _ => XS.aload X2375.here hx rfl (hb hby at_95) rfl rfl) ?_
      have F2383 : Sta Z h2229 cN4 "NONE" cN8 (.ref ob_9) := Sta.ext O2315.2 I630
      obtain ⟨T2384, X2385, e2386, s2387⟩ := getS X2375 hx hZ hown (host := "") (oW hw 75 rfl) Via.refl e2382 F2383 (g := (mkF m 97 #[iv in_1, iv in_2, iv in_3, iv in_4, iv in_5, iv in_6, iv 1, iv 3, rv ob_1751, rv ob_2090, rv ob_2123, rv ob_2237, iv 0] [(.ref ob_2123)])) rfl (hb hby at_97)
      refine oS s2387 ?_
      show own_G p e below (T2384.setTop (mkF m 100 #[iv in_1, iv in_2, iv in_3, iv in_4, iv in_5, iv in_6, iv 1, iv 3, rv ob_1751, rv ob_2090, rv ob_2123, rv ob_2237, iv 0] [(.ref ob_9), (.ref ob_2123)])) _
      have N2388 : n0 ≤ ob_1751 := by omega
      have Z2389 : n0 ≤ h2229.size := by omega
      obtain ⟨T2390, h2391, v2392, L2393, X2394, e2395, q2396, s2397⟩ := own_callV X2385 hx hZ hown e2386 (y := mN13) (z := mN13) (C := cN4) (b := ob_2123) (oW hw 77 rfl) (oW hw 78 rfl) (notFace_of_selects (args := #[]) (mvT hZ (oW hw 80 rfl))) (oW hw 80 rfl) (oW hw 79 rfl) (oW hw 37 rfl) (oW hw 81 rfl) (by decide) F2339 (W := 0) (own_rm17 l Z a0 hw [] ob_2123 ob_9 ob_10 ob_1751 in_7 ob_11 ob_1752 kk_12 kk_1753 in_1 h2229 n0 Z2389 O2315 I640 I647 F2329 I659 N2388 F2261 I68 I77 I670 F2251 I674 F2255 I678 F2258) (by decide) (by decide) (by decide) (by decide) (g := (mkF m 100 #[iv in_1, iv in_2, iv in_3, iv in_4, iv in_5, iv in_6, iv 1, iv 3, rv ob_1751, rv ob_2090, rv ob_2123, rv ob_2237, iv 0] [(.ref ob_9), (.ref ob_2123)])) rfl (by rw [hml]; rfl) (argsL := [(.ref ob_9)]) (rest := []) rfl (lenOf own_pd11 rfl) rfl (by show 2 * 0 + _ ≤ _; exact Nat.le_of_eq rfl) (hb hby at_100)
      refine oS s2397 ?_
      obtain ⟨rfl, N2398, K2399⟩ := q2396
      have N2400 := Fr.app N2381 N2398
      have e2401 := e2395.trans K2399
      show own_G p e below (T2390.setTop (mkF m 103 #[iv in_1, iv in_2, iv in_3, iv in_4, iv in_5, iv in_6, iv 1, iv 3, rv ob_1751, rv ob_2090, rv ob_2123, rv ob_2237, iv 0] [(.int 0)])) _
      refine oS (fun _ => XS.ifYes X2394.here hx rfl (pc0 := 103) (pc' := 108) rfl (hb hby at_103) rfl (XT.i0_eq_t (by decide)) (by decide) (by decide)) ?_
      show own_G p e below (T2390.setTop (mkF m 108 #[iv in_1, iv in_2, iv in_3, iv in_4, iv in_5, iv in_6, iv 1, iv 3, rv ob_1751, rv ob_2090, rv ob_2123, rv ob_2237, iv 0] [])) _
      refine oS (fun _ => XS.aload X2394.here hx rfl (hb hby at_108) rfl rfl) ?_
      refine oS (fun _ => XS.aload X2394.here hx rfl (hb hby at_110) rfl rfl) ?_
      have Z2497 : n0 ≤ h2229.size := by omega
      obtain ⟨T2498, h2499, v2500, L2501, X2502, e2503, q2504, s2505⟩ := own_callV X2394 hx hZ hown e2401 (y := mN13) (z := mN13) (C := cN4) (b := ob_2123) (oW hw 77 rfl) (oW hw 78 rfl) (notFace_of_selects (args := #[]) (mvT hZ (oW hw 80 rfl))) (oW hw 80 rfl) (oW hw 79 rfl) (oW hw 37 rfl) (oW hw 81 rfl) (by decide) F2339 (W := 0) (own_rm50 l Z a0 hw [] ob_2123 ob_2237 ob_2090 ob_1751 in_7 ob_2091 ob_1752 kk_2092 in_1 in_2 in_4 kk_1753 h2229 n0 Z2497 O2315 F2241 F2242 F2329 (Ne.symm N2247) F2261 I68 I77 F2253 F2251 F2256 F2255 F2259 F2248 F2258) (by decide) (by decide) (by decide) (by decide) (g := (mkF m 112 #[iv in_1, iv in_2, iv in_3, iv in_4, iv in_5, iv in_6, iv 1, iv 3, rv ob_1751, rv ob_2090, rv ob_2123, rv ob_2237, iv 0] [(.ref ob_2237), (.ref ob_2123)])) rfl (by rw [hml]; rfl) (argsL := [(.ref ob_2237)]) (rest := []) rfl (lenOf own_pd11 rfl) rfl (by show 2 * 0 + _ ≤ _; exact Nat.le_of_eq rfl) (hb hby at_112)
      refine oS s2505 ?_
      obtain ⟨rfl, N2506, K2507⟩ := q2504
      have N2508 := Fr.app N2400 N2506
      have e2509 := e2503.trans K2507
      show own_G p e below (T2498.setTop (mkF m 115 #[iv in_1, iv in_2, iv in_3, iv in_4, iv in_5, iv in_6, iv 1, iv 3, rv ob_1751, rv ob_2090, rv ob_2123, rv ob_2237, iv 0] [(.int 0)])) _
      refine oS (fun _ => XS.iload X2502.here hx rfl (hb hby at_115) rfl) ?_
      refine oS (fun _ => XS.icmpYes X2502.here hx rfl (pc0 := 117) (pc' := 122) rfl (hb hby at_117) rfl (XT.ii_eq_t (by decide)) (by decide) (by decide)) ?_
      show own_G p e below (T2498.setTop (mkF m 122 #[iv in_1, iv in_2, iv in_3, iv in_4, iv in_5, iv in_6, iv 1, iv 3, rv ob_1751, rv ob_2090, rv ob_2123, rv ob_2237, iv 0] [])) _
      refine oS (fun _ => XS.iload X2502.here hx rfl (hb hby at_122) rfl) ?_
      refine oS (fun _ => XS.ifYes X2502.here hx rfl (pc0 := 124) (pc' := 142) rfl (hb hby at_124) rfl (XT.i0_eq_t (by decide)) (by decide) (by decide)) ?_
      show own_G p e below (T2498.setTop (mkF m 142 #[iv in_1, iv in_2, iv in_3, iv in_4, iv in_5, iv in_6, iv 1, iv 3, rv ob_1751, rv ob_2090, rv ob_2123, rv ob_2237, iv 0] [])) _
      refine oS (fun _ => XS.iconst X2502.here hx rfl (hb hby at_142) ) ?_
      have K2510 : Keep h0 h2229 [] := (((((Keep.refl h0 []).trans K1755 all0).trans K2094 all0).trans K2125 all0).trans K2239 all0)
      exact own_retNW X2502 hx (t := .boolean) Bd.notSynchronized Bd.returns (by simp) (hb hby at_143) (by decide) hS hZ hEL hh R2245 e2509 (by omega) (by decide) (by decide) (fun hA => ⟨rfl, N2508⟩)
  · skip
    refine own_cast (g' := (mkF m 8 #[iv in_1, iv in_2, iv in_3, iv in_4, iv in_5, iv in_6, .unset, .unset, .unset, .unset, .unset, .unset, .unset] [(.int 1), (.int 1)])) (by rw [q14]) ?_
    show own_G p e below (s₁.setTop (mkF m 8 #[iv in_1, iv in_2, iv in_3, iv in_4, iv in_5, iv in_6, .unset, .unset, .unset, .unset, .unset, .unset, .unset] [(.int 1), (.int 1)])) _
    refine oS (fun _ => XS.iadd X0.here hx rfl (hb hby at_8) rfl) ?_
    refine oS (fun _ => XS.istore X0.here hx rfl (hb hby at_9) rfl (l' := #[iv in_1, iv in_2, iv in_3, iv in_4, iv in_5, iv in_6, iv 2, .unset, .unset, .unset, .unset, .unset, .unset]) rfl) ?_
    refine oS (fun _ => XS.iconst X0.here hx rfl (hb hby at_11) ) ?_
    refine oS (fun _ => XS.iload X0.here hx rfl (hb hby at_12) rfl) ?_
    show own_G p e below (s₁.setTop (mkF m 14 #[iv in_1, iv in_2, iv in_3, iv in_4, iv in_5, iv in_6, iv 2, .unset, .unset, .unset, .unset, .unset, .unset] [(.int in_6), (.int 1)])) _
    refine oS (fun _ => X0.ldcI hx hown (mvT hZ (oW hw 0 rfl)) rfl (hb hby at_14)) ?_
    show own_G p e below (s₁.setTop (mkF m 16 #[iv in_1, iv in_2, iv in_3, iv in_4, iv in_5, iv in_6, iv 2, .unset, .unset, .unset, .unset, .unset, .unset] [(.int 2147483647), (.int in_6), (.int 1)])) _
    refine oS (fun _ => XS.iand X0.here hx rfl (hb hby at_16) rfl) ?_
    refine oS (fun _ => XS.iconst X0.here hx rfl (hb hby at_17) ) ?_
    refine oS (fun _ => iremM X0 hx rfl (hb hby at_18) rfl (by decide)) ?_
    show own_G p e below (s₁.setTop (mkF m 19 #[iv in_1, iv in_2, iv in_3, iv in_4, iv in_5, iv in_6, iv 2, .unset, .unset, .unset, .unset, .unset, .unset] [(.int ((in_6 &&& 2147483647) % 3)), (.int 1)])) _
    rcases own_in3 (own_modlt in_6 3 (by decide)) with q2511 | q2512 | q2513
    · skip
      refine own_cast (g' := (mkF m 19 #[iv in_1, iv in_2, iv in_3, iv in_4, iv in_5, iv in_6, iv 2, .unset, .unset, .unset, .unset, .unset, .unset] [(.int 0), (.int 1)])) (by rw [q2511]) ?_
      show own_G p e below (s₁.setTop (mkF m 19 #[iv in_1, iv in_2, iv in_3, iv in_4, iv in_5, iv in_6, iv 2, .unset, .unset, .unset, .unset, .unset, .unset] [(.int 0), (.int 1)])) _
      refine oS (fun _ => XS.iadd X0.here hx rfl (hb hby at_19) rfl) ?_
      refine oS (fun _ => XS.istore X0.here hx rfl (hb hby at_20) rfl (l' := #[iv in_1, iv in_2, iv in_3, iv in_4, iv in_5, iv in_6, iv 2, iv 1, .unset, .unset, .unset, .unset, .unset]) rfl) ?_
      refine oS (fun _ => XS.iload X0.here hx rfl (hb hby at_22) rfl) ?_
      refine oS (fun _ => XS.iloadN X0.here hx rfl (hb hby at_24) rfl) ?_
      show own_G p e below (s₁.setTop (mkF m 25 #[iv in_1, iv in_2, iv in_3, iv in_4, iv in_5, iv in_6, iv 2, iv 1, .unset, .unset, .unset, .unset, .unset] [(.int in_1), (.int 2)])) _
      refine oS (fun _ => XS.iloadN X0.here hx rfl (hb hby at_25) rfl) ?_
      refine oS (fun _ => XS.iloadN X0.here hx rfl (hb hby at_26) rfl) ?_
      obtain ⟨T2514, h2515, v2516, L2517, X2518, e2519, q2520, s2521⟩ := own_callS X0 hx hZ hown e0 (y := mN5) (oW hw 1 rfl) (oW hw 2 rfl) (oW hw 3 rfl) (oW hw 4 rfl) (by decide) (W := 0) (own_rm25 l Z a0 hw [] in_1 in_2 in_3 in_7 h0 n0 Z0 O0 I68 I77) (by decide) (by decide) (by decide) (by decide) (g := (mkF m 27 #[iv in_1, iv in_2, iv in_3, iv in_4, iv in_5, iv in_6, iv 2, iv 1, .unset, .unset, .unset, .unset, .unset] [(.int in_3), (.int in_2), (.int in_1), (.int 2)])) rfl (by rw [hml]; rfl) (argsL := [(.int 2), (.int in_1), (.int in_2), (.int in_3)]) (rest := []) rfl (lenOf own_pd5 rfl) rfl (by show 2 * 0 + _ ≤ _; exact Nat.le_of_eq rfl) (hb hby at_27)
      refine oS s2521 ?_
      obtain ⟨ob_2522, ob_2523, kk_2524, rfl, N2525, K2526, F2527, F2528, F2529, F2530, F2531, F2532, F2533, F2534, F2535, F2536, F2537⟩ := q2520
      have N2538 := Fr.app N0 N2525
      have R2539 : CHr Z own_EL s.vm h0 s.vm h2515 := hR.trans (CHr.keep K2526 sf0 hR.1)
      have z2540 := K2526.1
      show own_G p e below (T2514.setTop (mkF m 30 #[iv in_1, iv in_2, iv in_3, iv in_4, iv in_5, iv in_6, iv 2, iv 1, .unset, .unset, .unset, .unset, .unset] [(.ref ob_2522)])) _
      refine oS (fun _ => XS.astore X2518.here hx rfl (hb hby at_30) rfl rfl (l' := #[iv in_1, iv in_2, iv in_3, iv in_4, iv in_5, iv in_6, iv 2, iv 1, rv ob_2522, .unset, .unset, .unset, .unset]) rfl) ?_
      refine oS (fun _ => XS.iload X2518.here hx rfl (hb hby at_32) rfl) ?_
      refine oS (fun _ => XS.iloadN X2518.here hx rfl (hb hby at_34) rfl) ?_
      refine oS (fun _ => XS.iloadN X2518.here hx rfl (hb hby at_35) rfl) ?_
      show own_G p e below (T2514.setTop (mkF m 36 #[iv in_1, iv in_2, iv in_3, iv in_4, iv in_5, iv in_6, iv 2, iv 1, rv ob_2522, .unset, .unset, .unset, .unset] [(.int in_2), (.int in_1), (.int 1)])) _
      refine oS (fun _ => XS.iloadN X2518.here hx rfl (hb hby at_36) rfl) ?_
      have O2541 : Old Z n0 h2515 := O0.keep K2526 all0
      have Z2542 : n0 ≤ h2515.size := by omega
      obtain ⟨T2543, h2544, v2545, L2546, X2547, e2548, q2549, s2550⟩ := own_callS X2518 hx hZ hown e2519 (y := mN5) (oW hw 1 rfl) (oW hw 2 rfl) (oW hw 3 rfl) (oW hw 4 rfl) (by decide) (W := 0) (own_rm2 l Z a0 hw [] in_1 in_2 in_4 in_7 h2515 n0 Z2542 O2541 I68 I77) (by decide) (by decide) (by decide) (by decide) (g := (mkF m 37 #[iv in_1, iv in_2, iv in_3, iv in_4, iv in_5, iv in_6, iv 2, iv 1, rv ob_2522, .unset, .unset, .unset, .unset] [(.int in_4), (.int in_2), (.int in_1), (.int 1)])) rfl (by rw [hml]; rfl) (argsL := [(.int 1), (.int in_1), (.int in_2), (.int in_4)]) (rest := []) rfl (lenOf own_pd5 rfl) rfl (by show 2 * 0 + _ ≤ _; exact Nat.le_of_eq rfl) (hb hby at_37)
      refine oS s2550 ?_
      obtain ⟨ob_2551, ob_2552, kk_2553, rfl, N2554, K2555, F2556, F2557, F2558, F2559, F2560, F2561, F2562, F2563, F2564, F2565, F2566⟩ := q2549
      have N2567 := Fr.app N2538 N2554
      have R2568 : CHr Z own_EL s.vm h0 s.vm h2544 := R2539.trans (CHr.keep K2555 sf0 R2539.1)
      have z2569 := K2555.1
      show own_G p e below (T2543.setTop (mkF m 40 #[iv in_1, iv in_2, iv in_3, iv in_4, iv in_5, iv in_6, iv 2, iv 1, rv ob_2522, .unset, .unset, .unset, .unset] [(.ref ob_2551)])) _
      refine oS (fun _ => XS.astore X2547.here hx rfl (hb hby at_40) rfl rfl (l' := #[iv in_1, iv in_2, iv in_3, iv in_4, iv in_5, iv in_6, iv 2, iv 1, rv ob_2522, rv ob_2551, .unset, .unset, .unset]) rfl) ?_
      refine oS (fun _ => XS.aload X2547.here hx rfl (hb hby at_42) rfl rfl) ?_
      have F2570 : Exa Z h2544 ob_2522 cN1 := F2529.keep K2555
      have F2571 : Fld Z h2544 ob_2522 cN1 "value" "[B" (.ref ob_2523) := F2531.keep K2555 nin0
      have F2572 : Arv Z h2544 ob_2523 kk_2524 .byte 2 [(.int ((in_1 &&& 255).toInt8.toInt32)), (.int ((in_2 &&& 255).toInt8.toInt32))] (.int 0) := F2534.keep K2555 nin0
      have O2573 : Old Z n0 h2544 := O2541.keep K2555 all0
      have Z2574 : n0 ≤ h2544.size := by omega
      obtain ⟨T2575, h2576, v2577, L2578, X2579, e2580, q2581, hS, hZ, hown, A2582, s2583⟩ := own_callSW X2547 hx hZ hown e2548 (y := mN9) (sf := []) (oW hw 35 rfl) (oW hw 36 rfl) (oW hw 37 rfl) (oW hw 38 rfl) (by decide) hS (by omega) hEL R2568.1 sf0 all0 (W := 0) (own_rm32 l Z a0 hw hEL [] ob_2522 ob_2523 kk_2524 in_1 in_2 h2544 n0 Z2574 O2573 F2570 F2571 F2572) (by decide) (by decide) (by decide) (by decide) (g := (mkF m 44 #[iv in_1, iv in_2, iv in_3, iv in_4, iv in_5, iv in_6, iv 2, iv 1, rv ob_2522, rv ob_2551, .unset, .unset, .unset] [(.ref ob_2522)])) rfl (by rw [hml]; rfl) (argsL := [(.ref ob_2522)]) (rest := []) rfl (lenOf own_pd9 rfl) rfl (by show 2 * 0 + _ ≤ _; exact Nat.le_of_eq rfl) (hb hby at_44)
      refine oS s2583 ?_
      obtain ⟨ob_2584, rfl, N2585, K2586, F2587, F2588, F2589, F2590⟩ := q2581
      have N2591 := Fr.app N2567 N2585
      have R2592 : CHr Z own_EL s.vm h0 T2575.vm h2576 := R2568.trans A2582
      have z2593 := K2586.1
      show own_G p e below (T2575.setTop (mkF m 47 #[iv in_1, iv in_2, iv in_3, iv in_4, iv in_5, iv in_6, iv 2, iv 1, rv ob_2522, rv ob_2551, .unset, .unset, .unset] [(.ref ob_2584)])) _
      refine oS (fun _ => XS.astore X2579.here hx rfl (hb hby at_47) rfl rfl (l' := #[iv in_1, iv in_2, iv in_3, iv in_4, iv in_5, iv in_6, iv 2, iv 1, rv ob_2522, rv ob_2551, rv ob_2584, .unset, .unset]) rfl) ?_
      refine oS (fun _ => XS.aload X2579.here hx rfl (hb hby at_49) rfl rfl) ?_
      have F2594 : Exa Z h2576 ob_2551 cN1 := F2558.keep K2586
      have F2595 : Fld Z h2576 ob_2551 cN1 "value" "[B" (.ref ob_2552) := F2560.keep K2586 nin0
      have F2596 : Arv Z h2576 ob_2552 kk_2553 .byte 1 [(.int ((in_1 &&& 255).toInt8.toInt32))] (.int 0) := F2563.keep K2586 nin0
      have O2597 : Old Z n0 h2576 := O2573.keep K2586 all0
      have Z2598 : n0 ≤ h2576.size := by omega
      obtain ⟨T2599, h2600, v2601, L2602, X2603, e2604, q2605, hS, hZ, hown, A2606, s2607⟩ := own_callSW X2579 hx hZ hown e2580 (y := mN9) (sf := []) (oW hw 35 rfl) (oW hw 36 rfl) (oW hw 37 rfl) (oW hw 38 rfl) (by decide) hS (by omega) hEL R2592.1 sf0 all0 (W := 0) (own_rm9 l Z a0 hw hEL [] ob_2551 ob_2552 kk_2553 in_1 h2576 n0 Z2598 O2597 F2594 F2595 F2596) (by decide) (by decide) (by decide) (by decide) (g := (mkF m 51 #[iv in_1, iv in_2, iv in_3, iv in_4, iv in_5, iv in_6, iv 2, iv 1, rv ob_2522, rv ob_2551, rv ob_2584, .unset, .unset] [(.ref ob_2551)])) rfl (by rw [hml]; rfl) (argsL := [(.ref ob_2551)]) (rest := []) rfl (lenOf own_pd9 rfl) rfl (by show 2 * 0 + _ ≤ _; exact Nat.le_of_eq rfl) (hb hby at_51)
      refine oS s2607 ?_
      obtain ⟨ob_2608, rfl, N2609, K2610, F2611, F2612, F2613, F2614⟩ := q2605
      have N2615 := Fr.app N2591 N2609
      have R2616 : CHr Z own_EL s.vm h0 T2599.vm h2600 := R2592.trans A2606
      have z2617 := K2610.1
      show own_G p e below (T2599.setTop (mkF m 54 #[iv in_1, iv in_2, iv in_3, iv in_4, iv in_5, iv in_6, iv 2, iv 1, rv ob_2522, rv ob_2551, rv ob_2584, .unset, .unset] [(.ref ob_2608)])) _
      refine oS (fun _ => XS.astore X2603.here hx rfl (hb hby at_54) rfl rfl (l' := #[iv in_1, iv in_2, iv in_3, iv in_4, iv in_5, iv in_6, iv 2, iv 1, rv ob_2522, rv ob_2551, rv ob_2584, rv ob_2608, .unset]) rfl) ?_
      refine oS (fun _ => XS.aload X2603.here hx rfl (hb hby at_56) rfl rfl) ?_
      refine oS (fun _ => XS.aload X2603.here hx rfl (hb hby at_58) rfl rfl) ?_
      have N2618 : @Ne Nat ob_2522 ob_2551 := by omega
      have F2619 : Exa Z h2600 ob_2551 cN1 := F2594.keep K2610
      have F2620 : Fld Z h2544 ob_2522 cN1 "coder" "B" (.int 0) := F2530.keep K2555 nin0
      have F2621 : Fld Z h2576 ob_2522 cN1 "coder" "B" (.int 0) := F2620.keep K2586 nin0
      have F2622 : Fld Z h2600 ob_2522 cN1 "coder" "B" (.int 0) := F2621.keep K2610 nin0
      have F2623 : Fld Z h2576 ob_2551 cN1 "coder" "B" (.int 0) := F2559.keep K2586 nin0
      have F2624 : Fld Z h2600 ob_2551 cN1 "coder" "B" (.int 0) := F2623.keep K2610 nin0
      have F2625 : Fld Z h2576 ob_2522 cN1 "value" "[B" (.ref ob_2523) := F2571.keep K2586 nin0
      have F2626 : Fld Z h2600 ob_2522 cN1 "value" "[B" (.ref ob_2523) := F2625.keep K2610 nin0
      have F2627 : Fld Z h2600 ob_2551 cN1 "value" "[B" (.ref ob_2552) := F2595.keep K2610 nin0
      have F2628 : Arv Z h2576 ob_2523 kk_2524 .byte 2 [(.int ((in_1 &&& 255).toInt8.toInt32)), (.int ((in_2 &&& 255).toInt8.toInt32))] (.int 0) := F2572.keep K2586 nin0
      have F2629 : Arv Z h2600 ob_2523 kk_2524 .byte 2 [(.int ((in_1 &&& 255).toInt8.toInt32)), (.int ((in_2 &&& 255).toInt8.toInt32))] (.int 0) := F2628.keep K2610 nin0
      have F2630 : Exa Z h2576 ob_2522 cN1 := F2570.keep K2586
      have F2631 : Exa Z h2600 ob_2522 cN1 := F2630.keep K2610
      have F2632 : Arv Z h2600 ob_2552 kk_2553 .byte 1 [(.int ((in_1 &&& 255).toInt8.toInt32))] (.int 0) := F2596.keep K2610 nin0
      have O2633 : Old Z n0 h2600 := O2597.keep K2610 all0
      have Z2634 : n0 ≤ h2600.size := by omega
      obtain ⟨T2635, h2636, v2637, L2638, X2639, e2640, q2641, s2642⟩ := own_callV X2603 hx hZ hown e2604 (y := mN11) (z := mN11) (C := cN1) (b := ob_2522) (oW hw 60 rfl) (oW hw 61 rfl) (notFace_of_selects (args := #[]) (mvT hZ (oW hw 63 rfl))) (oW hw 63 rfl) (oW hw 62 rfl) (oW hw 8 rfl) (oW hw 64 rfl) (by decide) F2631 (W := 0) (own_rm37 l Z a0 hw [] ob_2522 ob_2551 in_7 ob_2523 ob_2552 kk_2524 in_1 in_2 kk_2553 h2600 n0 Z2634 O2633 N2618 F2619 I68 I77 F2622 F2624 F2626 F2627 F2629 F2632) (by decide) (by decide) (by decide) (by decide) (g := (mkF m 60 #[iv in_1, iv in_2, iv in_3, iv in_4, iv in_5, iv in_6, iv 2, iv 1, rv ob_2522, rv ob_2551, rv ob_2584, rv ob_2608, .unset] [(.ref ob_2551), (.ref ob_2522)])) rfl (by rw [hml]; rfl) (argsL := [(.ref ob_2551)]) (rest := []) rfl (lenOf own_pd11 rfl) rfl (by show 2 * 0 + _ ≤ _; exact Nat.le_of_eq rfl) (hb hby at_60)
      refine oS s2642 ?_
      obtain ⟨rfl, N2643, K2644⟩ := q2641
      have N2645 := Fr.app N2615 N2643
      have e2646 := e2640.trans K2644
      show own_G p e below (T2635.setTop (mkF m 63 #[iv in_1, iv in_2, iv in_3, iv in_4, iv in_5, iv in_6, iv 2, iv 1, rv ob_2522, rv ob_2551, rv ob_2584, rv ob_2608, .unset] [(.int 0)])) _
      refine oS (fun _ => XS.istore X2639.here hx rfl (hb hby at_63) rfl (l' := #[iv in_1, iv in_2, iv in_3, iv in_4, iv in_5, iv in_6, iv 2, iv 1, rv ob_2522, rv ob_2551, rv ob_2584, rv ob_2608, iv 0]) rfl) ?_
      refine oS (fun _ => XS.aload X2639.here hx rfl (hb hby at_65) rfl rfl) ?_
      have F2647 : Fld Z h2600 ob_2584 cN4 "name" cN5 (.ref ob_2522) := F2589.keep K2610 nin0
      have Z2648 : n0 ≤ h2600.size := by omega
      have F2657 : Exa Z h2600 ob_2584 cN4 := F2588.keep K2610
      obtain ⟨T2649, h2650, v2651, L2652, X2653, e2654, q2655, s2656⟩ := own_callV X2639 hx hZ hown e2646 (y := mN12) (z := mN12) (C := cN4) (b := ob_2584) (oW hw 70 rfl) (oW hw 71 rfl) (notFace_of_selects (args := #[]) (mvT hZ (oW hw 73 rfl))) (oW hw 73 rfl) (oW hw 72 rfl) (oW hw 37 rfl) (oW hw 74 rfl) (by decide) F2657 (W := 0) (own_rm15 l Z a0 hw [] ob_2584 ob_2522 h2600 n0 Z2648 O2633 F2647) (by decide) (by decide) (by decide) (by decide) (g := (mkF m 67 #[iv in_1, iv in_2, iv in_3, iv in_4, iv in_5, iv in_6, iv 2, iv 1, rv ob_2522, rv ob_2551, rv ob_2584, rv ob_2608, iv 0] [(.ref ob_2584)])) rfl (by rw [hml]; rfl) (argsL := []) (rest := []) rfl (lenOf own_pd12 rfl) rfl (by show 2 * 0 + _ ≤ _; exact Nat.le_of_eq rfl) (hb hby at_67)
      refine oS s2656 ?_
      obtain ⟨rfl, N2658, K2659⟩ := q2655
      have N2660 := Fr.app N2645 N2658
      have e2661 := e2654.trans K2659
      show own_G p e below (T2649.setTop (mkF m 70 #[iv in_1, iv in_2, iv in_3, iv in_4, iv in_5, iv in_6, iv 2, iv 1, rv ob_2522, rv ob_2551, rv ob_2584, rv ob_2608, iv 0] [(.ref ob_2522)])) _
      refine oS (fun _ => XS.aload X2653.here hx rfl (hb hby at_70) rfl rfl) ?_
      have Z2662 : n0 ≤ h2600.size := by omega
      obtain ⟨T2663, h2664, v2665, L2666, X2667, e2668, q2669, s2670⟩ := own_callV X2653 hx hZ hown e2661 (y := mN11) (z := mN11) (C := cN1) (b := ob_2522) (oW hw 60 rfl) (oW hw 61 rfl) (notFace_of_selects (args := #[]) (mvT hZ (oW hw 63 rfl))) (oW hw 63 rfl) (oW hw 62 rfl) (oW hw 8 rfl) (oW hw 64 rfl) (by decide) F2631 (W := 0) (own_rm16 l Z a0 hw [] ob_2522 h2600 n0 Z2662 O2633 ) (by decide) (by decide) (by decide) (by decide) (g := (mkF m 72 #[iv in_1, iv in_2, iv in_3, iv in_4, iv in_5, iv in_6, iv 2, iv 1, rv ob_2522, rv ob_2551, rv ob_2584, rv ob_2608, iv 0] [(.ref ob_2522), (.ref ob_2522)])) rfl (by rw [hml]; rfl) (argsL := [(.ref ob_2522)]) (rest := []) rfl (lenOf own_pd11 rfl) rfl (by show 2 * 0 + _ ≤ _; exact Nat.le_of_eq rfl) (hb hby at_72)
      refine oS s2670 ?_
      obtain ⟨rfl, N2671, K2672⟩ := q2669
      have N2673 := Fr.app N2660 N2671
      have e2674 := e2668.trans K2672
      show own_G p e below (T2663.setTop (mkF m 75 #[iv in_1, iv in_2, iv in_3, iv in_4, iv in_5, iv in_6, iv 2, iv 1, rv ob_2522, rv ob_2551, rv ob_2584, rv ob_2608, iv 0] [(.int 1)])) _
      refine oS (fun _ => XS.ifYes X2667.here hx rfl (pc0 := 75) (pc' := 80) rfl (hb hby at_75) rfl (XT.i0_ne_t (by decide)) (by decide) (by decide)) ?_
      show own_G p e below (T2663.setTop (mkF m 80 #[iv in_1, iv in_2, iv in_3, iv in_4, iv in_5, iv in_6, iv 2, iv 1, rv ob_2522, rv ob_2551, rv ob_2584, rv ob_2608, iv 0] [])) _
      refine oS (fun _ => XS.aload X2667.here hx rfl (hb hby at_80) rfl rfl) ?_
      have Z2675 : n0 ≤ h2600.size := by omega
      obtain ⟨T2676, h2677, v2678, L2679, X2680, e2681, q2682, s2683⟩ := own_callV X2667 hx hZ hown e2674 (y := mN12) (z := mN12) (C := cN4) (b := ob_2608) (oW hw 70 rfl) (oW hw 71 rfl) (notFace_of_selects (args := #[]) (mvT hZ (oW hw 73 rfl))) (oW hw 73 rfl) (oW hw 72 rfl) (oW hw 37 rfl) (oW hw 74 rfl) (by decide) F2612 (W := 0) (own_rm15 l Z a0 hw [] ob_2608 ob_2551 h2600 n0 Z2675 O2633 F2613) (by decide) (by decide) (by decide) (by decide) (g := (mkF m 82 #[iv in_1, iv in_2, iv in_3, iv in_4, iv in_5, iv in_6, iv 2, iv 1, rv ob_2522, rv ob_2551, rv ob_2584, rv ob_2608, iv 0] [(.ref ob_2608)])) rfl (by rw [hml]; rfl) (argsL := []) (rest := []) rfl (lenOf own_pd12 rfl) rfl (by show 2 * 0 + _ ≤ _; exact Nat.le_of_eq rfl) (hb hby at_82)
      refine oS s2683 ?_
      obtain ⟨rfl, N2684, K2685⟩ := q2682
      have N2686 := Fr.app N2673 N2684
      have e2687 := e2681.trans K2685
      show own_G p e below (T2676.setTop (mkF m 85 #[iv in_1, iv in_2, iv in_3, iv in_4, iv in_5, iv in_6, iv 2, iv 1, rv ob_2522, rv ob_2551, rv ob_2584, rv ob_2608, iv 0] [(.ref ob_2551)])) _
      refine oS (fun _ => XS.aload X2680.here hx rfl (hb hby at_85) rfl rfl) ?_
      have Z2688 : n0 ≤ h2600.size := by omega
      obtain ⟨T2689, h2690, v2691, L2692, X2693, e2694, q2695, s2696⟩ := own_callV X2680 hx hZ hown e2687 (y := mN11) (z := mN11) (C := cN1) (b := ob_2551) (oW hw 60 rfl) (oW hw 61 rfl) (notFace_of_selects (args := #[]) (mvT hZ (oW hw 63 rfl))) (oW hw 63 rfl) (oW hw 62 rfl) (oW hw 8 rfl) (oW hw 64 rfl) (by decide) F2619 (W := 0) (own_rm16 l Z a0 hw [] ob_2551 h2600 n0 Z2688 O2633 ) (by decide) (by decide) (by decide) (by decide) (g := (mkF m 87 #[iv in_1, iv in_2, iv in_3, iv in_4, iv in_5, iv in_6, iv 2, iv 1, rv ob_2522, rv ob_2551, rv ob_2584, rv ob_2608, iv 0] [(.ref ob_2551), (.ref ob_2551)])) rfl (by rw [hml]; rfl) (argsL := [(.ref ob_2551)]) (rest := []) rfl (lenOf own_pd11 rfl) rfl (by show 2 * 0 + _ ≤ _; exact Nat.le_of_eq rfl) (hb hby at_87)
      refine oS s2696 ?_
      obtain ⟨rfl, N2697, K2698⟩ := q2695
      have N2699 := Fr.app N2686 N2697
      have e2700 := e2694.trans K2698
      show own_G p e below (T2689.setTop (mkF m 90 #[iv in_1, iv in_2, iv in_3, iv in_4, iv in_5, iv in_6, iv 2, iv 1, rv ob_2522, rv ob_2551, rv ob_2584, rv ob_2608, iv 0] [(.int 1)])) _
      refine oS (fun _ => XS.ifYes X2693.here hx rfl (pc0 := 90) (pc' := 95) rfl (hb hby at_90) rfl (XT.i0_ne_t (by decide)) (by decide) (by decide)) ?_
      show own_G p e below (T2689.setTop (mkF m 95 #[iv in_1, iv in_2, iv in_3, iv in_4, iv in_5, iv in_6, iv 2, iv 1, rv ob_2522, rv ob_2551, rv ob_2584, rv ob_2608, iv 0] [])) _
      refine oS (fun _ => XS.aload X2693.here hx rfl (hb hby at_95) rfl rfl) ?_
      have F2701 : Sta Z h2600 cN4 "NONE" cN8 (.ref ob_9) := Sta.ext O2633.2 I630
      obtain ⟨T2702, X2703, e2704, s2705⟩ := getS X2693 hx hZ hown (host := "") (oW hw 75 rfl) Via.refl e2700 F2701 (g := (mkF m 97 #[iv in_1, iv in_2, iv in_3, iv in_4, iv in_5, iv in_6, iv 2, iv 1, rv ob_2522, rv ob_2551, rv ob_2584, rv ob_2608, iv 0] [(.ref ob_2584)])) rfl (hb hby at_97)
      refine oS s2705 ?_
      show own_G p e below (T2702.setTop (mkF m 100 #[iv in_1, iv in_2, iv in_3, iv in_4, iv in_5, iv in_6, iv 2, iv 1, rv ob_2522, rv ob_2551, rv ob_2584, rv ob_2608, iv 0] [(.ref ob_9), (.ref ob_2584)])) _
      have N2706 : n0 ≤ ob_2522 := by omega
      have F2707 : Exa Z h2600 ob_9 cN4 := Exa.ext O2633.2 I640
      have F2708 : Fld Z h2600 ob_9 cN4 "name" cN5 (.ref ob_10) := Fld.ext O2633.2 I647
      have y2709 : @LT.lt Nat instLTNat ob_10 Z.heap.size := I659.lt
      have y2710 : Z.heap.size = n0 := O0.1
      have N2711 : @Ne Nat ob_10 ob_2522 := by omega
      have F2712 : Fld Z h2600 ob_10 cN1 "coder" "B" (.int 0) := Fld.ext O2633.2 I670
      have F2713 : Fld Z h2600 ob_10 cN1 "value" "[B" (.ref ob_11) := Fld.ext O2633.2 I674
      have F2714 : Arv Z h2600 ob_11 kk_12 FieldType.byte 0 [] (.int 0) := I678.ext O2633.2
      have Z2829 : n0 ≤ h2600.size := by omega
      obtain ⟨T2830, h2831, v2832, L2833, X2834, e2835, q2836, s2837⟩ := own_callV X2703 hx hZ hown e2704 (y := mN13) (z := mN13) (C := cN4) (b := ob_2584) (oW hw 77 rfl) (oW hw 78 rfl) (notFace_of_selects (args := #[]) (mvT hZ (oW hw 80 rfl))) (oW hw 80 rfl) (oW hw 79 rfl) (oW hw 37 rfl) (oW hw 81 rfl) (by decide) F2657 (W := 0) (own_rm53 l Z a0 hw [] ob_2584 ob_9 ob_10 ob_2522 in_7 ob_11 ob_2523 kk_12 kk_2524 in_1 in_2 h2600 n0 Z2829 O2633 I640 I647 F2647 I659 N2706 F2631 I68 I77 I670 F2622 I674 F2626 I678 F2629) (by decide) (by decide) (by decide) (by decide) (g := (mkF m 100 #[iv in_1, iv in_2, iv in_3, iv in_4, iv in_5, iv in_6, iv 2, iv 1, rv ob_2522, rv ob_2551, rv ob_2584, rv ob_2608, iv 0] [(.ref ob_9), (.ref ob_2584)])) rfl (by rw [hml]; rfl) (argsL := [(.ref ob_9)]) (rest := []) rfl (lenOf own_pd11 rfl) rfl (by show 2 * 0 + _ ≤ _; exact Nat.le_of_eq rfl) (hb hby at_100)
      refine oS s2837 ?_
      obtain ⟨rfl, N2838, K2839⟩ := q2836
      have N2840 := Fr.app N2699 N2838
      have e2841 := e2835.trans K2839
      show own_G p e below (T2830.setTop (mkF m 103 #[iv in_1, iv in_2, iv in_3, iv in_4, iv in_5, iv in_6, iv 2, iv 1, rv ob_2522, rv ob_2551, rv ob_2584, rv ob_2608, iv 0] [(.int 0)])) _
      refine oS (fun _ => XS.ifYes X2834.here hx rfl (pc0 := 103) (pc' := 108) rfl (hb hby at_103) rfl (XT.i0_eq_t (by decide)) (by decide) (by decide)) ?_
      show own_G p e below (T2830.setTop (mkF m 108 #[iv in_1, iv in_2, iv in_3, iv in_4, iv in_5, iv in_6, iv 2, iv 1, rv ob_2522, rv ob_2551, rv ob_2584, rv ob_2608, iv 0] [])) _
      refine oS (fun _ => XS.aload X2834.here hx rfl (hb hby at_108) rfl rfl) ?_
      refine oS (fun _ => XS.aload X2834.here hx rfl (hb hby at_110) rfl rfl) ?_
      have Z2884 : n0 ≤ h2600.size := by omega
      obtain ⟨T2885, h2886, v2887, L2888, X2889, e2890, q2891, s2892⟩ := own_callV X2834 hx hZ hown e2841 (y := mN13) (z := mN13) (C := cN4) (b := ob_2584) (oW hw 77 rfl) (oW hw 78 rfl) (notFace_of_selects (args := #[]) (mvT hZ (oW hw 80 rfl))) (oW hw 80 rfl) (oW hw 79 rfl) (oW hw 37 rfl) (oW hw 81 rfl) (by decide) F2657 (W := 0) (own_rm56 l Z a0 hw [] ob_2584 ob_2608 ob_2551 ob_2522 in_7 ob_2552 ob_2523 kk_2553 in_1 kk_2524 in_2 h2600 n0 Z2884 O2633 F2612 F2613 F2647 (Ne.symm N2618) F2631 I68 I77 F2624 F2622 F2627 F2626 F2632 F2629 F2619) (by decide) (by decide) (by decide) (by decide) (g := (mkF m 112 #[iv in_1, iv in_2, iv in_3, iv in_4, iv in_5, iv in_6, iv 2, iv 1, rv ob_2522, rv ob_2551, rv ob_2584, rv ob_2608, iv 0] [(.ref ob_2608), (.ref ob_2584)])) rfl (by rw [hml]; rfl) (argsL := [(.ref ob_2608)]) (rest := []) rfl (lenOf own_pd11 rfl) rfl (by show 2 * 0 + _ ≤ _; exact Nat.le_of_eq rfl) (hb hby at_112)
      refine oS s2892 ?_
      obtain ⟨rfl, N2893, K2894⟩ := q2891
      have N2895 := Fr.app N2840 N2893
      have e2896 := e2890.trans K2894
      show own_G p e below (T2885.setTop (mkF m 115 #[iv in_1, iv in_2, iv in_3, iv in_4, iv in_5, iv in_6, iv 2, iv 1, rv ob_2522, rv ob_2551, rv ob_2584, rv ob_2608, iv 0] [(.int 0)])) _
      refine oS (fun _ => XS.iload X2889.here hx rfl (hb hby at_115) rfl) ?_
      refine oS (fun _ => XS.icmpYes X2889.here hx rfl (pc0 := 117) (pc' := 122) rfl (hb hby at_117) rfl (XT.ii_eq_t (by decide)) (by decide) (by decide)) ?_
      show own_G p e below (T2885.setTop (mkF m 122 #[iv in_1, iv in_2, iv in_3, iv in_4, iv in_5, iv in_6, iv 2, iv 1, rv ob_2522, rv ob_2551, rv ob_2584, rv ob_2608, iv 0] [])) _
      refine oS (fun _ => XS.iload X2889.here hx rfl (hb hby at_122) rfl) ?_
      refine oS (fun _ => XS.ifYes X2889.here hx rfl (pc0 := 124) (pc' := 142) rfl (hb hby at_124) rfl (XT.i0_eq_t (by decide)) (by decide) (by decide)) ?_
      show own_G p e below (T2885.setTop (mkF m 142 #[iv in_1, iv in_2, iv in_3, iv in_4, iv in_5, iv in_6, iv 2, iv 1, rv ob_2522, rv ob_2551, rv ob_2584, rv ob_2608, iv 0] [])) _
      refine oS (fun _ => XS.iconst X2889.here hx rfl (hb hby at_142) ) ?_
      have K2897 : Keep h0 h2600 [] := (((((Keep.refl h0 []).trans K2526 all0).trans K2555 all0).trans K2586 all0).trans K2610 all0)
      exact own_retNW X2889 hx (t := .boolean) Bd.notSynchronized Bd.returns (by simp) (hb hby at_143) (by decide) hS hZ hEL hh R2616 e2896 (by omega) (by decide) (by decide) (fun hA => ⟨rfl, N2895⟩)
    · skip
      refine own_cast (g' := (mkF m 19 #[iv in_1, iv in_2, iv in_3, iv in_4, iv in_5, iv in_6, iv 2, .unset, .unset, .unset, .unset, .unset, .unset] [(.int 1), (.int 1)])) (by rw [q2512]) ?_
      show own_G p e below (s₁.setTop (mkF m 19 #[iv in_1, iv in_2, iv in_3, iv in_4, iv in_5, iv in_6, iv 2, .unset, .unset, .unset, .unset, .unset, .unset] [(.int 1), (.int 1)])) _
      refine oS (fun _ => XS.iadd X0.here hx rfl (hb hby at_19) rfl) ?_
      refine oS (fun _ => XS.istore X0.here hx rfl (hb hby at_20) rfl (l' := #[iv in_1, iv in_2, iv in_3, iv in_4, iv in_5, iv in_6, iv 2, iv 2, .unset, .unset, .unset, .unset, .unset]) rfl) ?_
      refine oS (fun _ => XS.iload X0.here hx rfl (hb hby at_22) rfl) ?_
      refine oS (fun _ => XS.iloadN X0.here hx rfl (hb hby at_24) rfl) ?_
      show own_G p e below (s₁.setTop (mkF m 25 #[iv in_1, iv in_2, iv in_3, iv in_4, iv in_5, iv in_6, iv 2, iv 2, .unset, .unset, .unset, .unset, .unset] [(.int in_1), (.int 2)])) _
      refine oS (fun _ => XS.iloadN X0.here hx rfl (hb hby at_25) rfl) ?_
      refine oS (fun _ => XS.iloadN X0.here hx rfl (hb hby at_26) rfl) ?_
      obtain ⟨T2898, h2899, v2900, L2901, X2902, e2903, q2904, s2905⟩ := own_callS X0 hx hZ hown e0 (y := mN5) (oW hw 1 rfl) (oW hw 2 rfl) (oW hw 3 rfl) (oW hw 4 rfl) (by decide) (W := 0) (own_rm25 l Z a0 hw [] in_1 in_2 in_3 in_7 h0 n0 Z0 O0 I68 I77) (by decide) (by decide) (by decide) (by decide) (g := (mkF m 27 #[iv in_1, iv in_2, iv in_3, iv in_4, iv in_5, iv in_6, iv 2, iv 2, .unset, .unset, .unset, .unset, .unset] [(.int in_3), (.int in_2), (.int in_1), (.int 2)])) rfl (by rw [hml]; rfl) (argsL := [(.int 2), (.int in_1), (.int in_2), (.int in_3)]) (rest := []) rfl (lenOf own_pd5 rfl) rfl (by show 2 * 0 + _ ≤ _; exact Nat.le_of_eq rfl) (hb hby at_27)
      refine oS s2905 ?_
      obtain ⟨ob_2906, ob_2907, kk_2908, rfl, N2909, K2910, F2911, F2912, F2913, F2914, F2915, F2916, F2917, F2918, F2919, F2920, F2921⟩ := q2904
      have N2922 := Fr.app N0 N2909
      have R2923 : CHr Z own_EL s.vm h0 s.vm h2899 := hR.trans (CHr.keep K2910 sf0 hR.1)
      have z2924 := K2910.1
      show own_G p e below (T2898.setTop (mkF m 30 #[iv in_1, iv in_2, iv in_3, iv in_4, iv in_5, iv in_6, iv 2, iv 2, .unset, .unset, .unset, .unset, .unset] [(.ref ob_2906)])) _
      refine oS (fun _ => XS.astore X2902.here hx rfl (hb hby at_30) rfl rfl (l' := #[iv in_1, iv in_2, iv in_3, iv in_4, iv in_5, iv in_6, iv 2, iv 2, rv ob_2906, .unset, .unset, .unset, .unset]) rfl) ?_
      refine oS (fun _ => XS.iload X2902.here hx rfl (hb hby at_32) rfl) ?_
      refine oS (fun _ => XS.iloadN X2902.here hx rfl (hb hby at_34) rfl) ?_
      refine oS (fun _ => XS.iloadN X2902.here hx rfl (hb hby at_35) rfl) ?_
      show own_G p e below (T2898.setTop (mkF m 36 #[iv in_1, iv in_2, iv in_3, iv in_4, iv in_5, iv in_6, iv 2, iv 2, rv ob_2906, .unset, .unset, .unset, .unset] [(.int in_2), (.int in_1), (.int 2)])) _
      refine oS (fun _ => XS.iloadN X2902.here hx rfl (hb hby at_36) rfl) ?_
      have O2925 : Old Z n0 h2899 := O0.keep K2910 all0
      have Z2926 : n0 ≤ h2899.size := by omega
      obtain ⟨T2927, h2928, v2929, L2930, X2931, e2932, q2933, s2934⟩ := own_callS X2902 hx hZ hown e2903 (y := mN5) (oW hw 1 rfl) (oW hw 2 rfl) (oW hw 3 rfl) (oW hw 4 rfl) (by decide) (W := 0) (own_rm25 l Z a0 hw [] in_1 in_2 in_4 in_7 h2899 n0 Z2926 O2925 I68 I77) (by decide) (by decide) (by decide) (by decide) (g := (mkF m 37 #[iv in_1, iv in_2, iv in_3, iv in_4, iv in_5, iv in_6, iv 2, iv 2, rv ob_2906, .unset, .unset, .unset, .unset] [(.int in_4), (.int in_2), (.int in_1), (.int 2)])) rfl (by rw [hml]; rfl) (argsL := [(.int 2), (.int in_1), (.int in_2), (.int in_4)]) (rest := []) rfl (lenOf own_pd5 rfl) rfl (by show 2 * 0 + _ ≤ _; exact Nat.le_of_eq rfl) (hb hby at_37)
      refine oS s2934 ?_
      obtain ⟨ob_2935, ob_2936, kk_2937, rfl, N2938, K2939, F2940, F2941, F2942, F2943, F2944, F2945, F2946, F2947, F2948, F2949, F2950⟩ := q2933
      have N2951 := Fr.app N2922 N2938
      have R2952 : CHr Z own_EL s.vm h0 s.vm h2928 := R2923.trans (CHr.keep K2939 sf0 R2923.1)
      have z2953 := K2939.1
      show own_G p e below (T2927.setTop (mkF m 40 #[iv in_1, iv in_2, iv in_3, iv in_4, iv in_5, iv in_6, iv 2, iv 2, rv ob_2906, .unset, .unset, .unset, .unset] [(.ref ob_2935)])) _
      refine oS (fun _ => XS.astore X2931.here hx rfl (hb hby at_40) rfl rfl (l' := #[iv in_1, iv in_2, iv in_3, iv in_4, iv in_5, iv in_6, iv 2, iv 2, rv ob_2906, rv ob_2935, .unset, .unset, .unset]) rfl) ?_
      refine oS (fun _ => XS.aload X2931.here hx rfl (hb hby at_42) rfl rfl) ?_
      have F2954 : Exa Z h2928 ob_2906 cN1 := F2913.keep K2939
      have F2955 : Fld Z h2928 ob_2906 cN1 "value" "[B" (.ref ob_2907) := F2915.keep K2939 nin0
      have F2956 : Arv Z h2928 ob_2907 kk_2908 .byte 2 [(.int ((in_1 &&& 255).toInt8.toInt32)), (.int ((in_2 &&& 255).toInt8.toInt32))] (.int 0) := F2918.keep K2939 nin0
      have O2957 : Old Z n0 h2928 := O2925.keep K2939 all0
      have Z2958 : n0 ≤ h2928.size := by omega
      obtain ⟨T2959, h2960, v2961, L2962, X2963, e2964, q2965, hS, hZ, hown, A2966, s2967⟩ := own_callSW X2931 hx hZ hown e2932 (y := mN9) (sf := []) (oW hw 35 rfl) (oW hw 36 rfl) (oW hw 37 rfl) (oW hw 38 rfl) (by decide) hS (by omega) hEL R2952.1 sf0 all0 (W := 0) (own_rm32 l Z a0 hw hEL [] ob_2906 ob_2907 kk_2908 in_1 in_2 h2928 n0 Z2958 O2957 F2954 F2955 F2956) (by decide) (by decide) (by decide) (by decide) (g := (mkF m 44 #[iv in_1, iv in_2, iv in_3, iv in_4, iv in_5, iv in_6, iv 2, iv 2, rv ob_2906, rv ob_2935, .unset, .unset, .unset] [(.ref ob_2906)])) rfl (by rw [hml]; rfl) (argsL := [(.ref ob_2906)]) (rest := []) rfl (lenOf own_pd9 rfl) rfl (by show 2 * 0 + _ ≤ _; exact Nat.le_of_eq rfl) (hb hby at_44)
      refine oS s2967 ?_
      obtain ⟨ob_2968, rfl, N2969, K2970, F2971, F2972, F2973, F2974⟩ := q2965
      have N2975 := Fr.app N2951 N2969
      have R2976 : CHr Z own_EL s.vm h0 T2959.vm h2960 := R2952.trans A2966
      have z2977 := K2970.1
      show own_G p e below (T2959.setTop (mkF m 47 #[iv in_1, iv in_2, iv in_3, iv in_4, iv in_5, iv in_6, iv 2, iv 2, rv ob_2906, rv ob_2935, .unset, .unset, .unset] [(.ref ob_2968)])) _
      refine oS (fun _ => XS.astore X2963.here hx rfl (hb hby at_47) rfl rfl (l' := #[iv in_1, iv in_2, iv in_3, iv in_4, iv in_5, iv in_6, iv 2, iv 2, rv ob_2906, rv ob_2935, rv ob_2968, .unset, .unset]) rfl) ?_
      refine oS (fun _ => XS.aload X2963.here hx rfl (hb hby at_49) rfl rfl) ?_
      have F2978 : Exa Z h2960 ob_2935 cN1 := F2942.keep K2970
      have F2979 : Fld Z h2960 ob_2935 cN1 "value" "[B" (.ref ob_2936) := F2944.keep K2970 nin0
      have F2980 : Arv Z h2960 ob_2936 kk_2937 .byte 2 [(.int ((in_1 &&& 255).toInt8.toInt32)), (.int ((in_2 &&& 255).toInt8.toInt32))] (.int 0) := F2947.keep K2970 nin0
      have O2981 : Old Z n0 h2960 := O2957.keep K2970 all0
      have Z2982 : n0 ≤ h2960.size := by omega
      obtain ⟨T2983, h2984, v2985, L2986, X2987, e2988, q2989, hS, hZ, hown, A2990, s2991⟩ := own_callSW X2963 hx hZ hown e2964 (y := mN9) (sf := []) (oW hw 35 rfl) (oW hw 36 rfl) (oW hw 37 rfl) (oW hw 38 rfl) (by decide) hS (by omega) hEL R2976.1 sf0 all0 (W := 0) (own_rm32 l Z a0 hw hEL [] ob_2935 ob_2936 kk_2937 in_1 in_2 h2960 n0 Z2982 O2981 F2978 F2979 F2980) (by decide) (by decide) (by decide) (by decide) (g := (mkF m 51 #[iv in_1, iv in_2, iv in_3, iv in_4, iv in_5, iv in_6, iv 2, iv 2, rv ob_2906, rv ob_2935, rv ob_2968, .unset, .unset] [(.ref ob_2935)])) rfl (by rw [hml]; rfl) (argsL := [(.ref ob_2935)]) (rest := []) rfl (lenOf own_pd9 rfl) rfl (by show 2 * 0 + _ ≤ _; exact Nat.le_of_eq rfl) (hb hby at_51)
      refine oS s2991 ?_
      obtain ⟨ob_2992, rfl, N2993, K2994, F2995, F2996, F2997, F2998⟩ := q2989
      have N2999 := Fr.app N2975 N2993
      have R3000 : CHr Z own_EL s.vm h0 T2983.vm h2984 := R2976.trans A2990
      have z3001 := K2994.1
      show own_G p e below (T2983.setTop (mkF m 54 #[iv in_1, iv in_2, iv in_3, iv in_4, iv in_5, iv in_6, iv 2, iv 2, rv ob_2906, rv ob_2935, rv ob_2968, .unset, .unset] [(.ref ob_2992)])) _
      refine oS (fun _ => XS.astore X2987.here hx rfl (hb hby at_54) rfl rfl (l' := #[iv in_1, iv in_2, iv in_3, iv in_4, iv in_5, iv in_6, iv 2, iv 2, rv ob_2906, rv ob_2935, rv ob_2968, rv ob_2992, .unset]) rfl) ?_
      refine oS (fun _ => XS.aload X2987.here hx rfl (hb hby at_56) rfl rfl) ?_
      refine oS (fun _ => XS.aload X2987.here hx rfl (hb hby at_58) rfl rfl) ?_
      have N3002 : @Ne Nat ob_2906 ob_2935 := by omega
      have F3003 : Exa Z h2984 ob_2935 cN1 := F2978.keep K2994
      have F3004 : Fld Z h2928 ob_2906 cN1 "coder" "B" (.int 0) := F2914.keep K2939 nin0
      have F3005 : Fld Z h2960 ob_2906 cN1 "coder" "B" (.int 0) := F3004.keep K2970 nin0
      have F3006 : Fld Z h2984 ob_2906 cN1 "coder" "B" (.int 0) := F3005.keep K2994 nin0
      have F3007 : Fld Z h2960 ob_2935 cN1 "coder" "B" (.int 0) := F2943.keep K2970 nin0
      have F3008 : Fld Z h2984 ob_2935 cN1 "coder" "B" (.int 0) := F3007.keep K2994 nin0
      have F3009 : Fld Z h2960 ob_2906 cN1 "value" "[B" (.ref ob_2907) := F2955.keep K2970 nin0
      have F3010 : Fld Z h2984 ob_2906 cN1 "value" "[B" (.ref ob_2907) := F3009.keep K2994 nin0
      have F3011 : Fld Z h2984 ob_2935 cN1 "value" "[B" (.ref ob_2936) := F2979.keep K2994 nin0
      have F3012 : Arv Z h2960 ob_2907 kk_2908 .byte 2 [(.int ((in_1 &&& 255).toInt8.toInt32)), (.int ((in_2 &&& 255).toInt8.toInt32))] (.int 0) := F2956.keep K2970 nin0
      have F3013 : Arv Z h2984 ob_2907 kk_2908 .byte 2 [(.int ((in_1 &&& 255).toInt8.toInt32)), (.int ((in_2 &&& 255).toInt8.toInt32))] (.int 0) := F3012.keep K2994 nin0
      have F3014 : Exa Z h2960 ob_2906 cN1 := F2954.keep K2970
      have F3015 : Exa Z h2984 ob_2906 cN1 := F3014.keep K2994
      have F3016 : Arv Z h2984 ob_2936 kk_2937 .byte 2 [(.int ((in_1 &&& 255).toInt8.toInt32)), (.int ((in_2 &&& 255).toInt8.toInt32))] (.int 0) := F2980.keep K2994 nin0
      have O3070 : Old Z n0 h2984 := O2981.keep K2994 all0
      have Z3071 : n0 ≤ h2984.size := by omega
      obtain ⟨T3072, h3073, v3074, L3075, X3076, e3077, q3078, s3079⟩ := own_callV X2987 hx hZ hown e2988 (y := mN11) (z := mN11) (C := cN1) (b := ob_2906) (oW hw 60 rfl) (oW hw 61 rfl) (notFace_of_selects (args := #[]) (mvT hZ (oW hw 63 rfl))) (oW hw 63 rfl) (oW hw 62 rfl) (oW hw 8 rfl) (oW hw 64 rfl) (by decide) F3015 (W := 0) (own_rm57 l Z a0 hw [] ob_2906 ob_2935 in_7 ob_2907 ob_2936 kk_2908 in_1 in_2 kk_2937 h2984 n0 Z3071 O3070 N3002 F3003 I68 I77 F3006 F3008 F3010 F3011 F3013 F3016) (by decide) (by decide) (by decide) (by decide) (g := (mkF m 60 #[iv in_1, iv in_2, iv in_3, iv in_4, iv in_5, iv in_6, iv 2, iv 2, rv ob_2906, rv ob_2935, rv ob_2968, rv ob_2992, .unset] [(.ref ob_2935), (.ref ob_2906)])) rfl (by rw [hml]; rfl) (argsL := [(.ref ob_2935)]) (rest := []) rfl (lenOf own_pd11 rfl) rfl (by show 2 * 0 + _ ≤ _; exact Nat.le_of_eq rfl) (hb hby at_60)
      refine oS s3079 ?_
      obtain ⟨rfl, N3080, K3081⟩ := q3078
      have N3082 := Fr.app N2999 N3080
      have e3083 := e3077.trans K3081
      show own_G p e below (T3072.setTop (mkF m 63 #[iv in_1, iv in_2, iv in_3, iv in_4, iv in_5, iv in_6, iv 2, iv 2, rv ob_2906, rv ob_2935, rv ob_2968, rv ob_2992, .unset] [(.int 1)])) _
      refine oS (fun _ => XS.istore X3076.here hx rfl (hb hby at_63) rfl (l' := #[iv in_1, iv in_2, iv in_3, iv in_4, iv in_5, iv in_6, iv 2, iv 2, rv ob_2906, rv ob_2935, rv ob_2968, rv ob_2992, iv 1]) rfl) ?_
      refine oS (fun _ => XS.aload X3076.here hx rfl (hb hby at_65) rfl rfl) ?_
      have F3084 : Fld Z h2984 ob_2968 cN4 "name" cN5 (.ref ob_2906) := F2973.keep K2994 nin0
      have Z3085 : n0 ≤ h2984.size := by omega
      have F3094 : Exa Z h2984 ob_2968 cN4 := F2972.keep K2994
      obtain ⟨T3086, h3087, v3088, L3089, X3090, e3091, q3092, s3093⟩ := own_callV X3076 hx hZ hown e3083 (y := mN12) (z := mN12) (C := cN4) (b := ob_2968) (oW hw 70 rfl) (oW hw 71 rfl) (notFace_of_selects (args := #[]) (mvT hZ (oW hw 73 rfl))) (oW hw 73 rfl) (oW hw 72 rfl) (oW hw 37 rfl) (oW hw 74 rfl) (by decide) F3094 (W := 0) (own_rm15 l Z a0 hw [] ob_2968 ob_2906 h2984 n0 Z3085 O3070 F3084) (by decide) (by decide) (by decide) (by decide) (g := (mkF m 67 #[iv in_1, iv in_2, iv in_3, iv in_4, iv in_5, iv in_6, iv 2, iv 2, rv ob_2906, rv ob_2935, rv ob_2968, rv ob_2992, iv 1] [(.ref ob_2968)])) rfl (by rw [hml]; rfl) (argsL := []) (rest := []) rfl (lenOf own_pd12 rfl) rfl (by show 2 * 0 + _ ≤ _; exact Nat.le_of_eq rfl) (hb hby at_67)
      refine oS s3093 ?_
      obtain ⟨rfl, N3095, K3096⟩ := q3092
      have N3097 := Fr.app N3082 N3095
      have e3098 := e3091.trans K3096
      show own_G p e below (T3086.setTop (mkF m 70 #[iv in_1, iv in_2, iv in_3, iv in_4, iv in_5, iv in_6, iv 2, iv 2, rv ob_2906, rv ob_2935, rv ob_2968, rv ob_2992, iv 1] [(.ref ob_2906)])) _
      refine oS (fun _ => XS.aload X3090.here hx rfl (hb hby at_70) rfl rfl) ?_
      have Z3099 : n0 ≤ h2984.size := by omega
      obtain ⟨T3100, h3101, v3102, L3103, X3104, e3105, q3106, s3107⟩ := own_callV X3090 hx hZ hown e3098 (y := mN11) (z := mN11) (C := cN1) (b := ob_2906) (oW hw 60 rfl) (oW hw 61 rfl) (notFace_of_selects (args := #[]) (mvT hZ (oW hw 63 rfl))) (oW hw 63 rfl) (oW hw 62 rfl) (oW hw 8 rfl) (oW hw 64 rfl) (by decide) F3015 (W := 0) (own_rm16 l Z a0 hw [] ob_2906 h2984 n0 Z3099 O3070 ) (by decide) (by decide) (by decide) (by decide) (g := (mkF m 72 #[iv in_1, iv in_2, iv in_3, iv in_4, iv in_5, iv in_6, iv 2, iv 2, rv ob_2906, rv ob_2935, rv ob_2968, rv ob_2992, iv 1] [(.ref ob_2906), (.ref ob_2906)])) rfl (by rw [hml]; rfl) (argsL := [(.ref ob_2906)]) (rest := []) rfl (lenOf own_pd11 rfl) rfl (by show 2 * 0 + _ ≤ _; exact Nat.le_of_eq rfl) (hb hby at_72)
      refine oS s3107 ?_
      obtain ⟨rfl, N3108, K3109⟩ := q3106
      have N3110 := Fr.app N3097 N3108
      have e3111 := e3105.trans K3109
      show own_G p e below (T3100.setTop (mkF m 75 #[iv in_1, iv in_2, iv in_3, iv in_4, iv in_5, iv in_6, iv 2, iv 2, rv ob_2906, rv ob_2935, rv ob_2968, rv ob_2992, iv 1] [(.int 1)])) _
      refine oS (fun _ => XS.ifYes X3104.here hx rfl (pc0 := 75) (pc' := 80) rfl (hb hby at_75) rfl (XT.i0_ne_t (by decide)) (by decide) (by decide)) ?_
      show own_G p e below (T3100.setTop (mkF m 80 #[iv in_1, iv in_2, iv in_3, iv in_4, iv in_5, iv in_6, iv 2, iv 2, rv ob_2906, rv ob_2935, rv ob_2968, rv ob_2992, iv 1] [])) _
      refine oS (fun _ => XS.aload X3104.here hx rfl (hb hby at_80) rfl rfl) ?_
      have Z3112 : n0 ≤ h2984.size := by omega
      obtain ⟨T3113, h3114, v3115, L3116, X3117, e3118, q3119, s3120⟩ := own_callV X3104 hx hZ hown e3111 (y := mN12) (z := mN12) (C := cN4) (b := ob_2992) (oW hw 70 rfl) (oW hw 71 rfl) (notFace_of_selects (args := #[]) (mvT hZ (oW hw 73 rfl))) (oW hw 73 rfl) (oW hw 72 rfl) (oW hw 37 rfl) (oW hw 74 rfl) (by decide) F2996 (W := 0) (own_rm15 l Z a0 hw [] ob_2992 ob_2935 h2984 n0 Z3112 O3070 F2997) (by decide) (by decide) (by decide) (by decide) (g := (mkF m 82 #[iv in_1, iv in_2, iv in_3, iv in_4, iv in_5, iv in_6, iv 2, iv 2, rv ob_2906, rv ob_2935, rv ob_2968, rv ob_2992, iv 1] [(.ref ob_2992)])) rfl (by rw [hml]; rfl) (argsL := []) (rest := []) rfl (lenOf own_pd12 rfl) rfl (by show 2 * 0 + _ ≤ _; exact Nat.le_of_eq rfl) (hb hby at_82)
      refine oS s3120 ?_
      obtain ⟨rfl, N3121, K3122⟩ := q3119
      have N3123 := Fr.app N3110 N3121
      have e3124 := e3118.trans K3122
      show own_G p e below (T3113.setTop (mkF m 85 #[iv in_1, iv in_2, iv in_3, iv in_4, iv in_5, iv in_6, iv 2, iv 2, rv ob_2906, rv ob_2935, rv ob_2968, rv ob_2992, iv 1] [(.ref ob_2935)])) _
      refine oS (fun _ => XS.aload X3117.here hx rfl (hb hby at_85) rfl rfl) ?_
      have Z3125 : n0 ≤ h2984.size := by omega
      obtain ⟨T3126, h3127, v3128, L3129, X3130, e3131, q3132, s3133⟩ := own_callV X3117 hx hZ hown e3124 (y := mN11) (z := mN11) (C := cN1) (b := ob_2935) (oW hw 60 rfl) (oW hw 61 rfl) (notFace_of_selects (args := #[]) (mvT hZ (oW hw 63 rfl))) (oW hw 63 rfl) (oW hw 62 rfl) (oW hw 8 rfl) (oW hw 64 rfl) (by decide) F3003 (W := 0) (own_rm16 l Z a0 hw [] ob_2935 h2984 n0 Z3125 O3070 ) (by decide) (by decide) (by decide) (by decide) (g := (mkF m 87 #[iv in_1, iv in_2, iv in_3, iv in_4, iv in_5, iv in_6, iv 2, iv 2, rv ob_2906, rv ob_2935, rv ob_2968, rv ob_2992, iv 1] [(.ref ob_2935), (.ref ob_2935)])) rfl (by rw [hml]; rfl) (argsL := [(.ref ob_2935)]) (rest := []) rfl (lenOf own_pd11 rfl) rfl (by show 2 * 0 + _ ≤ _; exact Nat.le_of_eq rfl) (hb hby at_87)
      refine oS s3133 ?_
      obtain ⟨rfl, N3134, K3135⟩ := q3132
      have N3136 := Fr.app N3123 N3134
      have e3137 := e3131.trans K3135
      show own_G p e below (T3126.setTop (mkF m 90 #[iv in_1, iv in_2, iv in_3, iv in_4, iv in_5, iv in_6, iv 2, iv 2, rv ob_2906, rv ob_2935, rv ob_2968, rv ob_2992, iv 1] [(.int 1)])) _
      refine oS (fun _ => XS.ifYes X3130.here hx rfl (pc0 := 90) (pc' := 95) rfl (hb hby at_90) rfl (XT.i0_ne_t (by decide)) (by decide) (by decide)) ?_
      show own_G p e below (T3126.setTop (mkF m 95 #[iv in_1, iv in_2, iv in_3, iv in_4, iv in_5, iv in_6, iv 2, iv 2, rv ob_2906, rv ob_2935, rv ob_2968, rv ob_2992, iv 1] [])) _
      refine oS (fun _ => XS.aload X3130.here hx rfl (hb hby at_95) rfl rfl) ?_
      have F3138 : Sta Z h2984 cN4 "NONE" cN8 (.ref ob_9) := Sta.ext O3070.2 I630
      obtain ⟨T3139, X3140, e3141, s3142⟩ := getS X3130 hx hZ hown (host := "") (oW hw 75 rfl) Via.refl e3137 F3138 (g := (mkF m 97 #[iv in_1, iv in_2, iv in_3, iv in_4, iv in_5, iv in_6, iv 2, iv 2, rv ob_2906, rv ob_2935, rv ob_2968, rv ob_2992, iv 1] [(.ref ob_2968)])) rfl (hb hby at_97)
      refine oS s3142 ?_
      show own_G p e below (T3139.setTop (mkF m 100 #[iv in_1, iv in_2, iv in_3, iv in_4, iv in_5, iv in_6, iv 2, iv 2, rv ob_2906, rv ob_2935, rv ob_2968, rv ob_2992, iv 1] [(.ref ob_9), (.ref ob_2968)])) _
      have N3143 : n0 ≤ ob_2906 := by omega
      have F3144 : Exa Z h2984 ob_9 cN4 := Exa.ext O3070.2 I640
      have F3145 : Fld Z h2984 ob_9 cN4 "name" cN5 (.ref ob_10) := Fld.ext O3070.2 I647
      have y3146 : @LT.lt Nat instLTNat ob_10 Z.heap.size := I659.lt
      have y3147 : Z.heap.size = n0 := O0.1
      have N3148 : @Ne Nat ob_10 ob_2906 := by omega
      have F3149 : Fld Z h2984 ob_10 cN1 "coder" "B" (.int 0) := Fld.ext O3070.2 I670
      have F3150 : Fld Z h2984 ob_10 cN1 "value" "[B" (.ref ob_11) := Fld.ext O3070.2 I674
      have F3151 : Arv Z h2984 ob_11 kk_12 FieldType.byte 0 [] (.int 0) := I678.ext O3070.2
      have Z3152 : n0 ≤ h2984.size := by omega
      obtain ⟨T3153, h3154, v3155, L3156, X3157, e3158, q3159, s3160⟩ := own_callV X3140 hx hZ hown e3141 (y := mN13) (z := mN13) (C := cN4) (b := ob_2968) (oW hw 77 rfl) (oW hw 78 rfl) (notFace_of_selects (args := #[]) (mvT hZ (oW hw 80 rfl))) (oW hw 80 rfl) (oW hw 79 rfl) (oW hw 37 rfl) (oW hw 81 rfl) (by decide) F3094 (W := 0) (own_rm53 l Z a0 hw [] ob_2968 ob_9 ob_10 ob_2906 in_7 ob_11 ob_2907 kk_12 kk_2908 in_1 in_2 h2984 n0 Z3152 O3070 I640 I647 F3084 I659 N3143 F3015 I68 I77 I670 F3006 I674 F3010 I678 F3013) (by decide) (by decide) (by decide) (by decide) (g := (mkF m 100 #[iv in_1, iv in_2, iv in_3, iv in_4, iv in_5, iv in_6, iv 2, iv 2, rv ob_2906, rv ob_2935, rv ob_2968, rv ob_2992, iv 1] [(.ref ob_9), (.ref ob_2968)])) rfl (by rw [hml]; rfl) (argsL := [(.ref ob_9)]) (rest := []) rfl (lenOf own_pd11 rfl) rfl (by show 2 * 0 + _ ≤ _; exact Nat.le_of_eq rfl) (hb hby at_100)
      refine oS s3160 ?_
      obtain ⟨rfl, N3161, K3162⟩ := q3159
      have N3163 := Fr.app N3136 N3161
      have e3164 := e3158.trans K3162
      show own_G p e below (T3153.setTop (mkF m 103 #[iv in_1, iv in_2, iv in_3, iv in_4, iv in_5, iv in_6, iv 2, iv 2, rv ob_2906, rv ob_2935, rv ob_2968, rv ob_2992, iv 1] [(.int 0)])) _
      refine oS (fun _ => XS.ifYes X3157.here hx rfl (pc0 := 103) (pc' := 108) rfl (hb hby at_103) rfl (XT.i0_eq_t (by decide)) (by decide) (by decide)) ?_
      show own_G p e below (T3153.setTop (mkF m 108 #[iv in_1, iv in_2, iv in_3, iv in_4, iv in_5, iv in_6, iv 2, iv 2, rv ob_2906, rv ob_2935, rv ob_2968, rv ob_2992, iv 1] [])) _
      refine oS (fun _ => XS.aload X3157.here hx rfl (hb hby at_108) rfl rfl) ?_
      refine oS (fun _ => XS.aload X3157.here hx rfl (hb hby at_110) rfl rfl) ?_
      have Z3207 : n0 ≤ h2984.size := by omega
      obtain ⟨T3208, h3209, v3210, L3211, X3212, e3213, q3214, s3215⟩ := own_callV X3157 hx hZ hown e3164 (y := mN13) (z := mN13) (C := cN4) (b := ob_2968) (oW hw 77 rfl) (oW hw 78 rfl) (notFace_of_selects (args := #[]) (mvT hZ (oW hw 80 rfl))) (oW hw 80 rfl) (oW hw 79 rfl) (oW hw 37 rfl) (oW hw 81 rfl) (by decide) F3094 (W := 0) (own_rm59 l Z a0 hw [] ob_2968 ob_2992 ob_2935 ob_2906 in_7 ob_2936 ob_2907 kk_2937 in_1 in_2 kk_2908 h2984 n0 Z3207 O3070 F2996 F2997 F3084 (Ne.symm N3002) F3015 I68 I77 F3008 F3006 F3011 F3010 F3016 F3003 F3013) (by decide) (by decide) (by decide) (by decide) (g := (mkF m 112 #[iv in_1, iv in_2, iv in_3, iv in_4, iv in_5, iv in_6, iv 2, iv 2, rv ob_2906, rv ob_2935, rv ob_2968, rv ob_2992, iv 1] [(.ref ob_2992), (.ref ob_2968)])) rfl (by rw [hml]; rfl) (argsL := [(.ref ob_2992)]) (rest := []) rfl (lenOf own_pd11 rfl) rfl (by show 2 * 0 + _ ≤ _; exact Nat.le_of_eq rfl) (hb hby at_112)
      refine oS s3215 ?_
      obtain ⟨rfl, N3216, K3217⟩ := q3214
      have N3218 := Fr.app N3163 N3216
      have e3219 := e3213.trans K3217
      show own_G p e below (T3208.setTop (mkF m 115 #[iv in_1, iv in_2, iv in_3, iv in_4, iv in_5, iv in_6, iv 2, iv 2, rv ob_2906, rv ob_2935, rv ob_2968, rv ob_2992, iv 1] [(.int 1)])) _
      refine oS (fun _ => XS.iload X3212.here hx rfl (hb hby at_115) rfl) ?_
      refine oS (fun _ => XS.icmpYes X3212.here hx rfl (pc0 := 117) (pc' := 122) rfl (hb hby at_117) rfl (XT.ii_eq_t (by decide)) (by decide) (by decide)) ?_
      show own_G p e below (T3208.setTop (mkF m 122 #[iv in_1, iv in_2, iv in_3, iv in_4, iv in_5, iv in_6, iv 2, iv 2, rv ob_2906, rv ob_2935, rv ob_2968, rv ob_2992, iv 1] [])) _
      refine oS (fun _ => XS.iload X3212.here hx rfl (hb hby at_122) rfl) ?_
      refine oS (fun _ => XS.ifNo X3212.here hx rfl (hb hby at_124) rfl (XT.i0_eq_f (by decide))) ?_
      show own_G p e below (T3208.setTop (mkF m 127 #[iv in_1, iv in_2, iv in_3, iv in_4, iv in_5, iv in_6, iv 2, iv 2, rv ob_2906, rv ob_2935, rv ob_2968, rv ob_2992, iv 1] [])) _
      refine oS (fun _ => XS.aload X3212.here hx rfl (hb hby at_127) rfl rfl) ?_
      have F3220 : Fld Z h2928 ob_2906 cN1 "hash" "I" (.int 0) := F2916.keep K2939 nin0
      have F3221 : Fld Z h2960 ob_2906 cN1 "hash" "I" (.int 0) := F3220.keep K2970 nin0
      have F3222 : Fld Z h2984 ob_2906 cN1 "hash" "I" (.int 0) := F3221.keep K2994 nin0
      have F3223 : Fld Z h2928 ob_2906 cN1 "hashIsZero" "Z" (.int 0) := F2917.keep K2939 nin0
      have F3224 : Fld Z h2960 ob_2906 cN1 "hashIsZero" "Z" (.int 0) := F3223.keep K2970 nin0
      have F3225 : Fld Z h2984 ob_2906 cN1 "hashIsZero" "Z" (.int 0) := F3224.keep K2994 nin0
      have F3278 : Exa Z h2928 ob_2907 "[B" := F2919.keep K2939
      have F3279 : Exa Z h2960 ob_2907 "[B" := F3278.keep K2970
      have F3280 : Exa Z h2984 ob_2907 "[B" := F3279.keep K2994
      have Z3368 : n0 ≤ h2984.size := by omega
      obtain ⟨T3369, h3370, v3371, L3372, X3373, e3374, q3375, s3376⟩ := own_callV X3212 hx hZ hown e3219 (y := mN17) (z := mN17) (C := cN4) (b := ob_2968) (oW hw 84 rfl) (oW hw 85 rfl) (notFace_of_selects (args := #[]) (mvT hZ (oW hw 87 rfl))) (oW hw 87 rfl) (oW hw 86 rfl) (oW hw 37 rfl) (oW hw 88 rfl) (by decide) F3094 (W := 0) (own_rm60 l Z a0 hw [] ob_2968 ob_2906 in_7 ob_2907 kk_2908 in_1 in_2 h2984 n0 Z3368 O3070 F3084 F3222 F3225 I68 I77 F3006 F3015 F3010 F3013 F3280 N3143) (by decide) (by decide) (by decide) (by decide) (g := (mkF m 129 #[iv in_1, iv in_2, iv in_3, iv in_4, iv in_5, iv in_6, iv 2, iv 2, rv ob_2906, rv ob_2935, rv ob_2968, rv ob_2992, iv 1] [(.ref ob_2968)])) rfl (by rw [hml]; rfl) (argsL := []) (rest := []) rfl (lenOf own_pd14 rfl) rfl (by show 2 * 0 + _ ≤ _; exact Nat.le_of_eq rfl) (hb hby at_129)
      refine oS s3376 ?_
      obtain ⟨rfl, N3377, K3378, F3379, F3380, F3381⟩ := q3375
      have N3382 := Fr.app N3218 N3377
      have R3383 : CHr Z own_EL s.vm h0 T2983.vm h3370 := R3000.trans (CHr.keep K3378 (sfS own_safe0 sf0) R3000.1)
      have z3384 := K3378.1
      show own_G p e below (T3369.setTop (mkF m 132 #[iv in_1, iv in_2, iv in_3, iv in_4, iv in_5, iv in_6, iv 2, iv 2, rv ob_2906, rv ob_2935, rv ob_2968, rv ob_2992, iv 1] [(.int (((31 : Int32) * ((0 : Int32) + (((in_1 &&& 255).toInt8.toInt32) &&& 255))) + (((in_2 &&& 255).toInt8.toInt32) &&& 255)))])) _
      refine oS (fun _ => XS.aload X3373.here hx rfl (hb hby at_132) rfl rfl) ?_
      have N3385 : @Ne Nat ob_2992 ob_2906 := by omega
      have F3386 : Fld Z h3370 ob_2992 cN4 "name" cN5 (.ref ob_2935) := F2997.keep K3378 (ninS N3385 nin0)
      have F3387 : Fld Z h2960 ob_2935 cN1 "hash" "I" (.int 0) := F2945.keep K2970 nin0
      have F3388 : Fld Z h2984 ob_2935 cN1 "hash" "I" (.int 0) := F3387.keep K2994 nin0
      have F3389 : Fld Z h3370 ob_2935 cN1 "hash" "I" (.int 0) := F3388.keep K3378 (ninS (Ne.symm N3002) nin0)
      have F3390 : Fld Z h2960 ob_2935 cN1 "hashIsZero" "Z" (.int 0) := F2946.keep K2970 nin0
      have F3391 : Fld Z h2984 ob_2935 cN1 "hashIsZero" "Z" (.int 0) := F3390.keep K2994 nin0
      have F3392 : Fld Z h3370 ob_2935 cN1 "hashIsZero" "Z" (.int 0) := F3391.keep K3378 (ninS (Ne.symm N3002) nin0)
      have F3393 : Fld Z h3370 ob_2935 cN1 "coder" "B" (.int 0) := F3008.keep K3378 (ninS (Ne.symm N3002) nin0)
      have F3394 : Exa Z h3370 ob_2935 cN1 := F3003.keep K3378
      have F3395 : Fld Z h3370 ob_2935 cN1 "value" "[B" (.ref ob_2936) := F3011.keep K3378 (ninS (Ne.symm N3002) nin0)
      have N3396 : @Ne Nat ob_2936 ob_2906 := by omega
      have F3397 : Arv Z h3370 ob_2936 kk_2937 .byte 2 [(.int ((in_1 &&& 255).toInt8.toInt32)), (.int ((in_2 &&& 255).toInt8.toInt32))] (.int 0) := F3016.keep K3378 (ninS N3396 nin0)
      have F3398 : Exa Z h2960 ob_2936 "[B" := F2948.keep K2970
      have F3399 : Exa Z h2984 ob_2936 "[B" := F3398.keep K2994
      have F3400 : Exa Z h3370 ob_2936 "[B" := F3399.keep K3378
      have N3401 : n0 ≤ ob_2935 := by omega
      have O3402 : Old Z n0 h3370 := O3070.keep K3378 (allS N3143 all0)
      have Z3403 : n0 ≤ h3370.size := by omega
      have F3412 : Exa Z h3370 ob_2992 cN4 := F2996.keep K3378
      obtain ⟨T3404, h3405, v3406, L3407, X3408, e3409, q3410, s3411⟩ := own_callV X3373 hx hZ hown e3374 (y := mN17) (z := mN17) (C := cN4) (b := ob_2992) (oW hw 84 rfl) (oW hw 85 rfl) (notFace_of_selects (args := #[]) (mvT hZ (oW hw 87 rfl))) (oW hw 87 rfl) (oW hw 86 rfl) (oW hw 37 rfl) (oW hw 88 rfl) (by decide) F3412 (W := 1) (own_rm60 l Z a0 hw [] ob_2992 ob_2935 in_7 ob_2936 kk_2937 in_1 in_2 h3370 n0 Z3403 O3402 F3386 F3389 F3392 I68 I77 F3393 F3394 F3395 F3397 F3400 N3401) (by decide) (by decide) (by decide) (by decide) (g := (mkF m 134 #[iv in_1, iv in_2, iv in_3, iv in_4, iv in_5, iv in_6, iv 2, iv 2, rv ob_2906, rv ob_2935, rv ob_2968, rv ob_2992, iv 1] [(.ref ob_2992), (.int (((31 : Int32) * ((0 : Int32) + (((in_1 &&& 255).toInt8.toInt32) &&& 255))) + (((in_2 &&& 255).toInt8.toInt32) &&& 255)))])) rfl (by rw [hml]; rfl) (argsL := []) (rest := [(.int (((31 : Int32) * ((0 : Int32) + (((in_1 &&& 255).toInt8.toInt32) &&& 255))) + (((in_2 &&& 255).toInt8.toInt32) &&& 255)))]) rfl (lenOf own_pd14 rfl) rfl (by show 2 * 0 + _ ≤ _; exact Nat.le_of_eq rfl) (hb hby at_134)
      refine oS s3411 ?_
      obtain ⟨rfl, N3413, K3414, F3415, F3416, F3417⟩ := q3410
      have N3418 := Fr.app N3382 N3413
      have R3419 : CHr Z own_EL s.vm h0 T2983.vm h3405 := R3383.trans (CHr.keep K3414 (sfS own_safe0 sf0) R3383.1)
      have z3420 := K3414.1
      show own_G p e below (T3404.setTop (mkF m 137 #[iv in_1, iv in_2, iv in_3, iv in_4, iv in_5, iv in_6, iv 2, iv 2, rv ob_2906, rv ob_2935, rv ob_2968, rv ob_2992, iv 1] [(.int (((31 : Int32) * ((0 : Int32) + (((in_1 &&& 255).toInt8.toInt32) &&& 255))) + (((in_2 &&& 255).toInt8.toInt32) &&& 255))), (.int (((31 : Int32) * ((0 : Int32) + (((in_1 &&& 255).toInt8.toInt32) &&& 255))) + (((in_2 &&& 255).toInt8.toInt32) &&& 255)))])) _
      refine oS (fun _ => XS.icmpYes X3408.here hx rfl (pc0 := 137) (pc' := 142) rfl (hb hby at_137) rfl (XT.ii_eq_t rfl) (by decide) (by decide)) ?_
      show own_G p e below (T3404.setTop (mkF m 142 #[iv in_1, iv in_2, iv in_3, iv in_4, iv in_5, iv in_6, iv 2, iv 2, rv ob_2906, rv ob_2935, rv ob_2968, rv ob_2992, iv 1] [])) _
      refine oS (fun _ => XS.iconst X3408.here hx rfl (hb hby at_142) ) ?_
      have K3421 : Keep h0 h3405 [] := (((((((Keep.refl h0 []).trans K2910 all0).trans K2939 all0).trans K2970 all0).trans K2994 all0).trans K3378 (allS (Or.inr (by omega)) all0)).trans K3414 (allS (Or.inr (by omega)) all0))
      exact own_retNW X3408 hx (t := .boolean) Bd.notSynchronized Bd.returns (by simp) (hb hby at_143) (by decide) hS hZ hEL hh R3419 e3409 (by omega) (by decide) (by decide) (fun hA => ⟨rfl, N3418⟩)
    · skip
      refine own_cast (g' := (mkF m 19 #[iv in_1, iv in_2, iv in_3, iv in_4, iv in_5, iv in_6, iv 2, .unset, .unset, .unset, .unset, .unset, .unset] [(.int 2), (.int 1)])) (by rw [q2513]) ?_
      show own_G p e below (s₁.setTop (mkF m 19 #[iv in_1, iv in_2, iv in_3, iv in_4, iv in_5, iv in_6, iv 2, .unset, .unset, .unset, .unset, .unset, .unset] [(.int 2), (.int 1)])) _
      refine oS (fun _ => XS.iadd X0.here hx rfl (hb hby at_19) rfl) ?_
      refine oS (fun _ => XS.istore X0.here hx rfl (hb hby at_20) rfl (l' := #[iv in_1, iv in_2, iv in_3, iv in_4, iv in_5, iv in_6, iv 2, iv 3, .unset, .unset, .unset, .unset, .unset]) rfl) ?_
      refine oS (fun _ => XS.iload X0.here hx rfl (hb hby at_22) rfl) ?_
      refine oS (fun _ => XS.iloadN X0.here hx rfl (hb hby at_24) rfl) ?_
      show own_G p e below (s₁.setTop (mkF m 25 #[iv in_1, iv in_2, iv in_3, iv in_4, iv in_5, iv in_6, iv 2, iv 3, .unset, .unset, .unset, .unset, .unset] [(.int in_1), (.int 2)])) _
      refine oS (fun _ => XS.iloadN X0.here hx rfl (hb hby at_25) rfl) ?_
      refine oS (fun _ => XS.iloadN X0.here hx rfl (hb hby at_26) rfl) ?_
      obtain ⟨T3422, h3423, v3424, L3425, X3426, e3427, q3428, s3429⟩ := own_callS X0 hx hZ hown e0 (y := mN5) (oW hw 1 rfl) (oW hw 2 rfl) (oW hw 3 rfl) (oW hw 4 rfl) (by decide) (W := 0) (own_rm25 l Z a0 hw [] in_1 in_2 in_3 in_7 h0 n0 Z0 O0 I68 I77) (by decide) (by decide) (by decide) (by decide) (g := (mkF m 27 #[iv in_1, iv in_2, iv in_3, iv in_4, iv in_5, iv in_6, iv 2, iv 3, .unset, .unset, .unset, .unset, .unset] [(.int in_3), (.int in_2), (.int in_1), (.int 2)])) rfl (by rw [hml]; rfl) (argsL := [(.int 2), (.int in_1), (.int in_2), (.int in_3)]) (rest := []) rfl (lenOf own_pd5 rfl) rfl (by show 2 * 0 + _ ≤ _; exact Nat.le_of_eq rfl) (hb hby at_27)
      refine oS s3429 ?_
      obtain ⟨ob_3430, ob_3431, kk_3432, rfl, N3433, K3434, F3435, F3436, F3437, F3438, F3439, F3440, F3441, F3442, F3443, F3444, F3445⟩ := q3428
      have N3446 := Fr.app N0 N3433
      have R3447 : CHr Z own_EL s.vm h0 s.vm h3423 := hR.trans (CHr.keep K3434 sf0 hR.1)
      have z3448 := K3434.1
      show own_G p e below (T3422.setTop (mkF m 30 #[iv in_1, iv in_2, iv in_3, iv in_4, iv in_5, iv in_6, iv 2, iv 3, .unset, .unset, .unset, .unset, .unset] [(.ref ob_3430)])) _
      refine oS (fun _ => XS.astore X3426.here hx rfl (hb hby at_30) rfl rfl (l' := #[iv in_1, iv in_2, iv in_3, iv in_4, iv in_5, iv in_6, iv 2, iv 3, rv ob_3430, .unset, .unset, .unset, .unset]) rfl) ?_
      refine oS (fun _ => XS.iload X3426.here hx rfl (hb hby at_32) rfl) ?_
      refine oS (fun _ => XS.iloadN X3426.here hx rfl (hb hby at_34) rfl) ?_
      refine oS (fun _ => XS.iloadN X3426.here hx rfl (hb hby at_35) rfl) ?_
      show own_G p e below (T3422.setTop (mkF m 36 #[iv in_1, iv in_2, iv in_3, iv in_4, iv in_5, iv in_6, iv 2, iv 3, rv ob_3430, .unset, .unset, .unset, .unset] [(.int in_2), (.int in_1), (.int 3)])) _
      refine oS (fun _ => XS.iloadN X3426.here hx rfl (hb hby at_36) rfl) ?_
      have O3449 : Old Z n0 h3423 := O0.keep K3434 all0
      have Z3450 : n0 ≤ h3423.size := by omega
      obtain ⟨T3451, h3452, v3453, L3454, X3455, e3456, q3457, s3458⟩ := own_callS X3426 hx hZ hown e3427 (y := mN5) (oW hw 1 rfl) (oW hw 2 rfl) (oW hw 3 rfl) (oW hw 4 rfl) (by decide) (W := 0) (own_rm39 l Z a0 hw [] in_1 in_2 in_4 in_7 h3423 n0 Z3450 O3449 I68 I77) (by decide) (by decide) (by decide) (by decide) (g := (mkF m 37 #[iv in_1, iv in_2, iv in_3, iv in_4, iv in_5, iv in_6, iv 2, iv 3, rv ob_3430, .unset, .unset, .unset, .unset] [(.int in_4), (.int in_2), (.int in_1), (.int 3)])) rfl (by rw [hml]; rfl) (argsL := [(.int 3), (.int in_1), (.int in_2), (.int in_4)]) (rest := []) rfl (lenOf own_pd5 rfl) rfl (by show 2 * 0 + _ ≤ _; exact Nat.le_of_eq rfl) (hb hby at_37)
      refine oS s3458 ?_
      obtain ⟨ob_3459, ob_3460, kk_3461, rfl, N3462, K3463, F3464, F3465, F3466, F3467, F3468, F3469, F3470, F3471, F3472, F3473, F3474⟩ := q3457
      have N3475 := Fr.app N3446 N3462
      have R3476 : CHr Z own_EL s.vm h0 s.vm h3452 := R3447.trans (CHr.keep K3463 sf0 R3447.1)
      have z3477 := K3463.1
      show own_G p e below (T3451.setTop (mkF m 40 #[iv in_1, iv in_2, iv in_3, iv in_4, iv in_5, iv in_6, iv 2, iv 3, rv ob_3430, .unset, .unset, .unset, .unset] [(.ref ob_3459)])) _
      refine oS (fun _ => XS.astore X3455.here hx rfl (hb hby at_40) rfl rfl (l' := #[iv in_1, iv in_2, iv in_3, iv in_4, iv in_5, iv in_6, iv 2, iv 3, rv ob_3430, rv ob_3459, .unset, .unset, .unset]) rfl) ?_
      refine oS (fun _ => XS.aload X3455.here hx rfl (hb hby at_42) rfl rfl) ?_
      have F3478 : Exa Z h3452 ob_3430 cN1 := F3437.keep K3463
      have F3479 : Fld Z h3452 ob_3430 cN1 "value" "[B" (.ref ob_3431) := F3439.keep K3463 nin0
      have F3480 : Arv Z h3452 ob_3431 kk_3432 .byte 2 [(.int ((in_1 &&& 255).toInt8.toInt32)), (.int ((in_2 &&& 255).toInt8.toInt32))] (.int 0) := F3442.keep K3463 nin0
      have O3481 : Old Z n0 h3452 := O3449.keep K3463 all0
      have Z3482 : n0 ≤ h3452.size := by omega
      obtain ⟨T3483, h3484, v3485, L3486, X3487, e3488, q3489, hS, hZ, hown, A3490, s3491⟩ := own_callSW X3455 hx hZ hown e3456 (y := mN9) (sf := []) (oW hw 35 rfl) (oW hw 36 rfl) (oW hw 37 rfl) (oW hw 38 rfl) (by decide) hS (by omega) hEL R3476.1 sf0 all0 (W := 0) (own_rm32 l Z a0 hw hEL [] ob_3430 ob_3431 kk_3432 in_1 in_2 h3452 n0 Z3482 O3481 F3478 F3479 F3480) (by decide) (by decide) (by decide) (by decide) (g := (mkF m 44 #[iv in_1, iv in_2, iv in_3, iv in_4, iv in_5, iv in_6, iv 2, iv 3, rv ob_3430, rv ob_3459, .unset, .unset, .unset] [(.ref ob_3430)])) rfl (by rw [hml]; rfl) (argsL := [(.ref ob_3430)]) (rest := []) rfl (lenOf own_pd9 rfl) rfl (by show 2 * 0 + _ ≤ _; exact Nat.le_of_eq rfl) (hb hby at_44)
      refine oS s3491 ?_
      obtain ⟨ob_3492, rfl, N3493, K3494, F3495, F3496, F3497, F3498⟩ := q3489
      have N3499 := Fr.app N3475 N3493
      have R3500 : CHr Z own_EL s.vm h0 T3483.vm h3484 := R3476.trans A3490
      have z3501 := K3494.1
      show own_G p e below (T3483.setTop (mkF m 47 #[iv in_1, iv in_2, iv in_3, iv in_4, iv in_5, iv in_6, iv 2, iv 3, rv ob_3430, rv ob_3459, .unset, .unset, .unset] [(.ref ob_3492)])) _
      refine oS (fun _ => XS.astore X3487.here hx rfl (hb hby at_47) rfl rfl (l' := #[iv in_1, iv in_2, iv in_3, iv in_4, iv in_5, iv in_6, iv 2, iv 3, rv ob_3430, rv ob_3459, rv ob_3492, .unset, .unset]) rfl) ?_
      refine oS (fun _ => XS.aload X3487.here hx rfl (hb hby at_49) rfl rfl) ?_
      have F3502 : Exa Z h3484 ob_3459 cN1 := F3466.keep K3494
      have F3503 : Fld Z h3484 ob_3459 cN1 "value" "[B" (.ref ob_3460) := F3468.keep K3494 nin0
      have F3504 : Arv Z h3484 ob_3460 kk_3461 .byte 3 [(.int ((in_1 &&& 255).toInt8.toInt32)), (.int ((in_2 &&& 255).toInt8.toInt32)), (.int ((in_4 &&& 255).toInt8.toInt32))] (.int 0) := F3471.keep K3494 nin0
      have O3505 : Old Z n0 h3484 := O3481.keep K3494 all0
      have Z3506 : n0 ≤ h3484.size := by omega
      obtain ⟨T3507, h3508, v3509, L3510, X3511, e3512, q3513, hS, hZ, hown, A3514, s3515⟩ := own_callSW X3487 hx hZ hown e3488 (y := mN9) (sf := []) (oW hw 35 rfl) (oW hw 36 rfl) (oW hw 37 rfl) (oW hw 38 rfl) (by decide) hS (by omega) hEL R3500.1 sf0 all0 (W := 0) (own_rm46 l Z a0 hw hEL [] ob_3459 ob_3460 kk_3461 in_1 in_2 in_4 h3484 n0 Z3506 O3505 F3502 F3503 F3504) (by decide) (by decide) (by decide) (by decide) (g := (mkF m 51 #[iv in_1, iv in_2, iv in_3, iv in_4, iv in_5, iv in_6, iv 2, iv 3, rv ob_3430, rv ob_3459, rv ob_3492, .unset, .unset] [(.ref ob_3459)])) rfl (by rw [hml]; rfl) (argsL := [(.ref ob_3459)]) (rest := []) rfl (lenOf own_pd9 rfl) rfl (by show 2 * 0 + _ ≤ _; exact Nat.le_of_eq rfl) (hb hby at_51)
      refine oS s3515 ?_
      obtain ⟨ob_3516, rfl, N3517, K3518, F3519, F3520, F3521, F3522⟩ := q3513
      have N3523 := Fr.app N3499 N3517
      have R3524 : CHr Z own_EL s.vm h0 T3507.vm h3508 := R3500.trans A3514
      have z3525 := K3518.1
      show own_G p e below (T3507.setTop (mkF m 54 #[iv in_1, iv in_2, iv in_3, iv in_4, iv in_5, iv in_6, iv 2, iv 3, rv ob_3430, rv ob_3459, rv ob_3492, .unset, .unset] [(.ref ob_3516)])) _
      refine oS (fun _ => XS.astore X3511.here hx rfl (hb hby at_54) rfl rfl (l' := #[iv in_1, iv in_2, iv in_3, iv in_4, iv in_5, iv in_6, iv 2, iv 3, rv ob_3430, rv ob_3459, rv ob_3492, rv ob_3516, .unset]) rfl) ?_
      refine oS (fun _ => XS.aload X3511.here hx rfl (hb hby at_56) rfl rfl) ?_
      refine oS (fun _ => XS.aload X3511.here hx rfl (hb hby at_58) rfl rfl) ?_
      have N3526 : @Ne Nat ob_3430 ob_3459 := by omega
      have F3527 : Exa Z h3508 ob_3459 cN1 := F3502.keep K3518
      have F3528 : Fld Z h3452 ob_3430 cN1 "coder" "B" (.int 0) := F3438.keep K3463 nin0
      have F3529 : Fld Z h3484 ob_3430 cN1 "coder" "B" (.int 0) := F3528.keep K3494 nin0
      have F3530 : Fld Z h3508 ob_3430 cN1 "coder" "B" (.int 0) := F3529.keep K3518 nin0
      have F3531 : Fld Z h3484 ob_3459 cN1 "coder" "B" (.int 0) := F3467.keep K3494 nin0
      have F3532 : Fld Z h3508 ob_3459 cN1 "coder" "B" (.int 0) := F3531.keep K3518 nin0
      have F3533 : Fld Z h3484 ob_3430 cN1 "value" "[B" (.ref ob_3431) := F3479.keep K3494 nin0
      have F3534 : Fld Z h3508 ob_3430 cN1 "value" "[B" (.ref ob_3431) := F3533.keep K3518 nin0
      have F3535 : Fld Z h3508 ob_3459 cN1 "value" "[B" (.ref ob_3460) := F3503.keep K3518 nin0
      have F3536 : Arv Z h3484 ob_3431 kk_3432 .byte 2 [(.int ((in_1 &&& 255).toInt8.toInt32)), (.int ((in_2 &&& 255).toInt8.toInt32))] (.int 0) := F3480.keep K3494 nin0
      have F3537 : Arv Z h3508 ob_3431 kk_3432 .byte 2 [(.int ((in_1 &&& 255).toInt8.toInt32)), (.int ((in_2 &&& 255).toInt8.toInt32))] (.int 0) := F3536.keep K3518 nin0
      have F3538 : Exa Z h3484 ob_3430 cN1 := F3478.keep K3494
      have F3539 : Exa Z h3508 ob_3430 cN1 := F3538.keep K3518
      have F3540 : Arv Z h3508 ob_3460 kk_3461 .byte 3 [(.int ((in_1 &&& 255).toInt8.toInt32)), (.int ((in_2 &&& 255).toInt8.toInt32)), (.int ((in_4 &&& 255).toInt8.toInt32))] (.int 0) := F3504.keep K3518 nin0
      have O3594 : Old Z n0 h3508 := O3505.keep K3518 all0
      have Z3595 : n0 ≤ h3508.size := by omega
      obtain ⟨T3596, h3597, v3598, L3599, X3600, e3601, q3602, s3603⟩ := own_callV X3511 hx hZ hown e3512 (y := mN11) (z := mN11) (C := cN1) (b := ob_3430) (oW hw 60 rfl) (oW hw 61 rfl) (notFace_of_selects (args := #[]) (mvT hZ (oW hw 63 rfl))) (oW hw 63 rfl) (oW hw 62 rfl) (oW hw 8 rfl) (oW hw 64 rfl) (by decide) F3539 (W := 0) (own_rm65 l Z a0 hw [] ob_3430 ob_3459 in_7 ob_3431 ob_3460 kk_3432 in_1 in_2 kk_3461 in_4 h3508 n0 Z3595 O3594 N3526 F3527 I68 I77 F3530 F3532 F3534 F3535 F3537 F3540) (by decide) (by decide) (by decide) (by decide) (g := (mkF m 60 #[iv in_1, iv in_2, iv in_3, iv in_4, iv in_5, iv in_6, iv 2, iv 3, rv ob_3430, rv ob_3459, rv ob_3492, rv ob_3516, .unset] [(.ref ob_3459), (.ref ob_3430)])) rfl (by rw [hml]; rfl) (argsL := [(.ref ob_3459)]) (rest := []) rfl (lenOf own_pd11 rfl) rfl (by show 2 * 0 + _ ≤ _; exact Nat.le_of_eq rfl) (hb hby at_60)
      refine oS s3603 ?_
      obtain ⟨rfl, N3604, K3605⟩ := q3602
      have N3606 := Fr.app N3523 N3604
      have e3607 := e3601.trans K3605
      show own_G p e below (T3596.setTop (mkF m 63 #[iv in_1, iv in_2, iv in_3, iv in_4, iv in_5, iv in_6, iv 2, iv 3, rv ob_3430, rv ob_3459, rv ob_3492, rv ob_3516, .unset] [(.int 0)])) _
      refine oS (fun _ => XS.istore X3600.here hx rfl (hb hby at_63) rfl (l' := #[iv in_1, iv in_2, iv in_3, iv in_4, iv in_5, iv in_6, iv 2, iv 3, rv ob_3430, rv ob_3459, rv ob_3492, rv ob_3516, iv 0]) rfl) ?_
      refine oS (fun _ => XS.aload X3600.here hx rfl (hb hby at_65) rfl rfl) ?_
      have F3608 : Fld Z h3508 ob_3492 cN4 "name" cN5 (.ref ob_3430) := F3497.keep K3518 nin0
      have Z3609 : n0 ≤ h3508.size := by omega
      have F3618 : Exa Z h3508 ob_3492 cN4 := F3496.keep K3518
      obtain ⟨T3610, h3611, v3612, L3613, X3614, e3615, q3616, s3617⟩ := own_callV X3600 hx hZ hown e3607 (y := mN12) (z := mN12) (C := cN4) (b := ob_3492) (oW hw 70 rfl) (oW hw 71 rfl) (notFace_of_selects (args := #[]) (mvT hZ (oW hw 73 rfl))) (oW hw 73 rfl) (oW hw 72 rfl) (oW hw 37 rfl) (oW hw 74 rfl) (by decide) F3618 (W := 0) (own_rm15 l Z a0 hw [] ob_3492 ob_3430 h3508 n0 Z3609 O3594 F3608) (by decide) (by decide) (by decide) (by decide) (g := (mkF m 67 #[iv in_1, iv in_2, iv in_3, iv in_4, iv in_5, iv in_6, iv 2, iv 3, rv ob_3430, rv ob_3459, rv ob_3492, rv ob_3516, iv 0] [(.ref ob_3492)])) rfl (by rw [hml]; rfl) (argsL := []) (rest := []) rfl (lenOf own_pd12 rfl) rfl (by show 2 * 0 + _ ≤ _; exact Nat.le_of_eq rfl) (hb hby at_67)
      refine oS s3617 ?_
      obtain ⟨rfl, N3619, K3620⟩ := q3616
      have N3621 := Fr.app N3606 N3619
      have e3622 := e3615.trans K3620
      show own_G p e below (T3610.setTop (mkF m 70 #[iv in_1, iv in_2, iv in_3, iv in_4, iv in_5, iv in_6, iv 2, iv 3, rv ob_3430, rv ob_3459, rv ob_3492, rv ob_3516, iv 0] [(.ref ob_3430)])) _
      refine oS (fun _ => XS.aload X3614.here hx rfl (hb hby at_70) rfl rfl) ?_
      have Z3623 : n0 ≤ h3508.size := by omega
      obtain ⟨T3624, h3625, v3626, L3627, X3628, e3629, q3630, s3631⟩ := own_callV X3614 hx hZ hown e3622 (y := mN11) (z := mN11) (C := cN1) (b := ob_3430) (oW hw 60 rfl) (oW hw 61 rfl) (notFace_of_selects (args := #[]) (mvT hZ (oW hw 63 rfl))) (oW hw 63 rfl) (oW hw 62 rfl) (oW hw 8 rfl) (oW hw 64 rfl) (by decide) F3539 (W := 0) (own_rm16 l Z a0 hw [] ob_3430 h3508 n0 Z3623 O3594 ) (by decide) (by decide) (by decide) (by decide) (g := (mkF m 72 #[iv in_1, iv in_2, iv in_3, iv in_4, iv in_5, iv in_6, iv 2, iv 3, rv ob_3430, rv ob_3459, rv ob_3492, rv ob_3516, iv 0] [(.ref ob_3430), (.ref ob_3430)])) rfl (by rw [hml]; rfl) (argsL := [(.ref ob_3430)]) (rest := []) rfl (lenOf own_pd11 rfl) rfl (by show 2 * 0 + _ ≤ _; exact Nat.le_of_eq rfl) (hb hby at_72)
      refine oS s3631 ?_
      obtain ⟨rfl, N3632, K3633⟩ := q3630
      have N3634 := Fr.app N3621 N3632
      have e3635 := e3629.trans K3633
      show own_G p e below (T3624.setTop (mkF m 75 #[iv in_1, iv in_2, iv in_3, iv in_4, iv in_5, iv in_6, iv 2, iv 3, rv ob_3430, rv ob_3459, rv ob_3492, rv ob_3516, iv 0] [(.int 1)])) _
      refine oS (fun _ => XS.ifYes X3628.here hx rfl (pc0 := 75) (pc' := 80) rfl (hb hby at_75) rfl (XT.i0_ne_t (by decide)) (by decide) (by decide)) ?_
      show own_G p e below (T3624.setTop (mkF m 80 #[iv in_1, iv in_2, iv in_3, iv in_4, iv in_5, iv in_6, iv 2, iv 3, rv ob_3430, rv ob_3459, rv ob_3492, rv ob_3516, iv 0] [])) _
      refine oS (fun _ => XS.aload X3628.here hx rfl (hb hby at_80) rfl rfl) ?_
      have Z3636 : n0 ≤ h3508.size := by omega
      obtain ⟨T3637, h3638, v3639, L3640, X3641, e3642, q3643, s3644⟩ := own_callV X3628 hx hZ hown e3635 (y := mN12) (z := mN12) (C := cN4) (b := ob_3516) (oW hw 70 rfl) (oW hw 71 rfl) (notFace_of_selects (args := #[]) (mvT hZ (oW hw 73 rfl))) (oW hw 73 rfl) (oW hw 72 rfl) (oW hw 37 rfl) (oW hw 74 rfl) (by decide) F3520 (W := 0) (own_rm15 l Z a0 hw [] ob_3516 ob_3459 h3508 n0 Z3636 O3594 F3521) (by decide) (by decide) (by decide) (by decide) (g := (mkF m 82 #[iv in_1, iv in_2, iv in_3, iv in_4, iv in_5, iv in_6, iv 2, iv 3, rv ob_3430, rv ob_3459, rv ob_3492, rv ob_3516, iv 0] [(.ref ob_3516)])) rfl (by rw [hml]; rfl) (argsL := []) (rest := []) rfl (lenOf own_pd12 rfl) rfl (by show 2 * 0 + _ ≤ _; exact Nat.le_of_eq rfl) (hb hby at_82)
      refine oS s3644 ?_
      obtain ⟨rfl, N3645, K3646⟩ := q3643
      have N3647 := Fr.app N3634 N3645
      have e3648 := e3642.trans K3646
      show own_G p e below (T3637.setTop (mkF m 85 #[iv in_1, iv in_2, iv in_3, iv in_4, iv in_5, iv in_6, iv 2, iv 3, rv ob_3430, rv ob_3459, rv ob_3492, rv ob_3516, iv 0] [(.ref ob_3459)])) _
      refine oS (fun _ => XS.aload X3641.here hx rfl (hb hby at_85) rfl rfl) ?_
      have Z3649 : n0 ≤ h3508.size := by omega
      obtain ⟨T3650, h3651, v3652, L3653, X3654, e3655, q3656, s3657⟩ := own_callV X3641 hx hZ hown e3648 (y := mN11) (z := mN11) (C := cN1) (b := ob_3459) (oW hw 60 rfl) (oW hw 61 rfl) (notFace_of_selects (args := #[]) (mvT hZ (oW hw 63 rfl))) (oW hw 63 rfl) (oW hw 62 rfl) (oW hw 8 rfl) (oW hw 64 rfl) (by decide) F3527 (W := 0) (own_rm16 l Z a0 hw [] ob_3459 h3508 n0 Z3649 O3594 ) (by decide) (by decide) (by decide) (by decide) (g := (mkF m 87 #[iv in_1, iv in_2, iv in_3, iv in_4, iv in_5, iv in_6, iv 2, iv 3, rv ob_3430, rv ob_3459, rv ob_3492, rv ob_3516, iv 0] [(.ref ob_3459), (.ref ob_3459)])) rfl (by rw [hml]; rfl) (argsL := [(.ref ob_3459)]) (rest := []) rfl (lenOf own_pd11 rfl) rfl (by show 2 * 0 + _ ≤ _; exact Nat.le_of_eq rfl) (hb hby at_87)
      refine oS s3657 ?_
      obtain ⟨rfl, N3658, K3659⟩ := q3656
      have N3660 := Fr.app N3647 N3658
      have e3661 := e3655.trans K3659
      show own_G p e below (T3650.setTop (mkF m 90 #[iv in_1, iv in_2, iv in_3, iv in_4, iv in_5, iv in_6, iv 2, iv 3, rv ob_3430, rv ob_3459, rv ob_3492, rv ob_3516, iv 0] [(.int 1)])) _
      refine oS (fun _ => XS.ifYes X3654.here hx rfl (pc0 := 90) (pc' := 95) rfl (hb hby at_90) rfl (XT.i0_ne_t (by decide)) (by decide) (by decide)) ?_
      show own_G p e below (T3650.setTop (mkF m 95 #[iv in_1, iv in_2, iv in_3, iv in_4, iv in_5, iv in_6, iv 2, iv 3, rv ob_3430, rv ob_3459, rv ob_3492, rv ob_3516, iv 0] [])) _
      refine oS (fun _ => XS.aload X3654.here hx rfl (hb hby at_95) rfl rfl) ?_
      have F3662 : Sta Z h3508 cN4 "NONE" cN8 (.ref ob_9) := Sta.ext O3594.2 I630
      obtain ⟨T3663, X3664, e3665, s3666⟩ := getS X3654 hx hZ hown (host := "") (oW hw 75 rfl) Via.refl e3661 F3662 (g := (mkF m 97 #[iv in_1, iv in_2, iv in_3, iv in_4, iv in_5, iv in_6, iv 2, iv 3, rv ob_3430, rv ob_3459, rv ob_3492, rv ob_3516, iv 0] [(.ref ob_3492)])) rfl (hb hby at_97)
      refine oS s3666 ?_
      show own_G p e below (T3663.setTop (mkF m 100 #[iv in_1, iv in_2, iv in_3, iv in_4, iv in_5, iv in_6, iv 2, iv 3, rv ob_3430, rv ob_3459, rv ob_3492, rv ob_3516, iv 0] [(.ref ob_9), (.ref ob_3492)])) _
      have N3667 : n0 ≤ ob_3430 := by omega
      have F3668 : Exa Z h3508 ob_9 cN4 := Exa.ext O3594.2 I640
      have F3669 : Fld Z h3508 ob_9 cN4 "name" cN5 (.ref ob_10) := Fld.ext O3594.2 I647
      have y3670 : @LT.lt Nat instLTNat ob_10 Z.heap.size := I659.lt
      have y3671 : Z.heap.size = n0 := O0.1
      have N3672 : @Ne Nat ob_10 ob_3430 := by omega
      have F3673 : Fld Z h3508 ob_10 cN1 "coder" "B" (.int 0) := Fld.ext O3594.2 I670
      have F3674 : Fld Z h3508 ob_10 cN1 "value" "[B" (.ref ob_11) := Fld.ext O3594.2 I674
      have F3675 : Arv Z h3508 ob_11 kk_12 FieldType.byte 0 [] (.int 0) := I678.ext O3594.2
      have Z3676 : n0 ≤ h3508.size := by omega
      obtain ⟨T3677, h3678, v3679, L3680, X3681, e3682, q3683, s3684⟩ := own_callV X3664 hx hZ hown e3665 (y := mN13) (z := mN13) (C := cN4) (b := ob_3492) (oW hw 77 rfl) (oW hw 78 rfl) (notFace_of_selects (args := #[]) (mvT hZ (oW hw 80 rfl))) (oW hw 80 rfl) (oW hw 79 rfl) (oW hw 37 rfl) (oW hw 81 rfl) (by decide) F3618 (W := 0) (own_rm53 l Z a0 hw [] ob_3492 ob_9 ob_10 ob_3430 in_7 ob_11 ob_3431 kk_12 kk_3432 in_1 in_2 h3508 n0 Z3676 O3594 I640 I647 F3608 I659 N3667 F3539 I68 I77 I670 F3530 I674 F3534 I678 F3537) (by decide) (by decide) (by decide) (by decide) (g := (mkF m 100 #[iv in_1, iv in_2, iv in_3, iv in_4, iv in_5, iv in_6, iv 2, iv 3, rv ob_3430, rv ob_3459, rv ob_3492, rv ob_3516, iv 0] [(.ref ob_9), (.ref ob_3492)])) rfl (by rw [hml]; rfl) (argsL := [(.ref ob_9)]) (rest := []) rfl (lenOf own_pd11 rfl) rfl (by show 2 * 0 + _ ≤ _; exact Nat.le_of_eq rfl) (hb hby at_100)
      refine oS s3684 ?_
      obtain ⟨rfl, N3685, K3686⟩ := q3683
      have N3687 := Fr.app N3660 N3685
      have e3688 := e3682.trans K3686
      show own_G p e below (T3677.setTop (mkF m 103 #[iv in_1, iv in_2, iv in_3, iv in_4, iv in_5, iv in_6, iv 2, iv 3, rv ob_3430, rv ob_3459, rv ob_3492, rv ob_3516, iv 0] [(.int 0)])) _
      refine oS (fun _ => XS.ifYes X3681.here hx rfl (pc0 := 103) (pc' := 108) rfl (hb hby at_103) rfl (XT.i0_eq_t (by decide)) (by decide) (by decide)) ?_
      show own_G p e below (T3677.setTop (mkF m 108 #[iv in_1, iv in_2, iv in_3, iv in_4, iv in_5, iv in_6, iv 2, iv 3, rv ob_3430, rv ob_3459, rv ob_3492, rv ob_3516, iv 0] [])) _
      refine oS (fun _ => XS.aload X3681.here hx rfl (hb hby at_108) rfl rfl) ?_
      refine oS (fun _ => XS.aload X3681.here hx rfl (hb hby at_110) rfl rfl) ?_
      have Z3784 : n0 ≤ h3508.size := by omega
      obtain ⟨T3785, h3786, v3787, L3788, X3789, e3790, q3791, s3792⟩ := own_callV X3681 hx hZ hown e3688 (y := mN13) (z := mN13) (C := cN4) (b := ob_3492) (oW hw 77 rfl) (oW hw 78 rfl) (notFace_of_selects (args := #[]) (mvT hZ (oW hw 80 rfl))) (oW hw 80 rfl) (oW hw 79 rfl) (oW hw 37 rfl) (oW hw 81 rfl) (by decide) F3618 (W := 0) (own_rm67 l Z a0 hw [] ob_3492 ob_3516 ob_3459 ob_3430 in_7 ob_3460 ob_3431 kk_3461 in_1 in_2 in_4 kk_3432 h3508 n0 Z3784 O3594 F3520 F3521 F3608 (Ne.symm N3526) F3539 I68 I77 F3532 F3530 F3535 F3534 F3540 F3527 F3537) (by decide) (by decide) (by decide) (by decide) (g := (mkF m 112 #[iv in_1, iv in_2, iv in_3, iv in_4, iv in_5, iv in_6, iv 2, iv 3, rv ob_3430, rv ob_3459, rv ob_3492, rv ob_3516, iv 0] [(.ref ob_3516), (.ref ob_3492)])) rfl (by rw [hml]; rfl) (argsL := [(.ref ob_3516)]) (rest := []) rfl (lenOf own_pd11 rfl) rfl (by show 2 * 0 + _ ≤ _; exact Nat.le_of_eq rfl) (hb hby at_112)
      refine oS s3792 ?_
      obtain ⟨rfl, N3793, K3794⟩ := q3791
      have N3795 := Fr.app N3687 N3793
      have e3796 := e3790.trans K3794
      show own_G p e below (T3785.setTop (mkF m 115 #[iv in_1, iv in_2, iv in_3, iv in_4, iv in_5, iv in_6, iv 2, iv 3, rv ob_3430, rv ob_3459, rv ob_3492, rv ob_3516, iv 0] [(.int 0)])) _
      refine oS (fun _ => XS.iload X3789.here hx rfl (hb hby at_115) rfl) ?_
      refine oS (fun _ => XS.icmpYes X3789.here hx rfl (pc0 := 117) (pc' := 122) rfl (hb hby at_117) rfl (XT.ii_eq_t (by decide)) (by decide) (by decide)) ?_
      show own_G p e below (T3785.setTop (mkF m 122 #[iv in_1, iv in_2, iv in_3, iv in_4, iv in_5, iv in_6, iv 2, iv 3, rv ob_3430, rv ob_3459, rv ob_3492, rv ob_3516, iv 0] [])) _
      refine oS (fun _ => XS.iload X3789.here hx rfl (hb hby at_122) rfl) ?_
      refine oS (fun _ => XS.ifYes X3789.here hx rfl (pc0 := 124) (pc' := 142) rfl (hb hby at_124) rfl (XT.i0_eq_t (by decide)) (by decide) (by decide)) ?_
      show own_G p e below (T3785.setTop (mkF m 142 #[iv in_1, iv in_2, iv in_3, iv in_4, iv in_5, iv in_6, iv 2, iv 3, rv ob_3430, rv ob_3459, rv ob_3492, rv ob_3516, iv 0] [])) _
      refine oS (fun _ => XS.iconst X3789.here hx rfl (hb hby at_142) ) ?_
      have K3797 : Keep h0 h3508 [] := (((((Keep.refl h0 []).trans K3434 all0).trans K3463 all0).trans K3494 all0).trans K3518 all0)
      exact own_retNW X3789 hx (t := .boolean) Bd.notSynchronized Bd.returns (by simp) (hb hby at_143) (by decide) hS hZ hEL hh R3524 e3796 (by omega) (by decide) (by decide) (fun hA => ⟨rfl, N3795⟩)
  · skip
    refine own_cast (g' := (mkF m 8 #[iv in_1, iv in_2, iv in_3, iv in_4, iv in_5, iv in_6, .unset, .unset, .unset, .unset, .unset, .unset, .unset] [(.int 2), (.int 1)])) (by rw [q15]) ?_
    show own_G p e below (s₁.setTop (mkF m 8 #[iv in_1, iv in_2, iv in_3, iv in_4, iv in_5, iv in_6, .unset, .unset, .unset, .unset, .unset, .unset, .unset] [(.int 2), (.int 1)])) _
    refine oS (fun _ => XS.iadd X0.here hx rfl (hb hby at_8) rfl) ?_
    refine oS (fun _ => XS.istore X0.here hx rfl (hb hby at_9) rfl (l' := #[iv in_1, iv in_2, iv in_3, iv in_4, iv in_5, iv in_6, iv 3, .unset, .unset, .unset, .unset, .unset, .unset]) rfl) ?_
    refine oS (fun _ => XS.iconst X0.here hx rfl (hb hby at_11) ) ?_
    refine oS (fun _ => XS.iload X0.here hx rfl (hb hby at_12) rfl) ?_
    show own_G p e below (s₁.setTop (mkF m 14 #[iv in_1, iv in_2, iv in_3, iv in_4, iv in_5, iv in_6, iv 3, .unset, .unset, .unset, .unset, .unset, .unset] [(.int in_6), (.int 1)])) _
    refine oS (fun _ => X0.ldcI hx hown (mvT hZ (oW hw 0 rfl)) rfl (hb hby at_14)) ?_
    show own_G p e below (s₁.setTop (mkF m 16 #[iv in_1, iv in_2, iv in_3, iv in_4, iv in_5, iv in_6, iv 3, .unset, .unset, .unset, .unset, .unset, .unset] [(.int 2147483647), (.int in_6), (.int 1)])) _
    refine oS (fun _ => XS.iand X0.here hx rfl (hb hby at_16) rfl) ?_
    refine oS (fun _ => XS.iconst X0.here hx rfl (hb hby at_17) ) ?_
    refine oS (fun _ => iremM X0 hx rfl (hb hby at_18) rfl (by decide)) ?_
    show own_G p e below (s₁.setTop (mkF m 19 #[iv in_1, iv in_2, iv in_3, iv in_4, iv in_5, iv in_6, iv 3, .unset, .unset, .unset, .unset, .unset, .unset] [(.int ((in_6 &&& 2147483647) % 3)), (.int 1)])) _
    rcases own_in3 (own_modlt in_6 3 (by decide)) with q3798 | q3799 | q3800
    · skip
      refine own_cast (g' := (mkF m 19 #[iv in_1, iv in_2, iv in_3, iv in_4, iv in_5, iv in_6, iv 3, .unset, .unset, .unset, .unset, .unset, .unset] [(.int 0), (.int 1)])) (by rw [q3798]) ?_
      show own_G p e below (s₁.setTop (mkF m 19 #[iv in_1, iv in_2, iv in_3, iv in_4, iv in_5, iv in_6, iv 3, .unset, .unset, .unset, .unset, .unset, .unset] [(.int 0), (.int 1)])) _
      refine oS (fun _ => XS.iadd X0.here hx rfl (hb hby at_19) rfl) ?_
      refine oS (fun _ => XS.istore X0.here hx rfl (hb hby at_20) rfl (l' := #[iv in_1, iv in_2, iv in_3, iv in_4, iv in_5, iv in_6, iv 3, iv 1, .unset, .unset, .unset, .unset, .unset]) rfl) ?_
      refine oS (fun _ => XS.iload X0.here hx rfl (hb hby at_22) rfl) ?_
      refine oS (fun _ => XS.iloadN X0.here hx rfl (hb hby at_24) rfl) ?_
      show own_G p e below (s₁.setTop (mkF m 25 #[iv in_1, iv in_2, iv in_3, iv in_4, iv in_5, iv in_6, iv 3, iv 1, .unset, .unset, .unset, .unset, .unset] [(.int in_1), (.int 3)])) _
      refine oS (fun _ => XS.iloadN X0.here hx rfl (hb hby at_25) rfl) ?_
      refine oS (fun _ => XS.iloadN X0.here hx rfl (hb hby at_26) rfl) ?_
      obtain ⟨T3801, h3802, v3803, L3804, X3805, e3806, q3807, s3808⟩ := own_callS X0 hx hZ hown e0 (y := mN5) (oW hw 1 rfl) (oW hw 2 rfl) (oW hw 3 rfl) (oW hw 4 rfl) (by decide) (W := 0) (own_rm39 l Z a0 hw [] in_1 in_2 in_3 in_7 h0 n0 Z0 O0 I68 I77) (by decide) (by decide) (by decide) (by decide) (g := (mkF m 27 #[iv in_1, iv in_2, iv in_3, iv in_4, iv in_5, iv in_6, iv 3, iv 1, .unset, .unset, .unset, .unset, .unset] [(.int in_3), (.int in_2), (.int in_1), (.int 3)])) rfl (by rw [hml]; rfl) (argsL := [(.int 3), (.int in_1), (.int in_2), (.int in_3)]) (rest := []) rfl (lenOf own_pd5 rfl) rfl (by show 2 * 0 + _ ≤ _; exact Nat.le_of_eq rfl) (hb hby at_27)
      refine oS s3808 ?_
      obtain ⟨ob_3809, ob_3810, kk_3811, rfl, N3812, K3813, F3814, F3815, F3816, F3817, F3818, F3819, F3820, F3821, F3822, F3823, F3824⟩ := q3807
      have N3825 := Fr.app N0 N3812
      have R3826 : CHr Z own_EL s.vm h0 s.vm h3802 := hR.trans (CHr.keep K3813 sf0 hR.1)
      have z3827 := K3813.1
      show own_G p e below (T3801.setTop (mkF m 30 #[iv in_1, iv in_2, iv in_3, iv in_4, iv in_5, iv in_6, iv 3, iv 1, .unset, .unset, .unset, .unset, .unset] [(.ref ob_3809)])) _
      refine oS (fun _ => XS.astore X3805.here hx rfl (hb hby at_30) rfl rfl (l' := #[iv in_1, iv in_2, iv in_3, iv in_4, iv in_5, iv in_6, iv 3, iv 1, rv ob_3809, .unset, .unset, .unset, .unset]) rfl) ?_
      refine oS (fun _ => XS.iload X3805.here hx rfl (hb hby at_32) rfl) ?_
      refine oS (fun _ => XS.iloadN X3805.here hx rfl (hb hby at_34) rfl) ?_
      refine oS (fun _ => XS.iloadN X3805.here hx rfl (hb hby at_35) rfl) ?_
      show own_G p e below (T3801.setTop (mkF m 36 #[iv in_1, iv in_2, iv in_3, iv in_4, iv in_5, iv in_6, iv 3, iv 1, rv ob_3809, .unset, .unset, .unset, .unset] [(.int in_2), (.int in_1), (.int 1)])) _
      refine oS (fun _ => XS.iloadN X3805.here hx rfl (hb hby at_36) rfl) ?_
      have O3828 : Old Z n0 h3802 := O0.keep K3813 all0
      have Z3829 : n0 ≤ h3802.size := by omega
      obtain ⟨T3830, h3831, v3832, L3833, X3834, e3835, q3836, s3837⟩ := own_callS X3805 hx hZ hown e3806 (y := mN5) (oW hw 1 rfl) (oW hw 2 rfl) (oW hw 3 rfl) (oW hw 4 rfl) (by decide) (W := 0) (own_rm2 l Z a0 hw [] in_1 in_2 in_4 in_7 h3802 n0 Z3829 O3828 I68 I77) (by decide) (by decide) (by decide) (by decide) (g := (mkF m 37 #[iv in_1, iv in_2, iv in_3, iv in_4, iv in_5, iv in_6, iv 3, iv 1, rv ob_3809, .unset, .unset, .unset, .unset] [(.int in_4), (.int in_2), (.int in_1), (.int 1)])) rfl (by rw [hml]; rfl) (argsL := [(.int 1), (.int in_1), (.int in_2), (.int in_4)]) (rest := []) rfl (lenOf own_pd5 rfl) rfl (by show 2 * 0 + _ ≤ _; exact Nat.le_of_eq rfl) (hb hby at_37)
      refine oS s3837 ?_
      obtain ⟨ob_3838, ob_3839, kk_3840, rfl, N3841, K3842, F3843, F3844, F3845, F3846, F3847, F3848, F3849, F3850, F3851, F3852, F3853⟩ := q3836
      have N3854 := Fr.app N3825 N3841
      have R3855 : CHr Z own_EL s.vm h0 s.vm h3831 := R3826.trans (CHr.keep K3842 sf0 R3826.1)
      have z3856 := K3842.1
      show own_G p e below (T3830.setTop (mkF m 40 #[iv in_1, iv in_2, iv in_3, iv in_4, iv in_5, iv in_6, iv 3, iv 1, rv ob_3809, .unset, .unset, .unset, .unset] [(.ref ob_3838)])) _
      refine oS (fun _ => XS.astore X3834.here hx rfl (hb hby at_40) rfl rfl (l' := #[iv in_1, iv in_2, iv in_3, iv in_4, iv in_5, iv in_6, iv 3, iv 1, rv ob_3809, rv ob_3838, .unset, .unset, .unset]) rfl) ?_
      refine oS (fun _ => XS.aload X3834.here hx rfl (hb hby at_42) rfl rfl) ?_
      have F3857 : Exa Z h3831 ob_3809 cN1 := F3816.keep K3842
      have F3858 : Fld Z h3831 ob_3809 cN1 "value" "[B" (.ref ob_3810) := F3818.keep K3842 nin0
      have F3859 : Arv Z h3831 ob_3810 kk_3811 .byte 3 [(.int ((in_1 &&& 255).toInt8.toInt32)), (.int ((in_2 &&& 255).toInt8.toInt32)), (.int ((in_3 &&& 255).toInt8.toInt32))] (.int 0) := F3821.keep K3842 nin0
      have O3860 : Old Z n0 h3831 := O3828.keep K3842 all0
      have Z3861 : n0 ≤ h3831.size := by omega
      obtain ⟨T3862, h3863, v3864, L3865, X3866, e3867, q3868, hS, hZ, hown, A3869, s3870⟩ := own_callSW X3834 hx hZ hown e3835 (y := mN9) (sf := []) (oW hw 35 rfl) (oW hw 36 rfl) (oW hw 37 rfl) (oW hw 38 rfl) (by decide) hS (by omega) hEL R3855.1 sf0 all0 (W := 0) (own_rm46 l Z a0 hw hEL [] ob_3809 ob_3810 kk_3811 in_1 in_2 in_3 h3831 n0 Z3861 O3860 F3857 F3858 F3859) (by decide) (by decide) (by decide) (by decide) (g := (mkF m 44 #[iv in_1, iv in_2, iv in_3, iv in_4, iv in_5, iv in_6, iv 3, iv 1, rv ob_3809, rv ob_3838, .unset, .unset, .unset] [(.ref ob_3809)])) rfl (by rw [hml]; rfl) (argsL := [(.ref ob_3809)]) (rest := []) rfl (lenOf own_pd9 rfl) rfl (by show 2 * 0 + _ ≤ _; exact Nat.le_of_eq rfl) (hb hby at_44)
      refine oS s3870 ?_
      obtain ⟨ob_3871, rfl, N3872, K3873, F3874, F3875, F3876, F3877⟩ := q3868
      have N3878 := Fr.app N3854 N3872
      have R3879 : CHr Z own_EL s.vm h0 T3862.vm h3863 := R3855.trans A3869
      have z3880 := K3873.1
      show own_G p e below (T3862.setTop (mkF m 47 #[iv in_1, iv in_2, iv in_3, iv in_4, iv in_5, iv in_6, iv 3, iv 1, rv ob_3809, rv ob_3838, .unset, .unset, .unset] [(.ref ob_3871)])) _
      refine oS (fun _ => XS.astore X3866.here hx rfl (hb hby at_47) rfl rfl (l' := #[iv in_1, iv in_2, iv in_3, iv in_4, iv in_5, iv in_6, iv 3, iv 1, rv ob_3809, rv ob_3838, rv ob_3871, .unset, .unset]) rfl) ?_
      refine oS (fun _ => XS.aload X3866.here hx rfl (hb hby at_49) rfl rfl) ?_
      have F3881 : Exa Z h3863 ob_3838 cN1 := F3845.keep K3873
      have F3882 : Fld Z h3863 ob_3838 cN1 "value" "[B" (.ref ob_3839) := F3847.keep K3873 nin0
      have F3883 : Arv Z h3863 ob_3839 kk_3840 .byte 1 [(.int ((in_1 &&& 255).toInt8.toInt32))] (.int 0) := F3850.keep K3873 nin0
      have O3884 : Old Z n0 h3863 := O3860.keep K3873 all0
      have Z3885 : n0 ≤ h3863.size := by omega
      obtain ⟨T3886, h3887, v3888, L3889, X3890, e3891, q3892, hS, hZ, hown, A3893, s3894⟩ := own_callSW X3866 hx hZ hown e3867 (y := mN9) (sf := []) (oW hw 35 rfl) (oW hw 36 rfl) (oW hw 37 rfl) (oW hw 38 rfl) (by decide) hS (by omega) hEL R3879.1 sf0 all0 (W := 0) (own_rm9 l Z a0 hw hEL [] ob_3838 ob_3839 kk_3840 in_1 h3863 n0 Z3885 O3884 F3881 F3882 F3883) (by decide) (by decide) (by decide) (by decide) (g := (mkF m 51 #[iv in_1, iv in_2, iv in_3, iv in_4, iv in_5, iv in_6, iv 3, iv 1, rv ob_3809, rv ob_3838, rv ob_3871, .unset, .unset] [(.ref ob_3838)])) rfl (by rw [hml]; rfl) (argsL := [(.ref ob_3838)]) (rest := []) rfl (lenOf own_pd9 rfl) rfl (by show 2 * 0 + _ ≤ _; exact Nat.le_of_eq rfl) (hb hby at_51)
      refine oS s3894 ?_
      obtain ⟨ob_3895, rfl, N3896, K3897, F3898, F3899, F3900, F3901⟩ := q3892
      have N3902 := Fr.app N3878 N3896
      have R3903 : CHr Z own_EL s.vm h0 T3886.vm h3887 := R3879.trans A3893
      have z3904 := K3897.1
      show own_G p e below (T3886.setTop (mkF m 54 #[iv in_1, iv in_2, iv in_3, iv in_4, iv in_5, iv in_6, iv 3, iv 1, rv ob_3809, rv ob_3838, rv ob_3871, .unset, .unset] [(.ref ob_3895)])) _
      refine oS (fun _ => XS.astore X3890.here hx rfl (hb hby at_54) rfl rfl (l' := #[iv in_1, iv in_2, iv in_3, iv in_4, iv in_5, iv in_6, iv 3, iv 1, rv ob_3809, rv ob_3838, rv ob_3871, rv ob_3895, .unset]) rfl) ?_
      refine oS (fun _ => XS.aload X3890.here hx rfl (hb hby at_56) rfl rfl) ?_
      refine oS (fun _ => XS.aload X3890.here hx rfl (hb hby at_58) rfl rfl) ?_
      have N3905 : @Ne Nat ob_3809 ob_3838 := by omega
      have F3906 : Exa Z h3887 ob_3838 cN1 := F3881.keep K3897
      have F3907 : Fld Z h3831 ob_3809 cN1 "coder" "B" (.int 0) := F3817.keep K3842 nin0
      have F3908 : Fld Z h3863 ob_3809 cN1 "coder" "B" (.int 0) := F3907.keep K3873 nin0
      have F3909 : Fld Z h3887 ob_3809 cN1 "coder" "B" (.int 0) := F3908.keep K3897 nin0
      have F3910 : Fld Z h3863 ob_3838 cN1 "coder" "B" (.int 0) := F3846.keep K3873 nin0
      have F3911 : Fld Z h3887 ob_3838 cN1 "coder" "B" (.int 0) := F3910.keep K3897 nin0
      have F3912 : Fld Z h3863 ob_3809 cN1 "value" "[B" (.ref ob_3810) := F3858.keep K3873 nin0
      have F3913 : Fld Z h3887 ob_3809 cN1 "value" "[B" (.ref ob_3810) := F3912.keep K3897 nin0
      have F3914 : Fld Z h3887 ob_3838 cN1 "value" "[B" (.ref ob_3839) := F3882.keep K3897 nin0
      have F3915 : Arv Z h3863 ob_3810 kk_3811 .byte 3 [(.int ((in_1 &&& 255).toInt8.toInt32)), (.int ((in_2 &&& 255).toInt8.toInt32)), (.int ((in_3 &&& 255).toInt8.toInt32))] (.int 0) := F3859.keep K3873 nin0
      have F3916 : Arv Z h3887 ob_3810 kk_3811 .byte 3 [(.int ((in_1 &&& 255).toInt8.toInt32)), (.int ((in_2 &&& 255).toInt8.toInt32)), (.int ((in_3 &&& 255).toInt8.toInt32))] (.int 0) := F3915.keep K3897 nin0
      have F3917 : Exa Z h3863 ob_3809 cN1 := F3857.keep K3873
      have F3918 : Exa Z h3887 ob_3809 cN1 := F3917.keep K3897
      have F3919 : Arv Z h3887 ob_3839 kk_3840 .byte 1 [(.int ((in_1 &&& 255).toInt8.toInt32))] (.int 0) := F3883.keep K3897 nin0
      have O3920 : Old Z n0 h3887 := O3884.keep K3897 all0
      have Z3921 : n0 ≤ h3887.size := by omega
      obtain ⟨T3922, h3923, v3924, L3925, X3926, e3927, q3928, s3929⟩ := own_callV X3890 hx hZ hown e3891 (y := mN11) (z := mN11) (C := cN1) (b := ob_3809) (oW hw 60 rfl) (oW hw 61 rfl) (notFace_of_selects (args := #[]) (mvT hZ (oW hw 63 rfl))) (oW hw 63 rfl) (oW hw 62 rfl) (oW hw 8 rfl) (oW hw 64 rfl) (by decide) F3918 (W := 0) (own_rm51 l Z a0 hw [] ob_3809 ob_3838 in_7 ob_3810 ob_3839 kk_3811 in_1 in_2 in_3 kk_3840 h3887 n0 Z3921 O3920 N3905 F3906 I68 I77 F3909 F3911 F3913 F3914 F3916 F3919) (by decide) (by decide) (by decide) (by decide) (g := (mkF m 60 #[iv in_1, iv in_2, iv in_3, iv in_4, iv in_5, iv in_6, iv 3, iv 1, rv ob_3809, rv ob_3838, rv ob_3871, rv ob_3895, .unset] [(.ref ob_3838), (.ref ob_3809)])) rfl (by rw [hml]; rfl) (argsL := [(.ref ob_3838)]) (rest := []) rfl (lenOf own_pd11 rfl) rfl (by show 2 * 0 + _ ≤ _; exact Nat.le_of_eq rfl) (hb hby at_60)
      refine oS s3929 ?_
      obtain ⟨rfl, N3930, K3931⟩ := q3928
      have N3932 := Fr.app N3902 N3930
      have e3933 := e3927.trans K3931
      show own_G p e below (T3922.setTop (mkF m 63 #[iv in_1, iv in_2, iv in_3, iv in_4, iv in_5, iv in_6, iv 3, iv 1, rv ob_3809, rv ob_3838, rv ob_3871, rv ob_3895, .unset] [(.int 0)])) _
      refine oS (fun _ => XS.istore X3926.here hx rfl (hb hby at_63) rfl (l' := #[iv in_1, iv in_2, iv in_3, iv in_4, iv in_5, iv in_6, iv 3, iv 1, rv ob_3809, rv ob_3838, rv ob_3871, rv ob_3895, iv 0]) rfl) ?_
      refine oS (fun _ => XS.aload X3926.here hx rfl (hb hby at_65) rfl rfl) ?_
      have F3934 : Fld Z h3887 ob_3871 cN4 "name" cN5 (.ref ob_3809) := F3876.keep K3897 nin0
      have Z3935 : n0 ≤ h3887.size := by omega
      have F3944 : Exa Z h3887 ob_3871 cN4 := F3875.keep K3897
      obtain ⟨T3936, h3937, v3938, L3939, X3940, e3941, q3942, s3943⟩ := own_callV X3926 hx hZ hown e3933 (y := mN12) (z := mN12) (C := cN4) (b := ob_3871) (oW hw 70 rfl) (oW hw 71 rfl) (notFace_of_selects (args := #[]) (mvT hZ (oW hw 73 rfl))) (oW hw 73 rfl) (oW hw 72 rfl) (oW hw 37 rfl) (oW hw 74 rfl) (by decide) F3944 (W := 0) (own_rm15 l Z a0 hw [] ob_3871 ob_3809 h3887 n0 Z3935 O3920 F3934) (by decide) (by decide) (by decide) (by decide) (g := (mkF m 67 #[iv in_1, iv in_2, iv in_3, iv in_4, iv in_5, iv in_6, iv 3, iv 1, rv ob_3809, rv ob_3838, rv ob_3871, rv ob_3895, iv 0] [(.ref ob_3871)])) rfl (by rw [hml]; rfl) (argsL := []) (rest := []) rfl (lenOf own_pd12 rfl) rfl (by show 2 * 0 + _ ≤ _; exact Nat.le_of_eq rfl) (hb hby at_67)
      refine oS s3943 ?_
      obtain ⟨rfl, N3945, K3946⟩ := q3942
      have N3947 := Fr.app N3932 N3945
      have e3948 := e3941.trans K3946
      show own_G p e below (T3936.setTop (mkF m 70 #[iv in_1, iv in_2, iv in_3, iv in_4, iv in_5, iv in_6, iv 3, iv 1, rv ob_3809, rv ob_3838, rv ob_3871, rv ob_3895, iv 0] [(.ref ob_3809)])) _
      refine oS (fun _ => XS.aload X3940.here hx rfl (hb hby at_70) rfl rfl) ?_
      have Z3949 : n0 ≤ h3887.size := by omega
      obtain ⟨T3950, h3951, v3952, L3953, X3954, e3955, q3956, s3957⟩ := own_callV X3940 hx hZ hown e3948 (y := mN11) (z := mN11) (C := cN1) (b := ob_3809) (oW hw 60 rfl) (oW hw 61 rfl) (notFace_of_selects (args := #[]) (mvT hZ (oW hw 63 rfl))) (oW hw 63 rfl) (oW hw 62 rfl) (oW hw 8 rfl) (oW hw 64 rfl) (by decide) F3918 (W := 0) (own_rm16 l Z a0 hw [] ob_3809 h3887 n0 Z3949 O3920 ) (by decide) (by decide) (by decide) (by decide) (g := (mkF m 72 #[iv in_1, iv in_2, iv in_3, iv in_4, iv in_5, iv in_6, iv 3, iv 1, rv ob_3809, rv ob_3838, rv ob_3871, rv ob_3895, iv 0] [(.ref ob_3809), (.ref ob_3809)])) rfl (by rw [hml]; rfl) (argsL := [(.ref ob_3809)]) (rest := []) rfl (lenOf own_pd11 rfl) rfl (by show 2 * 0 + _ ≤ _; exact Nat.le_of_eq rfl) (hb hby at_72)
      refine oS s3957 ?_
      obtain ⟨rfl, N3958, K3959⟩ := q3956
      have N3960 := Fr.app N3947 N3958
      have e3961 := e3955.trans K3959
      show own_G p e below (T3950.setTop (mkF m 75 #[iv in_1, iv in_2, iv in_3, iv in_4, iv in_5, iv in_6, iv 3, iv 1, rv ob_3809, rv ob_3838, rv ob_3871, rv ob_3895, iv 0] [(.int 1)])) _
      refine oS (fun _ => XS.ifYes X3954.here hx rfl (pc0 := 75) (pc' := 80) rfl (hb hby at_75) rfl (XT.i0_ne_t (by decide)) (by decide) (by decide)) ?_
      show own_G p e below (T3950.setTop (mkF m 80 #[iv in_1, iv in_2, iv in_3, iv in_4, iv in_5, iv in_6, iv 3, iv 1, rv ob_3809, rv ob_3838, rv ob_3871, rv ob_3895, iv 0] [])) _
      refine oS (fun _ => XS.aload X3954.here hx rfl (hb hby at_80) rfl rfl) ?_
      have Z3962 : n0 ≤ h3887.size := by omega
      obtain ⟨T3963, h3964, v3965, L3966, X3967, e3968, q3969, s3970⟩ := own_callV X3954 hx hZ hown e3961 (y := mN12) (z := mN12) (C := cN4) (b := ob_3895) (oW hw 70 rfl) (oW hw 71 rfl) (notFace_of_selects (args := #[]) (mvT hZ (oW hw 73 rfl))) (oW hw 73 rfl) (oW hw 72 rfl) (oW hw 37 rfl) (oW hw 74 rfl) (by decide) F3899 (W := 0) (own_rm15 l Z a0 hw [] ob_3895 ob_3838 h3887 n0 Z3962 O3920 F3900) (by decide) (by decide) (by decide) (by decide) (g := (mkF m 82 #[iv in_1, iv in_2, iv in_3, iv in_4, iv in_5, iv in_6, iv 3, iv 1, rv ob_3809, rv ob_3838, rv ob_3871, rv ob_3895, iv 0] [(.ref ob_3895)])) rfl (by rw [hml]; rfl) (argsL := []) (rest := []) rfl (lenOf own_pd12 rfl) rfl (by show 2 * 0 + _ ≤ _; exact Nat.le_of_eq rfl) (hb hby at_82)
      refine oS s3970 ?_
      obtain ⟨rfl, N3971, K3972⟩ := q3969
      have N3973 := Fr.app N3960 N3971
      have e3974 := e3968.trans K3972
      show own_G p e below (T3963.setTop (mkF m 85 #[iv in_1, iv in_2, iv in_3, iv in_4, iv in_5, iv in_6, iv 3, iv 1, rv ob_3809, rv ob_3838, rv ob_3871, rv ob_3895, iv 0] [(.ref ob_3838)])) _
      refine oS (fun _ => XS.aload X3967.here hx rfl (hb hby at_85) rfl rfl) ?_
      have Z3975 : n0 ≤ h3887.size := by omega
      obtain ⟨T3976, h3977, v3978, L3979, X3980, e3981, q3982, s3983⟩ := own_callV X3967 hx hZ hown e3974 (y := mN11) (z := mN11) (C := cN1) (b := ob_3838) (oW hw 60 rfl) (oW hw 61 rfl) (notFace_of_selects (args := #[]) (mvT hZ (oW hw 63 rfl))) (oW hw 63 rfl) (oW hw 62 rfl) (oW hw 8 rfl) (oW hw 64 rfl) (by decide) F3906 (W := 0) (own_rm16 l Z a0 hw [] ob_3838 h3887 n0 Z3975 O3920 ) (by decide) (by decide) (by decide) (by decide) (g := (mkF m 87 #[iv in_1, iv in_2, iv in_3, iv in_4, iv in_5, iv in_6, iv 3, iv 1, rv ob_3809, rv ob_3838, rv ob_3871, rv ob_3895, iv 0] [(.ref ob_3838), (.ref ob_3838)])) rfl (by rw [hml]; rfl) (argsL := [(.ref ob_3838)]) (rest := []) rfl (lenOf own_pd11 rfl) rfl (by show 2 * 0 + _ ≤ _; exact Nat.le_of_eq rfl) (hb hby at_87)
      refine oS s3983 ?_
      obtain ⟨rfl, N3984, K3985⟩ := q3982
      have N3986 := Fr.app N3973 N3984
      have e3987 := e3981.trans K3985
      show own_G p e below (T3976.setTop (mkF m 90 #[iv in_1, iv in_2, iv in_3, iv in_4, iv in_5, iv in_6, iv 3, iv 1, rv ob_3809, rv ob_3838, rv ob_3871, rv ob_3895, iv 0] [(.int 1)])) _
      refine oS (fun _ => XS.ifYes X3980.here hx rfl (pc0 := 90) (pc' := 95) rfl (hb hby at_90) rfl (XT.i0_ne_t (by decide)) (by decide) (by decide)) ?_
      show own_G p e below (T3976.setTop (mkF m 95 #[iv in_1, iv in_2, iv in_3, iv in_4, iv in_5, iv in_6, iv 3, iv 1, rv ob_3809, rv ob_3838, rv ob_3871, rv ob_3895, iv 0] [])) _
      refine oS (fun _ => XS.aload X3980.here hx rfl (hb hby at_95) rfl rfl) ?_
      have F3988 : Sta Z h3887 cN4 "NONE" cN8 (.ref ob_9) := Sta.ext O3920.2 I630
      obtain ⟨T3989, X3990, e3991, s3992⟩ := getS X3980 hx hZ hown (host := "") (oW hw 75 rfl) Via.refl e3987 F3988 (g := (mkF m 97 #[iv in_1, iv in_2, iv in_3, iv in_4, iv in_5, iv in_6, iv 3, iv 1, rv ob_3809, rv ob_3838, rv ob_3871, rv ob_3895, iv 0] [(.ref ob_3871)])) rfl (hb hby at_97)
      refine oS s3992 ?_
      show own_G p e below (T3989.setTop (mkF m 100 #[iv in_1, iv in_2, iv in_3, iv in_4, iv in_5, iv in_6, iv 3, iv 1, rv ob_3809, rv ob_3838, rv ob_3871, rv ob_3895, iv 0] [(.ref ob_9), (.ref ob_3871)])) _
      have N3993 : n0 ≤ ob_3809 := by omega
      have F3994 : Exa Z h3887 ob_9 cN4 := Exa.ext O3920.2 I640
      have F3995 : Fld Z h3887 ob_9 cN4 "name" cN5 (.ref ob_10) := Fld.ext O3920.2 I647
      have y3996 : @LT.lt Nat instLTNat ob_10 Z.heap.size := I659.lt
      have y3997 : Z.heap.size = n0 := O0.1
      have N3998 : @Ne Nat ob_10 ob_3809 := by omega
      have F3999 : Fld Z h3887 ob_10 cN1 "coder" "B" (.int 0) := Fld.ext O3920.2 I670
      have F4000 : Fld Z h3887 ob_10 cN1 "value" "[B" (.ref ob_11) := Fld.ext O3920.2 I674
      have F4001 : Arv Z h3887 ob_11 kk_12 FieldType.byte 0 [] (.int 0) := I678.ext O3920.2
      have Z4116 : n0 ≤ h3887.size := by omega
      obtain ⟨T4117, h4118, v4119, L4120, X4121, e4122, q4123, s4124⟩ := own_callV X3990 hx hZ hown e3991 (y := mN13) (z := mN13) (C := cN4) (b := ob_3871) (oW hw 77 rfl) (oW hw 78 rfl) (notFace_of_selects (args := #[]) (mvT hZ (oW hw 80 rfl))) (oW hw 80 rfl) (oW hw 79 rfl) (oW hw 37 rfl) (oW hw 81 rfl) (by decide) F3944 (W := 0) (own_rm70 l Z a0 hw [] ob_3871 ob_9 ob_10 ob_3809 in_7 ob_11 ob_3810 kk_12 kk_3811 in_1 in_2 in_3 h3887 n0 Z4116 O3920 I640 I647 F3934 I659 N3993 F3918 I68 I77 I670 F3909 I674 F3913 I678 F3916) (by decide) (by decide) (by decide) (by decide) (g := (mkF m 100 #[iv in_1, iv in_2, iv in_3, iv in_4, iv in_5, iv in_6, iv 3, iv 1, rv ob_3809, rv ob_3838, rv ob_3871, rv ob_3895, iv 0] [(.ref ob_9), (.ref ob_3871)])) rfl (by rw [hml]; rfl) (argsL := [(.ref ob_9)]) (rest := []) rfl (lenOf own_pd11 rfl) rfl (by show 2 * 0 + _ ≤ _; exact Nat.le_of_eq rfl) (hb hby at_100)
      refine oS s4124 ?_
      obtain ⟨rfl, N4125, K4126⟩ := q4123
      have N4127 := Fr.app N3986 N4125
      have e4128 := e4122.trans K4126
      show own_G p e below (T4117.setTop (mkF m 103 #[iv in_1, iv in_2, iv in_3, iv in_4, iv in_5, iv in_6, iv 3, iv 1, rv ob_3809, rv ob_3838, rv ob_3871, rv ob_3895, iv 0] [(.int 0)])) _
      refine oS (fun _ => XS.ifYes X4121.here hx rfl (pc0 := 103) (pc' := 108) rfl (hb hby at_103) rfl (XT.i0_eq_t (by decide)) (by decide) (by decide)) ?_
      show own_G p e below (T4117.setTop (mkF m 108 #[iv in_1, iv in_2, iv in_3, iv in_4, iv in_5, iv in_6, iv 3, iv 1, rv ob_3809, rv ob_3838, rv ob_3871, rv ob_3895, iv 0] [])) _
      refine oS (fun _ => XS.aload X4121.here hx rfl (hb hby at_108) rfl rfl) ?_
      refine oS (fun _ => XS.aload X4121.here hx rfl (hb hby at_110) rfl rfl) ?_
      have Z4171 : n0 ≤ h3887.size := by omega
      obtain ⟨T4172, h4173, v4174, L4175, X4176, e4177, q4178, s4179⟩ := own_callV X4121 hx hZ hown e4128 (y := mN13) (z := mN13) (C := cN4) (b := ob_3871) (oW hw 77 rfl) (oW hw 78 rfl) (notFace_of_selects (args := #[]) (mvT hZ (oW hw 80 rfl))) (oW hw 80 rfl) (oW hw 79 rfl) (oW hw 37 rfl) (oW hw 81 rfl) (by decide) F3944 (W := 0) (own_rm73 l Z a0 hw [] ob_3871 ob_3895 ob_3838 ob_3809 in_7 ob_3839 ob_3810 kk_3840 in_1 kk_3811 in_2 in_3 h3887 n0 Z4171 O3920 F3899 F3900 F3934 (Ne.symm N3905) F3918 I68 I77 F3911 F3909 F3914 F3913 F3919 F3916 F3906) (by decide) (by decide) (by decide) (by decide) (g := (mkF m 112 #[iv in_1, iv in_2, iv in_3, iv in_4, iv in_5, iv in_6, iv 3, iv 1, rv ob_3809, rv ob_3838, rv ob_3871, rv ob_3895, iv 0] [(.ref ob_3895), (.ref ob_3871)])) rfl (by rw [hml]; rfl) (argsL := [(.ref ob_3895)]) (rest := []) rfl (lenOf own_pd11 rfl) rfl (by show 2 * 0 + _ ≤ _; exact Nat.le_of_eq rfl) (hb hby at_112)
      refine oS s4179 ?_
      obtain ⟨rfl, N4180, K4181⟩ := q4178
      have N4182 := Fr.app N4127 N4180
      have e4183 := e4177.trans K4181
      show own_G p e below (T4172.setTop (mkF m 115 #[iv in_1, iv in_2, iv in_3, iv in_4, iv in_5, iv in_6, iv 3, iv 1, rv ob_3809, rv ob_3838, rv ob_3871, rv ob_3895, iv 0] [(.int 0)])) _
      refine oS (fun _ => XS.iload X4176.here hx rfl (hb hby at_115) rfl) ?_
      refine oS (fun _ => XS.icmpYes X4176.here hx rfl (pc0 := 117) (pc' := 122) rfl (hb hby at_117) rfl (XT.ii_eq_t (by decide)) (by decide) (by decide)) ?_
      show own_G p e below (T4172.setTop (mkF m 122 #[iv in_1, iv in_2, iv in_3, iv in_4, iv in_5, iv in_6, iv 3, iv 1, rv ob_3809, rv ob_3838, rv ob_3871, rv ob_3895, iv 0] [])) _
      refine oS (fun _ => XS.iload X4176.here hx rfl (hb hby at_122) rfl) ?_
      refine oS (fun _ => XS.ifYes X4176.here hx rfl (pc0 := 124) (pc' := 142) rfl (hb hby at_124) rfl (XT.i0_eq_t (by decide)) (by decide) (by decide)) ?_
      show own_G p e below (T4172.setTop (mkF m 142 #[iv in_1, iv in_2, iv in_3, iv in_4, iv in_5, iv in_6, iv 3, iv 1, rv ob_3809, rv ob_3838, rv ob_3871, rv ob_3895, iv 0] [])) _
      refine oS (fun _ => XS.iconst X4176.here hx rfl (hb hby at_142) ) ?_
      have K4184 : Keep h0 h3887 [] := (((((Keep.refl h0 []).trans K3813 all0).trans K3842 all0).trans K3873 all0).trans K3897 all0)
      exact own_retNW X4176 hx (t := .boolean) Bd.notSynchronized Bd.returns (by simp) (hb hby at_143) (by decide) hS hZ hEL hh R3903 e4183 (by omega) (by decide) (by decide) (fun hA => ⟨rfl, N4182⟩)
    · skip
      refine own_cast (g' := (mkF m 19 #[iv in_1, iv in_2, iv in_3, iv in_4, iv in_5, iv in_6, iv 3, .unset, .unset, .unset, .unset, .unset, .unset] [(.int 1), (.int 1)])) (by rw [q3799]) ?_
      show own_G p e below (s₁.setTop (mkF m 19 #[iv in_1, iv in_2, iv in_3, iv in_4, iv in_5, iv in_6, iv 3, .unset, .unset, .unset, .unset, .unset, .unset] [(.int 1), (.int 1)])) _
      refine oS (fun _ => XS.iadd X0.here hx rfl (hb hby at_19) rfl) ?_
      refine oS (fun _ => XS.istore X0.here hx rfl (hb hby at_20) rfl (l' := #[iv in_1, iv in_2, iv in_3, iv in_4, iv in_5, iv in_6, iv 3, iv 2, .unset, .unset, .unset, .unset, .unset]) rfl) ?_
      refine oS (fun _ => XS.iload X0.here hx rfl (hb hby at_22) rfl) ?_
      refine oS (fun _ => XS.iloadN X0.here hx rfl (hb hby at_24) rfl) ?_
      show own_G p e below (s₁.setTop (mkF m 25 #[iv in_1, iv in_2, iv in_3, iv in_4, iv in_5, iv in_6, iv 3, iv 2, .unset, .unset, .unset, .unset, .unset] [(.int in_1), (.int 3)])) _
      refine oS (fun _ => XS.iloadN X0.here hx rfl (hb hby at_25) rfl) ?_
      refine oS (fun _ => XS.iloadN X0.here hx rfl (hb hby at_26) rfl) ?_
      obtain ⟨T4185, h4186, v4187, L4188, X4189, e4190, q4191, s4192⟩ := own_callS X0 hx hZ hown e0 (y := mN5) (oW hw 1 rfl) (oW hw 2 rfl) (oW hw 3 rfl) (oW hw 4 rfl) (by decide) (W := 0) (own_rm39 l Z a0 hw [] in_1 in_2 in_3 in_7 h0 n0 Z0 O0 I68 I77) (by decide) (by decide) (by decide) (by decide) (g := (mkF m 27 #[iv in_1, iv in_2, iv in_3, iv in_4, iv in_5, iv in_6, iv 3, iv 2, .unset, .unset, .unset, .unset, .unset] [(.int in_3), (.int in_2), (.int in_1), (.int 3)])) rfl (by rw [hml]; rfl) (argsL := [(.int 3), (.int in_1), (.int in_2), (.int in_3)]) (rest := []) rfl (lenOf own_pd5 rfl) rfl (by show 2 * 0 + _ ≤ _; exact Nat.le_of_eq rfl) (hb hby at_27)
      refine oS s4192 ?_
      obtain ⟨ob_4193, ob_4194, kk_4195, rfl, N4196, K4197, F4198, F4199, F4200, F4201, F4202, F4203, F4204, F4205, F4206, F4207, F4208⟩ := q4191
      have N4209 := Fr.app N0 N4196
      have R4210 : CHr Z own_EL s.vm h0 s.vm h4186 := hR.trans (CHr.keep K4197 sf0 hR.1)
      have z4211 := K4197.1
      show own_G p e below (T4185.setTop (mkF m 30 #[iv in_1, iv in_2, iv in_3, iv in_4, iv in_5, iv in_6, iv 3, iv 2, .unset, .unset, .unset, .unset, .unset] [(.ref ob_4193)])) _
      refine oS (fun _ => XS.astore X4189.here hx rfl (hb hby at_30) rfl rfl (l' := #[iv in_1, iv in_2, iv in_3, iv in_4, iv in_5, iv in_6, iv 3, iv 2, rv ob_4193, .unset, .unset, .unset, .unset]) rfl) ?_
      refine oS (fun _ => XS.iload X4189.here hx rfl (hb hby at_32) rfl) ?_
      refine oS (fun _ => XS.iloadN X4189.here hx rfl (hb hby at_34) rfl) ?_
      refine oS (fun _ => XS.iloadN X4189.here hx rfl (hb hby at_35) rfl) ?_
      show own_G p e below (T4185.setTop (mkF m 36 #[iv in_1, iv in_2, iv in_3, iv in_4, iv in_5, iv in_6, iv 3, iv 2, rv ob_4193, .unset, .unset, .unset, .unset] [(.int in_2), (.int in_1), (.int 2)])) _
      refine oS (fun _ => XS.iloadN X4189.here hx rfl (hb hby at_36) rfl) ?_
      have O4212 : Old Z n0 h4186 := O0.keep K4197 all0
      have Z4213 : n0 ≤ h4186.size := by omega
      obtain ⟨T4214, h4215, v4216, L4217, X4218, e4219, q4220, s4221⟩ := own_callS X4189 hx hZ hown e4190 (y := mN5) (oW hw 1 rfl) (oW hw 2 rfl) (oW hw 3 rfl) (oW hw 4 rfl) (by decide) (W := 0) (own_rm25 l Z a0 hw [] in_1 in_2 in_4 in_7 h4186 n0 Z4213 O4212 I68 I77) (by decide) (by decide) (by decide) (by decide) (g := (mkF m 37 #[iv in_1, iv in_2, iv in_3, iv in_4, iv in_5, iv in_6, iv 3, iv 2, rv ob_4193, .unset, .unset, .unset, .unset] [(.int in_4), (.int in_2), (.int in_1), (.int 2)])) rfl (by rw [hml]; rfl) (argsL := [(.int 2), (.int in_1), (.int in_2), (.int in_4)]) (rest := []) rfl (lenOf own_pd5 rfl) rfl (by show 2 * 0 + _ ≤ _; exact Nat.le_of_eq rfl) (hb hby at_37)
      refine oS s4221 ?_
      obtain ⟨ob_4222, ob_4223, kk_4224, rfl, N4225, K4226, F4227, F4228, F4229, F4230, F4231, F4232, F4233, F4234, F4235, F4236, F4237⟩ := q4220
      have N4238 := Fr.app N4209 N4225
      have R4239 : CHr Z own_EL s.vm h0 s.vm h4215 := R4210.trans (CHr.keep K4226 sf0 R4210.1)
      have z4240 := K4226.1
      show own_G p e below (T4214.setTop (mkF m 40 #[iv in_1, iv in_2, iv in_3, iv in_4, iv in_5, iv in_6, iv 3, iv 2, rv ob_4193, .unset, .unset, .unset, .unset] [(.ref ob_4222)])) _
      refine oS (fun _ => XS.astore X4218.here hx rfl (hb hby at_40) rfl rfl (l' := #[iv in_1, iv in_2, iv in_3, iv in_4, iv in_5, iv in_6, iv 3, iv 2, rv ob_4193, rv ob_4222, .unset, .unset, .unset]) rfl) ?_
      refine oS (fun _ => XS.aload X4218.here hx rfl (hb hby at_42) rfl rfl) ?_
      have F4241 : Exa Z h4215 ob_4193 cN1 := F4200.keep K4226
      have F4242 : Fld Z h4215 ob_4193 cN1 "value" "[B" (.ref ob_4194) := F4202.keep K4226 nin0
      have F4243 : Arv Z h4215 ob_4194 kk_4195 .byte 3 [(.int ((in_1 &&& 255).toInt8.toInt32)), (.int ((in_2 &&& 255).toInt8.toInt32)), (.int ((in_3 &&& 255).toInt8.toInt32))] (.int 0) := F4205.keep K4226 nin0
      have O4244 : Old Z n0 h4215 := O4212.keep K4226 all0
      have Z4245 : n0 ≤ h4215.size := by omega
      obtain ⟨T4246, h4247, v4248, L4249, X4250, e4251, q4252, hS, hZ, hown, A4253, s4254⟩ := own_callSW X4218 hx hZ hown e4219 (y := mN9) (sf := []) (oW hw 35 rfl) (oW hw 36 rfl) (oW hw 37 rfl) (oW hw 38 rfl) (by decide) hS (by omega) hEL R4239.1 sf0 all0 (W := 0) (own_rm46 l Z a0 hw hEL [] ob_4193 ob_4194 kk_4195 in_1 in_2 in_3 h4215 n0 Z4245 O4244 F4241 F4242 F4243) (by decide) (by decide) (by decide) (by decide) (g := (mkF m 44 #[iv in_1, iv in_2, iv in_3, iv in_4, iv in_5, iv in_6, iv 3, iv 2, rv ob_4193, rv ob_4222, .unset, .unset, .unset] [(.ref ob_4193)])) rfl (by rw [hml]; rfl) (argsL := [(.ref ob_4193)]) (rest := []) rfl (lenOf own_pd9 rfl) rfl (by show 2 * 0 + _ ≤ _; exact Nat.le_of_eq rfl) (hb hby at_44)
      refine oS s4254 ?_
      obtain ⟨ob_4255, rfl, N4256, K4257, F4258, F4259, F4260, F4261⟩ := q4252
      have N4262 := Fr.app N4238 N4256
      have R4263 : CHr Z own_EL s.vm h0 T4246.vm h4247 := R4239.trans A4253
      have z4264 := K4257.1
      show own_G p e below (T4246.setTop (mkF m 47 #[iv in_1, iv in_2, iv in_3, iv in_4, iv in_5, iv in_6, iv 3, iv 2, rv ob_4193, rv ob_4222, .unset, .unset, .unset] [(.ref ob_4255)])) _
      refine oS (fun _ => XS.astore X4250.here hx rfl (hb hby at_47) rfl rfl (l' := #[iv in_1, iv in_2, iv in_3, iv in_4, iv in_5, iv in_6, iv 3, iv 2, rv ob_4193, rv ob_4222, rv ob_4255, .unset, .unset]) rfl) ?_
      refine oS (fun _ => XS.aload X4250.here hx rfl (hb hby at_49) rfl rfl) ?_
      have F4265 : Exa Z h4247 ob_4222 cN1 := F4229.keep K4257
      have F4266 : Fld Z h4247 ob_4222 cN1 "value" "[B" (.ref ob_4223) := F4231.keep K4257 nin0
      have F4267 : Arv Z h4247 ob_4223 kk_4224 .byte 2 [(.int ((in_1 &&& 255).toInt8.toInt32)), (.int ((in_2 &&& 255).toInt8.toInt32))] (.int 0) := F4234.keep K4257 nin0
      have O4268 : Old Z n0 h4247 := O4244.keep K4257 all0
      have Z4269 : n0 ≤ h4247.size := by omega
      obtain ⟨T4270, h4271, v4272, L4273, X4274, e4275, q4276, hS, hZ, hown, A4277, s4278⟩ := own_callSW X4250 hx hZ hown e4251 (y := mN9) (sf := []) (oW hw 35 rfl) (oW hw 36 rfl) (oW hw 37 rfl) (oW hw 38 rfl) (by decide) hS (by omega) hEL R4263.1 sf0 all0 (W := 0) (own_rm32 l Z a0 hw hEL [] ob_4222 ob_4223 kk_4224 in_1 in_2 h4247 n0 Z4269 O4268 F4265 F4266 F4267) (by decide) (by decide) (by decide) (by decide) (g := (mkF m 51 #[iv in_1, iv in_2, iv in_3, iv in_4, iv in_5, iv in_6, iv 3, iv 2, rv ob_4193, rv ob_4222, rv ob_4255, .unset, .unset] [(.ref ob_4222)])) rfl (by rw [hml]; rfl) (argsL := [(.ref ob_4222)]) (rest := []) rfl (lenOf own_pd9 rfl) rfl (by show 2 * 0 + _ ≤ _; exact Nat.le_of_eq rfl) (hb hby at_51)
      refine oS s4278 ?_
      obtain ⟨ob_4279, rfl, N4280, K4281, F4282, F4283, F4284, F4285⟩ := q4276
      have N4286 := Fr.app N4262 N4280
      have R4287 : CHr Z own_EL s.vm h0 T4270.vm h4271 := R4263.trans A4277
      have z4288 := K4281.1
      show own_G p e below (T4270.setTop (mkF m 54 #[iv in_1, iv in_2, iv in_3, iv in_4, iv in_5, iv in_6, iv 3, iv 2, rv ob_4193, rv ob_4222, rv ob_4255, .unset, .unset] [(.ref ob_4279)])) _
      refine oS (fun _ => XS.astore X4274.here hx rfl (hb hby at_54) rfl rfl (l' := #[iv in_1, iv in_2, iv in_3, iv in_4, iv in_5, iv in_6, iv 3, iv 2, rv ob_4193, rv ob_4222, rv ob_4255, rv ob_4279, .unset]) rfl) ?_
      refine oS (fun _ => XS.aload X4274.here hx rfl (hb hby at_56) rfl rfl) ?_
      refine oS (fun _ => XS.aload X4274.here hx rfl (hb hby at_58) rfl rfl) ?_
      have N4289 : @Ne Nat ob_4193 ob_4222 := by omega
      have F4290 : Exa Z h4271 ob_4222 cN1 := F4265.keep K4281
      have F4291 : Fld Z h4215 ob_4193 cN1 "coder" "B" (.int 0) := F4201.keep K4226 nin0
      have F4292 : Fld Z h4247 ob_4193 cN1 "coder" "B" (.int 0) := F4291.keep K4257 nin0
      have F4293 : Fld Z h4271 ob_4193 cN1 "coder" "B" (.int 0) := F4292.keep K4281 nin0
      have F4294 : Fld Z h4247 ob_4222 cN1 "coder" "B" (.int 0) := F4230.keep K4257 nin0
      have F4295 : Fld Z h4271 ob_4222 cN1 "coder" "B" (.int 0) := F4294.keep K4281 nin0
      have F4296 : Fld Z h4247 ob_4193 cN1 "value" "[B" (.ref ob_4194) := F4242.keep K4257 nin0
      have F4297 : Fld Z h4271 ob_4193 cN1 "value" "[B" (.ref ob_4194) := F4296.keep K4281 nin0
      have F4298 : Fld Z h4271 ob_4222 cN1 "value" "[B" (.ref ob_4223) := F4266.keep K4281 nin0
      have F4299 : Arv Z h4247 ob_4194 kk_4195 .byte 3 [(.int ((in_1 &&& 255).toInt8.toInt32)), (.int ((in_2 &&& 255).toInt8.toInt32)), (.int ((in_3 &&& 255).toInt8.toInt32))] (.int 0) := F4243.keep K4257 nin0
      have F4300 : Arv Z h4271 ob_4194 kk_4195 .byte 3 [(.int ((in_1 &&& 255).toInt8.toInt32)), (.int ((in_2 &&& 255).toInt8.toInt32)), (.int ((in_3 &&& 255).toInt8.toInt32))] (.int 0) := F4299.keep K4281 nin0
      have F4301 : Exa Z h4247 ob_4193 cN1 := F4241.keep K4257
      have F4302 : Exa Z h4271 ob_4193 cN1 := F4301.keep K4281
      have F4303 : Arv Z h4271 ob_4223 kk_4224 .byte 2 [(.int ((in_1 &&& 255).toInt8.toInt32)), (.int ((in_2 &&& 255).toInt8.toInt32))] (.int 0) := F4267.keep K4281 nin0
      have O4304 : Old Z n0 h4271 := O4268.keep K4281 all0
      have Z4305 : n0 ≤ h4271.size := by omega
      obtain ⟨T4306, h4307, v4308, L4309, X4310, e4311, q4312, s4313⟩ := own_callV X4274 hx hZ hown e4275 (y := mN11) (z := mN11) (C := cN1) (b := ob_4193) (oW hw 60 rfl) (oW hw 61 rfl) (notFace_of_selects (args := #[]) (mvT hZ (oW hw 63 rfl))) (oW hw 63 rfl) (oW hw 62 rfl) (oW hw 8 rfl) (oW hw 64 rfl) (by decide) F4302 (W := 0) (own_rm68 l Z a0 hw [] ob_4193 ob_4222 in_7 ob_4194 ob_4223 kk_4195 in_1 in_2 in_3 kk_4224 h4271 n0 Z4305 O4304 N4289 F4290 I68 I77 F4293 F4295 F4297 F4298 F4300 F4303) (by decide) (by decide) (by decide) (by decide) (g := (mkF m 60 #[iv in_1, iv in_2, iv in_3, iv in_4, iv in_5, iv in_6, iv 3, iv 2, rv ob_4193, rv ob_4222, rv ob_4255, rv ob_4279, .unset] [(.ref ob_4222), (.ref ob_4193)])) rfl (by rw [hml]; rfl) (argsL := [(.ref ob_4222)]) (rest := []) rfl (lenOf own_pd11 rfl) rfl (by show 2 * 0 + _ ≤ _; exact Nat.le_of_eq rfl) (hb hby at_60)
      refine oS s4313 ?_
      obtain ⟨rfl, N4314, K4315⟩ := q4312
      have N4316 := Fr.app N4286 N4314
      have e4317 := e4311.trans K4315
      show own_G p e below (T4306.setTop (mkF m 63 #[iv in_1, iv in_2, iv in_3, iv in_4, iv in_5, iv in_6, iv 3, iv 2, rv ob_4193, rv ob_4222, rv ob_4255, rv ob_4279, .unset] [(.int 0)])) _
      refine oS (fun _ => XS.istore X4310.here hx rfl (hb hby at_63) rfl (l' := #[iv in_1, iv in_2, iv in_3, iv in_4, iv in_5, iv in_6, iv 3, iv 2, rv ob_4193, rv ob_4222, rv ob_4255, rv ob_4279, iv 0]) rfl) ?_
      refine oS (fun _ => XS.aload X4310.here hx rfl (hb hby at_65) rfl rfl) ?_
      have F4318 : Fld Z h4271 ob_4255 cN4 "name" cN5 (.ref ob_4193) := F4260.keep K4281 nin0
      have Z4319 : n0 ≤ h4271.size := by omega
      have F4328 : Exa Z h4271 ob_4255 cN4 := F4259.keep K4281
      obtain ⟨T4320, h4321, v4322, L4323, X4324, e4325, q4326, s4327⟩ := own_callV X4310 hx hZ hown e4317 (y := mN12) (z := mN12) (C := cN4) (b := ob_4255) (oW hw 70 rfl) (oW hw 71 rfl) (notFace_of_selects (args := #[]) (mvT hZ (oW hw 73 rfl))) (oW hw 73 rfl) (oW hw 72 rfl) (oW hw 37 rfl) (oW hw 74 rfl) (by decide) F4328 (W := 0) (own_rm15 l Z a0 hw [] ob_4255 ob_4193 h4271 n0 Z4319 O4304 F4318) (by decide) (by decide) (by decide) (by decide) (g := (mkF m 67 #[iv in_1, iv in_2, iv in_3, iv in_4, iv in_5, iv in_6, iv 3, iv 2, rv ob_4193, rv ob_4222, rv ob_4255, rv ob_4279, iv 0] [(.ref ob_4255)])) rfl (by rw [hml]; rfl) (argsL := []) (rest := []) rfl (lenOf own_pd12 rfl) rfl (by show 2 * 0 + _ ≤ _; exact Nat.le_of_eq rfl) (hb hby at_67)
      refine oS s4327 ?_
      obtain ⟨rfl, N4329, K4330⟩ := q4326
      have N4331 := Fr.app N4316 N4329
      have e4332 := e4325.trans K4330
      show own_G p e below (T4320.setTop (mkF m 70 #[iv in_1, iv in_2, iv in_3, iv in_4, iv in_5, iv in_6, iv 3, iv 2, rv ob_4193, rv ob_4222, rv ob_4255, rv ob_4279, iv 0] [(.ref ob_4193)])) _
      refine oS (fun _ => XS.aload X4324.here hx rfl (hb hby at_70) rfl rfl) ?_
      have Z4333 : n0 ≤ h4271.size := by omega
      obtain ⟨T4334, h4335, v4336, L4337, X4338, e4339, q4340, s4341⟩ := own_callV X4324 hx hZ hown e4332 (y := mN11) (z := mN11) (C := cN1) (b := ob_4193) (oW hw 60 rfl) (oW hw 61 rfl) (notFace_of_selects (args := #[]) (mvT hZ (oW hw 63 rfl))) (oW hw 63 rfl) (oW hw 62 rfl) (oW hw 8 rfl) (oW hw 64 rfl) (by decide) F4302 (W := 0) (own_rm16 l Z a0 hw [] ob_4193 h4271 n0 Z4333 O4304 ) (by decide) (by decide) (by decide) (by decide) (g := (mkF m 72 #[iv in_1, iv in_2, iv in_3, iv in_4, iv in_5, iv in_6, iv 3, iv 2, rv ob_4193, rv ob_4222, rv ob_4255, rv ob_4279, iv 0] [(.ref ob_4193), (.ref ob_4193)])) rfl (by rw [hml]; rfl) (argsL := [(.ref ob_4193)]) (rest := []) rfl (lenOf own_pd11 rfl) rfl (by show 2 * 0 + _ ≤ _; exact Nat.le_of_eq rfl) (hb hby at_72)
      refine oS s4341 ?_
      obtain ⟨rfl, N4342, K4343⟩ := q4340
      have N4344 := Fr.app N4331 N4342
      have e4345 := e4339.trans K4343
      show own_G p e below (T4334.setTop (mkF m 75 #[iv in_1, iv in_2, iv in_3, iv in_4, iv in_5, iv in_6, iv 3, iv 2, rv ob_4193, rv ob_4222, rv ob_4255, rv ob_4279, iv 0] [(.int 1)])) _
      refine oS (fun _ => XS.ifYes X4338.here hx rfl (pc0 := 75) (pc' := 80) rfl (hb hby at_75) rfl (XT.i0_ne_t (by decide)) (by decide) (by decide)) ?_
      show own_G p e below (T4334.setTop (mkF m 80 #[iv in_1, iv in_2, iv in_3, iv in_4, iv in_5, iv in_6, iv 3, iv 2, rv ob_4193, rv ob_4222, rv ob_4255, rv ob_4279, iv 0] [])) _
      refine oS (fun _ => XS.aload X4338.here hx rfl (hb hby at_80) rfl rfl) ?_
      have Z4346 : n0 ≤ h4271.size := by omega
      obtain ⟨T4347, h4348, v4349, L4350, X4351, e4352, q4353, s4354⟩ := own_callV X4338 hx hZ hown e4345 (y := mN12) (z := mN12) (C := cN4) (b := ob_4279) (oW hw 70 rfl) (oW hw 71 rfl) (notFace_of_selects (args := #[]) (mvT hZ (oW hw 73 rfl))) (oW hw 73 rfl) (oW hw 72 rfl) (oW hw 37 rfl) (oW hw 74 rfl) (by decide) F4283 (W := 0) (own_rm15 l Z a0 hw [] ob_4279 ob_4222 h4271 n0 Z4346 O4304 F4284) (by decide) (by decide) (by decide) (by decide) (g := (mkF m 82 #[iv in_1, iv in_2, iv in_3, iv in_4, iv in_5, iv in_6, iv 3, iv 2, rv ob_4193, rv ob_4222, rv ob_4255, rv ob_4279, iv 0] [(.ref ob_4279)])) rfl (by rw [hml]; rfl) (argsL := []) (rest := []) rfl (lenOf own_pd12 rfl) rfl (by show 2 * 0 + _ ≤ _; exact Nat.le_of_eq rfl) (hb hby at_82)
      refine oS s4354 ?_
      obtain ⟨rfl, N4355, K4356⟩ := q4353
      have N4357 := Fr.app N4344 N4355
      have e4358 := e4352.trans K4356
      show own_G p e below (T4347.setTop (mkF m 85 #[iv in_1, iv in_2, iv in_3, iv in_4, iv in_5, iv in_6, iv 3, iv 2, rv ob_4193, rv ob_4222, rv ob_4255, rv ob_4279, iv 0] [(.ref ob_4222)])) _
      refine oS (fun _ => XS.aload X4351.here hx rfl (hb hby at_85) rfl rfl) ?_
      have Z4359 : n0 ≤ h4271.size := by omega
      obtain ⟨T4360, h4361, v4362, L4363, X4364, e4365, q4366, s4367⟩ := own_callV X4351 hx hZ hown e4358 (y := mN11) (z := mN11) (C := cN1) (b := ob_4222) (oW hw 60 rfl) (oW hw 61 rfl) (notFace_of_selects (args := #[]) (mvT hZ (oW hw 63 rfl))) (oW hw 63 rfl) (oW hw 62 rfl) (oW hw 8 rfl) (oW hw 64 rfl) (by decide) F4290 (W := 0) (own_rm16 l Z a0 hw [] ob_4222 h4271 n0 Z4359 O4304 ) (by decide) (by decide) (by decide) (by decide) (g := (mkF m 87 #[iv in_1, iv in_2, iv in_3, iv in_4, iv in_5, iv in_6, iv 3, iv 2, rv ob_4193, rv ob_4222, rv ob_4255, rv ob_4279, iv 0] [(.ref ob_4222), (.ref ob_4222)])) rfl (by rw [hml]; rfl) (argsL := [(.ref ob_4222)]) (rest := []) rfl (lenOf own_pd11 rfl) rfl (by show 2 * 0 + _ ≤ _; exact Nat.le_of_eq rfl) (hb hby at_87)
      refine oS s4367 ?_
      obtain ⟨rfl, N4368, K4369⟩ := q4366
      have N4370 := Fr.app N4357 N4368
      have e4371 := e4365.trans K4369
      show own_G p e below (T4360.setTop (mkF m 90 #[iv in_1, iv in_2, iv in_3, iv in_4, iv in_5, iv in_6, iv 3, iv 2, rv ob_4193, rv ob_4222, rv ob_4255, rv ob_4279, iv 0] [(.int 1)])) _
      refine oS (fun _ => XS.ifYes X4364.here hx rfl (pc0 := 90) (pc' := 95) rfl (hb hby at_90) rfl (XT.i0_ne_t (by decide)) (by decide) (by decide)) ?_
      show own_G p e below (T4360.setTop (mkF m 95 #[iv in_1, iv in_2, iv in_3, iv in_4, iv in_5, iv in_6, iv 3, iv 2, rv ob_4193, rv ob_4222, rv ob_4255, rv ob_4279, iv 0] [])) _
      refine oS (fun _ => XS.aload X4364.here hx rfl (hb hby at_95) rfl rfl) ?_
      have F4372 : Sta Z h4271 cN4 "NONE" cN8 (.ref ob_9) := Sta.ext O4304.2 I630
      obtain ⟨T4373, X4374, e4375, s4376⟩ := getS X4364 hx hZ hown (host := "") (oW hw 75 rfl) Via.refl e4371 F4372 (g := (mkF m 97 #[iv in_1, iv in_2, iv in_3, iv in_4, iv in_5, iv in_6, iv 3, iv 2, rv ob_4193, rv ob_4222, rv ob_4255, rv ob_4279, iv 0] [(.ref ob_4255)])) rfl (hb hby at_97)
      refine oS s4376 ?_
      show own_G p e below (T4373.setTop (mkF m 100 #[iv in_1, iv in_2, iv in_3, iv in_4, iv in_5, iv in_6, iv 3, iv 2, rv ob_4193, rv ob_4222, rv ob_4255, rv ob_4279, iv 0] [(.ref ob_9), (.ref ob_4255)])) _
      have N4377 : n0 ≤ ob_4193 := by omega
      have F4378 : Exa Z h4271 ob_9 cN4 := Exa.ext O4304.2 I640
      have F4379 : Fld Z h4271 ob_9 cN4 "name" cN5 (.ref ob_10) := Fld.ext O4304.2 I647
      have y4380 : @LT.lt Nat instLTNat ob_10 Z.heap.size := I659.lt
      have y4381 : Z.heap.size = n0 := O0.1
      have N4382 : @Ne Nat ob_10 ob_4193 := by omega
      have F4383 : Fld Z h4271 ob_10 cN1 "coder" "B" (.int 0) := Fld.ext O4304.2 I670
      have F4384 : Fld Z h4271 ob_10 cN1 "value" "[B" (.ref ob_11) := Fld.ext O4304.2 I674
      have F4385 : Arv Z h4271 ob_11 kk_12 FieldType.byte 0 [] (.int 0) := I678.ext O4304.2
      have Z4386 : n0 ≤ h4271.size := by omega
      obtain ⟨T4387, h4388, v4389, L4390, X4391, e4392, q4393, s4394⟩ := own_callV X4374 hx hZ hown e4375 (y := mN13) (z := mN13) (C := cN4) (b := ob_4255) (oW hw 77 rfl) (oW hw 78 rfl) (notFace_of_selects (args := #[]) (mvT hZ (oW hw 80 rfl))) (oW hw 80 rfl) (oW hw 79 rfl) (oW hw 37 rfl) (oW hw 81 rfl) (by decide) F4328 (W := 0) (own_rm70 l Z a0 hw [] ob_4255 ob_9 ob_10 ob_4193 in_7 ob_11 ob_4194 kk_12 kk_4195 in_1 in_2 in_3 h4271 n0 Z4386 O4304 I640 I647 F4318 I659 N4377 F4302 I68 I77 I670 F4293 I674 F4297 I678 F4300) (by decide) (by decide) (by decide) (by decide) (g := (mkF m 100 #[iv in_1, iv in_2, iv in_3, iv in_4, iv in_5, iv in_6, iv 3, iv 2, rv ob_4193, rv ob_4222, rv ob_4255, rv ob_4279, iv 0] [(.ref ob_9), (.ref ob_4255)])) rfl (by rw [hml]; rfl) (argsL := [(.ref ob_9)]) (rest := []) rfl (lenOf own_pd11 rfl) rfl (by show 2 * 0 + _ ≤ _; exact Nat.le_of_eq rfl) (hb hby at_100)
      refine oS s4394 ?_
      obtain ⟨rfl, N4395, K4396⟩ := q4393
      have N4397 := Fr.app N4370 N4395
      have e4398 := e4392.trans K4396
      show own_G p e below (T4387.setTop (mkF m 103 #[iv in_1, iv in_2, iv in_3, iv in_4, iv in_5, iv in_6, iv 3, iv 2, rv ob_4193, rv ob_4222, rv ob_4255, rv ob_4279, iv 0] [(.int 0)])) _
      refine oS (fun _ => XS.ifYes X4391.here hx rfl (pc0 := 103) (pc' := 108) rfl (hb hby at_103) rfl (XT.i0_eq_t (by decide)) (by decide) (by decide)) ?_
      show own_G p e below (T4387.setTop (mkF m 108 #[iv in_1, iv in_2, iv in_3, iv in_4, iv in_5, iv in_6, iv 3, iv 2, rv ob_4193, rv ob_4222, rv ob_4255, rv ob_4279, iv 0] [])) _
      refine oS (fun _ => XS.aload X4391.here hx rfl (hb hby at_108) rfl rfl) ?_
      refine oS (fun _ => XS.aload X4391.here hx rfl (hb hby at_110) rfl rfl) ?_
      have Z4441 : n0 ≤ h4271.size := by omega
      obtain ⟨T4442, h4443, v4444, L4445, X4446, e4447, q4448, s4449⟩ := own_callV X4391 hx hZ hown e4398 (y := mN13) (z := mN13) (C := cN4) (b := ob_4255) (oW hw 77 rfl) (oW hw 78 rfl) (notFace_of_selects (args := #[]) (mvT hZ (oW hw 80 rfl))) (oW hw 80 rfl) (oW hw 79 rfl) (oW hw 37 rfl) (oW hw 81 rfl) (by decide) F4328 (W := 0) (own_rm74 l Z a0 hw [] ob_4255 ob_4279 ob_4222 ob_4193 in_7 ob_4223 ob_4194 kk_4224 in_1 in_2 kk_4195 in_3 h4271 n0 Z4441 O4304 F4283 F4284 F4318 (Ne.symm N4289) F4302 I68 I77 F4295 F4293 F4298 F4297 F4303 F4290 F4300) (by decide) (by decide) (by decide) (by decide) (g := (mkF m 112 #[iv in_1, iv in_2, iv in_3, iv in_4, iv in_5, iv in_6, iv 3, iv 2, rv ob_4193, rv ob_4222, rv ob_4255, rv ob_4279, iv 0] [(.ref ob_4279), (.ref ob_4255)])) rfl (by rw [hml]; rfl) (argsL := [(.ref ob_4279)]) (rest := []) rfl (lenOf own_pd11 rfl) rfl (by show 2 * 0 + _ ≤ _; exact Nat.le_of_eq rfl) (hb hby at_112)
      refine oS s4449 ?_
      obtain ⟨rfl, N4450, K4451⟩ := q4448
      have N4452 := Fr.app N4397 N4450
      have e4453 := e4447.trans K4451
      show own_G p e below (T4442.setTop (mkF m 115 #[iv in_1, iv in_2, iv in_3, iv in_4, iv in_5, iv in_6, iv 3, iv 2, rv ob_4193, rv ob_4222, rv ob_4255, rv ob_4279, iv 0] [(.int 0)])) _
      refine oS (fun _ => XS.iload X4446.here hx rfl (hb hby at_115) rfl) ?_
      refine oS (fun _ => XS.icmpYes X4446.here hx rfl (pc0 := 117) (pc' := 122) rfl (hb hby at_117) rfl (XT.ii_eq_t (by decide)) (by decide) (by decide)) ?_
      show own_G p e below (T4442.setTop (mkF m 122 #[iv in_1, iv in_2, iv in_3, iv in_4, iv in_5, iv in_6, iv 3, iv 2, rv ob_4193, rv ob_4222, rv ob_4255, rv ob_4279, iv 0] [])) _
      refine oS (fun _ => XS.iload X4446.here hx rfl (hb hby at_122) rfl) ?_
      refine oS (fun _ => XS.ifYes X4446.here hx rfl (pc0 := 124) (pc' := 142) rfl (hb hby at_124) rfl (XT.i0_eq_t (by decide)) (by decide) (by decide)) ?_
      show own_G p e below (T4442.setTop (mkF m 142 #[iv in_1, iv in_2, iv in_3, iv in_4, iv in_5, iv in_6, iv 3, iv 2, rv ob_4193, rv ob_4222, rv ob_4255, rv ob_4279, iv 0] [])) _
      refine oS (fun _ => XS.iconst X4446.here hx rfl (hb hby at_142) ) ?_
      have K4454 : Keep h0 h4271 [] := (((((Keep.refl h0 []).trans K4197 all0).trans K4226 all0).trans K4257 all0).trans K4281 all0)
      exact own_retNW X4446 hx (t := .boolean) Bd.notSynchronized Bd.returns (by simp) (hb hby at_143) (by decide) hS hZ hEL hh R4287 e4453 (by omega) (by decide) (by decide) (fun hA => ⟨rfl, N4452⟩)
    · skip
      refine own_cast (g' := (mkF m 19 #[iv in_1, iv in_2, iv in_3, iv in_4, iv in_5, iv in_6, iv 3, .unset, .unset, .unset, .unset, .unset, .unset] [(.int 2), (.int 1)])) (by rw [q3800]) ?_
      show own_G p e below (s₁.setTop (mkF m 19 #[iv in_1, iv in_2, iv in_3, iv in_4, iv in_5, iv in_6, iv 3, .unset, .unset, .unset, .unset, .unset, .unset] [(.int 2), (.int 1)])) _
      refine oS (fun _ => XS.iadd X0.here hx rfl (hb hby at_19) rfl) ?_
      refine oS (fun _ => XS.istore X0.here hx rfl (hb hby at_20) rfl (l' := #[iv in_1, iv in_2, iv in_3, iv in_4, iv in_5, iv in_6, iv 3, iv 3, .unset, .unset, .unset, .unset, .unset]) rfl) ?_
      refine oS (fun _ => XS.iload X0.here hx rfl (hb hby at_22) rfl) ?_
      refine oS (fun _ => XS.iloadN X0.here hx rfl (hb hby at_24) rfl) ?_
      show own_G p e below (s₁.setTop (mkF m 25 #[iv in_1, iv in_2, iv in_3, iv in_4, iv in_5, iv in_6, iv 3, iv 3, .unset, .unset, .unset, .unset, .unset] [(.int in_1), (.int 3)])) _
      refine oS (fun _ => XS.iloadN X0.here hx rfl (hb hby at_25) rfl) ?_
      refine oS (fun _ => XS.iloadN X0.here hx rfl (hb hby at_26) rfl) ?_
      obtain ⟨T4455, h4456, v4457, L4458, X4459, e4460, q4461, s4462⟩ := own_callS X0 hx hZ hown e0 (y := mN5) (oW hw 1 rfl) (oW hw 2 rfl) (oW hw 3 rfl) (oW hw 4 rfl) (by decide) (W := 0) (own_rm39 l Z a0 hw [] in_1 in_2 in_3 in_7 h0 n0 Z0 O0 I68 I77) (by decide) (by decide) (by decide) (by decide) (g := (mkF m 27 #[iv in_1, iv in_2, iv in_3, iv in_4, iv in_5, iv in_6, iv 3, iv 3, .unset, .unset, .unset, .unset, .unset] [(.int in_3), (.int in_2), (.int in_1), (.int 3)])) rfl (by rw [hml]; rfl) (argsL := [(.int 3), (.int in_1), (.int in_2), (.int in_3)]) (rest := []) rfl (lenOf own_pd5 rfl) rfl (by show 2 * 0 + _ ≤ _; exact Nat.le_of_eq rfl) (hb hby at_27)
      refine oS s4462 ?_
      obtain ⟨ob_4463, ob_4464, kk_4465, rfl, N4466, K4467, F4468, F4469, F4470, F4471, F4472, F4473, F4474, F4475, F4476, F4477, F4478⟩ := q4461
      have N4479 := Fr.app N0 N4466
      have R4480 : CHr Z own_EL s.vm h0 s.vm h4456 := hR.trans (CHr.keep K4467 sf0 hR.1)
      have z4481 := K4467.1
      show own_G p e below (T4455.setTop (mkF m 30 #[iv in_1, iv in_2, iv in_3, iv in_4, iv in_5, iv in_6, iv 3, iv 3, .unset, .unset, .unset, .unset, .unset] [(.ref ob_4463)])) _
      refine oS (fun _ => XS.astore X4459.here hx rfl (hb hby at_30) rfl rfl (l' := #[iv in_1, iv in_2, iv in_3, iv in_4, iv in_5, iv in_6, iv 3, iv 3, rv ob_4463, .unset, .unset, .unset, .unset]) rfl) ?_
      refine oS (fun _ => XS.iload X4459.here hx rfl (hb hby at_32) rfl) ?_
      refine oS (fun _ => XS.iloadN X4459.here hx rfl (hb hby at_34) rfl) ?_
      refine oS (fun _ => XS.iloadN X4459.here hx rfl (hb hby at_35) rfl) ?_
      show own_G p e below (T4455.setTop (mkF m 36 #[iv in_1, iv in_2, iv in_3, iv in_4, iv in_5, iv in_6, iv 3, iv 3, rv ob_4463, .unset, .unset, .unset, .unset] [(.int in_2), (.int in_1), (.int 3)])) _
      refine oS (fun _ => XS.iloadN X4459.here hx rfl (hb hby at_36) rfl) ?_
      have O4482 : Old Z n0 h4456 := O0.keep K4467 all0
      have Z4483 : n0 ≤ h4456.size := by omega
      obtain ⟨T4484, h4485, v4486, L4487, X4488, e4489, q4490, s4491⟩ := own_callS X4459 hx hZ hown e4460 (y := mN5) (oW hw 1 rfl) (oW hw 2 rfl) (oW hw 3 rfl) (oW hw 4 rfl) (by decide) (W := 0) (own_rm39 l Z a0 hw [] in_1 in_2 in_4 in_7 h4456 n0 Z4483 O4482 I68 I77) (by decide) (by decide) (by decide) (by decide) (g := (mkF m 37 #[iv in_1, iv in_2, iv in_3, iv in_4, iv in_5, iv in_6, iv 3, iv 3, rv ob_4463, .unset, .unset, .unset, .unset] [(.int in_4), (.int in_2), (.int in_1), (.int 3)])) rfl (by rw [hml]; rfl) (argsL := [(.int 3), (.int in_1), (.int in_2), (.int in_4)]) (rest := []) rfl (lenOf own_pd5 rfl) rfl (by show 2 * 0 + _ ≤ _; exact Nat.le_of_eq rfl) (hb hby at_37)
      refine oS s4491 ?_
      obtain ⟨ob_4492, ob_4493, kk_4494, rfl, N4495, K4496, F4497, F4498, F4499, F4500, F4501, F4502, F4503, F4504, F4505, F4506, F4507⟩ := q4490
      have N4508 := Fr.app N4479 N4495
      have R4509 : CHr Z own_EL s.vm h0 s.vm h4485 := R4480.trans (CHr.keep K4496 sf0 R4480.1)
      have z4510 := K4496.1
      show own_G p e below (T4484.setTop (mkF m 40 #[iv in_1, iv in_2, iv in_3, iv in_4, iv in_5, iv in_6, iv 3, iv 3, rv ob_4463, .unset, .unset, .unset, .unset] [(.ref ob_4492)])) _
      refine oS (fun _ => XS.astore X4488.here hx rfl (hb hby at_40) rfl rfl (l' := #[iv in_1, iv in_2, iv in_3, iv in_4, iv in_5, iv in_6, iv 3, iv 3, rv ob_4463, rv ob_4492, .unset, .unset, .unset]) rfl) ?_
      refine oS (fun _ => XS.aload X4488.here hx rfl (hb hby at_42) rfl rfl) ?_
      have F4511 : Exa Z h4485 ob_4463 cN1 := F4470.keep K4496
      have F4512 : Fld Z h4485 ob_4463 cN1 "value" "[B" (.ref ob_4464) := F4472.keep K4496 nin0
      have F4513 : Arv Z h4485 ob_4464 kk_4465 .byte 3 [(.int ((in_1 &&& 255).toInt8.toInt32)), (.int ((in_2 &&& 255).toInt8.toInt32)), (.int ((in_3 &&& 255).toInt8.toInt32))] (.int 0) := F4475.keep K4496 nin0
      have O4514 : Old Z n0 h4485 := O4482.keep K4496 all0
      have Z4515 : n0 ≤ h4485.size := by omega
      obtain ⟨T4516, h4517, v4518, L4519, X4520, e4521, q4522, hS, hZ, hown, A4523, s4524⟩ := own_callSW X4488 hx hZ hown e4489 (y := mN9) (sf := []) (oW hw 35 rfl) (oW hw 36 rfl) (oW hw 37 rfl) (oW hw 38 rfl) (by decide) hS (by omega) hEL R4509.1 sf0 all0 (W := 0) (own_rm46 l Z a0 hw hEL [] ob_4463 ob_4464 kk_4465 in_1 in_2 in_3 h4485 n0 Z4515 O4514 F4511 F4512 F4513) (by decide) (by decide) (by decide) (by decide) (g := (mkF m 44 #[iv in_1, iv in_2, iv in_3, iv in_4, iv in_5, iv in_6, iv 3, iv 3, rv ob_4463, rv ob_4492, .unset, .unset, .unset] [(.ref ob_4463)])) rfl (by rw [hml]; rfl) (argsL := [(.ref ob_4463)]) (rest := []) rfl (lenOf own_pd9 rfl) rfl (by show 2 * 0 + _ ≤ _; exact Nat.le_of_eq rfl) (hb hby at_44)
      refine oS s4524 ?_
      obtain ⟨ob_4525, rfl, N4526, K4527, F4528, F4529, F4530, F4531⟩ := q4522
      have N4532 := Fr.app N4508 N4526
      have R4533 : CHr Z own_EL s.vm h0 T4516.vm h4517 := R4509.trans A4523
      have z4534 := K4527.1
      show own_G p e below (T4516.setTop (mkF m 47 #[iv in_1, iv in_2, iv in_3, iv in_4, iv in_5, iv in_6, iv 3, iv 3, rv ob_4463, rv ob_4492, .unset, .unset, .unset] [(.ref ob_4525)])) _
      refine oS (fun _ => XS.astore X4520.here hx rfl (hb hby at_47) rfl rfl (l' := #[iv in_1, iv in_2, iv in_3, iv in_4, iv in_5, iv in_6, iv 3, iv 3, rv ob_4463, rv ob_4492, rv ob_4525, .unset, .unset]) rfl) ?_
      refine oS (fun _ => XS.aload X4520.here hx rfl (hb hby at_49) rfl rfl) ?_
      have F4535 : Exa Z h4517 ob_4492 cN1 := F4499.keep K4527
      have F4536 : Fld Z h4517 ob_4492 cN1 "value" "[B" (.ref ob_4493) := F4501.keep K4527 nin0
      have F4537 : Arv Z h4517 ob_4493 kk_4494 .byte 3 [(.int ((in_1 &&& 255).toInt8.toInt32)), (.int ((in_2 &&& 255).toInt8.toInt32)), (.int ((in_4 &&& 255).toInt8.toInt32))] (.int 0) := F4504.keep K4527 nin0
      have O4538 : Old Z n0 h4517 := O4514.keep K4527 all0
      have Z4539 : n0 ≤ h4517.size := by omega
      obtain ⟨T4540, h4541, v4542, L4543, X4544, e4545, q4546, hS, hZ, hown, A4547, s4548⟩ := own_callSW X4520 hx hZ hown e4521 (y := mN9) (sf := []) (oW hw 35 rfl) (oW hw 36 rfl) (oW hw 37 rfl) (oW hw 38 rfl) (by decide) hS (by omega) hEL R4533.1 sf0 all0 (W := 0) (own_rm46 l Z a0 hw hEL [] ob_4492 ob_4493 kk_4494 in_1 in_2 in_4 h4517 n0 Z4539 O4538 F4535 F4536 F4537) (by decide) (by decide) (by decide) (by decide) (g := (mkF m 51 #[iv in_1, iv in_2, iv in_3, iv in_4, iv in_5, iv in_6, iv 3, iv 3, rv ob_4463, rv ob_4492, rv ob_4525, .unset, .unset] [(.ref ob_4492)])) rfl (by rw [hml]; rfl) (argsL := [(.ref ob_4492)]) (rest := []) rfl (lenOf own_pd9 rfl) rfl (by show 2 * 0 + _ ≤ _; exact Nat.le_of_eq rfl) (hb hby at_51)
      refine oS s4548 ?_
      obtain ⟨ob_4549, rfl, N4550, K4551, F4552, F4553, F4554, F4555⟩ := q4546
      have N4556 := Fr.app N4532 N4550
      have R4557 : CHr Z own_EL s.vm h0 T4540.vm h4541 := R4533.trans A4547
      have z4558 := K4551.1
      show own_G p e below (T4540.setTop (mkF m 54 #[iv in_1, iv in_2, iv in_3, iv in_4, iv in_5, iv in_6, iv 3, iv 3, rv ob_4463, rv ob_4492, rv ob_4525, .unset, .unset] [(.ref ob_4549)])) _
      refine oS (fun _ => XS.astore X4544.here hx rfl (hb hby at_54) rfl rfl (l' := #[iv in_1, iv in_2, iv in_3, iv in_4, iv in_5, iv in_6, iv 3, iv 3, rv ob_4463, rv ob_4492, rv ob_4525, rv ob_4549, .unset]) rfl) ?_
      refine oS (fun _ => XS.aload X4544.here hx rfl (hb hby at_56) rfl rfl) ?_
      refine oS (fun _ => XS.aload X4544.here hx rfl (hb hby at_58) rfl rfl) ?_
      have N4559 : @Ne Nat ob_4463 ob_4492 := by omega
      have F4560 : Exa Z h4541 ob_4492 cN1 := F4535.keep K4551
      have F4561 : Fld Z h4485 ob_4463 cN1 "coder" "B" (.int 0) := F4471.keep K4496 nin0
      have F4562 : Fld Z h4517 ob_4463 cN1 "coder" "B" (.int 0) := F4561.keep K4527 nin0
      have F4563 : Fld Z h4541 ob_4463 cN1 "coder" "B" (.int 0) := F4562.keep K4551 nin0
      have F4564 : Fld Z h4517 ob_4492 cN1 "coder" "B" (.int 0) := F4500.keep K4527 nin0
      have F4565 : Fld Z h4541 ob_4492 cN1 "coder" "B" (.int 0) := F4564.keep K4551 nin0
      have F4566 : Fld Z h4517 ob_4463 cN1 "value" "[B" (.ref ob_4464) := F4512.keep K4527 nin0
      have F4567 : Fld Z h4541 ob_4463 cN1 "value" "[B" (.ref ob_4464) := F4566.keep K4551 nin0
      have F4568 : Fld Z h4541 ob_4492 cN1 "value" "[B" (.ref ob_4493) := F4536.keep K4551 nin0
      have F4569 : Arv Z h4517 ob_4464 kk_4465 .byte 3 [(.int ((in_1 &&& 255).toInt8.toInt32)), (.int ((in_2 &&& 255).toInt8.toInt32)), (.int ((in_3 &&& 255).toInt8.toInt32))] (.int 0) := F4513.keep K4527 nin0
      have F4570 : Arv Z h4541 ob_4464 kk_4465 .byte 3 [(.int ((in_1 &&& 255).toInt8.toInt32)), (.int ((in_2 &&& 255).toInt8.toInt32)), (.int ((in_3 &&& 255).toInt8.toInt32))] (.int 0) := F4569.keep K4551 nin0
      have F4571 : Exa Z h4517 ob_4463 cN1 := F4511.keep K4527
      have F4572 : Exa Z h4541 ob_4463 cN1 := F4571.keep K4551
      have F4573 : Arv Z h4541 ob_4493 kk_4494 .byte 3 [(.int ((in_1 &&& 255).toInt8.toInt32)), (.int ((in_2 &&& 255).toInt8.toInt32)), (.int ((in_4 &&& 255).toInt8.toInt32))] (.int 0) := F4537.keep K4551 nin0
      have O4634 : Old Z n0 h4541 := O4538.keep K4551 all0
      have Z4635 : n0 ≤ h4541.size := by omega
      obtain ⟨T4636, h4637, v4638, L4639, X4640, e4641, q4642, s4643⟩ := own_callV X4544 hx hZ hown e4545 (y := mN11) (z := mN11) (C := cN1) (b := ob_4463) (oW hw 60 rfl) (oW hw 61 rfl) (notFace_of_selects (args := #[]) (mvT hZ (oW hw 63 rfl))) (oW hw 63 rfl) (oW hw 62 rfl) (oW hw 8 rfl) (oW hw 64 rfl) (by decide) F4572 (W := 0) (own_rm75 l Z a0 hw [] ob_4463 ob_4492 in_7 ob_4464 ob_4493 kk_4465 in_1 in_2 in_3 kk_4494 in_4 h4541 n0 Z4635 O4634 N4559 F4560 I68 I77 F4563 F4565 F4567 F4568 F4570 F4573) (by decide) (by decide) (by decide) (by decide) (g := (mkF m 60 #[iv in_1, iv in_2, iv in_3, iv in_4, iv in_5, iv in_6, iv 3, iv 3, rv ob_4463, rv ob_4492, rv ob_4525, rv ob_4549, .unset] [(.ref ob_4492), (.ref ob_4463)])) rfl (by rw [hml]; rfl) (argsL := [(.ref ob_4492)]) (rest := []) rfl (lenOf own_pd11 rfl) rfl (by show 2 * 0 + _ ≤ _; exact Nat.le_of_eq rfl) (hb hby at_60)
      refine oS s4643 ?_
      rcases q4642 with ⟨b4644, rfl, N4645, K4646⟩ | ⟨b4647, rfl, N4648, K4649⟩
      · skip
        have N4650 := Fr.app N4556 N4645
        have e4651 := e4641.trans K4646
        show own_G p e below (T4636.setTop (mkF m 63 #[iv in_1, iv in_2, iv in_3, iv in_4, iv in_5, iv in_6, iv 3, iv 3, rv ob_4463, rv ob_4492, rv ob_4525, rv ob_4549, .unset] [(.int 1)])) _
        refine oS (fun _ => XS.istore X4640.here hx rfl (hb hby at_63) rfl (l' := #[iv in_1, iv in_2, iv in_3, iv in_4, iv in_5, iv in_6, iv 3, iv 3, rv ob_4463, rv ob_4492, rv ob_4525, rv ob_4549, iv 1]) rfl) ?_
        refine oS (fun _ => XS.aload X4640.here hx rfl (hb hby at_65) rfl rfl) ?_
        have F4652 : Fld Z h4541 ob_4525 cN4 "name" cN5 (.ref ob_4463) := F4530.keep K4551 nin0
        have Z4653 : n0 ≤ h4541.size := by omega
        have F4662 : Exa Z h4541 ob_4525 cN4 := F4529.keep K4551
        obtain ⟨T4654, h4655, v4656, L4657, X4658, e4659, q4660, s4661⟩ := own_callV X4640 hx hZ hown e4651 (y := mN12) (z := mN12) (C := cN4) (b := ob_4525) (oW hw 70 rfl) (oW hw 71 rfl) (notFace_of_selects (args := #[]) (mvT hZ (oW hw 73 rfl))) (oW hw 73 rfl) (oW hw 72 rfl) (oW hw 37 rfl) (oW hw 74 rfl) (by decide) F4662 (W := 0) (own_rm15 l Z a0 hw [] ob_4525 ob_4463 h4541 n0 Z4653 O4634 F4652) (by decide) (by decide) (by decide) (by decide) (g := (mkF m 67 #[iv in_1, iv in_2, iv in_3, iv in_4, iv in_5, iv in_6, iv 3, iv 3, rv ob_4463, rv ob_4492, rv ob_4525, rv ob_4549, iv 1] [(.ref ob_4525)])) rfl (by rw [hml]; rfl) (argsL := []) (rest := []) rfl (lenOf own_pd12 rfl) rfl (by show 2 * 0 + _ ≤ _; exact Nat.le_of_eq rfl) (hb hby at_67)
        refine oS s4661 ?_
        obtain ⟨rfl, N4663, K4664⟩ := q4660
        have N4665 := Fr.app N4650 N4663
        have e4666 := e4659.trans K4664
        show own_G p e below (T4654.setTop (mkF m 70 #[iv in_1, iv in_2, iv in_3, iv in_4, iv in_5, iv in_6, iv 3, iv 3, rv ob_4463, rv ob_4492, rv ob_4525, rv ob_4549, iv 1] [(.ref ob_4463)])) _
        refine oS (fun _ => XS.aload X4658.here hx rfl (hb hby at_70) rfl rfl) ?_
        have Z4667 : n0 ≤ h4541.size := by omega
        obtain ⟨T4668, h4669, v4670, L4671, X4672, e4673, q4674, s4675⟩ := own_callV X4658 hx hZ hown e4666 (y := mN11) (z := mN11) (C := cN1) (b := ob_4463) (oW hw 60 rfl) (oW hw 61 rfl) (notFace_of_selects (args := #[]) (mvT hZ (oW hw 63 rfl))) (oW hw 63 rfl) (oW hw 62 rfl) (oW hw 8 rfl) (oW hw 64 rfl) (by decide) F4572 (W := 0) (own_rm16 l Z a0 hw [] ob_4463 h4541 n0 Z4667 O4634 ) (by decide) (by decide) (by decide) (by decide) (g := (mkF m 72 #[iv in_1, iv in_2, iv in_3, iv in_4, iv in_5, iv in_6, iv 3, iv 3, rv ob_4463, rv ob_4492, rv ob_4525, rv ob_4549, iv 1] [(.ref ob_4463), (.ref ob_4463)])) rfl (by rw [hml]; rfl) (argsL := [(.ref ob_4463)]) (rest := []) rfl (lenOf own_pd11 rfl) rfl (by show 2 * 0 + _ ≤ _; exact Nat.le_of_eq rfl) (hb hby at_72)
        refine oS s4675 ?_
        obtain ⟨rfl, N4676, K4677⟩ := q4674
        have N4678 := Fr.app N4665 N4676
        have e4679 := e4673.trans K4677
        show own_G p e below (T4668.setTop (mkF m 75 #[iv in_1, iv in_2, iv in_3, iv in_4, iv in_5, iv in_6, iv 3, iv 3, rv ob_4463, rv ob_4492, rv ob_4525, rv ob_4549, iv 1] [(.int 1)])) _
        refine oS (fun _ => XS.ifYes X4672.here hx rfl (pc0 := 75) (pc' := 80) rfl (hb hby at_75) rfl (XT.i0_ne_t (by decide)) (by decide) (by decide)) ?_
        show own_G p e below (T4668.setTop (mkF m 80 #[iv in_1, iv in_2, iv in_3, iv in_4, iv in_5, iv in_6, iv 3, iv 3, rv ob_4463, rv ob_4492, rv ob_4525, rv ob_4549, iv 1] [])) _
        refine oS (fun _ => XS.aload X4672.here hx rfl (hb hby at_80) rfl rfl) ?_
        have Z4680 : n0 ≤ h4541.size := by omega
        obtain ⟨T4681, h4682, v4683, L4684, X4685, e4686, q4687, s4688⟩ := own_callV X4672 hx hZ hown e4679 (y := mN12) (z := mN12) (C := cN4) (b := ob_4549) (oW hw 70 rfl) (oW hw 71 rfl) (notFace_of_selects (args := #[]) (mvT hZ (oW hw 73 rfl))) (oW hw 73 rfl) (oW hw 72 rfl) (oW hw 37 rfl) (oW hw 74 rfl) (by decide) F4553 (W := 0) (own_rm15 l Z a0 hw [] ob_4549 ob_4492 h4541 n0 Z4680 O4634 F4554) (by decide) (by decide) (by decide) (by decide) (g := (mkF m 82 #[iv in_1, iv in_2, iv in_3, iv in_4, iv in_5, iv in_6, iv 3, iv 3, rv ob_4463, rv ob_4492, rv ob_4525, rv ob_4549, iv 1] [(.ref ob_4549)])) rfl (by rw [hml]; rfl) (argsL := []) (rest := []) rfl (lenOf own_pd12 rfl) rfl (by show 2 * 0 + _ ≤ _; exact Nat.le_of_eq rfl) (hb hby at_82)
        refine oS s4688 ?_
        obtain ⟨rfl, N4689, K4690⟩ := q4687
        have N4691 := Fr.app N4678 N4689
        have e4692 := e4686.trans K4690
        show own_G p e below (T4681.setTop (mkF m 85 #[iv in_1, iv in_2, iv in_3, iv in_4, iv in_5, iv in_6, iv 3, iv 3, rv ob_4463, rv ob_4492, rv ob_4525, rv ob_4549, iv 1] [(.ref ob_4492)])) _
        refine oS (fun _ => XS.aload X4685.here hx rfl (hb hby at_85) rfl rfl) ?_
        have Z4693 : n0 ≤ h4541.size := by omega
        obtain ⟨T4694, h4695, v4696, L4697, X4698, e4699, q4700, s4701⟩ := own_callV X4685 hx hZ hown e4692 (y := mN11) (z := mN11) (C := cN1) (b := ob_4492) (oW hw 60 rfl) (oW hw 61 rfl) (notFace_of_selects (args := #[]) (mvT hZ (oW hw 63 rfl))) (oW hw 63 rfl) (oW hw 62 rfl) (oW hw 8 rfl) (oW hw 64 rfl) (by decide) F4560 (W := 0) (own_rm16 l Z a0 hw [] ob_4492 h4541 n0 Z4693 O4634 ) (by decide) (by decide) (by decide) (by decide) (g := (mkF m 87 #[iv in_1, iv in_2, iv in_3, iv in_4, iv in_5, iv in_6, iv 3, iv 3, rv ob_4463, rv ob_4492, rv ob_4525, rv ob_4549, iv 1] [(.ref ob_4492), (.ref ob_4492)])) rfl (by rw [hml]; rfl) (argsL := [(.ref ob_4492)]) (rest := []) rfl (lenOf own_pd11 rfl) rfl (by show 2 * 0 + _ ≤ _; exact Nat.le_of_eq rfl) (hb hby at_87)
        refine oS s4701 ?_
        obtain ⟨rfl, N4702, K4703⟩ := q4700
        have N4704 := Fr.app N4691 N4702
        have e4705 := e4699.trans K4703
        show own_G p e below (T4694.setTop (mkF m 90 #[iv in_1, iv in_2, iv in_3, iv in_4, iv in_5, iv in_6, iv 3, iv 3, rv ob_4463, rv ob_4492, rv ob_4525, rv ob_4549, iv 1] [(.int 1)])) _
        refine oS (fun _ => XS.ifYes X4698.here hx rfl (pc0 := 90) (pc' := 95) rfl (hb hby at_90) rfl (XT.i0_ne_t (by decide)) (by decide) (by decide)) ?_
        show own_G p e below (T4694.setTop (mkF m 95 #[iv in_1, iv in_2, iv in_3, iv in_4, iv in_5, iv in_6, iv 3, iv 3, rv ob_4463, rv ob_4492, rv ob_4525, rv ob_4549, iv 1] [])) _
        refine oS (fun _ => XS.aload X4698.here hx rfl (hb hby at_95) rfl rfl) ?_
        have F4706 : Sta Z h4541 cN4 "NONE" cN8 (.ref ob_9) := Sta.ext O4634.2 I630
        obtain ⟨T4707, X4708, e4709, s4710⟩ := getS X4698 hx hZ hown (host := "") (oW hw 75 rfl) Via.refl e4705 F4706 (g := (mkF m 97 #[iv in_1, iv in_2, iv in_3, iv in_4, iv in_5, iv in_6, iv 3, iv 3, rv ob_4463, rv ob_4492, rv ob_4525, rv ob_4549, iv 1] [(.ref ob_4525)])) rfl (hb hby at_97)
        refine oS s4710 ?_
        show own_G p e below (T4707.setTop (mkF m 100 #[iv in_1, iv in_2, iv in_3, iv in_4, iv in_5, iv in_6, iv 3, iv 3, rv ob_4463, rv ob_4492, rv ob_4525, rv ob_4549, iv 1] [(.ref ob_9), (.ref ob_4525)])) _
        have N4711 : n0 ≤ ob_4463 := by omega
        have F4712 : Exa Z h4541 ob_9 cN4 := Exa.ext O4634.2 I640
        have F4713 : Fld Z h4541 ob_9 cN4 "name" cN5 (.ref ob_10) := Fld.ext O4634.2 I647
        have y4714 : @LT.lt Nat instLTNat ob_10 Z.heap.size := I659.lt
        have y4715 : Z.heap.size = n0 := O0.1
        have N4716 : @Ne Nat ob_10 ob_4463 := by omega
        have F4717 : Fld Z h4541 ob_10 cN1 "coder" "B" (.int 0) := Fld.ext O4634.2 I670
        have F4718 : Fld Z h4541 ob_10 cN1 "value" "[B" (.ref ob_11) := Fld.ext O4634.2 I674
        have F4719 : Arv Z h4541 ob_11 kk_12 FieldType.byte 0 [] (.int 0) := I678.ext O4634.2
        have Z4720 : n0 ≤ h4541.size := by omega
        obtain ⟨T4721, h4722, v4723, L4724, X4725, e4726, q4727, s4728⟩ := own_callV X4708 hx hZ hown e4709 (y := mN13) (z := mN13) (C := cN4) (b := ob_4525) (oW hw 77 rfl) (oW hw 78 rfl) (notFace_of_selects (args := #[]) (mvT hZ (oW hw 80 rfl))) (oW hw 80 rfl) (oW hw 79 rfl) (oW hw 37 rfl) (oW hw 81 rfl) (by decide) F4662 (W := 0) (own_rm70 l Z a0 hw [] ob_4525 ob_9 ob_10 ob_4463 in_7 ob_11 ob_4464 kk_12 kk_4465 in_1 in_2 in_3 h4541 n0 Z4720 O4634 I640 I647 F4652 I659 N4711 F4572 I68 I77 I670 F4563 I674 F4567 I678 F4570) (by decide) (by decide) (by decide) (by decide) (g := (mkF m 100 #[iv in_1, iv in_2, iv in_3, iv in_4, iv in_5, iv in_6, iv 3, iv 3, rv ob_4463, rv ob_4492, rv ob_4525, rv ob_4549, iv 1] [(.ref ob_9), (.ref ob_4525)])) rfl (by rw [hml]; rfl) (argsL := [(.ref ob_9)]) (rest := []) rfl (lenOf own_pd11 rfl) rfl (by show 2 * 0 + _ ≤ _; exact Nat.le_of_eq rfl) (hb hby at_100)
        refine oS s4728 ?_
        obtain ⟨rfl, N4729, K4730⟩ := q4727
        have N4731 := Fr.app N4704 N4729
        have e4732 := e4726.trans K4730
        show own_G p e below (T4721.setTop (mkF m 103 #[iv in_1, iv in_2, iv in_3, iv in_4, iv in_5, iv in_6, iv 3, iv 3, rv ob_4463, rv ob_4492, rv ob_4525, rv ob_4549, iv 1] [(.int 0)])) _
        refine oS (fun _ => XS.ifYes X4725.here hx rfl (pc0 := 103) (pc' := 108) rfl (hb hby at_103) rfl (XT.i0_eq_t (by decide)) (by decide) (by decide)) ?_
        show own_G p e below (T4721.setTop (mkF m 108 #[iv in_1, iv in_2, iv in_3, iv in_4, iv in_5, iv in_6, iv 3, iv 3, rv ob_4463, rv ob_4492, rv ob_4525, rv ob_4549, iv 1] [])) _
        refine oS (fun _ => XS.aload X4725.here hx rfl (hb hby at_108) rfl rfl) ?_
        refine oS (fun _ => XS.aload X4725.here hx rfl (hb hby at_110) rfl rfl) ?_
        have Z4780 : n0 ≤ h4541.size := by omega
        obtain ⟨T4781, h4782, v4783, L4784, X4785, e4786, q4787, s4788⟩ := own_callV X4725 hx hZ hown e4732 (y := mN13) (z := mN13) (C := cN4) (b := ob_4525) (oW hw 77 rfl) (oW hw 78 rfl) (notFace_of_selects (args := #[]) (mvT hZ (oW hw 80 rfl))) (oW hw 80 rfl) (oW hw 79 rfl) (oW hw 37 rfl) (oW hw 81 rfl) (by decide) F4662 (W := 0) (own_rm77 l Z a0 hw [] ob_4525 ob_4549 ob_4492 ob_4463 in_7 ob_4493 ob_4464 kk_4494 in_1 in_2 in_4 kk_4465 in_3 h4541 n0 Z4780 O4634 F4553 F4554 F4652 (Ne.symm N4559) F4572 I68 I77 F4565 F4563 F4568 F4567 F4573 F4560 F4570 (Eq.symm b4644)) (by decide) (by decide) (by decide) (by decide) (g := (mkF m 112 #[iv in_1, iv in_2, iv in_3, iv in_4, iv in_5, iv in_6, iv 3, iv 3, rv ob_4463, rv ob_4492, rv ob_4525, rv ob_4549, iv 1] [(.ref ob_4549), (.ref ob_4525)])) rfl (by rw [hml]; rfl) (argsL := [(.ref ob_4549)]) (rest := []) rfl (lenOf own_pd11 rfl) rfl (by show 2 * 0 + _ ≤ _; exact Nat.le_of_eq rfl) (hb hby at_112)
        refine oS s4788 ?_
        obtain ⟨b4789, rfl, N4790, K4791⟩ := q4787
        have N4792 := Fr.app N4731 N4790
        have e4793 := e4786.trans K4791
        show own_G p e below (T4781.setTop (mkF m 115 #[iv in_1, iv in_2, iv in_3, iv in_4, iv in_5, iv in_6, iv 3, iv 3, rv ob_4463, rv ob_4492, rv ob_4525, rv ob_4549, iv 1] [(.int 1)])) _
        refine oS (fun _ => XS.iload X4785.here hx rfl (hb hby at_115) rfl) ?_
        refine oS (fun _ => XS.icmpYes X4785.here hx rfl (pc0 := 117) (pc' := 122) rfl (hb hby at_117) rfl (XT.ii_eq_t (by decide)) (by decide) (by decide)) ?_
        show own_G p e below (T4781.setTop (mkF m 122 #[iv in_1, iv in_2, iv in_3, iv in_4, iv in_5, iv in_6, iv 3, iv 3, rv ob_4463, rv ob_4492, rv ob_4525, rv ob_4549, iv 1] [])) _
        refine oS (fun _ => XS.iload X4785.here hx rfl (hb hby at_122) rfl) ?_
        refine oS (fun _ => XS.ifNo X4785.here hx rfl (hb hby at_124) rfl (XT.i0_eq_f (by decide))) ?_
        show own_G p e below (T4781.setTop (mkF m 127 #[iv in_1, iv in_2, iv in_3, iv in_4, iv in_5, iv in_6, iv 3, iv 3, rv ob_4463, rv ob_4492, rv ob_4525, rv ob_4549, iv 1] [])) _
        refine oS (fun _ => XS.aload X4785.here hx rfl (hb hby at_127) rfl rfl) ?_
        have F4794 : Fld Z h4485 ob_4463 cN1 "hash" "I" (.int 0) := F4473.keep K4496 nin0
        have F4795 : Fld Z h4517 ob_4463 cN1 "hash" "I" (.int 0) := F4794.keep K4527 nin0
        have F4796 : Fld Z h4541 ob_4463 cN1 "hash" "I" (.int 0) := F4795.keep K4551 nin0
        have F4797 : Fld Z h4485 ob_4463 cN1 "hashIsZero" "Z" (.int 0) := F4474.keep K4496 nin0
        have F4798 : Fld Z h4517 ob_4463 cN1 "hashIsZero" "Z" (.int 0) := F4797.keep K4527 nin0
        have F4799 : Fld Z h4541 ob_4463 cN1 "hashIsZero" "Z" (.int 0) := F4798.keep K4551 nin0
        have F4852 : Exa Z h4485 ob_4464 "[B" := F4476.keep K4496
        have F4853 : Exa Z h4517 ob_4464 "[B" := F4852.keep K4527
        have F4854 : Exa Z h4541 ob_4464 "[B" := F4853.keep K4551
        have Z4942 : n0 ≤ h4541.size := by omega
        obtain ⟨T4943, h4944, v4945, L4946, X4947, e4948, q4949, s4950⟩ := own_callV X4785 hx hZ hown e4793 (y := mN17) (z := mN17) (C := cN4) (b := ob_4525) (oW hw 84 rfl) (oW hw 85 rfl) (notFace_of_selects (args := #[]) (mvT hZ (oW hw 87 rfl))) (oW hw 87 rfl) (oW hw 86 rfl) (oW hw 37 rfl) (oW hw 88 rfl) (by decide) F4662 (W := 0) (own_rm78 l Z a0 hw [] ob_4525 ob_4463 in_7 ob_4464 kk_4465 in_1 in_2 in_3 h4541 n0 Z4942 O4634 F4652 F4796 F4799 I68 I77 F4563 F4572 F4567 F4570 F4854 N4711) (by decide) (by decide) (by decide) (by decide) (g := (mkF m 129 #[iv in_1, iv in_2, iv in_3, iv in_4, iv in_5, iv in_6, iv 3, iv 3, rv ob_4463, rv ob_4492, rv ob_4525, rv ob_4549, iv 1] [(.ref ob_4525)])) rfl (by rw [hml]; rfl) (argsL := []) (rest := []) rfl (lenOf own_pd14 rfl) rfl (by show 2 * 0 + _ ≤ _; exact Nat.le_of_eq rfl) (hb hby at_129)
        refine oS s4950 ?_
        obtain ⟨rfl, N4951, K4952, F4953, F4954, F4955⟩ := q4949
        have N4956 := Fr.app N4792 N4951
        have R4957 : CHr Z own_EL s.vm h0 T4540.vm h4944 := R4557.trans (CHr.keep K4952 (sfS own_safe0 sf0) R4557.1)
        have z4958 := K4952.1
        show own_G p e below (T4943.setTop (mkF m 132 #[iv in_1, iv in_2, iv in_3, iv in_4, iv in_5, iv in_6, iv 3, iv 3, rv ob_4463, rv ob_4492, rv ob_4525, rv ob_4549, iv 1] [(.int (((31 : Int32) * (((31 : Int32) * ((0 : Int32) + (((in_1 &&& 255).toInt8.toInt32) &&& 255))) + (((in_2 &&& 255).toInt8.toInt32) &&& 255))) + (((in_3 &&& 255).toInt8.toInt32) &&& 255)))])) _
        refine oS (fun _ => XS.aload X4947.here hx rfl (hb hby at_132) rfl rfl) ?_
        have N4959 : @Ne Nat ob_4549 ob_4463 := by omega
        have F4960 : Fld Z h4944 ob_4549 cN4 "name" cN5 (.ref ob_4492) := F4554.keep K4952 (ninS N4959 nin0)
        have F4961 : Fld Z h4517 ob_4492 cN1 "hash" "I" (.int 0) := F4502.keep K4527 nin0
        have F4962 : Fld Z h4541 ob_4492 cN1 "hash" "I" (.int 0) := F4961.keep K4551 nin0
        have F4963 : Fld Z h4944 ob_4492 cN1 "hash" "I" (.int 0) := F4962.keep K4952 (ninS (Ne.symm N4559) nin0)
        have F4964 : Fld Z h4517 ob_4492 cN1 "hashIsZero" "Z" (.int 0) := F4503.keep K4527 nin0
        have F4965 : Fld Z h4541 ob_4492 cN1 "hashIsZero" "Z" (.int 0) := F4964.keep K4551 nin0
        have F4966 : Fld Z h4944 ob_4492 cN1 "hashIsZero" "Z" (.int 0) := F4965.keep K4952 (ninS (Ne.symm N4559) nin0)
        have F4967 : Fld Z h4944 ob_4492 cN1 "coder" "B" (.int 0) := F4565.keep K4952 (ninS (Ne.symm N4559) nin0)
        have F4968 : Exa Z h4944 ob_4492 cN1 := F4560.keep K4952
        have F4969 : Fld Z h4944 ob_4492 cN1 "value" "[B" (.ref ob_4493) := F4568.keep K4952 (ninS (Ne.symm N4559) nin0)
        have N4970 : @Ne Nat ob_4493 ob_4463 := by omega
        have F4971 : Arv Z h4944 ob_4493 kk_4494 .byte 3 [(.int ((in_1 &&& 255).toInt8.toInt32)), (.int ((in_2 &&& 255).toInt8.toInt32)), (.int ((in_4 &&& 255).toInt8.toInt32))] (.int 0) := F4573.keep K4952 (ninS N4970 nin0)
        have F4972 : Exa Z h4517 ob_4493 "[B" := F4505.keep K4527
        have F4973 : Exa Z h4541 ob_4493 "[B" := F4972.keep K4551
        have F4974 : Exa Z h4944 ob_4493 "[B" := F4973.keep K4952
        have N4975 : n0 ≤ ob_4492 := by omega
        have O4976 : Old Z n0 h4944 := O4634.keep K4952 (allS N4711 all0)
        have Z4977 : n0 ≤ h4944.size := by omega
        have F4986 : Exa Z h4944 ob_4549 cN4 := F4553.keep K4952
        obtain ⟨T4978, h4979, v4980, L4981, X4982, e4983, q4984, s4985⟩ := own_callV X4947 hx hZ hown e4948 (y := mN17) (z := mN17) (C := cN4) (b := ob_4549) (oW hw 84 rfl) (oW hw 85 rfl) (notFace_of_selects (args := #[]) (mvT hZ (oW hw 87 rfl))) (oW hw 87 rfl) (oW hw 86 rfl) (oW hw 37 rfl) (oW hw 88 rfl) (by decide) F4986 (W := 1) (own_rm78 l Z a0 hw [] ob_4549 ob_4492 in_7 ob_4493 kk_4494 in_1 in_2 in_4 h4944 n0 Z4977 O4976 F4960 F4963 F4966 I68 I77 F4967 F4968 F4969 F4971 F4974 N4975) (by decide) (by decide) (by decide) (by decide) (g := (mkF m 134 #[iv in_1, iv in_2, iv in_3, iv in_4, iv in_5, iv in_6, iv 3, iv 3, rv ob_4463, rv ob_4492, rv ob_4525, rv ob_4549, iv 1] [(.ref ob_4549), (.int (((31 : Int32) * (((31 : Int32) * ((0 : Int32) + (((in_1 &&& 255).toInt8.toInt32) &&& 255))) + (((in_2 &&& 255).toInt8.toInt32) &&& 255))) + (((in_3 &&& 255).toInt8.toInt32) &&& 255)))])) rfl (by rw [hml]; rfl) (argsL := []) (rest := [(.int (((31 : Int32) * (((31 : Int32) * ((0 : Int32) + (((in_1 &&& 255).toInt8.toInt32) &&& 255))) + (((in_2 &&& 255).toInt8.toInt32) &&& 255))) + (((in_3 &&& 255).toInt8.toInt32) &&& 255)))]) rfl (lenOf own_pd14 rfl) rfl (by show 2 * 0 + _ ≤ _; exact Nat.le_of_eq rfl) (hb hby at_134)
        refine oS s4985 ?_
        obtain ⟨rfl, N4987, K4988, F4989, F4990, F4991⟩ := q4984
        have N4992 := Fr.app N4956 N4987
        have R4993 : CHr Z own_EL s.vm h0 T4540.vm h4979 := R4957.trans (CHr.keep K4988 (sfS own_safe0 sf0) R4957.1)
        have z4994 := K4988.1
        show own_G p e below (T4978.setTop (mkF m 137 #[iv in_1, iv in_2, iv in_3, iv in_4, iv in_5, iv in_6, iv 3, iv 3, rv ob_4463, rv ob_4492, rv ob_4525, rv ob_4549, iv 1] [(.int (((31 : Int32) * (((31 : Int32) * ((0 : Int32) + (((in_1 &&& 255).toInt8.toInt32) &&& 255))) + (((in_2 &&& 255).toInt8.toInt32) &&& 255))) + (((in_4 &&& 255).toInt8.toInt32) &&& 255))), (.int (((31 : Int32) * (((31 : Int32) * ((0 : Int32) + (((in_1 &&& 255).toInt8.toInt32) &&& 255))) + (((in_2 &&& 255).toInt8.toInt32) &&& 255))) + (((in_3 &&& 255).toInt8.toInt32) &&& 255)))])) _
        refine oS (fun _ => XS.icmpYes X4982.here hx rfl (pc0 := 137) (pc' := 142) rfl (hb hby at_137) rfl (XT.ii_eq_t (by rw [b4644])) (by decide) (by decide)) ?_
        show own_G p e below (T4978.setTop (mkF m 142 #[iv in_1, iv in_2, iv in_3, iv in_4, iv in_5, iv in_6, iv 3, iv 3, rv ob_4463, rv ob_4492, rv ob_4525, rv ob_4549, iv 1] [])) _
        refine oS (fun _ => XS.iconst X4982.here hx rfl (hb hby at_142) ) ?_
        have K4995 : Keep h0 h4979 [] := (((((((Keep.refl h0 []).trans K4467 all0).trans K4496 all0).trans K4527 all0).trans K4551 all0).trans K4952 (allS (Or.inr (by omega)) all0)).trans K4988 (allS (Or.inr (by omega)) all0))
        exact own_retNW X4982 hx (t := .boolean) Bd.notSynchronized Bd.returns (by simp) (hb hby at_143) (by decide) hS hZ hEL hh R4993 e4983 (by omega) (by decide) (by decide) (fun hA => ⟨rfl, N4992⟩)
      · skip
        have N4996 := Fr.app N4556 N4648
        have e4997 := e4641.trans K4649
        show own_G p e below (T4636.setTop (mkF m 63 #[iv in_1, iv in_2, iv in_3, iv in_4, iv in_5, iv in_6, iv 3, iv 3, rv ob_4463, rv ob_4492, rv ob_4525, rv ob_4549, .unset] [(.int 0)])) _
        refine oS (fun _ => XS.istore X4640.here hx rfl (hb hby at_63) rfl (l' := #[iv in_1, iv in_2, iv in_3, iv in_4, iv in_5, iv in_6, iv 3, iv 3, rv ob_4463, rv ob_4492, rv ob_4525, rv ob_4549, iv 0]) rfl) ?_
        refine oS (fun _ => XS.aload X4640.here hx rfl (hb hby at_65) rfl rfl) ?_
        have F4998 : Fld Z h4541 ob_4525 cN4 "name" cN5 (.ref ob_4463) := F4530.keep K4551 nin0
        have Z4999 : n0 ≤ h4541.size := by omega
        have F5008 : Exa Z h4541 ob_4525 cN4 := F4529.keep K4551
        obtain ⟨T5000, h5001, v5002, L5003, X5004, e5005, q5006, s5007⟩ := own_callV X4640 hx hZ hown e4997 (y := mN12) (z := mN12) (C := cN4) (b := ob_4525) (oW hw 70 rfl) (oW hw 71 rfl) (notFace_of_selects (args := #[]) (mvT hZ (oW hw 73 rfl))) (oW hw 73 rfl) (oW hw 72 rfl) (oW hw 37 rfl) (oW hw 74 rfl) (by decide) F5008 (W := 0) (own_rm15 l Z a0 hw [] ob_4525 ob_4463 h4541 n0 Z4999 O4634 F4998) (by decide) (by decide) (by decide) (by decide) (g := (mkF m 67 #[iv in_1, iv in_2, iv in_3, iv in_4, iv in_5, iv in_6, iv 3, iv 3, rv ob_4463, rv ob_4492, rv ob_4525, rv ob_4549, iv 0] [(.ref ob_4525)])) rfl (by rw [hml]; rfl) (argsL := []) (rest := []) rfl (lenOf own_pd12 rfl) rfl (by show 2 * 0 + _ ≤ _; exact Nat.le_of_eq rfl) (hb hby at_67)
        refine oS s5007 ?_
        obtain ⟨rfl, N5009, K5010⟩ := q5006
        have N5011 := Fr.app N4996 N5009
        have e5012 := e5005.trans K5010
        show own_G p e below (T5000.setTop (mkF m 70 #[iv in_1, iv in_2, iv in_3, iv in_4, iv in_5, iv in_6, iv 3, iv 3, rv ob_4463, rv ob_4492, rv ob_4525, rv ob_4549, iv 0] [(.ref ob_4463)])) _
        refine oS (fun _ => XS.aload X5004.here hx rfl (hb hby at_70) rfl rfl) ?_
        have Z5013 : n0 ≤ h4541.size := by omega
        obtain ⟨T5014, h5015, v5016, L5017, X5018, e5019, q5020, s5021⟩ := own_callV X5004 hx hZ hown e5012 (y := mN11) (z := mN11) (C := cN1) (b := ob_4463) (oW hw 60 rfl) (oW hw 61 rfl) (notFace_of_selects (args := #[]) (mvT hZ (oW hw 63 rfl))) (oW hw 63 rfl) (oW hw 62 rfl) (oW hw 8 rfl) (oW hw 64 rfl) (by decide) F4572 (W := 0) (own_rm16 l Z a0 hw [] ob_4463 h4541 n0 Z5013 O4634 ) (by decide) (by decide) (by decide) (by decide) (g := (mkF m 72 #[iv in_1, iv in_2, iv in_3, iv in_4, iv in_5, iv in_6, iv 3, iv 3, rv ob_4463, rv ob_4492, rv ob_4525, rv ob_4549, iv 0] [(.ref ob_4463), (.ref ob_4463)])) rfl (by rw [hml]; rfl) (argsL := [(.ref ob_4463)]) (rest := []) rfl (lenOf own_pd11 rfl) rfl (by show 2 * 0 + _ ≤ _; exact Nat.le_of_eq rfl) (hb hby at_72)
        refine oS s5021 ?_
        obtain ⟨rfl, N5022, K5023⟩ := q5020
        have N5024 := Fr.app N5011 N5022
        have e5025 := e5019.trans K5023
        show own_G p e below (T5014.setTop (mkF m 75 #[iv in_1, iv in_2, iv in_3, iv in_4, iv in_5, iv in_6, iv 3, iv 3, rv ob_4463, rv ob_4492, rv ob_4525, rv ob_4549, iv 0] [(.int 1)])) _
        refine oS (fun _ => XS.ifYes X5018.here hx rfl (pc0 := 75) (pc' := 80) rfl (hb hby at_75) rfl (XT.i0_ne_t (by decide)) (by decide) (by decide)) ?_
        show own_G p e below (T5014.setTop (mkF m 80 #[iv in_1, iv in_2, iv in_3, iv in_4, iv in_5, iv in_6, iv 3, iv 3, rv ob_4463, rv ob_4492, rv ob_4525, rv ob_4549, iv 0] [])) _
        refine oS (fun _ => XS.aload X5018.here hx rfl (hb hby at_80) rfl rfl) ?_
        have Z5026 : n0 ≤ h4541.size := by omega
        obtain ⟨T5027, h5028, v5029, L5030, X5031, e5032, q5033, s5034⟩ := own_callV X5018 hx hZ hown e5025 (y := mN12) (z := mN12) (C := cN4) (b := ob_4549) (oW hw 70 rfl) (oW hw 71 rfl) (notFace_of_selects (args := #[]) (mvT hZ (oW hw 73 rfl))) (oW hw 73 rfl) (oW hw 72 rfl) (oW hw 37 rfl) (oW hw 74 rfl) (by decide) F4553 (W := 0) (own_rm15 l Z a0 hw [] ob_4549 ob_4492 h4541 n0 Z5026 O4634 F4554) (by decide) (by decide) (by decide) (by decide) (g := (mkF m 82 #[iv in_1, iv in_2, iv in_3, iv in_4, iv in_5, iv in_6, iv 3, iv 3, rv ob_4463, rv ob_4492, rv ob_4525, rv ob_4549, iv 0] [(.ref ob_4549)])) rfl (by rw [hml]; rfl) (argsL := []) (rest := []) rfl (lenOf own_pd12 rfl) rfl (by show 2 * 0 + _ ≤ _; exact Nat.le_of_eq rfl) (hb hby at_82)
        refine oS s5034 ?_
        obtain ⟨rfl, N5035, K5036⟩ := q5033
        have N5037 := Fr.app N5024 N5035
        have e5038 := e5032.trans K5036
        show own_G p e below (T5027.setTop (mkF m 85 #[iv in_1, iv in_2, iv in_3, iv in_4, iv in_5, iv in_6, iv 3, iv 3, rv ob_4463, rv ob_4492, rv ob_4525, rv ob_4549, iv 0] [(.ref ob_4492)])) _
        refine oS (fun _ => XS.aload X5031.here hx rfl (hb hby at_85) rfl rfl) ?_
        have Z5039 : n0 ≤ h4541.size := by omega
        obtain ⟨T5040, h5041, v5042, L5043, X5044, e5045, q5046, s5047⟩ := own_callV X5031 hx hZ hown e5038 (y := mN11) (z := mN11) (C := cN1) (b := ob_4492) (oW hw 60 rfl) (oW hw 61 rfl) (notFace_of_selects (args := #[]) (mvT hZ (oW hw 63 rfl))) (oW hw 63 rfl) (oW hw 62 rfl) (oW hw 8 rfl) (oW hw 64 rfl) (by decide) F4560 (W := 0) (own_rm16 l Z a0 hw [] ob_4492 h4541 n0 Z5039 O4634 ) (by decide) (by decide) (by decide) (by decide) (g := (mkF m 87 #[iv in_1, iv in_2, iv in_3, iv in_4, iv in_5, iv in_6, iv 3, iv 3, rv ob_4463, rv ob_4492, rv ob_4525, rv ob_4549, iv 0] [(.ref ob_4492), (.ref ob_4492)])) rfl (by rw [hml]; rfl) (argsL := [(.ref ob_4492)]) (rest := []) rfl (lenOf own_pd11 rfl) rfl (by show 2 * 0 + _ ≤ _; exact Nat.le_of_eq rfl) (hb hby at_87)
        refine oS s5047 ?_
        obtain ⟨rfl, N5048, K5049⟩ := q5046
        have N5050 := Fr.app N5037 N5048
        have e5051 := e5045.trans K5049
        show own_G p e below (T5040.setTop (mkF m 90 #[iv in_1, iv in_2, iv in_3, iv in_4, iv in_5, iv in_6, iv 3, iv 3, rv ob_4463, rv ob_4492, rv ob_4525, rv ob_4549, iv 0] [(.int 1)])) _
        refine oS (fun _ => XS.ifYes X5044.here hx rfl (pc0 := 90) (pc' := 95) rfl (hb hby at_90) rfl (XT.i0_ne_t (by decide)) (by decide) (by decide)) ?_
        show own_G p e below (T5040.setTop (mkF m 95 #[iv in_1, iv in_2, iv in_3, iv in_4, iv in_5, iv in_6, iv 3, iv 3, rv ob_4463, rv ob_4492, rv ob_4525, rv ob_4549, iv 0] [])) _
        refine oS (fun _ => XS.aload X5044.here hx rfl (hb hby at_95) rfl rfl) ?_
        have F5052 : Sta Z h4541 cN4 "NONE" cN8 (.ref ob_9) := Sta.ext O4634.2 I630
        obtain ⟨T5053, X5054, e5055, s5056⟩ := getS X5044 hx hZ hown (host := "") (oW hw 75 rfl) Via.refl e5051 F5052 (g := (mkF m 97 #[iv in_1, iv in_2, iv in_3, iv in_4, iv in_5, iv in_6, iv 3, iv 3, rv ob_4463, rv ob_4492, rv ob_4525, rv ob_4549, iv 0] [(.ref ob_4525)])) rfl (hb hby at_97)
        refine oS s5056 ?_
        show own_G p e below (T5053.setTop (mkF m 100 #[iv in_1, iv in_2, iv in_3, iv in_4, iv in_5, iv in_6, iv 3, iv 3, rv ob_4463, rv ob_4492, rv ob_4525, rv ob_4549, iv 0] [(.ref ob_9), (.ref ob_4525)])) _
        have N5057 : n0 ≤ ob_4463 := by omega
        have F5058 : Exa Z h4541 ob_9 cN4 := Exa.ext O4634.2 I640
        have F5059 : Fld Z h4541 ob_9 cN4 "name" cN5 (.ref ob_10) := Fld.ext O4634.2 I647
        have y5060 : @LT.lt Nat instLTNat ob_10 Z.heap.size := I659.lt
        have y5061 : Z.heap.size = n0 := O0.1
        have N5062 : @Ne Nat ob_10 ob_4463 := by omega
        have F5063 : Fld Z h4541 ob_10 cN1 "coder" "B" (.int 0) := Fld.ext O4634.2 I670
        have F5064 : Fld Z h4541 ob_10 cN1 "value" "[B" (.ref ob_11) := Fld.ext O4634.2 I674
        have F5065 : Arv Z h4541 ob_11 kk_12 FieldType.byte 0 [] (.int 0) := I678.ext O4634.2
        have Z5066 : n0 ≤ h4541.size := by omega
        obtain ⟨T5067, h5068, v5069, L5070, X5071, e5072, q5073, s5074⟩ := own_callV X5054 hx hZ hown e5055 (y := mN13) (z := mN13) (C := cN4) (b := ob_4525) (oW hw 77 rfl) (oW hw 78 rfl) (notFace_of_selects (args := #[]) (mvT hZ (oW hw 80 rfl))) (oW hw 80 rfl) (oW hw 79 rfl) (oW hw 37 rfl) (oW hw 81 rfl) (by decide) F5008 (W := 0) (own_rm70 l Z a0 hw [] ob_4525 ob_9 ob_10 ob_4463 in_7 ob_11 ob_4464 kk_12 kk_4465 in_1 in_2 in_3 h4541 n0 Z5066 O4634 I640 I647 F4998 I659 N5057 F4572 I68 I77 I670 F4563 I674 F4567 I678 F4570) (by decide) (by decide) (by decide) (by decide) (g := (mkF m 100 #[iv in_1, iv in_2, iv in_3, iv in_4, iv in_5, iv in_6, iv 3, iv 3, rv ob_4463, rv ob_4492, rv ob_4525, rv ob_4549, iv 0] [(.ref ob_9), (.ref ob_4525)])) rfl (by rw [hml]; rfl) (argsL := [(.ref ob_9)]) (rest := []) rfl (lenOf own_pd11 rfl) rfl (by show 2 * 0 + _ ≤ _; exact Nat.le_of_eq rfl) (hb hby at_100)
        refine oS s5074 ?_
        obtain ⟨rfl, N5075, K5076⟩ := q5073
        have N5077 := Fr.app N5050 N5075
        have e5078 := e5072.trans K5076
        show own_G p e below (T5067.setTop (mkF m 103 #[iv in_1, iv in_2, iv in_3, iv in_4, iv in_5, iv in_6, iv 3, iv 3, rv ob_4463, rv ob_4492, rv ob_4525, rv ob_4549, iv 0] [(.int 0)])) _
        refine oS (fun _ => XS.ifYes X5071.here hx rfl (pc0 := 103) (pc' := 108) rfl (hb hby at_103) rfl (XT.i0_eq_t (by decide)) (by decide) (by decide)) ?_
        show own_G p e below (T5067.setTop (mkF m 108 #[iv in_1, iv in_2, iv in_3, iv in_4, iv in_5, iv in_6, iv 3, iv 3, rv ob_4463, rv ob_4492, rv ob_4525, rv ob_4549, iv 0] [])) _
        refine oS (fun _ => XS.aload X5071.here hx rfl (hb hby at_108) rfl rfl) ?_
        refine oS (fun _ => XS.aload X5071.here hx rfl (hb hby at_110) rfl rfl) ?_
        have Z5126 : n0 ≤ h4541.size := by omega
        obtain ⟨T5127, h5128, v5129, L5130, X5131, e5132, q5133, s5134⟩ := own_callV X5071 hx hZ hown e5078 (y := mN13) (z := mN13) (C := cN4) (b := ob_4525) (oW hw 77 rfl) (oW hw 78 rfl) (notFace_of_selects (args := #[]) (mvT hZ (oW hw 80 rfl))) (oW hw 80 rfl) (oW hw 79 rfl) (oW hw 37 rfl) (oW hw 81 rfl) (by decide) F5008 (W := 0) (own_rm83 l Z a0 hw [] ob_4525 ob_4549 ob_4492 ob_4463 in_7 ob_4493 ob_4464 kk_4494 in_1 in_2 in_4 kk_4465 in_3 h4541 n0 Z5126 O4634 F4553 F4554 F4998 (Ne.symm N4559) F4572 I68 I77 F4565 F4563 F4568 F4567 F4573 F4560 F4570 (Ne.symm b4647)) (by decide) (by decide) (by decide) (by decide) (g := (mkF m 112 #[iv in_1, iv in_2, iv in_3, iv in_4, iv in_5, iv in_6, iv 3, iv 3, rv ob_4463, rv ob_4492, rv ob_4525, rv ob_4549, iv 0] [(.ref ob_4549), (.ref ob_4525)])) rfl (by rw [hml]; rfl) (argsL := [(.ref ob_4549)]) (rest := []) rfl (lenOf own_pd11 rfl) rfl (by show 2 * 0 + _ ≤ _; exact Nat.le_of_eq rfl) (hb hby at_112)
        refine oS s5134 ?_
        obtain ⟨b5135, rfl, N5136, K5137⟩ := q5133
        have N5138 := Fr.app N5077 N5136
        have e5139 := e5132.trans K5137
        show own_G p e below (T5127.setTop (mkF m 115 #[iv in_1, iv in_2, iv in_3, iv in_4, iv in_5, iv in_6, iv 3, iv 3, rv ob_4463, rv ob_4492, rv ob_4525, rv ob_4549, iv 0] [(.int 0)])) _
        refine oS (fun _ => XS.iload X5131.here hx rfl (hb hby at_115) rfl) ?_
        refine oS (fun _ => XS.icmpYes X5131.here hx rfl (pc0 := 117) (pc' := 122) rfl (hb hby at_117) rfl (XT.ii_eq_t (by decide)) (by decide) (by decide)) ?_
        show own_G p e below (T5127.setTop (mkF m 122 #[iv in_1, iv in_2, iv in_3, iv in_4, iv in_5, iv in_6, iv 3, iv 3, rv ob_4463, rv ob_4492, rv ob_4525, rv ob_4549, iv 0] [])) _
        refine oS (fun _ => XS.iload X5131.here hx rfl (hb hby at_122) rfl) ?_
        refine oS (fun _ => XS.ifYes X5131.here hx rfl (pc0 := 124) (pc' := 142) rfl (hb hby at_124) rfl (XT.i0_eq_t (by decide)) (by decide) (by decide)) ?_
        show own_G p e below (T5127.setTop (mkF m 142 #[iv in_1, iv in_2, iv in_3, iv in_4, iv in_5, iv in_6, iv 3, iv 3, rv ob_4463, rv ob_4492, rv ob_4525, rv ob_4549, iv 0] [])) _
        refine oS (fun _ => XS.iconst X5131.here hx rfl (hb hby at_142) ) ?_
        have K5140 : Keep h0 h4541 [] := (((((Keep.refl h0 []).trans K4467 all0).trans K4496 all0).trans K4527 all0).trans K4551 all0)
        exact own_retNW X5131 hx (t := .boolean) Bd.notSynchronized Bd.returns (by simp) (hb hby at_143) (by decide) hS hZ hEL hh R4557 e5139 (by omega) (by decide) (by decide) (fun hA => ⟨rfl, N5138⟩)
set_option maxRecDepth 65536 in
set_option maxHeartbeats 40000000 in
theorem comes_1 {Post : Tables → Env → Array Value → State → Outcome → State → Prop} (hpost : ∀ tb e args s v u, (limb_1_1.after args s (.returned v) u = true ∧ limb_1_2.after args s (.returned v) u = true ∧ True) → ReturnedEndW s (.returned v) u (Jvm.fieldLocs frame_1_writes args s ++ Jvm.arrayLocs frame_1_arrays args s ++ Jvm.staticLocs frame_1_statics s) 32 1152 → Post tb e args s (.returned v) u) :
    ArmFor flags0 classFile x code maxLocals ret World_1 tables_1 room_1 Calls_1 rest_1 Pre_1 Post := by
  intro l hfl _ _ p e ha hc hk s m args below hf hA hF happ hP
  obtain ⟨hcalls, hrest, hpre⟩ := hP
  obtain ⟨-, -, -, hnamed, -, -, -, hat⟩ := (Spec.applies_iff hf).mp happ
  obtain ⟨hg, hn⟩ := and_e (Cond.before_iff.mp (show (Jvm.Cond.and given_1 narrow_1).before args s = true from hpre))
  obtain ⟨g0, gg0⟩ := and_e hg
  obtain ⟨w0, w1, w2, w3, w4, w5, rfl⟩ : ∃ w0 w1 w2 w3 w4 w5 : Value, args = #[w0, w1, w2, w3, w4, w5] := by
    have hs : args.size = 6 := by simpa [Cond.value, given_1] using g0
    obtain ⟨L⟩ := args
    match L, hs with
    | [w0, w1, w2, w3, w4, w5], _ => exact ⟨w0, w1, w2, w3, w4, w5, rfl⟩
  have hw := fun d (hd : d ∈ tables_1) => atoms_spec (ws := Jvm.Cond.code x code maxLocals ret :: tables_1) hat d (List.mem_cons_of_mem _ hd)
  obtain ⟨hsets, hown0⟩ := atoms_of _ (rest_1_c_eq ▸ (show rest_1_c.before _ s = true from hrest))
  have hfit : Fit s := fun {y c} hc i hi => by
    obtain ⟨ha, rfl⟩ := Array.getElem?_eq_some_iff.mp hc
    have q := List.all_eq_true.mp ((Array.all_eq_true_iff_forall_mem.mp hF) _ (Array.getElem_mem ha)) i (List.mem_range.mpr hi)
    simpa [Array.getElem?_eq_getElem hi] using q
  obtain ⟨ga0, gg1⟩ := and_e gg0
  obtain ⟨in_1, ea0⟩ := is_v ga0
  obtain rfl : w0 = (.int in_1) := Option.some.inj ea0
  obtain ⟨ga1, gg2⟩ := and_e gg1
  obtain ⟨in_2, ea1⟩ := is_v ga1
  obtain rfl : w1 = (.int in_2) := Option.some.inj ea1
  obtain ⟨ga2, gg3⟩ := and_e gg2
  obtain ⟨in_3, ea2⟩ := is_v ga2
  obtain rfl : w2 = (.int in_3) := Option.some.inj ea2
  obtain ⟨ga3, gg4⟩ := and_e gg3
  obtain ⟨in_4, ea3⟩ := is_v ga3
  obtain rfl : w3 = (.int in_4) := Option.some.inj ea3
  obtain ⟨ga4, gg5⟩ := and_e gg4
  obtain ⟨in_5, ea4⟩ := is_v ga4
  obtain rfl : w4 = (.int in_5) := Option.some.inj ea4
  obtain ⟨in_6, ea5⟩ := is_v gg5
  obtain rfl : w5 = (.int in_6) := Option.some.inj ea5
  obtain ⟨c0, r0⟩ := and_e hn
  obtain ⟨c1, r1⟩ := and_e r0
  obtain ⟨c2, r2⟩ := and_e r1
  obtain ⟨c3, c4⟩ := and_e r2
  obtain ⟨in_7, ev_in_7⟩ := is_v (Cond.before_iff.mp (hsets _ (List.mem_of_getElem? (i := 1) rfl)))
  obtain ⟨va_8, ev_va_8, rf_va_8⟩ := isR_v (Cond.before_iff.mp (hsets _ (List.mem_of_getElem? (i := 8) rfl)))
  obtain ⟨ob_9, ev_ob_9⟩ := exa_v c0
  obtain ⟨ob_10, ev_ob_10⟩ := exa_v c1
  obtain ⟨ob_11, ev_ob_11⟩ := arr_v c3
  obtain ⟨kk_12, ar_ob_11⟩ := own_arr (vs := []) (dv := (.int 0)) hfit ev_ob_11 c3 c4 (by decide) rfl (fun cl hc ha hz => trivial)
  have hEL : EW s #[(.int in_1), (.int in_2), (.int in_3), (.int in_4), (.int in_5), (.int in_6)] own_EL := EW.nil
  have hCH : CHv s own_EL s.vm s.heap := fun _ hp => nomatch hp
  obtain ⟨n, o, h1, h2, h3, _, L, rfl, ⟨rfl, N⟩, -, hq⟩ := own_rm1 l s _ hw hEL tables_1 in_1 in_2 in_3 in_4 in_5 in_6 in_7 ob_9 ob_10 ob_11 kk_12 s.heap s.heap.size (Nat.le_refl _) (Old.start s) (Sta.start ev_in_7 (Or.inl (hsets _ (List.mem_of_getElem? (i := 0) rfl)))) (gotF (Cond.eq_ints ev_in_7 (Term.int_eval 0)) (not_v (Cond.before_iff.mp (hsets _ (List.mem_of_getElem? (i := 2) rfl))))) (Sta.start ev_ob_9 (Or.inr ⟨(oW hw 37 rfl), (oW hw 76 rfl)⟩)) (Exa.start ev_ob_9 c0) (Fld.start ((fld_at ev_ob_9).symm.trans ev_ob_10)) (Exa.start ev_ob_10 c1) (own_fv ev_ob_10 (Term.int_eval 0) c2) (Fld.start ((fld_at ev_ob_10).symm.trans ev_ob_11)) ar_ob_11 p e ha hc hk s m _ below hf ((Spec.applies_iff_loose hf).mp happ).1 ⟨rfl, State.Warmed39.refl s, rfl, hCH, fun _ q => nomatch q⟩ trivial
  refine ⟨n, _, h1, h2, h3, hpost _ _ _ _ _ _ ⟨Cond.after_iff.mpr rfl, Cond.after_iff.mpr (eq_i res_at (Term.int_eval (1)) rfl), trivial⟩ ⟨hq.1, hq.2.1, hq.2.2.1, (hq.2.2.2.sift fun y hy => Or.inr (N y hy)).mono (by decide) (by decide)⟩⟩
theorem main_1_1 : Claimed_1_1 := comes_1 fun _ _ _ _ _ _ h hF => ⟨h.1, hF⟩
theorem main_1_2 : Claimed_1_2 := comes_1 fun _ _ _ _ _ _ h hF => ⟨h.2.1, hF⟩
end Jvm.Pilot.@@N@@
namespace Jvm.Pilot.@@N@@
open Jvm Jvm.ClassFile Sem Op Lib Jvm.Free Jvm.Stand Jvm.Pilot.@@N@@.Jvm.D
/-! MADE BY PROGRAM (witnessworld.py) out of the Statement's table words and the real class files: 21 classes; the members and pool entries that the words name. The judged class is class 1, her method 2. -/
namespace start1
open Jvm.ClassFile
def u (s : String) : CpInfo := .utf8 (stringToUtf16 s)
/-- a pool by its gaps: so many unusable entries, then the entry; so many at the end -/
def gap : Nat → List CpInfo → List CpInfo
  | 0, r => r
  | n + 1, r => .unusable :: gap n r
def poolList (es : List (Nat × CpInfo)) (last : Nat) : List CpInfo := es.foldr (fun e r => gap e.1 (e.2 :: r)) (gap last [])
def pool (es : List (Nat × CpInfo)) (last : Nat) : Array CpInfo := ⟨poolList es last⟩
def fileOf (pool : Array CpInfo) (this : Nat) (attrs : Array Attribute := #[]) (ms : Array MethodInfo := #[]) (fl : Nat := 33) (sup : Nat := 0) (ifs : Array Nat := #[]) (fds : Array FieldInfo := #[]) : ClassFile where
  minorVersion := 0
  majorVersion := 65
  constantPool := pool
  accessFlags := fl
  thisClass := this
  superClass := sup
  interfaces := ifs
  fields := fds
  methods := ms
  attributes := attrs
def plain (name : String) (sup : Option ClassId) : Class where
  name := name
  kind := .ordinary
  loader := none
  accessFlags := 33
  super := sup
  interfaces := #[]
  cf := none
  fields := #[]
  methods := #[]
  instanceTypes := #[]
  staticTypes := #[]
  resolved := #[]
  callSites := []
  init := .initialized
  statics := none
  mirror := none

def pool0 : Array CpInfo := pool [(5, u "<init>"), (0, u "()V"), (1, .class_ 10), (1, u "java/lang/Object")] 113

def k0c0 : Code := { maxStack := 0, maxLocals := 1, code := object_method_1_code, exceptionTable := #[], attributes := #[] }
def k0m0 : Method := { name := "<init>", desc := "()V", sig := { parameters := [], returnType := none }, accessFlags := 1, code := some k0c0 }
/-- java/lang/Object -/
def k0 : Class := { plain "java/lang/Object" none with
  accessFlags := 33
  interfaces := #[]
  cf := some (fileOf pool0 8 #[] #[{ accessFlags := 1, nameIndex := 5, descriptorIndex := 6, attributes := #[] }] 33 0 #[] #[])
  fields := #[]
  methods := #[k0m0]
  instanceTypes := #[]
  staticTypes := #[]
  resolved := Array.replicate 124 none
  statics := none }

def pool1 : Array CpInfo := pool [(2, .class_ 4), (1, u "java/lang/Object"), (0, u "<init>"), (0, u "()V"), (0, .class_ 8), (0, u "java/lang/String"), (0, .methodref 7 10), (0, .nameAndType 5 11), (0, u "([C)V"), (0, .integer 2147483647), (0, .methodref 14 15), (0, .class_ 16), (0, .nameAndType 17 18), (0, u "com/example/typub/typub/GroupOfPinLaw"), (0, u "draw"), (0, u "(IIII)Ljava/lang/String;"), (0, .methodref 20 21), (0, .class_ 22), (0, .nameAndType 23 24), (0, u "com/example/typub/typub/Group"), (0, u "of"), (0, u "(Ljava/lang/String;)Lcom/example/typub/typub/Group;"), (0, .methodref 7 26), (0, .nameAndType 27 28), (0, u "equals"), (0, u "(Ljava/lang/Object;)Z"), (0, .methodref 20 30), (0, .nameAndType 31 32), (0, u "name"), (0, u "()Ljava/lang/String;"), (0, .fieldref 20 34), (0, .nameAndType 35 36), (0, u "NONE"), (0, u "Lcom/example/typub/typub/Group;"), (0, .methodref 20 26), (0, .methodref 20 39), (0, .nameAndType 40 41), (0, u "hashCode"), (0, u "()I"), (3, u "law"), (0, u "(IIIIII)Z")] 2

def k1m0 : Method := { name := "<init>", desc := "()V", sig := { parameters := [], returnType := none }, accessFlags := 1, code := none }
def k1c1 : Code := { maxStack := 4, maxLocals := 8, code := method_2_code, exceptionTable := #[], attributes := #[] }
def k1m1 : Method := { name := "draw", desc := "(IIII)Ljava/lang/String;", sig := { parameters := [.int, .int, .int, .int], returnType := some (.object "java/lang/String") }, accessFlags := 10, code := some k1c1 }
def k1c2 : Code := { maxStack := 4, maxLocals := 13, code := code, exceptionTable := #[], attributes := #[] }
def k1m2 : Method := { name := "law", desc := "(IIIIII)Z", sig := { parameters := [.int, .int, .int, .int, .int, .int], returnType := some .boolean }, accessFlags := 9, code := some k1c2 }
/-- com/example/typub/typub/GroupOfPinLaw -/
def k1 : Class := { plain "com/example/typub/typub/GroupOfPinLaw" (some 0) with
  accessFlags := 49
  interfaces := #[]
  cf := some (fileOf pool1 14 #[] #[{ accessFlags := 1, nameIndex := 5, descriptorIndex := 6, attributes := #[] }, { accessFlags := 10, nameIndex := 17, descriptorIndex := 18, attributes := #[] }, { accessFlags := 9, nameIndex := 45, descriptorIndex := 46, attributes := #[] }] 49 2 #[] #[])
  fields := #[]
  methods := #[k1m0, k1m1, k1m2]
  instanceTypes := #[]
  staticTypes := #[]
  resolved := Array.replicate 49 none
  statics := none }

def pool2 : Array CpInfo := pool [(1, .class_ 2), (0, u "java/io/Serializable"), (0, .class_ 4), (0, u "java/lang/Object")] 2

/-- java/io/Serializable -/
def k2 : Class := { plain "java/io/Serializable" (some 0) with
  accessFlags := 1537
  interfaces := #[]
  cf := some (fileOf pool2 1 #[] #[] 1537 3 #[] #[])
  fields := #[]
  methods := #[]
  instanceTypes := #[]
  staticTypes := #[]
  resolved := Array.replicate 7 none
  statics := none }

def pool3 : Array CpInfo := pool [(1, .class_ 2), (0, u "java/lang/Comparable"), (0, .class_ 4), (0, u "java/lang/Object")] 7

/-- java/lang/Comparable -/
def k3 : Class := { plain "java/lang/Comparable" (some 0) with
  accessFlags := 1537
  interfaces := #[]
  cf := some (fileOf pool3 1 #[] #[] 1537 3 #[] #[])
  fields := #[]
  methods := #[]
  instanceTypes := #[]
  staticTypes := #[]
  resolved := Array.replicate 12 none
  statics := none }

def pool4 : Array CpInfo := pool [(2, .class_ 4), (1, u "java/lang/CharSequence"), (42, .class_ 48), (0, u "java/lang/CharSequence$1CodePointIterator"), (10, .class_ 60), (0, u "java/lang/CharSequence$1CharIterator"), (5, .class_ 67), (0, u "java/lang/Object")] 63

/-- java/lang/CharSequence -/
def k4 : Class := { plain "java/lang/CharSequence" (some 0) with
  accessFlags := 1537
  interfaces := #[]
  cf := some (fileOf pool4 2 #[.nestMembers #[47, 59]] #[] 1537 66 #[] #[])
  fields := #[]
  methods := #[]
  instanceTypes := #[]
  staticTypes := #[]
  resolved := Array.replicate 131 none
  statics := none }

def pool5 : Array CpInfo := pool [(1, .class_ 2), (0, u "java/lang/constant/Constable"), (0, .class_ 4), (0, u "java/lang/Object")] 6

/-- java/lang/constant/Constable -/
def k5 : Class := { plain "java/lang/constant/Constable" (some 0) with
  accessFlags := 1537
  interfaces := #[]
  cf := some (fileOf pool5 1 #[] #[] 1537 3 #[] #[])
  fields := #[]
  methods := #[]
  instanceTypes := #[]
  staticTypes := #[]
  resolved := Array.replicate 11 none
  statics := none }

def pool6 : Array CpInfo := pool [(1, .class_ 2), (0, u "java/lang/constant/ConstantDesc"), (0, .class_ 4), (0, u "java/lang/Object")] 32

/-- java/lang/constant/ConstantDesc -/
def k6 : Class := { plain "java/lang/constant/ConstantDesc" (some 0) with
  accessFlags := 1537
  interfaces := #[]
  cf := some (fileOf pool6 1 #[] #[] 1537 3 #[] #[])
  fields := #[]
  methods := #[]
  instanceTypes := #[]
  staticTypes := #[]
  resolved := Array.replicate 37 none
  statics := none }

def pool7 : Array CpInfo := pool [(1, .methodref 2 3), (0, .class_ 4), (0, .nameAndType 5 6), (0, u "java/lang/Object"), (0, u "<init>"), (0, u "()V"), (2, .fieldref 10 11), (0, .class_ 12), (0, .nameAndType 13 14), (0, u "java/lang/String"), (0, u "value"), (0, u "[B"), (0, .fieldref 10 16), (0, .nameAndType 17 18), (0, u "coder"), (0, u "B"), (0, .fieldref 10 20), (0, .nameAndType 21 22), (0, u "hash"), (0, u "I"), (0, .fieldref 10 24), (0, .nameAndType 25 26), (0, u "hashIsZero"), (0, u "Z"), (0, .methodref 10 28), (0, .nameAndType 5 29), (0, u "([CIILjava/lang/Void;)V"), (8, .fieldref 10 39), (0, .nameAndType 40 26), (0, u "COMPACT_STRINGS"), (1, .class_ 44), (1, u "java/lang/StringUTF16"), (0, u "compress"), (1, .methodref 42 48), (0, .nameAndType 49 50), (0, u "coderFromArrayLen"), (0, u "([BI)B"), (56, .class_ 109), (1, u "java/lang/StringLatin1"), (32, u "()Z"), (34, .methodref 42 178), (0, .nameAndType 45 179), (0, u "([CII)[B"), (154, u "()I"), (157, .methodref 10 493), (0, .nameAndType 494 142), (0, u "isLatin1"), (46, .methodref 107 542), (0, .nameAndType 543 544), (0, u "equals"), (0, u "([B[B)Z"), (28, u "(Ljava/lang/Object;)Z"), (1, .class_ 576), (0, u "java/lang/CharSequence"), (22, u "CASE_INSENSITIVE_ORDER"), (0, u "Ljava/util/Comparator;"), (27, .methodref 107 629), (0, .nameAndType 630 631), (0, u "hashCode"), (0, u "([B)I"), (60, u "isEmpty"), (317, u "([C)V"), (90, u "serialPersistentFields"), (0, u "[Ljava/io/ObjectStreamField;"), (0, .class_ 1104), (0, u "java/lang/String$CaseInsensitiveComparator"), (1, .class_ 1107), (0, u "java/io/Serializable"), (0, .class_ 1109), (0, u "java/lang/Comparable"), (0, .class_ 1111), (0, u "java/lang/constant/Constable"), (0, .class_ 1113), (0, u "java/lang/constant/ConstantDesc"), (2, u "serialVersionUID"), (0, u "J"), (3, u "REPL"), (0, u "C"), (2, u "LATIN1"), (1, u "UTF16")] 323

def k7m0 : Method := { name := "<init>", desc := "()V", sig := { parameters := [], returnType := none }, accessFlags := 1, code := none }
def k7c1 : Code := { maxStack := 5, maxLocals := 2, code := jdk_42_method_3_code, exceptionTable := #[], attributes := #[] }
def k7m1 : Method := { name := "<init>", desc := "([C)V", sig := { parameters := [(.array .char)], returnType := none }, accessFlags := 1, code := some k7c1 }
def k7c2 : Code := { maxStack := 1, maxLocals := 1, code := jdk_42_method_55_code, exceptionTable := #[], attributes := #[] }
def k7m2 : Method := { name := "isEmpty", desc := "()Z", sig := { parameters := [], returnType := some .boolean }, accessFlags := 1, code := some k7c2 }
def k7c3 : Code := { maxStack := 2, maxLocals := 3, code := jdk_42_method_66_code, exceptionTable := #[], attributes := #[] }
def k7m3 : Method := { name := "equals", desc := "(Ljava/lang/Object;)Z", sig := { parameters := [(.object "java/lang/Object")], returnType := some .boolean }, accessFlags := 1, code := some k7c3 }
def k7c4 : Code := { maxStack := 2, maxLocals := 2, code := jdk_42_method_78_code, exceptionTable := #[], attributes := #[] }
def k7m4 : Method := { name := "hashCode", desc := "()I", sig := { parameters := [], returnType := some .int }, accessFlags := 1, code := some k7c4 }
def k7c5 : Code := { maxStack := 4, maxLocals := 6, code := jdk_42_method_149_code, exceptionTable := #[], attributes := #[] }
def k7m5 : Method := { name := "<init>", desc := "([CIILjava/lang/Void;)V", sig := { parameters := [(.array .char), .int, .int, (.object "java/lang/Void")], returnType := none }, accessFlags := 2, code := some k7c5 }
def k7c6 : Code := { maxStack := 1, maxLocals := 1, code := jdk_42_method_154_code, exceptionTable := #[], attributes := #[] }
def k7m6 : Method := { name := "isLatin1", desc := "()Z", sig := { parameters := [], returnType := some .boolean }, accessFlags := 0, code := some k7c6 }
/-- java/lang/String -/
def k7 : Class := { plain "java/lang/String" (some 0) with
  accessFlags := 49
  interfaces := #[2, 3, 4, 5, 6]
  cf := some (fileOf pool7 10 #[.nestMembers #[1103]] #[{ accessFlags := 1, nameIndex := 5, descriptorIndex := 6, attributes := #[] }, { accessFlags := 1, nameIndex := 5, descriptorIndex := 1010, attributes := #[] }, { accessFlags := 1, nameIndex := 692, descriptorIndex := 142, attributes := #[] }, { accessFlags := 1, nameIndex := 543, descriptorIndex := 573, attributes := #[] }, { accessFlags := 1, nameIndex := 630, descriptorIndex := 334, attributes := #[] }, { accessFlags := 2, nameIndex := 5, descriptorIndex := 29, attributes := #[] }, { accessFlags := 0, nameIndex := 494, descriptorIndex := 142, attributes := #[] }] 49 2 #[1106, 1108, 575, 1110, 1112] #[{ accessFlags := 18, nameIndex := 13, descriptorIndex := 14, attributes := #[] }, { accessFlags := 18, nameIndex := 17, descriptorIndex := 18, attributes := #[] }, { accessFlags := 2, nameIndex := 21, descriptorIndex := 22, attributes := #[] }, { accessFlags := 2, nameIndex := 25, descriptorIndex := 26, attributes := #[] }, { accessFlags := 26, nameIndex := 1116, descriptorIndex := 1117, attributes := #[] }, { accessFlags := 24, nameIndex := 40, descriptorIndex := 26, attributes := #[] }, { accessFlags := 26, nameIndex := 1101, descriptorIndex := 1102, attributes := #[] }, { accessFlags := 26, nameIndex := 1121, descriptorIndex := 1122, attributes := #[] }, { accessFlags := 25, nameIndex := 599, descriptorIndex := 600, attributes := #[] }, { accessFlags := 24, nameIndex := 1125, descriptorIndex := 18, attributes := #[] }, { accessFlags := 24, nameIndex := 1127, descriptorIndex := 18, attributes := #[] }])
  fields := #[{ name := "value", type := (.array .byte), accessFlags := 18, slot := 0, constantValue := 0 }, { name := "coder", type := .byte, accessFlags := 18, slot := 1, constantValue := 0 }, { name := "hash", type := .int, accessFlags := 2, slot := 2, constantValue := 0 }, { name := "hashIsZero", type := .boolean, accessFlags := 2, slot := 3, constantValue := 0 }, { name := "serialVersionUID", type := .long, accessFlags := 26, slot := 0, constantValue := 0 }, { name := "COMPACT_STRINGS", type := .boolean, accessFlags := 24, slot := 1, constantValue := 0 }, { name := "serialPersistentFields", type := (.array (.object "java/io/ObjectStreamField")), accessFlags := 26, slot := 2, constantValue := 0 }, { name := "REPL", type := .char, accessFlags := 26, slot := 3, constantValue := 0 }, { name := "CASE_INSENSITIVE_ORDER", type := (.object "java/util/Comparator"), accessFlags := 25, slot := 4, constantValue := 0 }, { name := "LATIN1", type := .byte, accessFlags := 24, slot := 5, constantValue := 0 }, { name := "UTF16", type := .byte, accessFlags := 24, slot := 6, constantValue := 0 }]
  methods := #[k7m0, k7m1, k7m2, k7m3, k7m4, k7m5, k7m6]
  instanceTypes := #[(.array .byte), .byte, .int, .boolean]
  staticTypes := #[.long, .boolean, (.array (.object "java/io/ObjectStreamField")), .char, (.object "java/util/Comparator"), .byte, .byte]
  resolved := Array.replicate 1451 none
  statics := some 0 }

def pool8 : Array CpInfo := pool [(6, .class_ 8), (1, u "java/lang/Object"), (0, u "<init>"), (0, u "()V"), (1, .class_ 14), (1, u "java/lang/StringUTF16"), (31, u "$assertionsDisabled"), (0, u "Z"), (13, u "HI_BYTE_SHIFT"), (0, u "I"), (2, u "LO_BYTE_SHIFT"), (49, .methodref 12 116), (0, .nameAndType 117 118), (0, u "compress"), (0, u "([CI[BII)I"), (3, u "([CII)[B"), (138, u "coderFromArrayLen"), (0, u "([BI)B"), (106, .class_ 371), (1, u "java/lang/StringUTF16$LinesSpliterator"), (58, u "MAX_LENGTH"), (196, .class_ 628), (0, u "java/lang/StringUTF16$CodePointsSpliterator"), (0, .class_ 630), (0, u "java/lang/StringUTF16$CharsSpliterator")] 4

def k8m0 : Method := { name := "<init>", desc := "()V", sig := { parameters := [], returnType := none }, accessFlags := 0, code := none }
def k8c1 : Code := { maxStack := 2, maxLocals := 2, code := jdk_52_method_15_code, exceptionTable := #[], attributes := #[] }
def k8m1 : Method := { name := "coderFromArrayLen", desc := "([BI)B", sig := { parameters := [(.array .byte), .int], returnType := some .byte }, accessFlags := 8, code := some k8c1 }
def k8c2 : Code := { maxStack := 5, maxLocals := 6, code := jdk_52_method_16_code, exceptionTable := #[], attributes := #[] }
def k8m2 : Method := { name := "compress", desc := "([CII)[B", sig := { parameters := [(.array .char), .int, .int], returnType := some (.array .byte) }, accessFlags := 9, code := some k8c2 }
def k8c3 : Code := { maxStack := 3, maxLocals := 7, code := jdk_52_method_21_code, exceptionTable := #[], attributes := #[] }
def k8m3 : Method := { name := "compress", desc := "([CI[BII)I", sig := { parameters := [(.array .char), .int, (.array .byte), .int, .int], returnType := some .int }, accessFlags := 9, code := some k8c3 }
/-- java/lang/StringUTF16 -/
def k8 : Class := { plain "java/lang/StringUTF16" (some 0) with
  accessFlags := 48
  interfaces := #[]
  cf := some (fileOf pool8 12 #[.nestMembers #[627, 629, 369]] #[{ accessFlags := 0, nameIndex := 9, descriptorIndex := 10, attributes := #[] }, { accessFlags := 8, nameIndex := 261, descriptorIndex := 262, attributes := #[] }, { accessFlags := 9, nameIndex := 117, descriptorIndex := 122, attributes := #[] }, { accessFlags := 9, nameIndex := 117, descriptorIndex := 118, attributes := #[] }] 48 6 #[] #[{ accessFlags := 26, nameIndex := 61, descriptorIndex := 62, attributes := #[] }, { accessFlags := 26, nameIndex := 65, descriptorIndex := 62, attributes := #[] }, { accessFlags := 24, nameIndex := 430, descriptorIndex := 62, attributes := #[] }, { accessFlags := 4120, nameIndex := 46, descriptorIndex := 47, attributes := #[] }])
  fields := #[{ name := "HI_BYTE_SHIFT", type := .int, accessFlags := 26, slot := 0, constantValue := 0 }, { name := "LO_BYTE_SHIFT", type := .int, accessFlags := 26, slot := 1, constantValue := 0 }, { name := "MAX_LENGTH", type := .int, accessFlags := 24, slot := 2, constantValue := 0 }, { name := "$assertionsDisabled", type := .boolean, accessFlags := 4120, slot := 3, constantValue := 0 }]
  methods := #[k8m0, k8m1, k8m2, k8m3]
  instanceTypes := #[]
  staticTypes := #[.int, .int, .int, .boolean]
  resolved := Array.replicate 635 none
  statics := none }

def pool9 : Array CpInfo := pool [(1, .methodref 2 3), (0, .class_ 4), (0, .nameAndType 5 6), (0, u "java/lang/Object"), (0, u "<init>"), (0, u "()V"), (0, .fieldref 8 9), (0, .class_ 10), (0, .nameAndType 11 12), (0, u "com/example/typub/typub/Group"), (0, u "name"), (0, u "Ljava/lang/String;"), (0, .string 11), (0, .methodref 15 16), (0, .class_ 17), (0, .nameAndType 18 19), (0, u "java/util/Objects"), (0, u "requireNonNull"), (0, u "(Ljava/lang/Object;Ljava/lang/String;)Ljava/lang/Object;"), (0, .class_ 21), (0, u "java/lang/String"), (0, .methodref 20 23), (0, .nameAndType 24 25), (0, u "isEmpty"), (0, u "()Z"), (5, .nameAndType 5 32), (0, u "(Ljava/lang/String;)V"), (0, .methodref 8 31), (0, .methodref 20 35), (0, .nameAndType 36 37), (0, u "equals"), (0, u "(Ljava/lang/Object;)Z"), (0, .methodref 20 39), (0, .nameAndType 40 41), (0, u "hashCode"), (0, u "()I"), (10, u "NONE"), (0, u "Lcom/example/typub/typub/Group;"), (2, u "of"), (0, u "(Ljava/lang/String;)Lcom/example/typub/typub/Group;"), (1, u "()Ljava/lang/String;")] 19

def k9c0 : Code := { maxStack := 2, maxLocals := 2, code := prog_11_method_1_code, exceptionTable := #[], attributes := #[] }
def k9m0 : Method := { name := "<init>", desc := "(Ljava/lang/String;)V", sig := { parameters := [(.object "java/lang/String")], returnType := none }, accessFlags := 2, code := some k9c0 }
def k9c1 : Code := { maxStack := 3, maxLocals := 1, code := prog_11_method_2_code, exceptionTable := #[], attributes := #[] }
def k9m1 : Method := { name := "of", desc := "(Ljava/lang/String;)Lcom/example/typub/typub/Group;", sig := { parameters := [(.object "java/lang/String")], returnType := some (.object "com/example/typub/typub/Group") }, accessFlags := 9, code := some k9c1 }
def k9c2 : Code := { maxStack := 1, maxLocals := 1, code := prog_11_method_3_code, exceptionTable := #[], attributes := #[] }
def k9m2 : Method := { name := "name", desc := "()Ljava/lang/String;", sig := { parameters := [], returnType := some (.object "java/lang/String") }, accessFlags := 1, code := some k9c2 }
def k9c3 : Code := { maxStack := 2, maxLocals := 3, code := prog_11_method_4_code, exceptionTable := #[], attributes := #[] }
def k9m3 : Method := { name := "equals", desc := "(Ljava/lang/Object;)Z", sig := { parameters := [(.object "java/lang/Object")], returnType := some .boolean }, accessFlags := 1, code := some k9c3 }
def k9c4 : Code := { maxStack := 1, maxLocals := 1, code := prog_11_method_5_code, exceptionTable := #[], attributes := #[] }
def k9m4 : Method := { name := "hashCode", desc := "()I", sig := { parameters := [], returnType := some .int }, accessFlags := 1, code := some k9c4 }
/-- com/example/typub/typub/Group -/
def k9 : Class := { plain "com/example/typub/typub/Group" (some 0) with
  accessFlags := 49
  interfaces := #[]
  cf := some (fileOf pool9 8 #[] #[{ accessFlags := 2, nameIndex := 5, descriptorIndex := 32, attributes := #[] }, { accessFlags := 9, nameIndex := 56, descriptorIndex := 57, attributes := #[] }, { accessFlags := 1, nameIndex := 11, descriptorIndex := 59, attributes := #[] }, { accessFlags := 1, nameIndex := 36, descriptorIndex := 37, attributes := #[] }, { accessFlags := 1, nameIndex := 40, descriptorIndex := 41, attributes := #[] }] 49 2 #[] #[{ accessFlags := 25, nameIndex := 52, descriptorIndex := 53, attributes := #[] }, { accessFlags := 18, nameIndex := 11, descriptorIndex := 12, attributes := #[] }])
  fields := #[{ name := "NONE", type := (.object "com/example/typub/typub/Group"), accessFlags := 25, slot := 0, constantValue := 0 }, { name := "name", type := (.object "java/lang/String"), accessFlags := 18, slot := 0, constantValue := 0 }]
  methods := #[k9m0, k9m1, k9m2, k9m3, k9m4]
  instanceTypes := #[(.object "java/lang/String")]
  staticTypes := #[(.object "com/example/typub/typub/Group")]
  resolved := Array.replicate 79 none
  statics := some 1 }

def pool10 : Array CpInfo := pool [(2, .class_ 4), (1, u "java/lang/Object"), (0, u "<init>"), (0, u "()V"), (35, .class_ 44), (1, u "java/util/Objects"), (0, u "requireNonNull"), (48, u "(Ljava/lang/Object;Ljava/lang/String;)Ljava/lang/Object;")] 89

def k10m0 : Method := { name := "<init>", desc := "()V", sig := { parameters := [], returnType := none }, accessFlags := 2, code := none }
def k10c1 : Code := { maxStack := 3, maxLocals := 2, code := jdk_31_method_11_code, exceptionTable := #[], attributes := #[] }
def k10m1 : Method := { name := "requireNonNull", desc := "(Ljava/lang/Object;Ljava/lang/String;)Ljava/lang/Object;", sig := { parameters := [(.object "java/lang/Object"), (.object "java/lang/String")], returnType := some (.object "java/lang/Object") }, accessFlags := 9, code := some k10c1 }
/-- java/util/Objects -/
def k10 : Class := { plain "java/util/Objects" (some 0) with
  accessFlags := 49
  interfaces := #[]
  cf := some (fileOf pool10 42 #[] #[{ accessFlags := 2, nameIndex := 5, descriptorIndex := 6, attributes := #[] }, { accessFlags := 9, nameIndex := 45, descriptorIndex := 94, attributes := #[] }] 49 2 #[] #[])
  fields := #[]
  methods := #[k10m0, k10m1]
  instanceTypes := #[]
  staticTypes := #[]
  resolved := Array.replicate 184 none
  statics := none }

def pool11 : Array CpInfo := pool [(4, .class_ 6), (1, u "java/lang/Object"), (0, u "<init>"), (0, u "()V"), (5, .class_ 16), (1, u "java/lang/StringLatin1"), (28, .class_ 47), (1, u "jdk/internal/util/ArraysSupport"), (9, u "([B)I"), (26, .methodref 45 85), (0, .nameAndType 86 87), (0, u "vectorizedHashCode"), (0, u "(Ljava/lang/Object;IIII)I"), (33, u "$assertionsDisabled"), (0, u "Z"), (98, .class_ 223), (1, u "java/lang/StringLatin1$LinesSpliterator"), (57, u "equals"), (0, u "([B[B)Z"), (15, u "hashCode"), (91, .class_ 391), (0, u "java/lang/StringLatin1$CharsSpliterator")] 3

def k11m0 : Method := { name := "<init>", desc := "()V", sig := { parameters := [], returnType := none }, accessFlags := 0, code := none }
def k11c1 : Code := { maxStack := 3, maxLocals := 3, code := jdk_43_method_13_code, exceptionTable := #[], attributes := #[] }
def k11m1 : Method := { name := "equals", desc := "([B[B)Z", sig := { parameters := [(.array .byte), (.array .byte)], returnType := some .boolean }, accessFlags := 9, code := some k11c1 }
def k11c2 : Code := { maxStack := 5, maxLocals := 1, code := jdk_43_method_21_code, exceptionTable := #[], attributes := #[] }
def k11m2 : Method := { name := "hashCode", desc := "([B)I", sig := { parameters := [(.array .byte)], returnType := some .int }, accessFlags := 9, code := some k11c2 }
/-- java/lang/StringLatin1 -/
def k11 : Class := { plain "java/lang/StringLatin1" (some 0) with
  accessFlags := 48
  interfaces := #[]
  cf := some (fileOf pool11 14 #[.nestMembers #[390, 221]] #[{ accessFlags := 0, nameIndex := 7, descriptorIndex := 8, attributes := #[] }, { accessFlags := 9, nameIndex := 281, descriptorIndex := 282, attributes := #[] }, { accessFlags := 9, nameIndex := 298, descriptorIndex := 57, attributes := #[] }] 48 4 #[] #[{ accessFlags := 4120, nameIndex := 121, descriptorIndex := 122, attributes := #[] }])
  fields := #[{ name := "$assertionsDisabled", type := .boolean, accessFlags := 4120, slot := 0, constantValue := 0 }]
  methods := #[k11m0, k11m1, k11m2]
  instanceTypes := #[]
  staticTypes := #[.boolean]
  resolved := Array.replicate 395 none
  statics := none }

def pool12 : Array CpInfo := pool [(9, u "<init>"), (6, .class_ 18), (1, u "java/lang/Object"), (0, u "()V"), (1, .class_ 23), (1, u "jdk/internal/util/ArraysSupport"), (0, u "LOG2_ARRAY_LONG_INDEX_SCALE"), (0, u "I"), (2, u "U"), (0, u "Ljdk/internal/misc/Unsafe;"), (8, u "BIG_ENDIAN"), (0, u "Z"), (8, u "LOG2_BYTE_BIT_SIZE"), (4, u "LOG2_ARRAY_INT_INDEX_SCALE"), (6, .class_ 61), (0, u "[B"), (0, .methodref 21 63), (0, .nameAndType 64 65), (0, u "signedHashCode"), (0, u "(I[BII)I"), (42, u "JLA"), (0, u "Ljdk/internal/access/JavaLangAccess;"), (11, u "LOG2_ARRAY_BOOLEAN_INDEX_SCALE"), (9, u "LOG2_ARRAY_BYTE_INDEX_SCALE"), (5, u "LOG2_ARRAY_CHAR_INDEX_SCALE"), (5, u "LOG2_ARRAY_SHORT_INDEX_SCALE"), (18, u "LOG2_ARRAY_FLOAT_INDEX_SCALE"), (24, u "LOG2_ARRAY_DOUBLE_INDEX_SCALE"), (89, u "T_BOOLEAN"), (2, u "T_CHAR"), (1, u "T_FLOAT"), (1, u "T_DOUBLE"), (1, u "T_BYTE"), (1, u "T_SHORT"), (1, u "T_INT"), (1, u "T_LONG"), (1, u "SOFT_MAX_ARRAY_LENGTH"), (26, u "vectorizedHashCode"), (0, u "(Ljava/lang/Object;IIII)I")] 55

def k12m0 : Method := { name := "<init>", desc := "()V", sig := { parameters := [], returnType := none }, accessFlags := 2, code := none }
def k12c1 : Code := { maxStack := 4, maxLocals := 5, code := jdk_48_method_4_code, exceptionTable := #[], attributes := #[] }
def k12m1 : Method := { name := "vectorizedHashCode", desc := "(Ljava/lang/Object;IIII)I", sig := { parameters := [(.object "java/lang/Object"), .int, .int, .int, .int], returnType := some .int }, accessFlags := 9, code := some k12c1 }
def k12c2 : Code := { maxStack := 3, maxLocals := 6, code := jdk_48_method_5_code, exceptionTable := #[], attributes := #[] }
def k12m2 : Method := { name := "signedHashCode", desc := "(I[BII)I", sig := { parameters := [.int, (.array .byte), .int, .int], returnType := some .int }, accessFlags := 10, code := some k12c2 }
/-- jdk/internal/util/ArraysSupport -/
def k12 : Class := { plain "jdk/internal/util/ArraysSupport" (some 0) with
  accessFlags := 33
  interfaces := #[]
  cf := some (fileOf pool12 21 #[] #[{ accessFlags := 2, nameIndex := 9, descriptorIndex := 19, attributes := #[] }, { accessFlags := 9, nameIndex := 321, descriptorIndex := 322, attributes := #[] }, { accessFlags := 10, nameIndex := 64, descriptorIndex := 65, attributes := #[] }] 33 16 #[] #[{ accessFlags := 24, nameIndex := 28, descriptorIndex := 29, attributes := #[] }, { accessFlags := 26, nameIndex := 38, descriptorIndex := 39, attributes := #[] }, { accessFlags := 25, nameIndex := 121, descriptorIndex := 25, attributes := #[] }, { accessFlags := 25, nameIndex := 131, descriptorIndex := 25, attributes := #[] }, { accessFlags := 25, nameIndex := 137, descriptorIndex := 25, attributes := #[] }, { accessFlags := 25, nameIndex := 143, descriptorIndex := 25, attributes := #[] }, { accessFlags := 25, nameIndex := 53, descriptorIndex := 25, attributes := #[] }, { accessFlags := 25, nameIndex := 24, descriptorIndex := 25, attributes := #[] }, { accessFlags := 25, nameIndex := 162, descriptorIndex := 25, attributes := #[] }, { accessFlags := 25, nameIndex := 187, descriptorIndex := 25, attributes := #[] }, { accessFlags := 26, nameIndex := 48, descriptorIndex := 25, attributes := #[] }, { accessFlags := 25, nameIndex := 277, descriptorIndex := 25, attributes := #[] }, { accessFlags := 25, nameIndex := 280, descriptorIndex := 25, attributes := #[] }, { accessFlags := 25, nameIndex := 282, descriptorIndex := 25, attributes := #[] }, { accessFlags := 25, nameIndex := 284, descriptorIndex := 25, attributes := #[] }, { accessFlags := 25, nameIndex := 286, descriptorIndex := 25, attributes := #[] }, { accessFlags := 25, nameIndex := 288, descriptorIndex := 25, attributes := #[] }, { accessFlags := 25, nameIndex := 290, descriptorIndex := 25, attributes := #[] }, { accessFlags := 25, nameIndex := 292, descriptorIndex := 25, attributes := #[] }, { accessFlags := 26, nameIndex := 108, descriptorIndex := 109, attributes := #[] }, { accessFlags := 25, nameIndex := 294, descriptorIndex := 25, attributes := #[] }])
  fields := #[{ name := "U", type := (.object "jdk/internal/misc/Unsafe"), accessFlags := 24, slot := 0, constantValue := 0 }, { name := "BIG_ENDIAN", type := .boolean, accessFlags := 26, slot := 1, constantValue := 0 }, { name := "LOG2_ARRAY_BOOLEAN_INDEX_SCALE", type := .int, accessFlags := 25, slot := 2, constantValue := 0 }, { name := "LOG2_ARRAY_BYTE_INDEX_SCALE", type := .int, accessFlags := 25, slot := 3, constantValue := 0 }, { name := "LOG2_ARRAY_CHAR_INDEX_SCALE", type := .int, accessFlags := 25, slot := 4, constantValue := 0 }, { name := "LOG2_ARRAY_SHORT_INDEX_SCALE", type := .int, accessFlags := 25, slot := 5, constantValue := 0 }, { name := "LOG2_ARRAY_INT_INDEX_SCALE", type := .int, accessFlags := 25, slot := 6, constantValue := 0 }, { name := "LOG2_ARRAY_LONG_INDEX_SCALE", type := .int, accessFlags := 25, slot := 7, constantValue := 0 }, { name := "LOG2_ARRAY_FLOAT_INDEX_SCALE", type := .int, accessFlags := 25, slot := 8, constantValue := 0 }, { name := "LOG2_ARRAY_DOUBLE_INDEX_SCALE", type := .int, accessFlags := 25, slot := 9, constantValue := 0 }, { name := "LOG2_BYTE_BIT_SIZE", type := .int, accessFlags := 26, slot := 10, constantValue := 0 }, { name := "T_BOOLEAN", type := .int, accessFlags := 25, slot := 11, constantValue := 0 }, { name := "T_CHAR", type := .int, accessFlags := 25, slot := 12, constantValue := 0 }, { name := "T_FLOAT", type := .int, accessFlags := 25, slot := 13, constantValue := 0 }, { name := "T_DOUBLE", type := .int, accessFlags := 25, slot := 14, constantValue := 0 }, { name := "T_BYTE", type := .int, accessFlags := 25, slot := 15, constantValue := 0 }, { name := "T_SHORT", type := .int, accessFlags := 25, slot := 16, constantValue := 0 }, { name := "T_INT", type := .int, accessFlags := 25, slot := 17, constantValue := 0 }, { name := "T_LONG", type := .int, accessFlags := 25, slot := 18, constantValue := 0 }, { name := "JLA", type := (.object "jdk/internal/access/JavaLangAccess"), accessFlags := 26, slot := 19, constantValue := 0 }, { name := "SOFT_MAX_ARRAY_LENGTH", type := .int, accessFlags := 25, slot := 20, constantValue := 0 }]
  methods := #[k12m0, k12m1, k12m2]
  instanceTypes := #[]
  staticTypes := #[(.object "jdk/internal/misc/Unsafe"), .boolean, .int, .int, .int, .int, .int, .int, .int, .int, .int, .int, .int, .int, .int, .int, .int, .int, .int, (.object "jdk/internal/access/JavaLangAccess"), .int]
  resolved := Array.replicate 378 none
  statics := none }

def pool13 : Array CpInfo := pool [(2, .class_ 4), (1, u "java/lang/Object"), (0, u "<init>"), (0, u "()V"), (17, .class_ 26), (1, u "jdk/internal/util/Preconditions"), (28, .class_ 56), (0, u "jdk/internal/util/Preconditions$4"), (57, .class_ 115), (0, u "jdk/internal/util/Preconditions$1"), (7, u "SIOOBE_FORMATTER"), (0, u "Ljava/util/function/BiFunction;"), (0, .class_ 126), (0, u "jdk/internal/util/Preconditions$2"), (3, u "AIOOBE_FORMATTER"), (0, .class_ 132), (0, u "jdk/internal/util/Preconditions$3"), (3, u "IOOBE_FORMATTER")] 57

def k13m0 : Method := { name := "<init>", desc := "()V", sig := { parameters := [], returnType := none }, accessFlags := 1, code := none }
/-- jdk/internal/util/Preconditions -/
def k13 : Class := { plain "jdk/internal/util/Preconditions" (some 0) with
  accessFlags := 33
  interfaces := #[]
  cf := some (fileOf pool13 24 #[.nestMembers #[55, 131, 125, 114]] #[{ accessFlags := 1, nameIndex := 5, descriptorIndex := 6, attributes := #[] }] 33 2 #[] #[{ accessFlags := 25, nameIndex := 123, descriptorIndex := 124, attributes := #[] }, { accessFlags := 25, nameIndex := 130, descriptorIndex := 124, attributes := #[] }, { accessFlags := 25, nameIndex := 136, descriptorIndex := 124, attributes := #[] }])
  fields := #[{ name := "SIOOBE_FORMATTER", type := (.object "java/util/function/BiFunction"), accessFlags := 25, slot := 0, constantValue := 0 }, { name := "AIOOBE_FORMATTER", type := (.object "java/util/function/BiFunction"), accessFlags := 25, slot := 1, constantValue := 0 }, { name := "IOOBE_FORMATTER", type := (.object "java/util/function/BiFunction"), accessFlags := 25, slot := 2, constantValue := 0 }]
  methods := #[k13m0]
  instanceTypes := #[]
  staticTypes := #[(.object "java/util/function/BiFunction"), (.object "java/util/function/BiFunction"), (.object "java/util/function/BiFunction")]
  resolved := Array.replicate 194 none
  statics := some 2 }

def pool14 : Array CpInfo := pool [(1, u "java/lang/Cloneable"), (0, .class_ 1), (0, u "java/lang/Object"), (0, .class_ 3)] 3

/-- java/lang/Cloneable -/
def k14 : Class := { plain "java/lang/Cloneable" (some 0) with
  accessFlags := 1537
  interfaces := #[]
  cf := some (fileOf pool14 2 #[] #[] 1537 4 #[] #[])
  fields := #[]
  methods := #[]
  instanceTypes := #[]
  staticTypes := #[]
  resolved := Array.replicate 8 none
  statics := none }

/-- the primitive byte -/
def k15 : Class := { plain "byte" none with kind := .primitive 'B', accessFlags := 0x411 }
/-- [B -/
def k16 : Class := { plain "[B" (some 0) with kind := .array 15 .byte, interfaces := #[14, 2], accessFlags := 1041 }

/-- the primitive char -/
def k17 : Class := { plain "char" none with kind := .primitive 'C', accessFlags := 0x411 }
/-- [C -/
def k18 : Class := { plain "[C" (some 0) with kind := .array 17 .char, interfaces := #[14, 2], accessFlags := 1041 }

/-- the primitive int -/
def k19 : Class := { plain "int" none with kind := .primitive 'I', accessFlags := 0x411 }
/-- [I -/
def k20 : Class := { plain "[I" (some 0) with kind := .array 19 .int, interfaces := #[14, 2], accessFlags := 1041 }

def heap : Heap := #[{ cls := 7, slots := #[.long 0, .int 1, .null, .int 0, .null, .int 0, .int 0], vm := .statics 7 },
  { cls := 9, slots := #[.ref 3], vm := .statics 9 },
  { cls := 13, slots := #[.null, .null, .null], vm := .statics 13 },
  { cls := 9, slots := #[.ref 4], vm := .none },
  { cls := 7, slots := #[.ref 5, .int 0, .int 0, .int 0], vm := .none },
  { cls := 16, slots := #[], vm := .none }]
def classes : Array Class := #[k0, k1, k2, k3, k4, k5, k6, k7, k8, k9, k10, k11, k12, k13, k14, k15, k16, k17, k18, k19, k20]
def interned : List (Array UInt16 × Addr) := []
def slotsUsed : Nat := 16
def theMethod : MethodId := ⟨1, 2⟩
def args0 : Array Value := #[.int 65, .int 66, .int 67, .int 67, .int 2, .int 2]
def aboutOver (below : List Frame) : State where
  vm := { classes := classes, interned := interned.toArray }
  heap := heap
  slotsUsed := slotsUsed
  threads := #[{ frames := .invoking theMethod args0 :: below }]
def below0 : List Frame := [.native { method := ⟨0, 0⟩, args := #[] }]
def about1 : State := aboutOver below0
def p0 : Program := .bare "" "" ""
def e0 : Env := launch0.env 0 0 0
theorem w_frames : about1.frames = Frame.invoking theMethod args0 :: below0 := rfl
set_option maxRecDepth 65536 in
theorem w_args : argsFit about1.vm theMethod args0 = true := by decide +kernel
set_option maxRecDepth 65536 in
theorem w_heap : heapFits about1 = true := by decide +kernel
set_option maxRecDepth 65536 in
theorem w_runnable : about1.curStatus? = some .runnable := by decide +kernel
set_option maxRecDepth 65536 in
theorem w_alone : about1.alone = true := by decide +kernel
set_option maxRecDepth 65536 in
theorem w_named : about1.methodNamed? x = some theMethod := by decide +kernel
set_option maxRecDepth 65536 in
theorem w_hears : about1.hears theMethod below0 = true := by decide +kernel
set_option maxRecDepth 65536 in
theorem w_ripe : about1.ripe theMethod args0 below0 = true := by decide +kernel
theorem w_running : about1.status = .running := rfl
set_option maxRecDepth 65536 in
theorem w_room : about1.hasRoom e0.platform room_1 = true :=
  launch0.hasRoom_least _ room_1 (by decide +kernel) (by decide +kernel) (by decide +kernel) (by decide +kernel) (by decide +kernel) (by decide +kernel)
theorem allAtoms_all (ts : List Jvm.Cond) (a : Array Jvm.Value) (st : Jvm.State) : (allAtoms ts).before a st = ts.all (fun c => c.before a st) := by
  induction ts with
  | nil => rfl
  | cons c t ih =>
    show (Jvm.Cond.and c (allAtoms t)).before a st = _
    rw [Jvm.Cond.before_and, ih, List.all_cons]
def words1 : List Jvm.Cond := Jvm.Cond.code x code maxLocals ret :: tables_1
/-- a 'code' word, met by the world's own term for the bytes: nothing is compared byte by byte -/
theorem code_word {y : MethodName} {bytes : ByteArray} {mx : Nat} {rt : Option FieldType} {a : Array Value} {s : State} {m : MethodId} {meth : Method} {c : Code} (h1 : s.methodNamed? y = some m) (h2 : s.vm.method? m = some meth) (h3 : meth.code = some c) (h4 : c.code = bytes)
    (h5 : (c.maxLocals == mx && c.exceptionTable.isEmpty && decide (c.maxStack ≤ mostOperands) && decide (meth.sig.returnType = rt) && !meth.locks && decide (parseMethodDescriptor y.desc = some meth.sig)) = true) : (Jvm.Cond.code y bytes mx rt).before a s = true := by
  simp only [Bool.and_eq_true, beq_iff_eq, Bool.not_eq_true', decide_eq_true_eq] at h5
  obtain ⟨⟨⟨⟨⟨g1, g2⟩, g3⟩, g4⟩, g5⟩, g6⟩ := h5
  simp [Cond.before, Cond.holds, Cond.value, h1, h2, h3, h4, g1, g2, g3, g4, g5, g6]
def isCode : Jvm.Cond → Bool
  | .code _ _ _ _ => true
  | _ => false
theorem all_split {L : List Jvm.Cond} {P : Jvm.Cond → Bool} (h1 : L.all (fun c => isCode c || P c) = true) (h2 : ∀ c ∈ L.filter isCode, P c = true) : L.all P = true := by
  refine List.all_eq_true.mpr fun c hc => ?_
  have h := List.all_eq_true.mp h1 c hc
  rcases Bool.eq_false_or_eq_true (isCode c) with hi | hi
  · exact h2 c (List.mem_filter.mpr ⟨hc, hi⟩)
  · simpa [hi] using h
set_option maxRecDepth 65536 in
theorem w_c0 : (Jvm.Cond.code x code maxLocals ret).before args0 about1 = true := code_word (m := ⟨1, 2⟩) (meth := k1m2) (c := k1c2) (by decide +kernel) rfl rfl rfl (by decide +kernel)
set_option maxRecDepth 65536 in
theorem w_c1 : (Jvm.Cond.code ({ cls := "com/example/typub/typub/GroupOfPinLaw", name := "draw", desc := "(IIII)Ljava/lang/String;" } : Jvm.MethodName) method_2_code (8 : Nat) (Option.some (Jvm.ClassFile.FieldType.object "java/lang/String"))).before args0 about1 = true := code_word (m := ⟨1, 1⟩) (meth := k1m1) (c := k1c1) (by decide +kernel) rfl rfl rfl (by decide +kernel)
set_option maxRecDepth 65536 in
theorem w_c2 : (Jvm.Cond.code ({ cls := "java/lang/String", name := "<init>", desc := "([C)V" } : Jvm.MethodName) jdk_42_method_3_code (2 : Nat) (Option.none : Option Jvm.ClassFile.FieldType)).before args0 about1 = true := code_word (m := ⟨7, 1⟩) (meth := k7m1) (c := k7c1) (by decide +kernel) rfl rfl rfl (by decide +kernel)
set_option maxRecDepth 65536 in
theorem w_c3 : (Jvm.Cond.code ({ cls := "java/lang/String", name := "<init>", desc := "([CIILjava/lang/Void;)V" } : Jvm.MethodName) jdk_42_method_149_code (6 : Nat) (Option.none : Option Jvm.ClassFile.FieldType)).before args0 about1 = true := code_word (m := ⟨7, 5⟩) (meth := k7m5) (c := k7c5) (by decide +kernel) rfl rfl rfl (by decide +kernel)
set_option maxRecDepth 65536 in
theorem w_c4 : (Jvm.Cond.code ({ cls := "java/lang/Object", name := "<init>", desc := "()V" } : Jvm.MethodName) object_method_1_code (1 : Nat) (Option.none : Option Jvm.ClassFile.FieldType)).before args0 about1 = true := code_word (m := ⟨0, 0⟩) (meth := k0m0) (c := k0c0) (by decide +kernel) rfl rfl rfl (by decide +kernel)
set_option maxRecDepth 65536 in
theorem w_c5 : (Jvm.Cond.code ({ cls := "java/lang/StringUTF16", name := "compress", desc := "([CII)[B" } : Jvm.MethodName) jdk_52_method_16_code (6 : Nat) (Option.some (Jvm.ClassFile.FieldType.array Jvm.ClassFile.FieldType.byte))).before args0 about1 = true := code_word (m := ⟨8, 2⟩) (meth := k8m2) (c := k8c2) (by decide +kernel) rfl rfl rfl (by decide +kernel)
set_option maxRecDepth 65536 in
theorem w_c6 : (Jvm.Cond.code ({ cls := "java/lang/StringUTF16", name := "compress", desc := "([CI[BII)I" } : Jvm.MethodName) jdk_52_method_21_code (7 : Nat) (Option.some Jvm.ClassFile.FieldType.int)).before args0 about1 = true := code_word (m := ⟨8, 3⟩) (meth := k8m3) (c := k8c3) (by decide +kernel) rfl rfl rfl (by decide +kernel)
set_option maxRecDepth 65536 in
theorem w_c7 : (Jvm.Cond.code ({ cls := "java/lang/StringUTF16", name := "coderFromArrayLen", desc := "([BI)B" } : Jvm.MethodName) jdk_52_method_15_code (2 : Nat) (Option.some Jvm.ClassFile.FieldType.byte)).before args0 about1 = true := code_word (m := ⟨8, 1⟩) (meth := k8m1) (c := k8c1) (by decide +kernel) rfl rfl rfl (by decide +kernel)
set_option maxRecDepth 65536 in
theorem w_c8 : (Jvm.Cond.code ({ cls := "com/example/typub/typub/Group", name := "of", desc := "(Ljava/lang/String;)Lcom/example/typub/typub/Group;" } : Jvm.MethodName) prog_11_method_2_code (1 : Nat) (Option.some (Jvm.ClassFile.FieldType.object "com/example/typub/typub/Group"))).before args0 about1 = true := code_word (m := ⟨9, 1⟩) (meth := k9m1) (c := k9c1) (by decide +kernel) rfl rfl rfl (by decide +kernel)
set_option maxRecDepth 65536 in
theorem w_c9 : (Jvm.Cond.code ({ cls := "java/util/Objects", name := "requireNonNull", desc := "(Ljava/lang/Object;Ljava/lang/String;)Ljava/lang/Object;" } : Jvm.MethodName) jdk_31_method_11_code (2 : Nat) (Option.some (Jvm.ClassFile.FieldType.object "java/lang/Object"))).before args0 about1 = true := code_word (m := ⟨10, 1⟩) (meth := k10m1) (c := k10c1) (by decide +kernel) rfl rfl rfl (by decide +kernel)
set_option maxRecDepth 65536 in
theorem w_c10 : (Jvm.Cond.code ({ cls := "java/lang/String", name := "isEmpty", desc := "()Z" } : Jvm.MethodName) jdk_42_method_55_code (1 : Nat) (Option.some Jvm.ClassFile.FieldType.boolean)).before args0 about1 = true := code_word (m := ⟨7, 2⟩) (meth := k7m2) (c := k7c2) (by decide +kernel) rfl rfl rfl (by decide +kernel)
set_option maxRecDepth 65536 in
theorem w_c11 : (Jvm.Cond.code ({ cls := "com/example/typub/typub/Group", name := "<init>", desc := "(Ljava/lang/String;)V" } : Jvm.MethodName) prog_11_method_1_code (2 : Nat) (Option.none : Option Jvm.ClassFile.FieldType)).before args0 about1 = true := code_word (m := ⟨9, 0⟩) (meth := k9m0) (c := k9c0) (by decide +kernel) rfl rfl rfl (by decide +kernel)
set_option maxRecDepth 65536 in
theorem w_c12 : (Jvm.Cond.code ({ cls := "java/lang/String", name := "equals", desc := "(Ljava/lang/Object;)Z" } : Jvm.MethodName) jdk_42_method_66_code (3 : Nat) (Option.some Jvm.ClassFile.FieldType.boolean)).before args0 about1 = true := code_word (m := ⟨7, 3⟩) (meth := k7m3) (c := k7c3) (by decide +kernel) rfl rfl rfl (by decide +kernel)
set_option maxRecDepth 65536 in
theorem w_c13 : (Jvm.Cond.code ({ cls := "java/lang/StringLatin1", name := "equals", desc := "([B[B)Z" } : Jvm.MethodName) jdk_43_method_13_code (3 : Nat) (Option.some Jvm.ClassFile.FieldType.boolean)).before args0 about1 = true := code_word (m := ⟨11, 1⟩) (meth := k11m1) (c := k11c1) (by decide +kernel) rfl rfl rfl (by decide +kernel)
set_option maxRecDepth 65536 in
theorem w_c14 : (Jvm.Cond.code ({ cls := "com/example/typub/typub/Group", name := "name", desc := "()Ljava/lang/String;" } : Jvm.MethodName) prog_11_method_3_code (1 : Nat) (Option.some (Jvm.ClassFile.FieldType.object "java/lang/String"))).before args0 about1 = true := code_word (m := ⟨9, 2⟩) (meth := k9m2) (c := k9c2) (by decide +kernel) rfl rfl rfl (by decide +kernel)
set_option maxRecDepth 65536 in
theorem w_c15 : (Jvm.Cond.code ({ cls := "com/example/typub/typub/Group", name := "equals", desc := "(Ljava/lang/Object;)Z" } : Jvm.MethodName) prog_11_method_4_code (3 : Nat) (Option.some Jvm.ClassFile.FieldType.boolean)).before args0 about1 = true := code_word (m := ⟨9, 3⟩) (meth := k9m3) (c := k9c3) (by decide +kernel) rfl rfl rfl (by decide +kernel)
set_option maxRecDepth 65536 in
theorem w_c16 : (Jvm.Cond.code ({ cls := "com/example/typub/typub/Group", name := "hashCode", desc := "()I" } : Jvm.MethodName) prog_11_method_5_code (1 : Nat) (Option.some Jvm.ClassFile.FieldType.int)).before args0 about1 = true := code_word (m := ⟨9, 4⟩) (meth := k9m4) (c := k9c4) (by decide +kernel) rfl rfl rfl (by decide +kernel)
set_option maxRecDepth 65536 in
theorem w_c17 : (Jvm.Cond.code ({ cls := "java/lang/String", name := "hashCode", desc := "()I" } : Jvm.MethodName) jdk_42_method_78_code (2 : Nat) (Option.some Jvm.ClassFile.FieldType.int)).before args0 about1 = true := code_word (m := ⟨7, 4⟩) (meth := k7m4) (c := k7c4) (by decide +kernel) rfl rfl rfl (by decide +kernel)
set_option maxRecDepth 65536 in
theorem w_c18 : (Jvm.Cond.code ({ cls := "java/lang/String", name := "isLatin1", desc := "()Z" } : Jvm.MethodName) jdk_42_method_154_code (1 : Nat) (Option.some Jvm.ClassFile.FieldType.boolean)).before args0 about1 = true := code_word (m := ⟨7, 6⟩) (meth := k7m6) (c := k7c6) (by decide +kernel) rfl rfl rfl (by decide +kernel)
set_option maxRecDepth 65536 in
theorem w_c19 : (Jvm.Cond.code ({ cls := "java/lang/StringLatin1", name := "hashCode", desc := "([B)I" } : Jvm.MethodName) jdk_43_method_21_code (1 : Nat) (Option.some Jvm.ClassFile.FieldType.int)).before args0 about1 = true := code_word (m := ⟨11, 2⟩) (meth := k11m2) (c := k11c2) (by decide +kernel) rfl rfl rfl (by decide +kernel)
set_option maxRecDepth 65536 in
theorem w_c20 : (Jvm.Cond.code ({ cls := "jdk/internal/util/ArraysSupport", name := "vectorizedHashCode", desc := "(Ljava/lang/Object;IIII)I" } : Jvm.MethodName) jdk_48_method_4_code (5 : Nat) (Option.some Jvm.ClassFile.FieldType.int)).before args0 about1 = true := code_word (m := ⟨12, 1⟩) (meth := k12m1) (c := k12c1) (by decide +kernel) rfl rfl rfl (by decide +kernel)
set_option maxRecDepth 65536 in
theorem w_c21 : (Jvm.Cond.code ({ cls := "jdk/internal/util/ArraysSupport", name := "signedHashCode", desc := "(I[BII)I" } : Jvm.MethodName) jdk_48_method_5_code (6 : Nat) (Option.some Jvm.ClassFile.FieldType.int)).before args0 about1 = true := code_word (m := ⟨12, 2⟩) (meth := k12m2) (c := k12c2) (by decide +kernel) rfl rfl rfl (by decide +kernel)
def codes1 : List Jvm.Cond := [Jvm.Cond.code x code maxLocals ret, Jvm.Cond.code ({ cls := "com/example/typub/typub/GroupOfPinLaw", name := "draw", desc := "(IIII)Ljava/lang/String;" } : Jvm.MethodName) method_2_code (8 : Nat) (Option.some (Jvm.ClassFile.FieldType.object "java/lang/String")), Jvm.Cond.code ({ cls := "java/lang/String", name := "<init>", desc := "([C)V" } : Jvm.MethodName) jdk_42_method_3_code (2 : Nat) (Option.none : Option Jvm.ClassFile.FieldType), Jvm.Cond.code ({ cls := "java/lang/String", name := "<init>", desc := "([CIILjava/lang/Void;)V" } : Jvm.MethodName) jdk_42_method_149_code (6 : Nat) (Option.none : Option Jvm.ClassFile.FieldType), Jvm.Cond.code ({ cls := "java/lang/Object", name := "<init>", desc := "()V" } : Jvm.MethodName) object_method_1_code (1 : Nat) (Option.none : Option Jvm.ClassFile.FieldType), Jvm.Cond.code ({ cls := "java/lang/StringUTF16", name := "compress", desc := "([CII)[B" } : Jvm.MethodName) jdk_52_method_16_code (6 : Nat) (Option.some (Jvm.ClassFile.FieldType.array Jvm.ClassFile.FieldType.byte)), Jvm.Cond.code ({ cls := "java/lang/StringUTF16", name := "compress", desc := "([CI[BII)I" } : Jvm.MethodName) jdk_52_method_21_code (7 : Nat) (Option.some Jvm.ClassFile.FieldType.int), Jvm.Cond.code ({ cls := "java/lang/StringUTF16", name := "coderFromArrayLen", desc := "([BI)B" } : Jvm.MethodName) jdk_52_method_15_code (2 : Nat) (Option.some Jvm.ClassFile.FieldType.byte), Jvm.Cond.code ({ cls := "com/example/typub/typub/Group", name := "of", desc := "(Ljava/lang/String;)Lcom/example/typub/typub/Group;" } : Jvm.MethodName) prog_11_method_2_code (1 : Nat) (Option.some (Jvm.ClassFile.FieldType.object "com/example/typub/typub/Group")), Jvm.Cond.code ({ cls := "java/util/Objects", name := "requireNonNull", desc := "(Ljava/lang/Object;Ljava/lang/String;)Ljava/lang/Object;" } : Jvm.MethodName) jdk_31_method_11_code (2 : Nat) (Option.some (Jvm.ClassFile.FieldType.object "java/lang/Object")), Jvm.Cond.code ({ cls := "java/lang/String", name := "isEmpty", desc := "()Z" } : Jvm.MethodName) jdk_42_method_55_code (1 : Nat) (Option.some Jvm.ClassFile.FieldType.boolean), Jvm.Cond.code ({ cls := "com/example/typub/typub/Group", name := "<init>", desc := "(Ljava/lang/String;)V" } : Jvm.MethodName) prog_11_method_1_code (2 : Nat) (Option.none : Option Jvm.ClassFile.FieldType), Jvm.Cond.code ({ cls := "java/lang/String", name := "equals", desc := "(Ljava/lang/Object;)Z" } : Jvm.MethodName) jdk_42_method_66_code (3 : Nat) (Option.some Jvm.ClassFile.FieldType.boolean), Jvm.Cond.code ({ cls := "java/lang/StringLatin1", name := "equals", desc := "([B[B)Z" } : Jvm.MethodName) jdk_43_method_13_code (3 : Nat) (Option.some Jvm.ClassFile.FieldType.boolean), Jvm.Cond.code ({ cls := "com/example/typub/typub/Group", name := "name", desc := "()Ljava/lang/String;" } : Jvm.MethodName) prog_11_method_3_code (1 : Nat) (Option.some (Jvm.ClassFile.FieldType.object "java/lang/String")), Jvm.Cond.code ({ cls := "com/example/typub/typub/Group", name := "equals", desc := "(Ljava/lang/Object;)Z" } : Jvm.MethodName) prog_11_method_4_code (3 : Nat) (Option.some Jvm.ClassFile.FieldType.boolean), Jvm.Cond.code ({ cls := "com/example/typub/typub/Group", name := "hashCode", desc := "()I" } : Jvm.MethodName) prog_11_method_5_code (1 : Nat) (Option.some Jvm.ClassFile.FieldType.int), Jvm.Cond.code ({ cls := "java/lang/String", name := "hashCode", desc := "()I" } : Jvm.MethodName) jdk_42_method_78_code (2 : Nat) (Option.some Jvm.ClassFile.FieldType.int), Jvm.Cond.code ({ cls := "java/lang/String", name := "isLatin1", desc := "()Z" } : Jvm.MethodName) jdk_42_method_154_code (1 : Nat) (Option.some Jvm.ClassFile.FieldType.boolean), Jvm.Cond.code ({ cls := "java/lang/StringLatin1", name := "hashCode", desc := "([B)I" } : Jvm.MethodName) jdk_43_method_21_code (1 : Nat) (Option.some Jvm.ClassFile.FieldType.int), Jvm.Cond.code ({ cls := "jdk/internal/util/ArraysSupport", name := "vectorizedHashCode", desc := "(Ljava/lang/Object;IIII)I" } : Jvm.MethodName) jdk_48_method_4_code (5 : Nat) (Option.some Jvm.ClassFile.FieldType.int), Jvm.Cond.code ({ cls := "jdk/internal/util/ArraysSupport", name := "signedHashCode", desc := "(I[BII)I" } : Jvm.MethodName) jdk_48_method_5_code (6 : Nat) (Option.some Jvm.ClassFile.FieldType.int)]
set_option maxRecDepth 65536 in
theorem codes_eq : words1.filter isCode = codes1 := rfl
theorem w_codes : ∀ c ∈ words1.filter isCode, c.before args0 about1 = true := by
  rw [codes_eq]
  intro c hc
  simp only [codes1, List.mem_cons, List.not_mem_nil, or_false] at hc
  rcases hc with rfl | rfl | rfl | rfl | rfl | rfl | rfl | rfl | rfl | rfl | rfl | rfl | rfl | rfl | rfl | rfl | rfl | rfl | rfl | rfl | rfl | rfl
  · exact w_c0
  · exact w_c1
  · exact w_c2
  · exact w_c3
  · exact w_c4
  · exact w_c5
  · exact w_c6
  · exact w_c7
  · exact w_c8
  · exact w_c9
  · exact w_c10
  · exact w_c11
  · exact w_c12
  · exact w_c13
  · exact w_c14
  · exact w_c15
  · exact w_c16
  · exact w_c17
  · exact w_c18
  · exact w_c19
  · exact w_c20
  · exact w_c21
set_option maxRecDepth 65536 in
theorem w_t1 : (words1.take 24).all (fun c => isCode c || c.before args0 about1) = true := by decide +kernel
set_option maxRecDepth 65536 in
theorem w_t2 : ((words1.drop 24).take 24).all (fun c => isCode c || c.before args0 about1) = true := by decide +kernel
set_option maxRecDepth 65536 in
theorem w_t3 : (((words1.drop 24).drop 24).take 24).all (fun c => isCode c || c.before args0 about1) = true := by decide +kernel
set_option maxRecDepth 65536 in
theorem w_t4 : ((((words1.drop 24).drop 24).drop 24).take 24).all (fun c => isCode c || c.before args0 about1) = true := by decide +kernel
set_option maxRecDepth 65536 in
theorem w_t5 : ((((words1.drop 24).drop 24).drop 24).drop 24).all (fun c => isCode c || c.before args0 about1) = true := by decide +kernel
theorem w_tables : (allAtoms (Jvm.Cond.code x code maxLocals ret :: tables_1)).before args0 about1 = true := by
  rw [allAtoms_all]
  show words1.all (fun c => c.before args0 about1) = true
  refine all_split ?_ w_codes
  rw [← List.take_append_drop 24 words1, List.all_append, w_t1, ← List.take_append_drop 24 (words1.drop 24), List.all_append, w_t2, ← List.take_append_drop 24 ((words1.drop 24).drop 24), List.all_append, w_t3, ← List.take_append_drop 24 (((words1.drop 24).drop 24).drop 24), List.all_append, w_t4, w_t5]
  rfl
set_option maxRecDepth 65536 in
theorem w_rest : rest_1_c.before args0 about1 = true := by decide +kernel
set_option maxRecDepth 65536 in
theorem w_case : (Jvm.Cond.and given_1 narrow_1).before args0 about1 = true := by decide +kernel
theorem w_applies : (headSpec (Jvm.Cond.code x code maxLocals ret :: tables_1) room_1).applies x e0.platform about1 = true :=
  (Spec.applies_iff w_frames).mpr ⟨w_running, w_runnable, w_alone, w_named, w_hears, w_ripe, w_room, w_tables⟩
theorem atStart : AtStart classFile x code maxLocals ret World_1 tables_1 room_1 Calls_1 rest_1 Pre_1 launch0 p0 e0 about1 theMethod args0 below0 :=
  ⟨lists_1, trivial, launch0.admits_env _ _ _, launch0.least_env, fairChoices_fair.cas, fairChoices_fair.clock, w_frames, w_args, w_heap, w_applies, trivial, w_rest, w_case⟩
end start1
theorem witness_1 : WitnessClaimed_1 := ⟨start1.p0, start1.e0, start1.about1, start1.theMethod, start1.args0, start1.below0, start1.atStart⟩
end Jvm.Pilot.@@N@@
