import JvmDerived
import JvmDerived.Pilot.@@N@@Statement
import JvmDerived.Pilot.@@N@@Code
set_option linter.unusedVariables false
set_option linter.unusedSimpArgs false
@@BLOCK:NumsL.lean.txt@@
namespace Jvm.Pilot.@@N@@
open Jvm Jvm.ClassFile Sem Op Lib Jvm.Free Jvm.Stand Jvm.LawKit Jvm.RoadKit Bundle Jvm.Pilot.@@N@@.Jvm.D
section Own
variable {p : Program} {l : Launch} {e : Env} {R : Room} {s : State} {m : MethodId} {args : Array Value} {below : List Frame} {meth : Method} {c : Code} {T : State} {locs : List Loc} {cells slots : Nat} {Z : State} {a0 : Array Value} {h : Heap}
/-- a walk that goes forward: from S the run comes to an end of which P holds -/
def own_G (p : Program) (e : Env) (below : List Frame) (S : State) (P : Outcome → State → Prop) : Prop :=
  ∃ s₂ o, Steps p.tables e below S s₂ ∧ s₂.status = .running ∧ Ended s₂ below o ∧ P o s₂
/-- what a body leaves -/
def own_P (s : State) (Q : Option Value → Heap → List Loc → Prop) (kc ks : Nat) (o : Outcome) (U : State) : Prop := ∃ v L, o = .returned v ∧ Q v U.heap L ∧ FrameEnd s o U L kc ks
theorem oS {S S' : State} {P : Outcome → State → Prop} (k : ∀ t, Steps p.tables e below S' t → Steps p.tables e below S t) (h : own_G p e below S' P) : own_G p e below S P := by
  obtain ⟨s2, o, h1, h2⟩ := h; exact ⟨s2, o, k _ h1, h2⟩
theorem oW {Z : State} {a0 : Array Value} (hw : ∀ d ∈ tables_1, d.before a0 Z = true) (i : Nat) {d : Jvm.Cond} (q : tables_1[i]? = some d) : d.before a0 Z = true := hw _ (List.mem_of_getElem? q)
theorem own_cast {g g' : JFrame} {P : Outcome → State → Prop} (q : g = g') (k : own_G p e below (T.setTop g') P) : own_G p e below (T.setTop g) P := q ▸ k
theorem own_leave (X : Stand p l e R s m args below meth c T locs cells slots) {g : JFrame} {v : Option Value} {Q : Option Value → Heap → List Loc → Prop} {kc ks : Nat} (hlocks : meth.locks = false) (hv : meth.sig.returnType = none → v = none)
    (k : ∀ fs, (∀ (f : JFrame) (acts : List Action), f.method = m → f.locked = none → f.entered = [] → (doReturn e (T.setTop f) acts v).1 = T.setFrames fs) → Steps p.tables e below (T.setTop g) (T.setFrames fs))
    (eT : T.heap = h) (hc : cells ≤ kc) (hs : slots ≤ ks) (hq : Q v h locs) : own_G p e below (T.setTop g) (own_P s Q kc ks) := by
  obtain ⟨fs, hr, hrun, hended, hW, hsame⟩ := X.leave (v := v) hv hlocks
  exact ⟨_, _, k fs hr, hrun, hended, _, _, rfl, by show Q v T.heap locs; rw [eT]; exact hq, ⟨_, rfl⟩, hW, hsame.mono hc hs⟩
theorem own_retN (X : Stand p l e R s m args below meth c T locs cells slots) (hx : p.tables.exec = Jvm.exec) {pc : Nat} {Ls : Array Slot} {z : Int32} {t : FieldType} {rest : List Value} {Q : Option Value → Heap → List Loc → Prop} {kc ks : Nat} (hlocks : meth.locks = false) (hret : meth.sig.returnType = some t) (ht : t = .boolean ∨ t = .byte ∨ t = .char ∨ t = .short)
    (hd : decode c.code pc = .ok (.ireturn, 1)) (hn : nar t z = z) (eT : T.heap = h) (hc : cells ≤ kc) (hs : slots ≤ ks) (hq : Q (some (.int z)) h locs) : own_G p e below (T.setTop (mkF m pc Ls (.int z :: rest))) (own_P s Q kc ks) :=
  own_leave X (v := some (.int z)) hlocks (fun q => by rw [hret] at q; cases q) (fun fs hl => retN X hx hret ht hd (by rw [hn]; exact hl)) eT hc hs hq
theorem own_retI (X : Stand p l e R s m args below meth c T locs cells slots) (hx : p.tables.exec = Jvm.exec) {pc : Nat} {Ls : Array Slot} {z : Int32} {rest : List Value} {Q : Option Value → Heap → List Loc → Prop} {kc ks : Nat} (hlocks : meth.locks = false) (hret : meth.sig.returnType = some .int)
    (hd : decode c.code pc = .ok (.ireturn, 1)) (eT : T.heap = h) (hc : cells ≤ kc) (hs : slots ≤ ks) (hq : Q (some (.int z)) h locs) : own_G p e below (T.setTop (mkF m pc Ls (.int z :: rest))) (own_P s Q kc ks) :=
  own_leave X (v := some (.int z)) hlocks (fun q => by rw [hret] at q; cases q) (fun fs hl => retOut X hx hret rfl (Or.inl ⟨rfl, Or.inl rfl, _, rfl⟩) hd hl) eT hc hs hq
theorem own_retL (X : Stand p l e R s m args below meth c T locs cells slots) (hx : p.tables.exec = Jvm.exec) {pc : Nat} {Ls : Array Slot} {z : Int64} {rest : List Value} {Q : Option Value → Heap → List Loc → Prop} {kc ks : Nat} (hlocks : meth.locks = false) (hret : meth.sig.returnType = some .long)
    (hd : decode c.code pc = .ok (.lreturn, 1)) (eT : T.heap = h) (hc : cells ≤ kc) (hs : slots ≤ ks) (hq : Q (some (.long z)) h locs) : own_G p e below (T.setTop (mkF m pc Ls (.long z :: rest))) (own_P s Q kc ks) :=
  own_leave X (v := some (.long z)) hlocks (fun q => by rw [hret] at q; cases q) (fun fs hl => retOut X hx hret rfl (Or.inr (Or.inl ⟨rfl, rfl, _, rfl⟩)) hd hl) eT hc hs hq
theorem own_narR {t : FieldType} {w : Value} (h : w.isRef = true) : narrow t w = w := by
  rcases ref_cases h with rfl | ⟨a, rfl⟩ <;> cases t <;> rfl
theorem own_retA (X : Stand p l e R s m args below meth c T locs cells slots) (hx : p.tables.exec = Jvm.exec) {pc : Nat} {Ls : Array Slot} {w : Value} {t : FieldType} {rest : List Value} {Q : Option Value → Heap → List Loc → Prop} {kc ks : Nat} (hlocks : meth.locks = false) (hret : meth.sig.returnType = some t) (ht : t.isReference = true) (hw : w.isRef = true)
    (hd : decode c.code pc = .ok (.areturn, 1)) (eT : T.heap = h) (hc : cells ≤ kc) (hs : slots ≤ ks) (hq : Q (some w) h locs) : own_G p e below (T.setTop (mkF m pc Ls (w :: rest))) (own_P s Q kc ks) :=
  own_leave X (v := some w) hlocks (fun q => by rw [hret] at q; cases q) (fun fs hl => retOut X hx hret (own_narR hw) (Or.inr (Or.inr (Or.inr (Or.inr ⟨rfl, ht, hw⟩)))) hd hl) eT hc hs hq
theorem own_retV (X : Stand p l e R s m args below meth c T locs cells slots) (hx : p.tables.exec = Jvm.exec) {pc : Nat} {Ls : Array Slot} {Q : Option Value → Heap → List Loc → Prop} {kc ks : Nat} (hlocks : meth.locks = false) (hret : meth.sig.returnType = none)
    (hd : decode c.code pc = .ok (.return_, 1)) (eT : T.heap = h) (hc : cells ≤ kc) (hs : slots ≤ ks) (hq : Q none h locs) : own_G p e below (T.setTop (mkF m pc Ls [])) (own_P s Q kc ks) :=
  own_leave X (v := none) hlocks (fun _ => rfl) (fun fs hl => X.returnOut hx hret hd hl) eT hc hs hq
abbrev own_Met (l : Launch) (Z : State) (h : Heap) (y : MethodName) (bytes : ByteArray) (maxL : Nat) (ret : Option FieldType) (ws : List Jvm.Cond) (rm : Room) (as' : Array Value) (Q : Option Value → Heap → List Loc → Prop) (kc ks : Nat) : Prop :=
  MetFree l y (head1 (Jvm.Cond.code y bytes maxL ret :: ws) rm) (fun a U => a = as' ∧ Z.Warmed39 U.vm ∧ U.heap = h) (fun _ _ _ _ _ => True) (fun _ U o U' => ∃ v L, o = .returned v ∧ Q v U'.heap L ∧ FrameEnd U o U' L kc ks)
variable {own : String} {index : Nat} {y : MethodName} {bytes : ByteArray} {maxL : Nat} {ret : Option FieldType} {rm : Room} {W : Nat} {as' : Array Value} {Q : Option Value → Heap → List Loc → Prop}
abbrev own_After (p : Program) (l : Launch) (e : Env) (R : Room) (s : State) (m : MethodId) (args : Array Value) (below : List Frame) (meth : Method) (c : Code) (T : State) (locs : List Loc) (kc ks : Nat) (g : JFrame) (rest : List Value) (Q : Option Value → Heap → List Loc → Prop) (len : Nat := 3) : Prop :=
  ∃ (T' : State) (h' : Heap) (v : Option Value) (L : List Loc), Stand p l e R s m args below meth c T' (locs ++ L) kc ks ∧ T'.heap = h' ∧ Q v h' L ∧ ∀ target, Steps p.tables e below (T'.setTop { g with pc := g.pc + len, stack := v.toList ++ rest }) target → Steps p.tables e below (T.setTop g) target
theorem own_callS (X : Stand p l e R s m args below meth c T locs cells slots) (hx : p.tables.exec = Jvm.exec) (hZ : Z.Warmed39 s.vm) (hown : s.vm.findClass own = some m.cls) (eT : T.heap = h)
    (w1 : (Jvm.Cond.methodLink own index y).before a0 Z = true) (w2 : (Jvm.Cond.static y).before a0 Z = true) (w3 : (Jvm.Cond.initialized y.cls).before a0 Z = true) (w4 : (Jvm.Cond.code y bytes maxL ret).before a0 Z = true) (hy : y.cls ≠ "java/lang/invoke/MethodHandle" ∧ y.cls ≠ "java/lang/invoke/VarHandle")
    (hM : own_Met l Z h y bytes maxL ret [] rm as' Q rm.cells rm.slots)
    (hf : rm.frames + 1 ≤ R.frames) (hl : W + (maxL + 11) + rm.locals ≤ R.locals) (hc : cells + rm.cells ≤ R.cells) (hsl : slots + rm.slots ≤ R.slots)
    {g : JFrame} (hg : g.method = m) (hsize : g.locals.size = c.maxLocals) {argsL rest : List Value} (has : argsL.toArray = as') (hlen : ∀ sig, parseMethodDescriptor y.desc = some sig → argsL.length = sig.parameters.length)
    (hstack : g.stack = argsL.reverse ++ rest) (hW : 2 * g.monitorRoom + (rest.map fun v => v.category).sum ≤ W) (hd : decode c.code g.pc = .ok (.invokestatic index, 3)) :
    own_After p l e R s m args below meth c T locs (cells + rm.cells) (slots + rm.slots) g rest Q := by
  obtain ⟨v, vm1, ⟨T', L', k', n'⟩, -, X', ⟨Lc, hQ, l1, y1, z1⟩, st⟩ := Jvm.LawKit.callS X hx (y := y) hown (mvT hZ w1) (mvT hZ w2) (mvT hZ w3) (mvT hZ w4) hy (backOf (W := W) hM hZ w4 w3 hf hl) hg hsize hlen hstack hW hd (fun _ _ => ⟨has, eT, hc, hsl⟩)
  dsimp only [Pt.U, Pt.locs, Pt.cells, Pt.slots] at X' l1 y1 z1 st hQ
  subst l1 y1 z1
  exact ⟨T', _, v, Lc, X', rfl, hQ, st⟩
theorem own_callV (X : Stand p l e R s m args below meth c T locs cells slots) (hx : p.tables.exec = Jvm.exec) (hZ : Z.Warmed39 s.vm) (hown : s.vm.findClass own = some m.cls) (eT : T.heap = h) {z : MethodName} {C : String} {b : Addr}
    (w1 : (Jvm.Cond.methodLink own index y).before a0 Z = true) (w2 : (Jvm.Cond.declares y).before a0 Z = true) (nf : NotFace s y) (w3 : (Jvm.Cond.selects C y z).before a0 Z = true) (w5 : (Jvm.Cond.instanceMethod z).before a0 Z = true) (w6 : (Jvm.Cond.initialized z.cls).before a0 Z = true) (w4 : (Jvm.Cond.code z bytes maxL ret).before a0 Z = true) (hy : y.cls ≠ "java/lang/invoke/MethodHandle" ∧ y.cls ≠ "java/lang/invoke/VarHandle")
    (E : Exa Z h b C) (hM : own_Met l Z h z bytes maxL ret [] rm as' Q rm.cells rm.slots)
    (hf : rm.frames + 1 ≤ R.frames) (hl : W + (maxL + 11) + rm.locals ≤ R.locals) (hc : cells + rm.cells ≤ R.cells) (hsl : slots + rm.slots ≤ R.slots)
    {g : JFrame} (hg : g.method = m) (hsize : g.locals.size = c.maxLocals) {argsL rest : List Value} (has : (.ref b :: argsL).toArray = as') (hlen : ∀ sig, parseMethodDescriptor y.desc = some sig → argsL.length = sig.parameters.length)
    (hstack : g.stack = argsL.reverse ++ .ref b :: rest) (hW : 2 * g.monitorRoom + (rest.map fun v => v.category).sum ≤ W) (hd : decode c.code g.pc = .ok (.invokevirtual index, 3)) :
    own_After p l e R s m args below meth c T locs (cells + rm.cells) (slots + rm.slots) g rest Q := by
  obtain ⟨cq, kq, q1, q2, q3⟩ := isOf hZ eT E
  obtain ⟨v, vm1, ⟨T', L', k', n'⟩, -, X', ⟨Lc, hQ, l1, y1, z1⟩, st⟩ := X.virtualBack hx (y := y) (z := z) hown (mvT hZ w1) (mvT hZ w2) nf (mvT hZ w3) (mvT hZ w5) hy (backOf (W := W) hM hZ w4 w6 hf hl) q1 q3 hg hsize (Steps.refl _) hlen hstack hW hd (fun _ _ => ⟨has, eT, hc, hsl⟩)
  dsimp only [Pt.U, Pt.locs, Pt.cells, Pt.slots] at X' l1 y1 z1 st hQ
  subst l1 y1 z1
  exact ⟨T', _, v, Lc, X', rfl, hQ, fun _ k => st.trans k⟩
theorem own_callU (X : Stand p l e R s m args below meth c T locs cells slots) (hx : p.tables.exec = Jvm.exec) (hZ : Z.Warmed39 s.vm) (hown : s.vm.findClass own = some m.cls) (eT : T.heap = h) {z : MethodName} {C owner : String} {b : Addr}
    (w1 : (Jvm.Cond.methodLink own index y).before a0 Z = true) (w2 : (Jvm.Cond.sameMethod y.cls owner y.name y.desc).before a0 Z = true) (w7 : (Jvm.Cond.declares ⟨owner, y.name, y.desc⟩).before a0 Z = true) (w3 : (Jvm.Cond.selects C y z).before a0 Z = true) (w5 : (Jvm.Cond.instanceMethod z).before a0 Z = true) (w6 : (Jvm.Cond.initialized z.cls).before a0 Z = true) (w4 : (Jvm.Cond.code z bytes maxL ret).before a0 Z = true) (hy : owner ≠ "java/lang/invoke/MethodHandle" ∧ owner ≠ "java/lang/invoke/VarHandle")
    (E : Exa Z h b C) (hM : own_Met l Z h z bytes maxL ret [] rm as' Q rm.cells rm.slots)
    (hf : rm.frames + 1 ≤ R.frames) (hl : W + (maxL + 11) + rm.locals ≤ R.locals) (hc : cells + rm.cells ≤ R.cells) (hsl : slots + rm.slots ≤ R.slots)
    {g : JFrame} (hg : g.method = m) (hsize : g.locals.size = c.maxLocals) {argsL rest : List Value} (has : (.ref b :: argsL).toArray = as') (hlen : ∀ sig, parseMethodDescriptor y.desc = some sig → argsL.length = sig.parameters.length)
    (hstack : g.stack = argsL.reverse ++ .ref b :: rest) (hW : 2 * g.monitorRoom + (rest.map fun v => v.category).sum ≤ W) (hd : decode c.code g.pc = .ok (.invokevirtual index, 3)) :
    own_After p l e R s m args below meth c T locs (cells + rm.cells) (slots + rm.slots) g rest Q := by
  obtain ⟨cq, kq, q1, q2, q3⟩ := isOf hZ eT E
  obtain ⟨v, vm1, ⟨T', L', k', n'⟩, -, X', ⟨Lc, hQ, l1, y1, z1⟩, st⟩ := X.virtualBackUp hx (x := y) (y := z) (owner := owner) hown (mvT hZ w1) (mvT hZ w2) (mvT hZ w7) hy (mvT hZ w3) (mvT hZ w5) (backOf (W := W) hM hZ w4 w6 hf hl) q1 q3 hg hsize (Steps.refl _) hlen hstack hW hd (fun _ _ => ⟨has, eT, hc, hsl⟩)
  dsimp only [Pt.U, Pt.locs, Pt.cells, Pt.slots] at X' l1 y1 z1 st hQ
  subst l1 y1 z1
  exact ⟨T', _, v, Lc, X', rfl, hQ, fun _ k => st.trans k⟩
theorem own_callN (X : Stand p l e R s m args below meth c T locs cells slots) (hx : p.tables.exec = Jvm.exec) (hZ : Z.Warmed39 s.vm) (hown : s.vm.findClass own = some m.cls) (eT : T.heap = h) {b : Addr} (hy1 : y.name = "<init>")
    (w1 : (Jvm.Cond.methodLink own index y).before a0 Z = true) (w5 : (Jvm.Cond.instanceMethod y).before a0 Z = true) (w6 : (Jvm.Cond.initialized y.cls).before a0 Z = true) (w4 : (Jvm.Cond.code y bytes maxL none).before a0 Z = true) (hy : y.cls ≠ "java/lang/invoke/MethodHandle" ∧ y.cls ≠ "java/lang/invoke/VarHandle")
    (hM : own_Met l Z h y bytes maxL none [] rm as' Q rm.cells rm.slots)
    (hf : rm.frames + 1 ≤ R.frames) (hl : W + (maxL + 11) + rm.locals ≤ R.locals) (hc : cells + rm.cells ≤ R.cells) (hsl : slots + rm.slots ≤ R.slots)
    {g : JFrame} (hg : g.method = m) (hsize : g.locals.size = c.maxLocals) {argsL rest : List Value} (has : (.ref b :: argsL).toArray = as') (hlen : ∀ sig, parseMethodDescriptor y.desc = some sig → argsL.length = sig.parameters.length)
    (hstack : g.stack = argsL.reverse ++ .ref b :: rest) (hW : 2 * g.monitorRoom + (rest.map fun v => v.category).sum ≤ W) (hd : decode c.code g.pc = .ok (.invokespecial index, 3)) :
    own_After p l e R s m args below meth c T locs (cells + rm.cells) (slots + rm.slots) g rest Q := by
  obtain ⟨v, vm1, ⟨T', L', k', n'⟩, -, X', ⟨Lc, hQ, l1, y1, z1⟩, st⟩ := X.specialBack hx (y := y) hy1 hown (mvT hZ w1) (mvT hZ w5) (mvT hZ w4) hy (backOf (W := W) hM hZ w4 w6 hf hl) hg hsize (Steps.refl _) hlen hstack hW hd (fun _ _ => ⟨has, eT, hc, hsl⟩)
  dsimp only [Pt.U, Pt.locs, Pt.cells, Pt.slots] at X' l1 y1 z1 st hQ
  subst l1 y1 z1
  exact ⟨T', _, v, Lc, X', rfl, hQ, fun _ k => st.trans k⟩
theorem own_callI (X : Stand p l e R s m args below meth c T locs cells slots) (hx : p.tables.exec = Jvm.exec) (hZ : Z.Warmed39 s.vm) (hown : s.vm.findClass own = some m.cls) (eT : T.heap = h) {z : MethodName} {C : String} {b : Addr} {count : Nat}
    (w1 : (Jvm.Cond.methodLink own index y).before a0 Z = true) (w2 : (Jvm.Cond.declares y).before a0 Z = true) (w7 : (Jvm.Cond.interfaceMethod y.cls y.cls y.name y.desc).before a0 Z = true) (h7 : ((Jvm.Cond.interfaceMethod y.cls y.cls y.name y.desc).onTables && (Jvm.Cond.interfaceMethod y.cls y.cls y.name y.desc).keepsFace) = true) (w3 : (Jvm.Cond.selects C y z).before a0 Z = true) (w5 : (Jvm.Cond.instanceMethod z).before a0 Z = true) (w8 : (Jvm.Cond.publicMethod z).before a0 Z = true) (w9 : (Jvm.Cond.unhidden C y.name y.desc).before a0 Z = true) (w10 : (Jvm.Cond.castable C y.cls).before a0 Z = true) (w6 : (Jvm.Cond.initialized z.cls).before a0 Z = true) (w4 : (Jvm.Cond.code z bytes maxL ret).before a0 Z = true) (hy : y.cls ≠ "java/lang/invoke/MethodHandle" ∧ y.cls ≠ "java/lang/invoke/VarHandle")
    (E : Exa Z h b C) (hM : own_Met l Z h z bytes maxL ret [] rm as' Q rm.cells rm.slots)
    (hf : rm.frames + 1 ≤ R.frames) (hl : W + (maxL + 11) + rm.locals ≤ R.locals) (hc : cells + rm.cells ≤ R.cells) (hsl : slots + rm.slots ≤ R.slots)
    {g : JFrame} (hg : g.method = m) (hsize : g.locals.size = c.maxLocals) {argsL rest : List Value} (has : (.ref b :: argsL).toArray = as') (hlen : ∀ sig, parseMethodDescriptor y.desc = some sig → argsL.length = sig.parameters.length)
    (hstack : g.stack = argsL.reverse ++ .ref b :: rest) (hW : 2 * g.monitorRoom + (rest.map fun v => v.category).sum ≤ W) (hd : decode c.code g.pc = .ok (.invokeinterface index count, 5)) :
    own_After p l e R s m args below meth c T locs (cells + rm.cells) (slots + rm.slots) g rest Q 5 := by
  obtain ⟨cq, kq, q1, q2, q3⟩ := isOf hZ eT E
  obtain ⟨v, vm1, ⟨T', L', k', n'⟩, -, X', ⟨Lc, hQ, l1, y1, z1⟩, st⟩ := X.interfaceBack hx (xi := y) (y := z) hown (mvT hZ w1) (mvT hZ w2) (mvT hZ w7 h7) (mvT hZ w3) (mvT hZ w5) (mvT hZ w8) (mvT hZ w9) (mvT hZ w10) hy (backOf (W := W) hM hZ w4 w6 hf hl) q1 q2 q3 hg hsize (Steps.refl _) hlen hstack hW hd (fun _ _ => ⟨has, eT, hc, hsl⟩)
  dsimp only [Pt.U, Pt.locs, Pt.cells, Pt.slots] at X' l1 y1 z1 st hQ
  subst l1 y1 z1
  exact ⟨T', _, v, Lc, X', rfl, hQ, fun _ k => st.trans k⟩
theorem own_callP (X : Stand p l e R s m args below meth c T locs cells slots) (hx : p.tables.exec = Jvm.exec) (hZ : Z.Warmed39 s.vm) (hown : s.vm.findClass own = some m.cls) (eT : T.heap = h) {b : Addr} {C : String}
    (w1 : (Jvm.Cond.methodLink own index y).before a0 Z = true) (w5 : (Jvm.Cond.instanceMethod y).before a0 Z = true) (w3 : (Jvm.Cond.selects y.cls y y).before a0 Z = true) (w7 : (Jvm.Cond.privateMethod y).before a0 Z = true) (w6 : (Jvm.Cond.initialized y.cls).before a0 Z = true) (w4 : (Jvm.Cond.code y bytes maxL ret).before a0 Z = true) (hy : y.cls ≠ "java/lang/invoke/MethodHandle" ∧ y.cls ≠ "java/lang/invoke/VarHandle")
    (E : Exa Z h b C) (hM : own_Met l Z h y bytes maxL ret [] rm as' Q rm.cells rm.slots)
    (hf : rm.frames + 1 ≤ R.frames) (hl : W + (maxL + 11) + rm.locals ≤ R.locals) (hc : cells + rm.cells ≤ R.cells) (hsl : slots + rm.slots ≤ R.slots)
    {g : JFrame} (hg : g.method = m) (hsize : g.locals.size = c.maxLocals) {argsL rest : List Value} (has : (.ref b :: argsL).toArray = as') (hlen : ∀ sig, parseMethodDescriptor y.desc = some sig → argsL.length = sig.parameters.length)
    (hstack : g.stack = argsL.reverse ++ .ref b :: rest) (hW : 2 * g.monitorRoom + (rest.map fun v => v.category).sum ≤ W) (hd : decode c.code g.pc = .ok (.invokevirtual index, 3)) :
    own_After p l e R s m args below meth c T locs (cells + rm.cells) (slots + rm.slots) g rest Q := by
  obtain ⟨cell, hcell, hobj⟩ := E.cell
  obtain ⟨v, vm1, ⟨T', L', k', n'⟩, -, X', ⟨Lc, hQ, l1, y1, z1⟩, st⟩ := X.privateBack hx (y := y) hown (mvT hZ w1) (mvT hZ w5) (mvT hZ w3) (Cond.privateMethod_at (mvP (args := #[]) hZ w7)) (mvT hZ w4) hy (backOf (W := W) hM hZ w4 w6 hf hl) hg hsize (Steps.refl _) (by rw [eT]; exact hcell) hobj hlen hstack hW hd (fun _ _ => ⟨has, eT, hc, hsl⟩)
  dsimp only [Pt.U, Pt.locs, Pt.cells, Pt.slots] at X' l1 y1 z1 st hQ
  subst l1 y1 z1
  exact ⟨T', _, v, Lc, X', rfl, hQ, fun _ k => st.trans k⟩
theorem own_lsw (X : Stand p l e R s m args below meth c T locs cells slots) (hx : p.tables.exec = Jvm.exec) {g : JFrame} (hg : g.method = m) {k : Int32} {rest : List Value} (hs : g.stack = .int k :: rest) {dflt : Int} {pairs : Array (Int × Int)} {len : Nat} (hd : decode c.code g.pc = .ok (.lookupswitch dflt pairs, len))
    (hsorted : (pairs.toList.zip (pairs.toList.drop 1)).all (fun (a, next) => a.1 < next.1) = true) {a off : Int} (hfind : pairs.find? (·.1 == k.toInt) = some (a, off)) {pc0 pc' : Nat} (hpc : g.pc = pc0) (ho : 0 ≤ (pc0 : Int) + off) (hp : ((pc0 : Int) + off).toNat = pc') :
    ∀ t, Steps p.tables e below (T.setTop { g with pc := pc', stack := rest }) t → Steps p.tables e below (T.setTop g) t := by
  subst hpc hp; exact fun t hr => X.lookupswitchHit hx hg hs hd hsorted hfind ho t hr
theorem own_lswM (X : Stand p l e R s m args below meth c T locs cells slots) (hx : p.tables.exec = Jvm.exec) {g : JFrame} (hg : g.method = m) {k : Int32} {rest : List Value} (hs : g.stack = .int k :: rest) {dflt : Int} {pairs : Array (Int × Int)} {len : Nat} (hd : decode c.code g.pc = .ok (.lookupswitch dflt pairs, len))
    (hsorted : (pairs.toList.zip (pairs.toList.drop 1)).all (fun (a, next) => a.1 < next.1) = true) (hfind : pairs.find? (·.1 == k.toInt) = none) {pc0 pc' : Nat} (hpc : g.pc = pc0) (ho : 0 ≤ (pc0 : Int) + dflt) (hp : ((pc0 : Int) + dflt).toNat = pc') :
    ∀ t, Steps p.tables e below (T.setTop { g with pc := pc', stack := rest }) t → Steps p.tables e below (T.setTop g) t := by
  subst hpc hp; exact fun t hr => X.lookupswitchMiss hx hg hs hd hsorted hfind ho t hr
theorem own_rne {a b : Addr} (h : a ≠ b) : ¬ (Value.ref a = Value.ref b) := fun q => h (Value.ref.inj q)
def own_pl : Value → Bool
  | .int _ => true
  | .ref _ => true
  | .null => true
  | .long _ => true
  | _ => false
theorem own_eqv {args : Array Value} {f : State} {o : Option Outcome} {idx : List Nat} {t u : Term} {x y : Value} (ha : t.eval args f o idx s = some x) (hb : u.eval args f o idx s = some y) (h : (Jvm.Cond.eq t u).value args f o s idx = some true) (hk : own_pl y = true := by rfl) : x = y := by
  cases x <;> cases y <;> simp [Jvm.Cond.value, ha, hb, own_pl] at h hk ⊢ <;> first | exact h | exact h.symm
theorem own_fv {args : Array Value} {t u : Term} {O n d : String} {a : Addr} {y : Value} (ht : t.eval args s none [] s = some (.ref a)) (hu : u.eval args s none [] s = some y) (h : (Jvm.Cond.eq (.field t O n d) u).value args s none s [] = some true) (hk : own_pl y = true := by rfl) : Fld s s.heap a O n d y := by
  obtain ⟨x, y', e1, e2, -, -⟩ := cmp_v (Or.inl h)
  have q := own_eqv e1 hu h hk
  subst q
  exact Fld.start ((fld_at ht).symm.trans e1)
end Own
section OwnArr
variable {p : Program} {l : Launch} {e : Env} {R : Room} {s : State} {m : MethodId} {args : Array Value} {below : List Frame} {meth : Method} {c : Code} {T : State} {locs : List Loc} {cells slots : Nat} {Z : State} {a0 : Array Value} {h : Heap} {a : Addr} {k : ClassId} {ty : FieldType} {z j : Int32} {vs : List Value} {dv v : Value}
theorem own_newA (A : Arr Z h a (newA k ty z) ty) (q : ¬ z < 0) (hv : vs = List.replicate z.toNatClampNeg (defaultValue ty)) (hd : dv = defaultValue ty) : Arv Z h a k ty z vs dv := by
  subst hv hd; exact (Arv.new A q).pad (pad_rep [] _ _)
theorem own_newP (X : Stand p l e R s m args below meth c T locs cells slots) (hx : p.tables.exec = Jvm.exec) (hZ : Z.Warmed39 s.vm) {aty : ArrayType} (w : (Jvm.Cond.arrayClass (newarray.typeOf aty)).before a0 Z = true) (eT : T.heap = h) {nm : String} (hnm : "[" ++ (newarray.typeOf aty).toString = nm)
    {g : JFrame} (hg : g.method = m) (hd : decode c.code g.pc = .ok (.newarray aty, 2)) {n : Int32} {rest : List Value} (hs : g.stack = .int n :: rest) (hn : ¬ n < 0) {cap : Nat} (hcap : n.toNatClampNeg ≤ cap) (hb : cap * 8 ≤ 536870912) (hc : cells + 1 ≤ R.cells) (hl : slots + cap ≤ R.slots) :
    ∃ T' h' cA, Stand p l e R s m args below meth c T' locs (cells + 1) (slots + cap) ∧ T'.heap = h' ∧ Ext h h' ∧ Arr Z h' h.size (newA cA (newarray.typeOf aty) n) (newarray.typeOf aty) ∧ Exa Z h' h.size nm ∧
      ∀ target, Steps p.tables e below (T'.setTop { g with pc := g.pc + 2, stack := .ref h.size :: rest }) target → Steps p.tables e below (T.setTop g) target := by
  subst hnm eT
  obtain ⟨cA, kA, comp, h1, h2, h3, X', st⟩ := X.newarrayPrim hx (mvA hZ w) hg hd hs hn (Nat.le_trans (Nat.mul_le_mul hcap (by cases aty <;> decide : componentBytes (newarray.typeOf aty) ≤ 8)) hb) hc (by omega)
  rw [hZ.alike.findClass] at h1
  obtain ⟨kZ, z1, -⟩ := Vm.findClass_spec h1
  obtain ⟨k', z2, z3⟩ := hZ.alike.2.2 _ _ z1
  cases h2.symm.trans z2
  have hk : kZ.kind = .array comp (newarray.typeOf aty) := by rw [← h3, z3]
  have hN : (T.heap.push (newA cA (newarray.typeOf aty) n))[T.heap.size]? = some (newA cA (newarray.typeOf aty) n) := by simp
  have hE : Ext T.heap (T.heap.push (newA cA (newarray.typeOf aty) n)) := ext_of fun a q => Array.getElem?_push_lt q |>.trans (Array.getElem?_eq_getElem q).symm
  exact ⟨_, _, cA, X'.more (Nat.le_refl _) (by omega), rfl, hE, ⟨hN, ⟨by simp [newA], kZ, z1, comp, hk⟩, by simp [newA]⟩, ⟨_, kZ, hN, h1, z1, rfl, fun q => by rw [hk] at q; cases q⟩, st⟩
theorem own_len (X : Stand p l e R s m args below meth c T locs cells slots) (hx : p.tables.exec = Jvm.exec) (hZ : Z.Warmed39 s.vm) (eT : T.heap = h) (A : Arv Z h a k ty z vs dv) {g : JFrame} (hg : g.method = m) {rest : List Value} (hs : g.stack = .ref a :: rest) (hd : decode c.code g.pc = .ok (.arraylength, 1)) :
    ∀ target, Steps p.tables e below (T.setTop { g with pc := g.pc + 1, stack := .int z :: rest }) target → Steps p.tables e below (T.setTop g) target := by
  obtain ⟨cl, A1, q1, S, q3, H, G⟩ := A
  intro target hr
  refine X.arraylength hx (cell := cl) (by rw [eT]; exact A1.1) (State.isArrayOf_alike hZ.alike A1.2.1) hg hs hd target ?_
  rw [len_of S q3]; exact hr
theorem own_iaload (X : Stand p l e R s m args below meth c T locs cells slots) (hx : p.tables.exec = Jvm.exec) (hZ : Z.Warmed39 s.vm) (eT : T.heap = h) (A : Arv Z h a k .int z vs dv) (hj : ¬ j < 0 ∧ j < z) (hv : vs.getD j.toNatClampNeg dv = v) {g : JFrame} (hg : g.method = m) {rest : List Value} (hs : g.stack = .int j :: .ref a :: rest) (hd : decode c.code g.pc = .ok (.iaload, 1)) :
    ∀ target, Steps p.tables e below (T.setTop { g with pc := g.pc + 1, stack := v :: rest }) target → Steps p.tables e below (T.setTop g) target := by
  obtain ⟨cl, A1, q1, S, q3, H, G⟩ := A
  exact fun t k => X.iaload hx (by rw [eT]; exact A1.1) (State.isArrayOf_alike hZ.alike A1.2.1) A1.2.2 (inb_of S hj) (H.at (inb_of S hj) hv) hg hs hd t k
theorem own_baload (X : Stand p l e R s m args below meth c T locs cells slots) (hx : p.tables.exec = Jvm.exec) (hZ : Z.Warmed39 s.vm) (eT : T.heap = h) (A : Arv Z h a k .byte z vs dv) (hj : ¬ j < 0 ∧ j < z) (hv : vs.getD j.toNatClampNeg dv = v) {g : JFrame} (hg : g.method = m) {rest : List Value} (hs : g.stack = .int j :: .ref a :: rest) (hd : decode c.code g.pc = .ok (.baload, 1)) :
    ∀ target, Steps p.tables e below (T.setTop { g with pc := g.pc + 1, stack := v :: rest }) target → Steps p.tables e below (T.setTop g) target := by
  obtain ⟨cl, A1, q1, S, q3, H, G⟩ := A
  exact fun t k => X.baloadBytes hx (by rw [eT]; exact A1.1) (State.isArrayOf_alike hZ.alike A1.2.1) A1.2.2 (inb_of S hj) (H.at (inb_of S hj) hv) hg hs hd t k
theorem own_caload (X : Stand p l e R s m args below meth c T locs cells slots) (hx : p.tables.exec = Jvm.exec) (hZ : Z.Warmed39 s.vm) (eT : T.heap = h) (A : Arv Z h a k .char z vs dv) (hj : ¬ j < 0 ∧ j < z) (hv : vs.getD j.toNatClampNeg dv = v) {g : JFrame} (hg : g.method = m) {rest : List Value} (hs : g.stack = .int j :: .ref a :: rest) (hd : decode c.code g.pc = .ok (.caload, 1)) :
    ∀ target, Steps p.tables e below (T.setTop { g with pc := g.pc + 1, stack := v :: rest }) target → Steps p.tables e below (T.setTop g) target := by
  obtain ⟨cl, A1, q1, S, q3, H, G⟩ := A
  exact fun t k => X.caload hx (by rw [eT]; exact A1.1) (State.isArrayOf_alike hZ.alike A1.2.1) A1.2.2 (inb_of S hj) (H.at (inb_of S hj) hv) hg hs hd t k
theorem own_aaload (X : Stand p l e R s m args below meth c T locs cells slots) (hx : p.tables.exec = Jvm.exec) (hZ : Z.Warmed39 s.vm) (eT : T.heap = h) (A : Arv Z h a k ty z vs dv) (hty : ty.isReference = true) (hj : ¬ j < 0 ∧ j < z) (hv : vs.getD j.toNatClampNeg dv = v) {g : JFrame} (hg : g.method = m) {rest : List Value} (hs : g.stack = .int j :: .ref a :: rest) (hd : decode c.code g.pc = .ok (.aaload, 1)) :
    ∀ target, Steps p.tables e below (T.setTop { g with pc := g.pc + 1, stack := v :: rest }) target → Steps p.tables e below (T.setTop g) target := by
  obtain ⟨cl, A1, q1, S, q3, H, G⟩ := A
  exact fun t k => X.aaload hx (by rw [eT]; exact A1.1) (State.isArrayOf_alike hZ.alike A1.2.1) hty A1.2.2 (inb_of S hj) (H.at (inb_of S hj) hv) hg hs hd t k
theorem own_stB (X : Stand p l e R s m args below meth c T locs cells slots) (hx : p.tables.exec = Jvm.exec) (hZ : Z.Warmed39 s.vm) (eT : T.heap = h) (A : Arv Z h a k .byte z vs dv) {x x' : Int32} (i : Nat) (hn : nar .byte x = x') (hji : j.toNatClampNeg = i) (hj : ¬ j < 0 ∧ j < z) (hi : i < vs.length) {g : JFrame} (hg : g.method = m) {rest : List Value} (hs : g.stack = .int x :: .int j :: .ref a :: rest) (hd : decode c.code g.pc = .ok (.bastore, 1)) :
    ∃ T' h', Stand p l e R s m args below meth c T' (locs ++ [⟨a, i⟩]) cells slots ∧ T'.heap = h' ∧ Wr h h' a i (.int x') ∧ Arv Z h' a k .byte z (vs.set i (.int x')) dv ∧ ∀ target, Steps p.tables e below (T'.setTop { g with pc := g.pc + 1, stack := rest }) target → Steps p.tables e below (T.setTop g) target := by
  obtain ⟨cl, A1, q1, S, q3, H, G⟩ := A
  obtain ⟨T', h', X', e', W, st⟩ := stB X hx hZ eT A1 (inb_of S hj) hg hs hd
  subst hn hji
  exact ⟨T', h', X', e', W, Arv.set A1 q1 S q3 H G (fits_byte_narrow x) W _ rfl hi, st⟩
theorem own_stC (X : Stand p l e R s m args below meth c T locs cells slots) (hx : p.tables.exec = Jvm.exec) (hZ : Z.Warmed39 s.vm) (eT : T.heap = h) (A : Arv Z h a k .char z vs dv) {x x' : Int32} (i : Nat) (hn : nar .char x = x') (hji : j.toNatClampNeg = i) (hj : ¬ j < 0 ∧ j < z) (hi : i < vs.length) {g : JFrame} (hg : g.method = m) {rest : List Value} (hs : g.stack = .int x :: .int j :: .ref a :: rest) (hd : decode c.code g.pc = .ok (.castore, 1)) :
    ∃ T' h', Stand p l e R s m args below meth c T' (locs ++ [⟨a, i⟩]) cells slots ∧ T'.heap = h' ∧ Wr h h' a i (.int x') ∧ Arv Z h' a k .char z (vs.set i (.int x')) dv ∧ ∀ target, Steps p.tables e below (T'.setTop { g with pc := g.pc + 1, stack := rest }) target → Steps p.tables e below (T.setTop g) target := by
  obtain ⟨cl, A1, q1, S, q3, H, G⟩ := A
  obtain ⟨T', h', X', e', W, st⟩ := stC X hx hZ eT A1 (inb_of S hj) hg hs hd
  subst hn hji
  exact ⟨T', h', X', e', W, Arv.set A1 q1 S q3 H G (fits_nar_char x) W _ rfl hi, st⟩
theorem own_stI (X : Stand p l e R s m args below meth c T locs cells slots) (hx : p.tables.exec = Jvm.exec) (hZ : Z.Warmed39 s.vm) (eT : T.heap = h) (A : Arv Z h a k .int z vs dv) {x : Int32} (i : Nat) (hji : j.toNatClampNeg = i) (hj : ¬ j < 0 ∧ j < z) (hi : i < vs.length) {g : JFrame} (hg : g.method = m) {rest : List Value} (hs : g.stack = .int x :: .int j :: .ref a :: rest) (hd : decode c.code g.pc = .ok (.iastore, 1)) :
    ∃ T' h', Stand p l e R s m args below meth c T' (locs ++ [⟨a, i⟩]) cells slots ∧ T'.heap = h' ∧ Wr h h' a i (.int x) ∧ Arv Z h' a k .int z (vs.set i (.int x)) dv ∧ ∀ target, Steps p.tables e below (T'.setTop { g with pc := g.pc + 1, stack := rest }) target → Steps p.tables e below (T.setTop g) target := by
  obtain ⟨cl, A1, q1, S, q3, H, G⟩ := A
  obtain ⟨T', h', X', e', W, st⟩ := stI X hx hZ eT A1 (inb_of S hj) hg hs hd
  subst hji
  exact ⟨T', h', X', e', W, Arv.set A1 q1 S q3 H G rfl W _ rfl hi, st⟩
theorem own_stR (X : Stand p l e R s m args below meth c T locs cells slots) (hx : p.tables.exec = Jvm.exec) (hZ : Z.Warmed39 s.vm) (eT : T.heap = h) (A : Arv Z h a k ty z vs dv) (hty : ty.isReference = true) (i : Nat) (F : Sto Z h a v) (hf : fits ty v = true) (hji : j.toNatClampNeg = i) (hj : ¬ j < 0 ∧ j < z) (hi : i < vs.length) {g : JFrame} (hg : g.method = m) {rest : List Value} (hs : g.stack = v :: .int j :: .ref a :: rest) (hd : decode c.code g.pc = .ok (.aastore, 1)) :
    ∃ T' h', Stand p l e R s m args below meth c T' (locs ++ [⟨a, i⟩]) cells slots ∧ T'.heap = h' ∧ Wr h h' a i v ∧ Arv Z h' a k ty z (vs.set i v) dv ∧ ∀ target, Steps p.tables e below (T'.setTop { g with pc := g.pc + 1, stack := rest }) target → Steps p.tables e below (T.setTop g) target := by
  obtain ⟨cl, A1, q1, S, q3, H, G⟩ := A
  obtain ⟨T', h', X', e', W, st⟩ := stR X hx hZ eT A1 (inb_of S hj) hty F hg hs hd
  subst hji
  exact ⟨T', h', X', e', W, Arv.set A1 q1 S q3 H G hf W _ rfl hi, st⟩
theorem own_sto {C : String} {y : Addr} (A : Arv Z h a k ty z vs dv) (O : Ovr Z k C) (I : Ins Z h y C true) : Sto Z h a (.ref y) := by
  obtain ⟨cl, A1, q1, S, q3, H, G⟩ := A
  exact Sto.ofV A1 q1 O I
theorem own_narB (x : Int32) : nar .byte (x.toInt8.toInt32) = x.toInt8.toInt32 := Value.int.inj (XT.narrow_b x)
theorem own_narC (x : Int32) : nar .char (x.toUInt32.toUInt16.toUInt32.toInt32) = x.toUInt32.toUInt16.toUInt32.toInt32 := Value.int.inj (XT.narrow_c x)
theorem own_fitc {cl : Cell} (A : Arr Z h a cl ty) (H : Has cl vs dv) (G : ∀ i, i < cl.slots.size → fits ty (vs.getD i dv) = true) : FitC Z cl := fun i v hv => by
  obtain ⟨hi, q0⟩ := Array.getElem?_eq_some_iff.mp hv
  have q := G i hi
  have q2 := (H i hi).symm.trans hv
  rw [Option.some.inj q2] at q
  obtain ⟨hs, k, hk, comp, hkind⟩ := A.2.1
  simp [State.fitsSlot, State.slotType?, hk, hkind]; exact q
theorem own_clone (X : Stand p l e R s m args below meth c T locs cells slots) (hx : p.tables.exec = Jvm.exec) (hZ : Z.Warmed39 s.vm) {own ad : String} {index : Nat} (hown : s.vm.findClass own = some m.cls) (eT : T.heap = h)
    (w1 : (Jvm.Cond.methodLink own index ⟨ad, "clone", "()Ljava/lang/Object;"⟩).before a0 Z = true) (w2 : (Jvm.Cond.sameMethod ad "java/lang/Object" "clone" "()Ljava/lang/Object;").before a0 Z = true) (w3 : (Jvm.Cond.native ⟨"java/lang/Object", "clone", "()Ljava/lang/Object;"⟩).before a0 Z = true)
    (w4 : (Jvm.Cond.instanceMethod ⟨"java/lang/Object", "clone", "()Ljava/lang/Object;"⟩).before a0 Z = true) (w5 : (Jvm.Cond.selects ad ⟨ad, "clone", "()Ljava/lang/Object;"⟩ ⟨"java/lang/Object", "clone", "()Ljava/lang/Object;"⟩).before a0 Z = true) (w6 : (Jvm.Cond.castable ad "java/lang/Cloneable").before a0 Z = true)
    (A : Arv Z h a k ty z vs dv) (E : Exa Z h a ad) {g : JFrame} (hg : g.method = m) (hsize : g.locals.size = c.maxLocals) {rest : List Value} (hs : g.stack = .ref a :: rest) (hd : decode c.code g.pc = .ok (.invokevirtual index, 3))
    (hf : 1 ≤ R.frames) {W cap : Nat} (hW : 2 * g.monitorRoom + (rest.map fun v => v.category).sum ≤ W) (hl : W + 14 ≤ R.locals) (hcap : z.toNatClampNeg ≤ cap) (hc : cells + 1 ≤ R.cells) (hsl : slots + cap ≤ R.slots) :
    ∃ T' h', Stand p l e R s m args below meth c T' locs (cells + 1) (slots + cap) ∧ T'.heap = h' ∧ Ext h h' ∧ Arv Z h' h.size k ty z vs dv ∧ Exa Z h' h.size ad ∧
      ∀ target, Steps p.tables e below (T'.setTop { g with pc := g.pc + 3, stack := .ref h.size :: rest }) target → Steps p.tables e below (T.setTop g) target := by
  obtain ⟨cl, A1, q1, S, q3, H, G⟩ := A
  obtain ⟨T', h', X', e', E', A', E2, st⟩ := cloneA X hx hZ hown w1 w2 w3 w4 w5 w6 eT A1 E (own_fitc A1 H G) hg hsize hs hd hf hW hl (by rw [S]; exact hcap) hc hsl
  exact ⟨T', h', X', e', E', ⟨_, A', q1, S, q3, H, G⟩, E2, st⟩
end OwnArr
section OwnCase
variable {s : State} {args : Array Value} {t u : Term} {a : Addr} {ty : FieldType} {n j : Int32} {vs : List Value} {dv v : Value} {cl : Cell}
theorem own_ev {y : Value} (hb : u.eval args s none [] s = some y) (h : (Jvm.Cond.eq t u).value args s none s [] = some true) (hk : own_pl y = true := by rfl) : t.eval args s none [] s = some y := by
  obtain ⟨x, y', e1, e2, -, -⟩ := cmp_v (Or.inl h)
  rw [own_eqv e1 hb h hk] at e1; exact e1
theorem own_ev' {y : Value} (hb : t.eval args s none [] s = some y) (h : (Jvm.Cond.eq t u).value args s none s [] = some true) (hk : own_pl y = true := by rfl) : u.eval args s none [] s = some y := by
  obtain ⟨x, y', e1, e2, -, -⟩ := cmp_v (Or.inl h)
  cases hb.symm.trans e1
  cases y <;> cases y' <;> simp [Jvm.Cond.value, e1, e2, own_pl] at h hk ⊢ <;> simp_all
theorem own_elem (ev : t.eval args s none [] s = some (.ref a)) (hu : u.eval args s none [] s = some v) (h : (Jvm.Cond.eq (.elem t (.int j)) u).value args s none s [] = some true) (hc : s.heap[a]? = some cl) (hk : own_pl v = true := by rfl) : cl.slots[j.toNatClampNeg]? = some v := by
  have e1 := own_ev hu h hk
  obtain ⟨c', e3, e4, e5⟩ := elem_at e1 ev (Term.int_eval j)
  cases hc.symm.trans e3; exact e5
theorem own_arr (hf : Fit s) (ev : t.eval args s none [] s = some (.ref a)) (h1 : (Jvm.Cond.arrayOf t ty).value args s none s [] = some true) (h2 : (Jvm.Cond.eq (.length t) (.int n)).value args s none s [] = some true) (hn : ¬ n < 0) (hl : n.toNatClampNeg = vs.length)
    (he : ∀ cl : Cell, s.heap[a]? = some cl → s.arrayAt? a = some cl → cl.slots.size = n.toNatClampNeg → HasL cl 0 vs) : ∃ k, Arv s s.heap a k ty n vs dv := by
  obtain ⟨cl, A⟩ := Arr.start ev h1
  have e1 := own_ev (Term.int_eval n) h2
  obtain ⟨a', cl', b1, b2, b3⟩ := Term.length_spec e1
  cases ev.symm.trans b1
  have hc' := (State.arrayAt?_spec b2).1
  cases A.1.symm.trans hc'
  have hsz : cl.slots.size.toInt32 = n := (Value.int.inj b3).symm
  have hlt : cl.slots.size < 2 ^ 31 := by
    by_cases q : cl.slots.size < 2147483648
    · exact q
    · simp [Term.eval, ev, b2, q] at e1
  have hS : cl.slots.size = n.toNatClampNeg := by rw [← hsz]; simp only [Int32.toNatClampNeg, len_toInt hlt]; rfl
  exact ⟨_, Arv.start hf A hlt hsz hn hl (he cl hc' b2 hS)⟩
theorem own_allat {C nm d : String} {i : Nat} {b : Int32} (hi : j.toNatClampNeg = i) (hj : ¬ j < 0) (ev : (Term.static C nm d).eval args s none [] s = some (.ref a)) (hc : s.heap[a]? = some cl) (ha : s.arrayAt? a = some cl) (hlt : i < cl.slots.size) (hb : ¬ b ≤ j)
    (h : (Jvm.Cond.all (.static C nm d) (.or (.le (.int b) (.index 0)) (.eq (.elem (.static C nm d) (.index 0)) (.index 0)))).value args s none s [] = some true) : cl.slots[i]? = some (.int j) := by
  have h' := Cond.all_elim ev ha h i hlt
  subst hi
  have e1 : (Term.index 0).eval args s none [j.toNatClampNeg] s = some (.int j) := idx_at hj
  have e2 : (Jvm.Cond.le (.int b) (.index 0)).value args s none s [j.toNatClampNeg] = some false := by
    rw [Cond.le_ints (Term.int_eval b) e1]; simp [hb]
  rw [Cond.or_of_right e2] at h'
  obtain ⟨x, y, q1, q2, -, -⟩ := cmp_v (Or.inl h')
  have q := own_eqv q1 e1 h'
  subst q
  obtain ⟨c', e3, e4, e5⟩ := elem_at q1 (show (Term.static C nm d).eval args s none [j.toNatClampNeg] s = some (.ref a) from ev) e1
  cases hc.symm.trans e3; exact e5
end OwnCase
section OwnMir
variable {p : Program} {l : Launch} {e : Env} {R : Room} {s : State} {m : MethodId} {args : Array Value} {below : List Frame} {meth : Method} {c : Code} {T : State} {locs : List Loc} {cells slots : Nat} {Z : State} {a0 : Array Value} {h : Heap}
variable {own : String} {index : Nat} {y : MethodName} {bytes : ByteArray} {maxL : Nat} {ret : Option FieldType} {rm : Room} {W : Nat} {as' : Array Value} {Q : Option Value → Heap → List Loc → Prop}
theorem own_nf {s : State} {args : Array Value} {C : String} {x y w : MethodName} (hsel : (Jvm.Cond.selects C x y).before args s = true) (q : y.cls = w.cls) : NotFace s w := fun r0 h0 => by
  obtain ⟨c2, r2, m2, q1, q2, q3, q4, kP, hkP, hkPi⟩ := Cond.selects_spec hsel
  have h1 := findClass_of_methodNamed h0
  have h2 := findClass_of_methodNamed q3
  rw [q] at h2
  have e : r0.cls = m2.cls := Option.some.inj (h1.symm.trans h2)
  exact ⟨kP, by rw [e]; exact hkP, hkPi⟩
/-- the class called C has its mirror, the object a -/
def Mir (Z : State) (C : String) (a : Addr) : Prop := ∃ (c : ClassId) (k : Class), Z.vm.findClass C = some c ∧ Z.vm.classes[c]? = some k ∧ k.mirror = some a ∧ ∃ cell : Cell, Z.heap[a]? = some cell ∧ cell.vm = .mirror c
theorem own_mir {Z : State} {C : String} (h : MirrorMade Z C) : ∃ a, Mir Z C a := by
  obtain ⟨c, k, a, h1, h2, h3, h4⟩ := h
  exact ⟨a, c, k, h1, h2, h3, h4⟩
theorem Mir.ne {Z : State} {C D : String} {a b : Addr} (M : Mir Z C a) (N : Mir Z D b) (q : C ≠ D) : @Ne Nat a b := fun e => by
  obtain ⟨c, k, h1, h2, -, cell, h4, h5⟩ := M
  obtain ⟨c', k', h1', h2', -, cell', h4', h5'⟩ := N
  subst e
  cases h4.symm.trans h4'
  have e2 : c = c' := by
    have := h5.symm.trans h5'
    injection this
  subst e2
  obtain ⟨x, hx, hn⟩ := Vm.findClass_spec h1
  obtain ⟨x', hx', hn'⟩ := Vm.findClass_spec h1'
  cases hx.symm.trans hx'
  exact q (hn.symm.trans hn')
theorem Mir.at {Z : State} {C : String} {a : Addr} {s : State} (hZ : Z.Warmed39 s.vm) (M : Mir Z C a) : ∃ (c : ClassId) (k : Class), s.vm.findClass C = some c ∧ s.vm.classes[c]? = some k ∧ k.mirror = some a := by
  obtain ⟨c, k, h1, h2, h3, -⟩ := M
  obtain ⟨k', hk', he⟩ := hZ.alike.2.2 _ _ h2
  exact ⟨c, k', by rw [hZ.alike.findClass]; exact h1, hk', by rw [he]; exact h3⟩
theorem own_ldcM (X : Stand p l e R s m args below meth c T locs cells slots) (hx : p.tables.exec = Jvm.exec) (hZ : Z.Warmed39 s.vm) {own C : String} {index : Nat} (hown : s.vm.findClass own = some m.cls) (w : (Jvm.Cond.classLink own index C).before a0 Z = true) {a : Addr} (M : Mir Z C a) (eT : T.heap = h)
    {g : JFrame} (hg : g.method = m) (hd : decode c.code g.pc = .ok (.ldc index, 2)) :
    ∃ T', Stand p l e R s m args below meth c T' locs cells slots ∧ T'.heap = h ∧ ∀ target, Steps p.tables e below (T'.setTop { g with pc := g.pc + 2, stack := .ref a :: g.stack }) target → Steps p.tables e below (T.setTop g) target := by
  obtain ⟨cc, k, h1, h2, h3⟩ := M.at hZ
  have hev : (Term.mirror C).eval args s none [] s = some (.ref a) := by simp [Term.eval, h1, h2, h3]
  obtain ⟨vm', X', st⟩ := X.ldcMirror hx hown (mvT hZ w) hev hg hd
  exact ⟨_, X', eT, st⟩
theorem own_gcI (X : Stand p l e R s m args below meth c T locs cells slots) (hx : p.tables.exec = Jvm.exec) (hZ : Z.Warmed39 s.vm) (hown : s.vm.findClass own = some m.cls) (eT : T.heap = h) {xi : MethodName} {C : String} {b mir : Addr} {count : Nat}
    (w1 : (Jvm.Cond.methodLink own index xi).before a0 Z = true) (w2 : (Jvm.Cond.declares Jvm.Stand.gcN).before a0 Z = true) (w7 : (Jvm.Cond.interfaceMethod xi.cls "java/lang/Object" xi.name xi.desc).before a0 Z = true) (w3 : (Jvm.Cond.selects C xi Jvm.Stand.gcN).before a0 Z = true) (w5 : (Jvm.Cond.instanceMethod Jvm.Stand.gcN).before a0 Z = true) (w8 : (Jvm.Cond.publicMethod Jvm.Stand.gcN).before a0 Z = true) (w9 : (Jvm.Cond.unhidden C xi.name xi.desc).before a0 Z = true) (w10 : (Jvm.Cond.castable C xi.cls).before a0 Z = true) (w11 : (Jvm.Cond.native Jvm.Stand.gcN).before a0 Z = true)
    (hy : xi.cls ≠ "java/lang/invoke/MethodHandle" ∧ xi.cls ≠ "java/lang/invoke/VarHandle") (hxo : xi.cls ≠ "java/lang/Object") (hname : xi.name = "getClass") (hdesc : xi.desc = "()Ljava/lang/Class;")
    (E : Exa Z h b C) (M : Mir Z C mir)
    {g : JFrame} (hg : g.method = m) (hsize : g.locals.size = c.maxLocals) {rest : List Value} (hstack : g.stack = .ref b :: rest) (hd : decode c.code g.pc = .ok (.invokeinterface index count, 5)) (hW : 2 * g.monitorRoom + (rest.map fun v => v.category).sum ≤ W) (hf : 1 ≤ R.frames) (hl : W + 14 ≤ R.locals) :
    ∃ T', Stand p l e R s m args below meth c T' locs cells slots ∧ T'.heap = h ∧ ∀ target, Steps p.tables e below (T'.setTop { g with pc := g.pc + 5, stack := .ref mir :: rest }) target → Steps p.tables e below (T.setTop g) target := by
  obtain ⟨cq, kq, q1, q2, q3⟩ := isOf hZ eT E
  obtain ⟨cc, k, h1, h2, h3⟩ := M.at hZ
  cases q1.symm.trans h1
  cases q2.symm.trans h2
  obtain ⟨vm', X', st⟩ := X.getClassOfI hx (xi := xi) hown (mvT hZ w1) (mvT hZ w2) (Jvm.Free.ULB.iface_rides hZ.alike w7) (mvT hZ w3) (mvT hZ w5) (mvT hZ w8) (mvT hZ w9) (mvT hZ w10) (mvT hZ w11) hy hxo hname hdesc q1 q2 q3 h3 hg hsize hstack hd hf
    (by have q : nativeFrameWords "java/lang/Object" "getClass" 1 + 11 = 14 := by decide
        rw [q]; omega)
  exact ⟨_, X', eT, st⟩
end OwnMir
section OwnUp
variable {p : Program} {l : Launch} {e : Env} {R : Room} {s : State} {m : MethodId} {args : Array Value} {below : List Frame} {meth : Method} {c : Code} {T : State} {locs : List Loc} {cells slots : Nat} {Z : State} {a0 : Array Value} {h : Heap}
variable {own : String} {index : Nat} {y : MethodName} {bytes : ByteArray} {maxL : Nat} {ret : Option FieldType} {rm : Room} {W : Nat} {as' : Array Value} {Q : Option Value → Heap → List Loc → Prop}
/-- an entry that names an interface's method which another class or interface declares: it links, by whatever road of access the word allows -/
theorem own_linkFF {args : Array Value} {s : State} {cls : String} {x : MethodName} {index d c : Nat} {ck ok : Class} {meth : Method} {mf : MethodId}
    (hd : s.vm.findClass cls = some d) (hc : s.vm.findClass x.cls = some c) (hck : s.vm.classes[c]? = some ck) (hvi : ck.isInterface = true) (hnone : ck.findMethod x.name x.desc = none)
    (hf : s.methodFound? x.cls x.name x.desc = some mf) (hok : s.vm.classes[mf.cls]? = some ok) (hm : ok.methods[mf.idx]? = some meth)
    (hcl0 : x.name ≠ "clone") (hx : x.cls ≠ "java/lang/invoke/MethodHandle" ∧ x.cls ≠ "java/lang/invoke/VarHandle")
    (h : (Jvm.Cond.methodLink cls index x).before args s = true) (pl : Platform) (hpl : pl.magicAccessors = ({} : Platform).magicAccessors) :
    ∃ ci, s.vm.MethodLinksFF pl d index ci c mf ∧ s.rightAt d index (.method mf) = true := by
  obtain ⟨k0, hk0, hname⟩ := Vm.findClass_spec hc
  cases hck.symm.trans hk0
  have hpoly : ∀ y, signaturePolymorphic ck y = false := fun y => by simp [signaturePolymorphic, hname, hx.1, hx.2]
  have hmeth : s.vm.method? mf = some meth := by simp [Vm.method?, hok, hm]
  have hff := State.faceFind_of_found hc hck hvi hpoly hnone hf
  simp only [Cond.before, Cond.holds, Cond.value, hd, hc] at h
  cases hme : s.memberEntry? cls index with
  | none => simp [hme] at h
  | some me =>
    obtain ⟨ci, via⟩ := me
    cases hcl : s.classLinks cls ci x.cls with
    | none => simp [hme, hcl, hf] at h
    | some linked =>
      cases hdk : s.vm.classes[d]? with
      | none => simp [hme, hcl, hdk, hf] at h
      | some dk =>
        simp only [hme, hcl, hdk, hck, hok, hmeth, hf, Option.bind_eq_bind, Option.bind_some, Option.pure_def, beq_iff_eq, bne_iff_ne, ne_eq, Option.some.injEq, Bool.and_eq_true, Option.isNone_iff_eq_none] at h
        obtain ⟨⟨⟨⟨⟨⟨⟨rfl, hnm⟩, hopen⟩, hvia⟩, -⟩, -⟩, hml⟩, hacc⟩ := h
        have hpa : s.vm.Plain meth.accessFlags mf.cls ok c d dk := by
          have h1 : plainAccess s.vm meth.accessFlags mf.cls ok c d dk = true := by
            rcases Bool.or_eq_true _ _ |>.mp hacc with q | q
            · exact q
            · simp [hcl0] at q
          simpa [Vm.Plain, plainAccess, or_assoc, and_assoc] using h1
        rw [hvi] at hvia
        subst hvia
        obtain ⟨cr, hcr, hlinks⟩ := State.classLinks_spec hd hcl pl hpl
        cases hc.symm.trans hcr
        obtain ⟨cp, hcp, hnames⟩ := State.names_spec hnm
        obtain ⟨dk', cf, hdk', hcf, rfl⟩ := State.poolOf?_spec hd hcp
        cases hdk.symm.trans hdk'
        obtain ⟨ci', nt, hent, hnt, -⟩ := namesOf?_method hnames
        have hent' : ci' = ci ∧ cf.constantPool[index]? = some (.interfaceMethodref ci nt) := by
          rcases hent with hent | hent <;> simp only [State.memberEntry?, hcp, Option.bind_eq_bind, Option.bind_some, hent, Option.some.injEq, Prod.mk.injEq] at hme
          · exact absurd hme.2 (by simp)
          · obtain ⟨rfl, -⟩ := hme
            exact ⟨rfl, hent⟩
        obtain ⟨rfl, hent''⟩ := hent'
        have hne : ci' ≠ index := fun he => by
          obtain ⟨_, cf', name', _, hd', hcf', _, hname', _⟩ := hlinks.here
          cases hdk.symm.trans hd'
          cases hcf.symm.trans hcf'
          subst he
          simp [ConstantPool.className?, hent''] at hname'
        have hdl : dk.loader = none := by
          obtain ⟨dk', _, _, _, hd', _, hl', _⟩ := hlinks.here
          cases hdk.symm.trans hd'; exact hl'
        refine ⟨ci', ⟨dk, cf, nt, x.name, x.desc, ck, ok, meth, hdk, hcf, hent'', hnt, hlinks, hne, hck, hvi, hpoly, hnone, hff, hok, hm, hdl.trans hml.symm, hpa, State.openOr_spec hd hdk hopen⟩, ?_⟩
        simp [State.rightAt, hdk, hcf, hnames, hf]
/-- the call through such an entry, on an object of class C: what the callee leaves -/
theorem own_callIU (X : Stand p l e R s m args below meth c T locs cells slots) (hx : p.tables.exec = Jvm.exec) (hZ : Z.Warmed39 s.vm) (hown : s.vm.findClass own = some m.cls) (eT : T.heap = h) {z : MethodName} {C J : String} {b : Addr} {count : Nat}
    (w1 : (Jvm.Cond.methodLink own index y).before a0 Z = true) (w2 : (Jvm.Cond.declares ⟨J, y.name, y.desc⟩).before a0 Z = true) (w7 : (Jvm.Cond.interfaceMethod y.cls J y.name y.desc).before a0 Z = true) (hxo : y.cls ≠ J) (hcl0 : y.name ≠ "clone") (w3 : (Jvm.Cond.selects C y z).before a0 Z = true) (w5 : (Jvm.Cond.instanceMethod z).before a0 Z = true) (w8 : (Jvm.Cond.publicMethod z).before a0 Z = true) (w9 : (Jvm.Cond.unhidden C y.name y.desc).before a0 Z = true) (w10 : (Jvm.Cond.castable C y.cls).before a0 Z = true) (w6 : (Jvm.Cond.initialized z.cls).before a0 Z = true) (w4 : (Jvm.Cond.code z bytes maxL ret).before a0 Z = true) (hy : y.cls ≠ "java/lang/invoke/MethodHandle" ∧ y.cls ≠ "java/lang/invoke/VarHandle")
    (E : Exa Z h b C) (hM : own_Met l Z h z bytes maxL ret [] rm as' Q rm.cells rm.slots)
    (hf : rm.frames + 1 ≤ R.frames) (hl : W + (maxL + 11) + rm.locals ≤ R.locals) (hc : cells + rm.cells ≤ R.cells) (hsl : slots + rm.slots ≤ R.slots)
    {g : JFrame} (hg : g.method = m) (hsize : g.locals.size = c.maxLocals) {argsL rest : List Value} (has : (.ref b :: argsL).toArray = as') (hlen : ∀ sig, parseMethodDescriptor y.desc = some sig → argsL.length = sig.parameters.length)
    (hstack : g.stack = argsL.reverse ++ .ref b :: rest) (hW : 2 * g.monitorRoom + (rest.map fun v => v.category).sum ≤ W) (hd : decode c.code g.pc = .ok (.invokeinterface index count, 5)) :
    own_After p l e R s m args below meth c T locs (cells + rm.cells) (slots + rm.slots) g rest Q 5 := by
  obtain ⟨cq, kq, q1, q2, cellB, hcellT, hclsB, hstatB⟩ := isOf hZ eT E
  have hpl : e.platform.magicAccessors = ({} : Platform).magicAccessors := by rw [X.admits.platform]
  obtain ⟨r0, r, hn, hrm, hstR, hsigR⟩ := Cond.declares_spec (mvT (args := args) hZ w2)
  obtain ⟨ok, hok, hokname⟩ := className_of_methodNamed hn
  have hmO : ok.methods[r0.idx]? = some r := by simpa [Vm.method?, hok] using hrm
  obtain ⟨cL, kL, r1, hcL, hkL, hiL, hfoundL, hn1⟩ := Cond.interfaceMethod_spec (Jvm.Free.ULB.iface_rides (a' := args) hZ.alike w7)
  cases hn.symm.trans hn1
  obtain ⟨hnameR, hdescR⟩ := name_of_methodNamed hn hrm
  obtain ⟨mk, methM, hnamed, hmethM, -, habM⟩ := Cond.instanceMethod_spec (mvT (args := args) hZ w5)
  obtain ⟨c2, r2, m2, p1, p2, p3, p4, -⟩ := Cond.selects_spec (mvT (args := args) hZ w3)
  cases q1.symm.trans p1
  cases hfoundL.symm.trans p2
  cases hnamed.symm.trans p3
  have hsel : selectMethod e.platform s.vm cellB.cls r0 = .method mk := by rw [Launch.admits_selectMethod X.admits, hclsB]; exact p4
  have hpub : hasFlag methM.accessFlags Acc.public_ = true := Cond.publicMethod_spec hnamed hmethM (mvT (args := args) hZ w8)
  have hway : ((cellB.cls :: s.vm.superclasses cellB.cls).any fun k => (declaredIn s.vm r.name r.desc k).any fun (_, z) => z.isPrivate || z.isStatic) = false := by
    rw [hnameR, hdescR, hclsB]; exact Cond.unhidden_spec q1 (mvT (args := args) hZ w9)
  obtain ⟨c3, t3, v1, v2, v3⟩ := Cond.castable_spec (mvT (args := args) hZ w10)
  cases q1.symm.trans v1
  cases hcL.symm.trans v2
  have hobj : ∀ z, cellB.vm ≠ .statics z := fun z q => by rw [q] at hstatB; cases hstatB
  have hinst : s.vm.assignable cellB.cls cL = true := by rw [hclsB]; exact v3
  have hkcell : s.vm.classes[cellB.cls]? = some kq := by rw [hclsB]; exact q2
  obtain ⟨kL', hkL', hnameL⟩ := Vm.findClass_spec hcL
  cases hkL.symm.trans hkL'
  have hpolyL : ∀ y, signaturePolymorphic kL y = false := fun u => by simp [signaturePolymorphic, hnameL, hy.1, hy.2]
  have hnone : kL.findMethod y.name y.desc = none := by
    cases hj : kL.findMethod y.name y.desc with
    | none => rfl
    | some j =>
      exfalso
      have hsome : (kL.methods[j]?).isSome := by
        obtain ⟨hlt, -, -⟩ := Array.findIdx?_eq_some_iff_getElem.mp hj
        simp [hlt]
      have h2 := State.methodFound?_declared hcL hkL hpolyL hj hsome
      rw [hfoundL] at h2
      have e1 : r0 = ⟨cL, j⟩ := Option.some.inj h2
      have e2 : r0.cls = cL := by rw [e1]
      rw [e2] at hok
      cases hkL.symm.trans hok
      exact hxo (hnameL.symm.trans hokname)
  obtain ⟨ci, hlk, hright⟩ := own_linkFF hown hcL hkL hiL hnone hfoundL hok hmO hcl0 hy (mvT (args := args) hZ w1) e.platform hpl
  have hE : s.MethodEntryUp e T.vm m.cls index cL r0 ci := State.methodEntryFF X.warmed hlk hright
  obtain ⟨dk, cfile, nt, _, _, ck, _, _, hdd, hcf, hcp, -, -, -, hck, hvia, -⟩ := hlk.here
  cases hkL.symm.trans hck
  have alike := hE.warmed.alike
  obtain ⟨dk2, hdk2, hres⟩ := hE.classReady
  obtain ⟨dk3, hdk3, hed⟩ := alike.2.2 _ _ hdd
  cases hdk2.symm.trans hdk3
  obtain ⟨ck2, hck2, hec⟩ := alike.2.2 _ _ hck
  obtain ⟨kcell2, hkcell2, -⟩ := alike.2.2 _ _ hkcell
  have X1 : Stand p l e R s m args below meth c (T.setVm (T.vm.calledUp m.cls ci index cL r0)) locs cells slots := X.noted hE.warmed
  have hst : ∀ target, (∀ acts, Steps p.tables e below (doInvoke e ((T.setVm (T.vm.calledUp m.cls ci index cL r0)).setTop { g with stack := rest }) acts mk (.ref b :: argsL).toArray).1 target) → Steps p.tables e below (T.setTop g) target := fun target hrest => by
    subst hg
    jvm_step X.here [hx, hd, invokeinterface.wp_coldFace (e := e) (s := T) (s₀ := s) (f := g) (count := count) X.here.top X.warmed hE hdd hcf (Or.inr hcp) hck hvia,
      invokeinterface.wp_ready (e := e) (s := T.setVm (T.vm.calledUp g.method.cls ci index cL r0)) (f := g) (count := count) (r := r) (meth := methM) (m := mk) (args := argsL) (rest := rest) (cell := cellB) (kcell := kcell2) (ck := dk2) (nk := ck2) (cf := cfile) (ci := ci) (nt := nt) (named := cL)
        X.here.top hE.ready (by show (T.vm.calledUp g.method.cls ci index cL r0).method? r0 = some r; rw [alike.method?]; exact hrm) hstR (hlen _ hsigR) hstack hcellT hobj hkcell2 hdk2 (by rw [hed]; exact hcf) hcp hres hck2 (by rw [hec]; exact hvia)
        (by show (T.vm.calledUp g.method.cls ci index cL r0).assignable cellB.cls cL = true; rw [alike.assignable]; exact hinst)
        (by show selectMethod e.platform (T.vm.calledUp g.method.cls ci index cL r0) cellB.cls r0 = .method mk; rw [alike.selectMethod]; exact hsel)
        (by show (T.vm.calledUp g.method.cls ci index cL r0).method? mk = some methM; rw [alike.method?]; exact hmethM)
        (Or.inr (Or.inr (by show ((cellB.cls :: (T.vm.calledUp g.method.cls ci index cL r0).superclasses cellB.cls).any fun k => (declaredIn (T.vm.calledUp g.method.cls ci index cL r0) r.name r.desc k).any fun (_, y) => y.isPrivate || y.isStatic) = false; simp only [alike.superclasses, alike.declaredIn]; exact hway)))
        (Or.inl hpub) habM]
    exact hrest
  obtain ⟨v, ⟨T', L', k', n'⟩, X', ⟨Lc, hQ, l1, y1, z1⟩, st⟩ := backOf (W := W) (len := 5) hM hZ w4 w6 hf hl m meth c ⟨T.setVm (T.vm.calledUp m.cls ci index cL r0), locs, cells, slots⟩ { g with stack := rest } (.invokeinterface index count) mk (.ref b :: argsL).toArray X1 hg hsize hd hW (X1.named hnamed) ⟨has, eT, hc, hsl⟩
  dsimp only [Pt.U, Pt.locs, Pt.cells, Pt.slots] at X' l1 y1 z1 st hQ
  subst l1 y1 z1
  exact ⟨T', _, v, Lc, X', rfl, hQ, fun _ k => ((hst _ fun acts => by rw [doInvoke_state]; exact Steps.refl _).trans st).trans k⟩
/-- a private method is selected, whatever the class: no word for it is needed -/
theorem own_selP {Z : State} {a0 : Array Value} {C : String} {x w y : MethodName} (w1 : (Jvm.Cond.instanceMethod y).before a0 Z = true) (w7 : (Jvm.Cond.privateMethod y).before a0 Z = true) (ws : (Jvm.Cond.selects C x w).before a0 Z = true) (q : w.cls = y.cls) (hy : y.cls ≠ "java/lang/invoke/MethodHandle" ∧ y.cls ≠ "java/lang/invoke/VarHandle") : (Jvm.Cond.selects y.cls y y).before a0 Z = true := by
  obtain ⟨mk, methM, hnamed, hmethM, -, -⟩ := Cond.instanceMethod_spec w1
  have hp := Cond.privateMethod_at w7 mk methM hnamed hmethM
  have hc := findClass_of_methodNamed hnamed
  obtain ⟨k, hk, hkn⟩ := own_nf ws q mk hnamed
  obtain ⟨k', hk', hname⟩ := Vm.findClass_spec hc
  cases hk.symm.trans hk'
  have hpoly : ∀ u, signaturePolymorphic k u = false := fun u => by simp [signaturePolymorphic, hname, hy.1, hy.2]
  have hj : ∃ j, k.findMethod y.name y.desc = some j ∧ mk = ⟨mk.cls, j⟩ := by
    have h2 := hnamed
    simp only [State.methodNamed?, hc, hk, Option.bind_eq_bind, Option.bind_some, Option.pure_def] at h2
    cases hf : k.findMethod y.name y.desc with
    | none => simp [hf] at h2
    | some j => simp [hf] at h2; exact ⟨j, rfl, h2.symm⟩
  obtain ⟨j, hj, hmk⟩ := hj
  have hsome : (k.methods[j]?).isSome := by
    obtain ⟨hlt, -, -⟩ := Array.findIdx?_eq_some_iff_getElem.mp hj
    simp [hlt]
  have hfound : Z.methodFound? y.cls y.name y.desc = some mk := by rw [hmk]; exact State.methodFound?_declared hc hk hpoly hj hsome
  simp [Cond.before, Cond.holds, Cond.value, hc, hfound, hnamed, selectMethod, hmethM, hp, hk, hkn]
end OwnUp
abbrev own_T (n : Nat) : Jvm.Cond := (tables_1[n]?).getD (Jvm.Cond.code x code maxLocals ret)
abbrev own_W (a0 : Array Value) (Z : State) : Prop := ∀ n : Nat, (own_T n).before a0 Z = true
theorem own_gd {α : Type} (l : List α) (d : α) (n : Nat) : (l[n]?).getD d ∈ d :: l := by
  cases h : l[n]? with
  | none => exact List.mem_cons_self
  | some a => exact List.mem_cons_of_mem _ (List.mem_of_getElem? h)
section OwnBrief
variable {p : Program} {l : Launch} {e : Env} {R : Room} {s : State} {m : MethodId} {args : Array Value} {below : List Frame} {meth : Method} {c : Code} {T : State} {locs : List Loc} {cells slots : Nat} {Z : State} {a0 : Array Value} {h : Heap}
variable {own : String} {index : Nat} {y : MethodName} {bytes : ByteArray} {maxL : Nat} {ret : Option FieldType} {rm : Room} {W : Nat} {as' : Array Value} {Q : Option Value → Heap → List Loc → Prop}
abbrev own_R (f c s l : Nat) : Room := { frames := f, cells := c, slots := s, locals := l }
theorem own_go {ws : List Jvm.Cond} {kc ks : Nat} (pn : plainFor y = true)
    (k : ∀ (p : Program) (e : Env) (s : State) (m : MethodId) (below : List Frame) (meth : Method) (c : Code) (s₁ : State), meth.locks = false → meth.sig.returnType = ret → meth.name = y.name → c.maxLocals = maxL → Z.Warmed39 s.vm → p.tables.exec = Jvm.exec → c.code = bytes → s.vm.findClass y.cls = some m.cls → Stand p l e rm s m as' below meth c s₁ [] 0 0 → s₁.heap = h →
      own_G p e below (s₁.setTop (entryFrame m as' maxL)) (own_P s Q kc ks)) : own_Met l Z h y bytes maxL ret ws rm as' Q kc ks := by
  refine MetFree.of_bodySF pn hisR ?_
  intro p e s m args below meth c s₁ Bd hml0 hP hK
  obtain ⟨rfl, hZ, hh⟩ := hP
  exact k p e s m below meth c s₁ Bd.notSynchronized Bd.returns (name_of_methodNamed Bd.named Bd.method).1 hml0 hZ Bd.exec Bd.bytes (findClass_of_methodNamed Bd.named) (Stand.of_body Bd) (by rw [← hh, Bd.state]; rfl)
theorem own_cS (X : Stand p l e R s m args below meth c T locs cells slots) (hx : p.tables.exec = Jvm.exec) (hZ : Z.Warmed39 s.vm) (hown : s.vm.findClass own = some m.cls) (eT : T.heap = h)
    (w1 : (Jvm.Cond.methodLink own index y).before a0 Z = true) (w2 : (Jvm.Cond.static y).before a0 Z = true) (w3 : (Jvm.Cond.initialized y.cls).before a0 Z = true) (w4 : (Jvm.Cond.code y bytes maxL ret).before a0 Z = true) (hy : y.cls ≠ "java/lang/invoke/MethodHandle" ∧ y.cls ≠ "java/lang/invoke/VarHandle")
    (hM : own_Met l Z h y bytes maxL ret [] rm as' Q rm.cells rm.slots)
    (argsL rest : List Value) {k pc : Nat} {Ls : Array Slot} (hml : c.maxLocals = k) (hlen : ∀ sig, parseMethodDescriptor y.desc = some sig → argsL.length = sig.parameters.length) (hd : decode c.code pc = .ok (.invokestatic index, 3)) {P : Outcome → State → Prop}
    (K : ∀ T' h' v L', Stand p l e R s m args below meth c T' (locs ++ L') (cells + rm.cells) (slots + rm.slots) → T'.heap = h' → Q v h' L' → own_G p e below (T'.setTop (mkF m (pc + 3) Ls (v.toList ++ rest))) P)
    (has : argsL.toArray = as' := by rfl) (hs : Ls.size = k := by rfl) (hW : (rest.map fun v => v.category).sum ≤ W := by exact Nat.le_of_eq rfl) (hf : rm.frames + 1 ≤ R.frames := by decide) (hl : W + (maxL + 11) + rm.locals ≤ R.locals := by decide) (hc : cells + rm.cells ≤ R.cells := by decide) (hsl : slots + rm.slots ≤ R.slots := by decide) :
    own_G p e below (T.setTop (mkF m pc Ls (argsL.reverse ++ rest))) P := by
  obtain ⟨T', h', v, L', X', e', q, st⟩ := own_callS X hx hZ hown eT w1 w2 w3 w4 hy hM hf hl hc hsl (g := mkF m pc Ls (argsL.reverse ++ rest)) rfl (by rw [hml]; exact hs) has hlen rfl (by show 2 * 0 + _ ≤ _; omega) hd
  exact oS st (K T' h' v L' X' e' q)
theorem own_cV (X : Stand p l e R s m args below meth c T locs cells slots) (hx : p.tables.exec = Jvm.exec) (hZ : Z.Warmed39 s.vm) (hown : s.vm.findClass own = some m.cls) (eT : T.heap = h) {z : MethodName} {C : String} {b : Addr}
    (w1 : (Jvm.Cond.methodLink own index y).before a0 Z = true) (w2 : (Jvm.Cond.declares y).before a0 Z = true) (nf : NotFace s y) (w3 : (Jvm.Cond.selects C y z).before a0 Z = true) (w5 : (Jvm.Cond.instanceMethod z).before a0 Z = true) (w6 : (Jvm.Cond.initialized z.cls).before a0 Z = true) (w4 : (Jvm.Cond.code z bytes maxL ret).before a0 Z = true) (hy : y.cls ≠ "java/lang/invoke/MethodHandle" ∧ y.cls ≠ "java/lang/invoke/VarHandle")
    (E : Exa Z h b C) (hM : own_Met l Z h z bytes maxL ret [] rm as' Q rm.cells rm.slots)
    (argsL rest : List Value) {k pc : Nat} {Ls : Array Slot} (hml : c.maxLocals = k) (hlen : ∀ sig, parseMethodDescriptor y.desc = some sig → argsL.length = sig.parameters.length) (hd : decode c.code pc = .ok (.invokevirtual index, 3)) {P : Outcome → State → Prop}
    (K : ∀ T' h' v L', Stand p l e R s m args below meth c T' (locs ++ L') (cells + rm.cells) (slots + rm.slots) → T'.heap = h' → Q v h' L' → own_G p e below (T'.setTop (mkF m (pc + 3) Ls (v.toList ++ rest))) P)
    (has : (.ref b :: argsL).toArray = as' := by rfl) (hs : Ls.size = k := by rfl) (hW : (rest.map fun v => v.category).sum ≤ W := by exact Nat.le_of_eq rfl) (hf : rm.frames + 1 ≤ R.frames := by decide) (hl : W + (maxL + 11) + rm.locals ≤ R.locals := by decide) (hc : cells + rm.cells ≤ R.cells := by decide) (hsl : slots + rm.slots ≤ R.slots := by decide) :
    own_G p e below (T.setTop (mkF m pc Ls (argsL.reverse ++ .ref b :: rest))) P := by
  obtain ⟨T', h', v, L', X', e', q, st⟩ := own_callV X hx hZ hown eT w1 w2 nf w3 w5 w6 w4 hy E hM hf hl hc hsl (g := mkF m pc Ls (argsL.reverse ++ .ref b :: rest)) rfl (by rw [hml]; exact hs) has hlen rfl (by show 2 * 0 + _ ≤ _; omega) hd
  exact oS st (K T' h' v L' X' e' q)
theorem own_cU (X : Stand p l e R s m args below meth c T locs cells slots) (hx : p.tables.exec = Jvm.exec) (hZ : Z.Warmed39 s.vm) (hown : s.vm.findClass own = some m.cls) (eT : T.heap = h) {z : MethodName} {C owner : String} {b : Addr}
    (w1 : (Jvm.Cond.methodLink own index y).before a0 Z = true) (w2 : (Jvm.Cond.sameMethod y.cls owner y.name y.desc).before a0 Z = true) (w7 : (Jvm.Cond.declares ⟨owner, y.name, y.desc⟩).before a0 Z = true) (w3 : (Jvm.Cond.selects C y z).before a0 Z = true) (w5 : (Jvm.Cond.instanceMethod z).before a0 Z = true) (w6 : (Jvm.Cond.initialized z.cls).before a0 Z = true) (w4 : (Jvm.Cond.code z bytes maxL ret).before a0 Z = true) (hy : owner ≠ "java/lang/invoke/MethodHandle" ∧ owner ≠ "java/lang/invoke/VarHandle")
    (E : Exa Z h b C) (hM : own_Met l Z h z bytes maxL ret [] rm as' Q rm.cells rm.slots)
    (argsL rest : List Value) {k pc : Nat} {Ls : Array Slot} (hml : c.maxLocals = k) (hlen : ∀ sig, parseMethodDescriptor y.desc = some sig → argsL.length = sig.parameters.length) (hd : decode c.code pc = .ok (.invokevirtual index, 3)) {P : Outcome → State → Prop}
    (K : ∀ T' h' v L', Stand p l e R s m args below meth c T' (locs ++ L') (cells + rm.cells) (slots + rm.slots) → T'.heap = h' → Q v h' L' → own_G p e below (T'.setTop (mkF m (pc + 3) Ls (v.toList ++ rest))) P)
    (has : (.ref b :: argsL).toArray = as' := by rfl) (hs : Ls.size = k := by rfl) (hW : (rest.map fun v => v.category).sum ≤ W := by exact Nat.le_of_eq rfl) (hf : rm.frames + 1 ≤ R.frames := by decide) (hl : W + (maxL + 11) + rm.locals ≤ R.locals := by decide) (hc : cells + rm.cells ≤ R.cells := by decide) (hsl : slots + rm.slots ≤ R.slots := by decide) :
    own_G p e below (T.setTop (mkF m pc Ls (argsL.reverse ++ .ref b :: rest))) P := by
  obtain ⟨T', h', v, L', X', e', q, st⟩ := own_callU X hx hZ hown eT w1 w2 w7 w3 w5 w6 w4 hy E hM hf hl hc hsl (g := mkF m pc Ls (argsL.reverse ++ .ref b :: rest)) rfl (by rw [hml]; exact hs) has hlen rfl (by show 2 * 0 + _ ≤ _; omega) hd
  exact oS st (K T' h' v L' X' e' q)
theorem own_cN (X : Stand p l e R s m args below meth c T locs cells slots) (hx : p.tables.exec = Jvm.exec) (hZ : Z.Warmed39 s.vm) (hown : s.vm.findClass own = some m.cls) (eT : T.heap = h) {b : Addr} (hy1 : y.name = "<init>")
    (w1 : (Jvm.Cond.methodLink own index y).before a0 Z = true) (w5 : (Jvm.Cond.instanceMethod y).before a0 Z = true) (w6 : (Jvm.Cond.initialized y.cls).before a0 Z = true) (w4 : (Jvm.Cond.code y bytes maxL none).before a0 Z = true) (hy : y.cls ≠ "java/lang/invoke/MethodHandle" ∧ y.cls ≠ "java/lang/invoke/VarHandle")
    (hM : own_Met l Z h y bytes maxL none [] rm as' Q rm.cells rm.slots)
    (argsL rest : List Value) {k pc : Nat} {Ls : Array Slot} (hml : c.maxLocals = k) (hlen : ∀ sig, parseMethodDescriptor y.desc = some sig → argsL.length = sig.parameters.length) (hd : decode c.code pc = .ok (.invokespecial index, 3)) {P : Outcome → State → Prop}
    (K : ∀ T' h' v L', Stand p l e R s m args below meth c T' (locs ++ L') (cells + rm.cells) (slots + rm.slots) → T'.heap = h' → Q v h' L' → own_G p e below (T'.setTop (mkF m (pc + 3) Ls (v.toList ++ rest))) P)
    (has : (.ref b :: argsL).toArray = as' := by rfl) (hs : Ls.size = k := by rfl) (hW : (rest.map fun v => v.category).sum ≤ W := by exact Nat.le_of_eq rfl) (hf : rm.frames + 1 ≤ R.frames := by decide) (hl : W + (maxL + 11) + rm.locals ≤ R.locals := by decide) (hc : cells + rm.cells ≤ R.cells := by decide) (hsl : slots + rm.slots ≤ R.slots := by decide) :
    own_G p e below (T.setTop (mkF m pc Ls (argsL.reverse ++ .ref b :: rest))) P := by
  obtain ⟨T', h', v, L', X', e', q, st⟩ := own_callN X hx hZ hown eT hy1 w1 w5 w6 w4 hy hM hf hl hc hsl (g := mkF m pc Ls (argsL.reverse ++ .ref b :: rest)) rfl (by rw [hml]; exact hs) has hlen rfl (by show 2 * 0 + _ ≤ _; omega) hd
  exact oS st (K T' h' v L' X' e' q)
theorem own_cI (X : Stand p l e R s m args below meth c T locs cells slots) (hx : p.tables.exec = Jvm.exec) (hZ : Z.Warmed39 s.vm) (hown : s.vm.findClass own = some m.cls) (eT : T.heap = h) {z : MethodName} {C : String} {b : Addr} {count : Nat}
    (w1 : (Jvm.Cond.methodLink own index y).before a0 Z = true) (w2 : (Jvm.Cond.declares y).before a0 Z = true) (w7 : (Jvm.Cond.interfaceMethod y.cls y.cls y.name y.desc).before a0 Z = true) (h7 : ((Jvm.Cond.interfaceMethod y.cls y.cls y.name y.desc).onTables && (Jvm.Cond.interfaceMethod y.cls y.cls y.name y.desc).keepsFace) = true) (w3 : (Jvm.Cond.selects C y z).before a0 Z = true) (w5 : (Jvm.Cond.instanceMethod z).before a0 Z = true) (w8 : (Jvm.Cond.publicMethod z).before a0 Z = true) (w9 : (Jvm.Cond.unhidden C y.name y.desc).before a0 Z = true) (w10 : (Jvm.Cond.castable C y.cls).before a0 Z = true) (w6 : (Jvm.Cond.initialized z.cls).before a0 Z = true) (w4 : (Jvm.Cond.code z bytes maxL ret).before a0 Z = true) (hy : y.cls ≠ "java/lang/invoke/MethodHandle" ∧ y.cls ≠ "java/lang/invoke/VarHandle")
    (E : Exa Z h b C) (hM : own_Met l Z h z bytes maxL ret [] rm as' Q rm.cells rm.slots)
    (argsL rest : List Value) {k pc : Nat} {Ls : Array Slot} (hml : c.maxLocals = k) (hlen : ∀ sig, parseMethodDescriptor y.desc = some sig → argsL.length = sig.parameters.length) (hd : decode c.code pc = .ok (.invokeinterface index count, 5)) {P : Outcome → State → Prop}
    (K : ∀ T' h' v L', Stand p l e R s m args below meth c T' (locs ++ L') (cells + rm.cells) (slots + rm.slots) → T'.heap = h' → Q v h' L' → own_G p e below (T'.setTop (mkF m (pc + 5) Ls (v.toList ++ rest))) P)
    (has : (.ref b :: argsL).toArray = as' := by rfl) (hs : Ls.size = k := by rfl) (hW : (rest.map fun v => v.category).sum ≤ W := by exact Nat.le_of_eq rfl) (hf : rm.frames + 1 ≤ R.frames := by decide) (hl : W + (maxL + 11) + rm.locals ≤ R.locals := by decide) (hc : cells + rm.cells ≤ R.cells := by decide) (hsl : slots + rm.slots ≤ R.slots := by decide) :
    own_G p e below (T.setTop (mkF m pc Ls (argsL.reverse ++ .ref b :: rest))) P := by
  obtain ⟨T', h', v, L', X', e', q, st⟩ := own_callI X hx hZ hown eT w1 w2 w7 h7 w3 w5 w8 w9 w10 w6 w4 hy E hM hf hl hc hsl (g := mkF m pc Ls (argsL.reverse ++ .ref b :: rest)) rfl (by rw [hml]; exact hs) has hlen rfl (by show 2 * 0 + _ ≤ _; omega) hd
  exact oS st (K T' h' v L' X' e' q)
theorem own_cP (X : Stand p l e R s m args below meth c T locs cells slots) (hx : p.tables.exec = Jvm.exec) (hZ : Z.Warmed39 s.vm) (hown : s.vm.findClass own = some m.cls) (eT : T.heap = h) {b : Addr} {C : String}
    (w1 : (Jvm.Cond.methodLink own index y).before a0 Z = true) (w5 : (Jvm.Cond.instanceMethod y).before a0 Z = true) (w3 : (Jvm.Cond.selects y.cls y y).before a0 Z = true) (w7 : (Jvm.Cond.privateMethod y).before a0 Z = true) (w6 : (Jvm.Cond.initialized y.cls).before a0 Z = true) (w4 : (Jvm.Cond.code y bytes maxL ret).before a0 Z = true) (hy : y.cls ≠ "java/lang/invoke/MethodHandle" ∧ y.cls ≠ "java/lang/invoke/VarHandle")
    (E : Exa Z h b C) (hM : own_Met l Z h y bytes maxL ret [] rm as' Q rm.cells rm.slots)
    (argsL rest : List Value) {k pc : Nat} {Ls : Array Slot} (hml : c.maxLocals = k) (hlen : ∀ sig, parseMethodDescriptor y.desc = some sig → argsL.length = sig.parameters.length) (hd : decode c.code pc = .ok (.invokevirtual index, 3)) {P : Outcome → State → Prop}
    (K : ∀ T' h' v L', Stand p l e R s m args below meth c T' (locs ++ L') (cells + rm.cells) (slots + rm.slots) → T'.heap = h' → Q v h' L' → own_G p e below (T'.setTop (mkF m (pc + 3) Ls (v.toList ++ rest))) P)
    (has : (.ref b :: argsL).toArray = as' := by rfl) (hs : Ls.size = k := by rfl) (hW : (rest.map fun v => v.category).sum ≤ W := by exact Nat.le_of_eq rfl) (hf : rm.frames + 1 ≤ R.frames := by decide) (hl : W + (maxL + 11) + rm.locals ≤ R.locals := by decide) (hc : cells + rm.cells ≤ R.cells := by decide) (hsl : slots + rm.slots ≤ R.slots := by decide) :
    own_G p e below (T.setTop (mkF m pc Ls (argsL.reverse ++ .ref b :: rest))) P := by
  obtain ⟨T', h', v, L', X', e', q, st⟩ := own_callP X hx hZ hown eT w1 w5 w3 w7 w6 w4 hy E hM hf hl hc hsl (g := mkF m pc Ls (argsL.reverse ++ .ref b :: rest)) rfl (by rw [hml]; exact hs) has hlen rfl (by show 2 * 0 + _ ≤ _; omega) hd
  exact oS st (K T' h' v L' X' e' q)
theorem own_cIU (X : Stand p l e R s m args below meth c T locs cells slots) (hx : p.tables.exec = Jvm.exec) (hZ : Z.Warmed39 s.vm) (hown : s.vm.findClass own = some m.cls) (eT : T.heap = h) {z : MethodName} {C J : String} {b : Addr} {count : Nat}
    (w1 : (Jvm.Cond.methodLink own index y).before a0 Z = true) (w2 : (Jvm.Cond.declares ⟨J, y.name, y.desc⟩).before a0 Z = true) (w7 : (Jvm.Cond.interfaceMethod y.cls J y.name y.desc).before a0 Z = true) (hxo : y.cls ≠ J) (hcl0 : y.name ≠ "clone") (w3 : (Jvm.Cond.selects C y z).before a0 Z = true) (w5 : (Jvm.Cond.instanceMethod z).before a0 Z = true) (w8 : (Jvm.Cond.publicMethod z).before a0 Z = true) (w9 : (Jvm.Cond.unhidden C y.name y.desc).before a0 Z = true) (w10 : (Jvm.Cond.castable C y.cls).before a0 Z = true) (w6 : (Jvm.Cond.initialized z.cls).before a0 Z = true) (w4 : (Jvm.Cond.code z bytes maxL ret).before a0 Z = true) (hy : y.cls ≠ "java/lang/invoke/MethodHandle" ∧ y.cls ≠ "java/lang/invoke/VarHandle")
    (E : Exa Z h b C) (hM : own_Met l Z h z bytes maxL ret [] rm as' Q rm.cells rm.slots)
    (argsL rest : List Value) {k pc : Nat} {Ls : Array Slot} (hml : c.maxLocals = k) (hlen : ∀ sig, parseMethodDescriptor y.desc = some sig → argsL.length = sig.parameters.length) (hd : decode c.code pc = .ok (.invokeinterface index count, 5)) {P : Outcome → State → Prop}
    (K : ∀ T' h' v L', Stand p l e R s m args below meth c T' (locs ++ L') (cells + rm.cells) (slots + rm.slots) → T'.heap = h' → Q v h' L' → own_G p e below (T'.setTop (mkF m (pc + 5) Ls (v.toList ++ rest))) P)
    (has : (.ref b :: argsL).toArray = as' := by rfl) (hs : Ls.size = k := by rfl) (hW : (rest.map fun v => v.category).sum ≤ W := by exact Nat.le_of_eq rfl) (hf : rm.frames + 1 ≤ R.frames := by decide) (hl : W + (maxL + 11) + rm.locals ≤ R.locals := by decide) (hc : cells + rm.cells ≤ R.cells := by decide) (hsl : slots + rm.slots ≤ R.slots := by decide) :
    own_G p e below (T.setTop (mkF m pc Ls (argsL.reverse ++ .ref b :: rest))) P := by
  obtain ⟨T', h', v, L', X', e', q, st⟩ := own_callIU X hx hZ hown eT w1 w2 w7 hxo hcl0 w3 w5 w8 w9 w10 w6 w4 hy E hM hf hl hc hsl (g := mkF m pc Ls (argsL.reverse ++ .ref b :: rest)) rfl (by rw [hml]; exact hs) has hlen rfl (by show 2 * 0 + _ ≤ _; omega) hd
  exact oS st (K T' h' v L' X' e' q)
theorem own_gF (X : Stand p l e R s m args below meth c T locs cells slots) (hx : p.tables.exec = Jvm.exec) (hZ : Z.Warmed39 s.vm) (hown : s.vm.findClass own = some m.cls) {O n d : String} (w : (Jvm.Cond.fieldLink own index O n d).before a0 Z = true) (eT : T.heap = h) {a : Addr} {v : Value} (F : Fld Z h a O n d v) {pc : Nat} {Ls : Array Slot} {rest : List Value} (hd : decode c.code pc = .ok (.getfield index, 3)) {P : Outcome → State → Prop}
    (K : ∀ T', Stand p l e R s m args below meth c T' locs cells slots → T'.heap = h → own_G p e below (T'.setTop (mkF m (pc + 3) Ls (v :: rest))) P) : own_G p e below (T.setTop (mkF m pc Ls (.ref a :: rest))) P := by
  obtain ⟨T', X', e', st⟩ := getF X hx hZ hown (host := "") (Or.inl w) Via.refl eT F (g := mkF m pc Ls (.ref a :: rest)) rfl rfl hd
  exact oS st (K T' X' e')
theorem own_pF (X : Stand p l e R s m args below meth c T locs cells slots) (hx : p.tables.exec = Jvm.exec) (hZ : Z.Warmed39 s.vm) (hown : s.vm.findClass own = some m.cls) {O n d C : String} {kk : Nat} {ty : FieldType} (w : (Jvm.Cond.fieldLink own index O n d).before a0 Z = true) (eT : T.heap = h) {a : Addr} {v old : Value} (F : Fld Z h a O n d old) (E : Exa Z h a C) (L : (Jvm.Cond.lays C O n d).before a0 Z = true ∨ ((Jvm.Cond.laysFinal C O n d).before a0 Z = true ∧ own = O ∧ meth.name = "<init>")) (wi : (Jvm.Cond.instantiable C kk).before a0 Z = true) (hn : narrow ty v = v) (hf : fits ty v = true)
    {pc : Nat} {Ls : Array Slot} {rest : List Value} (hd : decode c.code pc = .ok (.putfield index, 3)) {P : Outcome → State → Prop}
    (K : ∀ T' h', Stand p l e R s m args below meth c T' (locs ++ [⟨a, Jvm.RoadKit.slotOf Z O n d⟩]) cells slots → T'.heap = h' → Wr h h' a (Jvm.RoadKit.slotOf Z O n d) v → own_G p e below (T'.setTop (mkF m (pc + 3) Ls rest)) P) (hty : parseFieldDescriptor d = some ty := by decide) : own_G p e below (T.setTop (mkF m pc Ls (v :: .ref a :: rest))) P := by
  obtain ⟨T', h', X', e', W', st⟩ := putF X hx hZ hown (host := "") (Or.inl w) Via.refl eT F E L wi hty hn hf (g := mkF m pc Ls (v :: .ref a :: rest)) rfl rfl hd
  exact oS st (K T' h' X' e' W')
theorem own_cY (X : Stand p l e R s m args below meth c T locs cells slots) (hx : p.tables.exec = Jvm.exec) (hZ : Z.Warmed39 s.vm) (hown : s.vm.findClass own = some m.cls) {K0 : String} (w : (Jvm.Cond.classLink own index K0).before a0 Z = true) (eT : T.heap = h) {a : Addr} (F : Ins Z h a K0 true) {pc : Nat} {Ls : Array Slot} {rest : List Value} (hd : decode c.code pc = .ok (.checkcast index, 3)) {P : Outcome → State → Prop}
    (K : ∀ T', Stand p l e R s m args below meth c T' locs cells slots → T'.heap = h → own_G p e below (T'.setTop (mkF m (pc + 3) Ls (.ref a :: rest))) P) : own_G p e below (T.setTop (mkF m pc Ls (.ref a :: rest))) P := by
  obtain ⟨T', X', e', st⟩ := castY X hx hZ hown w eT F (g := mkF m pc Ls (.ref a :: rest)) rfl rfl hd
  exact oS st (K T' X' e')
variable {pc pc0 pc' : Nat} {Ls l' : Array Slot} {sk : List Value} {P : Outcome → State → Prop}
theorem oAN (X : Stand p l e R s m args below meth c T locs cells slots) (hx : p.tables.exec = Jvm.exec) (hby : c.code = bytes) {k : Fin 4} {v : Value} (hd : decode bytes pc = .ok (.aload_n k, 1)) (hl : Ls[k.val]? = some (.val v)) (hv : v.isRef = true) (K : own_G p e below (T.setTop (mkF m (pc + 1) Ls (v :: sk))) P) : own_G p e below (T.setTop (mkF m pc Ls (sk))) P := oS (fun _ => XS.aloadN X.here hx rfl (hb hby hd) hl hv) K
theorem oAL (X : Stand p l e R s m args below meth c T locs cells slots) (hx : p.tables.exec = Jvm.exec) (hby : c.code = bytes) {k : Nat} {v : Value} (hd : decode bytes pc = .ok (.aload k, 2)) (hl : Ls[k]? = some (.val v)) (hv : v.isRef = true) (K : own_G p e below (T.setTop (mkF m (pc + 2) Ls (v :: sk))) P) : own_G p e below (T.setTop (mkF m pc Ls (sk))) P := oS (fun _ => XS.aload X.here hx rfl (hb hby hd) hl hv) K
theorem oIN (X : Stand p l e R s m args below meth c T locs cells slots) (hx : p.tables.exec = Jvm.exec) (hby : c.code = bytes) {k : Fin 4} {v : Int32} (hd : decode bytes pc = .ok (.iload_n k, 1)) (hl : Ls[k.val]? = some (.val (.int v))) (K : own_G p e below (T.setTop (mkF m (pc + 1) Ls (.int v :: sk))) P) : own_G p e below (T.setTop (mkF m pc Ls (sk))) P := oS (fun _ => XS.iloadN X.here hx rfl (hb hby hd) hl) K
theorem oIL (X : Stand p l e R s m args below meth c T locs cells slots) (hx : p.tables.exec = Jvm.exec) (hby : c.code = bytes) {k : Nat} {v : Int32} (hd : decode bytes pc = .ok (.iload k, 2)) (hl : Ls[k]? = some (.val (.int v))) (K : own_G p e below (T.setTop (mkF m (pc + 2) Ls (.int v :: sk))) P) : own_G p e below (T.setTop (mkF m pc Ls (sk))) P := oS (fun _ => XS.iload X.here hx rfl (hb hby hd) hl) K
theorem oIC (X : Stand p l e R s m args below meth c T locs cells slots) (hx : p.tables.exec = Jvm.exec) (hby : c.code = bytes) {i : Int} (hd : decode bytes pc = .ok (.iconst i, 1)) (K : own_G p e below (T.setTop (mkF m (pc + 1) Ls (.int (Int32.ofInt i) :: sk))) P) : own_G p e below (T.setTop (mkF m pc Ls (sk))) P := oS (fun _ => XS.iconst X.here hx rfl (hb hby hd) ) K
theorem oIS (X : Stand p l e R s m args below meth c T locs cells slots) (hx : p.tables.exec = Jvm.exec) (hby : c.code = bytes) {k : Nat} {x : Int32} (hd : decode bytes pc = .ok (.istore k, 2)) (hl : storeLocals Ls k (.int x) = some l') (K : own_G p e below (T.setTop (mkF m (pc + 2) l' (sk))) P) : own_G p e below (T.setTop (mkF m pc Ls (.int x :: sk))) P := oS (fun _ => XS.istore X.here hx rfl (hb hby hd) rfl hl) K
theorem oISN (X : Stand p l e R s m args below meth c T locs cells slots) (hx : p.tables.exec = Jvm.exec) (hby : c.code = bytes) {k : Fin 4} {x : Int32} (hd : decode bytes pc = .ok (.istore_n k, 1)) (hl : storeLocals Ls k.val (.int x) = some l') (K : own_G p e below (T.setTop (mkF m (pc + 1) l' (sk))) P) : own_G p e below (T.setTop (mkF m pc Ls (.int x :: sk))) P := oS (fun _ => XS.istoreN X.here hx rfl (hb hby hd) rfl hl) K
theorem oAS (X : Stand p l e R s m args below meth c T locs cells slots) (hx : p.tables.exec = Jvm.exec) (hby : c.code = bytes) {k : Nat} {x : Value} (hd : decode bytes pc = .ok (.astore k, 2)) (hv : x.isRef = true) (hl : storeLocals Ls k x = some l') (K : own_G p e below (T.setTop (mkF m (pc + 2) l' (sk))) P) : own_G p e below (T.setTop (mkF m pc Ls (x :: sk))) P := oS (fun _ => XS.astore X.here hx rfl (hb hby hd) rfl hv hl) K
theorem oASN (X : Stand p l e R s m args below meth c T locs cells slots) (hx : p.tables.exec = Jvm.exec) (hby : c.code = bytes) {k : Fin 4} {x : Value} (hd : decode bytes pc = .ok (.astore_n k, 1)) (hv : x.isRef = true) (hl : storeLocals Ls k.val x = some l') (K : own_G p e below (T.setTop (mkF m (pc + 1) l' (sk))) P) : own_G p e below (T.setTop (mkF m pc Ls (x :: sk))) P := oS (fun _ => XS.astoreN X.here hx rfl (hb hby hd) rfl hv hl) K
theorem oNI (X : Stand p l e R s m args below meth c T locs cells slots) (hx : p.tables.exec = Jvm.exec) (hby : c.code = bytes) {cd : ClassFile.Cond} {o : Int} {x y : Int32} (hd : decode bytes pc = .ok (.if_icmp cd o, 3)) (hc : if_icmp.holds cd x y = false) (K : own_G p e below (T.setTop (mkF m (pc + 3) Ls (sk))) P) : own_G p e below (T.setTop (mkF m pc Ls (.int y :: .int x :: sk))) P := oS (fun _ => XS.icmpNo X.here hx rfl (hb hby hd) rfl hc) K
theorem oN0 (X : Stand p l e R s m args below meth c T locs cells slots) (hx : p.tables.exec = Jvm.exec) (hby : c.code = bytes) {cd : ClassFile.Cond} {o : Int} {x : Int32} (hd : decode bytes pc = .ok (.ifCond cd o, 3)) (hc : ifCond.holds cd x = false) (K : own_G p e below (T.setTop (mkF m (pc + 3) Ls (sk))) P) : own_G p e below (T.setTop (mkF m pc Ls (.int x :: sk))) P := oS (fun _ => XS.ifNo X.here hx rfl (hb hby hd) rfl hc) K
theorem oYI (X : Stand p l e R s m args below meth c T locs cells slots) (hx : p.tables.exec = Jvm.exec) (hby : c.code = bytes) {cd : ClassFile.Cond} {o : Int} {x y : Int32} (hd : decode bytes pc0 = .ok (.if_icmp cd o, 3)) (hc : if_icmp.holds cd x y = true) (K : own_G p e below (T.setTop (mkF m pc' Ls sk)) P) (hpc : pc = pc0 := by rfl) (ho : 0 ≤ (pc0 : Int) + o := by decide) (hp : ((pc0 : Int) + o).toNat = pc' := by decide) : own_G p e below (T.setTop (mkF m pc Ls (.int y :: .int x :: sk))) P := oS (fun _ => XS.icmpYes X.here hx rfl hpc (by subst hpc; exact hb hby hd) rfl hc ho hp) K
theorem oY0 (X : Stand p l e R s m args below meth c T locs cells slots) (hx : p.tables.exec = Jvm.exec) (hby : c.code = bytes) {cd : ClassFile.Cond} {o : Int} {x : Int32} (hd : decode bytes pc0 = .ok (.ifCond cd o, 3)) (hc : ifCond.holds cd x = true) (K : own_G p e below (T.setTop (mkF m pc' Ls sk)) P) (hpc : pc = pc0 := by rfl) (ho : 0 ≤ (pc0 : Int) + o := by decide) (hp : ((pc0 : Int) + o).toNat = pc' := by decide) : own_G p e below (T.setTop (mkF m pc Ls (.int x :: sk))) P := oS (fun _ => XS.ifYes X.here hx rfl hpc (by subst hpc; exact hb hby hd) rfl hc ho hp) K
theorem oGO (X : Stand p l e R s m args below meth c T locs cells slots) (hx : p.tables.exec = Jvm.exec) (hby : c.code = bytes) {o : Int} (hd : decode bytes pc0 = .ok (.goto o, 3)) (K : own_G p e below (T.setTop (mkF m pc' Ls sk)) P) (hpc : pc = pc0 := by rfl) (ho : 0 ≤ (pc0 : Int) + o := by decide) (hp : ((pc0 : Int) + o).toNat = pc' := by decide) : own_G p e below (T.setTop (mkF m pc Ls (sk))) P := oS (fun _ => XS.goto X.here hx rfl hpc (by subst hpc; exact hb hby hd)  ho hp) K
end OwnBrief
theorem own_bm32 {n : Int} (h1 : -2147483648 ≤ n) (h2 : n < 2147483648) : n.bmod (2 ^ 32) = n := Int.bmod_eq_of_le (by omega) (by omega)
theorem own_modlt (x : Int32) (n : Int32) (hn : 0 < n.toInt) : 0 ≤ ((x &&& 2147483647) % n).toInt ∧ ((x &&& 2147483647) % n).toInt < n.toInt := by
  have e := Jvm.Kit.i32_mask x 2147483647 (k := 31) (by decide) (by decide)
  rw [Int32.toInt_mod, e]
  have h0 : 0 ≤ x.toInt % 2 ^ 31 := Int.emod_nonneg _ (by decide)
  rw [Int.tmod_eq_emod_of_nonneg h0]
  exact ⟨Int.emod_nonneg _ (by omega), Int.emod_lt_of_pos _ hn⟩
theorem own_i32 {x : Int32} {k : Int32} (h : x.toInt = k.toInt) : x = k := Int32.toInt_inj.mp h
theorem own_in2 {x : Int32} (h : 0 ≤ x.toInt ∧ x.toInt < 2) : x = 0 ∨ x = 1 := by
  rcases (by omega : x.toInt = 0 ∨ x.toInt = 1) with q | q
  · exact .inl (own_i32 (k := 0) q)
  · exact .inr (own_i32 (k := 1) q)
theorem own_in3 {x : Int32} (h : 0 ≤ x.toInt ∧ x.toInt < 3) : x = 0 ∨ x = 1 ∨ x = 2 := by
  rcases (by omega : x.toInt = 0 ∨ x.toInt = 1 ∨ x.toInt = 2) with q | q | q
  · exact .inl (own_i32 (k := 0) q)
  · exact .inr (.inl (own_i32 (k := 1) q))
  · exact .inr (.inr (own_i32 (k := 2) q))
theorem own_in4 {x : Int32} (h : 0 ≤ x.toInt ∧ x.toInt < 4) : x = 0 ∨ x = 1 ∨ x = 2 ∨ x = 3 := by
  rcases (by omega : x.toInt = 0 ∨ x.toInt = 1 ∨ x.toInt = 2 ∨ x.toInt = 3) with q | q | q | q
  · exact .inl (own_i32 (k := 0) q)
  · exact .inr (.inl (own_i32 (k := 1) q))
  · exact .inr (.inr (.inl (own_i32 (k := 2) q)))
  · exact .inr (.inr (.inr (own_i32 (k := 3) q)))
theorem own_in5 {x : Int32} (h : 0 ≤ x.toInt ∧ x.toInt < 5) : x = 0 ∨ x = 1 ∨ x = 2 ∨ x = 3 ∨ x = 4 := by
  rcases (by omega : x.toInt = 0 ∨ x.toInt = 1 ∨ x.toInt = 2 ∨ x.toInt = 3 ∨ x.toInt = 4) with q | q | q | q | q
  · exact .inl (own_i32 (k := 0) q)
  · exact .inr (.inl (own_i32 (k := 1) q))
  · exact .inr (.inr (.inl (own_i32 (k := 2) q)))
  · exact .inr (.inr (.inr (.inl (own_i32 (k := 3) q))))
  · exact .inr (.inr (.inr (.inr (own_i32 (k := 4) q))))
theorem own_in6 {x : Int32} (h : 0 ≤ x.toInt ∧ x.toInt < 6) : x = 0 ∨ x = 1 ∨ x = 2 ∨ x = 3 ∨ x = 4 ∨ x = 5 := by
  rcases (by omega : x.toInt = 0 ∨ x.toInt = 1 ∨ x.toInt = 2 ∨ x.toInt = 3 ∨ x.toInt = 4 ∨ x.toInt = 5) with q | q | q | q | q | q
  · exact .inl (own_i32 (k := 0) q)
  · exact .inr (.inl (own_i32 (k := 1) q))
  · exact .inr (.inr (.inl (own_i32 (k := 2) q)))
  · exact .inr (.inr (.inr (.inl (own_i32 (k := 3) q))))
  · exact .inr (.inr (.inr (.inr (.inl (own_i32 (k := 4) q)))))
  · exact .inr (.inr (.inr (.inr (.inr (own_i32 (k := 5) q)))))
theorem own_in7 {x : Int32} (h : 0 ≤ x.toInt ∧ x.toInt < 7) : x = 0 ∨ x = 1 ∨ x = 2 ∨ x = 3 ∨ x = 4 ∨ x = 5 ∨ x = 6 := by
  rcases (by omega : x.toInt = 0 ∨ x.toInt = 1 ∨ x.toInt = 2 ∨ x.toInt = 3 ∨ x.toInt = 4 ∨ x.toInt = 5 ∨ x.toInt = 6) with q | q | q | q | q | q | q
  · exact .inl (own_i32 (k := 0) q)
  · exact .inr (.inl (own_i32 (k := 1) q))
  · exact .inr (.inr (.inl (own_i32 (k := 2) q)))
  · exact .inr (.inr (.inr (.inl (own_i32 (k := 3) q))))
  · exact .inr (.inr (.inr (.inr (.inl (own_i32 (k := 4) q)))))
  · exact .inr (.inr (.inr (.inr (.inr (.inl (own_i32 (k := 5) q))))))
  · exact .inr (.inr (.inr (.inr (.inr (.inr (own_i32 (k := 6) q))))))
theorem own_mk3 (x : Int32) : (x &&& 255).toUInt32.toUInt16.toUInt32.toInt32 = x &&& 255 := by
  have e := Jvm.Kit.i32_mask x 255 (k := 8) (by decide) (by decide)
  apply Int32.toInt_inj.mp
  have h1 : ((x &&& 255).toUInt32.toUInt16.toUInt32.toInt32).toInt = ((x &&& 255).toBitVec.toNat % 65536 : Nat) := by
    have hm : ((x &&& 255).toUInt32.toUInt16.toUInt32.toInt32).toBitVec.toNat = (x &&& 255).toBitVec.toNat % 65536 := by
      simp only [Int32.toBitVec_and, UInt32.toBitVec_toInt32] at *
      simp
      rw [show (255 : Nat) = 2 ^ 8 - 1 from rfl, Nat.and_two_pow_sub_one_eq_mod, Nat.and_two_pow_sub_one_eq_mod]; omega
    show ((x &&& 255).toUInt32.toUInt16.toUInt32.toInt32).toBitVec.toInt = _
    rw [BitVec.toInt_eq_toNat_cond, hm, if_pos (by omega)]
  have h2 : (x &&& 255).toBitVec.toInt = (x &&& 255).toInt := rfl
  have h3 : ((x &&& 255).toBitVec.toNat : Int) = (x &&& 255).toInt := by
    rw [← h2, BitVec.toInt_eq_toNat_cond]
    have : (x &&& 255).toBitVec.toInt = x.toInt % 2 ^ 8 := e
    rw [BitVec.toInt_eq_toNat_cond] at this
    split
    · rfl
    · rename_i hc; rw [if_neg hc] at this; have := (x &&& 255).toBitVec.isLt; omega
  rw [h1]; omega
theorem own_mk1 (x : Int32) : ¬ (255 < (x &&& 255)) := by
  have e := Jvm.Kit.i32_mask x 255 (k := 8) (by decide) (by decide)
  rw [Int32.lt_iff_toInt_lt, e]
  have e1 : (255 : Int32).toInt = 255 := rfl
  omega
theorem own_mk0 (x : Int32) : ¬ ((x &&& 255) < 0) := by
  have e := Jvm.Kit.i32_mask x 255 (k := 8) (by decide) (by decide)
  rw [Int32.lt_iff_toInt_lt, e]
  have e1 : (0 : Int32).toInt = 0 := rfl
  omega
theorem own_mk2 (x : Int32) : nar .char (x &&& 255) = x &&& 255 := own_mk3 x
theorem own_chr (x : Int32) : ∃ z : Int32, z = (x &&& 255).toUInt32.toUInt16.toUInt32.toInt32 ∧ ¬ (z < 0) ∧ ¬ (255 < z) ∧ nar .char z = z := by
  refine ⟨_, rfl, ?_, ?_, own_narC _⟩
  · rw [own_mk3]; exact own_mk0 x
  · rw [own_mk3]; exact own_mk1 x
theorem own_nm (x n : Int32) (hn : 0 < n.toInt) : ∃ z : Int32, z = (x &&& 2147483647) % n ∧ 0 ≤ z.toInt ∧ z.toInt < n.toInt := ⟨_, rfl, own_modlt x n hn⟩
theorem own_nq (x n : Int32) (hn : 0 < n.toInt) : ∃ z : Int32, z = (x &&& 127) % n ∧ 0 ≤ z.toInt ∧ z.toInt < n.toInt := by
  refine ⟨_, rfl, ?_⟩
  have e := Jvm.Kit.i32_mask x 127 (k := 7) (by decide) (by decide)
  rw [Int32.toInt_mod, e]
  have h0 : 0 ≤ x.toInt % 2 ^ 7 := Int.emod_nonneg _ (by decide)
  rw [Int.tmod_eq_emod_of_nonneg h0]
  exact ⟨Int.emod_nonneg _ (by omega), Int.emod_lt_of_pos _ hn⟩
theorem own_b2c {x y : Int32} (hx1 : ¬ (x < 0)) (hx2 : ¬ (255 < x)) (hy1 : ¬ (y < 0)) (hy2 : ¬ (255 < y)) (h : x.toInt8.toInt32 = y.toInt8.toInt32) : x = y := by
  have cx := c_i2b x
  have cy := c_i2b y
  rw [h] at cx
  rw [Int32.lt_iff_toInt_lt] at hx1 hx2 hy1 hy2
  have e0 : (0 : Int32).toInt = 0 := rfl
  have e1 : (255 : Int32).toInt = 255 := rfl
  apply Int32.toInt_inj.mp
  omega
theorem own_narS (x : Int32) : nar .short (x.toInt16.toInt32) = x.toInt16.toInt32 := by
  show (x.toInt16.toInt32).toInt16.toInt32 = _
  rw [Int16.toInt16_toInt32]
theorem own_sht (x : Int32) : ∃ z : Int32, z = x.toInt16.toInt32 ∧ nar .short z = z := ⟨_, rfl, own_narS x⟩
theorem own_fnS {x : Int32} (h : nar .short x = x) : narrow .short (.int x) = .int x := congrArg Value.int h
theorem own_fiS {x : Int32} (h : nar .short x = x) : fits .short (.int x) = true := by rw [← h]; exact fits_nar_short x
theorem own_p1 (x : Int32) : ¬ (x + 1 = x) := fun h => by
  have e : x.toBitVec + 1#32 = x.toBitVec := congrArg Int32.toBitVec h
  have := congrArg BitVec.toNat e
  simp only [BitVec.toNat_add, BitVec.toNat_ofNat] at this
  have hx := x.toBitVec.isLt
  omega
theorem own_xs {x : Int32} (h : nar .short x = x) : ¬ ((x ^^^ 1).toInt16.toInt32 = x) := fun q => by
  have e : ((x ^^^ 1).toInt16.toInt32).toInt16 = x.toInt16 := by rw [q]
  rw [Int16.toInt16_toInt32] at e
  have e2 := congrArg Int16.toBitVec e
  simp at e2
  have e3 := congrArg (fun b => BitVec.getLsbD b 0) e2
  generalize BitVec.signExtend 16 x.toBitVec = y at e3
  simp at e3
theorem own_e0 {f v a : Int32} (h : (f = 1 ∧ v = a) ∨ (f = 0 ∧ ¬ (v = a))) (q : ¬ (f = 0)) : v = a := h.elim (fun z => z.2) (fun z => absurd z.1 q)
theorem own_en {f v a : Int32} (h : (f = 1 ∧ v = a) ∨ (f = 0 ∧ ¬ (v = a))) (q : f = 0) (w : v = a) : False := h.elim (fun z => absurd (q.symm.trans z.1) (by decide)) (fun z => z.2 w)
theorem own_x0 {x : Int32} {P : Prop} (h : (x = 1 ∧ P) ∨ (x = 0 ∧ ¬ P)) (q : ¬ P) : x = 0 := h.elim (fun z => absurd z.2 q) (fun z => z.1)
theorem own_x1 {x : Int32} {P : Prop} (h : (x = 1 ∧ P) ∨ (x = 0 ∧ ¬ P)) (q : P) : x = 1 := h.elim (fun z => z.1) (fun z => absurd q z.2)
theorem own_ne01 {x : Int32} {a b : Int32} (h : x = a) (q : x = b) (w : a ≠ b := by decide) : False := w (h.symm.trans q)
theorem own_nm0 (x : Int32) : ∃ z : Int32, z = x := ⟨_, rfl⟩
theorem own_six {a b c : Int32} (h : (a = 0 ∧ b = 1 ∧ c = 0) ∨ (a = 0 ∧ b = 0 ∧ c = 1) ∨ (a = 1 ∧ b = 1 ∧ c = 1) ∨ (a = 1 ∧ b = 0 ∧ c = 2) ∨ (a = 2 ∧ b = 1 ∧ c = 2) ∨ (a = 2 ∧ b = 0 ∧ c = 0)) :
    (a = 0 ∧ ((b = 1 ∧ c = 0) ∨ (b = 0 ∧ c = 1))) ∨ (a = 1 ∧ ((b = 1 ∧ c = 1) ∨ (b = 0 ∧ c = 2))) ∨ (a = 2 ∧ ((b = 1 ∧ c = 2) ∨ (b = 0 ∧ c = 0))) := by
  rcases h with ⟨h1, h2⟩ | ⟨h1, h2⟩ | ⟨h1, h2⟩ | ⟨h1, h2⟩ | ⟨h1, h2⟩ | ⟨h1, h2⟩
  · exact .inl ⟨h1, .inl h2⟩
  · exact .inl ⟨h1, .inr h2⟩
  · exact .inr (.inl ⟨h1, .inl h2⟩)
  · exact .inr (.inl ⟨h1, .inr h2⟩)
  · exact .inr (.inr ⟨h1, .inl h2⟩)
  · exact .inr (.inr ⟨h1, .inr h2⟩)
set_option maxRecDepth 65536
set_option maxHeartbeats 40000000
abbrev B0 := jdk_42_method_139_code
abbrev B1 := jdk_43_method_3_code
abbrev B2 := jdk_43_method_46_code
abbrev B3 := jdk_42_method_151_code
abbrev B4 := prog_3_method_2_code
abbrev B5 := jdk_40_method_36_code
abbrev B6 := prog_3_method_1_code
abbrev B7 := jdk_31_method_4_code
abbrev B8 := jdk_42_method_78_code
abbrev B9 := jdk_42_method_154_code
abbrev B00 := jdk_43_method_21_code
abbrev B01 := jdk_46_method_10_code
abbrev B02 := jdk_45_method_3_code
abbrev B03 := jdk_53_method_1_code
abbrev B04 := jdk_53_method_3_code
abbrev B05 := jdk_38_method_2_code
abbrev B06 := jdk_39_method_1_code
abbrev B07 := jdk_22_method_1_code
abbrev B08 := prog_3_method_3_code
abbrev B09 := jdk_79_method_35_code
abbrev B0a := jdk_121_method_1_code
abbrev B0b := jdk_120_method_1_code
abbrev B0c := jdk_119_method_1_code
abbrev B0d := jdk_119_method_9_code
abbrev B0e := jdk_135_method_1_code
abbrev B0f := jdk_38_method_55_code
abbrev B0g := jdk_49_method_1_code
abbrev B0h := jdk_135_method_2_code
abbrev B0i := jdk_49_method_2_code
abbrev B0j := prog_3_method_8_code
abbrev B0k := prog_3_method_4_code
abbrev B0l := prog_3_method_5_code
abbrev B0m := prog_3_method_6_code
abbrev B0n := prog_3_method_7_code
abbrev B0o := jdk_119_method_2_code
abbrev B0p := jdk_38_method_8_code
abbrev B0q := prog_3_method_9_code
abbrev B0r := jdk_21_method_3_code
abbrev B0s := jdk_21_method_34_code
abbrev B0t := jdk_21_method_12_code
abbrev B0u := jdk_21_method_7_code
abbrev B0v := jdk_21_method_38_code
abbrev B0w := jdk_21_method_35_code
abbrev B0x := jdk_21_method_18_code
abbrev B0y := jdk_21_method_20_code
abbrev B0z := jdk_21_method_10_code
abbrev B0A := jdk_21_method_6_code
abbrev B0B := prog_3_method_10_code
abbrev B0C := jdk_31_method_2_code
abbrev B0D := prog_3_method_11_code
abbrev B0E := jdk_38_method_25_code
abbrev B0F := jdk_38_method_24_code
abbrev B0G := jdk_38_method_7_code
abbrev B0H := jdk_38_method_6_code
abbrev B0I := jdk_29_method_65_code
abbrev B0J := jdk_135_method_3_code
abbrev B0K := jdk_49_method_3_code
abbrev B0L := jdk_49_method_6_code
abbrev B0M := jdk_120_method_4_code
abbrev B0N := jdk_38_method_20_code
abbrev B0O := jdk_31_method_17_code
abbrev B0P := jdk_41_method_11_code
abbrev B0Q := jdk_38_method_18_code
abbrev mN0 : MethodName := ⟨"java/lang/StringLatin1", "canEncode", "(C)Z"⟩
abbrev mN1 : MethodName := ⟨"java/lang/StringLatin1", "toBytes", "(C)[B"⟩
abbrev mN2 : MethodName := ⟨"java/lang/String", "<init>", "([BB)V"⟩
abbrev mN3 : MethodName := ⟨"java/lang/String", "valueOf", "(C)Ljava/lang/String;"⟩
abbrev mN4 : MethodName := ⟨"java/util/List", "of", "()Ljava/util/List;"⟩
abbrev mN5 : MethodName := ⟨"java/lang/String", "isLatin1", "()Z"⟩
abbrev mN6 : MethodName := ⟨"java/lang/StringLatin1", "hashCode", "([B)I"⟩
abbrev mN7 : MethodName := ⟨"java/lang/String", "hashCode", "()I"⟩
abbrev mN8 : MethodName := ⟨"java/util/Objects", "hashCode", "(Ljava/lang/Object;)I"⟩
abbrev mN9 : MethodName := ⟨"java/lang/Object", "hashCode", "()I"⟩
abbrev mN10 : MethodName := ⟨"java/util/ImmutableCollections$ListN", "size", "()I"⟩
abbrev mN11 : MethodName := ⟨"java/util/ImmutableCollections$ListItr", "<init>", "(Ljava/util/List;I)V"⟩
abbrev mN12 : MethodName := ⟨"java/util/ImmutableCollections$AbstractImmutableList", "iterator", "()Ljava/util/Iterator;"⟩
abbrev mN13 : MethodName := ⟨"java/util/ImmutableCollections$AbstractImmutableList", "size", "()I"⟩
abbrev mN14 : MethodName := ⟨"java/util/ImmutableCollections$ListItr", "hasNext", "()Z"⟩
abbrev mN15 : MethodName := ⟨"com/example/doctype_in_dom/doctypeindom/definitions/ContentParticleImpl", "<init>", "(SLjava/lang/String;IILjava/util/List;)V"⟩
abbrev mN16 : MethodName := ⟨"java/util/List", "iterator", "()Ljava/util/Iterator;"⟩
abbrev mN17 : MethodName := ⟨"java/util/Iterator", "hasNext", "()Z"⟩
abbrev mN18 : MethodName := ⟨"com/example/doctype_in_dom/doctypeindom/definitions/ContentParticleImpl", "name", "(Ljava/lang/String;II)Lcom/example/doctype_in_dom/doctypeindom/definitions/ContentParticleImpl;"⟩
abbrev mN19 : MethodName := ⟨"java/util/AbstractCollection", "<init>", "()V"⟩
abbrev mN20 : MethodName := ⟨"java/util/AbstractList", "<init>", "()V"⟩
abbrev mN21 : MethodName := ⟨"java/util/ArrayList", "<init>", "()V"⟩
abbrev mN22 : MethodName := ⟨"java/util/Collections$UnmodifiableCollection", "<init>", "(Ljava/util/Collection;)V"⟩
abbrev mN23 : MethodName := ⟨"java/util/Collections$UnmodifiableList", "<init>", "(Ljava/util/List;)V"⟩
abbrev mN24 : MethodName := ⟨"java/util/Collections$UnmodifiableRandomAccessList", "<init>", "(Ljava/util/List;)V"⟩
abbrev mN25 : MethodName := ⟨"java/util/Collections", "unmodifiableList", "(Ljava/util/List;)Ljava/util/List;"⟩
abbrev mN26 : MethodName := ⟨"java/util/List", "getClass", "()Ljava/lang/Class;"⟩
abbrev mN27 : MethodName := ⟨"java/util/ArrayList$Itr", "<init>", "(Ljava/util/ArrayList;)V"⟩
abbrev mN28 : MethodName := ⟨"java/util/ArrayList", "iterator", "()Ljava/util/Iterator;"⟩
abbrev mN29 : MethodName := ⟨"java/util/Collections$UnmodifiableCollection$1", "<init>", "(Ljava/util/Collections$UnmodifiableCollection;)V"⟩
abbrev mN30 : MethodName := ⟨"java/util/Collection", "iterator", "()Ljava/util/Iterator;"⟩
abbrev mN31 : MethodName := ⟨"java/util/Collections$UnmodifiableCollection", "iterator", "()Ljava/util/Iterator;"⟩
abbrev mN32 : MethodName := ⟨"java/util/ArrayList$Itr", "hasNext", "()Z"⟩
abbrev mN33 : MethodName := ⟨"java/util/Collections$UnmodifiableCollection$1", "hasNext", "()Z"⟩
abbrev mN34 : MethodName := ⟨"com/example/doctype_in_dom/doctypeindom/definitions/ContentParticleImpl", "group", "(SLjava/util/List;II)Lcom/example/doctype_in_dom/doctypeindom/definitions/ContentParticleImpl;"⟩
abbrev mN35 : MethodName := ⟨"com/example/doctype_in_dom/doctypeindom/definitions/ContentParticleImpl", "getParticles", "()Ljava/util/List;"⟩
abbrev mN36 : MethodName := ⟨"com/example/doctype_in_dom/doctypeindom/definitions/ContentParticleImpl", "getParticleType", "()S"⟩
abbrev mN37 : MethodName := ⟨"com/example/doctype_in_dom/doctypeindom/definitions/ContentParticleImpl", "getName", "()Ljava/lang/String;"⟩
abbrev mN38 : MethodName := ⟨"com/example/doctype_in_dom/doctypeindom/definitions/ContentParticleImpl", "getMinOccurs", "()I"⟩
abbrev mN39 : MethodName := ⟨"com/example/doctype_in_dom/doctypeindom/definitions/ContentParticleImpl", "getMaxOccurs", "()I"⟩
abbrev mN40 : MethodName := ⟨"java/util/ArrayList", "size", "()I"⟩
abbrev mN41 : MethodName := ⟨"java/util/Collections$UnmodifiableCollection", "size", "()I"⟩
abbrev mN42 : MethodName := ⟨"java/util/Collection", "size", "()I"⟩
abbrev mN43 : MethodName := ⟨"java/util/ArrayDeque", "<init>", "()V"⟩
abbrev mN44 : MethodName := ⟨"java/util/ArrayDeque", "dec", "(II)I"⟩
abbrev mN45 : MethodName := ⟨"java/util/ArrayDeque", "addFirst", "(Ljava/lang/Object;)V"⟩
abbrev mN46 : MethodName := ⟨"java/util/ArrayDeque", "push", "(Ljava/lang/Object;)V"⟩
abbrev mN47 : MethodName := ⟨"java/util/ArrayDeque", "isEmpty", "()Z"⟩
abbrev mN48 : MethodName := ⟨"java/util/ArrayDeque", "elementAt", "([Ljava/lang/Object;I)Ljava/lang/Object;"⟩
abbrev mN49 : MethodName := ⟨"java/util/ArrayDeque", "inc", "(II)I"⟩
abbrev mN50 : MethodName := ⟨"java/util/ArrayDeque", "pollFirst", "()Ljava/lang/Object;"⟩
abbrev mN51 : MethodName := ⟨"java/util/ArrayDeque", "removeFirst", "()Ljava/lang/Object;"⟩
abbrev mN52 : MethodName := ⟨"java/util/ArrayDeque", "pop", "()Ljava/lang/Object;"⟩
abbrev mN53 : MethodName := ⟨"java/util/Objects", "equals", "(Ljava/lang/Object;Ljava/lang/Object;)Z"⟩
abbrev mN54 : MethodName := ⟨"com/example/doctype_in_dom/doctypeindom/definitions/ContentParticleImpl", "equalsApartFromMembers", "(Lcom/example/doctype_in_dom/doctypeindom/definitions/ContentParticleImpl;)Z"⟩
abbrev mN55 : MethodName := ⟨"java/util/List", "size", "()I"⟩
abbrev mN56 : MethodName := ⟨"com/example/doctype_in_dom/doctypeindom/definitions/ContentParticleImpl", "equals", "(Ljava/lang/Object;)Z"⟩
abbrev mN57 : MethodName := ⟨"java/util/Deque", "push", "(Ljava/lang/Object;)V"⟩
abbrev mN58 : MethodName := ⟨"java/util/Deque", "isEmpty", "()Z"⟩
abbrev mN59 : MethodName := ⟨"java/util/Deque", "pop", "()Ljava/lang/Object;"⟩
abbrev mN60 : MethodName := ⟨"com/example/doctype_in_dom/doctypeindom/definitions/ContentParticleImpl", "hashCode", "()I"⟩
abbrev mN61 : MethodName := ⟨"java/lang/Math", "max", "(II)I"⟩
abbrev mN62 : MethodName := ⟨"java/util/ArrayList", "grow", "(I)[Ljava/lang/Object;"⟩
abbrev mN63 : MethodName := ⟨"java/util/ArrayList", "grow", "()[Ljava/lang/Object;"⟩
abbrev mN64 : MethodName := ⟨"java/util/ArrayList", "add", "(Ljava/lang/Object;[Ljava/lang/Object;I)V"⟩
abbrev mN65 : MethodName := ⟨"java/util/ArrayList", "add", "(Ljava/lang/Object;)Z"⟩
abbrev mN66 : MethodName := ⟨"java/util/ArrayList$Itr", "checkForComodification", "()V"⟩
abbrev mN67 : MethodName := ⟨"java/util/ArrayList$Itr", "next", "()Ljava/lang/Object;"⟩
abbrev mN68 : MethodName := ⟨"java/util/Collections$UnmodifiableCollection$1", "next", "()Ljava/lang/Object;"⟩
abbrev mN69 : MethodName := ⟨"java/util/Iterator", "next", "()Ljava/lang/Object;"⟩
abbrev mN70 : MethodName := ⟨"com/example/doctype_in_dom/doctypeindom/definitions/ContentParticle", "hashCode", "()I"⟩
abbrev mN71 : MethodName := ⟨"jdk/internal/util/Preconditions", "checkIndex", "(IILjava/util/function/BiFunction;)I"⟩
abbrev mN72 : MethodName := ⟨"java/util/Objects", "checkIndex", "(II)I"⟩
abbrev mN73 : MethodName := ⟨"java/util/ArrayList", "elementData", "(I)Ljava/lang/Object;"⟩
abbrev mN74 : MethodName := ⟨"java/util/ArrayList", "get", "(I)Ljava/lang/Object;"⟩
abbrev mN75 : MethodName := ⟨"java/util/Collections$UnmodifiableList", "get", "(I)Ljava/lang/Object;"⟩
abbrev mN76 : MethodName := ⟨"java/util/List", "get", "(I)Ljava/lang/Object;"⟩
abbrev mN77 : MethodName := ⟨"java/util/List", "add", "(Ljava/lang/Object;)Z"⟩
abbrev cN0 : String := "java/lang/String"
abbrev cN1 : String := "java/lang/Object"
abbrev cN2 : String := "java/util/ImmutableCollections$ListN"
abbrev cN3 : String := "[Ljava/lang/Object;"
abbrev cN4 : String := "java/util/ImmutableCollections$ListItr"
abbrev cN5 : String := "Ljava/util/List;"
abbrev cN6 : String := "java/util/Iterator"
abbrev cN7 : String := "com/example/doctype_in_dom/doctypeindom/definitions/ContentParticleImpl"
abbrev cN8 : String := "Ljava/lang/String;"
abbrev cN9 : String := "java/util/AbstractList"
abbrev cN10 : String := "java/util/ArrayList"
abbrev cN11 : String := "DEFAULTCAPACITY_EMPTY_ELEMENTDATA"
abbrev cN12 : String := "java/util/Collections$UnmodifiableCollection"
abbrev cN13 : String := "Ljava/util/Collection;"
abbrev cN14 : String := "java/util/Collections$UnmodifiableRandomAccessList"
abbrev cN15 : String := "java/util/Collections$UnmodifiableList"
abbrev cN16 : String := "java/util/Collection"
abbrev cN17 : String := "java/util/ArrayList$Itr"
abbrev cN18 : String := "Ljava/util/ArrayList;"
abbrev cN19 : String := "expectedModCount"
abbrev cN20 : String := "java/util/Collections$UnmodifiableCollection$1"
abbrev cN21 : String := "Ljava/util/Collections$UnmodifiableCollection;"
abbrev cN22 : String := "Ljava/util/Iterator;"
abbrev cN23 : String := "java/util/ArrayDeque"
theorem own_ef0 (m : MethodId) (x0 : Int32) (x1 : Int32) (x2 : Int32) (x3 : Int32) (x4 : Int32) (x5 : Int32) : entryFrame m #[(.int x0), (.int x1), (.int x2), (.int x3), (.int x4), (.int x5)] maxLocals = mkF m 0 #[.val (.int x0), .val (.int x1), .val (.int x2), .val (.int x3), .val (.int x4), .val (.int x5), .unset, .unset, .unset, .unset, .unset, .unset, .unset, .unset, .unset, .unset, .unset, .unset, .unset, .unset, .unset, .unset, .unset, .unset, .unset, .unset, .unset, .unset, .unset, .unset, .unset, .unset] [] := by first | (simp [entryFrame, mkF, argsToLocals, Value.category, maxLocals]; done) | rfl
theorem own_ef1 (m : MethodId) (x0 : Int32) : entryFrame m #[(.int x0)] 1 = mkF m 0 #[.val (.int x0)] [] := by first | (simp [entryFrame, mkF, argsToLocals, Value.category]; done) | rfl
theorem dd0_0 : decode B0 0 = .ok (.getstatic 38, 3) := by decide +kernel
theorem dd0_3 : decode B0 3 = .ok (.ifCond .eq 23, 3) := by decide +kernel
theorem dd0_6 : decode B0 6 = .ok (.iload_n 0, 1) := by decide +kernel
theorem dd1_0 : decode B1 0 = .ok (.iload_n 0, 1) := by decide +kernel
theorem dd1_1 : decode B1 1 = .ok (.sipush 255, 3) := by decide +kernel
theorem dd1_4 : decode B1 4 = .ok (.if_icmp .gt 7, 3) := by decide +kernel
theorem dd1_7 : decode B1 7 = .ok (.iconst 1, 1) := by decide +kernel
theorem dd1_8 : decode B1 8 = .ok (.goto 4, 3) := by decide +kernel
theorem dd1_12 : decode B1 12 = .ok (.ireturn, 1) := by decide +kernel
theorem own_pn0 : plainFor mN0 = true := by decide +kernel
theorem own_rm3 (l : Launch) (Z : State) (a0 : Array Value) (hw : own_W a0 Z) (ws : List Jvm.Cond) (i0 : Int32) (h0 : Heap) (n0 : Nat) (Z0 : n0 ≤ h0.size) (O0 : Old Z n0 h0) (I0 : ¬ (255 < i0)) :
 own_Met l Z h0 mN0 B1 1 (Option.some FieldType.boolean) ws (own_R 0 0 0 0) #[(.int i0)] (fun v h L => (v = some (.int 1) ∧ Fr n0 L ∧ h = h0)) 0 0 := own_go own_pn0 fun p e s m below meth c s₁ hns hrt hnm hml hZ hx hby hown X0 e0 => by
 have N0 := Fr.nil n0
 refine own_cast (own_ef1 m i0) ?_
 refine oIN X0 hx hby dd1_0 rfl ?_
 refine oS (fun _ => XS.sipush X0.here hx rfl (hb hby dd1_1) ) ?_
 refine oNI X0 hx hby dd1_4 (XT.ii_gt_f I0) ?_
 refine oIC X0 hx hby dd1_7 ?_
 refine oGO X0 hx hby (pc' := 12) dd1_8 ?_
 exact own_retN X0 hx (t := .boolean) hns hrt (by simp) (hb hby dd1_12) (by decide) e0 (by decide) (by decide) (⟨rfl, N0, rfl⟩)
theorem own_pd0 : parseMethodDescriptor "(C)Z" = some ⟨[.char], (some .boolean)⟩ := by decide +kernel
theorem dd0_7 : decode B0 7 = .ok (.invokestatic 1015, 3) := by decide +kernel
theorem dd0_10 : decode B0 10 = .ok (.ifCond .eq 16, 3) := by decide +kernel
theorem dd0_13 : decode B0 13 = .ok (.new 10, 3) := by decide +kernel
theorem dd0_16 : decode B0 16 = .ok (.dup, 1) := by decide +kernel
theorem dd0_17 : decode B0 17 = .ok (.iload_n 0, 1) := by decide +kernel
theorem dd2_0 : decode B2 0 = .ok (.iconst 1, 1) := by decide +kernel
theorem dd2_1 : decode B2 1 = .ok (.newarray .byte, 2) := by decide +kernel
theorem dd2_3 : decode B2 3 = .ok (.dup, 1) := by decide +kernel
theorem dd2_4 : decode B2 4 = .ok (.iconst 0, 1) := by decide +kernel
theorem dd2_5 : decode B2 5 = .ok (.iload_n 0, 1) := by decide +kernel
theorem dd2_6 : decode B2 6 = .ok (.i2b, 1) := by decide +kernel
theorem dd2_7 : decode B2 7 = .ok (.bastore, 1) := by decide +kernel
theorem dd2_8 : decode B2 8 = .ok (.areturn, 1) := by decide +kernel
theorem own_pn1 : plainFor mN1 = true := by decide +kernel
theorem own_rm4 (l : Launch) (Z : State) (a0 : Array Value) (hw : own_W a0 Z) (ws : List Jvm.Cond) (i0 : Int32) (h0 : Heap) (n0 : Nat) (Z0 : n0 ≤ h0.size) (O0 : Old Z n0 h0)  :
 own_Met l Z h0 mN1 B2 1 (Option.some (FieldType.array FieldType.byte)) ws (own_R 0 1 1 0) #[(.int i0)] (fun v h L => (∃ o0 : Nat, ∃ m0 : ClassId, v = some (.ref o0) ∧ Fr n0 L ∧ Keep h0 h [] ∧ h0.size ≤ o0 ∧ Arv Z h o0 m0 .byte 1 [(.int (i0.toInt8.toInt32))] (.int 0) ∧ Exa Z h o0 "[B" ∧ @LT.lt Nat instLTNat o0 h.size)) 1 1 := own_go own_pn1 fun p e s m below meth c s₁ hns hrt hnm hml hZ hx hby hown X1 e0 => by
 have N0 := Fr.nil n0
 refine own_cast (own_ef1 m i0) ?_
 refine oIC X1 hx hby dd2_0 ?_
 obtain ⟨T0, h2, m0, X0, e1, E0, A0, B0, s0⟩ := own_newP X1 hx hZ (aty := .byte) (hw 15) e0 (nm := "[B") rfl (g := (mkF m 1 #[iv i0] [(.int 1)])) rfl (hb hby dd2_1) (n := 1) (rest := []) rfl (by decide) (cap := 1) (by decide) (by decide) (by decide) (by decide)
 obtain ⟨o0, g0⟩ : ∃ z, z = h0.size := ⟨_, rfl⟩
 rw [← g0] at A0 B0 s0
 have F0 : Arv Z h2 o0 m0 .byte 1 [(.int 0)] (.int 0) := own_newA A0 (by decide) rfl rfl
 have z0 := E0.1
 have y1 : @LT.lt Nat instLTNat o0 h2.size := F0.lt
 refine oS s0 ?_
 refine oS (fun _ => XS.dup X0.here hx rfl (hb hby dd2_3) rfl rfl) ?_
 refine oIC X0 hx hby dd2_4 ?_
 refine oIN X0 hx hby dd2_5 rfl ?_
 refine oS (fun _ => XT.i2b X0.here hx rfl (hb hby dd2_6) rfl) ?_
 obtain ⟨T1, h1, X2, e2, W0, A1, s1⟩ := own_stB X0 hx hZ e1 F0 (x' := (i0.toInt8.toInt32)) 0 (own_narB _) rfl (by decide) (by simp) (g := (mkF m 7 #[iv i0] [(.int (i0.toInt8.toInt32)), (.int 0), (.ref o0), (.ref o0)])) rfl (rest := [(.ref o0)]) rfl (hb hby dd2_7)
 have N1 : n0 ≤ o0 := by omega
 have N2 := Fr.snoc X2 N0 N1
 have z1 := W0.size
 have F1 : Arv Z h1 o0 m0 .byte 1 [(.int (i0.toInt8.toInt32))] (.int 0) := A1
 refine oS s1 ?_
 have F2 := Exa.wr W0 B0
 have y0 : @LT.lt Nat instLTNat o0 h1.size := by omega
 have K0 : Keep h0 h1 [] := (((Keep.refl h0 []).ext E0).wr W0 (Or.inr (by omega)))
 exact own_retA X2 hx hns hrt rfl rfl (hb hby dd2_8) e2 (by decide) (by decide) (⟨o0, m0, rfl, N2, K0, (by omega), F1, F2, y0⟩)
theorem own_pd1 : parseMethodDescriptor "(C)[B" = some ⟨[.char], (some (.array .byte))⟩ := by decide +kernel
theorem dd0_18 : decode B0 18 = .ok (.invokestatic 1018, 3) := by decide +kernel
theorem dd0_21 : decode B0 21 = .ok (.iconst 0, 1) := by decide +kernel
theorem own_ef2 (m : MethodId) (x0 : Addr) (x1 : Addr) (x2 : Int32) : entryFrame m #[(.ref x0), (.ref x1), (.int x2)] 3 = mkF m 0 #[.val (.ref x0), .val (.ref x1), .val (.int x2)] [] := by first | (simp [entryFrame, mkF, argsToLocals, Value.category]; done) | rfl
theorem dd3_0 : decode B3 0 = .ok (.aload_n 0, 1) := by decide +kernel
theorem dd3_1 : decode B3 1 = .ok (.invokespecial 1, 3) := by decide +kernel
theorem dd3_4 : decode B3 4 = .ok (.aload_n 0, 1) := by decide +kernel
theorem dd3_5 : decode B3 5 = .ok (.aload_n 1, 1) := by decide +kernel
theorem dd3_6 : decode B3 6 = .ok (.putfield 9, 3) := by decide +kernel
theorem dd3_9 : decode B3 9 = .ok (.aload_n 0, 1) := by decide +kernel
theorem dd3_10 : decode B3 10 = .ok (.iload_n 2, 1) := by decide +kernel
theorem dd3_11 : decode B3 11 = .ok (.putfield 15, 3) := by decide +kernel
theorem dd3_14 : decode B3 14 = .ok (.return_, 1) := by decide +kernel
theorem own_pn2 : plainFor mN2 = true := by decide +kernel
theorem own_rm5 (l : Launch) (Z : State) (a0 : Array Value) (hw : own_W a0 Z) (ws : List Jvm.Cond) (o0 o1 : Nat) (h0 : Heap) (n0 : Nat) (Z0 : n0 ≤ h0.size) (O0 : Old Z n0 h0) (I0 : Fld Z h0 o0 cN0 "value" "[B" .null) (I1 : Exa Z h0 o0 cN0) (I2 : n0 ≤ o0) (I3 : Fld Z h0 o0 cN0 "coder" "B" (.int 0)) (I4 : Fld Z h0 o0 cN0 "hash" "I" (.int 0)) (I5 : Fld Z h0 o0 cN0 "hashIsZero" "Z" (.int 0)) :
 own_Met l Z h0 mN2 B3 3 (Option.none : Option FieldType) ws (own_R 1 0 0 12) #[(.ref o0), (.ref o1), (.int 0)] (fun v h L => (v = none ∧ Fr n0 L ∧ Keep h0 h [o0] ∧ Fld Z h o0 cN0 "value" "[B" (.ref o1) ∧ Fld Z h o0 cN0 "coder" "B" (.int 0) ∧ Exa Z h o0 cN0 ∧ Fld Z h o0 cN0 "hash" "I" (.int 0) ∧ Fld Z h o0 cN0 "hashIsZero" "Z" (.int 0))) 0 0 := own_go own_pn2 fun p e s m below meth c s₁ hns hrt hnm hml hZ hx hby hown X2 e0 => by
 have N0 := Fr.nil n0
 refine own_cast (own_ef2 m o0 o1 0) ?_
 refine oAN X2 hx hby dd3_0 rfl rfl ?_
 obtain ⟨T0, X1, e1, s0⟩ := initO X2 hx hZ hown (hw 20) (hw 21) (hw 22) e0 (g := (mkF m 1 #[rv o0, rv o1, iv 0] [(.ref o0)])) rfl (by rw [hml]; rfl) rfl (hb hby dd3_1) (by decide) (W := 0) (by show 2 * 0 + _ ≤ _; exact Nat.le_of_eq rfl) (by decide)
 refine oS s0 ?_
 refine oAN X1 hx hby dd3_4 rfl rfl ?_
 refine oAN X1 hx hby dd3_5 rfl rfl ?_
 refine own_pF X1 hx hZ hown (hw 23) e1 I0 I1 (Or.inr ⟨(hw 24), rfl, hnm⟩) (hw 11) (ty := (.array .byte)) rfl rfl (hb hby dd3_6) fun T1 h2 X0 e2 W0 => ?_
 have N1 := Fr.snoc X0 N0 I2
 have z0 := W0.size
 have F2 := Fld.same W0 I0
 refine oAN X0 hx hby dd3_9 rfl rfl ?_
 refine oIN X0 hx hby dd3_10 rfl ?_
 have F0 := Fld.other W0 I3 (Or.inr (slot_ne (C := cN0) (Or.inr (hw 26)) (Or.inr (hw 24)) (by decide) (t := .byte) (t' := (.array .byte)) (by decide) (by decide)))
 have F1 := Exa.wr W0 I1
 refine own_pF X0 hx hZ hown (hw 25) e2 F0 F1 (Or.inr ⟨(hw 26), rfl, hnm⟩) (hw 11) (ty := .byte) (by decide) (by decide) (hb hby dd3_11) fun T2 h1 X3 e3 W1 => ?_
 have N2 := Fr.snoc X3 N1 I2
 have z1 := W1.size
 have F3 := Fld.same W1 F0
 have F4 := Fld.other W1 F2 (Or.inr (slot_ne (C := cN0) (Or.inr (hw 24)) (Or.inr (hw 26)) (by decide) (t := (.array .byte)) (t' := .byte) (by decide) (by decide)))
 have F5 := Exa.wr W1 F1
 have F6 := Fld.other W1 (Fld.other W0 I4 (Or.inr (slot_ne (C := cN0) (Or.inl (hw 64)) (Or.inr (hw 24)) (by decide) (t := .int) (t' := (.array .byte)) (by decide) (by decide)))) (Or.inr (slot_ne (C := cN0) (Or.inl (hw 64)) (Or.inr (hw 26)) (by decide) (t := .int) (t' := .byte) (by decide) (by decide)))
 have F7 := Fld.other W1 (Fld.other W0 I5 (Or.inr (slot_ne (C := cN0) (Or.inl (hw 66)) (Or.inr (hw 24)) (by decide) (t := .boolean) (t' := (.array .byte)) (by decide) (by decide)))) (Or.inr (slot_ne (C := cN0) (Or.inl (hw 66)) (Or.inr (hw 26)) (by decide) (t := .boolean) (t' := .byte) (by decide) (by decide)))
 have K0 : Keep h0 h1 [o0] := (((Keep.refl h0 [o0]).wr W0 (Or.inl (by simp))).wr W1 (Or.inl (by simp)))
 exact own_retV X3 hx hns hrt (hb hby dd3_14) e3 (by decide) (by decide) (⟨rfl, N2, K0, F4, F3, F5, F6, F7⟩)
theorem own_pd2 : parseMethodDescriptor "([BB)V" = some ⟨[(.array .byte), .byte], none⟩ := by decide +kernel
theorem dd0_22 : decode B0 22 = .ok (.invokespecial 209, 3) := by decide +kernel
theorem dd0_25 : decode B0 25 = .ok (.areturn, 1) := by decide +kernel
theorem own_pn3 : plainFor mN3 = true := by decide +kernel
theorem own_rm2 (l : Launch) (Z : State) (a0 : Array Value) (hw : own_W a0 Z) (ws : List Jvm.Cond) (i0 i1 : Int32) (h0 : Heap) (n0 : Nat) (Z0 : n0 ≤ h0.size) (O0 : Old Z n0 h0) (I0 : Sta Z Z.heap cN0 "COMPACT_STRINGS" "Z" (.int i1)) (I1 : ¬ (i1 = 0)) (I2 : ¬ (255 < i0)) :
 own_Met l Z h0 mN3 B0 1 (Option.some (FieldType.object cN0)) ws (own_R 2 2 5 27) #[(.int i0)] (fun v h L => (∃ o0 : Nat, ∃ o1 : Nat, ∃ m0 : ClassId, v = some (.ref o0) ∧ Fr n0 L ∧ Keep h0 h [] ∧ h0.size ≤ o0 ∧ o0 < o1 ∧ Exa Z h o0 cN0 ∧ Fld Z h o0 cN0 "value" "[B" (.ref o1) ∧ Fld Z h o0 cN0 "coder" "B" (.int 0) ∧ Fld Z h o0 cN0 "hash" "I" (.int 0) ∧ Fld Z h o0 cN0 "hashIsZero" "Z" (.int 0) ∧ Arv Z h o1 m0 .byte 1 [(.int (i0.toInt8.toInt32))] (.int 0) ∧ Exa Z h o1 "[B" ∧ @LT.lt Nat instLTNat o0 h.size ∧ @LT.lt Nat instLTNat o1 h.size)) 2 5 := own_go own_pn3 fun p e s m below meth c s₁ hns hrt hnm hml hZ hx hby hown X4 e0 => by
 have N0 := Fr.nil n0
 refine own_cast (own_ef1 m i0) ?_
 have F0 := Sta.ext O0.2 I0
 obtain ⟨T1, X0, e1, s1⟩ := getS X4 hx hZ hown (host := "") (hw 5) Via.refl e0 F0 (g := (mkF m 0 #[iv i0] [])) rfl (hb hby dd0_0)
 refine oS s1 ?_
 refine oN0 X0 hx hby dd0_3 (XT.i0_eq_f I1) ?_
 refine oIN X0 hx hby dd0_6 rfl ?_
 refine own_cS X0 hx hZ hown e1 (y := mN0) (hw 6) (hw 7) (hw 8) (hw 9) (by decide) (W := 0) (own_rm3 l Z a0 hw [] i0 h0 n0 Z0 O0 I2) [(.int i0)] [] hml (lenOf own_pd0 rfl) (hb hby dd0_7) fun T2 h4 v0 L0 X2 e2 q0 => ?_
 obtain ⟨rfl, N1, K2⟩ := q0
 have N2 := Fr.app N0 N1
 have e3 := e2.trans K2
 refine oN0 X2 hx hby dd0_10 (XT.i0_eq_f (by decide)) ?_
 obtain ⟨T3, h1, X1, e4, E0, A0, D0, U0, s0⟩ := newO X2 hx hZ hown (hw 10) (hw 11) (hw 3) e3 (g := (mkF m 13 #[iv i0] [])) rfl (hb hby dd0_13) (by decide) (by decide)
 obtain ⟨o0, g0⟩ : ∃ z, z = h0.size := ⟨_, rfl⟩
 rw [← g0] at A0 D0 U0 s0
 have z0 := E0.1
 have y2 : @LT.lt Nat instLTNat o0 h1.size := A0.lt
 refine oS s0 ?_
 have F1 : Fld Z h1 o0 cN0 "value" "[B" .null := D0 (Or.inr (hw 24)) (ty := (.array .byte)) (by decide)
 have F2 : Fld Z h1 o0 cN0 "coder" "B" (.int 0) := D0 (Or.inr (hw 26)) (ty := .byte) (by decide)
 have F3 : Fld Z h1 o0 cN0 "hash" "I" (.int 0) := D0 (Or.inl (hw 64)) (ty := .int) (by decide)
 have F4 : Fld Z h1 o0 cN0 "hashIsZero" "Z" (.int 0) := D0 (Or.inl (hw 66)) (ty := .boolean) (by decide)
 refine oS (fun _ => XS.dup X1.here hx rfl (hb hby dd0_16) rfl rfl) ?_
 refine oIN X1 hx hby dd0_17 rfl ?_
 have O1 : Old Z n0 h1 := O0.ext E0
 have Z1 : n0 ≤ h1.size := by omega
 refine own_cS X1 hx hZ hown e4 (y := mN1) (hw 12) (hw 13) (hw 8) (hw 14) (by decide) (W := 2) (own_rm4 l Z a0 hw [] i0 h1 n0 Z1 O1 ) [(.int i0)] [(.ref o0), (.ref o0)] hml (lenOf own_pd1 rfl) (hb hby dd0_18) fun T0 h2 v1 L1 X3 e5 q1 => ?_
 obtain ⟨o1, m0, rfl, N3, K0, F09, F5, F6, F0a⟩ := q1
 have N4 := Fr.app N2 N3
 have z1 := K0.1
 refine oIC X3 hx hby dd0_21 ?_
 show own_G p e below (T0.setTop (mkF m 22 #[iv i0] [(.int 0), (.ref o1), (.ref o0), (.ref o0)])) _
 have F7 := F1.keep K0 nin0
 have F8 := A0.keep K0
 have N5 : n0 ≤ o0 := by omega
 have F9 := F2.keep K0 nin0
 have F00 := F3.keep K0 nin0
 have F01 := F4.keep K0 nin0
 have O2 : Old Z n0 h2 := O1.keep K0 all0
 have Z2 : n0 ≤ h2.size := by omega
 refine own_cN X3 hx hZ hown e5 (y := mN2) (b := o0) rfl (hw 16) (hw 17) (hw 3) (hw 19) (by decide) (W := 1) (own_rm5 l Z a0 hw [] o0 o1 h2 n0 Z2 O2 F7 F8 N5 F9 F00 F01) [(.ref o1), (.int 0)] [(.ref o0)] hml (lenOf own_pd2 rfl) (hb hby dd0_22) fun T4 h3 v2 L2 X5 e6 q2 => ?_
 obtain ⟨rfl, N6, K1, F02, F03, F04, F05, F06⟩ := q2
 have N7 := Fr.app N4 N6
 have z2 := K1.1
 have N8 : @Ne Nat o1 o0 := by omega
 have F07 := F5.keep K1 (ninS N8 nin0)
 have F08 := F6.keep K1
 have y0 : @LT.lt Nat instLTNat o0 h3.size := by omega
 have y1 : @LT.lt Nat instLTNat o1 h3.size := by omega
 have K3 : Keep h0 h3 [] := ((((Keep.refl h0 []).ext E0).trans K0 all0).trans K1 (allS (Or.inr (by omega)) all0))
 exact own_retA X5 hx hns hrt rfl rfl (hb hby dd0_25) e6 (by decide) (by decide) (⟨o0, o1, m0, rfl, N7, K3, (by omega), (by omega), F04, F02, F03, F05, F06, F07, F08, y0, y1⟩)
theorem own_pd3 : parseMethodDescriptor "(C)Ljava/lang/String;" = some ⟨[.char], (some (.object cN0))⟩ := by decide +kernel
theorem own_ef3 (m : MethodId) (x0 : Addr) (x1 : Int32) (x2 : Int32) : entryFrame m #[(.ref x0), (.int x1), (.int x2)] 3 = mkF m 0 #[.val (.ref x0), .val (.int x1), .val (.int x2)] [] := by first | (simp [entryFrame, mkF, argsToLocals, Value.category]; done) | rfl
theorem dd4_0 : decode B4 0 = .ok (.new 8, 3) := by decide +kernel
theorem dd4_3 : decode B4 3 = .ok (.dup, 1) := by decide +kernel
theorem dd4_4 : decode B4 4 = .ok (.iconst 1, 1) := by decide +kernel
theorem dd4_5 : decode B4 5 = .ok (.aload_n 0, 1) := by decide +kernel
theorem dd4_6 : decode B4 6 = .ok (.iload_n 1, 1) := by decide +kernel
theorem dd4_7 : decode B4 7 = .ok (.iload_n 2, 1) := by decide +kernel
theorem own_ef4 (m : MethodId)  : entryFrame m #[] 0 = mkF m 0 #[] [] := by first | (simp [entryFrame, mkF, argsToLocals, Value.category]; done) | rfl
theorem dd5_0 : decode B5 0 = .ok (.getstatic 90, 3) := by decide +kernel
theorem dd5_3 : decode B5 3 = .ok (.areturn, 1) := by decide +kernel
theorem own_pn4 : plainFor mN4 = true := by decide +kernel
theorem own_rm7 (l : Launch) (Z : State) (a0 : Array Value) (hw : own_W a0 Z) (ws : List Jvm.Cond) (o0 : Nat) (h0 : Heap) (n0 : Nat) (Z0 : n0 ≤ h0.size) (O0 : Old Z n0 h0) (I0 : Sta Z Z.heap "java/util/ImmutableCollections" "EMPTY_LIST" "Ljava/util/ImmutableCollections$ListN;" (.ref o0)) :
 own_Met l Z h0 mN4 B5 0 (Option.some (FieldType.object "java/util/List")) ws (own_R 0 0 0 0) #[] (fun v h L => (v = some (.ref o0) ∧ Fr n0 L ∧ h = h0)) 0 0 := own_go own_pn4 fun p e s m below meth c s₁ hns hrt hnm hml hZ hx hby hown X0 e0 => by
 have N0 := Fr.nil n0
 refine own_cast (own_ef4 m ) ?_
 have F0 := Sta.ext O0.2 I0
 obtain ⟨T0, X1, e1, s0⟩ := getS X0 hx hZ hown (host := "") (hw 37) Via.refl e0 F0 (g := (mkF m 0 #[] [])) rfl (hb hby dd5_0)
 refine oS s0 ?_
 exact own_retA X1 hx hns hrt rfl rfl (hb hby dd5_3) e1 (by decide) (by decide) (⟨rfl, N0, rfl⟩)
theorem own_pd4 : parseMethodDescriptor "()Ljava/util/List;" = some ⟨[], (some (.object "java/util/List"))⟩ := by decide +kernel
theorem dd4_8 : decode B4 8 = .ok (.invokestatic 58, 3) := by decide +kernel
theorem own_ef5 (m : MethodId) (x0 : Addr) (x1 : Int32) (x2 : Addr) (x3 : Int32) (x4 : Int32) (x5 : Addr) : entryFrame m #[(.ref x0), (.int x1), (.ref x2), (.int x3), (.int x4), (.ref x5)] 9 = mkF m 0 #[.val (.ref x0), .val (.int x1), .val (.ref x2), .val (.int x3), .val (.int x4), .val (.ref x5), .unset, .unset, .unset] [] := by first | (simp [entryFrame, mkF, argsToLocals, Value.category]; done) | rfl
theorem dd6_0 : decode B6 0 = .ok (.aload_n 0, 1) := by decide +kernel
theorem dd6_1 : decode B6 1 = .ok (.invokespecial 1, 3) := by decide +kernel
theorem dd6_4 : decode B6 4 = .ok (.aload_n 0, 1) := by decide +kernel
theorem dd6_5 : decode B6 5 = .ok (.iload_n 1, 1) := by decide +kernel
theorem dd6_6 : decode B6 6 = .ok (.putfield 7, 3) := by decide +kernel
theorem dd6_9 : decode B6 9 = .ok (.aload_n 0, 1) := by decide +kernel
theorem dd6_10 : decode B6 10 = .ok (.aload_n 2, 1) := by decide +kernel
theorem dd6_11 : decode B6 11 = .ok (.putfield 13, 3) := by decide +kernel
theorem dd6_14 : decode B6 14 = .ok (.aload_n 0, 1) := by decide +kernel
theorem dd6_15 : decode B6 15 = .ok (.iload_n 3, 1) := by decide +kernel
theorem dd6_16 : decode B6 16 = .ok (.putfield 17, 3) := by decide +kernel
theorem dd6_19 : decode B6 19 = .ok (.aload_n 0, 1) := by decide +kernel
theorem dd6_20 : decode B6 20 = .ok (.iload 4, 2) := by decide +kernel
theorem dd6_22 : decode B6 22 = .ok (.putfield 21, 3) := by decide +kernel
theorem dd6_25 : decode B6 25 = .ok (.aload_n 0, 1) := by decide +kernel
theorem dd6_26 : decode B6 26 = .ok (.aload 5, 2) := by decide +kernel
theorem dd6_28 : decode B6 28 = .ok (.putfield 24, 3) := by decide +kernel
theorem dd6_31 : decode B6 31 = .ok (.bipush 31, 2) := by decide +kernel
theorem dd6_33 : decode B6 33 = .ok (.iload_n 1, 1) := by decide +kernel
theorem dd6_34 : decode B6 34 = .ok (.imul, 1) := by decide +kernel
theorem dd6_35 : decode B6 35 = .ok (.aload_n 2, 1) := by decide +kernel
theorem own_ef6 (m : MethodId) (x0 : Addr) : entryFrame m #[(.ref x0)] 1 = mkF m 0 #[.val (.ref x0)] [] := by first | (simp [entryFrame, mkF, argsToLocals, Value.category]; done) | rfl
theorem dd7_0 : decode B7 0 = .ok (.aload_n 0, 1) := by decide +kernel
theorem dd7_1 : decode B7 1 = .ok (.ifnull 10, 3) := by decide +kernel
theorem dd7_4 : decode B7 4 = .ok (.aload_n 0, 1) := by decide +kernel
theorem own_ef7 (m : MethodId) (x0 : Addr) : entryFrame m #[(.ref x0)] 2 = mkF m 0 #[.val (.ref x0), .unset] [] := by first | (simp [entryFrame, mkF, argsToLocals, Value.category]; done) | rfl
theorem dd8_0 : decode B8 0 = .ok (.aload_n 0, 1) := by decide +kernel
theorem dd8_1 : decode B8 1 = .ok (.getfield 19, 3) := by decide +kernel
theorem dd8_4 : decode B8 4 = .ok (.istore_n 1, 1) := by decide +kernel
theorem dd8_5 : decode B8 5 = .ok (.iload_n 1, 1) := by decide +kernel
theorem dd8_6 : decode B8 6 = .ok (.ifCond .ne 52, 3) := by decide +kernel
theorem dd8_9 : decode B8 9 = .ok (.aload_n 0, 1) := by decide +kernel
theorem dd8_10 : decode B8 10 = .ok (.getfield 23, 3) := by decide +kernel
theorem dd8_13 : decode B8 13 = .ok (.ifCond .ne 45, 3) := by decide +kernel
theorem dd8_16 : decode B8 16 = .ok (.aload_n 0, 1) := by decide +kernel
theorem dd9_0 : decode B9 0 = .ok (.getstatic 38, 3) := by decide +kernel
theorem dd9_3 : decode B9 3 = .ok (.ifCond .eq 14, 3) := by decide +kernel
theorem dd9_6 : decode B9 6 = .ok (.aload_n 0, 1) := by decide +kernel
theorem dd9_7 : decode B9 7 = .ok (.getfield 15, 3) := by decide +kernel
theorem dd9_10 : decode B9 10 = .ok (.ifCond .ne 7, 3) := by decide +kernel
theorem dd9_13 : decode B9 13 = .ok (.iconst 1, 1) := by decide +kernel
theorem dd9_14 : decode B9 14 = .ok (.goto 4, 3) := by decide +kernel
theorem dd9_18 : decode B9 18 = .ok (.ireturn, 1) := by decide +kernel
theorem own_pn5 : plainFor mN5 = true := by decide +kernel
theorem own_rm11 (l : Launch) (Z : State) (a0 : Array Value) (hw : own_W a0 Z) (ws : List Jvm.Cond) (i0 : Int32) (o0 : Nat) (h0 : Heap) (n0 : Nat) (Z0 : n0 ≤ h0.size) (O0 : Old Z n0 h0) (I0 : Sta Z Z.heap cN0 "COMPACT_STRINGS" "Z" (.int i0)) (I1 : ¬ (i0 = 0)) (I2 : Fld Z h0 o0 cN0 "coder" "B" (.int 0)) :
 own_Met l Z h0 mN5 B9 1 (Option.some FieldType.boolean) ws (own_R 0 0 0 0) #[(.ref o0)] (fun v h L => (v = some (.int 1) ∧ Fr n0 L ∧ h = h0)) 0 0 := own_go own_pn5 fun p e s m below meth c s₁ hns hrt hnm hml hZ hx hby hown X2 e0 => by
 have N0 := Fr.nil n0
 refine own_cast (own_ef6 m o0) ?_
 have F0 := Sta.ext O0.2 I0
 obtain ⟨T0, X1, e1, s0⟩ := getS X2 hx hZ hown (host := "") (hw 5) Via.refl e0 F0 (g := (mkF m 0 #[rv o0] [])) rfl (hb hby dd9_0)
 refine oS s0 ?_
 refine oN0 X1 hx hby dd9_3 (XT.i0_eq_f I1) ?_
 refine oAN X1 hx hby dd9_6 rfl rfl ?_
 refine own_gF X1 hx hZ hown (hw 25) e1 I2 (hb hby dd9_7) fun T1 X0 e2 => ?_
 refine oN0 X0 hx hby dd9_10 (XT.i0_ne_f (by decide)) ?_
 refine oIC X0 hx hby dd9_13 ?_
 refine oGO X0 hx hby (pc' := 18) dd9_14 ?_
 exact own_retN X0 hx (t := .boolean) hns hrt (by simp) (hb hby dd9_18) (by decide) e2 (by decide) (by decide) (⟨rfl, N0, rfl⟩)
theorem own_pd5 : parseMethodDescriptor "()Z" = some ⟨[], (some .boolean)⟩ := by decide +kernel
theorem dd8_17 : decode B8 17 = .ok (.invokevirtual 492, 3) := by decide +kernel
theorem dd8_20 : decode B8 20 = .ok (.ifCond .eq 13, 3) := by decide +kernel
theorem dd8_23 : decode B8 23 = .ok (.aload_n 0, 1) := by decide +kernel
theorem dd8_24 : decode B8 24 = .ok (.getfield 9, 3) := by decide +kernel
theorem dd10_0 : decode B00 0 = .ok (.aload_n 0, 1) := by decide +kernel
theorem dd10_1 : decode B00 1 = .ok (.arraylength, 1) := by decide +kernel
theorem dd10_2 : decode B00 2 = .ok (.lookupswitch 40 #[(0, 26), (1, 30)], 26) := by decide +kernel
theorem dd10_32 : decode B00 32 = .ok (.aload_n 0, 1) := by decide +kernel
theorem dd10_33 : decode B00 33 = .ok (.iconst 0, 1) := by decide +kernel
theorem dd10_34 : decode B00 34 = .ok (.baload, 1) := by decide +kernel
theorem dd10_35 : decode B00 35 = .ok (.sipush 255, 3) := by decide +kernel
theorem dd10_38 : decode B00 38 = .ok (.iand, 1) := by decide +kernel
theorem dd10_39 : decode B00 39 = .ok (.goto 12, 3) := by decide +kernel
theorem dd10_51 : decode B00 51 = .ok (.ireturn, 1) := by decide +kernel
theorem own_pn6 : plainFor mN6 = true := by decide +kernel
theorem own_rm12 (l : Launch) (Z : State) (a0 : Array Value) (hw : own_W a0 Z) (ws : List Jvm.Cond) (i0 : Int32) (m0 : ClassId) (o0 : Nat) (h0 : Heap) (n0 : Nat) (Z0 : n0 ≤ h0.size) (O0 : Old Z n0 h0) (I0 : Arv Z h0 o0 m0 .byte 1 [(.int (i0.toInt8.toInt32))] (.int 0)) :
 own_Met l Z h0 mN6 B00 1 (Option.some FieldType.int) ws (own_R 0 0 0 0) #[(.ref o0)] (fun v h L => (v = some (.int ((i0.toInt8.toInt32) &&& 255)) ∧ Fr n0 L ∧ h = h0)) 0 0 := own_go own_pn6 fun p e s m below meth c s₁ hns hrt hnm hml hZ hx hby hown X0 e0 => by
 have N0 := Fr.nil n0
 refine own_cast (own_ef6 m o0) ?_
 refine oAN X0 hx hby dd10_0 rfl rfl ?_
 refine oS (own_len X0 hx hZ e0 I0 rfl rfl (hb hby dd10_1)) ?_
 have u0 : ∀ t, Steps p.tables e below (s₁.setTop (mkF m 32 #[rv o0] [])) t → Steps p.tables e below (s₁.setTop (mkF m 2 #[rv o0] [(.int 1)])) t := fun t hr => own_lsw X0 hx (g := (mkF m 2 #[rv o0] [(.int 1)])) rfl (k := 1) rfl (hb hby dd10_2) (by decide +kernel) (a := 1) (off := 30) (by decide +kernel) (pc0 := 2) (pc' := 32) rfl (by decide) (by decide) t hr
 refine oS u0 ?_
 refine oAN X0 hx hby dd10_32 rfl rfl ?_
 refine oIC X0 hx hby dd10_33 ?_
 refine oS (own_baload X0 hx hZ e0 I0 (by decide) (v := (.int (i0.toInt8.toInt32))) rfl rfl rfl (hb hby dd10_34)) ?_
 refine oS (fun _ => XS.sipush X0.here hx rfl (hb hby dd10_35) ) ?_
 refine oS (fun _ => XS.iand X0.here hx rfl (hb hby dd10_38) rfl) ?_
 refine oGO X0 hx hby (pc' := 51) dd10_39 ?_
 exact own_retI X0 hx hns hrt (hb hby dd10_51) e0 (by decide) (by decide) (⟨rfl, N0, rfl⟩)
theorem own_pd6 : parseMethodDescriptor "([B)I" = some ⟨[(.array .byte)], (some .int)⟩ := by decide +kernel
theorem dd8_27 : decode B8 27 = .ok (.invokestatic 628, 3) := by decide +kernel
theorem dd8_30 : decode B8 30 = .ok (.goto 10, 3) := by decide +kernel
theorem dd8_40 : decode B8 40 = .ok (.istore_n 1, 1) := by decide +kernel
theorem dd8_41 : decode B8 41 = .ok (.iload_n 1, 1) := by decide +kernel
theorem dd8_42 : decode B8 42 = .ok (.ifCond .ne 11, 3) := by decide +kernel
theorem dd8_45 : decode B8 45 = .ok (.aload_n 0, 1) := by decide +kernel
theorem dd8_46 : decode B8 46 = .ok (.iconst 1, 1) := by decide +kernel
theorem dd8_47 : decode B8 47 = .ok (.putfield 23, 3) := by decide +kernel
theorem dd8_50 : decode B8 50 = .ok (.goto 8, 3) := by decide +kernel
theorem dd8_58 : decode B8 58 = .ok (.iload_n 1, 1) := by decide +kernel
theorem dd8_59 : decode B8 59 = .ok (.ireturn, 1) := by decide +kernel
theorem dd8_53 : decode B8 53 = .ok (.aload_n 0, 1) := by decide +kernel
theorem dd8_54 : decode B8 54 = .ok (.iload_n 1, 1) := by decide +kernel
theorem dd8_55 : decode B8 55 = .ok (.putfield 19, 3) := by decide +kernel
theorem own_pn7 : plainFor mN7 = true := by decide +kernel
theorem own_rm10 (l : Launch) (Z : State) (a0 : Array Value) (hw : own_W a0 Z) (ws : List Jvm.Cond) (i1 i0 : Int32) (m0 : ClassId) (o0 o1 : Nat) (h0 : Heap) (n0 : Nat) (Z0 : n0 ≤ h0.size) (O0 : Old Z n0 h0) (I1 : Fld Z h0 o0 cN0 "hash" "I" (.int 0)) (I2 : Fld Z h0 o0 cN0 "hashIsZero" "Z" (.int 0)) (I6 : Sta Z Z.heap cN0 "COMPACT_STRINGS" "Z" (.int i1)) (I7 : ¬ (i1 = 0)) (I3 : Fld Z h0 o0 cN0 "coder" "B" (.int 0)) (I0 : Exa Z h0 o0 cN0) (I4 : Fld Z h0 o0 cN0 "value" "[B" (.ref o1)) (I8 : Arv Z h0 o1 m0 .byte 1 [(.int (i0.toInt8.toInt32))] (.int 0)) (I5 : n0 ≤ o0) :
 own_Met l Z h0 mN7 B8 2 (Option.some FieldType.int) ws (own_R 1 0 0 12) #[(.ref o0)] (fun v h L => (v = some (.int ((i0.toInt8.toInt32) &&& 255)) ∧ Fr n0 L ∧ Keep h0 h [o0] ∧ Fld Z h o0 cN0 "coder" "B" (.int 0) ∧ Exa Z h o0 cN0 ∧ Fld Z h o0 cN0 "value" "[B" (.ref o1))) 0 0 := own_go own_pn7 fun p e s m below meth c s₁ hns hrt hnm hml hZ hx hby hown X6 e1 => by
 have N1 := Fr.nil n0
 refine own_cast (own_ef7 m o0) ?_
 refine oAN X6 hx hby dd8_0 rfl rfl ?_
 refine own_gF X6 hx hZ hown (hw 63) e1 I1 (hb hby dd8_1) fun T2 X1 e2 => ?_
 refine oISN X1 hx hby dd8_4 (l' := #[rv o0, iv 0]) rfl ?_
 refine oIN X1 hx hby dd8_5 rfl ?_
 refine oN0 X1 hx hby dd8_6 (XT.i0_ne_f (by decide)) ?_
 refine oAN X1 hx hby dd8_9 rfl rfl ?_
 refine own_gF X1 hx hZ hown (hw 65) e2 I2 (hb hby dd8_10) fun T3 X3 e3 => ?_
 refine oN0 X3 hx hby dd8_13 (XT.i0_ne_f (by decide)) ?_
 refine oAN X3 hx hby dd8_16 rfl rfl ?_
 refine own_cV X3 hx hZ hown e3 (y := mN5) (z := mN5) (b := o0) (hw 67) (hw 68) (notFace_of_selects (args := #[]) (mvT hZ (hw 70))) (hw 70) (hw 69) (hw 3) (hw 71) (by decide) I0 (W := 0) (own_rm11 l Z a0 hw [] i1 o0 h0 n0 Z0 O0 I6 I7 I3) [] [] hml (lenOf own_pd5 rfl) (hb hby dd8_17) fun T1 h3 v0 L0 X4 e4 q0 => ?_
 obtain ⟨rfl, N2, K0⟩ := q0
 have N3 := Fr.app N1 N2
 have e5 := e4.trans K0
 show own_G p e below (T1.setTop (mkF m 20 #[rv o0, iv 0] [(.int 1)])) _
 refine oN0 X4 hx hby dd8_20 (XT.i0_eq_f (by decide)) ?_
 refine oAN X4 hx hby dd8_23 rfl rfl ?_
 refine own_gF X4 hx hZ hown (hw 23) e5 I4 (hb hby dd8_24) fun T4 X7 e6 => ?_
 refine own_cS X7 hx hZ hown e6 (y := mN6) (hw 72) (hw 73) (hw 8) (hw 74) (by decide) (W := 0) (own_rm12 l Z a0 hw [] i0 m0 o1 h0 n0 Z0 O0 I8) [(.ref o1)] [] hml (lenOf own_pd6 rfl) (hb hby dd8_27) fun T0 h4 v1 L1 X0 e7 q1 => ?_
 obtain ⟨rfl, N4, K1⟩ := q1
 have N0 := Fr.app N3 N4
 have e0 := e7.trans K1
 refine oGO X0 hx hby (pc' := 40) dd8_30 ?_
 refine oISN X0 hx hby dd8_40 (l' := #[rv o0, iv ((i0.toInt8.toInt32) &&& 255)]) rfl ?_
 refine oIN X0 hx hby dd8_41 rfl ?_
 by_cases b0 : ((i0.toInt8.toInt32) &&& 255) = 0
 ·skip
  refine oN0 X0 hx hby dd8_42 (XT.i0_ne_f b0) ?_
  show own_G p e below (T0.setTop (mkF m 45 #[rv o0, iv ((i0.toInt8.toInt32) &&& 255)] [])) _
  refine oAN X0 hx hby dd8_45 rfl rfl ?_
  refine oIC X0 hx hby dd8_46 ?_
  refine own_pF X0 hx hZ hown (hw 65) e0 I2 I0 (Or.inl (hw 66)) (hw 11) (ty := .boolean) (by decide) (by decide) (hb hby dd8_47) fun T5 h1 X2 e8 W0 => ?_
  have N5 := Fr.snoc X2 N0 I5
  have z0 := W0.size
  have F6 := Fld.same W0 I2
  refine oGO X2 hx hby (pc' := 58) dd8_50 ?_
  refine oIN X2 hx hby dd8_58 rfl ?_
  have F0 := Fld.other W0 I3 (Or.inr (slot_ne (C := cN0) (Or.inr (hw 26)) (Or.inl (hw 66)) (by decide) (t := .byte) (t' := .boolean) (by decide) (by decide)))
  have F1 := Exa.wr W0 I0
  have F2 := Fld.other W0 I4 (Or.inr (slot_ne (C := cN0) (Or.inr (hw 24)) (Or.inl (hw 66)) (by decide) (t := (.array .byte)) (t' := .boolean) (by decide) (by decide)))
  have K2 : Keep h0 h1 [o0] := ((Keep.refl h0 [o0]).wr W0 (Or.inl (by simp)))
  exact own_retI X2 hx hns hrt (hb hby dd8_59) e8 (by decide) (by decide) (⟨rfl, N5, K2, F0, F1, F2⟩)
 ·skip
  refine oY0 X0 hx hby (pc' := 53) dd8_42 (XT.i0_ne_t b0) ?_
  show own_G p e below (T0.setTop (mkF m 53 #[rv o0, iv ((i0.toInt8.toInt32) &&& 255)] [])) _
  refine oAN X0 hx hby dd8_53 rfl rfl ?_
  refine oIN X0 hx hby dd8_54 rfl ?_
  refine own_pF X0 hx hZ hown (hw 63) e0 I1 I0 (Or.inl (hw 64)) (hw 11) (ty := .int) rfl rfl (hb hby dd8_55) fun T6 h2 X5 e9 W1 => ?_
  have N6 := Fr.snoc X5 N0 I5
  have z1 := W1.size
  have F7 := Fld.same W1 I1
  refine oIN X5 hx hby dd8_58 rfl ?_
  have F3 := Fld.other W1 I3 (Or.inr (slot_ne (C := cN0) (Or.inr (hw 26)) (Or.inl (hw 64)) (by decide) (t := .byte) (t' := .int) (by decide) (by decide)))
  have F4 := Exa.wr W1 I0
  have F5 := Fld.other W1 I4 (Or.inr (slot_ne (C := cN0) (Or.inr (hw 24)) (Or.inl (hw 64)) (by decide) (t := (.array .byte)) (t' := .int) (by decide) (by decide)))
  have K3 : Keep h0 h2 [o0] := ((Keep.refl h0 [o0]).wr W1 (Or.inl (by simp)))
  exact own_retI X5 hx hns hrt (hb hby dd8_59) e9 (by decide) (by decide) (⟨rfl, N6, K3, F3, F4, F5⟩)
theorem own_pd7 : parseMethodDescriptor "()I" = some ⟨[], (some .int)⟩ := by decide +kernel
theorem dd7_5 : decode B7 5 = .ok (.invokevirtual 24, 3) := by decide +kernel
theorem dd7_8 : decode B7 8 = .ok (.goto 4, 3) := by decide +kernel
theorem dd7_12 : decode B7 12 = .ok (.ireturn, 1) := by decide +kernel
theorem own_pn8 : plainFor mN8 = true := by decide +kernel
theorem own_rm9 (l : Launch) (Z : State) (a0 : Array Value) (hw : own_W a0 Z) (ws : List Jvm.Cond) (i0 i1 : Int32) (m0 : ClassId) (o0 o1 : Nat) (h0 : Heap) (n0 : Nat) (Z0 : n0 ≤ h0.size) (O0 : Old Z n0 h0) (I1 : Fld Z h0 o0 cN0 "hash" "I" (.int 0)) (I2 : Fld Z h0 o0 cN0 "hashIsZero" "Z" (.int 0)) (I3 : Sta Z Z.heap cN0 "COMPACT_STRINGS" "Z" (.int i0)) (I4 : ¬ (i0 = 0)) (I5 : Fld Z h0 o0 cN0 "coder" "B" (.int 0)) (I0 : Exa Z h0 o0 cN0) (I6 : Fld Z h0 o0 cN0 "value" "[B" (.ref o1)) (I7 : Arv Z h0 o1 m0 .byte 1 [(.int (i1.toInt8.toInt32))] (.int 0)) (I8 : n0 ≤ o0) :
 own_Met l Z h0 mN8 B7 1 (Option.some FieldType.int) ws (own_R 2 0 0 25) #[(.ref o0)] (fun v h L => (v = some (.int ((i1.toInt8.toInt32) &&& 255)) ∧ Fr n0 L ∧ Keep h0 h [o0] ∧ Fld Z h o0 cN0 "coder" "B" (.int 0) ∧ Exa Z h o0 cN0 ∧ Fld Z h o0 cN0 "value" "[B" (.ref o1))) 0 0 := own_go own_pn8 fun p e s m below meth c s₁ hns hrt hnm hml hZ hx hby hown X0 e0 => by
 have N0 := Fr.nil n0
 refine own_cast (own_ef6 m o0) ?_
 refine oAN X0 hx hby dd7_0 rfl rfl ?_
 refine oS (fun _ => XS.ifnullNo X0.here hx rfl (hb hby dd7_1) rfl) ?_
 refine oAN X0 hx hby dd7_4 rfl rfl ?_
 refine own_cV X0 hx hZ hown e0 (y := mN9) (z := mN7) (b := o0) (hw 57) (hw 58) (own_nf (args := #[]) (mvT hZ (hw 190)) rfl) (hw 60) (hw 61) (hw 3) (hw 62) (by decide) I0 (W := 0) (own_rm10 l Z a0 hw [] i0 i1 m0 o0 o1 h0 n0 Z0 O0 I1 I2 I3 I4 I5 I0 I6 I7 I8) [] [] hml (lenOf own_pd7 rfl) (hb hby dd7_5) fun T0 h1 v0 L0 X1 e1 q0 => ?_
 obtain ⟨rfl, N1, K0, F0, F1, F2⟩ := q0
 have N2 := Fr.app N0 N1
 have z0 := K0.1
 refine oGO X1 hx hby (pc' := 12) dd7_8 ?_
 have K1 : Keep h0 h1 [o0] := ((Keep.refl h0 [o0]).trans K0 (allS (Or.inl (by simp)) all0))
 exact own_retI X1 hx hns hrt (hb hby dd7_12) e1 (by decide) (by decide) (⟨rfl, N2, K1, F0, F1, F2⟩)
theorem own_pd8 : parseMethodDescriptor "(Ljava/lang/Object;)I" = some ⟨[(.object cN1)], (some .int)⟩ := by decide +kernel
theorem dd6_36 : decode B6 36 = .ok (.invokestatic 28, 3) := by decide +kernel
theorem dd6_39 : decode B6 39 = .ok (.iadd, 1) := by decide +kernel
theorem dd6_40 : decode B6 40 = .ok (.istore 6, 2) := by decide +kernel
theorem dd6_42 : decode B6 42 = .ok (.bipush 31, 2) := by decide +kernel
theorem dd6_44 : decode B6 44 = .ok (.bipush 31, 2) := by decide +kernel
theorem dd6_46 : decode B6 46 = .ok (.iload 6, 2) := by decide +kernel
theorem dd6_48 : decode B6 48 = .ok (.imul, 1) := by decide +kernel
theorem dd6_49 : decode B6 49 = .ok (.iload_n 3, 1) := by decide +kernel
theorem dd6_50 : decode B6 50 = .ok (.iadd, 1) := by decide +kernel
theorem dd6_51 : decode B6 51 = .ok (.imul, 1) := by decide +kernel
theorem dd6_52 : decode B6 52 = .ok (.iload 4, 2) := by decide +kernel
theorem dd6_54 : decode B6 54 = .ok (.iadd, 1) := by decide +kernel
theorem dd6_55 : decode B6 55 = .ok (.istore 6, 2) := by decide +kernel
theorem dd6_57 : decode B6 57 = .ok (.aload 5, 2) := by decide +kernel
theorem dd11_0 : decode B01 0 = .ok (.new 61, 3) := by decide +kernel
theorem dd11_3 : decode B01 3 = .ok (.dup, 1) := by decide +kernel
theorem dd11_4 : decode B01 4 = .ok (.aload_n 0, 1) := by decide +kernel
theorem dd11_5 : decode B01 5 = .ok (.aload_n 0, 1) := by decide +kernel
theorem dd12_0 : decode B02 0 = .ok (.aload_n 0, 1) := by decide +kernel
theorem dd12_1 : decode B02 1 = .ok (.getfield 7, 3) := by decide +kernel
theorem dd12_4 : decode B02 4 = .ok (.arraylength, 1) := by decide +kernel
theorem dd12_5 : decode B02 5 = .ok (.ireturn, 1) := by decide +kernel
theorem own_pn9 : plainFor mN10 = true := by decide +kernel
theorem own_rm14 (l : Launch) (Z : State) (a0 : Array Value) (hw : own_W a0 Z) (ws : List Jvm.Cond) (m0 : ClassId) (o0 o1 : Nat) (h0 : Heap) (n0 : Nat) (Z0 : n0 ≤ h0.size) (O0 : Old Z n0 h0) (I0 : Fld Z Z.heap o0 cN2 "elements" cN3 (.ref o1)) (I1 : Arv Z Z.heap o1 m0 (FieldType.object cN1) 0 [] .null) :
 own_Met l Z h0 mN10 B02 1 (Option.some FieldType.int) ws (own_R 0 0 0 0) #[(.ref o0)] (fun v h L => (v = some (.int 0) ∧ Fr n0 L ∧ h = h0)) 0 0 := own_go own_pn9 fun p e s m below meth c s₁ hns hrt hnm hml hZ hx hby hown X0 e1 => by
 have N0 := Fr.nil n0
 refine own_cast (own_ef6 m o0) ?_
 refine oAN X0 hx hby dd12_0 rfl rfl ?_
 have F0 := Fld.ext O0.2 I0
 refine own_gF X0 hx hZ hown (hw 95) e1 F0 (hb hby dd12_1) fun T0 X1 e0 => ?_
 have F1 := I1.ext O0.2
 refine oS (own_len X1 hx hZ e0 F1 rfl rfl (hb hby dd12_4)) ?_
 exact own_retI X1 hx hns hrt (hb hby dd12_5) e0 (by decide) (by decide) (⟨rfl, N0, rfl⟩)
theorem dd11_6 : decode B01 6 = .ok (.invokevirtual 13, 3) := by decide +kernel
theorem dd13_0 : decode B03 0 = .ok (.aload_n 0, 1) := by decide +kernel
theorem dd13_1 : decode B03 1 = .ok (.invokespecial 1, 3) := by decide +kernel
theorem dd13_4 : decode B03 4 = .ok (.aload_n 0, 1) := by decide +kernel
theorem dd13_5 : decode B03 5 = .ok (.aload_n 1, 1) := by decide +kernel
theorem dd13_6 : decode B03 6 = .ok (.putfield 7, 3) := by decide +kernel
theorem dd13_9 : decode B03 9 = .ok (.aload_n 0, 1) := by decide +kernel
theorem dd13_10 : decode B03 10 = .ok (.iload_n 2, 1) := by decide +kernel
theorem dd13_11 : decode B03 11 = .ok (.putfield 13, 3) := by decide +kernel
theorem dd13_14 : decode B03 14 = .ok (.aload_n 0, 1) := by decide +kernel
theorem dd13_15 : decode B03 15 = .ok (.iconst 0, 1) := by decide +kernel
theorem dd13_16 : decode B03 16 = .ok (.putfield 17, 3) := by decide +kernel
theorem dd13_19 : decode B03 19 = .ok (.aload_n 0, 1) := by decide +kernel
theorem dd13_20 : decode B03 20 = .ok (.iconst 0, 1) := by decide +kernel
theorem dd13_21 : decode B03 21 = .ok (.putfield 20, 3) := by decide +kernel
theorem dd13_24 : decode B03 24 = .ok (.return_, 1) := by decide +kernel
theorem own_pn10 : plainFor mN11 = true := by decide +kernel
theorem own_rm15 (l : Launch) (Z : State) (a0 : Array Value) (hw : own_W a0 Z) (ws : List Jvm.Cond) (o0 o1 : Nat) (h0 : Heap) (n0 : Nat) (Z0 : n0 ≤ h0.size) (O0 : Old Z n0 h0) (I1 : Fld Z h0 o0 cN4 "list" cN5 .null) (I2 : Exa Z h0 o0 cN4) (I0 : n0 ≤ o0) (I3 : Fld Z h0 o0 cN4 "size" "I" (.int 0)) (I4 : Fld Z h0 o0 cN4 "cursor" "I" (.int 0)) (I5 : Fld Z h0 o0 cN4 "isListIterator" "Z" (.int 0)) :
 own_Met l Z h0 mN11 B03 3 (Option.none : Option FieldType) ws (own_R 1 0 0 12) #[(.ref o0), (.ref o1), (.int 0)] (fun v h L => (v = none ∧ Fr n0 L ∧ Keep h0 h [o0] ∧ Fld Z h o0 cN4 "list" cN5 (.ref o1) ∧ Fld Z h o0 cN4 "size" "I" (.int 0) ∧ Exa Z h o0 cN4 ∧ Fld Z h o0 cN4 "cursor" "I" (.int 0) ∧ Fld Z h o0 cN4 "isListIterator" "Z" (.int 0))) 0 0 := own_go own_pn10 fun p e s m below meth c s₁ hns hrt hnm hml hZ hx hby hown X4 e0 => by
 have N0 := Fr.nil n0
 refine own_cast (own_ef2 m o0 o1 0) ?_
 refine oAN X4 hx hby dd13_0 rfl rfl ?_
 obtain ⟨T1, X3, e1, s0⟩ := initO X4 hx hZ hown (hw 101) (hw 21) (hw 22) e0 (g := (mkF m 1 #[rv o0, rv o1, iv 0] [(.ref o0)])) rfl (by rw [hml]; rfl) rfl (hb hby dd13_1) (by decide) (W := 0) (by show 2 * 0 + _ ≤ _; exact Nat.le_of_eq rfl) (by decide)
 refine oS s0 ?_
 refine oAN X3 hx hby dd13_4 rfl rfl ?_
 refine oAN X3 hx hby dd13_5 rfl rfl ?_
 refine own_pF X3 hx hZ hown (hw 102) e1 I1 I2 (Or.inr ⟨(hw 103), rfl, hnm⟩) (hw 86) (ty := (.object "java/util/List")) rfl rfl (hb hby dd13_6) fun T2 h2 X0 e2 W0 => ?_
 have N1 := Fr.snoc X0 N0 I0
 have z0 := W0.size
 have F6 := Fld.same W0 I1
 refine oAN X0 hx hby dd13_9 rfl rfl ?_
 refine oIN X0 hx hby dd13_10 rfl ?_
 have F0 := Fld.other W0 I3 (Or.inr (slot_ne (C := cN4) (Or.inr (hw 105)) (Or.inr (hw 103)) (by decide) (t := .int) (t' := (.object "java/util/List")) (by decide) (by decide)))
 have F1 := Exa.wr W0 I2
 refine own_pF X0 hx hZ hown (hw 104) e2 F0 F1 (Or.inr ⟨(hw 105), rfl, hnm⟩) (hw 86) (ty := .int) rfl rfl (hb hby dd13_11) fun T0 h3 X1 e3 W1 => ?_
 have N2 := Fr.snoc X1 N1 I0
 have z1 := W1.size
 have F7 := Fld.same W1 F0
 refine oAN X1 hx hby dd13_14 rfl rfl ?_
 refine oIC X1 hx hby dd13_15 ?_
 show own_G p e below (T0.setTop (mkF m 16 #[rv o0, rv o1, iv 0] [(.int 0), (.ref o0)])) _
 have F2 := Fld.other W1 (Fld.other W0 I4 (Or.inr (slot_ne (C := cN4) (Or.inl (hw 107)) (Or.inr (hw 103)) (by decide) (t := .int) (t' := (.object "java/util/List")) (by decide) (by decide)))) (Or.inr (slot_ne (C := cN4) (Or.inl (hw 107)) (Or.inr (hw 105)) (by decide) (t := .int) (t' := .int) (by decide) (by decide)))
 have F3 := Exa.wr W1 F1
 refine own_pF X1 hx hZ hown (hw 106) e3 F2 F3 (Or.inl (hw 107)) (hw 86) (ty := .int) rfl rfl (hb hby dd13_16) fun T3 h4 X2 e4 W2 => ?_
 have N3 := Fr.snoc X2 N2 I0
 have z2 := W2.size
 have F8 := Fld.same W2 F2
 refine oAN X2 hx hby dd13_19 rfl rfl ?_
 refine oIC X2 hx hby dd13_20 ?_
 have F4 := Fld.other W2 (Fld.other W1 (Fld.other W0 I5 (Or.inr (slot_ne (C := cN4) (Or.inr (hw 109)) (Or.inr (hw 103)) (by decide) (t := .boolean) (t' := (.object "java/util/List")) (by decide) (by decide)))) (Or.inr (slot_ne (C := cN4) (Or.inr (hw 109)) (Or.inr (hw 105)) (by decide) (t := .boolean) (t' := .int) (by decide) (by decide)))) (Or.inr (slot_ne (C := cN4) (Or.inr (hw 109)) (Or.inl (hw 107)) (by decide) (t := .boolean) (t' := .int) (by decide) (by decide)))
 have F5 := Exa.wr W2 F3
 refine own_pF X2 hx hZ hown (hw 108) e4 F4 F5 (Or.inr ⟨(hw 109), rfl, hnm⟩) (hw 86) (ty := .boolean) (by decide) (by decide) (hb hby dd13_21) fun T4 h1 X5 e5 W3 => ?_
 have N4 := Fr.snoc X5 N3 I0
 have z3 := W3.size
 have F9 := Fld.same W3 F4
 have F00 := Fld.other W3 (Fld.other W2 (Fld.other W1 F6 (Or.inr (slot_ne (C := cN4) (Or.inr (hw 103)) (Or.inr (hw 105)) (by decide) (t := (.object "java/util/List")) (t' := .int) (by decide) (by decide)))) (Or.inr (slot_ne (C := cN4) (Or.inr (hw 103)) (Or.inl (hw 107)) (by decide) (t := (.object "java/util/List")) (t' := .int) (by decide) (by decide)))) (Or.inr (slot_ne (C := cN4) (Or.inr (hw 103)) (Or.inr (hw 109)) (by decide) (t := (.object "java/util/List")) (t' := .boolean) (by decide) (by decide)))
 have F01 := Fld.other W3 (Fld.other W2 F7 (Or.inr (slot_ne (C := cN4) (Or.inr (hw 105)) (Or.inl (hw 107)) (by decide) (t := .int) (t' := .int) (by decide) (by decide)))) (Or.inr (slot_ne (C := cN4) (Or.inr (hw 105)) (Or.inr (hw 109)) (by decide) (t := .int) (t' := .boolean) (by decide) (by decide)))
 have F02 := Exa.wr W3 F5
 have F03 := Fld.other W3 F8 (Or.inr (slot_ne (C := cN4) (Or.inl (hw 107)) (Or.inr (hw 109)) (by decide) (t := .int) (t' := .boolean) (by decide) (by decide)))
 have K0 : Keep h0 h1 [o0] := (((((Keep.refl h0 [o0]).wr W0 (Or.inl (by simp))).wr W1 (Or.inl (by simp))).wr W2 (Or.inl (by simp))).wr W3 (Or.inl (by simp)))
 exact own_retV X5 hx hns hrt (hb hby dd13_24) e5 (by decide) (by decide) (⟨rfl, N4, K0, F00, F01, F02, F03, F9⟩)
theorem own_pd9 : parseMethodDescriptor "(Ljava/util/List;I)V" = some ⟨[(.object "java/util/List"), .int], none⟩ := by decide +kernel
theorem dd11_9 : decode B01 9 = .ok (.invokespecial 63, 3) := by decide +kernel
theorem dd11_12 : decode B01 12 = .ok (.areturn, 1) := by decide +kernel
theorem own_pn11 : plainFor mN12 = true := by decide +kernel
theorem own_rm13 (l : Launch) (Z : State) (a0 : Array Value) (hw : own_W a0 Z) (ws : List Jvm.Cond) (m0 : ClassId) (o1 o2 : Nat) (h1 : Heap) (n0 : Nat) (Z2 : n0 ≤ h1.size) (O1 : Old Z n0 h1) (I0 : Fld Z Z.heap o1 cN2 "elements" cN3 (.ref o2)) (I1 : Arv Z Z.heap o2 m0 (FieldType.object cN1) 0 [] .null) (I2 : Exa Z Z.heap o1 cN2) :
 own_Met l Z h1 mN12 B01 1 (Option.some (FieldType.object cN6)) ws (own_R 2 1 4 27) #[(.ref o1)] (fun v h L => (∃ o0 : Nat, v = some (.ref o0) ∧ Fr n0 L ∧ Keep h1 h [] ∧ h1.size ≤ o0 ∧ Exa Z h o0 cN4 ∧ Fld Z h o0 cN4 "list" cN5 (.ref o1) ∧ Fld Z h o0 cN4 "size" "I" (.int 0) ∧ Fld Z h o0 cN4 "cursor" "I" (.int 0) ∧ Fld Z h o0 cN4 "isListIterator" "Z" (.int 0) ∧ @LT.lt Nat instLTNat o0 h.size)) 1 4 := own_go own_pn11 fun p e s m below meth c s₁ hns hrt hnm hml hZ hx hby hown X1 e0 => by
 have N0 := Fr.nil n0
 refine own_cast (own_ef6 m o1) ?_
 obtain ⟨T0, h0, X0, e1, E0, A0, D0, U0, s0⟩ := newO X1 hx hZ hown (hw 85) (hw 86) (hw 87) e0 (g := (mkF m 0 #[rv o1] [])) rfl (hb hby dd11_0) (by decide) (by decide)
 obtain ⟨o0, g0⟩ : ∃ z, z = h1.size := ⟨_, rfl⟩
 rw [← g0] at A0 D0 U0 s0
 have z0 := E0.1
 have y1 : @LT.lt Nat instLTNat o0 h0.size := A0.lt
 refine oS s0 ?_
 have F0 : Fld Z h0 o0 cN4 "list" cN5 .null := D0 (Or.inr (hw 103)) (ty := (.object "java/util/List")) (by decide)
 have F1 : Fld Z h0 o0 cN4 "size" "I" (.int 0) := D0 (Or.inr (hw 105)) (ty := .int) (by decide)
 have F2 : Fld Z h0 o0 cN4 "cursor" "I" (.int 0) := D0 (Or.inl (hw 107)) (ty := .int) (by decide)
 have F3 : Fld Z h0 o0 cN4 "isListIterator" "Z" (.int 0) := D0 (Or.inr (hw 109)) (ty := .boolean) (by decide)
 refine oS (fun _ => XS.dup X0.here hx rfl (hb hby dd11_3) rfl rfl) ?_
 refine oAN X0 hx hby dd11_4 rfl rfl ?_
 refine oAN X0 hx hby dd11_5 rfl rfl ?_
 have O0 : Old Z n0 h0 := O1.ext E0
 have Z0 : n0 ≤ h0.size := by omega
 have F4 := Exa.ext O0.2 I2
 refine own_cU X0 hx hZ hown e1 (y := mN13) (z := mN10) (owner := "java/util/AbstractCollection") (b := o1) (hw 88) (hw 89) (hw 90) (hw 91) (hw 92) (hw 93) (hw 94) (by decide) F4 (W := 3) (own_rm14 l Z a0 hw [] m0 o1 o2 h0 n0 Z0 O0 I0 I1) [] [(.ref o1), (.ref o0), (.ref o0)] hml (lenOf own_pd7 rfl) (hb hby dd11_6) fun T1 h3 v0 L0 X2 e2 q0 => ?_
 obtain ⟨rfl, N1, K1⟩ := q0
 have N2 := Fr.app N0 N1
 have e3 := e2.trans K1
 have N3 : n0 ≤ o0 := by omega
 have Z1 : n0 ≤ h0.size := by omega
 refine own_cN X2 hx hZ hown e3 (y := mN11) (b := o0) rfl (hw 97) (hw 98) (hw 87) (hw 100) (by decide) (W := 1) (own_rm15 l Z a0 hw [] o0 o1 h0 n0 Z1 O0 F0 A0 N3 F1 F2 F3) [(.ref o1), (.int 0)] [(.ref o0)] hml (lenOf own_pd9 rfl) (hb hby dd11_9) fun T2 h2 v1 L1 X3 e4 q1 => ?_
 obtain ⟨rfl, N4, K0, F5, F6, F7, F8, F9⟩ := q1
 have N5 := Fr.app N2 N4
 have z1 := K0.1
 have y0 : @LT.lt Nat instLTNat o0 h2.size := by omega
 have K2 : Keep h1 h2 [] := (((Keep.refl h1 []).ext E0).trans K0 (allS (Or.inr (by omega)) all0))
 exact own_retA X3 hx hns hrt rfl rfl (hb hby dd11_12) e4 (by decide) (by decide) (⟨o0, rfl, N5, K2, (by omega), F7, F5, F6, F8, F9, y0⟩)
theorem own_pd10 : parseMethodDescriptor "()Ljava/util/Iterator;" = some ⟨[], (some (.object cN6))⟩ := by decide +kernel
theorem dd6_59 : decode B6 59 = .ok (.invokeinterface 34 1, 5) := by decide +kernel
theorem dd6_64 : decode B6 64 = .ok (.astore 7, 2) := by decide +kernel
theorem dd6_66 : decode B6 66 = .ok (.aload 7, 2) := by decide +kernel
theorem dd14_0 : decode B04 0 = .ok (.aload_n 0, 1) := by decide +kernel
theorem dd14_1 : decode B04 1 = .ok (.getfield 17, 3) := by decide +kernel
theorem dd14_4 : decode B04 4 = .ok (.aload_n 0, 1) := by decide +kernel
theorem dd14_5 : decode B04 5 = .ok (.getfield 13, 3) := by decide +kernel
theorem dd14_8 : decode B04 8 = .ok (.if_icmp .eq 7, 3) := by decide +kernel
theorem dd14_15 : decode B04 15 = .ok (.iconst 0, 1) := by decide +kernel
theorem dd14_16 : decode B04 16 = .ok (.ireturn, 1) := by decide +kernel
theorem own_pn12 : plainFor mN14 = true := by decide +kernel
theorem own_rm16 (l : Launch) (Z : State) (a0 : Array Value) (hw : own_W a0 Z) (ws : List Jvm.Cond) (o0 : Nat) (h0 : Heap) (n0 : Nat) (Z0 : n0 ≤ h0.size) (O0 : Old Z n0 h0) (I0 : Fld Z h0 o0 cN4 "cursor" "I" (.int 0)) (I1 : Fld Z h0 o0 cN4 "size" "I" (.int 0)) :
 own_Met l Z h0 mN14 B04 1 (Option.some FieldType.boolean) ws (own_R 0 0 0 0) #[(.ref o0)] (fun v h L => (v = some (.int 0) ∧ Fr n0 L ∧ h = h0)) 0 0 := own_go own_pn12 fun p e s m below meth c s₁ hns hrt hnm hml hZ hx hby hown X1 e0 => by
 have N0 := Fr.nil n0
 refine own_cast (own_ef6 m o0) ?_
 refine oAN X1 hx hby dd14_0 rfl rfl ?_
 refine own_gF X1 hx hZ hown (hw 106) e0 I0 (hb hby dd14_1) fun T0 X2 e1 => ?_
 refine oAN X2 hx hby dd14_4 rfl rfl ?_
 refine own_gF X2 hx hZ hown (hw 104) e1 I1 (hb hby dd14_5) fun T1 X0 e2 => ?_
 refine oYI X0 hx hby (pc' := 15) dd14_8 (XT.ii_eq_t (by decide)) ?_
 refine oIC X0 hx hby dd14_15 ?_
 exact own_retN X0 hx (t := .boolean) hns hrt (by simp) (hb hby dd14_16) (by decide) e2 (by decide) (by decide) (⟨rfl, N0, rfl⟩)
theorem dd6_68 : decode B6 68 = .ok (.invokeinterface 40 1, 5) := by decide +kernel
theorem dd6_73 : decode B6 73 = .ok (.ifCond .eq 33, 3) := by decide +kernel
theorem dd6_106 : decode B6 106 = .ok (.aload_n 0, 1) := by decide +kernel
theorem dd6_107 : decode B6 107 = .ok (.iload 6, 2) := by decide +kernel
theorem dd6_109 : decode B6 109 = .ok (.putfield 55, 3) := by decide +kernel
theorem dd6_112 : decode B6 112 = .ok (.return_, 1) := by decide +kernel
theorem own_pn13 : plainFor mN15 = true := by decide +kernel
theorem own_rm8 (l : Launch) (Z : State) (a0 : Array Value) (hw : own_W a0 Z) (ws : List Jvm.Cond) (i0 i1 i3 i2 : Int32) (m0 m1 : ClassId) (o0 o1 o2 o3 o5 : Nat) (h0 : Heap) (n0 : Nat) (Z3 : n0 ≤ h0.size) (O2 : Old Z n0 h0) (I3 : Fld Z h0 o0 cN7 "type" "S" (.int 0)) (I4 : Exa Z h0 o0 cN7) (I1 : n0 ≤ o0) (I7 : Fld Z h0 o0 cN7 "name" cN8 .null) (I8 : Fld Z h0 o0 cN7 "minOccurs" "I" (.int 0)) (I9 : Fld Z h0 o0 cN7 "maxOccurs" "I" (.int 0)) (I00 : Fld Z h0 o0 cN7 "particles" cN5 .null) (I01 : Fld Z h0 o1 cN0 "hash" "I" (.int 0)) (I0 : @Ne Nat o1 o0) (I02 : Fld Z h0 o1 cN0 "hashIsZero" "Z" (.int 0)) (I03 : Sta Z Z.heap cN0 "COMPACT_STRINGS" "Z" (.int i3)) (I04 : ¬ (i3 = 0)) (I05 : Fld Z h0 o1 cN0 "coder" "B" (.int 0)) (I06 : Exa Z h0 o1 cN0) (I07 : Fld Z h0 o1 cN0 "value" "[B" (.ref o3)) (I08 : Arv Z h0 o3 m0 .byte 1 [(.int (i2.toInt8.toInt32))] (.int 0)) (I2 : @Ne Nat o3 o0) (I5 : n0 ≤ o1) (I09 : Fld Z Z.heap o2 cN2 "elements" cN3 (.ref o5)) (I0a : Arv Z Z.heap o5 m1 (FieldType.object cN1) 0 [] .null) (I6 : Exa Z Z.heap o2 cN2) (I0b : Fld Z h0 o0 cN7 "hash" "I" (.int 0)) :
 own_Met l Z h0 mN15 B6 9 (Option.none : Option FieldType) ws (own_R 3 1 4 39) #[(.ref o0), (.int 1), (.ref o1), (.int i0), (.int i1), (.ref o2)] (fun v h L => (v = none ∧ Fr n0 L ∧ Keep h0 h [o0, o1] ∧ Fld Z h o0 cN7 "type" "S" (.int 1) ∧ Fld Z h o0 cN7 "name" cN8 (.ref o1) ∧ Exa Z h o0 cN7 ∧ Fld Z h o0 cN7 "minOccurs" "I" (.int i0) ∧ Fld Z h o0 cN7 "maxOccurs" "I" (.int i1) ∧ Fld Z h o0 cN7 "particles" cN5 (.ref o2) ∧ Fld Z h o0 cN7 "hash" "I" (.int (((31 : Int32) * (((31 : Int32) * ((31 : Int32) + ((i2.toInt8.toInt32) &&& 255))) + i0)) + i1)) ∧ Fld Z h o1 cN0 "coder" "B" (.int 0) ∧ Exa Z h o1 cN0 ∧ Fld Z h o1 cN0 "value" "[B" (.ref o3))) 1 4 := own_go own_pn13 fun p e s m below meth c s₁ hns hrt hnm hml hZ hx hby hown X9 e0 => by
 have N0 := Fr.nil n0
 refine own_cast (own_ef5 m o0 1 o1 i0 i1 o2) ?_
 refine oAN X9 hx hby dd6_0 rfl rfl ?_
 obtain ⟨T4, X7, e1, s0⟩ := initO X9 hx hZ hown (hw 42) (hw 21) (hw 22) e0 (g := (mkF m 1 #[rv o0, iv 1, rv o1, iv i0, iv i1, rv o2, .unset, .unset, .unset] [(.ref o0)])) rfl (by rw [hml]; rfl) rfl (hb hby dd6_1) (by decide) (W := 0) (by show 2 * 0 + _ ≤ _; exact Nat.le_of_eq rfl) (by decide)
 refine oS s0 ?_
 refine oAN X7 hx hby dd6_4 rfl rfl ?_
 refine oIN X7 hx hby dd6_5 rfl ?_
 refine own_pF X7 hx hZ hown (hw 43) e1 I3 I4 (Or.inr ⟨(hw 44), rfl, hnm⟩) (hw 32) (ty := .short) (by decide) (by decide) (hb hby dd6_6) fun T5 h4 X2 e2 W0 => ?_
 have N1 := Fr.snoc X2 N0 I1
 have z0 := W0.size
 have F00 := Fld.same W0 I3
 refine oAN X2 hx hby dd6_9 rfl rfl ?_
 refine oAN X2 hx hby dd6_10 rfl rfl ?_
 have F0 := Fld.other W0 I7 (Or.inr (slot_ne (C := cN7) (Or.inr (hw 46)) (Or.inr (hw 44)) (by decide) (t := (.object cN0)) (t' := .short) (by decide) (by decide)))
 have F1 := Exa.wr W0 I4
 refine own_pF X2 hx hZ hown (hw 45) e2 F0 F1 (Or.inr ⟨(hw 46), rfl, hnm⟩) (hw 32) (ty := (.object cN0)) rfl rfl (hb hby dd6_11) fun T0 h5 X3 e3 W1 => ?_
 have N2 := Fr.snoc X3 N1 I1
 have z1 := W1.size
 have F01 := Fld.same W1 F0
 refine oAN X3 hx hby dd6_14 rfl rfl ?_
 refine oIN X3 hx hby dd6_15 rfl ?_
 show own_G p e below (T0.setTop (mkF m 16 #[rv o0, iv 1, rv o1, iv i0, iv i1, rv o2, .unset, .unset, .unset] [(.int i0), (.ref o0)])) _
 have F2 := Fld.other W1 (Fld.other W0 I8 (Or.inr (slot_ne (C := cN7) (Or.inr (hw 48)) (Or.inr (hw 44)) (by decide) (t := .int) (t' := .short) (by decide) (by decide)))) (Or.inr (slot_ne (C := cN7) (Or.inr (hw 48)) (Or.inr (hw 46)) (by decide) (t := .int) (t' := (.object cN0)) (by decide) (by decide)))
 have F3 := Exa.wr W1 F1
 refine own_pF X3 hx hZ hown (hw 47) e3 F2 F3 (Or.inr ⟨(hw 48), rfl, hnm⟩) (hw 32) (ty := .int) rfl rfl (hb hby dd6_16) fun T6 h6 X4 e4 W2 => ?_
 have N3 := Fr.snoc X4 N2 I1
 have z2 := W2.size
 have F02 := Fld.same W2 F2
 refine oAN X4 hx hby dd6_19 rfl rfl ?_
 refine oIL X4 hx hby dd6_20 rfl ?_
 have F4 := Fld.other W2 (Fld.other W1 (Fld.other W0 I9 (Or.inr (slot_ne (C := cN7) (Or.inr (hw 50)) (Or.inr (hw 44)) (by decide) (t := .int) (t' := .short) (by decide) (by decide)))) (Or.inr (slot_ne (C := cN7) (Or.inr (hw 50)) (Or.inr (hw 46)) (by decide) (t := .int) (t' := (.object cN0)) (by decide) (by decide)))) (Or.inr (slot_ne (C := cN7) (Or.inr (hw 50)) (Or.inr (hw 48)) (by decide) (t := .int) (t' := .int) (by decide) (by decide)))
 have F5 := Exa.wr W2 F3
 refine own_pF X4 hx hZ hown (hw 49) e4 F4 F5 (Or.inr ⟨(hw 50), rfl, hnm⟩) (hw 32) (ty := .int) rfl rfl (hb hby dd6_22) fun T7 h7 X5 e5 W3 => ?_
 have N4 := Fr.snoc X5 N3 I1
 have z3 := W3.size
 have F03 := Fld.same W3 F4
 refine oAN X5 hx hby dd6_25 rfl rfl ?_
 refine oAL X5 hx hby dd6_26 rfl rfl ?_
 have F6 := Fld.other W3 (Fld.other W2 (Fld.other W1 (Fld.other W0 I00 (Or.inr (slot_ne (C := cN7) (Or.inr (hw 52)) (Or.inr (hw 44)) (by decide) (t := (.object "java/util/List")) (t' := .short) (by decide) (by decide)))) (Or.inr (slot_ne (C := cN7) (Or.inr (hw 52)) (Or.inr (hw 46)) (by decide) (t := (.object "java/util/List")) (t' := (.object cN0)) (by decide) (by decide)))) (Or.inr (slot_ne (C := cN7) (Or.inr (hw 52)) (Or.inr (hw 48)) (by decide) (t := (.object "java/util/List")) (t' := .int) (by decide) (by decide)))) (Or.inr (slot_ne (C := cN7) (Or.inr (hw 52)) (Or.inr (hw 50)) (by decide) (t := (.object "java/util/List")) (t' := .int) (by decide) (by decide)))
 have F7 := Exa.wr W3 F5
 refine own_pF X5 hx hZ hown (hw 51) e5 F6 F7 (Or.inr ⟨(hw 52), rfl, hnm⟩) (hw 32) (ty := (.object "java/util/List")) rfl rfl (hb hby dd6_28) fun T1 h1 X1 e6 W4 => ?_
 have N5 := Fr.snoc X1 N4 I1
 have z4 := W4.size
 have F04 := Fld.same W4 F6
 refine oS (fun _ => XS.bipush X1.here hx rfl (hb hby dd6_31) ) ?_
 refine oIN X1 hx hby dd6_33 rfl ?_
 refine oS (fun _ => XS.imul X1.here hx rfl (hb hby dd6_34) rfl) ?_
 show own_G p e below (T1.setTop (mkF m 35 #[rv o0, iv 1, rv o1, iv i0, iv i1, rv o2, .unset, .unset, .unset] [(.int 31)])) _
 refine oAN X1 hx hby dd6_35 rfl rfl ?_
 have F05 := Fld.other W4 (Fld.other W3 (Fld.other W2 (Fld.other W1 (Fld.other W0 I01 (Or.inl I0)) (Or.inl I0)) (Or.inl I0)) (Or.inl I0)) (Or.inl I0)
 have F06 := Fld.other W4 (Fld.other W3 (Fld.other W2 (Fld.other W1 (Fld.other W0 I02 (Or.inl I0)) (Or.inl I0)) (Or.inl I0)) (Or.inl I0)) (Or.inl I0)
 have F07 := Fld.other W4 (Fld.other W3 (Fld.other W2 (Fld.other W1 (Fld.other W0 I05 (Or.inl I0)) (Or.inl I0)) (Or.inl I0)) (Or.inl I0)) (Or.inl I0)
 have F08 := Exa.wr W4 (Exa.wr W3 (Exa.wr W2 (Exa.wr W1 (Exa.wr W0 I06))))
 have F09 := Fld.other W4 (Fld.other W3 (Fld.other W2 (Fld.other W1 (Fld.other W0 I07 (Or.inl I0)) (Or.inl I0)) (Or.inl I0)) (Or.inl I0)) (Or.inl I0)
 have F0a := ((((I08.other W0 I2).other W1 I2).other W2 I2).other W3 I2).other W4 I2
 have O3 : Old Z n0 h4 := O2.wr W0 I1
 have O4 : Old Z n0 h5 := O3.wr W1 I1
 have O5 : Old Z n0 h6 := O4.wr W2 I1
 have O6 : Old Z n0 h7 := O5.wr W3 I1
 have O1 : Old Z n0 h1 := O6.wr W4 I1
 have Z0 : n0 ≤ h1.size := by omega
 refine own_cS X1 hx hZ hown e6 (y := mN8) (hw 53) (hw 54) (hw 55) (hw 56) (by decide) (W := 1) (own_rm9 l Z a0 hw [] i3 i2 m0 o1 o3 h1 n0 Z0 O1 F05 F06 I03 I04 F07 F08 F09 F0a I5) [(.ref o1)] [(.int 31)] hml (lenOf own_pd8 rfl) (hb hby dd6_36) fun T2 h2 v0 L0 X0 e7 q0 => ?_
 obtain ⟨rfl, N6, K1, F0b, F0c, F0d⟩ := q0
 have N7 := Fr.app N5 N6
 have z5 := K1.1
 refine oS (fun _ => XS.iadd X0.here hx rfl (hb hby dd6_39) rfl) ?_
 refine oIS X0 hx hby dd6_40 (l' := #[rv o0, iv 1, rv o1, iv i0, iv i1, rv o2, iv ((31 : Int32) + ((i2.toInt8.toInt32) &&& 255)), .unset, .unset]) rfl ?_
 refine oS (fun _ => XS.bipush X0.here hx rfl (hb hby dd6_42) ) ?_
 refine oS (fun _ => XS.bipush X0.here hx rfl (hb hby dd6_44) ) ?_
 refine oIL X0 hx hby dd6_46 rfl ?_
 refine oS (fun _ => XS.imul X0.here hx rfl (hb hby dd6_48) rfl) ?_
 refine oIN X0 hx hby dd6_49 rfl ?_
 refine oS (fun _ => XS.iadd X0.here hx rfl (hb hby dd6_50) rfl) ?_
 show own_G p e below (T2.setTop (mkF m 51 #[rv o0, iv 1, rv o1, iv i0, iv i1, rv o2, iv ((31 : Int32) + ((i2.toInt8.toInt32) &&& 255)), .unset, .unset] [(.int (((31 : Int32) * ((31 : Int32) + ((i2.toInt8.toInt32) &&& 255))) + i0)), (.int 31)])) _
 refine oS (fun _ => XS.imul X0.here hx rfl (hb hby dd6_51) rfl) ?_
 refine oIL X0 hx hby dd6_52 rfl ?_
 refine oS (fun _ => XS.iadd X0.here hx rfl (hb hby dd6_54) rfl) ?_
 refine oIS X0 hx hby dd6_55 (l' := #[rv o0, iv 1, rv o1, iv i0, iv i1, rv o2, iv (((31 : Int32) * (((31 : Int32) * ((31 : Int32) + ((i2.toInt8.toInt32) &&& 255))) + i0)) + i1), .unset, .unset]) rfl ?_
 refine oAL X0 hx hby dd6_57 rfl rfl ?_
 have O0 : Old Z n0 h2 := O1.keep K1 (allS I5 all0)
 have Z1 : n0 ≤ h2.size := by omega
 have F0e := Exa.ext O0.2 I6
 refine own_cI X0 hx hZ hown e7 (y := mN16) (z := mN12) (b := o2) (hw 75) (hw 76) (hw 77) rfl (hw 78) (hw 79) (hw 80) (hw 81) (hw 82) (hw 83) (hw 84) (by decide) F0e (W := 0) (own_rm13 l Z a0 hw [] m1 o2 o5 h2 n0 Z1 O0 I09 I0a I6) [] [] hml (lenOf own_pd10 rfl) (hb hby dd6_59) fun T8 h3 v1 L1 X8 e8 q1 => ?_
 obtain ⟨o4, rfl, N8, K0, F0s, F0f, F0t, F0g, F0h, F0u, F0v⟩ := q1
 have N9 := Fr.app N7 N8
 have z6 := K0.1
 refine oAS X8 hx hby dd6_64 rfl (l' := #[rv o0, iv 1, rv o1, iv i0, iv i1, rv o2, iv (((31 : Int32) * (((31 : Int32) * ((31 : Int32) + ((i2.toInt8.toInt32) &&& 255))) + i0)) + i1), rv o4, .unset]) rfl ?_
 refine oAL X8 hx hby dd6_66 rfl rfl ?_
 have O7 : Old Z n0 h3 := O0.keep K0 all0
 have Z2 : n0 ≤ h3.size := by omega
 refine own_cI X8 hx hZ hown e8 (y := mN17) (z := mN14) (b := o4) (hw 110) (hw 111) (hw 112) rfl (hw 113) (hw 114) (hw 115) (hw 116) (hw 117) (hw 87) (hw 118) (by decide) F0f (W := 0) (own_rm16 l Z a0 hw [] o4 h3 n0 Z2 O7 F0h F0g) [] [] hml (lenOf own_pd5 rfl) (hb hby dd6_68) fun T3 h9 v2 L2 X6 e9 q2 => ?_
 obtain ⟨rfl, N00, K2⟩ := q2
 have N01 := Fr.app N9 N00
 have e00 := e9.trans K2
 refine oY0 X6 hx hby (pc' := 106) dd6_73 (XT.i0_eq_t (by decide)) ?_
 show own_G p e below (T3.setTop (mkF m 106 #[rv o0, iv 1, rv o1, iv i0, iv i1, rv o2, iv (((31 : Int32) * (((31 : Int32) * ((31 : Int32) + ((i2.toInt8.toInt32) &&& 255))) + i0)) + i1), rv o4, .unset] [])) _
 refine oAN X6 hx hby dd6_106 rfl rfl ?_
 refine oIL X6 hx hby dd6_107 rfl ?_
 have F8 := ((Fld.other W4 (Fld.other W3 (Fld.other W2 (Fld.other W1 (Fld.other W0 I0b (Or.inr (slot_ne (C := cN7) (Or.inr (hw 120)) (Or.inr (hw 44)) (by decide) (t := .int) (t' := .short) (by decide) (by decide)))) (Or.inr (slot_ne (C := cN7) (Or.inr (hw 120)) (Or.inr (hw 46)) (by decide) (t := .int) (t' := (.object cN0)) (by decide) (by decide)))) (Or.inr (slot_ne (C := cN7) (Or.inr (hw 120)) (Or.inr (hw 48)) (by decide) (t := .int) (t' := .int) (by decide) (by decide)))) (Or.inr (slot_ne (C := cN7) (Or.inr (hw 120)) (Or.inr (hw 50)) (by decide) (t := .int) (t' := .int) (by decide) (by decide)))) (Or.inr (slot_ne (C := cN7) (Or.inr (hw 120)) (Or.inr (hw 52)) (by decide) (t := .int) (t' := (.object "java/util/List")) (by decide) (by decide)))).keep K1 (ninS (Ne.symm I0) nin0)).keep K0 nin0
 have F9 := ((Exa.wr W4 F7).keep K1).keep K0
 refine own_pF X6 hx hZ hown (hw 119) e00 F8 F9 (Or.inr ⟨(hw 120), rfl, hnm⟩) (hw 32) (ty := .int) rfl rfl (hb hby dd6_109) fun T9 h8 X00 e01 W5 => ?_
 have N02 := Fr.snoc X00 N01 I1
 have z7 := W5.size
 have F0i := Fld.same W5 F8
 have F0j := Fld.other W5 (((Fld.other W4 (Fld.other W3 (Fld.other W2 (Fld.other W1 F00 (Or.inr (slot_ne (C := cN7) (Or.inr (hw 44)) (Or.inr (hw 46)) (by decide) (t := .short) (t' := (.object cN0)) (by decide) (by decide)))) (Or.inr (slot_ne (C := cN7) (Or.inr (hw 44)) (Or.inr (hw 48)) (by decide) (t := .short) (t' := .int) (by decide) (by decide)))) (Or.inr (slot_ne (C := cN7) (Or.inr (hw 44)) (Or.inr (hw 50)) (by decide) (t := .short) (t' := .int) (by decide) (by decide)))) (Or.inr (slot_ne (C := cN7) (Or.inr (hw 44)) (Or.inr (hw 52)) (by decide) (t := .short) (t' := (.object "java/util/List")) (by decide) (by decide)))).keep K1 (ninS (Ne.symm I0) nin0)).keep K0 nin0) (Or.inr (slot_ne (C := cN7) (Or.inr (hw 44)) (Or.inr (hw 120)) (by decide) (t := .short) (t' := .int) (by decide) (by decide)))
 have F0k := Fld.other W5 (((Fld.other W4 (Fld.other W3 (Fld.other W2 F01 (Or.inr (slot_ne (C := cN7) (Or.inr (hw 46)) (Or.inr (hw 48)) (by decide) (t := (.object cN0)) (t' := .int) (by decide) (by decide)))) (Or.inr (slot_ne (C := cN7) (Or.inr (hw 46)) (Or.inr (hw 50)) (by decide) (t := (.object cN0)) (t' := .int) (by decide) (by decide)))) (Or.inr (slot_ne (C := cN7) (Or.inr (hw 46)) (Or.inr (hw 52)) (by decide) (t := (.object cN0)) (t' := (.object "java/util/List")) (by decide) (by decide)))).keep K1 (ninS (Ne.symm I0) nin0)).keep K0 nin0) (Or.inr (slot_ne (C := cN7) (Or.inr (hw 46)) (Or.inr (hw 120)) (by decide) (t := (.object cN0)) (t' := .int) (by decide) (by decide)))
 have F0l := Exa.wr W5 F9
 have F0m := Fld.other W5 (((Fld.other W4 (Fld.other W3 F02 (Or.inr (slot_ne (C := cN7) (Or.inr (hw 48)) (Or.inr (hw 50)) (by decide) (t := .int) (t' := .int) (by decide) (by decide)))) (Or.inr (slot_ne (C := cN7) (Or.inr (hw 48)) (Or.inr (hw 52)) (by decide) (t := .int) (t' := (.object "java/util/List")) (by decide) (by decide)))).keep K1 (ninS (Ne.symm I0) nin0)).keep K0 nin0) (Or.inr (slot_ne (C := cN7) (Or.inr (hw 48)) (Or.inr (hw 120)) (by decide) (t := .int) (t' := .int) (by decide) (by decide)))
 have F0n := Fld.other W5 (((Fld.other W4 F03 (Or.inr (slot_ne (C := cN7) (Or.inr (hw 50)) (Or.inr (hw 52)) (by decide) (t := .int) (t' := (.object "java/util/List")) (by decide) (by decide)))).keep K1 (ninS (Ne.symm I0) nin0)).keep K0 nin0) (Or.inr (slot_ne (C := cN7) (Or.inr (hw 50)) (Or.inr (hw 120)) (by decide) (t := .int) (t' := .int) (by decide) (by decide)))
 have F0o := Fld.other W5 ((F04.keep K1 (ninS (Ne.symm I0) nin0)).keep K0 nin0) (Or.inr (slot_ne (C := cN7) (Or.inr (hw 52)) (Or.inr (hw 120)) (by decide) (t := (.object "java/util/List")) (t' := .int) (by decide) (by decide)))
 have F0p := Fld.other W5 (F0b.keep K0 nin0) (Or.inl I0)
 have F0q := Exa.wr W5 (F0c.keep K0)
 have F0r := Fld.other W5 (F0d.keep K0 nin0) (Or.inl I0)
 have K3 : Keep h0 h8 [o0, o1] := (((((((((Keep.refl h0 [o0, o1]).wr W0 (Or.inl (by simp))).wr W1 (Or.inl (by simp))).wr W2 (Or.inl (by simp))).wr W3 (Or.inl (by simp))).wr W4 (Or.inl (by simp))).trans K1 (allS (Or.inl (by simp)) all0)).trans K0 all0).wr W5 (Or.inl (by simp)))
 exact own_retV X00 hx hns hrt (hb hby dd6_112) e01 (by decide) (by decide) (⟨rfl, N02, K3, F0j, F0k, F0l, F0m, F0n, F0o, F0i, F0p, F0q, F0r⟩)
theorem own_pd11 : parseMethodDescriptor "(SLjava/lang/String;IILjava/util/List;)V" = some ⟨[.short, (.object cN0), .int, .int, (.object "java/util/List")], none⟩ := by decide +kernel
theorem dd4_11 : decode B4 11 = .ok (.invokespecial 62, 3) := by decide +kernel
theorem dd4_14 : decode B4 14 = .ok (.areturn, 1) := by decide +kernel
theorem own_pn14 : plainFor mN18 = true := by decide +kernel
theorem own_rm6 (l : Launch) (Z : State) (a0 : Array Value) (hw : own_W a0 Z) (ws : List Jvm.Cond) (i0 i1 i2 i3 : Int32) (m0 m1 : ClassId) (o1 o2 o3 o4 : Nat) (h0 : Heap) (n0 : Nat) (Z2 : n0 ≤ h0.size) (O1 : Old Z n0 h0) (I0 : Sta Z Z.heap "java/util/ImmutableCollections" "EMPTY_LIST" "Ljava/util/ImmutableCollections$ListN;" (.ref o2)) (I1 : Fld Z h0 o1 cN0 "hash" "I" (.int 0)) (I03 : @LT.lt Nat instLTNat o1 h0.size) (I2 : Fld Z h0 o1 cN0 "hashIsZero" "Z" (.int 0)) (I3 : Sta Z Z.heap cN0 "COMPACT_STRINGS" "Z" (.int i2)) (I4 : ¬ (i2 = 0)) (I5 : Fld Z h0 o1 cN0 "coder" "B" (.int 0)) (I6 : Exa Z h0 o1 cN0) (I7 : Fld Z h0 o1 cN0 "value" "[B" (.ref o3)) (I8 : Arv Z h0 o3 m0 .byte 1 [(.int (i3.toInt8.toInt32))] (.int 0)) (I04 : @LT.lt Nat instLTNat o3 h0.size) (I9 : n0 ≤ o1) (I00 : Fld Z Z.heap o2 cN2 "elements" cN3 (.ref o4)) (I01 : Arv Z Z.heap o4 m1 (FieldType.object cN1) 0 [] .null) (I02 : Exa Z Z.heap o2 cN2) :
 own_Met l Z h0 mN18 B4 3 (Option.some (FieldType.object cN7)) ws (own_R 4 2 10 60) #[(.ref o1), (.int i0), (.int i1)] (fun v h L => (∃ o0 : Nat, v = some (.ref o0) ∧ Fr n0 L ∧ Keep h0 h [o1] ∧ h0.size ≤ o0 ∧ Fld Z h o1 cN0 "coder" "B" (.int 0) ∧ Exa Z h o1 cN0 ∧ Fld Z h o1 cN0 "value" "[B" (.ref o3) ∧ Exa Z h o0 cN7 ∧ Fld Z h o0 cN7 "type" "S" (.int 1) ∧ Fld Z h o0 cN7 "name" cN8 (.ref o1) ∧ Fld Z h o0 cN7 "minOccurs" "I" (.int i0) ∧ Fld Z h o0 cN7 "maxOccurs" "I" (.int i1) ∧ Fld Z h o0 cN7 "particles" cN5 (.ref o2) ∧ Fld Z h o0 cN7 "hash" "I" (.int (((31 : Int32) * (((31 : Int32) * ((31 : Int32) + ((i3.toInt8.toInt32) &&& 255))) + i0)) + i1)) ∧ @LT.lt Nat instLTNat o0 h.size)) 2 10 := own_go own_pn14 fun p e s m below meth c s₁ hns hrt hnm hml hZ hx hby hown X1 e0 => by
 have N0 := Fr.nil n0
 refine own_cast (own_ef3 m o1 i0 i1) ?_
 obtain ⟨T0, h1, X0, e1, E0, A0, D0, U0, s0⟩ := newO X1 hx hZ hown (hw 31) (hw 32) (hw 29) e0 (g := (mkF m 0 #[rv o1, iv i0, iv i1] [])) rfl (hb hby dd4_0) (by decide) (by decide)
 obtain ⟨o0, g0⟩ : ∃ z, z = h0.size := ⟨_, rfl⟩
 rw [← g0] at A0 D0 U0 s0
 have z0 := E0.1
 have y1 : @LT.lt Nat instLTNat o0 h1.size := A0.lt
 refine oS s0 ?_
 have F0 : Fld Z h1 o0 cN7 "type" "S" (.int 0) := D0 (Or.inr (hw 44)) (ty := .short) (by decide)
 have F1 : Fld Z h1 o0 cN7 "name" cN8 .null := D0 (Or.inr (hw 46)) (ty := (.object cN0)) (by decide)
 have F2 : Fld Z h1 o0 cN7 "minOccurs" "I" (.int 0) := D0 (Or.inr (hw 48)) (ty := .int) (by decide)
 have F3 : Fld Z h1 o0 cN7 "maxOccurs" "I" (.int 0) := D0 (Or.inr (hw 50)) (ty := .int) (by decide)
 have F4 : Fld Z h1 o0 cN7 "particles" cN5 .null := D0 (Or.inr (hw 52)) (ty := (.object "java/util/List")) (by decide)
 have F5 : Fld Z h1 o0 cN7 "hash" "I" (.int 0) := D0 (Or.inr (hw 120)) (ty := .int) (by decide)
 refine oS (fun _ => XS.dup X0.here hx rfl (hb hby dd4_3) rfl rfl) ?_
 refine oIC X0 hx hby dd4_4 ?_
 refine oAN X0 hx hby dd4_5 rfl rfl ?_
 refine oIN X0 hx hby dd4_6 rfl ?_
 refine oIN X0 hx hby dd4_7 rfl ?_
 have O0 : Old Z n0 h1 := O1.ext E0
 have Z0 : n0 ≤ h1.size := by omega
 refine own_cS X0 hx hZ hown e1 (y := mN4) (hw 33) (hw 34) (hw 35) (hw 36) (by decide) (W := 6) (own_rm7 l Z a0 hw [] o2 h1 n0 Z0 O0 I0) [] [(.int i1), (.int i0), (.ref o1), (.int 1), (.ref o0), (.ref o0)] hml (lenOf own_pd4 rfl) (hb hby dd4_8) fun T1 h3 v0 L0 X2 e2 q0 => ?_
 obtain ⟨rfl, N1, K1⟩ := q0
 have N2 := Fr.app N0 N1
 have e3 := e2.trans K1
 have N3 : n0 ≤ o0 := by omega
 have F6 := Fld.ext E0 I1
 have N4 : @Ne Nat o1 o0 := by omega
 have F7 := Fld.ext E0 I2
 have F8 := Fld.ext E0 I5
 have F9 := Exa.ext E0 I6
 have F00 := Fld.ext E0 I7
 have F01 := I8.ext E0
 have N5 : @Ne Nat o3 o0 := by omega
 have Z1 : n0 ≤ h1.size := by omega
 refine own_cN X2 hx hZ hown e3 (y := mN15) (b := o0) rfl (hw 39) (hw 40) (hw 29) (hw 41) (by decide) (W := 1) (own_rm8 l Z a0 hw [] i0 i1 i2 i3 m0 m1 o0 o1 o2 o3 o4 h1 n0 Z1 O0 F0 A0 N3 F1 F2 F3 F4 F6 N4 F7 I3 I4 F8 F9 F00 F01 N5 I9 I00 I01 I02 F5) [(.int 1), (.ref o1), (.int i0), (.int i1), (.ref o2)] [(.ref o0)] hml (lenOf own_pd11 rfl) (hb hby dd4_11) fun T2 h2 v1 L1 X3 e4 q1 => ?_
 obtain ⟨rfl, N6, K0, F02, F03, F04, F05, F06, F07, F08, F09, F0a, F0b⟩ := q1
 have N7 := Fr.app N2 N6
 have z1 := K0.1
 have y0 : @LT.lt Nat instLTNat o0 h2.size := by omega
 have K2 : Keep h0 h2 [o1] := (((Keep.refl h0 [o1]).ext E0).trans K0 (allS (Or.inr (by omega)) (allS (Or.inl (by simp)) all0)))
 exact own_retA X3 hx hns hrt rfl rfl (hb hby dd4_14) e4 (by decide) (by decide) (⟨o0, rfl, N7, K2, (by omega), F09, F0a, F0b, F04, F02, F03, F05, F06, F07, F08, y0⟩)
theorem own_pd12 : parseMethodDescriptor "(Ljava/lang/String;II)Lcom/example/doctype_in_dom/doctypeindom/definitions/ContentParticleImpl;" = some ⟨[(.object cN0), .int, .int], (some (.object cN7))⟩ := by decide +kernel
theorem dd15_0 : decode B05 0 = .ok (.aload_n 0, 1) := by decide +kernel
theorem dd16_0 : decode B06 0 = .ok (.aload_n 0, 1) := by decide +kernel
theorem dd17_0 : decode B07 0 = .ok (.aload_n 0, 1) := by decide +kernel
theorem dd17_1 : decode B07 1 = .ok (.invokespecial 1, 3) := by decide +kernel
theorem dd17_4 : decode B07 4 = .ok (.return_, 1) := by decide +kernel
theorem own_pn15 : plainFor mN19 = true := by decide +kernel
theorem own_rm19 (l : Launch) (Z : State) (a0 : Array Value) (hw : own_W a0 Z) (ws : List Jvm.Cond) (o0 : Nat) (h0 : Heap) (n0 : Nat) (Z0 : n0 ≤ h0.size) (O0 : Old Z n0 h0)  :
 own_Met l Z h0 mN19 B07 1 (Option.none : Option FieldType) ws (own_R 1 0 0 12) #[(.ref o0)] (fun v h L => (v = none ∧ Fr n0 L ∧ h = h0)) 0 0 := own_go own_pn15 fun p e s m below meth c s₁ hns hrt hnm hml hZ hx hby hown X0 e0 => by
 have N0 := Fr.nil n0
 refine own_cast (own_ef6 m o0) ?_
 refine oAN X0 hx hby dd17_0 rfl rfl ?_
 obtain ⟨T0, X1, e1, s0⟩ := initO X0 hx hZ hown (hw 139) (hw 21) (hw 22) e0 (g := (mkF m 1 #[rv o0] [(.ref o0)])) rfl (by rw [hml]; rfl) rfl (hb hby dd17_1) (by decide) (W := 0) (by show 2 * 0 + _ ≤ _; exact Nat.le_of_eq rfl) (by decide)
 refine oS s0 ?_
 exact own_retV X1 hx hns hrt (hb hby dd17_4) e1 (by decide) (by decide) (⟨rfl, N0, rfl⟩)
theorem own_pd13 : parseMethodDescriptor "()V" = some ⟨[], none⟩ := by decide +kernel
theorem dd16_1 : decode B06 1 = .ok (.invokespecial 1, 3) := by decide +kernel
theorem dd16_4 : decode B06 4 = .ok (.aload_n 0, 1) := by decide +kernel
theorem dd16_5 : decode B06 5 = .ok (.iconst 0, 1) := by decide +kernel
theorem dd16_6 : decode B06 6 = .ok (.putfield 7, 3) := by decide +kernel
theorem dd16_9 : decode B06 9 = .ok (.return_, 1) := by decide +kernel
theorem own_pn16 : plainFor mN20 = true := by decide +kernel
theorem own_rm18 (l : Launch) (Z : State) (a0 : Array Value) (hw : own_W a0 Z) (ws : List Jvm.Cond) (o0 : Nat) (h0 : Heap) (n0 : Nat) (Z0 : n0 ≤ h0.size) (O0 : Old Z n0 h0) (I0 : Fld Z h0 o0 cN9 "modCount" "I" (.int 0)) (I1 : Exa Z h0 o0 cN10) (I2 : n0 ≤ o0) (I3 : Fld Z h0 o0 cN10 "elementData" cN3 .null) (I4 : Fld Z h0 o0 cN10 "size" "I" (.int 0)) :
 own_Met l Z h0 mN20 B06 1 (Option.none : Option FieldType) ws (own_R 2 0 0 24) #[(.ref o0)] (fun v h L => (v = none ∧ Fr n0 L ∧ Keep h0 h [o0] ∧ Fld Z h o0 cN9 "modCount" "I" (.int 0) ∧ Exa Z h o0 cN10 ∧ Fld Z h o0 cN10 "elementData" cN3 .null ∧ Fld Z h o0 cN10 "size" "I" (.int 0))) 0 0 := own_go own_pn16 fun p e s m below meth c s₁ hns hrt hnm hml hZ hx hby hown X1 e0 => by
 have N0 := Fr.nil n0
 refine own_cast (own_ef6 m o0) ?_
 refine oAN X1 hx hby dd16_0 rfl rfl ?_
 refine own_cN X1 hx hZ hown e0 (y := mN19) (b := o0) rfl (hw 133) (hw 134) (hw 137) (hw 138) (by decide) (W := 0) (own_rm19 l Z a0 hw [] o0 h0 n0 Z0 O0 ) [] [] hml (lenOf own_pd13 rfl) (hb hby dd16_1) fun T0 h2 v0 L0 X0 e1 q0 => ?_
 obtain ⟨rfl, N1, K0⟩ := q0
 have N2 := Fr.app N0 N1
 have e2 := e1.trans K0
 refine oAN X0 hx hby dd16_4 rfl rfl ?_
 refine oIC X0 hx hby dd16_5 ?_
 refine own_pF X0 hx hZ hown (hw 140) e2 I0 I1 (Or.inl (hw 141)) (hw 122) (ty := .int) rfl rfl (hb hby dd16_6) fun T1 h1 X2 e3 W0 => ?_
 have N3 := Fr.snoc X2 N2 I2
 have z0 := W0.size
 have F0 := Fld.same W0 I0
 have F1 := Exa.wr W0 I1
 have F2 := Fld.other W0 I3 (Or.inr (slot_ne (C := cN10) (Or.inl (hw 144)) (Or.inl (hw 141)) (by decide) (t := (.array (.object cN1))) (t' := .int) (by decide) (by decide)))
 have F3 := Fld.other W0 I4 (Or.inr (slot_ne (C := cN10) (Or.inl (hw 157)) (Or.inl (hw 141)) (by decide) (t := .int) (t' := .int) (by decide) (by decide)))
 have K1 : Keep h0 h1 [o0] := ((Keep.refl h0 [o0]).wr W0 (Or.inl (by simp)))
 exact own_retV X2 hx hns hrt (hb hby dd16_9) e3 (by decide) (by decide) (⟨rfl, N3, K1, F0, F1, F2, F3⟩)
theorem dd15_1 : decode B05 1 = .ok (.invokespecial 1, 3) := by decide +kernel
theorem dd15_4 : decode B05 4 = .ok (.aload_n 0, 1) := by decide +kernel
theorem dd15_5 : decode B05 5 = .ok (.getstatic 39, 3) := by decide +kernel
theorem dd15_8 : decode B05 8 = .ok (.putfield 9, 3) := by decide +kernel
theorem dd15_11 : decode B05 11 = .ok (.return_, 1) := by decide +kernel
theorem own_pn17 : plainFor mN21 = true := by decide +kernel
theorem own_rm17 (l : Launch) (Z : State) (a0 : Array Value) (hw : own_W a0 Z) (ws : List Jvm.Cond) (o0 o1 : Nat) (h0 : Heap) (n0 : Nat) (Z0 : n0 ≤ h0.size) (O0 : Old Z n0 h0) (I1 : Fld Z h0 o0 cN9 "modCount" "I" (.int 0)) (I2 : Exa Z h0 o0 cN10) (I0 : n0 ≤ o0) (I3 : Fld Z h0 o0 cN10 "elementData" cN3 .null) (I4 : Fld Z h0 o0 cN10 "size" "I" (.int 0)) (I5 : Sta Z Z.heap cN10 cN11 cN3 (.ref o1)) :
 own_Met l Z h0 mN21 B05 1 (Option.none : Option FieldType) ws (own_R 3 0 0 36) #[(.ref o0)] (fun v h L => (v = none ∧ Fr n0 L ∧ Keep h0 h [o0] ∧ Fld Z h o0 cN9 "modCount" "I" (.int 0) ∧ Exa Z h o0 cN10 ∧ Fld Z h o0 cN10 "elementData" cN3 (.ref o1) ∧ Fld Z h o0 cN10 "size" "I" (.int 0))) 0 0 := own_go own_pn17 fun p e s m below meth c s₁ hns hrt hnm hml hZ hx hby hown X0 e0 => by
 have N0 := Fr.nil n0
 refine own_cast (own_ef6 m o0) ?_
 refine oAN X0 hx hby dd15_0 rfl rfl ?_
 refine own_cN X0 hx hZ hown e0 (y := mN20) (b := o0) rfl (hw 127) (hw 128) (hw 131) (hw 132) (by decide) (W := 0) (own_rm18 l Z a0 hw [] o0 h0 n0 Z0 O0 I1 I2 I0 I3 I4) [] [] hml (lenOf own_pd13 rfl) (hb hby dd15_1) fun T0 h1 v0 L0 X1 e1 q0 => ?_
 obtain ⟨rfl, N1, K0, F2, F0, F1, F3⟩ := q0
 have N2 := Fr.app N0 N1
 have z0 := K0.1
 refine oAN X1 hx hby dd15_4 rfl rfl ?_
 have O1 : Old Z n0 h1 := O0.keep K0 (allS I0 all0)
 have F4 := Sta.ext O1.2 I5
 obtain ⟨T1, X3, e2, s0⟩ := getS X1 hx hZ hown (host := "") (hw 142) Via.refl e1 F4 (g := (mkF m 5 #[rv o0] [(.ref o0)])) rfl (hb hby dd15_5)
 refine oS s0 ?_
 refine own_pF X3 hx hZ hown (hw 143) e2 F1 F0 (Or.inl (hw 144)) (hw 122) (ty := (.array (.object cN1))) rfl rfl (hb hby dd15_8) fun T2 h2 X2 e3 W0 => ?_
 have N3 := Fr.snoc X2 N2 I0
 have z1 := W0.size
 have F5 := Fld.same W0 F1
 have F6 := Fld.other W0 F2 (Or.inr (slot_ne (C := cN10) (Or.inl (hw 141)) (Or.inl (hw 144)) (by decide) (t := .int) (t' := (.array (.object cN1))) (by decide) (by decide)))
 have F7 := Exa.wr W0 F0
 have F8 := Fld.other W0 F3 (Or.inr (slot_ne (C := cN10) (Or.inl (hw 157)) (Or.inl (hw 144)) (by decide) (t := .int) (t' := (.array (.object cN1))) (by decide) (by decide)))
 have K1 : Keep h0 h2 [o0] := (((Keep.refl h0 [o0]).trans K0 (allS (Or.inl (by simp)) all0)).wr W0 (Or.inl (by simp)))
 exact own_retV X2 hx hns hrt (hb hby dd15_11) e3 (by decide) (by decide) (⟨rfl, N3, K1, F6, F7, F5, F8⟩)
theorem own_ef8 (m : MethodId) (x0 : Int32) (x1 : Addr) (x2 : Int32) (x3 : Int32) : entryFrame m #[(.int x0), (.ref x1), (.int x2), (.int x3)] 4 = mkF m 0 #[.val (.int x0), .val (.ref x1), .val (.int x2), .val (.int x3)] [] := by first | (simp [entryFrame, mkF, argsToLocals, Value.category]; done) | rfl
theorem dd18_0 : decode B08 0 = .ok (.new 8, 3) := by decide +kernel
theorem dd18_3 : decode B08 3 = .ok (.dup, 1) := by decide +kernel
theorem dd18_4 : decode B08 4 = .ok (.iload_n 0, 1) := by decide +kernel
theorem dd18_5 : decode B08 5 = .ok (.aconst_null, 1) := by decide +kernel
theorem dd18_6 : decode B08 6 = .ok (.iload_n 2, 1) := by decide +kernel
theorem dd18_7 : decode B08 7 = .ok (.iload_n 3, 1) := by decide +kernel
theorem dd18_8 : decode B08 8 = .ok (.aload_n 1, 1) := by decide +kernel
theorem dd19_0 : decode B09 0 = .ok (.aload_n 0, 1) := by decide +kernel
theorem dd19_1 : decode B09 1 = .ok (.invokeinterface 211 1, 5) := by decide +kernel
theorem dd19_6 : decode B09 6 = .ok (.ldc 212, 2) := by decide +kernel
theorem dd19_8 : decode B09 8 = .ok (.if_acmp .eq 14, 3) := by decide +kernel
theorem dd19_11 : decode B09 11 = .ok (.aload_n 0, 1) := by decide +kernel
theorem dd19_12 : decode B09 12 = .ok (.invokeinterface 214 1, 5) := by decide +kernel
theorem dd19_17 : decode B09 17 = .ok (.ldc 215, 2) := by decide +kernel
theorem dd19_19 : decode B09 19 = .ok (.if_acmp .ne 5, 3) := by decide +kernel
theorem dd19_24 : decode B09 24 = .ok (.aload_n 0, 1) := by decide +kernel
theorem dd19_25 : decode B09 25 = .ok (.instanceof 13, 3) := by decide +kernel
theorem dd19_28 : decode B09 28 = .ok (.ifCond .eq 14, 3) := by decide +kernel
theorem dd19_31 : decode B09 31 = .ok (.new 215, 3) := by decide +kernel
theorem dd19_34 : decode B09 34 = .ok (.dup, 1) := by decide +kernel
theorem dd19_35 : decode B09 35 = .ok (.aload_n 0, 1) := by decide +kernel
theorem own_ef9 (m : MethodId) (x0 : Addr) (x1 : Addr) : entryFrame m #[(.ref x0), (.ref x1)] 2 = mkF m 0 #[.val (.ref x0), .val (.ref x1)] [] := by first | (simp [entryFrame, mkF, argsToLocals, Value.category]; done) | rfl
theorem dd20_0 : decode B0a 0 = .ok (.aload_n 0, 1) := by decide +kernel
theorem dd20_1 : decode B0a 1 = .ok (.aload_n 1, 1) := by decide +kernel
theorem dd21_0 : decode B0b 0 = .ok (.aload_n 0, 1) := by decide +kernel
theorem dd21_1 : decode B0b 1 = .ok (.aload_n 1, 1) := by decide +kernel
theorem dd22_0 : decode B0c 0 = .ok (.aload_n 0, 1) := by decide +kernel
theorem dd22_1 : decode B0c 1 = .ok (.invokespecial 1, 3) := by decide +kernel
theorem dd22_4 : decode B0c 4 = .ok (.aload_n 1, 1) := by decide +kernel
theorem dd22_5 : decode B0c 5 = .ok (.ifnonnull 11, 3) := by decide +kernel
theorem dd22_16 : decode B0c 16 = .ok (.aload_n 0, 1) := by decide +kernel
theorem dd22_17 : decode B0c 17 = .ok (.aload_n 1, 1) := by decide +kernel
theorem dd22_18 : decode B0c 18 = .ok (.putfield 10, 3) := by decide +kernel
theorem dd22_21 : decode B0c 21 = .ok (.return_, 1) := by decide +kernel
theorem own_pn18 : plainFor mN22 = true := by decide +kernel
theorem own_rm24 (l : Launch) (Z : State) (a0 : Array Value) (hw : own_W a0 Z) (ws : List Jvm.Cond) (o0 o1 : Nat) (h0 : Heap) (n0 : Nat) (Z0 : n0 ≤ h0.size) (O0 : Old Z n0 h0) (I0 : Fld Z h0 o0 cN12 "c" cN13 .null) (I1 : Exa Z h0 o0 cN14) (I2 : n0 ≤ o0) (I3 : Fld Z h0 o0 cN15 "list" cN5 .null) :
 own_Met l Z h0 mN22 B0c 2 (Option.none : Option FieldType) ws (own_R 1 0 0 12) #[(.ref o0), (.ref o1)] (fun v h L => (v = none ∧ Fr n0 L ∧ Keep h0 h [o0] ∧ Fld Z h o0 cN12 "c" cN13 (.ref o1) ∧ Exa Z h o0 cN14 ∧ Fld Z h o0 cN15 "list" cN5 .null)) 0 0 := own_go own_pn18 fun p e s m below meth c s₁ hns hrt hnm hml hZ hx hby hown X1 e0 => by
 have N0 := Fr.nil n0
 refine own_cast (own_ef9 m o0 o1) ?_
 refine oAN X1 hx hby dd22_0 rfl rfl ?_
 obtain ⟨T0, X0, e1, s0⟩ := initO X1 hx hZ hown (hw 220) (hw 21) (hw 22) e0 (g := (mkF m 1 #[rv o0, rv o1] [(.ref o0)])) rfl (by rw [hml]; rfl) rfl (hb hby dd22_1) (by decide) (W := 0) (by show 2 * 0 + _ ≤ _; exact Nat.le_of_eq rfl) (by decide)
 refine oS s0 ?_
 refine oAN X0 hx hby dd22_4 rfl rfl ?_
 refine oS (fun _ => XT.ifnonnullYes X0.here hx rfl (pc0 := 5) (pc' := 16) rfl (hb hby dd22_5) rfl (by decide) (by decide)) ?_
 refine oAN X0 hx hby dd22_16 rfl rfl ?_
 refine oAN X0 hx hby dd22_17 rfl rfl ?_
 refine own_pF X0 hx hZ hown (hw 221) e1 I0 I1 (Or.inr ⟨(hw 222), rfl, hnm⟩) (hw 203) (ty := (.object cN16)) rfl rfl (hb hby dd22_18) fun T1 h1 X2 e2 W0 => ?_
 have N1 := Fr.snoc X2 N0 I2
 have z0 := W0.size
 have F0 := Fld.same W0 I0
 have F1 := Exa.wr W0 I1
 have F2 := Fld.other W0 I3 (Or.inr (slot_ne (C := cN14) (Or.inr (hw 224)) (Or.inr (hw 222)) (by decide) (t := (.object "java/util/List")) (t' := (.object cN16)) (by decide) (by decide)))
 have K0 : Keep h0 h1 [o0] := ((Keep.refl h0 [o0]).wr W0 (Or.inl (by simp)))
 exact own_retV X2 hx hns hrt (hb hby dd22_21) e2 (by decide) (by decide) (⟨rfl, N1, K0, F0, F1, F2⟩)
theorem own_pd14 : parseMethodDescriptor "(Ljava/util/Collection;)V" = some ⟨[(.object cN16)], none⟩ := by decide +kernel
theorem dd21_2 : decode B0b 2 = .ok (.invokespecial 1, 3) := by decide +kernel
theorem dd21_5 : decode B0b 5 = .ok (.aload_n 0, 1) := by decide +kernel
theorem dd21_6 : decode B0b 6 = .ok (.aload_n 1, 1) := by decide +kernel
theorem dd21_7 : decode B0b 7 = .ok (.putfield 7, 3) := by decide +kernel
theorem dd21_10 : decode B0b 10 = .ok (.return_, 1) := by decide +kernel
theorem own_pn19 : plainFor mN23 = true := by decide +kernel
theorem own_rm23 (l : Launch) (Z : State) (a0 : Array Value) (hw : own_W a0 Z) (ws : List Jvm.Cond) (o0 o1 : Nat) (h0 : Heap) (n0 : Nat) (Z0 : n0 ≤ h0.size) (O0 : Old Z n0 h0) (I1 : Fld Z h0 o0 cN12 "c" cN13 .null) (I2 : Exa Z h0 o0 cN14) (I0 : n0 ≤ o0) (I3 : Fld Z h0 o0 cN15 "list" cN5 .null) :
 own_Met l Z h0 mN23 B0b 2 (Option.none : Option FieldType) ws (own_R 2 0 0 25) #[(.ref o0), (.ref o1)] (fun v h L => (v = none ∧ Fr n0 L ∧ Keep h0 h [o0] ∧ Fld Z h o0 cN12 "c" cN13 (.ref o1) ∧ Exa Z h o0 cN14 ∧ Fld Z h o0 cN15 "list" cN5 (.ref o1))) 0 0 := own_go own_pn19 fun p e s m below meth c s₁ hns hrt hnm hml hZ hx hby hown X0 e0 => by
 have N0 := Fr.nil n0
 refine own_cast (own_ef9 m o0 o1) ?_
 refine oAN X0 hx hby dd21_0 rfl rfl ?_
 refine oAN X0 hx hby dd21_1 rfl rfl ?_
 refine own_cN X0 hx hZ hown e0 (y := mN22) (b := o0) rfl (hw 214) (hw 215) (hw 218) (hw 219) (by decide) (W := 0) (own_rm24 l Z a0 hw [] o0 o1 h0 n0 Z0 O0 I1 I2 I0 I3) [(.ref o1)] [] hml (lenOf own_pd14 rfl) (hb hby dd21_2) fun T0 h2 v0 L0 X1 e1 q0 => ?_
 obtain ⟨rfl, N1, K0, F2, F0, F1⟩ := q0
 have N2 := Fr.app N0 N1
 have z0 := K0.1
 refine oAN X1 hx hby dd21_5 rfl rfl ?_
 refine oAN X1 hx hby dd21_6 rfl rfl ?_
 refine own_pF X1 hx hZ hown (hw 223) e1 F1 F0 (Or.inr ⟨(hw 224), rfl, hnm⟩) (hw 203) (ty := (.object "java/util/List")) rfl rfl (hb hby dd21_7) fun T1 h1 X2 e2 W0 => ?_
 have N3 := Fr.snoc X2 N2 I0
 have z1 := W0.size
 have F3 := Fld.same W0 F1
 have F4 := Fld.other W0 F2 (Or.inr (slot_ne (C := cN14) (Or.inr (hw 222)) (Or.inr (hw 224)) (by decide) (t := (.object cN16)) (t' := (.object "java/util/List")) (by decide) (by decide)))
 have F5 := Exa.wr W0 F0
 have K1 : Keep h0 h1 [o0] := (((Keep.refl h0 [o0]).trans K0 (allS (Or.inl (by simp)) all0)).wr W0 (Or.inl (by simp)))
 exact own_retV X2 hx hns hrt (hb hby dd21_10) e2 (by decide) (by decide) (⟨rfl, N3, K1, F4, F5, F3⟩)
theorem own_pd15 : parseMethodDescriptor "(Ljava/util/List;)V" = some ⟨[(.object "java/util/List")], none⟩ := by decide +kernel
theorem dd20_2 : decode B0a 2 = .ok (.invokespecial 1, 3) := by decide +kernel
theorem dd20_5 : decode B0a 5 = .ok (.return_, 1) := by decide +kernel
theorem own_pn20 : plainFor mN24 = true := by decide +kernel
theorem own_rm22 (l : Launch) (Z : State) (a0 : Array Value) (hw : own_W a0 Z) (ws : List Jvm.Cond) (o0 o1 : Nat) (h0 : Heap) (n0 : Nat) (Z0 : n0 ≤ h0.size) (O0 : Old Z n0 h0) (I0 : Fld Z h0 o0 cN12 "c" cN13 .null) (I1 : Exa Z h0 o0 cN14) (I2 : n0 ≤ o0) (I3 : Fld Z h0 o0 cN15 "list" cN5 .null) :
 own_Met l Z h0 mN24 B0a 2 (Option.none : Option FieldType) ws (own_R 3 0 0 38) #[(.ref o0), (.ref o1)] (fun v h L => (v = none ∧ Fr n0 L ∧ Keep h0 h [o0] ∧ Fld Z h o0 cN12 "c" cN13 (.ref o1) ∧ Exa Z h o0 cN14 ∧ Fld Z h o0 cN15 "list" cN5 (.ref o1))) 0 0 := own_go own_pn20 fun p e s m below meth c s₁ hns hrt hnm hml hZ hx hby hown X0 e0 => by
 have N0 := Fr.nil n0
 refine own_cast (own_ef9 m o0 o1) ?_
 refine oAN X0 hx hby dd20_0 rfl rfl ?_
 refine oAN X0 hx hby dd20_1 rfl rfl ?_
 refine own_cN X0 hx hZ hown e0 (y := mN23) (b := o0) rfl (hw 208) (hw 209) (hw 212) (hw 213) (by decide) (W := 0) (own_rm23 l Z a0 hw [] o0 o1 h0 n0 Z0 O0 I0 I1 I2 I3) [(.ref o1)] [] hml (lenOf own_pd15 rfl) (hb hby dd20_2) fun T0 h1 v0 L0 X1 e1 q0 => ?_
 obtain ⟨rfl, N1, K0, F0, F1, F2⟩ := q0
 have N2 := Fr.app N0 N1
 have z0 := K0.1
 have K1 : Keep h0 h1 [o0] := ((Keep.refl h0 [o0]).trans K0 (allS (Or.inl (by simp)) all0))
 exact own_retV X1 hx hns hrt (hb hby dd20_5) e1 (by decide) (by decide) (⟨rfl, N2, K1, F0, F1, F2⟩)
theorem dd19_36 : decode B09 36 = .ok (.invokespecial 217, 3) := by decide +kernel
theorem dd19_39 : decode B09 39 = .ok (.goto 11, 3) := by decide +kernel
theorem dd19_50 : decode B09 50 = .ok (.areturn, 1) := by decide +kernel
theorem own_pn21 : plainFor mN25 = true := by decide +kernel
theorem own_rm21 (l : Launch) (Z : State) (a0 : Array Value) (hw : own_W a0 Z) (ws : List Jvm.Cond) (o0 o2 o3 o4 : Nat) (h0 : Heap) (n0 : Nat) (Z1 : n0 ≤ h0.size) (O0 : Old Z n0 h0) (I1 : Exa Z h0 o0 cN10) (I0 : Mir Z cN10 o2) (I2 : Mir Z cN15 o3) (I3 : Mir Z cN14 o4) :
 own_Met l Z h0 mN25 B09 1 (Option.some (FieldType.object "java/util/List")) ws (own_R 4 1 2 52) #[(.ref o0)] (fun v h L => (∃ o1 : Nat, v = some (.ref o1) ∧ Fr n0 L ∧ Keep h0 h [] ∧ h0.size ≤ o1 ∧ Exa Z h o1 cN14 ∧ Fld Z h o1 cN12 "c" cN13 (.ref o0) ∧ Fld Z h o1 cN15 "list" cN5 (.ref o0) ∧ @LT.lt Nat instLTNat o1 h.size)) 1 2 := own_go own_pn21 fun p e s m below meth c s₁ hns hrt hnm hml hZ hx hby hown X3 e0 => by
 have N0 := Fr.nil n0
 refine own_cast (own_ef6 m o0) ?_
 refine oAN X3 hx hby dd19_0 rfl rfl ?_
 obtain ⟨T1, X6, e1, s1⟩ := own_gcI X3 hx hZ hown e0 (xi := mN26) (C := cN10) (b := o0) (hw 187) (hw 188) (hw 189) (hw 190) (hw 191) (hw 192) (hw 193) (hw 152) (hw 194) (by decide) (by decide) rfl rfl I1 I0 (g := (mkF m 1 #[rv o0] [(.ref o0)])) rfl (by rw [hml]; rfl) (rest := []) rfl (hb hby dd19_1) (W := 0) (by show 2 * 0 + _ ≤ _; exact Nat.le_of_eq rfl) (by decide) (by decide)
 refine oS s1 ?_
 obtain ⟨T2, X0, e2, s2⟩ := own_ldcM X6 hx hZ hown (hw 196) I2 e1 (g := (mkF m 6 #[rv o0] [(.ref o2)])) rfl (hb hby dd19_6)
 refine oS s2 ?_
 refine oS (fun _ => XT.acmpNo X0.here hx rfl (hb hby dd19_8) rfl rfl rfl (XT.aa_eq_f (own_rne (Mir.ne I0 I2 (by decide))))) ?_
 refine oAN X0 hx hby dd19_11 rfl rfl ?_
 obtain ⟨T3, X7, e3, s3⟩ := own_gcI X0 hx hZ hown e2 (xi := mN26) (C := cN10) (b := o0) (hw 198) (hw 188) (hw 189) (hw 190) (hw 191) (hw 192) (hw 193) (hw 152) (hw 194) (by decide) (by decide) rfl rfl I1 I0 (g := (mkF m 12 #[rv o0] [(.ref o0)])) rfl (by rw [hml]; rfl) (rest := []) rfl (hb hby dd19_12) (W := 0) (by show 2 * 0 + _ ≤ _; exact Nat.le_of_eq rfl) (by decide) (by decide)
 refine oS s3 ?_
 obtain ⟨T4, X1, e4, s4⟩ := own_ldcM X7 hx hZ hown (hw 199) I3 e3 (g := (mkF m 17 #[rv o0] [(.ref o2)])) rfl (hb hby dd19_17)
 refine oS s4 ?_
 refine oS (fun _ => XT.acmpYes X1.here hx rfl (pc0 := 19) (pc' := 24) rfl (hb hby dd19_19) rfl rfl rfl (XT.aa_ne_t (own_rne (Mir.ne I0 I3 (by decide)))) (by decide) (by decide)) ?_
 refine oAN X1 hx hby dd19_24 rfl rfl ?_
 obtain ⟨T0, X4, e5, s5⟩ := instY X1 hx hZ hown (hw 201) e4 (Ins.of_exa I1 (hw 202)) (g := (mkF m 25 #[rv o0] [(.ref o0)])) rfl rfl (hb hby dd19_25)
 refine oS s5 ?_
 show own_G p e below (T0.setTop (mkF m 28 #[rv o0] [(.int 1)])) _
 refine oN0 X4 hx hby dd19_28 (XT.i0_eq_f (by decide)) ?_
 obtain ⟨T5, h1, X2, e6, E0, A0, D0, U0, s0⟩ := newO X4 hx hZ hown (hw 199) (hw 203) (hw 204) e5 (g := (mkF m 31 #[rv o0] [])) rfl (hb hby dd19_31) (by decide) (by decide)
 obtain ⟨o1, g0⟩ : ∃ z, z = h0.size := ⟨_, rfl⟩
 rw [← g0] at A0 D0 U0 s0
 have z0 := E0.1
 have y1 : @LT.lt Nat instLTNat o1 h1.size := A0.lt
 refine oS s0 ?_
 have F0 : Fld Z h1 o1 cN12 "c" cN13 .null := D0 (Or.inr (hw 222)) (ty := (.object cN16)) (by decide)
 have F1 : Fld Z h1 o1 cN15 "list" cN5 .null := D0 (Or.inr (hw 224)) (ty := (.object "java/util/List")) (by decide)
 refine oS (fun _ => XS.dup X2.here hx rfl (hb hby dd19_34) rfl rfl) ?_
 refine oAN X2 hx hby dd19_35 rfl rfl ?_
 have N1 : n0 ≤ o1 := by omega
 have O1 : Old Z n0 h1 := O0.ext E0
 have Z0 : n0 ≤ h1.size := by omega
 refine own_cN X2 hx hZ hown e6 (y := mN24) (b := o1) rfl (hw 205) (hw 206) (hw 204) (hw 207) (by decide) (W := 1) (own_rm22 l Z a0 hw [] o1 o0 h1 n0 Z0 O1 F0 A0 N1 F1) [(.ref o0)] [(.ref o1)] hml (lenOf own_pd15 rfl) (hb hby dd19_36) fun T6 h2 v0 L0 X5 e7 q0 => ?_
 obtain ⟨rfl, N2, K0, F2, F3, F4⟩ := q0
 have N3 := Fr.app N0 N2
 have z1 := K0.1
 refine oGO X5 hx hby (pc' := 50) dd19_39 ?_
 have y0 : @LT.lt Nat instLTNat o1 h2.size := by omega
 have K1 : Keep h0 h2 [] := (((Keep.refl h0 []).ext E0).trans K0 (allS (Or.inr (by omega)) all0))
 exact own_retA X5 hx hns hrt rfl rfl (hb hby dd19_50) e7 (by decide) (by decide) (⟨o1, rfl, N3, K1, (by omega), F3, F2, F4, y0⟩)
theorem own_pd16 : parseMethodDescriptor "(Ljava/util/List;)Ljava/util/List;" = some ⟨[(.object "java/util/List")], (some (.object "java/util/List"))⟩ := by decide +kernel
theorem dd18_9 : decode B08 9 = .ok (.invokestatic 65, 3) := by decide +kernel
theorem own_ef10 (m : MethodId) (x0 : Addr) (x1 : Int32) (x3 : Int32) (x4 : Int32) (x5 : Addr) : entryFrame m #[(.ref x0), (.int x1), .null, (.int x3), (.int x4), (.ref x5)] 9 = mkF m 0 #[.val (.ref x0), .val (.int x1), .val .null, .val (.int x3), .val (.int x4), .val (.ref x5), .unset, .unset, .unset] [] := by first | (simp [entryFrame, mkF, argsToLocals, Value.category]; done) | rfl
theorem own_ef11 (m : MethodId)  : entryFrame m #[.null] 1 = mkF m 0 #[.val .null] [] := by first | (simp [entryFrame, mkF, argsToLocals, Value.category]; done) | rfl
theorem dd7_11 : decode B7 11 = .ok (.iconst 0, 1) := by decide +kernel
theorem own_rm26 (l : Launch) (Z : State) (a0 : Array Value) (hw : own_W a0 Z) (ws : List Jvm.Cond)  (h0 : Heap) (n0 : Nat) (Z0 : n0 ≤ h0.size) (O0 : Old Z n0 h0)  :
 own_Met l Z h0 mN8 B7 1 (Option.some FieldType.int) ws (own_R 0 0 0 0) #[.null] (fun v h L => (v = some (.int 0) ∧ Fr n0 L ∧ h = h0)) 0 0 := own_go own_pn8 fun p e s m below meth c s₁ hns hrt hnm hml hZ hx hby hown X0 e0 => by
 have N0 := Fr.nil n0
 refine own_cast (own_ef11 m ) ?_
 refine oAN X0 hx hby dd7_0 rfl rfl ?_
 refine oS (fun _ => XS.ifnullYes X0.here hx rfl (pc0 := 1) (pc' := 11) rfl (hb hby dd7_1) rfl (by decide) (by decide)) ?_
 refine oIC X0 hx hby dd7_11 ?_
 exact own_retI X0 hx hns hrt (hb hby dd7_12) e0 (by decide) (by decide) (⟨rfl, N0, rfl⟩)
theorem dd23_0 : decode B0d 0 = .ok (.new 44, 3) := by decide +kernel
theorem dd23_3 : decode B0d 3 = .ok (.dup, 1) := by decide +kernel
theorem dd23_4 : decode B0d 4 = .ok (.aload_n 0, 1) := by decide +kernel
theorem dd24_0 : decode B0e 0 = .ok (.aload_n 0, 1) := by decide +kernel
theorem dd24_1 : decode B0e 1 = .ok (.aload_n 1, 1) := by decide +kernel
theorem dd24_2 : decode B0e 2 = .ok (.putfield 1, 3) := by decide +kernel
theorem dd24_5 : decode B0e 5 = .ok (.aload_n 0, 1) := by decide +kernel
theorem dd24_6 : decode B0e 6 = .ok (.invokespecial 7, 3) := by decide +kernel
theorem dd24_9 : decode B0e 9 = .ok (.aload_n 0, 1) := by decide +kernel
theorem dd24_10 : decode B0e 10 = .ok (.aload_n 0, 1) := by decide +kernel
theorem dd24_11 : decode B0e 11 = .ok (.getfield 1, 3) := by decide +kernel
theorem dd24_14 : decode B0e 14 = .ok (.getfield 13, 3) := by decide +kernel
theorem dd25_0 : decode B0f 0 = .ok (.new 267, 3) := by decide +kernel
theorem dd25_3 : decode B0f 3 = .ok (.dup, 1) := by decide +kernel
theorem dd25_4 : decode B0f 4 = .ok (.aload_n 0, 1) := by decide +kernel
theorem dd26_0 : decode B0g 0 = .ok (.aload_n 0, 1) := by decide +kernel
theorem dd26_1 : decode B0g 1 = .ok (.aload_n 1, 1) := by decide +kernel
theorem dd26_2 : decode B0g 2 = .ok (.putfield 1, 3) := by decide +kernel
theorem dd26_5 : decode B0g 5 = .ok (.aload_n 0, 1) := by decide +kernel
theorem dd26_6 : decode B0g 6 = .ok (.invokespecial 7, 3) := by decide +kernel
theorem dd26_9 : decode B0g 9 = .ok (.aload_n 0, 1) := by decide +kernel
theorem dd26_10 : decode B0g 10 = .ok (.iconst (-1), 1) := by decide +kernel
theorem dd26_11 : decode B0g 11 = .ok (.putfield 13, 3) := by decide +kernel
theorem dd26_14 : decode B0g 14 = .ok (.aload_n 0, 1) := by decide +kernel
theorem dd26_15 : decode B0g 15 = .ok (.aload_n 0, 1) := by decide +kernel
theorem dd26_16 : decode B0g 16 = .ok (.getfield 1, 3) := by decide +kernel
theorem dd26_19 : decode B0g 19 = .ok (.getfield 17, 3) := by decide +kernel
theorem dd26_22 : decode B0g 22 = .ok (.putfield 22, 3) := by decide +kernel
theorem dd26_25 : decode B0g 25 = .ok (.return_, 1) := by decide +kernel
theorem own_pn22 : plainFor mN27 = true := by decide +kernel
theorem own_rm30 (l : Launch) (Z : State) (a0 : Array Value) (hw : own_W a0 Z) (ws : List Jvm.Cond) (o0 o1 : Nat) (h0 : Heap) (n0 : Nat) (Z0 : n0 ≤ h0.size) (O0 : Old Z n0 h0) (I1 : Fld Z h0 o0 cN17 "this$0" cN18 .null) (I2 : Exa Z h0 o0 cN17) (I0 : n0 ≤ o0) (I4 : Fld Z h0 o0 cN17 "lastRet" "I" (.int 0)) (I5 : Fld Z h0 o1 cN9 "modCount" "I" (.int 0)) (I3 : @Ne Nat o1 o0) (I6 : Fld Z h0 o0 cN17 cN19 "I" (.int 0)) (I7 : Fld Z h0 o0 cN17 "cursor" "I" (.int 0)) :
 own_Met l Z h0 mN27 B0g 2 (Option.none : Option FieldType) ws (own_R 1 0 0 12) #[(.ref o0), (.ref o1)] (fun v h L => (v = none ∧ Fr n0 L ∧ Keep h0 h [o0] ∧ Fld Z h o0 cN17 "this$0" cN18 (.ref o1) ∧ Fld Z h o0 cN17 "lastRet" "I" (.int (-1)) ∧ Exa Z h o0 cN17 ∧ Fld Z h o0 cN17 cN19 "I" (.int 0) ∧ Fld Z h o0 cN17 "cursor" "I" (.int 0))) 0 0 := own_go own_pn22 fun p e s m below meth c s₁ hns hrt hnm hml hZ hx hby hown X1 e0 => by
 have N0 := Fr.nil n0
 refine own_cast (own_ef9 m o0 o1) ?_
 refine oAN X1 hx hby dd26_0 rfl rfl ?_
 refine oAN X1 hx hby dd26_1 rfl rfl ?_
 refine own_pF X1 hx hZ hown (hw 258) e0 I1 I2 (Or.inr ⟨(hw 259), rfl, hnm⟩) (hw 252) (ty := (.object cN10)) rfl rfl (hb hby dd26_2) fun T1 h2 X2 e1 W0 => ?_
 have N1 := Fr.snoc X2 N0 I0
 have z0 := W0.size
 have F5 := Fld.same W0 I1
 refine oAN X2 hx hby dd26_5 rfl rfl ?_
 obtain ⟨T2, X3, e2, s0⟩ := initO X2 hx hZ hown (hw 260) (hw 21) (hw 22) e1 (g := (mkF m 6 #[rv o0, rv o1] [(.ref o0)])) rfl (by rw [hml]; rfl) rfl (hb hby dd26_6) (by decide) (W := 0) (by show 2 * 0 + _ ≤ _; exact Nat.le_of_eq rfl) (by decide)
 refine oS s0 ?_
 refine oAN X3 hx hby dd26_9 rfl rfl ?_
 refine oIC X3 hx hby dd26_10 ?_
 have F0 := Fld.other W0 I4 (Or.inr (slot_ne (C := cN17) (Or.inl (hw 262)) (Or.inr (hw 259)) (by decide) (t := .int) (t' := (.object cN10)) (by decide) (by decide)))
 have F1 := Exa.wr W0 I2
 refine own_pF X3 hx hZ hown (hw 261) e2 F0 F1 (Or.inl (hw 262)) (hw 252) (ty := .int) rfl rfl (hb hby dd26_11) fun T0 h3 X0 e3 W1 => ?_
 have N2 := Fr.snoc X0 N1 I0
 have z1 := W1.size
 have F6 := Fld.same W1 F0
 refine oAN X0 hx hby dd26_14 rfl rfl ?_
 refine oAN X0 hx hby dd26_15 rfl rfl ?_
 show own_G p e below (T0.setTop (mkF m 16 #[rv o0, rv o1] [(.ref o0), (.ref o0)])) _
 have F2 := Fld.other W1 F5 (Or.inr (slot_ne (C := cN17) (Or.inr (hw 259)) (Or.inl (hw 262)) (by decide) (t := (.object cN10)) (t' := .int) (by decide) (by decide)))
 refine own_gF X0 hx hZ hown (hw 258) e3 F2 (hb hby dd26_16) fun T3 X5 e4 => ?_
 have F7 := Fld.other W1 (Fld.other W0 I5 (Or.inl I3)) (Or.inl I3)
 obtain ⟨T4, X6, e5, s1⟩ := getF X5 hx hZ hown (host := "") (Or.inl (hw 263)) (Via.of (hw 155)) e4 F7 (g := (mkF m 19 #[rv o0, rv o1] [(.ref o1), (.ref o0)])) rfl rfl (hb hby dd26_19)
 refine oS s1 ?_
 have F3 := Fld.other W1 (Fld.other W0 I6 (Or.inr (slot_ne (C := cN17) (Or.inl (hw 265)) (Or.inr (hw 259)) (by decide) (t := .int) (t' := (.object cN10)) (by decide) (by decide)))) (Or.inr (slot_ne (C := cN17) (Or.inl (hw 265)) (Or.inl (hw 262)) (by decide) (t := .int) (t' := .int) (by decide) (by decide)))
 have F4 := Exa.wr W1 F1
 refine own_pF X6 hx hZ hown (hw 264) e5 F3 F4 (Or.inl (hw 265)) (hw 252) (ty := .int) rfl rfl (hb hby dd26_22) fun T5 h1 X4 e6 W2 => ?_
 have N3 := Fr.snoc X4 N2 I0
 have z2 := W2.size
 have F8 := Fld.same W2 F3
 have F9 := Fld.other W2 F2 (Or.inr (slot_ne (C := cN17) (Or.inr (hw 259)) (Or.inl (hw 265)) (by decide) (t := (.object cN10)) (t' := .int) (by decide) (by decide)))
 have F00 := Fld.other W2 F6 (Or.inr (slot_ne (C := cN17) (Or.inl (hw 262)) (Or.inl (hw 265)) (by decide) (t := .int) (t' := .int) (by decide) (by decide)))
 have F01 := Exa.wr W2 F4
 have F02 := Fld.other W2 (Fld.other W1 (Fld.other W0 I7 (Or.inr (slot_ne (C := cN17) (Or.inl (hw 282)) (Or.inr (hw 259)) (by decide) (t := .int) (t' := (.object cN10)) (by decide) (by decide)))) (Or.inr (slot_ne (C := cN17) (Or.inl (hw 282)) (Or.inl (hw 262)) (by decide) (t := .int) (t' := .int) (by decide) (by decide)))) (Or.inr (slot_ne (C := cN17) (Or.inl (hw 282)) (Or.inl (hw 265)) (by decide) (t := .int) (t' := .int) (by decide) (by decide)))
 have K0 : Keep h0 h1 [o0] := ((((Keep.refl h0 [o0]).wr W0 (Or.inl (by simp))).wr W1 (Or.inl (by simp))).wr W2 (Or.inl (by simp)))
 exact own_retV X4 hx hns hrt (hb hby dd26_25) e6 (by decide) (by decide) (⟨rfl, N3, K0, F9, F00, F01, F8, F02⟩)
theorem own_pd17 : parseMethodDescriptor "(Ljava/util/ArrayList;)V" = some ⟨[(.object cN10)], none⟩ := by decide +kernel
theorem dd25_5 : decode B0f 5 = .ok (.invokespecial 269, 3) := by decide +kernel
theorem dd25_8 : decode B0f 8 = .ok (.areturn, 1) := by decide +kernel
theorem own_pn23 : plainFor mN28 = true := by decide +kernel
theorem own_rm29 (l : Launch) (Z : State) (a0 : Array Value) (hw : own_W a0 Z) (ws : List Jvm.Cond) (o1 : Nat) (h0 : Heap) (n0 : Nat) (Z1 : n0 ≤ h0.size) (O0 : Old Z n0 h0) (I0 : Fld Z h0 o1 cN9 "modCount" "I" (.int 0)) (I1 : @LT.lt Nat instLTNat o1 h0.size) :
 own_Met l Z h0 mN28 B0f 1 (Option.some (FieldType.object cN6)) ws (own_R 2 1 4 26) #[(.ref o1)] (fun v h L => (∃ o0 : Nat, v = some (.ref o0) ∧ Fr n0 L ∧ Keep h0 h [] ∧ h0.size ≤ o0 ∧ Exa Z h o0 cN17 ∧ Fld Z h o0 cN17 "this$0" cN18 (.ref o1) ∧ Fld Z h o0 cN17 "lastRet" "I" (.int (-1)) ∧ Fld Z h o0 cN17 cN19 "I" (.int 0) ∧ Fld Z h o0 cN17 "cursor" "I" (.int 0) ∧ @LT.lt Nat instLTNat o0 h.size)) 1 4 := own_go own_pn23 fun p e s m below meth c s₁ hns hrt hnm hml hZ hx hby hown X1 e0 => by
 have N0 := Fr.nil n0
 refine own_cast (own_ef6 m o1) ?_
 obtain ⟨T0, h1, X0, e1, E0, A0, D0, U0, s0⟩ := newO X1 hx hZ hown (hw 251) (hw 252) (hw 253) e0 (g := (mkF m 0 #[rv o1] [])) rfl (hb hby dd25_0) (by decide) (by decide)
 obtain ⟨o0, g0⟩ : ∃ z, z = h0.size := ⟨_, rfl⟩
 rw [← g0] at A0 D0 U0 s0
 have z0 := E0.1
 have y1 : @LT.lt Nat instLTNat o0 h1.size := A0.lt
 refine oS s0 ?_
 have F0 : Fld Z h1 o0 cN17 "this$0" cN18 .null := D0 (Or.inr (hw 259)) (ty := (.object cN10)) (by decide)
 have F1 : Fld Z h1 o0 cN17 "lastRet" "I" (.int 0) := D0 (Or.inl (hw 262)) (ty := .int) (by decide)
 have F2 : Fld Z h1 o0 cN17 cN19 "I" (.int 0) := D0 (Or.inl (hw 265)) (ty := .int) (by decide)
 have F3 : Fld Z h1 o0 cN17 "cursor" "I" (.int 0) := D0 (Or.inl (hw 282)) (ty := .int) (by decide)
 refine oS (fun _ => XS.dup X0.here hx rfl (hb hby dd25_3) rfl rfl) ?_
 refine oAN X0 hx hby dd25_4 rfl rfl ?_
 have N1 : n0 ≤ o0 := by omega
 have F4 := Fld.ext E0 I0
 have N2 : @Ne Nat o1 o0 := by omega
 have O1 : Old Z n0 h1 := O0.ext E0
 have Z0 : n0 ≤ h1.size := by omega
 refine own_cN X0 hx hZ hown e1 (y := mN27) (b := o0) rfl (hw 254) (hw 255) (hw 253) (hw 257) (by decide) (W := 1) (own_rm30 l Z a0 hw [] o0 o1 h1 n0 Z0 O1 F0 A0 N1 F1 F4 N2 F2 F3) [(.ref o1)] [(.ref o0)] hml (lenOf own_pd17 rfl) (hb hby dd25_5) fun T1 h2 v0 L0 X2 e2 q0 => ?_
 obtain ⟨rfl, N3, K0, F5, F6, F7, F8, F9⟩ := q0
 have N4 := Fr.app N0 N3
 have z1 := K0.1
 have y0 : @LT.lt Nat instLTNat o0 h2.size := by omega
 have K1 : Keep h0 h2 [] := (((Keep.refl h0 []).ext E0).trans K0 (allS (Or.inr (by omega)) all0))
 exact own_retA X2 hx hns hrt rfl rfl (hb hby dd25_8) e2 (by decide) (by decide) (⟨o0, rfl, N4, K1, (by omega), F7, F5, F6, F8, F9, y0⟩)
theorem dd24_17 : decode B0e 17 = .ok (.invokeinterface 19 1, 5) := by decide +kernel
theorem dd24_22 : decode B0e 22 = .ok (.putfield 25, 3) := by decide +kernel
theorem dd24_25 : decode B0e 25 = .ok (.return_, 1) := by decide +kernel
theorem own_pn24 : plainFor mN29 = true := by decide +kernel
theorem own_rm28 (l : Launch) (Z : State) (a0 : Array Value) (hw : own_W a0 Z) (ws : List Jvm.Cond) (o0 o3 o2 : Nat) (h0 : Heap) (n0 : Nat) (Z1 : n0 ≤ h0.size) (O0 : Old Z n0 h0) (I1 : Fld Z h0 o0 cN20 "this$0" cN21 .null) (I2 : Exa Z h0 o0 cN20) (I0 : n0 ≤ o0) (I3 : Fld Z h0 o3 cN12 "c" cN13 (.ref o2)) (I4 : @Ne Nat o3 o0) (I5 : Fld Z h0 o2 cN9 "modCount" "I" (.int 0)) (I6 : @Ne Nat o2 o0) (I9 : @LT.lt Nat instLTNat o2 h0.size) (I7 : Exa Z h0 o2 cN10) (I8 : Fld Z h0 o0 cN20 "i" cN22 .null) (I00 : @LT.lt Nat instLTNat o0 h0.size) :
 own_Met l Z h0 mN29 B0e 2 (Option.none : Option FieldType) ws (own_R 3 1 4 39) #[(.ref o0), (.ref o3)] (fun v h L => (∃ o1 : Nat, v = none ∧ Fr n0 L ∧ Keep h0 h [o0] ∧ h0.size ≤ o1 ∧ Fld Z h o0 cN20 "this$0" cN21 (.ref o3) ∧ Fld Z h o0 cN20 "i" cN22 (.ref o1) ∧ Exa Z h o0 cN20 ∧ Exa Z h o1 cN17 ∧ Fld Z h o1 cN17 "this$0" cN18 (.ref o2) ∧ Fld Z h o1 cN17 "lastRet" "I" (.int (-1)) ∧ Fld Z h o1 cN17 cN19 "I" (.int 0) ∧ Fld Z h o1 cN17 "cursor" "I" (.int 0) ∧ @LT.lt Nat instLTNat o1 h.size)) 1 4 := own_go own_pn24 fun p e s m below meth c s₁ hns hrt hnm hml hZ hx hby hown X0 e0 => by
 have N1 := Fr.nil n0
 refine own_cast (own_ef9 m o0 o3) ?_
 refine oAN X0 hx hby dd24_0 rfl rfl ?_
 refine oAN X0 hx hby dd24_1 rfl rfl ?_
 refine own_pF X0 hx hZ hown (hw 238) e0 I1 I2 (Or.inr ⟨(hw 239), rfl, hnm⟩) (hw 232) (ty := (.object cN12)) rfl rfl (hb hby dd24_2) fun T1 h1 X1 e1 W1 => ?_
 have N2 := Fr.snoc X1 N1 I0
 have z0 := W1.size
 have F0 := Fld.same W1 I1
 refine oAN X1 hx hby dd24_5 rfl rfl ?_
 obtain ⟨T2, X2, e2, s0⟩ := initO X1 hx hZ hown (hw 240) (hw 21) (hw 22) e1 (g := (mkF m 6 #[rv o0, rv o3] [(.ref o0)])) rfl (by rw [hml]; rfl) rfl (hb hby dd24_6) (by decide) (W := 0) (by show 2 * 0 + _ ≤ _; exact Nat.le_of_eq rfl) (by decide)
 refine oS s0 ?_
 refine oAN X2 hx hby dd24_9 rfl rfl ?_
 refine oAN X2 hx hby dd24_10 rfl rfl ?_
 refine own_gF X2 hx hZ hown (hw 238) e2 F0 (hb hby dd24_11) fun T3 X4 e3 => ?_
 have F3 := Fld.other W1 I3 (Or.inl I4)
 refine own_gF X4 hx hZ hown (hw 241) e3 F3 (hb hby dd24_14) fun T4 X5 e4 => ?_
 have F4 := Fld.other W1 I5 (Or.inl I6)
 have y0 : @LT.lt Nat instLTNat o2 h1.size := by omega
 have O1 : Old Z n0 h1 := O0.wr W1 I0
 have Z0 : n0 ≤ h1.size := by omega
 have F5 := Exa.wr W1 I7
 refine own_cI X5 hx hZ hown e4 (y := mN30) (z := mN28) (b := o2) (hw 242) (hw 243) (hw 244) rfl (hw 245) (hw 246) (hw 247) (hw 248) (hw 249) (hw 123) (hw 250) (by decide) F5 (W := 1) (own_rm29 l Z a0 hw [] o2 h1 n0 Z0 O1 F4 y0) [] [(.ref o0)] hml (lenOf own_pd10 rfl) (hb hby dd24_17) fun T0 h3 v0 L0 X6 e5 q0 => ?_
 obtain ⟨o1, rfl, N3, K0, F09, F6, F7, F8, F9, F00, F0a⟩ := q0
 have N4 := Fr.app N2 N3
 have z1 := K0.1
 show own_G p e below (T0.setTop (mkF m 22 #[rv o0, rv o3] [(.ref o1), (.ref o0)])) _
 have F1 := (Fld.other W1 I8 (Or.inr (slot_ne (C := cN20) (Or.inr (hw 267)) (Or.inr (hw 239)) (by decide) (t := (.object cN6)) (t' := (.object cN12)) (by decide) (by decide)))).keep K0 nin0
 have F2 := (Exa.wr W1 I2).keep K0
 refine own_pF X6 hx hZ hown (hw 266) e5 F1 F2 (Or.inr ⟨(hw 267), rfl, hnm⟩) (hw 232) (ty := (.object cN6)) rfl rfl (hb hby dd24_22) fun T5 h2 X3 e6 W0 => ?_
 have N5 := Fr.snoc X3 N4 I0
 have z2 := W0.size
 have F01 := Fld.same W0 F1
 have F02 := Fld.other W0 (F0.keep K0 nin0) (Or.inr (slot_ne (C := cN20) (Or.inr (hw 239)) (Or.inr (hw 267)) (by decide) (t := (.object cN12)) (t' := (.object cN6)) (by decide) (by decide)))
 have F03 := Exa.wr W0 F2
 have F04 := Exa.wr W0 F6
 have N0 : @Ne Nat o1 o0 := by omega
 have F05 := Fld.other W0 F7 (Or.inl N0)
 have F06 := Fld.other W0 F8 (Or.inl N0)
 have F07 := Fld.other W0 F9 (Or.inl N0)
 have F08 := Fld.other W0 F00 (Or.inl N0)
 have y1 : @LT.lt Nat instLTNat o1 h2.size := by omega
 have K1 : Keep h0 h2 [o0] := ((((Keep.refl h0 [o0]).wr W1 (Or.inl (by simp))).trans K0 all0).wr W0 (Or.inl (by simp)))
 exact own_retV X3 hx hns hrt (hb hby dd24_25) e6 (by decide) (by decide) (⟨o1, rfl, N5, K1, (by omega), F02, F01, F03, F04, F05, F06, F07, F08, y1⟩)
theorem own_pd18 : parseMethodDescriptor "(Ljava/util/Collections$UnmodifiableCollection;)V" = some ⟨[(.object cN12)], none⟩ := by decide +kernel
theorem dd23_5 : decode B0d 5 = .ok (.invokespecial 46, 3) := by decide +kernel
theorem dd23_8 : decode B0d 8 = .ok (.areturn, 1) := by decide +kernel
theorem own_pn25 : plainFor mN31 = true := by decide +kernel
theorem own_rm27 (l : Launch) (Z : State) (a0 : Array Value) (hw : own_W a0 Z) (ws : List Jvm.Cond) (o2 o3 : Nat) (h0 : Heap) (n0 : Nat) (Z1 : n0 ≤ h0.size) (O0 : Old Z n0 h0) (I0 : Fld Z h0 o2 cN12 "c" cN13 (.ref o3)) (I3 : @LT.lt Nat instLTNat o2 h0.size) (I1 : Fld Z h0 o3 cN9 "modCount" "I" (.int 0)) (I4 : @LT.lt Nat instLTNat o3 h0.size) (I2 : Exa Z h0 o3 cN10) :
 own_Met l Z h0 mN31 B0d 1 (Option.some (FieldType.object cN6)) ws (own_R 4 2 6 53) #[(.ref o2)] (fun v h L => (∃ o0 : Nat, ∃ o1 : Nat, v = some (.ref o0) ∧ Fr n0 L ∧ Keep h0 h [] ∧ h0.size ≤ o0 ∧ o0 < o1 ∧ Exa Z h o0 cN20 ∧ Fld Z h o0 cN20 "this$0" cN21 (.ref o2) ∧ Fld Z h o0 cN20 "i" cN22 (.ref o1) ∧ Exa Z h o1 cN17 ∧ Fld Z h o1 cN17 "this$0" cN18 (.ref o3) ∧ Fld Z h o1 cN17 "lastRet" "I" (.int (-1)) ∧ Fld Z h o1 cN17 cN19 "I" (.int 0) ∧ Fld Z h o1 cN17 "cursor" "I" (.int 0) ∧ @LT.lt Nat instLTNat o0 h.size ∧ @LT.lt Nat instLTNat o1 h.size)) 2 6 := own_go own_pn25 fun p e s m below meth c s₁ hns hrt hnm hml hZ hx hby hown X1 e0 => by
 have N0 := Fr.nil n0
 refine own_cast (own_ef6 m o2) ?_
 obtain ⟨T0, h1, X0, e1, E0, A0, D0, U0, s0⟩ := newO X1 hx hZ hown (hw 231) (hw 232) (hw 233) e0 (g := (mkF m 0 #[rv o2] [])) rfl (hb hby dd23_0) (by decide) (by decide)
 obtain ⟨o0, g0⟩ : ∃ z, z = h0.size := ⟨_, rfl⟩
 rw [← g0] at A0 D0 U0 s0
 have z0 := E0.1
 have y4 : @LT.lt Nat instLTNat o0 h1.size := A0.lt
 refine oS s0 ?_
 have F0 : Fld Z h1 o0 cN20 "this$0" cN21 .null := D0 (Or.inr (hw 239)) (ty := (.object cN12)) (by decide)
 have F1 : Fld Z h1 o0 cN20 "i" cN22 .null := D0 (Or.inr (hw 267)) (ty := (.object cN6)) (by decide)
 refine oS (fun _ => XS.dup X0.here hx rfl (hb hby dd23_3) rfl rfl) ?_
 refine oAN X0 hx hby dd23_4 rfl rfl ?_
 have N1 : n0 ≤ o0 := by omega
 have F2 := Fld.ext E0 I0
 have N2 : @Ne Nat o2 o0 := by omega
 have F3 := Fld.ext E0 I1
 have N3 : @Ne Nat o3 o0 := by omega
 have y0 : @LT.lt Nat instLTNat o3 h1.size := by omega
 have F4 := Exa.ext E0 I2
 have y1 : @LT.lt Nat instLTNat o0 h1.size := by omega
 have O1 : Old Z n0 h1 := O0.ext E0
 have Z0 : n0 ≤ h1.size := by omega
 refine own_cN X0 hx hZ hown e1 (y := mN29) (b := o0) rfl (hw 234) (hw 235) (hw 233) (hw 237) (by decide) (W := 1) (own_rm28 l Z a0 hw [] o0 o2 o3 h1 n0 Z0 O1 F0 A0 N1 F2 N2 F3 N3 y0 F4 F1 y1) [(.ref o2)] [(.ref o0)] hml (lenOf own_pd18 rfl) (hb hby dd23_5) fun T1 h2 v0 L0 X2 e2 q0 => ?_
 obtain ⟨o1, rfl, N4, K0, F03, F5, F6, F7, F8, F9, F00, F01, F02, F04⟩ := q0
 have N5 := Fr.app N0 N4
 have z1 := K0.1
 have y2 : @LT.lt Nat instLTNat o0 h2.size := by omega
 have y3 : @LT.lt Nat instLTNat o1 h2.size := by omega
 have K1 : Keep h0 h2 [] := (((Keep.refl h0 []).ext E0).trans K0 (allS (Or.inr (by omega)) all0))
 exact own_retA X2 hx hns hrt rfl rfl (hb hby dd23_8) e2 (by decide) (by decide) (⟨o0, o1, rfl, N5, K1, (by omega), (by omega), F7, F5, F6, F8, F9, F00, F01, F02, y2, y3⟩)
theorem dd27_0 : decode B0h 0 = .ok (.aload_n 0, 1) := by decide +kernel
theorem dd27_1 : decode B0h 1 = .ok (.getfield 25, 3) := by decide +kernel
theorem dd28_0 : decode B0i 0 = .ok (.aload_n 0, 1) := by decide +kernel
theorem dd28_1 : decode B0i 1 = .ok (.getfield 25, 3) := by decide +kernel
theorem dd28_4 : decode B0i 4 = .ok (.aload_n 0, 1) := by decide +kernel
theorem dd28_5 : decode B0i 5 = .ok (.getfield 1, 3) := by decide +kernel
theorem dd28_8 : decode B0i 8 = .ok (.getfield 28, 3) := by decide +kernel
theorem dd28_11 : decode B0i 11 = .ok (.if_icmp .eq 7, 3) := by decide +kernel
theorem dd28_18 : decode B0i 18 = .ok (.iconst 0, 1) := by decide +kernel
theorem dd28_19 : decode B0i 19 = .ok (.ireturn, 1) := by decide +kernel
theorem own_pn26 : plainFor mN32 = true := by decide +kernel
theorem own_rm32 (l : Launch) (Z : State) (a0 : Array Value) (hw : own_W a0 Z) (ws : List Jvm.Cond) (o0 o1 : Nat) (h0 : Heap) (n0 : Nat) (Z0 : n0 ≤ h0.size) (O0 : Old Z n0 h0) (I0 : Fld Z h0 o0 cN17 "cursor" "I" (.int 0)) (I1 : Fld Z h0 o0 cN17 "this$0" cN18 (.ref o1)) (I2 : Fld Z h0 o1 cN10 "size" "I" (.int 0)) :
 own_Met l Z h0 mN32 B0i 1 (Option.some FieldType.boolean) ws (own_R 0 0 0 0) #[(.ref o0)] (fun v h L => (v = some (.int 0) ∧ Fr n0 L ∧ h = h0)) 0 0 := own_go own_pn26 fun p e s m below meth c s₁ hns hrt hnm hml hZ hx hby hown X1 e0 => by
 have N0 := Fr.nil n0
 refine own_cast (own_ef6 m o0) ?_
 refine oAN X1 hx hby dd28_0 rfl rfl ?_
 refine own_gF X1 hx hZ hown (hw 281) e0 I0 (hb hby dd28_1) fun T0 X2 e1 => ?_
 refine oAN X2 hx hby dd28_4 rfl rfl ?_
 refine own_gF X2 hx hZ hown (hw 258) e1 I1 (hb hby dd28_5) fun T1 X3 e2 => ?_
 obtain ⟨T2, X0, e3, s0⟩ := getF X3 hx hZ hown (host := cN10) (Or.inr (hw 283)) Via.refl e2 I2 (g := (mkF m 8 #[rv o0] [(.ref o1), (.int 0)])) rfl rfl (hb hby dd28_8)
 refine oS s0 ?_
 refine oYI X0 hx hby (pc' := 18) dd28_11 (XT.ii_eq_t (by decide)) ?_
 refine oIC X0 hx hby dd28_18 ?_
 exact own_retN X0 hx (t := .boolean) hns hrt (by simp) (hb hby dd28_19) (by decide) e3 (by decide) (by decide) (⟨rfl, N0, rfl⟩)
theorem dd27_4 : decode B0h 4 = .ok (.invokeinterface 29 1, 5) := by decide +kernel
theorem dd27_9 : decode B0h 9 = .ok (.ireturn, 1) := by decide +kernel
theorem own_pn27 : plainFor mN33 = true := by decide +kernel
theorem own_rm31 (l : Launch) (Z : State) (a0 : Array Value) (hw : own_W a0 Z) (ws : List Jvm.Cond) (o1 o0 o2 : Nat) (h0 : Heap) (n0 : Nat) (Z0 : n0 ≤ h0.size) (O0 : Old Z n0 h0) (I0 : Fld Z h0 o1 cN20 "i" cN22 (.ref o0)) (I1 : Fld Z h0 o0 cN17 "cursor" "I" (.int 0)) (I2 : Fld Z h0 o0 cN17 "this$0" cN18 (.ref o2)) (I3 : Fld Z h0 o2 cN10 "size" "I" (.int 0)) (I4 : Exa Z h0 o0 cN17) :
 own_Met l Z h0 mN33 B0h 1 (Option.some FieldType.boolean) ws (own_R 1 0 0 12) #[(.ref o1)] (fun v h L => (v = some (.int 0) ∧ Fr n0 L ∧ h = h0)) 0 0 := own_go own_pn27 fun p e s m below meth c s₁ hns hrt hnm hml hZ hx hby hown X0 e0 => by
 have N0 := Fr.nil n0
 refine own_cast (own_ef6 m o1) ?_
 refine oAN X0 hx hby dd27_0 rfl rfl ?_
 refine own_gF X0 hx hZ hown (hw 266) e0 I0 (hb hby dd27_1) fun T0 X1 e1 => ?_
 refine own_cI X1 hx hZ hown e1 (y := mN17) (z := mN32) (b := o0) (hw 274) (hw 111) (hw 112) rfl (hw 275) (hw 276) (hw 277) (hw 278) (hw 279) (hw 253) (hw 280) (by decide) I4 (W := 0) (own_rm32 l Z a0 hw [] o0 o2 h0 n0 Z0 O0 I1 I2 I3) [] [] hml (lenOf own_pd5 rfl) (hb hby dd27_4) fun T1 h1 v0 L0 X2 e2 q0 => ?_
 obtain ⟨rfl, N1, K0⟩ := q0
 have N2 := Fr.app N0 N1
 have e3 := e2.trans K0
 exact own_retN X2 hx (t := .boolean) hns hrt (by simp) (hb hby dd27_9) (by decide) e3 (by decide) (by decide) (⟨rfl, N2, rfl⟩)
theorem own_rm25 (l : Launch) (Z : State) (a0 : Array Value) (hw : own_W a0 Z) (ws : List Jvm.Cond) (i0 i1 i2 : Int32) (o0 o1 o2 : Nat) (h0 : Heap) (n0 : Nat) (Z3 : n0 ≤ h0.size) (O1 : Old Z n0 h0) (I3 : Fld Z h0 o0 cN7 "type" "S" (.int 0)) (I4 : Exa Z h0 o0 cN7) (I5 : nar .short i0 = i0) (I0 : n0 ≤ o0) (I6 : Fld Z h0 o0 cN7 "name" cN8 .null) (I7 : Fld Z h0 o0 cN7 "minOccurs" "I" (.int 0)) (I8 : Fld Z h0 o0 cN7 "maxOccurs" "I" (.int 0)) (I9 : Fld Z h0 o0 cN7 "particles" cN5 .null) (I00 : Fld Z h0 o1 cN12 "c" cN13 (.ref o2)) (I2 : @Ne Nat o1 o0) (I06 : @LT.lt Nat instLTNat o1 h0.size) (I01 : Fld Z h0 o2 cN9 "modCount" "I" (.int 0)) (I1 : @Ne Nat o2 o0) (I07 : @LT.lt Nat instLTNat o2 h0.size) (I02 : Exa Z h0 o2 cN10) (I03 : Exa Z h0 o1 cN14) (I04 : Fld Z h0 o2 cN10 "size" "I" (.int 0)) (I05 : Fld Z h0 o0 cN7 "hash" "I" (.int 0)) :
 own_Met l Z h0 mN15 B6 9 (Option.none : Option FieldType) ws (own_R 5 2 6 65) #[(.ref o0), (.int i0), .null, (.int i1), (.int i2), (.ref o1)] (fun v h L => (v = none ∧ Fr n0 L ∧ Keep h0 h [o0] ∧ Fld Z h o0 cN7 "type" "S" (.int i0) ∧ Fld Z h o0 cN7 "name" cN8 .null ∧ Exa Z h o0 cN7 ∧ Fld Z h o0 cN7 "minOccurs" "I" (.int i1) ∧ Fld Z h o0 cN7 "maxOccurs" "I" (.int i2) ∧ Fld Z h o0 cN7 "particles" cN5 (.ref o1) ∧ Fld Z h o0 cN7 "hash" "I" (.int (((31 : Int32) * (((31 : Int32) * (((31 : Int32) * i0) + 0)) + i1)) + i2)))) 2 6 := own_go own_pn13 fun p e s m below meth c s₁ hns hrt hnm hml hZ hx hby hown X9 e0 => by
 have N0 := Fr.nil n0
 refine own_cast (own_ef10 m o0 i0 i1 i2 o1) ?_
 refine oAN X9 hx hby dd6_0 rfl rfl ?_
 obtain ⟨T4, X7, e1, s0⟩ := initO X9 hx hZ hown (hw 42) (hw 21) (hw 22) e0 (g := (mkF m 1 #[rv o0, iv i0, .val .null, iv i1, iv i2, rv o1, .unset, .unset, .unset] [(.ref o0)])) rfl (by rw [hml]; rfl) rfl (hb hby dd6_1) (by decide) (W := 0) (by show 2 * 0 + _ ≤ _; exact Nat.le_of_eq rfl) (by decide)
 refine oS s0 ?_
 refine oAN X7 hx hby dd6_4 rfl rfl ?_
 refine oIN X7 hx hby dd6_5 rfl ?_
 refine own_pF X7 hx hZ hown (hw 43) e1 I3 I4 (Or.inr ⟨(hw 44), rfl, hnm⟩) (hw 32) (ty := .short) (own_fnS I5) (own_fiS I5) (hb hby dd6_6) fun T5 h3 X2 e2 W0 => ?_
 have N1 := Fr.snoc X2 N0 I0
 have z0 := W0.size
 have F00 := Fld.same W0 I3
 refine oAN X2 hx hby dd6_9 rfl rfl ?_
 refine oAN X2 hx hby dd6_10 rfl rfl ?_
 have F0 := Fld.other W0 I6 (Or.inr (slot_ne (C := cN7) (Or.inr (hw 46)) (Or.inr (hw 44)) (by decide) (t := (.object cN0)) (t' := .short) (by decide) (by decide)))
 have F1 := Exa.wr W0 I4
 refine own_pF X2 hx hZ hown (hw 45) e2 F0 F1 (Or.inr ⟨(hw 46), rfl, hnm⟩) (hw 32) (ty := (.object cN0)) rfl rfl (hb hby dd6_11) fun T0 h4 X3 e3 W1 => ?_
 have N2 := Fr.snoc X3 N1 I0
 have z1 := W1.size
 have F01 := Fld.same W1 F0
 refine oAN X3 hx hby dd6_14 rfl rfl ?_
 refine oIN X3 hx hby dd6_15 rfl ?_
 show own_G p e below (T0.setTop (mkF m 16 #[rv o0, iv i0, .val .null, iv i1, iv i2, rv o1, .unset, .unset, .unset] [(.int i1), (.ref o0)])) _
 have F2 := Fld.other W1 (Fld.other W0 I7 (Or.inr (slot_ne (C := cN7) (Or.inr (hw 48)) (Or.inr (hw 44)) (by decide) (t := .int) (t' := .short) (by decide) (by decide)))) (Or.inr (slot_ne (C := cN7) (Or.inr (hw 48)) (Or.inr (hw 46)) (by decide) (t := .int) (t' := (.object cN0)) (by decide) (by decide)))
 have F3 := Exa.wr W1 F1
 refine own_pF X3 hx hZ hown (hw 47) e3 F2 F3 (Or.inr ⟨(hw 48), rfl, hnm⟩) (hw 32) (ty := .int) rfl rfl (hb hby dd6_16) fun T6 h5 X4 e4 W2 => ?_
 have N3 := Fr.snoc X4 N2 I0
 have z2 := W2.size
 have F02 := Fld.same W2 F2
 refine oAN X4 hx hby dd6_19 rfl rfl ?_
 refine oIL X4 hx hby dd6_20 rfl ?_
 have F4 := Fld.other W2 (Fld.other W1 (Fld.other W0 I8 (Or.inr (slot_ne (C := cN7) (Or.inr (hw 50)) (Or.inr (hw 44)) (by decide) (t := .int) (t' := .short) (by decide) (by decide)))) (Or.inr (slot_ne (C := cN7) (Or.inr (hw 50)) (Or.inr (hw 46)) (by decide) (t := .int) (t' := (.object cN0)) (by decide) (by decide)))) (Or.inr (slot_ne (C := cN7) (Or.inr (hw 50)) (Or.inr (hw 48)) (by decide) (t := .int) (t' := .int) (by decide) (by decide)))
 have F5 := Exa.wr W2 F3
 refine own_pF X4 hx hZ hown (hw 49) e4 F4 F5 (Or.inr ⟨(hw 50), rfl, hnm⟩) (hw 32) (ty := .int) rfl rfl (hb hby dd6_22) fun T7 h6 X5 e5 W3 => ?_
 have N4 := Fr.snoc X5 N3 I0
 have z3 := W3.size
 have F03 := Fld.same W3 F4
 refine oAN X5 hx hby dd6_25 rfl rfl ?_
 refine oAL X5 hx hby dd6_26 rfl rfl ?_
 have F6 := Fld.other W3 (Fld.other W2 (Fld.other W1 (Fld.other W0 I9 (Or.inr (slot_ne (C := cN7) (Or.inr (hw 52)) (Or.inr (hw 44)) (by decide) (t := (.object "java/util/List")) (t' := .short) (by decide) (by decide)))) (Or.inr (slot_ne (C := cN7) (Or.inr (hw 52)) (Or.inr (hw 46)) (by decide) (t := (.object "java/util/List")) (t' := (.object cN0)) (by decide) (by decide)))) (Or.inr (slot_ne (C := cN7) (Or.inr (hw 52)) (Or.inr (hw 48)) (by decide) (t := (.object "java/util/List")) (t' := .int) (by decide) (by decide)))) (Or.inr (slot_ne (C := cN7) (Or.inr (hw 52)) (Or.inr (hw 50)) (by decide) (t := (.object "java/util/List")) (t' := .int) (by decide) (by decide)))
 have F7 := Exa.wr W3 F5
 refine own_pF X5 hx hZ hown (hw 51) e5 F6 F7 (Or.inr ⟨(hw 52), rfl, hnm⟩) (hw 32) (ty := (.object "java/util/List")) rfl rfl (hb hby dd6_28) fun T1 h1 X1 e6 W4 => ?_
 have N5 := Fr.snoc X1 N4 I0
 have z4 := W4.size
 have F04 := Fld.same W4 F6
 refine oS (fun _ => XS.bipush X1.here hx rfl (hb hby dd6_31) ) ?_
 refine oIN X1 hx hby dd6_33 rfl ?_
 refine oS (fun _ => XS.imul X1.here hx rfl (hb hby dd6_34) rfl) ?_
 show own_G p e below (T1.setTop (mkF m 35 #[rv o0, iv i0, .val .null, iv i1, iv i2, rv o1, .unset, .unset, .unset] [(.int ((31 : Int32) * i0))])) _
 refine oAN X1 hx hby dd6_35 rfl rfl ?_
 have O2 : Old Z n0 h3 := O1.wr W0 I0
 have O3 : Old Z n0 h4 := O2.wr W1 I0
 have O4 : Old Z n0 h5 := O3.wr W2 I0
 have O5 : Old Z n0 h6 := O4.wr W3 I0
 have O0 : Old Z n0 h1 := O5.wr W4 I0
 have Z0 : n0 ≤ h1.size := by omega
 refine own_cS X1 hx hZ hown e6 (y := mN8) (hw 53) (hw 54) (hw 55) (hw 56) (by decide) (W := 1) (own_rm26 l Z a0 hw []  h1 n0 Z0 O0 ) [.null] [(.int ((31 : Int32) * i0))] hml (lenOf own_pd8 rfl) (hb hby dd6_36) fun T2 h8 v0 L0 X0 e7 q0 => ?_
 obtain ⟨rfl, N6, K1⟩ := q0
 have N7 := Fr.app N5 N6
 have e8 := e7.trans K1
 refine oS (fun _ => XS.iadd X0.here hx rfl (hb hby dd6_39) rfl) ?_
 refine oIS X0 hx hby dd6_40 (l' := #[rv o0, iv i0, .val .null, iv i1, iv i2, rv o1, iv (((31 : Int32) * i0) + 0), .unset, .unset]) rfl ?_
 refine oS (fun _ => XS.bipush X0.here hx rfl (hb hby dd6_42) ) ?_
 refine oS (fun _ => XS.bipush X0.here hx rfl (hb hby dd6_44) ) ?_
 refine oIL X0 hx hby dd6_46 rfl ?_
 refine oS (fun _ => XS.imul X0.here hx rfl (hb hby dd6_48) rfl) ?_
 refine oIN X0 hx hby dd6_49 rfl ?_
 refine oS (fun _ => XS.iadd X0.here hx rfl (hb hby dd6_50) rfl) ?_
 show own_G p e below (T2.setTop (mkF m 51 #[rv o0, iv i0, .val .null, iv i1, iv i2, rv o1, iv (((31 : Int32) * i0) + 0), .unset, .unset] [(.int (((31 : Int32) * (((31 : Int32) * i0) + 0)) + i1)), (.int 31)])) _
 refine oS (fun _ => XS.imul X0.here hx rfl (hb hby dd6_51) rfl) ?_
 refine oIL X0 hx hby dd6_52 rfl ?_
 refine oS (fun _ => XS.iadd X0.here hx rfl (hb hby dd6_54) rfl) ?_
 refine oIS X0 hx hby dd6_55 (l' := #[rv o0, iv i0, .val .null, iv i1, iv i2, rv o1, iv (((31 : Int32) * (((31 : Int32) * (((31 : Int32) * i0) + 0)) + i1)) + i2), .unset, .unset]) rfl ?_
 refine oAL X0 hx hby dd6_57 rfl rfl ?_
 have F05 := Fld.other W4 (Fld.other W3 (Fld.other W2 (Fld.other W1 (Fld.other W0 I00 (Or.inl I2)) (Or.inl I2)) (Or.inl I2)) (Or.inl I2)) (Or.inl I2)
 have y0 : @LT.lt Nat instLTNat o1 h1.size := by omega
 have F06 := Fld.other W4 (Fld.other W3 (Fld.other W2 (Fld.other W1 (Fld.other W0 I01 (Or.inl I1)) (Or.inl I1)) (Or.inl I1)) (Or.inl I1)) (Or.inl I1)
 have y1 : @LT.lt Nat instLTNat o2 h1.size := by omega
 have F07 := Exa.wr W4 (Exa.wr W3 (Exa.wr W2 (Exa.wr W1 (Exa.wr W0 I02))))
 have Z1 : n0 ≤ h1.size := by omega
 have F08 := Exa.wr W4 (Exa.wr W3 (Exa.wr W2 (Exa.wr W1 (Exa.wr W0 I03))))
 refine own_cI X0 hx hZ hown e8 (y := mN16) (z := mN31) (b := o1) (hw 75) (hw 76) (hw 77) rfl (hw 225) (hw 226) (hw 227) (hw 228) (hw 229) (hw 218) (hw 230) (by decide) F08 (W := 0) (own_rm27 l Z a0 hw [] o1 o2 h1 n0 Z1 O0 F05 y0 F06 y1 F07) [] [] hml (lenOf own_pd10 rfl) (hb hby dd6_59) fun T8 h2 v1 L1 X8 e9 q1 => ?_
 obtain ⟨o3, o4, rfl, N8, K0, F0m, F0n, F09, F0o, F0a, F0b, F0c, F0p, F0q, F0d, F0r, F0s⟩ := q1
 have N9 := Fr.app N7 N8
 have z5 := K0.1
 refine oAS X8 hx hby dd6_64 rfl (l' := #[rv o0, iv i0, .val .null, iv i1, iv i2, rv o1, iv (((31 : Int32) * (((31 : Int32) * (((31 : Int32) * i0) + 0)) + i1)) + i2), rv o3, .unset]) rfl ?_
 refine oAL X8 hx hby dd6_66 rfl rfl ?_
 have F0e := (Fld.other W4 (Fld.other W3 (Fld.other W2 (Fld.other W1 (Fld.other W0 I04 (Or.inl I1)) (Or.inl I1)) (Or.inl I1)) (Or.inl I1)) (Or.inl I1)).keep K0 nin0
 have O6 : Old Z n0 h2 := O0.keep K0 all0
 have Z2 : n0 ≤ h2.size := by omega
 refine own_cI X8 hx hZ hown e9 (y := mN17) (z := mN33) (b := o3) (hw 110) (hw 111) (hw 112) rfl (hw 268) (hw 269) (hw 270) (hw 271) (hw 272) (hw 233) (hw 273) (by decide) F09 (W := 0) (own_rm31 l Z a0 hw [] o3 o4 o2 h2 n0 Z2 O6 F0a F0d F0c F0e F0b) [] [] hml (lenOf own_pd5 rfl) (hb hby dd6_68) fun T3 h9 v2 L2 X6 e00 q2 => ?_
 obtain ⟨rfl, N00, K2⟩ := q2
 have N01 := Fr.app N9 N00
 have e01 := e00.trans K2
 refine oY0 X6 hx hby (pc' := 106) dd6_73 (XT.i0_eq_t (by decide)) ?_
 show own_G p e below (T3.setTop (mkF m 106 #[rv o0, iv i0, .val .null, iv i1, iv i2, rv o1, iv (((31 : Int32) * (((31 : Int32) * (((31 : Int32) * i0) + 0)) + i1)) + i2), rv o3, .unset] [])) _
 refine oAN X6 hx hby dd6_106 rfl rfl ?_
 refine oIL X6 hx hby dd6_107 rfl ?_
 have F8 := (Fld.other W4 (Fld.other W3 (Fld.other W2 (Fld.other W1 (Fld.other W0 I05 (Or.inr (slot_ne (C := cN7) (Or.inr (hw 120)) (Or.inr (hw 44)) (by decide) (t := .int) (t' := .short) (by decide) (by decide)))) (Or.inr (slot_ne (C := cN7) (Or.inr (hw 120)) (Or.inr (hw 46)) (by decide) (t := .int) (t' := (.object cN0)) (by decide) (by decide)))) (Or.inr (slot_ne (C := cN7) (Or.inr (hw 120)) (Or.inr (hw 48)) (by decide) (t := .int) (t' := .int) (by decide) (by decide)))) (Or.inr (slot_ne (C := cN7) (Or.inr (hw 120)) (Or.inr (hw 50)) (by decide) (t := .int) (t' := .int) (by decide) (by decide)))) (Or.inr (slot_ne (C := cN7) (Or.inr (hw 120)) (Or.inr (hw 52)) (by decide) (t := .int) (t' := (.object "java/util/List")) (by decide) (by decide)))).keep K0 nin0
 have F9 := (Exa.wr W4 F7).keep K0
 refine own_pF X6 hx hZ hown (hw 119) e01 F8 F9 (Or.inr ⟨(hw 120), rfl, hnm⟩) (hw 32) (ty := .int) rfl rfl (hb hby dd6_109) fun T9 h7 X00 e02 W5 => ?_
 have N02 := Fr.snoc X00 N01 I0
 have z6 := W5.size
 have F0f := Fld.same W5 F8
 have F0g := Fld.other W5 ((Fld.other W4 (Fld.other W3 (Fld.other W2 (Fld.other W1 F00 (Or.inr (slot_ne (C := cN7) (Or.inr (hw 44)) (Or.inr (hw 46)) (by decide) (t := .short) (t' := (.object cN0)) (by decide) (by decide)))) (Or.inr (slot_ne (C := cN7) (Or.inr (hw 44)) (Or.inr (hw 48)) (by decide) (t := .short) (t' := .int) (by decide) (by decide)))) (Or.inr (slot_ne (C := cN7) (Or.inr (hw 44)) (Or.inr (hw 50)) (by decide) (t := .short) (t' := .int) (by decide) (by decide)))) (Or.inr (slot_ne (C := cN7) (Or.inr (hw 44)) (Or.inr (hw 52)) (by decide) (t := .short) (t' := (.object "java/util/List")) (by decide) (by decide)))).keep K0 nin0) (Or.inr (slot_ne (C := cN7) (Or.inr (hw 44)) (Or.inr (hw 120)) (by decide) (t := .short) (t' := .int) (by decide) (by decide)))
 have F0h := Fld.other W5 ((Fld.other W4 (Fld.other W3 (Fld.other W2 F01 (Or.inr (slot_ne (C := cN7) (Or.inr (hw 46)) (Or.inr (hw 48)) (by decide) (t := (.object cN0)) (t' := .int) (by decide) (by decide)))) (Or.inr (slot_ne (C := cN7) (Or.inr (hw 46)) (Or.inr (hw 50)) (by decide) (t := (.object cN0)) (t' := .int) (by decide) (by decide)))) (Or.inr (slot_ne (C := cN7) (Or.inr (hw 46)) (Or.inr (hw 52)) (by decide) (t := (.object cN0)) (t' := (.object "java/util/List")) (by decide) (by decide)))).keep K0 nin0) (Or.inr (slot_ne (C := cN7) (Or.inr (hw 46)) (Or.inr (hw 120)) (by decide) (t := (.object cN0)) (t' := .int) (by decide) (by decide)))
 have F0i := Exa.wr W5 F9
 have F0j := Fld.other W5 ((Fld.other W4 (Fld.other W3 F02 (Or.inr (slot_ne (C := cN7) (Or.inr (hw 48)) (Or.inr (hw 50)) (by decide) (t := .int) (t' := .int) (by decide) (by decide)))) (Or.inr (slot_ne (C := cN7) (Or.inr (hw 48)) (Or.inr (hw 52)) (by decide) (t := .int) (t' := (.object "java/util/List")) (by decide) (by decide)))).keep K0 nin0) (Or.inr (slot_ne (C := cN7) (Or.inr (hw 48)) (Or.inr (hw 120)) (by decide) (t := .int) (t' := .int) (by decide) (by decide)))
 have F0k := Fld.other W5 ((Fld.other W4 F03 (Or.inr (slot_ne (C := cN7) (Or.inr (hw 50)) (Or.inr (hw 52)) (by decide) (t := .int) (t' := (.object "java/util/List")) (by decide) (by decide)))).keep K0 nin0) (Or.inr (slot_ne (C := cN7) (Or.inr (hw 50)) (Or.inr (hw 120)) (by decide) (t := .int) (t' := .int) (by decide) (by decide)))
 have F0l := Fld.other W5 (F04.keep K0 nin0) (Or.inr (slot_ne (C := cN7) (Or.inr (hw 52)) (Or.inr (hw 120)) (by decide) (t := (.object "java/util/List")) (t' := .int) (by decide) (by decide)))
 have K3 : Keep h0 h7 [o0] := ((((((((Keep.refl h0 [o0]).wr W0 (Or.inl (by simp))).wr W1 (Or.inl (by simp))).wr W2 (Or.inl (by simp))).wr W3 (Or.inl (by simp))).wr W4 (Or.inl (by simp))).trans K0 all0).wr W5 (Or.inl (by simp)))
 exact own_retV X00 hx hns hrt (hb hby dd6_112) e02 (by decide) (by decide) (⟨rfl, N02, K3, F0g, F0h, F0i, F0j, F0k, F0l, F0f⟩)
theorem dd18_12 : decode B08 12 = .ok (.invokespecial 62, 3) := by decide +kernel
theorem dd18_15 : decode B08 15 = .ok (.areturn, 1) := by decide +kernel
theorem own_pn28 : plainFor mN34 = true := by decide +kernel
theorem own_rm20 (l : Launch) (Z : State) (a0 : Array Value) (hw : own_W a0 Z) (ws : List Jvm.Cond) (i0 i1 i2 : Int32) (o1 o3 o4 o5 : Nat) (h0 : Heap) (n0 : Nat) (Z2 : n0 ≤ h0.size) (O1 : Old Z n0 h0) (I0 : Exa Z h0 o1 cN10) (I1 : Mir Z cN10 o3) (I2 : Mir Z cN15 o4) (I3 : Mir Z cN14 o5) (I4 : nar .short i0 = i0) (I5 : Fld Z h0 o1 cN9 "modCount" "I" (.int 0)) (I7 : @LT.lt Nat instLTNat o1 h0.size) (I6 : Fld Z h0 o1 cN10 "size" "I" (.int 0)) :
 own_Met l Z h0 mN34 B08 4 (Option.some (FieldType.object cN7)) ws (own_R 6 4 14 86) #[(.int i0), (.ref o1), (.int i1), (.int i2)] (fun v h L => (∃ o0 : Nat, ∃ o2 : Nat, v = some (.ref o0) ∧ Fr n0 L ∧ Keep h0 h [] ∧ h0.size ≤ o0 ∧ o0 < o2 ∧ Exa Z h o0 cN7 ∧ Fld Z h o0 cN7 "type" "S" (.int i0) ∧ Fld Z h o0 cN7 "name" cN8 .null ∧ Fld Z h o0 cN7 "minOccurs" "I" (.int i1) ∧ Fld Z h o0 cN7 "maxOccurs" "I" (.int i2) ∧ Fld Z h o0 cN7 "particles" cN5 (.ref o2) ∧ Fld Z h o0 cN7 "hash" "I" (.int (((31 : Int32) * (((31 : Int32) * (((31 : Int32) * i0) + 0)) + i1)) + i2)) ∧ Exa Z h o2 cN14 ∧ Fld Z h o2 cN12 "c" cN13 (.ref o1) ∧ Fld Z h o2 cN15 "list" cN5 (.ref o1) ∧ @LT.lt Nat instLTNat o0 h.size ∧ @LT.lt Nat instLTNat o2 h.size)) 4 14 := own_go own_pn28 fun p e s m below meth c s₁ hns hrt hnm hml hZ hx hby hown X1 e0 => by
 have N1 := Fr.nil n0
 refine own_cast (own_ef8 m i0 o1 i1 i2) ?_
 obtain ⟨T0, h1, X0, e1, E0, A0, D0, U0, s0⟩ := newO X1 hx hZ hown (hw 31) (hw 32) (hw 29) e0 (g := (mkF m 0 #[iv i0, rv o1, iv i1, iv i2] [])) rfl (hb hby dd18_0) (by decide) (by decide)
 obtain ⟨o0, g0⟩ : ∃ z, z = h0.size := ⟨_, rfl⟩
 rw [← g0] at A0 D0 U0 s0
 have z0 := E0.1
 have y3 : @LT.lt Nat instLTNat o0 h1.size := A0.lt
 refine oS s0 ?_
 have F3 : Fld Z h1 o0 cN7 "type" "S" (.int 0) := D0 (Or.inr (hw 44)) (ty := .short) (by decide)
 have F4 : Fld Z h1 o0 cN7 "name" cN8 .null := D0 (Or.inr (hw 46)) (ty := (.object cN0)) (by decide)
 have F5 : Fld Z h1 o0 cN7 "minOccurs" "I" (.int 0) := D0 (Or.inr (hw 48)) (ty := .int) (by decide)
 have F6 : Fld Z h1 o0 cN7 "maxOccurs" "I" (.int 0) := D0 (Or.inr (hw 50)) (ty := .int) (by decide)
 have F7 : Fld Z h1 o0 cN7 "particles" cN5 .null := D0 (Or.inr (hw 52)) (ty := (.object "java/util/List")) (by decide)
 have F8 : Fld Z h1 o0 cN7 "hash" "I" (.int 0) := D0 (Or.inr (hw 120)) (ty := .int) (by decide)
 refine oS (fun _ => XS.dup X0.here hx rfl (hb hby dd18_3) rfl rfl) ?_
 refine oIN X0 hx hby dd18_4 rfl ?_
 refine oS (fun _ => XS.aconstNull X0.here hx rfl (hb hby dd18_5) ) ?_
 refine oIN X0 hx hby dd18_6 rfl ?_
 refine oIN X0 hx hby dd18_7 rfl ?_
 refine oAN X0 hx hby dd18_8 rfl rfl ?_
 have F0 := Exa.ext E0 I0
 have O0 : Old Z n0 h1 := O1.ext E0
 have Z0 : n0 ≤ h1.size := by omega
 refine own_cS X0 hx hZ hown e1 (y := mN25) (hw 183) (hw 184) (hw 185) (hw 186) (by decide) (W := 6) (own_rm21 l Z a0 hw [] o1 o3 o4 o5 h1 n0 Z0 O0 F0 I1 I2 I3) [(.ref o1)] [(.int i2), (.int i1), .null, (.int i0), (.ref o0), (.ref o0)] hml (lenOf own_pd16 rfl) (hb hby dd18_9) fun T1 h2 v0 L0 X2 e2 q0 => ?_
 obtain ⟨o2, rfl, N2, K0, F0l, F1, F2, F9, F00⟩ := q0
 have N3 := Fr.app N1 N2
 have z1 := K0.1
 have F01 := F3.keep K0 nin0
 have F02 := A0.keep K0
 have N4 : n0 ≤ o0 := by omega
 have F03 := F4.keep K0 nin0
 have F04 := F5.keep K0 nin0
 have F05 := F6.keep K0 nin0
 have F06 := F7.keep K0 nin0
 have N0 : @Ne Nat o2 o0 := by omega
 have F07 := (Fld.ext E0 I5).keep K0 nin0
 have N5 : @Ne Nat o1 o0 := by omega
 have y0 : @LT.lt Nat instLTNat o1 h2.size := by omega
 have F08 := F0.keep K0
 have F09 := (Fld.ext E0 I6).keep K0 nin0
 have F0a := F8.keep K0 nin0
 have O2 : Old Z n0 h2 := O0.keep K0 all0
 have Z1 : n0 ≤ h2.size := by omega
 refine own_cN X2 hx hZ hown e2 (y := mN15) (b := o0) rfl (hw 39) (hw 40) (hw 29) (hw 41) (by decide) (W := 1) (own_rm25 l Z a0 hw [] i0 i1 i2 o0 o2 o1 h2 n0 Z1 O2 F01 F02 I4 N4 F03 F04 F05 F06 F2 N0 F00 F07 N5 y0 F08 F1 F09 F0a) [(.int i0), .null, (.int i1), (.int i2), (.ref o2)] [(.ref o0)] hml (lenOf own_pd11 rfl) (hb hby dd18_12) fun T2 h3 v1 L1 X3 e3 q1 => ?_
 obtain ⟨rfl, N6, K1, F0b, F0c, F0d, F0e, F0f, F0g, F0h⟩ := q1
 have N7 := Fr.app N3 N6
 have z2 := K1.1
 have F0i := F1.keep K1
 have F0j := F2.keep K1 (ninS N0 nin0)
 have F0k := F9.keep K1 (ninS N0 nin0)
 have y1 : @LT.lt Nat instLTNat o0 h3.size := by omega
 have y2 : @LT.lt Nat instLTNat o2 h3.size := by omega
 have K2 : Keep h0 h3 [] := ((((Keep.refl h0 []).ext E0).trans K0 all0).trans K1 (allS (Or.inr (by omega)) all0))
 exact own_retA X3 hx hns hrt rfl rfl (hb hby dd18_15) e3 (by decide) (by decide) (⟨o0, o2, rfl, N7, K2, (by omega), (by omega), F0d, F0b, F0c, F0e, F0f, F0g, F0h, F0i, F0j, F0k, y1, y2⟩)
theorem own_pd19 : parseMethodDescriptor "(SLjava/util/List;II)Lcom/example/doctype_in_dom/doctypeindom/definitions/ContentParticleImpl;" = some ⟨[.short, (.object "java/util/List"), .int, .int], (some (.object cN7))⟩ := by decide +kernel
theorem dd29_0 : decode B0j 0 = .ok (.aload_n 0, 1) := by decide +kernel
theorem dd29_1 : decode B0j 1 = .ok (.getfield 24, 3) := by decide +kernel
theorem dd29_4 : decode B0j 4 = .ok (.areturn, 1) := by decide +kernel
theorem own_pn29 : plainFor mN35 = true := by decide +kernel
theorem own_rm33 (l : Launch) (Z : State) (a0 : Array Value) (hw : own_W a0 Z) (ws : List Jvm.Cond) (o0 o1 : Nat) (h0 : Heap) (n0 : Nat) (Z0 : n0 ≤ h0.size) (O0 : Old Z n0 h0) (I0 : Fld Z h0 o0 cN7 "particles" cN5 (.ref o1)) :
 own_Met l Z h0 mN35 B0j 1 (Option.some (FieldType.object "java/util/List")) ws (own_R 0 0 0 0) #[(.ref o0)] (fun v h L => (v = some (.ref o1) ∧ Fr n0 L ∧ h = h0)) 0 0 := own_go own_pn29 fun p e s m below meth c s₁ hns hrt hnm hml hZ hx hby hown X0 e0 => by
 have N0 := Fr.nil n0
 refine own_cast (own_ef6 m o0) ?_
 refine oAN X0 hx hby dd29_0 rfl rfl ?_
 refine own_gF X0 hx hZ hown (hw 51) e0 I0 (hb hby dd29_1) fun T0 X1 e1 => ?_
 exact own_retA X1 hx hns hrt rfl rfl (hb hby dd29_4) e1 (by decide) (by decide) (⟨rfl, N0, rfl⟩)
theorem dd30_0 : decode B0k 0 = .ok (.aload_n 0, 1) := by decide +kernel
theorem dd30_1 : decode B0k 1 = .ok (.getfield 7, 3) := by decide +kernel
theorem dd30_4 : decode B0k 4 = .ok (.ireturn, 1) := by decide +kernel
theorem own_pn30 : plainFor mN36 = true := by decide +kernel
theorem own_rm34 (l : Launch) (Z : State) (a0 : Array Value) (hw : own_W a0 Z) (ws : List Jvm.Cond) (i0 : Int32) (o0 : Nat) (h0 : Heap) (n0 : Nat) (Z0 : n0 ≤ h0.size) (O0 : Old Z n0 h0) (I0 : Fld Z h0 o0 cN7 "type" "S" (.int i0)) (I1 : nar .short i0 = i0) :
 own_Met l Z h0 mN36 B0k 1 (Option.some FieldType.short) ws (own_R 0 0 0 0) #[(.ref o0)] (fun v h L => (v = some (.int i0) ∧ Fr n0 L ∧ h = h0)) 0 0 := own_go own_pn30 fun p e s m below meth c s₁ hns hrt hnm hml hZ hx hby hown X0 e0 => by
 have N0 := Fr.nil n0
 refine own_cast (own_ef6 m o0) ?_
 refine oAN X0 hx hby dd30_0 rfl rfl ?_
 refine own_gF X0 hx hZ hown (hw 43) e0 I0 (hb hby dd30_1) fun T0 X1 e1 => ?_
 exact own_retN X1 hx (t := .short) hns hrt (by simp) (hb hby dd30_4) I1 e1 (by decide) (by decide) (⟨rfl, N0, rfl⟩)
theorem own_pd20 : parseMethodDescriptor "()S" = some ⟨[], (some .short)⟩ := by decide +kernel
theorem dd31_0 : decode B0l 0 = .ok (.aload_n 0, 1) := by decide +kernel
theorem dd31_1 : decode B0l 1 = .ok (.getfield 13, 3) := by decide +kernel
theorem dd31_4 : decode B0l 4 = .ok (.areturn, 1) := by decide +kernel
theorem own_pn31 : plainFor mN37 = true := by decide +kernel
theorem own_rm35 (l : Launch) (Z : State) (a0 : Array Value) (hw : own_W a0 Z) (ws : List Jvm.Cond) (o0 : Nat) (h0 : Heap) (n0 : Nat) (Z0 : n0 ≤ h0.size) (O0 : Old Z n0 h0) (I0 : Fld Z h0 o0 cN7 "name" cN8 .null) :
 own_Met l Z h0 mN37 B0l 1 (Option.some (FieldType.object cN0)) ws (own_R 0 0 0 0) #[(.ref o0)] (fun v h L => (v = some .null ∧ Fr n0 L ∧ h = h0)) 0 0 := own_go own_pn31 fun p e s m below meth c s₁ hns hrt hnm hml hZ hx hby hown X0 e0 => by
 have N0 := Fr.nil n0
 refine own_cast (own_ef6 m o0) ?_
 refine oAN X0 hx hby dd31_0 rfl rfl ?_
 refine own_gF X0 hx hZ hown (hw 45) e0 I0 (hb hby dd31_1) fun T0 X1 e1 => ?_
 exact own_retA X1 hx hns hrt rfl rfl (hb hby dd31_4) e1 (by decide) (by decide) (⟨rfl, N0, rfl⟩)
theorem own_pd21 : parseMethodDescriptor "()Ljava/lang/String;" = some ⟨[], (some (.object cN0))⟩ := by decide +kernel
theorem dd32_0 : decode B0m 0 = .ok (.aload_n 0, 1) := by decide +kernel
theorem dd32_1 : decode B0m 1 = .ok (.getfield 17, 3) := by decide +kernel
theorem dd32_4 : decode B0m 4 = .ok (.ireturn, 1) := by decide +kernel
theorem own_pn32 : plainFor mN38 = true := by decide +kernel
theorem own_rm36 (l : Launch) (Z : State) (a0 : Array Value) (hw : own_W a0 Z) (ws : List Jvm.Cond) (i0 : Int32) (o0 : Nat) (h0 : Heap) (n0 : Nat) (Z0 : n0 ≤ h0.size) (O0 : Old Z n0 h0) (I0 : Fld Z h0 o0 cN7 "minOccurs" "I" (.int i0)) :
 own_Met l Z h0 mN38 B0m 1 (Option.some FieldType.int) ws (own_R 0 0 0 0) #[(.ref o0)] (fun v h L => (v = some (.int i0) ∧ Fr n0 L ∧ h = h0)) 0 0 := own_go own_pn32 fun p e s m below meth c s₁ hns hrt hnm hml hZ hx hby hown X0 e0 => by
 have N0 := Fr.nil n0
 refine own_cast (own_ef6 m o0) ?_
 refine oAN X0 hx hby dd32_0 rfl rfl ?_
 refine own_gF X0 hx hZ hown (hw 47) e0 I0 (hb hby dd32_1) fun T0 X1 e1 => ?_
 exact own_retI X1 hx hns hrt (hb hby dd32_4) e1 (by decide) (by decide) (⟨rfl, N0, rfl⟩)
theorem dd33_0 : decode B0n 0 = .ok (.aload_n 0, 1) := by decide +kernel
theorem dd33_1 : decode B0n 1 = .ok (.getfield 21, 3) := by decide +kernel
theorem dd33_4 : decode B0n 4 = .ok (.ireturn, 1) := by decide +kernel
theorem own_pn33 : plainFor mN39 = true := by decide +kernel
theorem own_rm37 (l : Launch) (Z : State) (a0 : Array Value) (hw : own_W a0 Z) (ws : List Jvm.Cond) (i0 : Int32) (o0 : Nat) (h0 : Heap) (n0 : Nat) (Z0 : n0 ≤ h0.size) (O0 : Old Z n0 h0) (I0 : Fld Z h0 o0 cN7 "maxOccurs" "I" (.int i0)) :
 own_Met l Z h0 mN39 B0n 1 (Option.some FieldType.int) ws (own_R 0 0 0 0) #[(.ref o0)] (fun v h L => (v = some (.int i0) ∧ Fr n0 L ∧ h = h0)) 0 0 := own_go own_pn33 fun p e s m below meth c s₁ hns hrt hnm hml hZ hx hby hown X0 e0 => by
 have N0 := Fr.nil n0
 refine own_cast (own_ef6 m o0) ?_
 refine oAN X0 hx hby dd33_0 rfl rfl ?_
 refine own_gF X0 hx hZ hown (hw 49) e0 I0 (hb hby dd33_1) fun T0 X1 e1 => ?_
 exact own_retI X1 hx hns hrt (hb hby dd33_4) e1 (by decide) (by decide) (⟨rfl, N0, rfl⟩)
theorem dd34_0 : decode B0o 0 = .ok (.aload_n 0, 1) := by decide +kernel
theorem dd34_1 : decode B0o 1 = .ok (.getfield 10, 3) := by decide +kernel
theorem dd35_0 : decode B0p 0 = .ok (.aload_n 0, 1) := by decide +kernel
theorem dd35_1 : decode B0p 1 = .ok (.getfield 48, 3) := by decide +kernel
theorem dd35_4 : decode B0p 4 = .ok (.ireturn, 1) := by decide +kernel
theorem own_pn34 : plainFor mN40 = true := by decide +kernel
theorem own_rm39 (l : Launch) (Z : State) (a0 : Array Value) (hw : own_W a0 Z) (ws : List Jvm.Cond) (o0 : Nat) (h0 : Heap) (n0 : Nat) (Z0 : n0 ≤ h0.size) (O0 : Old Z n0 h0) (I0 : Fld Z h0 o0 cN10 "size" "I" (.int 0)) :
 own_Met l Z h0 mN40 B0p 1 (Option.some FieldType.int) ws (own_R 0 0 0 0) #[(.ref o0)] (fun v h L => (v = some (.int 0) ∧ Fr n0 L ∧ h = h0)) 0 0 := own_go own_pn34 fun p e s m below meth c s₁ hns hrt hnm hml hZ hx hby hown X0 e0 => by
 have N0 := Fr.nil n0
 refine own_cast (own_ef6 m o0) ?_
 refine oAN X0 hx hby dd35_0 rfl rfl ?_
 refine own_gF X0 hx hZ hown (hw 156) e0 I0 (hb hby dd35_1) fun T0 X1 e1 => ?_
 exact own_retI X1 hx hns hrt (hb hby dd35_4) e1 (by decide) (by decide) (⟨rfl, N0, rfl⟩)
theorem dd34_4 : decode B0o 4 = .ok (.invokeinterface 16 1, 5) := by decide +kernel
theorem dd34_9 : decode B0o 9 = .ok (.ireturn, 1) := by decide +kernel
theorem own_pn35 : plainFor mN41 = true := by decide +kernel
theorem own_rm38 (l : Launch) (Z : State) (a0 : Array Value) (hw : own_W a0 Z) (ws : List Jvm.Cond) (o1 o0 : Nat) (h0 : Heap) (n0 : Nat) (Z0 : n0 ≤ h0.size) (O0 : Old Z n0 h0) (I0 : Fld Z h0 o1 cN12 "c" cN13 (.ref o0)) (I1 : Fld Z h0 o0 cN10 "size" "I" (.int 0)) (I2 : Exa Z h0 o0 cN10) :
 own_Met l Z h0 mN41 B0o 1 (Option.some FieldType.int) ws (own_R 1 0 0 12) #[(.ref o1)] (fun v h L => (v = some (.int 0) ∧ Fr n0 L ∧ h = h0)) 0 0 := own_go own_pn35 fun p e s m below meth c s₁ hns hrt hnm hml hZ hx hby hown X0 e0 => by
 have N0 := Fr.nil n0
 refine own_cast (own_ef6 m o1) ?_
 refine oAN X0 hx hby dd34_0 rfl rfl ?_
 refine own_gF X0 hx hZ hown (hw 221) e0 I0 (hb hby dd34_1) fun T0 X1 e1 => ?_
 refine own_cI X1 hx hZ hown e1 (y := mN42) (z := mN40) (b := o0) (hw 346) (hw 347) (hw 348) rfl (hw 349) (hw 350) (hw 351) (hw 352) (hw 249) (hw 123) (hw 353) (by decide) I2 (W := 0) (own_rm39 l Z a0 hw [] o0 h0 n0 Z0 O0 I1) [] [] hml (lenOf own_pd7 rfl) (hb hby dd34_4) fun T1 h1 v0 L0 X2 e2 q0 => ?_
 obtain ⟨rfl, N1, K0⟩ := q0
 have N2 := Fr.app N0 N1
 have e3 := e2.trans K0
 exact own_retI X2 hx hns hrt (hb hby dd34_9) e3 (by decide) (by decide) (⟨rfl, N2, rfl⟩)
theorem own_ef12 (m : MethodId) (x0 : Addr) (x1 : Addr) : entryFrame m #[(.ref x0), (.ref x1)] 7 = mkF m 0 #[.val (.ref x0), .val (.ref x1), .unset, .unset, .unset, .unset, .unset] [] := by first | (simp [entryFrame, mkF, argsToLocals, Value.category]; done) | rfl
theorem dd36_0 : decode B0q 0 = .ok (.aload_n 1, 1) := by decide +kernel
theorem dd36_1 : decode B0q 1 = .ok (.instanceof 8, 3) := by decide +kernel
theorem dd36_4 : decode B0q 4 = .ok (.ifCond .ne 5, 3) := by decide +kernel
theorem dd36_9 : decode B0q 9 = .ok (.new 71, 3) := by decide +kernel
theorem dd36_12 : decode B0q 12 = .ok (.dup, 1) := by decide +kernel
theorem dd37_0 : decode B0r 0 = .ok (.aload_n 0, 1) := by decide +kernel
theorem dd37_1 : decode B0r 1 = .ok (.invokespecial 42, 3) := by decide +kernel
theorem dd37_4 : decode B0r 4 = .ok (.aload_n 0, 1) := by decide +kernel
theorem dd37_5 : decode B0r 5 = .ok (.bipush 17, 2) := by decide +kernel
theorem dd37_7 : decode B0r 7 = .ok (.anewarray 47, 3) := by decide +kernel
theorem dd37_10 : decode B0r 10 = .ok (.putfield 3, 3) := by decide +kernel
theorem dd37_13 : decode B0r 13 = .ok (.return_, 1) := by decide +kernel
theorem own_pn36 : plainFor mN43 = true := by decide +kernel
theorem own_rm41 (l : Launch) (Z : State) (a0 : Array Value) (hw : own_W a0 Z) (ws : List Jvm.Cond) (o0 : Nat) (h0 : Heap) (n0 : Nat) (Z0 : n0 ≤ h0.size) (O0 : Old Z n0 h0) (I0 : Fld Z h0 o0 cN23 "elements" cN3 .null) (I1 : Exa Z h0 o0 cN23) (I2 : n0 ≤ o0) (I3 : Fld Z h0 o0 cN23 "head" "I" (.int 0)) (I4 : Fld Z h0 o0 cN23 "tail" "I" (.int 0)) (I5 : @LT.lt Nat instLTNat o0 h0.size) :
 own_Met l Z h0 mN43 B0r 1 (Option.none : Option FieldType) ws (own_R 2 1 17 24) #[(.ref o0)] (fun v h L => (∃ o1 : Nat, ∃ m0 : ClassId, v = none ∧ Fr n0 L ∧ Keep h0 h [o0] ∧ h0.size ≤ o1 ∧ Fld Z h o0 cN23 "elements" cN3 (.ref o1) ∧ Exa Z h o0 cN23 ∧ Fld Z h o0 cN23 "head" "I" (.int 0) ∧ Fld Z h o0 cN23 "tail" "I" (.int 0) ∧ Arv Z h o1 m0 (.object cN1) 17 [.null, .null, .null, .null, .null, .null, .null, .null, .null, .null, .null, .null, .null, .null, .null, .null, .null] .null ∧ @LT.lt Nat instLTNat o1 h.size ∧ Ovr Z m0 cN1)) 1 17 := own_go own_pn36 fun p e s m below meth c s₁ hns hrt hnm hml hZ hx hby hown X1 e0 => by
 have N0 := Fr.nil n0
 refine own_cast (own_ef6 m o0) ?_
 refine oAN X1 hx hby dd37_0 rfl rfl ?_
 refine own_cN X1 hx hZ hown e0 (y := mN19) (b := o0) rfl (hw 392) (hw 134) (hw 137) (hw 138) (by decide) (W := 0) (own_rm19 l Z a0 hw [] o0 h0 n0 Z0 O0 ) [] [] hml (lenOf own_pd13 rfl) (hb hby dd37_1) fun T0 h3 v0 L0 X0 e1 q0 => ?_
 obtain ⟨rfl, N1, K0⟩ := q0
 have N2 := Fr.app N0 N1
 have e2 := e1.trans K0
 refine oAN X0 hx hby dd37_4 rfl rfl ?_
 refine oS (fun _ => XS.bipush X0.here hx rfl (hb hby dd37_5) ) ?_
 obtain ⟨T1, h1, m0, X3, e3, E0, A0, V0, s0⟩ := newR X0 hx hZ hown (hw 394) (hw 178) e2 (g := (mkF m 7 #[rv o0] [(.int 17), (.ref o0)])) rfl (hb hby dd37_7) (n := 17) (rest := [(.ref o0)]) rfl (by decide) (cap := 17) (by decide) (by decide) (by decide) (by decide)
 obtain ⟨o1, g0⟩ : ∃ z, z = h0.size := ⟨_, rfl⟩
 rw [← g0] at A0 s0
 have F0 : Arv Z h1 o1 m0 (.object cN1) 17 [.null, .null, .null, .null, .null, .null, .null, .null, .null, .null, .null, .null, .null, .null, .null, .null, .null] .null := own_newA A0 (by decide) rfl rfl
 have z0 := E0.1
 have y1 : @LT.lt Nat instLTNat o1 h1.size := F0.lt
 refine oS s0 ?_
 have F1 := Fld.ext E0 I0
 have F2 := Exa.ext E0 I1
 refine own_pF X3 hx hZ hown (hw 395) e3 F1 F2 (Or.inl (hw 396)) (hw 387) (ty := (.array (.object cN1))) rfl rfl (hb hby dd37_10) fun T2 h2 X2 e4 W0 => ?_
 have N3 := Fr.snoc X2 N2 I2
 have z1 := W0.size
 have F3 := Fld.same W0 F1
 have F4 := Exa.wr W0 F2
 have F5 := Fld.other W0 (Fld.ext E0 I3) (Or.inr (slot_ne (C := cN23) (Or.inl (hw 412)) (Or.inl (hw 396)) (by decide) (t := .int) (t' := (.array (.object cN1))) (by decide) (by decide)))
 have F6 := Fld.other W0 (Fld.ext E0 I4) (Or.inr (slot_ne (C := cN23) (Or.inl (hw 417)) (Or.inl (hw 396)) (by decide) (t := .int) (t' := (.array (.object cN1))) (by decide) (by decide)))
 have N4 : @Ne Nat o1 o0 := by omega
 have F7 := F0.other W0 N4
 have y0 : @LT.lt Nat instLTNat o1 h2.size := by omega
 have K1 : Keep h0 h2 [o0] := (((Keep.refl h0 [o0]).ext E0).wr W0 (Or.inl (by simp)))
 exact own_retV X2 hx hns hrt (hb hby dd37_13) e4 (by decide) (by decide) (⟨o1, m0, rfl, N3, K1, (by omega), F3, F4, F5, F6, F7, y0, V0⟩)
theorem dd36_13 : decode B0q 13 = .ok (.invokespecial 73, 3) := by decide +kernel
theorem dd36_16 : decode B0q 16 = .ok (.astore_n 2, 1) := by decide +kernel
theorem dd36_17 : decode B0q 17 = .ok (.new 71, 3) := by decide +kernel
theorem dd36_20 : decode B0q 20 = .ok (.dup, 1) := by decide +kernel
theorem dd36_21 : decode B0q 21 = .ok (.invokespecial 73, 3) := by decide +kernel
theorem dd36_24 : decode B0q 24 = .ok (.astore_n 3, 1) := by decide +kernel
theorem dd36_25 : decode B0q 25 = .ok (.aload_n 2, 1) := by decide +kernel
theorem dd36_26 : decode B0q 26 = .ok (.aload_n 0, 1) := by decide +kernel
theorem dd38_0 : decode B0s 0 = .ok (.aload_n 0, 1) := by decide +kernel
theorem dd38_1 : decode B0s 1 = .ok (.aload_n 1, 1) := by decide +kernel
theorem own_ef13 (m : MethodId) (x0 : Addr) (x1 : Addr) : entryFrame m #[(.ref x0), (.ref x1)] 3 = mkF m 0 #[.val (.ref x0), .val (.ref x1), .unset] [] := by first | (simp [entryFrame, mkF, argsToLocals, Value.category]; done) | rfl
theorem dd39_0 : decode B0t 0 = .ok (.aload_n 1, 1) := by decide +kernel
theorem dd39_1 : decode B0t 1 = .ok (.ifnonnull 11, 3) := by decide +kernel
theorem dd39_12 : decode B0t 12 = .ok (.aload_n 0, 1) := by decide +kernel
theorem dd39_13 : decode B0t 13 = .ok (.getfield 3, 3) := by decide +kernel
theorem dd39_16 : decode B0t 16 = .ok (.astore_n 2, 1) := by decide +kernel
theorem dd39_17 : decode B0t 17 = .ok (.aload_n 2, 1) := by decide +kernel
theorem dd39_18 : decode B0t 18 = .ok (.aload_n 0, 1) := by decide +kernel
theorem dd39_19 : decode B0t 19 = .ok (.aload_n 0, 1) := by decide +kernel
theorem dd39_20 : decode B0t 20 = .ok (.getfield 24, 3) := by decide +kernel
theorem dd39_23 : decode B0t 23 = .ok (.aload_n 2, 1) := by decide +kernel
theorem dd39_24 : decode B0t 24 = .ok (.arraylength, 1) := by decide +kernel
theorem own_ef14 (m : MethodId) (x0 : Int32) (x1 : Int32) : entryFrame m #[(.int x0), (.int x1)] 2 = mkF m 0 #[.val (.int x0), .val (.int x1)] [] := by first | (simp [entryFrame, mkF, argsToLocals, Value.category]; done) | rfl
theorem dd40_0 : decode B0u 0 = .ok (.iinc 0 (-1), 3) := by decide +kernel
theorem dd40_3 : decode B0u 3 = .ok (.iload_n 0, 1) := by decide +kernel
theorem dd40_4 : decode B0u 4 = .ok (.ifCond .ge 7, 3) := by decide +kernel
theorem dd40_7 : decode B0u 7 = .ok (.iload_n 1, 1) := by decide +kernel
theorem dd40_8 : decode B0u 8 = .ok (.iconst 1, 1) := by decide +kernel
theorem dd40_9 : decode B0u 9 = .ok (.isub, 1) := by decide +kernel
theorem dd40_10 : decode B0u 10 = .ok (.istore_n 0, 1) := by decide +kernel
theorem dd40_11 : decode B0u 11 = .ok (.iload_n 0, 1) := by decide +kernel
theorem dd40_12 : decode B0u 12 = .ok (.ireturn, 1) := by decide +kernel
theorem own_pn37 : plainFor mN44 = true := by decide +kernel
theorem own_rm44 (l : Launch) (Z : State) (a0 : Array Value) (hw : own_W a0 Z) (ws : List Jvm.Cond)  (h0 : Heap) (n0 : Nat) (Z0 : n0 ≤ h0.size) (O0 : Old Z n0 h0)  :
 own_Met l Z h0 mN44 B0u 2 (Option.some FieldType.int) ws (own_R 0 0 0 0) #[(.int 0), (.int 17)] (fun v h L => (v = some (.int 16) ∧ Fr n0 L ∧ h = h0)) 0 0 := own_go own_pn37 fun p e s m below meth c s₁ hns hrt hnm hml hZ hx hby hown X0 e0 => by
 have N0 := Fr.nil n0
 refine own_cast (own_ef14 m 0 17) ?_
 refine oS (fun _ => XS.iinc X0.here hx rfl (hb hby dd40_0) rfl (l' := #[iv (-1), iv 17]) rfl) ?_
 refine oIN X0 hx hby dd40_3 rfl ?_
 refine oN0 X0 hx hby dd40_4 (XT.i0_ge_f (by decide)) ?_
 refine oIN X0 hx hby dd40_7 rfl ?_
 refine oIC X0 hx hby dd40_8 ?_
 refine oS (fun _ => XS.isub X0.here hx rfl (hb hby dd40_9) rfl) ?_
 refine oISN X0 hx hby dd40_10 (l' := #[iv 16, iv 17]) rfl ?_
 refine oIN X0 hx hby dd40_11 rfl ?_
 exact own_retI X0 hx hns hrt (hb hby dd40_12) e0 (by decide) (by decide) (⟨rfl, N0, rfl⟩)
theorem own_pd22 : parseMethodDescriptor "(II)I" = some ⟨[.int, .int], (some .int)⟩ := by decide +kernel
theorem dd39_25 : decode B0t 25 = .ok (.invokestatic 68, 3) := by decide +kernel
theorem dd39_28 : decode B0t 28 = .ok (.dup_x1, 1) := by decide +kernel
theorem dd39_29 : decode B0t 29 = .ok (.putfield 24, 3) := by decide +kernel
theorem dd39_32 : decode B0t 32 = .ok (.aload_n 1, 1) := by decide +kernel
theorem dd39_33 : decode B0t 33 = .ok (.aastore, 1) := by decide +kernel
theorem dd39_34 : decode B0t 34 = .ok (.aload_n 0, 1) := by decide +kernel
theorem dd39_35 : decode B0t 35 = .ok (.getfield 24, 3) := by decide +kernel
theorem dd39_38 : decode B0t 38 = .ok (.aload_n 0, 1) := by decide +kernel
theorem dd39_39 : decode B0t 39 = .ok (.getfield 20, 3) := by decide +kernel
theorem dd39_42 : decode B0t 42 = .ok (.if_icmp .ne 8, 3) := by decide +kernel
theorem dd39_50 : decode B0t 50 = .ok (.return_, 1) := by decide +kernel
theorem own_pn38 : plainFor mN45 = true := by decide +kernel
theorem own_rm43 (l : Launch) (Z : State) (a0 : Array Value) (hw : own_W a0 Z) (ws : List Jvm.Cond) (m0 : ClassId) (o0 o2 o1 : Nat) (h0 : Heap) (n0 : Nat) (Z0 : n0 ≤ h0.size) (O0 : Old Z n0 h0) (I2 : Fld Z h0 o0 cN23 "elements" cN3 (.ref o1)) (I1 : Fld Z h0 o0 cN23 "head" "I" (.int 0)) (I3 : Arv Z h0 o1 m0 (.object cN1) 17 [.null, .null, .null, .null, .null, .null, .null, .null, .null, .null, .null, .null, .null, .null, .null, .null, .null] .null) (I4 : Exa Z h0 o0 cN23) (I5 : n0 ≤ o0) (I0 : @Ne Nat o1 o0) (I6 : Ovr Z m0 cN1) (I7 : Exa Z h0 o2 cN7) (I8 : n0 ≤ o1) (I9 : Fld Z h0 o0 cN23 "tail" "I" (.int 0)) :
 own_Met l Z h0 mN45 B0t 3 (Option.none : Option FieldType) ws (own_R 1 0 0 15) #[(.ref o0), (.ref o2)] (fun v h L => (v = none ∧ Fr n0 L ∧ Keep h0 h [o0, o1] ∧ Fld Z h o0 cN23 "head" "I" (.int 16) ∧ Fld Z h o0 cN23 "tail" "I" (.int 0) ∧ Fld Z h o0 cN23 "elements" cN3 (.ref o1) ∧ Exa Z h o0 cN23 ∧ Arv Z h o1 m0 (.object cN1) 17 [.null, .null, .null, .null, .null, .null, .null, .null, .null, .null, .null, .null, .null, .null, .null, .null, (.ref o2)] .null)) 0 0 := own_go own_pn38 fun p e s m below meth c s₁ hns hrt hnm hml hZ hx hby hown X1 e1 => by
 have N0 := Fr.nil n0
 refine own_cast (own_ef13 m o0 o2) ?_
 refine oAN X1 hx hby dd39_0 rfl rfl ?_
 refine oS (fun _ => XT.ifnonnullYes X1.here hx rfl (pc0 := 1) (pc' := 12) rfl (hb hby dd39_1) rfl (by decide) (by decide)) ?_
 refine oAN X1 hx hby dd39_12 rfl rfl ?_
 refine own_gF X1 hx hZ hown (hw 395) e1 I2 (hb hby dd39_13) fun T2 X0 e2 => ?_
 refine oASN X0 hx hby dd39_16 rfl (l' := #[rv o0, rv o2, rv o1]) rfl ?_
 refine oAN X0 hx hby dd39_17 rfl rfl ?_
 refine oAN X0 hx hby dd39_18 rfl rfl ?_
 refine oAN X0 hx hby dd39_19 rfl rfl ?_
 refine own_gF X0 hx hZ hown (hw 411) e2 I1 (hb hby dd39_20) fun T0 X2 e0 => ?_
 refine oAN X2 hx hby dd39_23 rfl rfl ?_
 show own_G p e below (T0.setTop (mkF m 24 #[rv o0, rv o2, rv o1] [(.ref o1), (.int 0), (.ref o0), (.ref o1)])) _
 refine oS (own_len X2 hx hZ e0 I3 rfl rfl (hb hby dd39_24)) ?_
 refine own_cS X2 hx hZ hown e0 (y := mN44) (hw 413) (hw 414) (hw 388) (hw 415) (by decide) (W := 2) (own_rm44 l Z a0 hw []  h0 n0 Z0 O0 ) [(.int 0), (.int 17)] [(.ref o0), (.ref o1)] hml (lenOf own_pd22 rfl) (hb hby dd39_25) fun T3 h2 v0 L0 X5 e3 q0 => ?_
 obtain ⟨rfl, N1, K0⟩ := q0
 have N2 := Fr.app N0 N1
 have e4 := e3.trans K0
 refine oS (fun _ => XT.dupX1 X5.here hx rfl (hb hby dd39_28) rfl rfl rfl) ?_
 refine own_pF X5 hx hZ hown (hw 411) e4 I1 I4 (Or.inl (hw 412)) (hw 387) (ty := .int) rfl rfl (hb hby dd39_29) fun T4 h3 X3 e5 W0 => ?_
 have N3 := Fr.snoc X3 N2 I5
 have z0 := W0.size
 have F3 := Fld.same W0 I1
 refine oAN X3 hx hby dd39_32 rfl rfl ?_
 have F0 := I3.other W0 I0
 have F4 := Exa.wr W0 I7
 obtain ⟨T5, h1, X4, e6, W1, A0, s0⟩ := own_stR X3 hx hZ e5 F0 rfl 16 (own_sto F0 I6 (Ins.of_exa F4 (hw 179))) rfl rfl (by decide) (by simp) (g := (mkF m 33 #[rv o0, rv o2, rv o1] [(.ref o2), (.int 16), (.ref o1)])) rfl (rest := []) rfl (hb hby dd39_33)
 have N4 := Fr.snoc X4 N3 I8
 have z1 := W1.size
 have F5 : Arv Z h1 o1 m0 (.object cN1) 17 [.null, .null, .null, .null, .null, .null, .null, .null, .null, .null, .null, .null, .null, .null, .null, .null, (.ref o2)] .null := A0
 refine oS s0 ?_
 refine oAN X4 hx hby dd39_34 rfl rfl ?_
 have F1 := Fld.other W1 F3 (Or.inl (Ne.symm I0))
 refine own_gF X4 hx hZ hown (hw 411) e6 F1 (hb hby dd39_35) fun T6 X6 e7 => ?_
 refine oAN X6 hx hby dd39_38 rfl rfl ?_
 have F2 := Fld.other W1 (Fld.other W0 I9 (Or.inr (slot_ne (C := cN23) (Or.inl (hw 417)) (Or.inl (hw 412)) (by decide) (t := .int) (t' := .int) (by decide) (by decide)))) (Or.inl (Ne.symm I0))
 refine own_gF X6 hx hZ hown (hw 416) e7 F2 (hb hby dd39_39) fun T1 X7 e8 => ?_
 show own_G p e below (T1.setTop (mkF m 42 #[rv o0, rv o2, rv o1] [(.int 0), (.int 16)])) _
 refine oYI X7 hx hby (pc' := 50) dd39_42 (XT.ii_ne_t (by decide)) ?_
 have F6 := Fld.other W1 (Fld.other W0 I2 (Or.inr (slot_ne (C := cN23) (Or.inl (hw 396)) (Or.inl (hw 412)) (by decide) (t := (.array (.object cN1))) (t' := .int) (by decide) (by decide)))) (Or.inl (Ne.symm I0))
 have F7 := Exa.wr W1 (Exa.wr W0 I4)
 have K1 : Keep h0 h1 [o0, o1] := (((Keep.refl h0 [o0, o1]).wr W0 (Or.inl (by simp))).wr W1 (Or.inl (by simp)))
 exact own_retV X7 hx hns hrt (hb hby dd39_50) e8 (by decide) (by decide) (⟨rfl, N4, K1, F1, F2, F6, F7, F5⟩)
theorem own_pd23 : parseMethodDescriptor "(Ljava/lang/Object;)V" = some ⟨[(.object cN1)], none⟩ := by decide +kernel
theorem dd38_2 : decode B0s 2 = .ok (.invokevirtual 86, 3) := by decide +kernel
theorem dd38_5 : decode B0s 5 = .ok (.return_, 1) := by decide +kernel
theorem own_pn39 : plainFor mN46 = true := by decide +kernel
theorem own_rm42 (l : Launch) (Z : State) (a0 : Array Value) (hw : own_W a0 Z) (ws : List Jvm.Cond) (m0 : ClassId) (o0 o2 o1 : Nat) (h0 : Heap) (n0 : Nat) (Z0 : n0 ≤ h0.size) (O0 : Old Z n0 h0) (I1 : Fld Z h0 o0 cN23 "elements" cN3 (.ref o1)) (I2 : Fld Z h0 o0 cN23 "head" "I" (.int 0)) (I3 : Arv Z h0 o1 m0 (.object cN1) 17 [.null, .null, .null, .null, .null, .null, .null, .null, .null, .null, .null, .null, .null, .null, .null, .null, .null] .null) (I0 : Exa Z h0 o0 cN23) (I4 : n0 ≤ o0) (I5 : @Ne Nat o1 o0) (I6 : Ovr Z m0 cN1) (I7 : Exa Z h0 o2 cN7) (I8 : n0 ≤ o1) (I9 : Fld Z h0 o0 cN23 "tail" "I" (.int 0)) :
 own_Met l Z h0 mN46 B0s 2 (Option.none : Option FieldType) ws (own_R 2 0 0 29) #[(.ref o0), (.ref o2)] (fun v h L => (v = none ∧ Fr n0 L ∧ Keep h0 h [o0, o1] ∧ Fld Z h o0 cN23 "head" "I" (.int 16) ∧ Fld Z h o0 cN23 "tail" "I" (.int 0) ∧ Fld Z h o0 cN23 "elements" cN3 (.ref o1) ∧ Exa Z h o0 cN23 ∧ Arv Z h o1 m0 (.object cN1) 17 [.null, .null, .null, .null, .null, .null, .null, .null, .null, .null, .null, .null, .null, .null, .null, .null, (.ref o2)] .null)) 0 0 := own_go own_pn39 fun p e s m below meth c s₁ hns hrt hnm hml hZ hx hby hown X0 e0 => by
 have N0 := Fr.nil n0
 refine own_cast (own_ef9 m o0 o2) ?_
 refine oAN X0 hx hby dd38_0 rfl rfl ?_
 refine oAN X0 hx hby dd38_1 rfl rfl ?_
 refine own_cV X0 hx hZ hown e0 (y := mN45) (z := mN45) (b := o0) (hw 406) (hw 407) (notFace_of_selects (args := #[]) (mvT hZ (hw 409))) (hw 409) (hw 408) (hw 388) (hw 410) (by decide) I0 (W := 0) (own_rm43 l Z a0 hw [] m0 o0 o2 o1 h0 n0 Z0 O0 I1 I2 I3 I0 I4 I5 I6 I7 I8 I9) [(.ref o2)] [] hml (lenOf own_pd23 rfl) (hb hby dd38_2) fun T0 h1 v0 L0 X1 e1 q0 => ?_
 obtain ⟨rfl, N1, K0, F0, F1, F2, F3, F4⟩ := q0
 have N2 := Fr.app N0 N1
 have z0 := K0.1
 have K1 : Keep h0 h1 [o0, o1] := ((Keep.refl h0 [o0, o1]).trans K0 (allS (Or.inl (by simp)) (allS (Or.inl (by simp)) all0)))
 exact own_retV X1 hx hns hrt (hb hby dd38_5) e1 (by decide) (by decide) (⟨rfl, N2, K1, F0, F1, F2, F3, F4⟩)
theorem dd36_27 : decode B0q 27 = .ok (.invokeinterface 74 2, 5) := by decide +kernel
theorem dd36_32 : decode B0q 32 = .ok (.aload_n 3, 1) := by decide +kernel
theorem dd36_33 : decode B0q 33 = .ok (.aload_n 1, 1) := by decide +kernel
theorem dd36_34 : decode B0q 34 = .ok (.checkcast 50, 3) := by decide +kernel
theorem dd36_37 : decode B0q 37 = .ok (.invokeinterface 74 2, 5) := by decide +kernel
theorem dd36_42 : decode B0q 42 = .ok (.aload_n 2, 1) := by decide +kernel
theorem dd41_0 : decode B0v 0 = .ok (.aload_n 0, 1) := by decide +kernel
theorem dd41_1 : decode B0v 1 = .ok (.getfield 24, 3) := by decide +kernel
theorem dd41_4 : decode B0v 4 = .ok (.aload_n 0, 1) := by decide +kernel
theorem dd41_5 : decode B0v 5 = .ok (.getfield 20, 3) := by decide +kernel
theorem dd41_8 : decode B0v 8 = .ok (.if_icmp .ne 7, 3) := by decide +kernel
theorem dd41_15 : decode B0v 15 = .ok (.iconst 0, 1) := by decide +kernel
theorem dd41_16 : decode B0v 16 = .ok (.ireturn, 1) := by decide +kernel
theorem own_pn40 : plainFor mN47 = true := by decide +kernel
theorem own_rm45 (l : Launch) (Z : State) (a0 : Array Value) (hw : own_W a0 Z) (ws : List Jvm.Cond) (o0 : Nat) (h0 : Heap) (n0 : Nat) (Z0 : n0 ≤ h0.size) (O0 : Old Z n0 h0) (I0 : Fld Z h0 o0 cN23 "head" "I" (.int 16)) (I1 : Fld Z h0 o0 cN23 "tail" "I" (.int 0)) :
 own_Met l Z h0 mN47 B0v 1 (Option.some FieldType.boolean) ws (own_R 0 0 0 0) #[(.ref o0)] (fun v h L => (v = some (.int 0) ∧ Fr n0 L ∧ h = h0)) 0 0 := own_go own_pn40 fun p e s m below meth c s₁ hns hrt hnm hml hZ hx hby hown X1 e0 => by
 have N0 := Fr.nil n0
 refine own_cast (own_ef6 m o0) ?_
 refine oAN X1 hx hby dd41_0 rfl rfl ?_
 refine own_gF X1 hx hZ hown (hw 411) e0 I0 (hb hby dd41_1) fun T0 X2 e1 => ?_
 refine oAN X2 hx hby dd41_4 rfl rfl ?_
 refine own_gF X2 hx hZ hown (hw 416) e1 I1 (hb hby dd41_5) fun T1 X0 e2 => ?_
 refine oYI X0 hx hby (pc' := 15) dd41_8 (XT.ii_ne_t (by decide)) ?_
 refine oIC X0 hx hby dd41_15 ?_
 exact own_retN X0 hx (t := .boolean) hns hrt (by simp) (hb hby dd41_16) (by decide) e2 (by decide) (by decide) (⟨rfl, N0, rfl⟩)
theorem dd36_43 : decode B0q 43 = .ok (.invokeinterface 80 1, 5) := by decide +kernel
theorem dd36_48 : decode B0q 48 = .ok (.ifCond .ne 116, 3) := by decide +kernel
theorem dd36_51 : decode B0q 51 = .ok (.aload_n 2, 1) := by decide +kernel
theorem dd42_0 : decode B0w 0 = .ok (.aload_n 0, 1) := by decide +kernel
theorem dd43_0 : decode B0x 0 = .ok (.aload_n 0, 1) := by decide +kernel
theorem own_ef15 (m : MethodId) (x0 : Addr) : entryFrame m #[(.ref x0)] 4 = mkF m 0 #[.val (.ref x0), .unset, .unset, .unset] [] := by first | (simp [entryFrame, mkF, argsToLocals, Value.category]; done) | rfl
theorem dd44_0 : decode B0y 0 = .ok (.aload_n 0, 1) := by decide +kernel
theorem dd44_1 : decode B0y 1 = .ok (.getfield 3, 3) := by decide +kernel
theorem dd44_4 : decode B0y 4 = .ok (.dup, 1) := by decide +kernel
theorem dd44_5 : decode B0y 5 = .ok (.astore_n 1, 1) := by decide +kernel
theorem dd44_6 : decode B0y 6 = .ok (.aload_n 0, 1) := by decide +kernel
theorem dd44_7 : decode B0y 7 = .ok (.getfield 24, 3) := by decide +kernel
theorem dd44_10 : decode B0y 10 = .ok (.dup, 1) := by decide +kernel
theorem dd44_11 : decode B0y 11 = .ok (.istore_n 2, 1) := by decide +kernel
theorem own_ef16 (m : MethodId) (x0 : Addr) (x1 : Int32) : entryFrame m #[(.ref x0), (.int x1)] 2 = mkF m 0 #[.val (.ref x0), .val (.int x1)] [] := by first | (simp [entryFrame, mkF, argsToLocals, Value.category]; done) | rfl
theorem dd45_0 : decode B0z 0 = .ok (.aload_n 0, 1) := by decide +kernel
theorem dd45_1 : decode B0z 1 = .ok (.iload_n 1, 1) := by decide +kernel
theorem dd45_2 : decode B0z 2 = .ok (.aaload, 1) := by decide +kernel
theorem dd45_3 : decode B0z 3 = .ok (.areturn, 1) := by decide +kernel
theorem own_pn41 : plainFor mN48 = true := by decide +kernel
theorem own_rm49 (l : Launch) (Z : State) (a0 : Array Value) (hw : own_W a0 Z) (ws : List Jvm.Cond) (m0 : ClassId) (o0 o1 : Nat) (h0 : Heap) (n0 : Nat) (Z0 : n0 ≤ h0.size) (O0 : Old Z n0 h0) (I0 : Arv Z h0 o0 m0 (.object cN1) 17 [.null, .null, .null, .null, .null, .null, .null, .null, .null, .null, .null, .null, .null, .null, .null, .null, (.ref o1)] .null) :
 own_Met l Z h0 mN48 B0z 2 (Option.some (FieldType.object cN1)) ws (own_R 0 0 0 0) #[(.ref o0), (.int 16)] (fun v h L => (v = some (.ref o1) ∧ Fr n0 L ∧ h = h0)) 0 0 := own_go own_pn41 fun p e s m below meth c s₁ hns hrt hnm hml hZ hx hby hown X0 e0 => by
 have N0 := Fr.nil n0
 refine own_cast (own_ef16 m o0 16) ?_
 refine oAN X0 hx hby dd45_0 rfl rfl ?_
 refine oIN X0 hx hby dd45_1 rfl ?_
 refine oS (own_aaload X0 hx hZ e0 I0 rfl (by decide) (v := (.ref o1)) rfl rfl rfl (hb hby dd45_2)) ?_
 exact own_retA X0 hx hns hrt rfl rfl (hb hby dd45_3) e0 (by decide) (by decide) (⟨rfl, N0, rfl⟩)
theorem own_pd24 : parseMethodDescriptor "([Ljava/lang/Object;I)Ljava/lang/Object;" = some ⟨[(.array (.object cN1)), .int], (some (.object cN1))⟩ := by decide +kernel
theorem dd44_12 : decode B0y 12 = .ok (.invokestatic 103, 3) := by decide +kernel
theorem dd44_15 : decode B0y 15 = .ok (.astore_n 3, 1) := by decide +kernel
theorem dd44_16 : decode B0y 16 = .ok (.aload_n 3, 1) := by decide +kernel
theorem dd44_17 : decode B0y 17 = .ok (.ifnull 17, 3) := by decide +kernel
theorem dd44_20 : decode B0y 20 = .ok (.aload_n 1, 1) := by decide +kernel
theorem dd44_21 : decode B0y 21 = .ok (.iload_n 2, 1) := by decide +kernel
theorem dd44_22 : decode B0y 22 = .ok (.aconst_null, 1) := by decide +kernel
theorem dd44_23 : decode B0y 23 = .ok (.aastore, 1) := by decide +kernel
theorem dd44_24 : decode B0y 24 = .ok (.aload_n 0, 1) := by decide +kernel
theorem dd44_25 : decode B0y 25 = .ok (.iload_n 2, 1) := by decide +kernel
theorem dd44_26 : decode B0y 26 = .ok (.aload_n 1, 1) := by decide +kernel
theorem dd44_27 : decode B0y 27 = .ok (.arraylength, 1) := by decide +kernel
theorem dd46_0 : decode B0A 0 = .ok (.iinc 0 1, 3) := by decide +kernel
theorem dd46_3 : decode B0A 3 = .ok (.iload_n 0, 1) := by decide +kernel
theorem dd46_4 : decode B0A 4 = .ok (.iload_n 1, 1) := by decide +kernel
theorem dd46_5 : decode B0A 5 = .ok (.if_icmp .lt 5, 3) := by decide +kernel
theorem dd46_8 : decode B0A 8 = .ok (.iconst 0, 1) := by decide +kernel
theorem dd46_9 : decode B0A 9 = .ok (.istore_n 0, 1) := by decide +kernel
theorem dd46_10 : decode B0A 10 = .ok (.iload_n 0, 1) := by decide +kernel
theorem dd46_11 : decode B0A 11 = .ok (.ireturn, 1) := by decide +kernel
theorem own_pn42 : plainFor mN49 = true := by decide +kernel
theorem own_rm50 (l : Launch) (Z : State) (a0 : Array Value) (hw : own_W a0 Z) (ws : List Jvm.Cond)  (h0 : Heap) (n0 : Nat) (Z0 : n0 ≤ h0.size) (O0 : Old Z n0 h0)  :
 own_Met l Z h0 mN49 B0A 2 (Option.some FieldType.int) ws (own_R 0 0 0 0) #[(.int 16), (.int 17)] (fun v h L => (v = some (.int 0) ∧ Fr n0 L ∧ h = h0)) 0 0 := own_go own_pn42 fun p e s m below meth c s₁ hns hrt hnm hml hZ hx hby hown X0 e0 => by
 have N0 := Fr.nil n0
 refine own_cast (own_ef14 m 16 17) ?_
 refine oS (fun _ => XS.iinc X0.here hx rfl (hb hby dd46_0) rfl (l' := #[iv 17, iv 17]) rfl) ?_
 refine oIN X0 hx hby dd46_3 rfl ?_
 refine oIN X0 hx hby dd46_4 rfl ?_
 refine oNI X0 hx hby dd46_5 (XT.ii_lt_f (by decide)) ?_
 refine oIC X0 hx hby dd46_8 ?_
 refine oISN X0 hx hby dd46_9 (l' := #[iv 0, iv 17]) rfl ?_
 refine oIN X0 hx hby dd46_10 rfl ?_
 exact own_retI X0 hx hns hrt (hb hby dd46_11) e0 (by decide) (by decide) (⟨rfl, N0, rfl⟩)
theorem dd44_28 : decode B0y 28 = .ok (.invokestatic 74, 3) := by decide +kernel
theorem dd44_31 : decode B0y 31 = .ok (.putfield 24, 3) := by decide +kernel
theorem dd44_34 : decode B0y 34 = .ok (.aload_n 3, 1) := by decide +kernel
theorem dd44_35 : decode B0y 35 = .ok (.areturn, 1) := by decide +kernel
theorem own_pn43 : plainFor mN50 = true := by decide +kernel
theorem own_rm48 (l : Launch) (Z : State) (a0 : Array Value) (hw : own_W a0 Z) (ws : List Jvm.Cond) (m0 : ClassId) (o0 o1 o2 : Nat) (h0 : Heap) (n0 : Nat) (Z0 : n0 ≤ h0.size) (O0 : Old Z n0 h0) (I1 : Fld Z h0 o0 cN23 "elements" cN3 (.ref o1)) (I2 : Fld Z h0 o0 cN23 "head" "I" (.int 16)) (I3 : Arv Z h0 o1 m0 (.object cN1) 17 [.null, .null, .null, .null, .null, .null, .null, .null, .null, .null, .null, .null, .null, .null, .null, .null, (.ref o2)] .null) (I4 : n0 ≤ o1) (I0 : @Ne Nat o0 o1) (I5 : Exa Z h0 o0 cN23) (I6 : n0 ≤ o0) (I7 : Fld Z h0 o0 cN23 "tail" "I" (.int 0)) :
 own_Met l Z h0 mN50 B0y 4 (Option.some (FieldType.object cN1)) ws (own_R 1 0 0 14) #[(.ref o0)] (fun v h L => (v = some (.ref o2) ∧ Fr n0 L ∧ Keep h0 h [o1, o0] ∧ Arv Z h o1 m0 (.object cN1) 17 [.null, .null, .null, .null, .null, .null, .null, .null, .null, .null, .null, .null, .null, .null, .null, .null, .null] .null ∧ Fld Z h o0 cN23 "head" "I" (.int 0) ∧ Exa Z h o0 cN23 ∧ Fld Z h o0 cN23 "elements" cN3 (.ref o1) ∧ Fld Z h o0 cN23 "tail" "I" (.int 0))) 0 0 := own_go own_pn43 fun p e s m below meth c s₁ hns hrt hnm hml hZ hx hby hown X5 e1 => by
 have N0 := Fr.nil n0
 refine own_cast (own_ef15 m o0) ?_
 refine oAN X5 hx hby dd44_0 rfl rfl ?_
 refine own_gF X5 hx hZ hown (hw 395) e1 I1 (hb hby dd44_1) fun T2 X2 e2 => ?_
 refine oS (fun _ => XS.dup X2.here hx rfl (hb hby dd44_4) rfl rfl) ?_
 refine oASN X2 hx hby dd44_5 rfl (l' := #[rv o0, rv o1, .unset, .unset]) rfl ?_
 refine oAN X2 hx hby dd44_6 rfl rfl ?_
 refine own_gF X2 hx hZ hown (hw 411) e2 I2 (hb hby dd44_7) fun T3 X3 e3 => ?_
 refine oS (fun _ => XS.dup X3.here hx rfl (hb hby dd44_10) rfl rfl) ?_
 refine oISN X3 hx hby dd44_11 (l' := #[rv o0, rv o1, iv 16, .unset]) rfl ?_
 refine own_cS X3 hx hZ hown e3 (y := mN48) (hw 444) (hw 445) (hw 388) (hw 446) (by decide) (W := 0) (own_rm49 l Z a0 hw [] m0 o1 o2 h0 n0 Z0 O0 I3) [(.ref o1), (.int 16)] [] hml (lenOf own_pd24 rfl) (hb hby dd44_12) fun T0 h3 v0 L0 X0 e4 q0 => ?_
 obtain ⟨rfl, N1, K0⟩ := q0
 have N2 := Fr.app N0 N1
 have e5 := e4.trans K0
 refine oASN X0 hx hby dd44_15 rfl (l' := #[rv o0, rv o1, iv 16, rv o2]) rfl ?_
 show own_G p e below (T0.setTop (mkF m 16 #[rv o0, rv o1, iv 16, rv o2] [])) _
 refine oAN X0 hx hby dd44_16 rfl rfl ?_
 refine oS (fun _ => XS.ifnullNo X0.here hx rfl (hb hby dd44_17) rfl) ?_
 refine oAN X0 hx hby dd44_20 rfl rfl ?_
 refine oIN X0 hx hby dd44_21 rfl ?_
 refine oS (fun _ => XS.aconstNull X0.here hx rfl (hb hby dd44_22) ) ?_
 obtain ⟨T1, h1, X1, e0, W0, A0, s0⟩ := own_stR X0 hx hZ e5 I3 rfl 16 (Or.inl rfl) rfl rfl (by decide) (by simp) (g := (mkF m 23 #[rv o0, rv o1, iv 16, rv o2] [.null, (.int 16), (.ref o1)])) rfl (rest := []) rfl (hb hby dd44_23)
 have N3 := Fr.snoc X1 N2 I4
 have z0 := W0.size
 have F0 : Arv Z h1 o1 m0 (.object cN1) 17 [.null, .null, .null, .null, .null, .null, .null, .null, .null, .null, .null, .null, .null, .null, .null, .null, .null] .null := A0
 refine oS s0 ?_
 refine oAN X1 hx hby dd44_24 rfl rfl ?_
 refine oIN X1 hx hby dd44_25 rfl ?_
 refine oAN X1 hx hby dd44_26 rfl rfl ?_
 refine oS (own_len X1 hx hZ e0 F0 rfl rfl (hb hby dd44_27)) ?_
 show own_G p e below (T1.setTop (mkF m 28 #[rv o0, rv o1, iv 16, rv o2] [(.int 17), (.int 16), (.ref o0)])) _
 have O1 : Old Z n0 h1 := O0.wr W0 I4
 have Z1 : n0 ≤ h1.size := by omega
 refine own_cS X1 hx hZ hown e0 (y := mN49) (hw 447) (hw 448) (hw 388) (hw 449) (by decide) (W := 1) (own_rm50 l Z a0 hw []  h1 n0 Z1 O1 ) [(.int 16), (.int 17)] [(.ref o0)] hml (lenOf own_pd22 rfl) (hb hby dd44_28) fun T4 h4 v1 L1 X6 e6 q1 => ?_
 obtain ⟨rfl, N4, K1⟩ := q1
 have N5 := Fr.app N3 N4
 have e7 := e6.trans K1
 have F1 := Fld.other W0 I2 (Or.inl I0)
 have F2 := Exa.wr W0 I5
 refine own_pF X6 hx hZ hown (hw 411) e7 F1 F2 (Or.inl (hw 412)) (hw 387) (ty := .int) rfl rfl (hb hby dd44_31) fun T5 h2 X4 e8 W1 => ?_
 have N6 := Fr.snoc X4 N5 I6
 have z1 := W1.size
 have F3 := Fld.same W1 F1
 refine oAN X4 hx hby dd44_34 rfl rfl ?_
 have F4 := F0.other W1 (Ne.symm I0)
 have F5 := Exa.wr W1 F2
 have F6 := Fld.other W1 (Fld.other W0 I1 (Or.inl I0)) (Or.inr (slot_ne (C := cN23) (Or.inl (hw 396)) (Or.inl (hw 412)) (by decide) (t := (.array (.object cN1))) (t' := .int) (by decide) (by decide)))
 have F7 := Fld.other W1 (Fld.other W0 I7 (Or.inl I0)) (Or.inr (slot_ne (C := cN23) (Or.inl (hw 417)) (Or.inl (hw 412)) (by decide) (t := .int) (t' := .int) (by decide) (by decide)))
 have K2 : Keep h0 h2 [o1, o0] := (((Keep.refl h0 [o1, o0]).wr W0 (Or.inl (by simp))).wr W1 (Or.inl (by simp)))
 exact own_retA X4 hx hns hrt rfl rfl (hb hby dd44_35) e8 (by decide) (by decide) (⟨rfl, N6, K2, F4, F3, F5, F6, F7⟩)
theorem own_pd25 : parseMethodDescriptor "()Ljava/lang/Object;" = some ⟨[], (some (.object cN1))⟩ := by decide +kernel
theorem dd43_1 : decode B0x 1 = .ok (.invokevirtual 93, 3) := by decide +kernel
theorem dd43_4 : decode B0x 4 = .ok (.astore_n 1, 1) := by decide +kernel
theorem dd43_5 : decode B0x 5 = .ok (.aload_n 1, 1) := by decide +kernel
theorem dd43_6 : decode B0x 6 = .ok (.ifnonnull 11, 3) := by decide +kernel
theorem dd43_17 : decode B0x 17 = .ok (.aload_n 1, 1) := by decide +kernel
theorem dd43_18 : decode B0x 18 = .ok (.areturn, 1) := by decide +kernel
theorem own_pn44 : plainFor mN51 = true := by decide +kernel
theorem own_rm47 (l : Launch) (Z : State) (a0 : Array Value) (hw : own_W a0 Z) (ws : List Jvm.Cond) (m0 : ClassId) (o0 o1 o2 : Nat) (h0 : Heap) (n0 : Nat) (Z0 : n0 ≤ h0.size) (O0 : Old Z n0 h0) (I1 : Fld Z h0 o0 cN23 "elements" cN3 (.ref o1)) (I2 : Fld Z h0 o0 cN23 "head" "I" (.int 16)) (I3 : Arv Z h0 o1 m0 (.object cN1) 17 [.null, .null, .null, .null, .null, .null, .null, .null, .null, .null, .null, .null, .null, .null, .null, .null, (.ref o2)] .null) (I4 : n0 ≤ o1) (I5 : @Ne Nat o0 o1) (I0 : Exa Z h0 o0 cN23) (I6 : n0 ≤ o0) (I7 : Fld Z h0 o0 cN23 "tail" "I" (.int 0)) :
 own_Met l Z h0 mN51 B0x 2 (Option.some (FieldType.object cN1)) ws (own_R 2 0 0 29) #[(.ref o0)] (fun v h L => (v = some (.ref o2) ∧ Fr n0 L ∧ Keep h0 h [o1, o0] ∧ Arv Z h o1 m0 (.object cN1) 17 [.null, .null, .null, .null, .null, .null, .null, .null, .null, .null, .null, .null, .null, .null, .null, .null, .null] .null ∧ Fld Z h o0 cN23 "head" "I" (.int 0) ∧ Exa Z h o0 cN23 ∧ Fld Z h o0 cN23 "elements" cN3 (.ref o1) ∧ Fld Z h o0 cN23 "tail" "I" (.int 0))) 0 0 := own_go own_pn44 fun p e s m below meth c s₁ hns hrt hnm hml hZ hx hby hown X1 e0 => by
 have N0 := Fr.nil n0
 refine own_cast (own_ef7 m o0) ?_
 refine oAN X1 hx hby dd43_0 rfl rfl ?_
 refine own_cV X1 hx hZ hown e0 (y := mN50) (z := mN50) (b := o0) (hw 439) (hw 440) (notFace_of_selects (args := #[]) (mvT hZ (hw 442))) (hw 442) (hw 441) (hw 388) (hw 443) (by decide) I0 (W := 0) (own_rm48 l Z a0 hw [] m0 o0 o1 o2 h0 n0 Z0 O0 I1 I2 I3 I4 I5 I0 I6 I7) [] [] hml (lenOf own_pd25 rfl) (hb hby dd43_1) fun T0 h1 v0 L0 X0 e1 q0 => ?_
 obtain ⟨rfl, N1, K0, F0, F1, F2, F3, F4⟩ := q0
 have N2 := Fr.app N0 N1
 have z0 := K0.1
 refine oASN X0 hx hby dd43_4 rfl (l' := #[rv o0, rv o2]) rfl ?_
 refine oAN X0 hx hby dd43_5 rfl rfl ?_
 refine oS (fun _ => XT.ifnonnullYes X0.here hx rfl (pc0 := 6) (pc' := 17) rfl (hb hby dd43_6) rfl (by decide) (by decide)) ?_
 refine oAN X0 hx hby dd43_17 rfl rfl ?_
 have K1 : Keep h0 h1 [o1, o0] := ((Keep.refl h0 [o1, o0]).trans K0 (allS (Or.inl (by simp)) (allS (Or.inl (by simp)) all0)))
 exact own_retA X0 hx hns hrt rfl rfl (hb hby dd43_18) e1 (by decide) (by decide) (⟨rfl, N2, K1, F0, F1, F2, F3, F4⟩)
theorem dd42_1 : decode B0w 1 = .ok (.invokevirtual 118, 3) := by decide +kernel
theorem dd42_4 : decode B0w 4 = .ok (.areturn, 1) := by decide +kernel
theorem own_pn45 : plainFor mN52 = true := by decide +kernel
theorem own_rm46 (l : Launch) (Z : State) (a0 : Array Value) (hw : own_W a0 Z) (ws : List Jvm.Cond) (m0 : ClassId) (o0 o1 o2 : Nat) (h0 : Heap) (n0 : Nat) (Z0 : n0 ≤ h0.size) (O0 : Old Z n0 h0) (I1 : Fld Z h0 o0 cN23 "elements" cN3 (.ref o1)) (I2 : Fld Z h0 o0 cN23 "head" "I" (.int 16)) (I3 : Arv Z h0 o1 m0 (.object cN1) 17 [.null, .null, .null, .null, .null, .null, .null, .null, .null, .null, .null, .null, .null, .null, .null, .null, (.ref o2)] .null) (I4 : n0 ≤ o1) (I5 : @Ne Nat o0 o1) (I0 : Exa Z h0 o0 cN23) (I6 : n0 ≤ o0) (I7 : Fld Z h0 o0 cN23 "tail" "I" (.int 0)) :
 own_Met l Z h0 mN52 B0w 1 (Option.some (FieldType.object cN1)) ws (own_R 3 0 0 42) #[(.ref o0)] (fun v h L => (v = some (.ref o2) ∧ Fr n0 L ∧ Keep h0 h [o1, o0] ∧ Arv Z h o1 m0 (.object cN1) 17 [.null, .null, .null, .null, .null, .null, .null, .null, .null, .null, .null, .null, .null, .null, .null, .null, .null] .null ∧ Fld Z h o0 cN23 "head" "I" (.int 0) ∧ Exa Z h o0 cN23 ∧ Fld Z h o0 cN23 "elements" cN3 (.ref o1) ∧ Fld Z h o0 cN23 "tail" "I" (.int 0))) 0 0 := own_go own_pn45 fun p e s m below meth c s₁ hns hrt hnm hml hZ hx hby hown X0 e0 => by
 have N0 := Fr.nil n0
 refine own_cast (own_ef6 m o0) ?_
 refine oAN X0 hx hby dd42_0 rfl rfl ?_
 refine own_cV X0 hx hZ hown e0 (y := mN51) (z := mN51) (b := o0) (hw 434) (hw 435) (notFace_of_selects (args := #[]) (mvT hZ (hw 437))) (hw 437) (hw 436) (hw 388) (hw 438) (by decide) I0 (W := 0) (own_rm47 l Z a0 hw [] m0 o0 o1 o2 h0 n0 Z0 O0 I1 I2 I3 I4 I5 I0 I6 I7) [] [] hml (lenOf own_pd25 rfl) (hb hby dd42_1) fun T0 h1 v0 L0 X1 e1 q0 => ?_
 obtain ⟨rfl, N1, K0, F0, F1, F2, F3, F4⟩ := q0
 have N2 := Fr.app N0 N1
 have z0 := K0.1
 have K1 : Keep h0 h1 [o1, o0] := ((Keep.refl h0 [o1, o0]).trans K0 (allS (Or.inl (by simp)) (allS (Or.inl (by simp)) all0)))
 exact own_retA X1 hx hns hrt rfl rfl (hb hby dd42_4) e1 (by decide) (by decide) (⟨rfl, N2, K1, F0, F1, F2, F3, F4⟩)
theorem dd36_52 : decode B0q 52 = .ok (.invokeinterface 83 1, 5) := by decide +kernel
theorem dd36_57 : decode B0q 57 = .ok (.checkcast 8, 3) := by decide +kernel
theorem dd36_60 : decode B0q 60 = .ok (.astore 4, 2) := by decide +kernel
theorem dd36_62 : decode B0q 62 = .ok (.aload_n 3, 1) := by decide +kernel
theorem dd36_63 : decode B0q 63 = .ok (.invokeinterface 83 1, 5) := by decide +kernel
theorem dd36_68 : decode B0q 68 = .ok (.checkcast 8, 3) := by decide +kernel
theorem dd36_71 : decode B0q 71 = .ok (.astore 5, 2) := by decide +kernel
theorem dd36_73 : decode B0q 73 = .ok (.aload 4, 2) := by decide +kernel
theorem dd36_75 : decode B0q 75 = .ok (.aload 5, 2) := by decide +kernel
theorem dd36_77 : decode B0q 77 = .ok (.if_acmp .ne 6, 3) := by decide +kernel
theorem dd36_83 : decode B0q 83 = .ok (.aload 4, 2) := by decide +kernel
theorem dd36_85 : decode B0q 85 = .ok (.aload 5, 2) := by decide +kernel
theorem dd47_0 : decode B0B 0 = .ok (.aload_n 0, 1) := by decide +kernel
theorem dd47_1 : decode B0B 1 = .ok (.getfield 55, 3) := by decide +kernel
theorem dd47_4 : decode B0B 4 = .ok (.aload_n 1, 1) := by decide +kernel
theorem dd47_5 : decode B0B 5 = .ok (.getfield 55, 3) := by decide +kernel
theorem dd47_8 : decode B0B 8 = .ok (.if_icmp .ne 75, 3) := by decide +kernel
theorem dd47_11 : decode B0B 11 = .ok (.aload_n 0, 1) := by decide +kernel
theorem dd47_12 : decode B0B 12 = .ok (.getfield 7, 3) := by decide +kernel
theorem dd47_15 : decode B0B 15 = .ok (.aload_n 1, 1) := by decide +kernel
theorem dd47_16 : decode B0B 16 = .ok (.getfield 7, 3) := by decide +kernel
theorem dd47_19 : decode B0B 19 = .ok (.if_icmp .ne 64, 3) := by decide +kernel
theorem dd47_22 : decode B0B 22 = .ok (.aload_n 0, 1) := by decide +kernel
theorem dd47_23 : decode B0B 23 = .ok (.getfield 17, 3) := by decide +kernel
theorem dd47_26 : decode B0B 26 = .ok (.aload_n 1, 1) := by decide +kernel
theorem dd47_27 : decode B0B 27 = .ok (.getfield 17, 3) := by decide +kernel
theorem dd47_30 : decode B0B 30 = .ok (.if_icmp .ne 53, 3) := by decide +kernel
theorem dd47_33 : decode B0B 33 = .ok (.aload_n 0, 1) := by decide +kernel
theorem dd47_34 : decode B0B 34 = .ok (.getfield 21, 3) := by decide +kernel
theorem dd47_37 : decode B0B 37 = .ok (.aload_n 1, 1) := by decide +kernel
theorem dd47_38 : decode B0B 38 = .ok (.getfield 21, 3) := by decide +kernel
theorem dd47_41 : decode B0B 41 = .ok (.if_icmp .ne 42, 3) := by decide +kernel
theorem dd47_44 : decode B0B 44 = .ok (.aload_n 0, 1) := by decide +kernel
theorem dd47_45 : decode B0B 45 = .ok (.getfield 13, 3) := by decide +kernel
theorem dd47_48 : decode B0B 48 = .ok (.aload_n 1, 1) := by decide +kernel
theorem dd47_49 : decode B0B 49 = .ok (.getfield 13, 3) := by decide +kernel
theorem own_ef17 (m : MethodId)  : entryFrame m #[.null, .null] 2 = mkF m 0 #[.val .null, .val .null] [] := by first | (simp [entryFrame, mkF, argsToLocals, Value.category]; done) | rfl
theorem dd48_0 : decode B0C 0 = .ok (.aload_n 0, 1) := by decide +kernel
theorem dd48_1 : decode B0C 1 = .ok (.aload_n 1, 1) := by decide +kernel
theorem dd48_2 : decode B0C 2 = .ok (.if_acmp .eq 15, 3) := by decide +kernel
theorem dd48_17 : decode B0C 17 = .ok (.iconst 1, 1) := by decide +kernel
theorem dd48_18 : decode B0C 18 = .ok (.goto 4, 3) := by decide +kernel
theorem dd48_22 : decode B0C 22 = .ok (.ireturn, 1) := by decide +kernel
theorem own_pn46 : plainFor mN53 = true := by decide +kernel
theorem own_rm52 (l : Launch) (Z : State) (a0 : Array Value) (hw : own_W a0 Z) (ws : List Jvm.Cond)  (h0 : Heap) (n0 : Nat) (Z0 : n0 ≤ h0.size) (O0 : Old Z n0 h0)  :
 own_Met l Z h0 mN53 B0C 2 (Option.some FieldType.boolean) ws (own_R 0 0 0 0) #[.null, .null] (fun v h L => (v = some (.int 1) ∧ Fr n0 L ∧ h = h0)) 0 0 := own_go own_pn46 fun p e s m below meth c s₁ hns hrt hnm hml hZ hx hby hown X0 e0 => by
 have N0 := Fr.nil n0
 refine own_cast (own_ef17 m ) ?_
 refine oAN X0 hx hby dd48_0 rfl rfl ?_
 refine oAN X0 hx hby dd48_1 rfl rfl ?_
 refine oS (fun _ => XT.acmpYes X0.here hx rfl (pc0 := 2) (pc' := 17) rfl (hb hby dd48_2) rfl rfl rfl (XT.aa_eq_t rfl) (by decide) (by decide)) ?_
 refine oIC X0 hx hby dd48_17 ?_
 refine oGO X0 hx hby (pc' := 22) dd48_18 ?_
 exact own_retN X0 hx (t := .boolean) hns hrt (by simp) (hb hby dd48_22) (by decide) e0 (by decide) (by decide) (⟨rfl, N0, rfl⟩)
theorem own_pd26 : parseMethodDescriptor "(Ljava/lang/Object;Ljava/lang/Object;)Z" = some ⟨[(.object cN1), (.object cN1)], (some .boolean)⟩ := by decide +kernel
theorem dd47_52 : decode B0B 52 = .ok (.invokestatic 97, 3) := by decide +kernel
theorem dd47_55 : decode B0B 55 = .ok (.ifCond .eq 28, 3) := by decide +kernel
theorem dd47_58 : decode B0B 58 = .ok (.aload_n 0, 1) := by decide +kernel
theorem dd47_59 : decode B0B 59 = .ok (.getfield 24, 3) := by decide +kernel
theorem dd47_62 : decode B0B 62 = .ok (.invokeinterface 90 1, 5) := by decide +kernel
theorem dd47_67 : decode B0B 67 = .ok (.aload_n 1, 1) := by decide +kernel
theorem dd47_68 : decode B0B 68 = .ok (.getfield 24, 3) := by decide +kernel
theorem dd47_71 : decode B0B 71 = .ok (.invokeinterface 90 1, 5) := by decide +kernel
theorem dd47_76 : decode B0B 76 = .ok (.if_icmp .ne 7, 3) := by decide +kernel
theorem dd47_79 : decode B0B 79 = .ok (.iconst 1, 1) := by decide +kernel
theorem dd47_80 : decode B0B 80 = .ok (.goto 4, 3) := by decide +kernel
theorem dd47_84 : decode B0B 84 = .ok (.ireturn, 1) := by decide +kernel
theorem dd47_83 : decode B0B 83 = .ok (.iconst 0, 1) := by decide +kernel
theorem own_pn47 : plainFor mN54 = true := by decide +kernel
theorem own_rm51 (l : Launch) (Z : State) (a0 : Array Value) (hw : own_W a0 Z) (ws : List Jvm.Cond) (i0 i1 i2 i3 i4 i5 : Int32) (o1 o0 o2 o4 o3 o5 : Nat) (h0 : Heap) (n0 : Nat) (Z0 : n0 ≤ h0.size) (O0 : Old Z n0 h0) (I0 : Fld Z h0 o1 cN7 "hash" "I" (.int (((31 : Int32) * (((31 : Int32) * (((31 : Int32) * i0) + 0)) + i1)) + i2))) (I1 : Fld Z h0 o0 cN7 "hash" "I" (.int (((31 : Int32) * (((31 : Int32) * (((31 : Int32) * i3) + 0)) + i4)) + i5))) (I2 : Fld Z h0 o1 cN7 "type" "S" (.int i0)) (I3 : Fld Z h0 o0 cN7 "type" "S" (.int i3)) (I4 : Fld Z h0 o1 cN7 "minOccurs" "I" (.int i1)) (I5 : Fld Z h0 o0 cN7 "minOccurs" "I" (.int i4)) (I6 : Fld Z h0 o1 cN7 "maxOccurs" "I" (.int i2)) (I7 : Fld Z h0 o0 cN7 "maxOccurs" "I" (.int i5)) (I8 : Fld Z h0 o1 cN7 "name" cN8 .null) (I9 : Fld Z h0 o0 cN7 "name" cN8 .null) (I00 : Fld Z h0 o1 cN7 "particles" cN5 (.ref o2)) (I01 : Fld Z h0 o2 cN12 "c" cN13 (.ref o4)) (I02 : Fld Z h0 o4 cN10 "size" "I" (.int 0)) (I03 : Exa Z h0 o4 cN10) (I04 : Exa Z h0 o2 cN14) (I05 : Fld Z h0 o0 cN7 "particles" cN5 (.ref o3)) (I06 : Fld Z h0 o3 cN12 "c" cN13 (.ref o5)) (I07 : Fld Z h0 o5 cN10 "size" "I" (.int 0)) (I08 : Exa Z h0 o5 cN10) (I09 : Exa Z h0 o3 cN14) :
 own_Met l Z h0 mN54 B0B 2 (Option.some FieldType.boolean) ws (own_R 2 0 0 25) #[(.ref o1), (.ref o0)] (fun v h L => (((((31 : Int32) * (((31 : Int32) * (((31 : Int32) * i0) + 0)) + i1)) + i2) = (((31 : Int32) * (((31 : Int32) * (((31 : Int32) * i3) + 0)) + i4)) + i5)) ∧ (i0 = i3) ∧ (i1 = i4) ∧ (i2 = i5) ∧ v = some (.int 1) ∧ Fr n0 L ∧ h = h0) ∨ (¬ (i0 = i3 ∧ i1 = i4 ∧ i2 = i5) ∧ v = some (.int 0) ∧ Fr n0 L ∧ h = h0)) 0 0 := own_go own_pn47 fun p e s m below meth c s₁ hns hrt hnm hml hZ hx hby hown X6 e4 => by
 have N0 := Fr.nil n0
 refine own_cast (own_ef9 m o1 o0) ?_
 refine oAN X6 hx hby dd47_0 rfl rfl ?_
 refine own_gF X6 hx hZ hown (hw 119) e4 I0 (hb hby dd47_1) fun T5 X7 e5 => ?_
 refine oAN X7 hx hby dd47_4 rfl rfl ?_
 refine own_gF X7 hx hZ hown (hw 119) e5 I1 (hb hby dd47_5) fun T0 X0 e0 => ?_
 by_cases b0 : (((31 : Int32) * (((31 : Int32) * (((31 : Int32) * i0) + 0)) + i1)) + i2) = (((31 : Int32) * (((31 : Int32) * (((31 : Int32) * i3) + 0)) + i4)) + i5)
 ·skip
  refine oNI X0 hx hby dd47_8 (XT.ii_ne_f b0) ?_
  show own_G p e below (T0.setTop (mkF m 11 #[rv o1, rv o0] [])) _
  refine oAN X0 hx hby dd47_11 rfl rfl ?_
  refine own_gF X0 hx hZ hown (hw 43) e0 I2 (hb hby dd47_12) fun T6 X8 e6 => ?_
  refine oAN X8 hx hby dd47_15 rfl rfl ?_
  refine own_gF X8 hx hZ hown (hw 43) e6 I3 (hb hby dd47_16) fun T1 X1 e1 => ?_
  by_cases b1 : i0 = i3
  ·skip
   refine oNI X1 hx hby dd47_19 (XT.ii_ne_f b1) ?_
   show own_G p e below (T1.setTop (mkF m 22 #[rv o1, rv o0] [])) _
   refine oAN X1 hx hby dd47_22 rfl rfl ?_
   refine own_gF X1 hx hZ hown (hw 47) e1 I4 (hb hby dd47_23) fun T7 X9 e7 => ?_
   refine oAN X9 hx hby dd47_26 rfl rfl ?_
   refine own_gF X9 hx hZ hown (hw 47) e7 I5 (hb hby dd47_27) fun T2 X2 e2 => ?_
   by_cases b2 : i1 = i4
   ·skip
    refine oNI X2 hx hby dd47_30 (XT.ii_ne_f b2) ?_
    show own_G p e below (T2.setTop (mkF m 33 #[rv o1, rv o0] [])) _
    refine oAN X2 hx hby dd47_33 rfl rfl ?_
    refine own_gF X2 hx hZ hown (hw 49) e2 I6 (hb hby dd47_34) fun T8 X00 e8 => ?_
    refine oAN X00 hx hby dd47_37 rfl rfl ?_
    refine own_gF X00 hx hZ hown (hw 49) e8 I7 (hb hby dd47_38) fun T3 X3 e3 => ?_
    by_cases b3 : i2 = i5
    ·skip
     refine oNI X3 hx hby dd47_41 (XT.ii_ne_f b3) ?_
     show own_G p e below (T3.setTop (mkF m 44 #[rv o1, rv o0] [])) _
     refine oAN X3 hx hby dd47_44 rfl rfl ?_
     refine own_gF X3 hx hZ hown (hw 45) e3 I8 (hb hby dd47_45) fun T9 X01 e9 => ?_
     refine oAN X01 hx hby dd47_48 rfl rfl ?_
     refine own_gF X01 hx hZ hown (hw 45) e9 I9 (hb hby dd47_49) fun T00 X03 e00 => ?_
     refine own_cS X03 hx hZ hown e00 (y := mN53) (hw 454) (hw 455) (hw 55) (hw 456) (by decide) (W := 0) (own_rm52 l Z a0 hw []  h0 n0 Z0 O0 ) [.null, .null] [] hml (lenOf own_pd26 rfl) (hb hby dd47_52) fun T01 h1 v0 L0 X5 e01 q0 => ?_
     obtain ⟨rfl, N1, K0⟩ := q0
     have N2 := Fr.app N0 N1
     have e02 := e01.trans K0
     refine oN0 X5 hx hby dd47_55 (XT.i0_eq_f (by decide)) ?_
     refine oAN X5 hx hby dd47_58 rfl rfl ?_
     refine own_gF X5 hx hZ hown (hw 51) e02 I00 (hb hby dd47_59) fun T02 X04 e03 => ?_
     refine own_cI X04 hx hZ hown e03 (y := mN55) (z := mN41) (b := o2) (hw 457) (hw 339) (hw 340) rfl (hw 341) (hw 342) (hw 343) (hw 344) (hw 229) (hw 218) (hw 345) (by decide) I04 (W := 0) (own_rm38 l Z a0 hw [] o2 o4 h0 n0 Z0 O0 I01 I02 I03) [] [] hml (lenOf own_pd7 rfl) (hb hby dd47_62) fun T4 h2 v1 L1 X02 e04 q1 => ?_
     obtain ⟨rfl, N3, K1⟩ := q1
     have N4 := Fr.app N2 N3
     have e05 := e04.trans K1
     refine oAN X02 hx hby dd47_67 rfl rfl ?_
     show own_G p e below (T4.setTop (mkF m 68 #[rv o1, rv o0] [(.ref o0), (.int 0)])) _
     refine own_gF X02 hx hZ hown (hw 51) e05 I05 (hb hby dd47_68) fun T03 X05 e06 => ?_
     refine own_cI X05 hx hZ hown e06 (y := mN55) (z := mN41) (b := o3) (hw 457) (hw 339) (hw 340) rfl (hw 341) (hw 342) (hw 343) (hw 344) (hw 229) (hw 218) (hw 345) (by decide) I09 (W := 1) (own_rm38 l Z a0 hw [] o3 o5 h0 n0 Z0 O0 I06 I07 I08) [] [(.int 0)] hml (lenOf own_pd7 rfl) (hb hby dd47_71) fun T04 h3 v2 L2 X4 e07 q2 => ?_
     obtain ⟨rfl, N5, K2⟩ := q2
     have N6 := Fr.app N4 N5
     have e08 := e07.trans K2
     refine oNI X4 hx hby dd47_76 (XT.ii_ne_f (by decide)) ?_
     refine oIC X4 hx hby dd47_79 ?_
     refine oGO X4 hx hby (pc' := 84) dd47_80 ?_
     exact own_retN X4 hx (t := .boolean) hns hrt (by simp) (hb hby dd47_84) (by decide) e08 (by decide) (by decide) (Or.inl ⟨b0, b1, b2, b3, rfl, N6, rfl⟩)
    ·skip
     refine oYI X3 hx hby (pc' := 83) dd47_41 (XT.ii_ne_t b3) ?_
     show own_G p e below (T3.setTop (mkF m 83 #[rv o1, rv o0] [])) _
     refine oIC X3 hx hby dd47_83 ?_
     exact own_retN X3 hx (t := .boolean) hns hrt (by simp) (hb hby dd47_84) (by decide) e3 (by decide) (by decide) (Or.inr (⟨(fun z => b3 z.2.2), rfl, N0, rfl⟩))
   ·skip
    refine oYI X2 hx hby (pc' := 83) dd47_30 (XT.ii_ne_t b2) ?_
    show own_G p e below (T2.setTop (mkF m 83 #[rv o1, rv o0] [])) _
    refine oIC X2 hx hby dd47_83 ?_
    exact own_retN X2 hx (t := .boolean) hns hrt (by simp) (hb hby dd47_84) (by decide) e2 (by decide) (by decide) (Or.inr (⟨(fun z => b2 z.2.1), rfl, N0, rfl⟩))
  ·skip
   refine oYI X1 hx hby (pc' := 83) dd47_19 (XT.ii_ne_t b1) ?_
   show own_G p e below (T1.setTop (mkF m 83 #[rv o1, rv o0] [])) _
   refine oIC X1 hx hby dd47_83 ?_
   exact own_retN X1 hx (t := .boolean) hns hrt (by simp) (hb hby dd47_84) (by decide) e1 (by decide) (by decide) (Or.inr (⟨(fun z => b1 z.1), rfl, N0, rfl⟩))
 ·skip
  refine oYI X0 hx hby (pc' := 83) dd47_8 (XT.ii_ne_t b0) ?_
  show own_G p e below (T0.setTop (mkF m 83 #[rv o1, rv o0] [])) _
  refine oIC X0 hx hby dd47_83 ?_
  exact own_retN X0 hx (t := .boolean) hns hrt (by simp) (hb hby dd47_84) (by decide) e0 (by decide) (by decide) (Or.inr (⟨(fun z => b0 (by rw [z.1, z.2.1, z.2.2])), rfl, N0, rfl⟩))
theorem own_pd27 : parseMethodDescriptor "(Lcom/example/doctype_in_dom/doctypeindom/definitions/ContentParticleImpl;)Z" = some ⟨[(.object cN7)], (some .boolean)⟩ := by decide +kernel
theorem dd36_87 : decode B0q 87 = .ok (.invokevirtual 86, 3) := by decide +kernel
theorem dd36_90 : decode B0q 90 = .ok (.ifCond .ne 5, 3) := by decide +kernel
theorem dd36_95 : decode B0q 95 = .ok (.iconst 0, 1) := by decide +kernel
theorem dd36_96 : decode B0q 96 = .ok (.istore 6, 2) := by decide +kernel
theorem dd36_98 : decode B0q 98 = .ok (.iload 6, 2) := by decide +kernel
theorem dd36_100 : decode B0q 100 = .ok (.aload 4, 2) := by decide +kernel
theorem dd36_102 : decode B0q 102 = .ok (.getfield 24, 3) := by decide +kernel
theorem dd36_105 : decode B0q 105 = .ok (.invokeinterface 90 1, 5) := by decide +kernel
theorem dd36_110 : decode B0q 110 = .ok (.if_icmp .ge 51, 3) := by decide +kernel
theorem dd36_161 : decode B0q 161 = .ok (.goto (-119), 3) := by decide +kernel
theorem dd41_11 : decode B0v 11 = .ok (.iconst 1, 1) := by decide +kernel
theorem dd41_12 : decode B0v 12 = .ok (.goto 4, 3) := by decide +kernel
theorem own_rm53 (l : Launch) (Z : State) (a0 : Array Value) (hw : own_W a0 Z) (ws : List Jvm.Cond) (o0 : Nat) (h0 : Heap) (n0 : Nat) (Z0 : n0 ≤ h0.size) (O0 : Old Z n0 h0) (I0 : Fld Z h0 o0 cN23 "head" "I" (.int 0)) (I1 : Fld Z h0 o0 cN23 "tail" "I" (.int 0)) :
 own_Met l Z h0 mN47 B0v 1 (Option.some FieldType.boolean) ws (own_R 0 0 0 0) #[(.ref o0)] (fun v h L => (v = some (.int 1) ∧ Fr n0 L ∧ h = h0)) 0 0 := own_go own_pn40 fun p e s m below meth c s₁ hns hrt hnm hml hZ hx hby hown X1 e0 => by
 have N0 := Fr.nil n0
 refine own_cast (own_ef6 m o0) ?_
 refine oAN X1 hx hby dd41_0 rfl rfl ?_
 refine own_gF X1 hx hZ hown (hw 411) e0 I0 (hb hby dd41_1) fun T0 X2 e1 => ?_
 refine oAN X2 hx hby dd41_4 rfl rfl ?_
 refine own_gF X2 hx hZ hown (hw 416) e1 I1 (hb hby dd41_5) fun T1 X0 e2 => ?_
 refine oNI X0 hx hby dd41_8 (XT.ii_ne_f (by decide)) ?_
 refine oIC X0 hx hby dd41_11 ?_
 refine oGO X0 hx hby (pc' := 16) dd41_12 ?_
 exact own_retN X0 hx (t := .boolean) hns hrt (by simp) (hb hby dd41_16) (by decide) e2 (by decide) (by decide) (⟨rfl, N0, rfl⟩)
theorem dd36_164 : decode B0q 164 = .ok (.iconst 1, 1) := by decide +kernel
theorem dd36_165 : decode B0q 165 = .ok (.ireturn, 1) := by decide +kernel
theorem dd36_93 : decode B0q 93 = .ok (.iconst 0, 1) := by decide +kernel
theorem dd36_94 : decode B0q 94 = .ok (.ireturn, 1) := by decide +kernel
theorem own_pn48 : plainFor mN56 = true := by decide +kernel
theorem own_rm40 (l : Launch) (Z : State) (a0 : Array Value) (hw : own_W a0 Z) (ws : List Jvm.Cond) (i0 i1 i2 i3 i4 i5 : Int32) (o0 o1 o6 o7 o8 o9 : Nat) (h0 : Heap) (n0 : Nat) (Z00 : n0 ≤ h0.size) (O7 : Old Z n0 h0) (I0 : Exa Z h0 o1 cN7) (I1 : Exa Z h0 o0 cN7) (I2 : @Ne Nat o0 o1) (I3 : Fld Z h0 o0 cN7 "hash" "I" (.int (((31 : Int32) * (((31 : Int32) * (((31 : Int32) * i0) + 0)) + i1)) + i2))) (I0d : @LT.lt Nat instLTNat o0 h0.size) (I4 : Fld Z h0 o1 cN7 "hash" "I" (.int (((31 : Int32) * (((31 : Int32) * (((31 : Int32) * i3) + 0)) + i4)) + i5))) (I0e : @LT.lt Nat instLTNat o1 h0.size) (I5 : Fld Z h0 o0 cN7 "type" "S" (.int i0)) (I6 : Fld Z h0 o1 cN7 "type" "S" (.int i3)) (I7 : Fld Z h0 o0 cN7 "minOccurs" "I" (.int i1)) (I8 : Fld Z h0 o1 cN7 "minOccurs" "I" (.int i4)) (I9 : Fld Z h0 o0 cN7 "maxOccurs" "I" (.int i2)) (I00 : Fld Z h0 o1 cN7 "maxOccurs" "I" (.int i5)) (I01 : Fld Z h0 o0 cN7 "name" cN8 .null) (I02 : Fld Z h0 o1 cN7 "name" cN8 .null) (I03 : Fld Z h0 o0 cN7 "particles" cN5 (.ref o6)) (I04 : Fld Z h0 o6 cN12 "c" cN13 (.ref o7)) (I0f : @LT.lt Nat instLTNat o6 h0.size) (I05 : Fld Z h0 o7 cN10 "size" "I" (.int 0)) (I0g : @LT.lt Nat instLTNat o7 h0.size) (I06 : Exa Z h0 o7 cN10) (I07 : Exa Z h0 o6 cN14) (I08 : Fld Z h0 o1 cN7 "particles" cN5 (.ref o8)) (I09 : Fld Z h0 o8 cN12 "c" cN13 (.ref o9)) (I0h : @LT.lt Nat instLTNat o8 h0.size) (I0a : Fld Z h0 o9 cN10 "size" "I" (.int 0)) (I0i : @LT.lt Nat instLTNat o9 h0.size) (I0b : Exa Z h0 o9 cN10) (I0c : Exa Z h0 o8 cN14) :
 own_Met l Z h0 mN56 B0q 7 (Option.some FieldType.boolean) ws (own_R 4 4 40 54) #[(.ref o0), (.ref o1)] (fun v h L => (((((31 : Int32) * (((31 : Int32) * (((31 : Int32) * i0) + 0)) + i1)) + i2) = (((31 : Int32) * (((31 : Int32) * (((31 : Int32) * i3) + 0)) + i4)) + i5)) ∧ (i0 = i3) ∧ (i1 = i4) ∧ (i2 = i5) ∧ v = some (.int 1) ∧ Fr n0 L ∧ Keep h0 h []) ∨ (¬ (i0 = i3 ∧ i1 = i4 ∧ i2 = i5) ∧ v = some (.int 0) ∧ Fr n0 L ∧ Keep h0 h [])) 4 40 := own_go own_pn48 fun p e s m below meth c s₁ hns hrt hnm hml hZ hx hby hown X8 e1 => by
 have N0p := Fr.nil n0
 refine own_cast (own_ef12 m o0 o1) ?_
 refine oAN X8 hx hby dd36_0 rfl rfl ?_
 obtain ⟨T4, X9, e2, s2⟩ := instY X8 hx hZ hown (hw 31) e1 (Ins.self I0) (g := (mkF m 1 #[rv o0, rv o1, .unset, .unset, .unset, .unset, .unset] [(.ref o1)])) rfl rfl (hb hby dd36_1)
 refine oS s2 ?_
 refine oY0 X9 hx hby (pc' := 9) dd36_4 (XT.i0_ne_t (by decide)) ?_
 obtain ⟨T5, h2, X00, e3, E1, A0, D0, U0, s0⟩ := newO X9 hx hZ hown (hw 386) (hw 387) (hw 388) e2 (g := (mkF m 9 #[rv o0, rv o1, .unset, .unset, .unset, .unset, .unset] [])) rfl (hb hby dd36_9) (by decide) (by decide)
 obtain ⟨o2, g0⟩ : ∃ z, z = h0.size := ⟨_, rfl⟩
 rw [← g0] at A0 D0 U0 s0
 have z0 := E1.1
 have y2 : @LT.lt Nat instLTNat o2 h2.size := A0.lt
 refine oS s0 ?_
 have F04 : Fld Z h2 o2 cN23 "elements" cN3 .null := D0 (Or.inl (hw 396)) (ty := (.array (.object cN1))) (by decide)
 have F05 : Fld Z h2 o2 cN23 "head" "I" (.int 0) := D0 (Or.inl (hw 412)) (ty := .int) (by decide)
 have F06 : Fld Z h2 o2 cN23 "tail" "I" (.int 0) := D0 (Or.inl (hw 417)) (ty := .int) (by decide)
 refine oS (fun _ => XS.dup X00.here hx rfl (hb hby dd36_12) rfl rfl) ?_
 have N01 : n0 ≤ o2 := by omega
 have y0 : @LT.lt Nat instLTNat o2 h2.size := by omega
 have O2 : Old Z n0 h2 := O7.ext E1
 have Z0 : n0 ≤ h2.size := by omega
 refine own_cN X00 hx hZ hown e3 (y := mN43) (b := o2) rfl (hw 389) (hw 390) (hw 388) (hw 391) (by decide) (W := 1) (own_rm41 l Z a0 hw [] o2 h2 n0 Z0 O2 F04 A0 N01 F05 F06 y0) [] [(.ref o2)] hml (lenOf own_pd13 rfl) (hb hby dd36_13) fun T6 h8 v0 L0 X01 e4 q0 => ?_
 obtain ⟨o4, m0, rfl, N0q, K5, F17, F07, F08, F09, F0a, F0b, F18, F0c⟩ := q0
 have N0r := Fr.app N0p N0q
 have z1 := K5.1
 refine oASN X01 hx hby dd36_16 rfl (l' := #[rv o0, rv o1, rv o2, .unset, .unset, .unset, .unset]) rfl ?_
 obtain ⟨T7, h3, X02, e5, E0, A1, D1, U1, s1⟩ := newO X01 hx hZ hown (hw 386) (hw 387) (hw 388) e4 (g := (mkF m 17 #[rv o0, rv o1, rv o2, .unset, .unset, .unset, .unset] [])) rfl (hb hby dd36_17) (by decide) (by decide)
 obtain ⟨o3, g1⟩ : ∃ z, z = h8.size := ⟨_, rfl⟩
 rw [← g1] at A1 D1 U1 s1
 have z2 := E0.1
 have y3 : @LT.lt Nat instLTNat o3 h3.size := A1.lt
 refine oS s1 ?_
 have F0d : Fld Z h3 o3 cN23 "elements" cN3 .null := D1 (Or.inl (hw 396)) (ty := (.array (.object cN1))) (by decide)
 have F0e : Fld Z h3 o3 cN23 "head" "I" (.int 0) := D1 (Or.inl (hw 412)) (ty := .int) (by decide)
 have F0f : Fld Z h3 o3 cN23 "tail" "I" (.int 0) := D1 (Or.inl (hw 417)) (ty := .int) (by decide)
 refine oS (fun _ => XS.dup X02.here hx rfl (hb hby dd36_20) rfl rfl) ?_
 have N02 : n0 ≤ o3 := by omega
 have y1 : @LT.lt Nat instLTNat o3 h3.size := by omega
 have O8 : Old Z n0 h8 := O2.keep K5 (allS N01 all0)
 have O3 : Old Z n0 h3 := O8.ext E0
 have Z1 : n0 ≤ h3.size := by omega
 refine own_cN X02 hx hZ hown e5 (y := mN43) (b := o3) rfl (hw 389) (hw 390) (hw 388) (hw 391) (by decide) (W := 1) (own_rm41 l Z a0 hw [] o3 h3 n0 Z1 O3 F0d A1 N02 F0e F0f y1) [] [(.ref o3)] hml (lenOf own_pd13 rfl) (hb hby dd36_21) fun T1 h5 v1 L1 X2 e6 q1 => ?_
 obtain ⟨o5, m1, rfl, N0s, K0, F19, F0g, F0h, F0i, F0j, F0k, F1a, F0l⟩ := q1
 have N0t := Fr.app N0r N0s
 have z3 := K0.1
 show own_G p e below (T1.setTop (mkF m 24 #[rv o0, rv o1, rv o2, .unset, .unset, .unset, .unset] [(.ref o3)])) _
 refine oASN X2 hx hby dd36_24 rfl (l' := #[rv o0, rv o1, rv o2, rv o3, .unset, .unset, .unset]) rfl ?_
 refine oAN X2 hx hby dd36_25 rfl rfl ?_
 refine oAN X2 hx hby dd36_26 rfl rfl ?_
 have N4 : @Ne Nat o2 o3 := by omega
 have F0m := (Fld.ext E0 F07).keep K0 (ninS N4 nin0)
 have F0n := (Fld.ext E0 F09).keep K0 (ninS N4 nin0)
 have N9 : @Ne Nat o4 o3 := by omega
 have F0o := (F0b.ext E0).keep K0 (ninS N9 nin0)
 have F2 := (Exa.ext E0 F08).keep K0
 have N0e : @Ne Nat o4 o2 := by omega
 have F3 := (Exa.ext E0 ((Exa.ext E1 I1).keep K5)).keep K0
 have N03 : n0 ≤ o4 := by omega
 have F0p := (Fld.ext E0 F0a).keep K0 (ninS N4 nin0)
 have O4 : Old Z n0 h5 := O3.keep K0 (allS N02 all0)
 have Z2 : n0 ≤ h5.size := by omega
 refine own_cI X2 hx hZ hown e6 (y := mN57) (z := mN46) (b := o2) (hw 397) (hw 398) (hw 399) rfl (hw 400) (hw 401) (hw 402) (hw 403) (hw 404) (hw 388) (hw 405) (by decide) F2 (W := 0) (own_rm42 l Z a0 hw [] m0 o2 o0 o4 h5 n0 Z2 O4 F0m F0n F0o F2 N01 N0e F0c F3 N03 F0p) [(.ref o0)] [] hml (lenOf own_pd23 rfl) (hb hby dd36_27) fun T8 h6 v2 L2 X4 e7 q2 => ?_
 obtain ⟨rfl, N0u, K1, F0q, F0r, F0s, F0t, F0u⟩ := q2
 have N0v := Fr.app N0t N0u
 have z4 := K1.1
 refine oAN X4 hx hby dd36_32 rfl rfl ?_
 refine oAN X4 hx hby dd36_33 rfl rfl ?_
 have F0 := ((Exa.ext E0 ((Exa.ext E1 I0).keep K5)).keep K0).keep K1
 refine own_cY X4 hx hZ hown (hw 304) e7 (Ins.of_exa F0 (hw 305)) (hb hby dd36_34) fun T9 X04 e8 => ?_
 have F0v := F0g.keep K1 (ninS (Ne.symm N4) (ninS (Ne.symm N9) nin0))
 have F0w := F0i.keep K1 (ninS (Ne.symm N4) (ninS (Ne.symm N9) nin0))
 have N05 : @Ne Nat o5 o4 := by omega
 have N00 : @Ne Nat o5 o2 := by omega
 have F0x := F0k.keep K1 (ninS N00 (ninS N05 nin0))
 have F4 := F0h.keep K1
 have N0f : @Ne Nat o5 o3 := by omega
 have N04 : n0 ≤ o5 := by omega
 have F0y := F0j.keep K1 (ninS (Ne.symm N4) (ninS (Ne.symm N9) nin0))
 have O5 : Old Z n0 h6 := O4.keep K1 (allS N01 (allS N03 all0))
 have Z3 : n0 ≤ h6.size := by omega
 refine own_cI X04 hx hZ hown e8 (y := mN57) (z := mN46) (b := o3) (hw 397) (hw 398) (hw 399) rfl (hw 400) (hw 401) (hw 402) (hw 403) (hw 404) (hw 388) (hw 405) (by decide) F4 (W := 0) (own_rm42 l Z a0 hw [] m1 o3 o1 o5 h6 n0 Z3 O5 F0v F0w F0x F4 N02 N0f F0l F0 N04 F0y) [(.ref o1)] [] hml (lenOf own_pd23 rfl) (hb hby dd36_37) fun T00 h4 v3 L3 X03 e9 q3 => ?_
 obtain ⟨rfl, N0w, K2, F0z, F0A, F0B, F0C, F0D⟩ := q3
 have N0x := Fr.app N0v N0w
 have z5 := K2.1
 refine oAN X03 hx hby dd36_42 rfl rfl ?_
 have F5 := F0q.keep K2 (ninS N4 (ninS (Ne.symm N00) nin0))
 have F6 := F0r.keep K2 (ninS N4 (ninS (Ne.symm N00) nin0))
 have O0 : Old Z n0 h4 := O5.keep K2 (allS N02 (allS N04 all0))
 have Z4 : n0 ≤ h4.size := by omega
 have F1 := F0t.keep K2
 refine own_cIU X03 hx hZ hown e9 (y := mN58) (z := mN47) (J := cN16) (b := o2) (hw 418) (hw 419) (hw 420) (by decide) (by decide) (hw 421) (hw 422) (hw 423) (hw 424) (hw 404) (hw 388) (hw 425) (by decide) F1 (W := 0) (own_rm45 l Z a0 hw [] o2 h4 n0 Z4 O0 F5 F6) [] [] hml (lenOf own_pd5 rfl) (hb hby dd36_43) fun T2 h9 v4 L4 X5 e00 q4 => ?_
 obtain ⟨rfl, N0y, K6⟩ := q4
 have N0z := Fr.app N0x N0y
 have e01 := e00.trans K6
 show own_G p e below (T2.setTop (mkF m 48 #[rv o0, rv o1, rv o2, rv o3, .unset, .unset, .unset] [(.int 0)])) _
 refine oN0 X5 hx hby dd36_48 (XT.i0_ne_f (by decide)) ?_
 refine oAN X5 hx hby dd36_51 rfl rfl ?_
 have F0E := F0s.keep K2 (ninS N4 (ninS (Ne.symm N00) nin0))
 have F0F := F0u.keep K2 (ninS N9 (ninS (Ne.symm N05) nin0))
 have Z5 : n0 ≤ h4.size := by omega
 refine own_cI X5 hx hZ hown e01 (y := mN59) (z := mN52) (b := o2) (hw 426) (hw 427) (hw 428) rfl (hw 429) (hw 430) (hw 431) (hw 432) (hw 404) (hw 388) (hw 433) (by decide) F1 (W := 0) (own_rm46 l Z a0 hw [] m0 o2 o4 o0 h4 n0 Z5 O0 F0E F5 F0F N03 (Ne.symm N0e) F1 N01 F6) [] [] hml (lenOf own_pd25 rfl) (hb hby dd36_52) fun T01 h7 v5 L5 X05 e02 q5 => ?_
 obtain ⟨rfl, N0A, K3, F1b, F0G, F0H, F1c, F0I⟩ := q5
 have N0B := Fr.app N0z N0A
 have z6 := K3.1
 have F7 := ((F3.keep K1).keep K2).keep K3
 refine own_cY X05 hx hZ hown (hw 31) e02 (Ins.self F7) (hb hby dd36_57) fun T02 X6 e03 => ?_
 refine oAS X6 hx hby dd36_60 rfl (l' := #[rv o0, rv o1, rv o2, rv o3, rv o0, .unset, .unset]) rfl ?_
 refine oAN X6 hx hby dd36_62 rfl rfl ?_
 have F0J := F0B.keep K3 (ninS (Ne.symm N9) (ninS (Ne.symm N4) nin0))
 have F0K := F0z.keep K3 (ninS (Ne.symm N9) (ninS (Ne.symm N4) nin0))
 have F0L := F0D.keep K3 (ninS N05 (ninS N00 nin0))
 have F8 := F0C.keep K3
 have F0M := F0A.keep K3 (ninS (Ne.symm N9) (ninS (Ne.symm N4) nin0))
 have O6 : Old Z n0 h7 := O0.keep K3 (allS N03 (allS N01 all0))
 have Z6 : n0 ≤ h7.size := by omega
 refine own_cI X6 hx hZ hown e03 (y := mN59) (z := mN52) (b := o3) (hw 426) (hw 427) (hw 428) rfl (hw 429) (hw 430) (hw 431) (hw 432) (hw 404) (hw 388) (hw 433) (by decide) F8 (W := 0) (own_rm46 l Z a0 hw [] m1 o3 o5 o1 h7 n0 Z6 O6 F0J F0K F0L N04 (Ne.symm N0f) F8 N02 F0M) [] [] hml (lenOf own_pd25 rfl) (hb hby dd36_63) fun T03 h1 v6 L6 X06 e04 q6 => ?_
 obtain ⟨rfl, N0C, K4, F1d, F1e, F1f, F1g, F1h⟩ := q6
 have N0g := Fr.app N0B N0C
 have z7 := K4.1
 have F0N := ((F0.keep K2).keep K3).keep K4
 refine own_cY X06 hx hZ hown (hw 31) e04 (Ins.self F0N) (hb hby dd36_68) fun T3 X1 e05 => ?_
 refine oAS X1 hx hby dd36_71 rfl (l' := #[rv o0, rv o1, rv o2, rv o3, rv o0, rv o1, .unset]) rfl ?_
 refine oAL X1 hx hby dd36_73 rfl rfl ?_
 show own_G p e below (T3.setTop (mkF m 75 #[rv o0, rv o1, rv o2, rv o3, rv o0, rv o1, .unset] [(.ref o0)])) _
 refine oAL X1 hx hby dd36_75 rfl rfl ?_
 refine oS (fun _ => XT.acmpYes X1.here hx rfl (pc0 := 77) (pc' := 83) rfl (hb hby dd36_77) rfl rfl rfl (XT.aa_ne_t (own_rne I2)) (by decide) (by decide)) ?_
 refine oAL X1 hx hby dd36_83 rfl rfl ?_
 refine oAL X1 hx hby dd36_85 rfl rfl ?_
 have N0 : @Ne Nat o0 o2 := by omega
 have N1 : @Ne Nat o0 o3 := by omega
 have N5 : @Ne Nat o0 o4 := by omega
 have N6 : @Ne Nat o0 o5 := by omega
 have F0O := (((((Fld.ext E0 ((Fld.ext E1 I3).keep K5 (ninS N0 nin0))).keep K0 (ninS N1 nin0)).keep K1 (ninS N0 (ninS N5 nin0))).keep K2 (ninS N1 (ninS N6 nin0))).keep K3 (ninS N5 (ninS N0 nin0))).keep K4 (ninS N6 (ninS N1 nin0))
 have N2 : @Ne Nat o1 o2 := by omega
 have N3 : @Ne Nat o1 o3 := by omega
 have N7 : @Ne Nat o1 o4 := by omega
 have N8 : @Ne Nat o1 o5 := by omega
 have F0P := (((((Fld.ext E0 ((Fld.ext E1 I4).keep K5 (ninS N2 nin0))).keep K0 (ninS N3 nin0)).keep K1 (ninS N2 (ninS N7 nin0))).keep K2 (ninS N3 (ninS N8 nin0))).keep K3 (ninS N7 (ninS N2 nin0))).keep K4 (ninS N8 (ninS N3 nin0))
 have F0Q := (((((Fld.ext E0 ((Fld.ext E1 I5).keep K5 (ninS N0 nin0))).keep K0 (ninS N1 nin0)).keep K1 (ninS N0 (ninS N5 nin0))).keep K2 (ninS N1 (ninS N6 nin0))).keep K3 (ninS N5 (ninS N0 nin0))).keep K4 (ninS N6 (ninS N1 nin0))
 have F0R := (((((Fld.ext E0 ((Fld.ext E1 I6).keep K5 (ninS N2 nin0))).keep K0 (ninS N3 nin0)).keep K1 (ninS N2 (ninS N7 nin0))).keep K2 (ninS N3 (ninS N8 nin0))).keep K3 (ninS N7 (ninS N2 nin0))).keep K4 (ninS N8 (ninS N3 nin0))
 have F0S := (((((Fld.ext E0 ((Fld.ext E1 I7).keep K5 (ninS N0 nin0))).keep K0 (ninS N1 nin0)).keep K1 (ninS N0 (ninS N5 nin0))).keep K2 (ninS N1 (ninS N6 nin0))).keep K3 (ninS N5 (ninS N0 nin0))).keep K4 (ninS N6 (ninS N1 nin0))
 have F0T := (((((Fld.ext E0 ((Fld.ext E1 I8).keep K5 (ninS N2 nin0))).keep K0 (ninS N3 nin0)).keep K1 (ninS N2 (ninS N7 nin0))).keep K2 (ninS N3 (ninS N8 nin0))).keep K3 (ninS N7 (ninS N2 nin0))).keep K4 (ninS N8 (ninS N3 nin0))
 have F0U := (((((Fld.ext E0 ((Fld.ext E1 I9).keep K5 (ninS N0 nin0))).keep K0 (ninS N1 nin0)).keep K1 (ninS N0 (ninS N5 nin0))).keep K2 (ninS N1 (ninS N6 nin0))).keep K3 (ninS N5 (ninS N0 nin0))).keep K4 (ninS N6 (ninS N1 nin0))
 have F0V := (((((Fld.ext E0 ((Fld.ext E1 I00).keep K5 (ninS N2 nin0))).keep K0 (ninS N3 nin0)).keep K1 (ninS N2 (ninS N7 nin0))).keep K2 (ninS N3 (ninS N8 nin0))).keep K3 (ninS N7 (ninS N2 nin0))).keep K4 (ninS N8 (ninS N3 nin0))
 have F0W := (((((Fld.ext E0 ((Fld.ext E1 I01).keep K5 (ninS N0 nin0))).keep K0 (ninS N1 nin0)).keep K1 (ninS N0 (ninS N5 nin0))).keep K2 (ninS N1 (ninS N6 nin0))).keep K3 (ninS N5 (ninS N0 nin0))).keep K4 (ninS N6 (ninS N1 nin0))
 have F0X := (((((Fld.ext E0 ((Fld.ext E1 I02).keep K5 (ninS N2 nin0))).keep K0 (ninS N3 nin0)).keep K1 (ninS N2 (ninS N7 nin0))).keep K2 (ninS N3 (ninS N8 nin0))).keep K3 (ninS N7 (ninS N2 nin0))).keep K4 (ninS N8 (ninS N3 nin0))
 have F9 := (((((Fld.ext E0 ((Fld.ext E1 I03).keep K5 (ninS N0 nin0))).keep K0 (ninS N1 nin0)).keep K1 (ninS N0 (ninS N5 nin0))).keep K2 (ninS N1 (ninS N6 nin0))).keep K3 (ninS N5 (ninS N0 nin0))).keep K4 (ninS N6 (ninS N1 nin0))
 have N06 : @Ne Nat o6 o2 := by omega
 have N07 : @Ne Nat o6 o3 := by omega
 have N0h : @Ne Nat o6 o4 := by omega
 have N0i : @Ne Nat o6 o5 := by omega
 have F00 := (((((Fld.ext E0 ((Fld.ext E1 I04).keep K5 (ninS N06 nin0))).keep K0 (ninS N07 nin0)).keep K1 (ninS N06 (ninS N0h nin0))).keep K2 (ninS N07 (ninS N0i nin0))).keep K3 (ninS N0h (ninS N06 nin0))).keep K4 (ninS N0i (ninS N07 nin0))
 have N08 : @Ne Nat o7 o2 := by omega
 have N09 : @Ne Nat o7 o3 := by omega
 have N0j : @Ne Nat o7 o4 := by omega
 have N0k : @Ne Nat o7 o5 := by omega
 have F01 := (((((Fld.ext E0 ((Fld.ext E1 I05).keep K5 (ninS N08 nin0))).keep K0 (ninS N09 nin0)).keep K1 (ninS N08 (ninS N0j nin0))).keep K2 (ninS N09 (ninS N0k nin0))).keep K3 (ninS N0j (ninS N08 nin0))).keep K4 (ninS N0k (ninS N09 nin0))
 have F02 := (((((Exa.ext E0 ((Exa.ext E1 I06).keep K5)).keep K0).keep K1).keep K2).keep K3).keep K4
 have F03 := (((((Exa.ext E0 ((Exa.ext E1 I07).keep K5)).keep K0).keep K1).keep K2).keep K3).keep K4
 have F0Y := (((((Fld.ext E0 ((Fld.ext E1 I08).keep K5 (ninS N2 nin0))).keep K0 (ninS N3 nin0)).keep K1 (ninS N2 (ninS N7 nin0))).keep K2 (ninS N3 (ninS N8 nin0))).keep K3 (ninS N7 (ninS N2 nin0))).keep K4 (ninS N8 (ninS N3 nin0))
 have N0a : @Ne Nat o8 o2 := by omega
 have N0b : @Ne Nat o8 o3 := by omega
 have N0l : @Ne Nat o8 o4 := by omega
 have N0m : @Ne Nat o8 o5 := by omega
 have F0Z := (((((Fld.ext E0 ((Fld.ext E1 I09).keep K5 (ninS N0a nin0))).keep K0 (ninS N0b nin0)).keep K1 (ninS N0a (ninS N0l nin0))).keep K2 (ninS N0b (ninS N0m nin0))).keep K3 (ninS N0l (ninS N0a nin0))).keep K4 (ninS N0m (ninS N0b nin0))
 have N0c : @Ne Nat o9 o2 := by omega
 have N0d : @Ne Nat o9 o3 := by omega
 have N0n : @Ne Nat o9 o4 := by omega
 have N0o : @Ne Nat o9 o5 := by omega
 have F10 := (((((Fld.ext E0 ((Fld.ext E1 I0a).keep K5 (ninS N0c nin0))).keep K0 (ninS N0d nin0)).keep K1 (ninS N0c (ninS N0n nin0))).keep K2 (ninS N0d (ninS N0o nin0))).keep K3 (ninS N0n (ninS N0c nin0))).keep K4 (ninS N0o (ninS N0d nin0))
 have F11 := (((((Exa.ext E0 ((Exa.ext E1 I0b).keep K5)).keep K0).keep K1).keep K2).keep K3).keep K4
 have F12 := (((((Exa.ext E0 ((Exa.ext E1 I0c).keep K5)).keep K0).keep K1).keep K2).keep K3).keep K4
 have O1 : Old Z n0 h1 := O6.keep K4 (allS N04 (allS N02 all0))
 have Z7 : n0 ≤ h1.size := by omega
 have F13 := F7.keep K4
 refine own_cP X1 hx hZ hown e05 (y := mN54) (b := o0) (hw 450) (hw 451) (own_selP (hw 451) (hw 452) (hw 308) rfl (by decide)) (hw 452) (hw 29) (hw 453) (by decide) F13 (W := 0) (own_rm51 l Z a0 hw [] i0 i1 i2 i3 i4 i5 o0 o1 o6 o7 o8 o9 h1 n0 Z7 O1 F0O F0P F0Q F0R F0S F0T F0U F0V F0W F0X F9 F00 F01 F02 F03 F0Y F0Z F10 F11 F12) [(.ref o1)] [] hml (lenOf own_pd27 rfl) (hb hby dd36_87) fun T0 h00 v7 L7 X0 e0 q7 => ?_
 rcases q7 with ⟨b0, b1, b2, b3, rfl, N0D, K7⟩ | ⟨b4, rfl, N0E, K8⟩
 ·skip
  have N0F := Fr.app N0g N0D
  have e06 := e0.trans K7
  refine oY0 X0 hx hby (pc' := 95) dd36_90 (XT.i0_ne_t (by decide)) ?_
  refine oIC X0 hx hby dd36_95 ?_
  refine oIS X0 hx hby dd36_96 (l' := #[rv o0, rv o1, rv o2, rv o3, rv o0, rv o1, iv 0]) rfl ?_
  refine oIL X0 hx hby dd36_98 rfl ?_
  refine oAL X0 hx hby dd36_100 rfl rfl ?_
  show own_G p e below (T0.setTop (mkF m 102 #[rv o0, rv o1, rv o2, rv o3, rv o0, rv o1, iv 0] [(.ref o0), (.int 0)])) _
  refine own_gF X0 hx hZ hown (hw 51) e06 F9 (hb hby dd36_102) fun T04 X07 e07 => ?_
  have Z8 : n0 ≤ h1.size := by omega
  refine own_cI X07 hx hZ hown e07 (y := mN55) (z := mN41) (b := o6) (hw 457) (hw 339) (hw 340) rfl (hw 341) (hw 342) (hw 343) (hw 344) (hw 229) (hw 218) (hw 345) (by decide) F03 (W := 1) (own_rm38 l Z a0 hw [] o6 o7 h1 n0 Z8 O1 F00 F01 F02) [] [(.int 0)] hml (lenOf own_pd7 rfl) (hb hby dd36_105) fun T05 h01 v8 L8 X3 e08 q8 => ?_
  obtain ⟨rfl, N0G, K9⟩ := q8
  have N0H := Fr.app N0F N0G
  have e09 := e08.trans K9
  refine oYI X3 hx hby (pc' := 161) dd36_110 (XT.ii_ge_t (by decide)) ?_
  refine oGO X3 hx hby (pc' := 42) dd36_161 ?_
  refine oAN X3 hx hby dd36_42 rfl rfl ?_
  have F14 := F0G.keep K4 (ninS (Ne.symm N00) (ninS N4 nin0))
  have F15 := F0I.keep K4 (ninS (Ne.symm N00) (ninS N4 nin0))
  have Z9 : n0 ≤ h1.size := by omega
  have F16 := F0H.keep K4
  refine own_cIU X3 hx hZ hown e09 (y := mN58) (z := mN47) (J := cN16) (b := o2) (hw 418) (hw 419) (hw 420) (by decide) (by decide) (hw 421) (hw 422) (hw 423) (hw 424) (hw 404) (hw 388) (hw 425) (by decide) F16 (W := 0) (own_rm53 l Z a0 hw [] o2 h1 n0 Z9 O1 F14 F15) [] [] hml (lenOf own_pd5 rfl) (hb hby dd36_43) fun T06 h02 v9 L9 X7 e0a q9 => ?_
  obtain ⟨rfl, N0I, K00⟩ := q9
  have N0J := Fr.app N0H N0I
  have e0b := e0a.trans K00
  refine oY0 X7 hx hby (pc' := 164) dd36_48 (XT.i0_ne_t (by decide)) ?_
  refine oIC X7 hx hby dd36_164 ?_
  have K01 : Keep h0 h1 [] := (((((((((Keep.refl h0 []).ext E1).trans K5 (allS (Or.inr (by omega)) all0)).ext E0).trans K0 (allS (Or.inr (by omega)) all0)).trans K1 (allS (Or.inr (by omega)) (allS (Or.inr (by omega)) all0))).trans K2 (allS (Or.inr (by omega)) (allS (Or.inr (by omega)) all0))).trans K3 (allS (Or.inr (by omega)) (allS (Or.inr (by omega)) all0))).trans K4 (allS (Or.inr (by omega)) (allS (Or.inr (by omega)) all0)))
  exact own_retN X7 hx (t := .boolean) hns hrt (by simp) (hb hby dd36_165) (by decide) e0b (by decide) (by decide) (Or.inl ⟨b0, b1, b2, b3, rfl, N0J, K01⟩)
 ·skip
  have N0K := Fr.app N0g N0E
  have e0c := e0.trans K8
  refine oN0 X0 hx hby dd36_90 (XT.i0_ne_f (by decide)) ?_
  show own_G p e below (T0.setTop (mkF m 93 #[rv o0, rv o1, rv o2, rv o3, rv o0, rv o1, .unset] [])) _
  refine oIC X0 hx hby dd36_93 ?_
  have K02 : Keep h0 h1 [] := (((((((((Keep.refl h0 []).ext E1).trans K5 (allS (Or.inr (by omega)) all0)).ext E0).trans K0 (allS (Or.inr (by omega)) all0)).trans K1 (allS (Or.inr (by omega)) (allS (Or.inr (by omega)) all0))).trans K2 (allS (Or.inr (by omega)) (allS (Or.inr (by omega)) all0))).trans K3 (allS (Or.inr (by omega)) (allS (Or.inr (by omega)) all0))).trans K4 (allS (Or.inr (by omega)) (allS (Or.inr (by omega)) all0)))
  exact own_retN X0 hx (t := .boolean) hns hrt (by simp) (hb hby dd36_94) (by decide) e0c (by decide) (by decide) (Or.inr (⟨b4, rfl, N0K, K02⟩))
theorem own_pd28 : parseMethodDescriptor "(Ljava/lang/Object;)Z" = some ⟨[(.object cN1)], (some .boolean)⟩ := by decide +kernel
theorem dd49_0 : decode B0D 0 = .ok (.aload_n 0, 1) := by decide +kernel
theorem dd49_1 : decode B0D 1 = .ok (.getfield 55, 3) := by decide +kernel
theorem dd49_4 : decode B0D 4 = .ok (.ireturn, 1) := by decide +kernel
theorem own_pn49 : plainFor mN60 = true := by decide +kernel
theorem own_rm54 (l : Launch) (Z : State) (a0 : Array Value) (hw : own_W a0 Z) (ws : List Jvm.Cond) (i0 i1 i2 : Int32) (o0 : Nat) (h0 : Heap) (n0 : Nat) (Z0 : n0 ≤ h0.size) (O0 : Old Z n0 h0) (I0 : Fld Z h0 o0 cN7 "hash" "I" (.int (((31 : Int32) * (((31 : Int32) * (((31 : Int32) * i0) + 0)) + i1)) + i2))) :
 own_Met l Z h0 mN60 B0D 1 (Option.some FieldType.int) ws (own_R 0 0 0 0) #[(.ref o0)] (fun v h L => (v = some (.int (((31 : Int32) * (((31 : Int32) * (((31 : Int32) * i0) + 0)) + i1)) + i2)) ∧ Fr n0 L ∧ h = h0)) 0 0 := own_go own_pn49 fun p e s m below meth c s₁ hns hrt hnm hml hZ hx hby hown X0 e0 => by
 have N0 := Fr.nil n0
 refine own_cast (own_ef6 m o0) ?_
 refine oAN X0 hx hby dd49_0 rfl rfl ?_
 refine own_gF X0 hx hZ hown (hw 119) e0 I0 (hb hby dd49_1) fun T0 X1 e1 => ?_
 exact own_retI X1 hx hns hrt (hb hby dd49_4) e1 (by decide) (by decide) (⟨rfl, N0, rfl⟩)
theorem dd50_0 : decode B0E 0 = .ok (.aload_n 0, 1) := by decide +kernel
theorem dd50_1 : decode B0E 1 = .ok (.dup, 1) := by decide +kernel
theorem dd50_2 : decode B0E 2 = .ok (.getfield 63, 3) := by decide +kernel
theorem dd50_5 : decode B0E 5 = .ok (.iconst 1, 1) := by decide +kernel
theorem dd50_6 : decode B0E 6 = .ok (.iadd, 1) := by decide +kernel
theorem dd50_7 : decode B0E 7 = .ok (.putfield 63, 3) := by decide +kernel
theorem dd50_10 : decode B0E 10 = .ok (.aload_n 0, 1) := by decide +kernel
theorem dd50_11 : decode B0E 11 = .ok (.aload_n 1, 1) := by decide +kernel
theorem dd50_12 : decode B0E 12 = .ok (.aload_n 0, 1) := by decide +kernel
theorem dd50_13 : decode B0E 13 = .ok (.getfield 9, 3) := by decide +kernel
theorem dd50_16 : decode B0E 16 = .ok (.aload_n 0, 1) := by decide +kernel
theorem dd50_17 : decode B0E 17 = .ok (.getfield 48, 3) := by decide +kernel
theorem own_ef18 (m : MethodId) (x0 : Addr) (x1 : Addr) (x2 : Addr) (x3 : Int32) : entryFrame m #[(.ref x0), (.ref x1), (.ref x2), (.int x3)] 4 = mkF m 0 #[.val (.ref x0), .val (.ref x1), .val (.ref x2), .val (.int x3)] [] := by first | (simp [entryFrame, mkF, argsToLocals, Value.category]; done) | rfl
theorem dd51_0 : decode B0F 0 = .ok (.iload_n 3, 1) := by decide +kernel
theorem dd51_1 : decode B0F 1 = .ok (.aload_n 2, 1) := by decide +kernel
theorem dd51_2 : decode B0F 2 = .ok (.arraylength, 1) := by decide +kernel
theorem dd51_3 : decode B0F 3 = .ok (.if_icmp .ne 8, 3) := by decide +kernel
theorem dd51_6 : decode B0F 6 = .ok (.aload_n 0, 1) := by decide +kernel
theorem dd52_0 : decode B0G 0 = .ok (.aload_n 0, 1) := by decide +kernel
theorem dd52_1 : decode B0G 1 = .ok (.aload_n 0, 1) := by decide +kernel
theorem dd52_2 : decode B0G 2 = .ok (.getfield 48, 3) := by decide +kernel
theorem dd52_5 : decode B0G 5 = .ok (.iconst 1, 1) := by decide +kernel
theorem dd52_6 : decode B0G 6 = .ok (.iadd, 1) := by decide +kernel
theorem own_ef19 (m : MethodId) (x0 : Addr) (x1 : Int32) : entryFrame m #[(.ref x0), (.int x1)] 4 = mkF m 0 #[.val (.ref x0), .val (.int x1), .unset, .unset] [] := by first | (simp [entryFrame, mkF, argsToLocals, Value.category]; done) | rfl
theorem dd53_0 : decode B0H 0 = .ok (.aload_n 0, 1) := by decide +kernel
theorem dd53_1 : decode B0H 1 = .ok (.getfield 9, 3) := by decide +kernel
theorem dd53_4 : decode B0H 4 = .ok (.arraylength, 1) := by decide +kernel
theorem dd53_5 : decode B0H 5 = .ok (.istore_n 2, 1) := by decide +kernel
theorem dd53_6 : decode B0H 6 = .ok (.iload_n 2, 1) := by decide +kernel
theorem dd53_7 : decode B0H 7 = .ok (.ifCond .gt 13, 3) := by decide +kernel
theorem dd53_10 : decode B0H 10 = .ok (.aload_n 0, 1) := by decide +kernel
theorem dd53_11 : decode B0H 11 = .ok (.getfield 9, 3) := by decide +kernel
theorem dd53_14 : decode B0H 14 = .ok (.getstatic 39, 3) := by decide +kernel
theorem dd53_17 : decode B0H 17 = .ok (.if_acmp .eq 28, 3) := by decide +kernel
theorem dd53_45 : decode B0H 45 = .ok (.aload_n 0, 1) := by decide +kernel
theorem dd53_46 : decode B0H 46 = .ok (.bipush 10, 2) := by decide +kernel
theorem dd53_48 : decode B0H 48 = .ok (.iload_n 1, 1) := by decide +kernel
theorem dd54_0 : decode B0I 0 = .ok (.iload_n 0, 1) := by decide +kernel
theorem dd54_1 : decode B0I 1 = .ok (.iload_n 1, 1) := by decide +kernel
theorem dd54_2 : decode B0I 2 = .ok (.if_icmp .lt 7, 3) := by decide +kernel
theorem dd54_5 : decode B0I 5 = .ok (.iload_n 0, 1) := by decide +kernel
theorem dd54_6 : decode B0I 6 = .ok (.goto 4, 3) := by decide +kernel
theorem dd54_10 : decode B0I 10 = .ok (.ireturn, 1) := by decide +kernel
theorem own_pn50 : plainFor mN61 = true := by decide +kernel
theorem own_rm59 (l : Launch) (Z : State) (a0 : Array Value) (hw : own_W a0 Z) (ws : List Jvm.Cond)  (h0 : Heap) (n0 : Nat) (Z0 : n0 ≤ h0.size) (O0 : Old Z n0 h0)  :
 own_Met l Z h0 mN61 B0I 2 (Option.some FieldType.int) ws (own_R 0 0 0 0) #[(.int 10), (.int 1)] (fun v h L => (v = some (.int 10) ∧ Fr n0 L ∧ h = h0)) 0 0 := own_go own_pn50 fun p e s m below meth c s₁ hns hrt hnm hml hZ hx hby hown X0 e0 => by
 have N0 := Fr.nil n0
 refine own_cast (own_ef14 m 10 1) ?_
 refine oIN X0 hx hby dd54_0 rfl ?_
 refine oIN X0 hx hby dd54_1 rfl ?_
 refine oNI X0 hx hby dd54_2 (XT.ii_lt_f (by decide)) ?_
 refine oIN X0 hx hby dd54_5 rfl ?_
 refine oGO X0 hx hby (pc' := 10) dd54_6 ?_
 exact own_retI X0 hx hns hrt (hb hby dd54_10) e0 (by decide) (by decide) (⟨rfl, N0, rfl⟩)
theorem dd53_49 : decode B0H 49 = .ok (.invokestatic 79, 3) := by decide +kernel
theorem dd53_52 : decode B0H 52 = .ok (.anewarray 7, 3) := by decide +kernel
theorem dd53_55 : decode B0H 55 = .ok (.dup_x1, 1) := by decide +kernel
theorem dd53_56 : decode B0H 56 = .ok (.putfield 9, 3) := by decide +kernel
theorem dd53_59 : decode B0H 59 = .ok (.areturn, 1) := by decide +kernel
theorem own_pn51 : plainFor mN62 = true := by decide +kernel
theorem own_rm58 (l : Launch) (Z : State) (a0 : Array Value) (hw : own_W a0 Z) (ws : List Jvm.Cond) (m1 : ClassId) (o0 o2 : Nat) (h0 : Heap) (n0 : Nat) (Z0 : n0 ≤ h0.size) (O0 : Old Z n0 h0) (I0 : Fld Z h0 o0 cN10 "elementData" cN3 (.ref o2)) (I1 : Arv Z Z.heap o2 m1 (FieldType.object cN1) 0 [] .null) (I2 : Sta Z Z.heap cN10 cN11 cN3 (.ref o2)) (I3 : Exa Z h0 o0 cN10) (I4 : n0 ≤ o0) (I5 : Fld Z h0 o0 cN10 "size" "I" (.int 0)) (I6 : Fld Z h0 o0 cN9 "modCount" "I" (.int 1)) (I7 : @LT.lt Nat instLTNat o0 h0.size) :
 own_Met l Z h0 mN62 B0H 4 (Option.some (FieldType.array (FieldType.object cN1)) ) ws (own_R 1 1 10 14) #[(.ref o0), (.int 1)] (fun v h L => (∃ o1 : Nat, ∃ m0 : ClassId, v = some (.ref o1) ∧ Fr n0 L ∧ Keep h0 h [o0] ∧ h0.size ≤ o1 ∧ Fld Z h o0 cN10 "elementData" cN3 (.ref o1) ∧ Exa Z h o0 cN10 ∧ Fld Z h o0 cN10 "size" "I" (.int 0) ∧ Fld Z h o0 cN9 "modCount" "I" (.int 1) ∧ Arv Z h o1 m0 (.object cN1) 10 [.null, .null, .null, .null, .null, .null, .null, .null, .null, .null] .null ∧ @LT.lt Nat instLTNat o1 h.size ∧ Ovr Z m0 cN1)) 1 10 := own_go own_pn51 fun p e s m below meth c s₁ hns hrt hnm hml hZ hx hby hown X2 e1 => by
 have N0 := Fr.nil n0
 refine own_cast (own_ef19 m o0 1) ?_
 refine oAN X2 hx hby dd53_0 rfl rfl ?_
 refine own_gF X2 hx hZ hown (hw 143) e1 I0 (hb hby dd53_1) fun T1 X0 e0 => ?_
 have F3 := I1.ext O0.2
 refine oS (own_len X0 hx hZ e0 F3 rfl rfl (hb hby dd53_4)) ?_
 refine oISN X0 hx hby dd53_5 (l' := #[rv o0, iv 1, iv 0, .unset]) rfl ?_
 refine oIN X0 hx hby dd53_6 rfl ?_
 refine oN0 X0 hx hby dd53_7 (XT.i0_gt_f (by decide)) ?_
 refine oAN X0 hx hby dd53_10 rfl rfl ?_
 refine own_gF X0 hx hZ hown (hw 143) e0 I0 (hb hby dd53_11) fun T2 X5 e2 => ?_
 have F4 := Sta.ext O0.2 I2
 obtain ⟨T0, X1, e3, s1⟩ := getS X5 hx hZ hown (host := "") (hw 142) Via.refl e2 F4 (g := (mkF m 14 #[rv o0, iv 1, iv 0, .unset] [(.ref o2)])) rfl (hb hby dd53_14)
 refine oS s1 ?_
 refine oS (fun _ => XT.acmpYes X1.here hx rfl (pc0 := 17) (pc' := 45) rfl (hb hby dd53_17) rfl rfl rfl (XT.aa_eq_t rfl) (by decide) (by decide)) ?_
 show own_G p e below (T0.setTop (mkF m 45 #[rv o0, iv 1, iv 0, .unset] [])) _
 refine oAN X1 hx hby dd53_45 rfl rfl ?_
 refine oS (fun _ => XS.bipush X1.here hx rfl (hb hby dd53_46) ) ?_
 refine oIN X1 hx hby dd53_48 rfl ?_
 refine own_cS X1 hx hZ hown e3 (y := mN61) (hw 173) (hw 174) (hw 175) (hw 176) (by decide) (W := 1) (own_rm59 l Z a0 hw []  h0 n0 Z0 O0 ) [(.int 10), (.int 1)] [(.ref o0)] hml (lenOf own_pd22 rfl) (hb hby dd53_49) fun T3 h3 v0 L0 X6 e4 q0 => ?_
 obtain ⟨rfl, N1, K0⟩ := q0
 have N2 := Fr.app N0 N1
 have e5 := e4.trans K0
 obtain ⟨T4, h1, m0, X3, e6, E0, A0, V0, s0⟩ := newR X6 hx hZ hown (hw 177) (hw 178) e5 (g := (mkF m 52 #[rv o0, iv 1, iv 0, .unset] [(.int 10), (.ref o0)])) rfl (hb hby dd53_52) (n := 10) (rest := [(.ref o0)]) rfl (by decide) (cap := 10) (by decide) (by decide) (by decide) (by decide)
 obtain ⟨o1, g0⟩ : ∃ z, z = h0.size := ⟨_, rfl⟩
 rw [← g0] at A0 s0
 have F0 : Arv Z h1 o1 m0 (.object cN1) 10 [.null, .null, .null, .null, .null, .null, .null, .null, .null, .null] .null := own_newA A0 (by decide) rfl rfl
 have z0 := E0.1
 have y1 : @LT.lt Nat instLTNat o1 h1.size := F0.lt
 refine oS s0 ?_
 refine oS (fun _ => XT.dupX1 X3.here hx rfl (hb hby dd53_55) rfl rfl rfl) ?_
 have F1 := Fld.ext E0 I0
 have F2 := Exa.ext E0 I3
 refine own_pF X3 hx hZ hown (hw 143) e6 F1 F2 (Or.inl (hw 144)) (hw 122) (ty := (.array (.object cN1))) rfl rfl (hb hby dd53_56) fun T5 h2 X4 e7 W0 => ?_
 have N3 := Fr.snoc X4 N2 I4
 have z1 := W0.size
 have F5 := Fld.same W0 F1
 have F6 := Exa.wr W0 F2
 have F7 := Fld.other W0 (Fld.ext E0 I5) (Or.inr (slot_ne (C := cN10) (Or.inl (hw 157)) (Or.inl (hw 144)) (by decide) (t := .int) (t' := (.array (.object cN1))) (by decide) (by decide)))
 have F8 := Fld.other W0 (Fld.ext E0 I6) (Or.inr (slot_ne (C := cN10) (Or.inl (hw 141)) (Or.inl (hw 144)) (by decide) (t := .int) (t' := (.array (.object cN1))) (by decide) (by decide)))
 have N4 : @Ne Nat o1 o0 := by omega
 have F9 := F0.other W0 N4
 have y0 : @LT.lt Nat instLTNat o1 h2.size := by omega
 have K1 : Keep h0 h2 [o0] := (((Keep.refl h0 [o0]).ext E0).wr W0 (Or.inl (by simp)))
 exact own_retA X4 hx hns hrt rfl rfl (hb hby dd53_59) e7 (by decide) (by decide) (⟨o1, m0, rfl, N3, K1, (by omega), F5, F6, F7, F8, F9, y0, V0⟩)
theorem own_pd29 : parseMethodDescriptor "(I)[Ljava/lang/Object;" = some ⟨[.int], (some (.array (.object cN1)))⟩ := by decide +kernel
theorem dd52_7 : decode B0G 7 = .ok (.invokevirtual 69, 3) := by decide +kernel
theorem dd52_10 : decode B0G 10 = .ok (.areturn, 1) := by decide +kernel
theorem own_pn52 : plainFor mN63 = true := by decide +kernel
theorem own_rm57 (l : Launch) (Z : State) (a0 : Array Value) (hw : own_W a0 Z) (ws : List Jvm.Cond) (m1 : ClassId) (o0 o2 : Nat) (h0 : Heap) (n0 : Nat) (Z0 : n0 ≤ h0.size) (O0 : Old Z n0 h0) (I0 : Fld Z h0 o0 cN10 "size" "I" (.int 0)) (I2 : Fld Z h0 o0 cN10 "elementData" cN3 (.ref o2)) (I3 : Arv Z Z.heap o2 m1 (FieldType.object cN1) 0 [] .null) (I4 : Sta Z Z.heap cN10 cN11 cN3 (.ref o2)) (I1 : Exa Z h0 o0 cN10) (I5 : n0 ≤ o0) (I6 : Fld Z h0 o0 cN9 "modCount" "I" (.int 1)) (I7 : @LT.lt Nat instLTNat o0 h0.size) :
 own_Met l Z h0 mN63 B0G 1 (Option.some (FieldType.array (FieldType.object cN1)) ) ws (own_R 2 1 10 29) #[(.ref o0)] (fun v h L => (∃ o1 : Nat, ∃ m0 : ClassId, v = some (.ref o1) ∧ Fr n0 L ∧ Keep h0 h [o0] ∧ h0.size ≤ o1 ∧ Fld Z h o0 cN10 "elementData" cN3 (.ref o1) ∧ Exa Z h o0 cN10 ∧ Fld Z h o0 cN10 "size" "I" (.int 0) ∧ Fld Z h o0 cN9 "modCount" "I" (.int 1) ∧ Arv Z h o1 m0 (.object cN1) 10 [.null, .null, .null, .null, .null, .null, .null, .null, .null, .null] .null ∧ @LT.lt Nat instLTNat o1 h.size ∧ Ovr Z m0 cN1)) 1 10 := own_go own_pn52 fun p e s m below meth c s₁ hns hrt hnm hml hZ hx hby hown X0 e0 => by
 have N0 := Fr.nil n0
 refine own_cast (own_ef6 m o0) ?_
 refine oAN X0 hx hby dd52_0 rfl rfl ?_
 refine oAN X0 hx hby dd52_1 rfl rfl ?_
 refine own_gF X0 hx hZ hown (hw 156) e0 I0 (hb hby dd52_2) fun T0 X1 e1 => ?_
 refine oIC X1 hx hby dd52_5 ?_
 refine oS (fun _ => XS.iadd X1.here hx rfl (hb hby dd52_6) rfl) ?_
 have y0 : @LT.lt Nat instLTNat o0 h0.size := by omega
 refine own_cP X1 hx hZ hown e1 (y := mN62) (b := o0) (hw 168) (hw 169) (hw 171) (hw 170) (hw 123) (hw 172) (by decide) I1 (W := 0) (own_rm58 l Z a0 hw [] m1 o0 o2 h0 n0 Z0 O0 I2 I3 I4 I1 I5 I0 I6 y0) [(.int 1)] [] hml (lenOf own_pd29 rfl) (hb hby dd52_7) fun T1 h1 v0 L0 X2 e2 q0 => ?_
 obtain ⟨o1, m0, rfl, N1, K0, F6, F0, F1, F2, F3, F4, F7, F5⟩ := q0
 have N2 := Fr.app N0 N1
 have z0 := K0.1
 have y1 : @LT.lt Nat instLTNat o1 h1.size := by omega
 have K1 : Keep h0 h1 [o0] := ((Keep.refl h0 [o0]).trans K0 (allS (Or.inl (by simp)) all0))
 exact own_retA X2 hx hns hrt rfl rfl (hb hby dd52_10) e2 (by decide) (by decide) (⟨o1, m0, rfl, N2, K1, (by omega), F0, F1, F2, F3, F4, y1, F5⟩)
theorem own_pd30 : parseMethodDescriptor "()[Ljava/lang/Object;" = some ⟨[], (some (.array (.object cN1)))⟩ := by decide +kernel
theorem dd51_7 : decode B0F 7 = .ok (.invokevirtual 129, 3) := by decide +kernel
theorem dd51_10 : decode B0F 10 = .ok (.astore_n 2, 1) := by decide +kernel
theorem dd51_11 : decode B0F 11 = .ok (.aload_n 2, 1) := by decide +kernel
theorem dd51_12 : decode B0F 12 = .ok (.iload_n 3, 1) := by decide +kernel
theorem dd51_13 : decode B0F 13 = .ok (.aload_n 1, 1) := by decide +kernel
theorem dd51_14 : decode B0F 14 = .ok (.aastore, 1) := by decide +kernel
theorem dd51_15 : decode B0F 15 = .ok (.aload_n 0, 1) := by decide +kernel
theorem dd51_16 : decode B0F 16 = .ok (.iload_n 3, 1) := by decide +kernel
theorem dd51_17 : decode B0F 17 = .ok (.iconst 1, 1) := by decide +kernel
theorem dd51_18 : decode B0F 18 = .ok (.iadd, 1) := by decide +kernel
theorem dd51_19 : decode B0F 19 = .ok (.putfield 48, 3) := by decide +kernel
theorem dd51_22 : decode B0F 22 = .ok (.return_, 1) := by decide +kernel
theorem own_pn53 : plainFor mN64 = true := by decide +kernel
theorem own_rm56 (l : Launch) (Z : State) (a0 : Array Value) (hw : own_W a0 Z) (ws : List Jvm.Cond) (m1 : ClassId) (o0 o2 o3 : Nat) (h0 : Heap) (n0 : Nat) (Z0 : n0 ≤ h0.size) (O0 : Old Z n0 h0) (I0 : Arv Z Z.heap o3 m1 (FieldType.object cN1) 0 [] .null) (I3 : Fld Z h0 o0 cN10 "size" "I" (.int 0)) (I4 : Fld Z h0 o0 cN10 "elementData" cN3 (.ref o3)) (I5 : Sta Z Z.heap cN10 cN11 cN3 (.ref o3)) (I1 : Exa Z h0 o0 cN10) (I2 : n0 ≤ o0) (I6 : Fld Z h0 o0 cN9 "modCount" "I" (.int 1)) (I8 : @LT.lt Nat instLTNat o0 h0.size) (I7 : Exa Z h0 o2 cN7) :
 own_Met l Z h0 mN64 B0F 4 (Option.none : Option FieldType) ws (own_R 3 1 10 41) #[(.ref o0), (.ref o2), (.ref o3), (.int 0)] (fun v h L => (∃ o1 : Nat, ∃ m0 : ClassId, v = none ∧ Fr n0 L ∧ Keep h0 h [o0] ∧ h0.size ≤ o1 ∧ Fld Z h o0 cN10 "elementData" cN3 (.ref o1) ∧ Exa Z h o0 cN10 ∧ Fld Z h o0 cN10 "size" "I" (.int 1) ∧ Fld Z h o0 cN9 "modCount" "I" (.int 1) ∧ Arv Z h o1 m0 (.object cN1) 10 [(.ref o2), .null, .null, .null, .null, .null, .null, .null, .null, .null] .null ∧ @LT.lt Nat instLTNat o1 h.size ∧ Ovr Z m0 cN1)) 1 10 := own_go own_pn53 fun p e s m below meth c s₁ hns hrt hnm hml hZ hx hby hown X0 e0 => by
 have N1 := Fr.nil n0
 refine own_cast (own_ef18 m o0 o2 o3 0) ?_
 refine oIN X0 hx hby dd51_0 rfl ?_
 refine oAN X0 hx hby dd51_1 rfl rfl ?_
 have F4 := I0.ext O0.2
 refine oS (own_len X0 hx hZ e0 F4 rfl rfl (hb hby dd51_2)) ?_
 refine oNI X0 hx hby dd51_3 (XT.ii_ne_f (by decide)) ?_
 refine oAN X0 hx hby dd51_6 rfl rfl ?_
 have y0 : @LT.lt Nat instLTNat o0 h0.size := by omega
 refine own_cP X0 hx hZ hown e0 (y := mN63) (b := o0) (hw 163) (hw 164) (hw 166) (hw 165) (hw 123) (hw 167) (by decide) I1 (W := 0) (own_rm57 l Z a0 hw [] m1 o0 o3 h0 n0 Z0 O0 I3 I4 I0 I5 I1 I2 I6 y0) [] [] hml (lenOf own_pd30 rfl) (hb hby dd51_7) fun T0 h3 v0 L0 X2 e1 q0 => ?_
 obtain ⟨o1, m0, rfl, N2, K0, F06, F5, F6, F7, F8, F0, F07, F1⟩ := q0
 have N3 := Fr.app N1 N2
 have z0 := K0.1
 refine oASN X2 hx hby dd51_10 rfl (l' := #[rv o0, rv o2, rv o1, iv 0]) rfl ?_
 refine oAN X2 hx hby dd51_11 rfl rfl ?_
 refine oIN X2 hx hby dd51_12 rfl ?_
 refine oAN X2 hx hby dd51_13 rfl rfl ?_
 show own_G p e below (T0.setTop (mkF m 14 #[rv o0, rv o2, rv o1, iv 0] [(.ref o2), (.int 0), (.ref o1)])) _
 have F9 := I7.keep K0
 obtain ⟨T1, h2, X1, e2, W1, A0, s0⟩ := own_stR X2 hx hZ e1 F0 rfl 0 (own_sto F0 F1 (Ins.of_exa F9 (hw 179))) rfl rfl (by decide) (by simp) (g := (mkF m 14 #[rv o0, rv o2, rv o1, iv 0] [(.ref o2), (.int 0), (.ref o1)])) rfl (rest := []) rfl (hb hby dd51_14)
 have N4 : n0 ≤ o1 := by omega
 have N5 := Fr.snoc X1 N3 N4
 have z1 := W1.size
 have F00 : Arv Z h2 o1 m0 (.object cN1) 10 [(.ref o2), .null, .null, .null, .null, .null, .null, .null, .null, .null] .null := A0
 refine oS s0 ?_
 refine oAN X1 hx hby dd51_15 rfl rfl ?_
 refine oIN X1 hx hby dd51_16 rfl ?_
 refine oIC X1 hx hby dd51_17 ?_
 refine oS (fun _ => XS.iadd X1.here hx rfl (hb hby dd51_18) rfl) ?_
 have N0 : @Ne Nat o0 o1 := by omega
 have F2 := Fld.other W1 F7 (Or.inl N0)
 have F3 := Exa.wr W1 F6
 refine own_pF X1 hx hZ hown (hw 156) e2 F2 F3 (Or.inl (hw 157)) (hw 122) (ty := .int) rfl rfl (hb hby dd51_19) fun T2 h1 X3 e3 W0 => ?_
 have N6 := Fr.snoc X3 N5 I2
 have z2 := W0.size
 have F01 := Fld.same W0 F2
 have F02 := Fld.other W0 (Fld.other W1 F5 (Or.inl N0)) (Or.inr (slot_ne (C := cN10) (Or.inl (hw 144)) (Or.inl (hw 157)) (by decide) (t := (.array (.object cN1))) (t' := .int) (by decide) (by decide)))
 have F03 := Exa.wr W0 F3
 have F04 := Fld.other W0 (Fld.other W1 F8 (Or.inl N0)) (Or.inr (slot_ne (C := cN10) (Or.inl (hw 141)) (Or.inl (hw 157)) (by decide) (t := .int) (t' := .int) (by decide) (by decide)))
 have F05 := F00.other W0 (Ne.symm N0)
 have y1 : @LT.lt Nat instLTNat o1 h1.size := by omega
 have K1 : Keep h0 h1 [o0] := ((((Keep.refl h0 [o0]).trans K0 (allS (Or.inl (by simp)) all0)).wr W1 (Or.inr (by omega))).wr W0 (Or.inl (by simp)))
 exact own_retV X3 hx hns hrt (hb hby dd51_22) e3 (by decide) (by decide) (⟨o1, m0, rfl, N6, K1, (by omega), F02, F03, F01, F04, F05, y1, F1⟩)
theorem own_pd31 : parseMethodDescriptor "(Ljava/lang/Object;[Ljava/lang/Object;I)V" = some ⟨[(.object cN1), (.array (.object cN1)), .int], none⟩ := by decide +kernel
theorem dd50_20 : decode B0E 20 = .ok (.invokevirtual 131, 3) := by decide +kernel
theorem dd50_23 : decode B0E 23 = .ok (.iconst 1, 1) := by decide +kernel
theorem dd50_24 : decode B0E 24 = .ok (.ireturn, 1) := by decide +kernel
theorem own_pn54 : plainFor mN65 = true := by decide +kernel
theorem own_rm55 (l : Launch) (Z : State) (a0 : Array Value) (hw : own_W a0 Z) (ws : List Jvm.Cond) (m1 : ClassId) (o0 o1 o3 : Nat) (h0 : Heap) (n0 : Nat) (Z1 : n0 ≤ h0.size) (O0 : Old Z n0 h0) (I0 : Fld Z h0 o0 cN9 "modCount" "I" (.int 0)) (I2 : Exa Z h0 o0 cN10) (I1 : n0 ≤ o0) (I3 : Fld Z h0 o0 cN10 "elementData" cN3 (.ref o3)) (I4 : Fld Z h0 o0 cN10 "size" "I" (.int 0)) (I5 : Arv Z Z.heap o3 m1 (FieldType.object cN1) 0 [] .null) (I6 : Sta Z Z.heap cN10 cN11 cN3 (.ref o3)) (I8 : @LT.lt Nat instLTNat o0 h0.size) (I7 : Exa Z h0 o1 cN7) :
 own_Met l Z h0 mN65 B0E 2 (Option.some FieldType.boolean) ws (own_R 4 1 10 56) #[(.ref o0), (.ref o1)] (fun v h L => (∃ o2 : Nat, ∃ m0 : ClassId, v = some (.int 1) ∧ Fr n0 L ∧ Keep h0 h [o0] ∧ h0.size ≤ o2 ∧ Fld Z h o0 cN9 "modCount" "I" (.int 1) ∧ Fld Z h o0 cN10 "elementData" cN3 (.ref o2) ∧ Fld Z h o0 cN10 "size" "I" (.int 1) ∧ Exa Z h o0 cN10 ∧ Arv Z h o2 m0 (.object cN1) 10 [(.ref o1), .null, .null, .null, .null, .null, .null, .null, .null, .null] .null ∧ @LT.lt Nat instLTNat o2 h.size ∧ Ovr Z m0 cN1)) 1 10 := own_go own_pn54 fun p e s m below meth c s₁ hns hrt hnm hml hZ hx hby hown X1 e0 => by
 have N0 := Fr.nil n0
 refine own_cast (own_ef9 m o0 o1) ?_
 refine oAN X1 hx hby dd50_0 rfl rfl ?_
 refine oS (fun _ => XS.dup X1.here hx rfl (hb hby dd50_1) rfl rfl) ?_
 obtain ⟨T1, X2, e1, s0⟩ := getF X1 hx hZ hown (host := "") (Or.inl (hw 154)) (Via.of (hw 155)) e0 I0 (g := (mkF m 2 #[rv o0, rv o1] [(.ref o0), (.ref o0)])) rfl rfl (hb hby dd50_2)
 refine oS s0 ?_
 refine oIC X2 hx hby dd50_5 ?_
 refine oS (fun _ => XS.iadd X2.here hx rfl (hb hby dd50_6) rfl) ?_
 obtain ⟨T2, h1, X0, e2, W0, s1⟩ := putF X2 hx hZ hown (host := "") (Or.inl (hw 154)) (Via.of (hw 155)) e1 I0 I2 (Or.inl (hw 141)) (hw 122) (ty := .int) (by decide) rfl rfl (g := (mkF m 7 #[rv o0, rv o1] [(.int 1), (.ref o0)])) rfl rfl (hb hby dd50_7)
 have N1 := Fr.snoc X0 N0 I1
 have z0 := W0.size
 have F3 := Fld.same W0 I0
 refine oS s1 ?_
 refine oAN X0 hx hby dd50_10 rfl rfl ?_
 refine oAN X0 hx hby dd50_11 rfl rfl ?_
 refine oAN X0 hx hby dd50_12 rfl rfl ?_
 have F0 := Fld.other W0 I3 (Or.inr (slot_ne (C := cN10) (Or.inl (hw 144)) (Or.inl (hw 141)) (by decide) (t := (.array (.object cN1))) (t' := .int) (by decide) (by decide)))
 refine own_gF X0 hx hZ hown (hw 143) e2 F0 (hb hby dd50_13) fun T0 X3 e3 => ?_
 show own_G p e below (T0.setTop (mkF m 16 #[rv o0, rv o1] [(.ref o3), (.ref o1), (.ref o0)])) _
 refine oAN X3 hx hby dd50_16 rfl rfl ?_
 have F1 := Fld.other W0 I4 (Or.inr (slot_ne (C := cN10) (Or.inl (hw 157)) (Or.inl (hw 141)) (by decide) (t := .int) (t' := .int) (by decide) (by decide)))
 refine own_gF X3 hx hZ hown (hw 156) e3 F1 (hb hby dd50_17) fun T3 X5 e4 => ?_
 have F2 := Exa.wr W0 I2
 have y0 : @LT.lt Nat instLTNat o0 h1.size := by omega
 have F4 := Exa.wr W0 I7
 have O1 : Old Z n0 h1 := O0.wr W0 I1
 have Z0 : n0 ≤ h1.size := by omega
 refine own_cP X5 hx hZ hown e4 (y := mN64) (b := o0) (hw 158) (hw 159) (hw 161) (hw 160) (hw 123) (hw 162) (by decide) F2 (W := 0) (own_rm56 l Z a0 hw [] m1 o0 o1 o3 h1 n0 Z0 O1 I5 F1 F0 I6 F2 I1 F3 y0 F4) [(.ref o1), (.ref o3), (.int 0)] [] hml (lenOf own_pd31 rfl) (hb hby dd50_20) fun T4 h2 v0 L0 X4 e5 q0 => ?_
 obtain ⟨o2, m0, rfl, N2, K0, F01, F5, F6, F7, F8, F9, F02, F00⟩ := q0
 have N3 := Fr.app N1 N2
 have z1 := K0.1
 refine oIC X4 hx hby dd50_23 ?_
 have y1 : @LT.lt Nat instLTNat o2 h2.size := by omega
 have K1 : Keep h0 h2 [o0] := (((Keep.refl h0 [o0]).wr W0 (Or.inl (by simp))).trans K0 (allS (Or.inl (by simp)) all0))
 exact own_retN X4 hx (t := .boolean) hns hrt (by simp) (hb hby dd50_24) (by decide) e5 (by decide) (by decide) (⟨o2, m0, rfl, N3, K1, (by omega), F8, F5, F7, F6, F9, y1, F00⟩)
theorem own_rm65 (l : Launch) (Z : State) (a0 : Array Value) (hw : own_W a0 Z) (ws : List Jvm.Cond) (o0 o1 : Nat) (h0 : Heap) (n0 : Nat) (Z0 : n0 ≤ h0.size) (O0 : Old Z n0 h0) (I1 : Fld Z h0 o0 cN17 "this$0" cN18 .null) (I2 : Exa Z h0 o0 cN17) (I0 : n0 ≤ o0) (I4 : Fld Z h0 o0 cN17 "lastRet" "I" (.int 0)) (I5 : Fld Z h0 o1 cN9 "modCount" "I" (.int 1)) (I3 : @Ne Nat o1 o0) (I6 : Fld Z h0 o0 cN17 cN19 "I" (.int 0)) (I7 : Fld Z h0 o0 cN17 "cursor" "I" (.int 0)) :
 own_Met l Z h0 mN27 B0g 2 (Option.none : Option FieldType) ws (own_R 1 0 0 12) #[(.ref o0), (.ref o1)] (fun v h L => (v = none ∧ Fr n0 L ∧ Keep h0 h [o0] ∧ Fld Z h o0 cN17 "this$0" cN18 (.ref o1) ∧ Fld Z h o0 cN17 "lastRet" "I" (.int (-1)) ∧ Exa Z h o0 cN17 ∧ Fld Z h o0 cN17 cN19 "I" (.int 1) ∧ Fld Z h o0 cN17 "cursor" "I" (.int 0))) 0 0 := own_go own_pn22 fun p e s m below meth c s₁ hns hrt hnm hml hZ hx hby hown X1 e0 => by
 have N0 := Fr.nil n0
 refine own_cast (own_ef9 m o0 o1) ?_
 refine oAN X1 hx hby dd26_0 rfl rfl ?_
 refine oAN X1 hx hby dd26_1 rfl rfl ?_
 refine own_pF X1 hx hZ hown (hw 258) e0 I1 I2 (Or.inr ⟨(hw 259), rfl, hnm⟩) (hw 252) (ty := (.object cN10)) rfl rfl (hb hby dd26_2) fun T1 h2 X2 e1 W0 => ?_
 have N1 := Fr.snoc X2 N0 I0
 have z0 := W0.size
 have F5 := Fld.same W0 I1
 refine oAN X2 hx hby dd26_5 rfl rfl ?_
 obtain ⟨T2, X3, e2, s0⟩ := initO X2 hx hZ hown (hw 260) (hw 21) (hw 22) e1 (g := (mkF m 6 #[rv o0, rv o1] [(.ref o0)])) rfl (by rw [hml]; rfl) rfl (hb hby dd26_6) (by decide) (W := 0) (by show 2 * 0 + _ ≤ _; exact Nat.le_of_eq rfl) (by decide)
 refine oS s0 ?_
 refine oAN X3 hx hby dd26_9 rfl rfl ?_
 refine oIC X3 hx hby dd26_10 ?_
 have F0 := Fld.other W0 I4 (Or.inr (slot_ne (C := cN17) (Or.inl (hw 262)) (Or.inr (hw 259)) (by decide) (t := .int) (t' := (.object cN10)) (by decide) (by decide)))
 have F1 := Exa.wr W0 I2
 refine own_pF X3 hx hZ hown (hw 261) e2 F0 F1 (Or.inl (hw 262)) (hw 252) (ty := .int) rfl rfl (hb hby dd26_11) fun T0 h3 X0 e3 W1 => ?_
 have N2 := Fr.snoc X0 N1 I0
 have z1 := W1.size
 have F6 := Fld.same W1 F0
 refine oAN X0 hx hby dd26_14 rfl rfl ?_
 refine oAN X0 hx hby dd26_15 rfl rfl ?_
 show own_G p e below (T0.setTop (mkF m 16 #[rv o0, rv o1] [(.ref o0), (.ref o0)])) _
 have F2 := Fld.other W1 F5 (Or.inr (slot_ne (C := cN17) (Or.inr (hw 259)) (Or.inl (hw 262)) (by decide) (t := (.object cN10)) (t' := .int) (by decide) (by decide)))
 refine own_gF X0 hx hZ hown (hw 258) e3 F2 (hb hby dd26_16) fun T3 X5 e4 => ?_
 have F7 := Fld.other W1 (Fld.other W0 I5 (Or.inl I3)) (Or.inl I3)
 obtain ⟨T4, X6, e5, s1⟩ := getF X5 hx hZ hown (host := "") (Or.inl (hw 263)) (Via.of (hw 155)) e4 F7 (g := (mkF m 19 #[rv o0, rv o1] [(.ref o1), (.ref o0)])) rfl rfl (hb hby dd26_19)
 refine oS s1 ?_
 have F3 := Fld.other W1 (Fld.other W0 I6 (Or.inr (slot_ne (C := cN17) (Or.inl (hw 265)) (Or.inr (hw 259)) (by decide) (t := .int) (t' := (.object cN10)) (by decide) (by decide)))) (Or.inr (slot_ne (C := cN17) (Or.inl (hw 265)) (Or.inl (hw 262)) (by decide) (t := .int) (t' := .int) (by decide) (by decide)))
 have F4 := Exa.wr W1 F1
 refine own_pF X6 hx hZ hown (hw 264) e5 F3 F4 (Or.inl (hw 265)) (hw 252) (ty := .int) rfl rfl (hb hby dd26_22) fun T5 h1 X4 e6 W2 => ?_
 have N3 := Fr.snoc X4 N2 I0
 have z2 := W2.size
 have F8 := Fld.same W2 F3
 have F9 := Fld.other W2 F2 (Or.inr (slot_ne (C := cN17) (Or.inr (hw 259)) (Or.inl (hw 265)) (by decide) (t := (.object cN10)) (t' := .int) (by decide) (by decide)))
 have F00 := Fld.other W2 F6 (Or.inr (slot_ne (C := cN17) (Or.inl (hw 262)) (Or.inl (hw 265)) (by decide) (t := .int) (t' := .int) (by decide) (by decide)))
 have F01 := Exa.wr W2 F4
 have F02 := Fld.other W2 (Fld.other W1 (Fld.other W0 I7 (Or.inr (slot_ne (C := cN17) (Or.inl (hw 282)) (Or.inr (hw 259)) (by decide) (t := .int) (t' := (.object cN10)) (by decide) (by decide)))) (Or.inr (slot_ne (C := cN17) (Or.inl (hw 282)) (Or.inl (hw 262)) (by decide) (t := .int) (t' := .int) (by decide) (by decide)))) (Or.inr (slot_ne (C := cN17) (Or.inl (hw 282)) (Or.inl (hw 265)) (by decide) (t := .int) (t' := .int) (by decide) (by decide)))
 have K0 : Keep h0 h1 [o0] := ((((Keep.refl h0 [o0]).wr W0 (Or.inl (by simp))).wr W1 (Or.inl (by simp))).wr W2 (Or.inl (by simp)))
 exact own_retV X4 hx hns hrt (hb hby dd26_25) e6 (by decide) (by decide) (⟨rfl, N3, K0, F9, F00, F01, F8, F02⟩)
theorem own_rm64 (l : Launch) (Z : State) (a0 : Array Value) (hw : own_W a0 Z) (ws : List Jvm.Cond) (o1 : Nat) (h0 : Heap) (n0 : Nat) (Z1 : n0 ≤ h0.size) (O0 : Old Z n0 h0) (I0 : Fld Z h0 o1 cN9 "modCount" "I" (.int 1)) (I1 : @LT.lt Nat instLTNat o1 h0.size) :
 own_Met l Z h0 mN28 B0f 1 (Option.some (FieldType.object cN6)) ws (own_R 2 1 4 26) #[(.ref o1)] (fun v h L => (∃ o0 : Nat, v = some (.ref o0) ∧ Fr n0 L ∧ Keep h0 h [] ∧ h0.size ≤ o0 ∧ Exa Z h o0 cN17 ∧ Fld Z h o0 cN17 "this$0" cN18 (.ref o1) ∧ Fld Z h o0 cN17 "lastRet" "I" (.int (-1)) ∧ Fld Z h o0 cN17 cN19 "I" (.int 1) ∧ Fld Z h o0 cN17 "cursor" "I" (.int 0) ∧ @LT.lt Nat instLTNat o0 h.size)) 1 4 := own_go own_pn23 fun p e s m below meth c s₁ hns hrt hnm hml hZ hx hby hown X1 e0 => by
 have N0 := Fr.nil n0
 refine own_cast (own_ef6 m o1) ?_
 obtain ⟨T0, h1, X0, e1, E0, A0, D0, U0, s0⟩ := newO X1 hx hZ hown (hw 251) (hw 252) (hw 253) e0 (g := (mkF m 0 #[rv o1] [])) rfl (hb hby dd25_0) (by decide) (by decide)
 obtain ⟨o0, g0⟩ : ∃ z, z = h0.size := ⟨_, rfl⟩
 rw [← g0] at A0 D0 U0 s0
 have z0 := E0.1
 have y1 : @LT.lt Nat instLTNat o0 h1.size := A0.lt
 refine oS s0 ?_
 have F0 : Fld Z h1 o0 cN17 "this$0" cN18 .null := D0 (Or.inr (hw 259)) (ty := (.object cN10)) (by decide)
 have F1 : Fld Z h1 o0 cN17 "lastRet" "I" (.int 0) := D0 (Or.inl (hw 262)) (ty := .int) (by decide)
 have F2 : Fld Z h1 o0 cN17 cN19 "I" (.int 0) := D0 (Or.inl (hw 265)) (ty := .int) (by decide)
 have F3 : Fld Z h1 o0 cN17 "cursor" "I" (.int 0) := D0 (Or.inl (hw 282)) (ty := .int) (by decide)
 refine oS (fun _ => XS.dup X0.here hx rfl (hb hby dd25_3) rfl rfl) ?_
 refine oAN X0 hx hby dd25_4 rfl rfl ?_
 have N1 : n0 ≤ o0 := by omega
 have F4 := Fld.ext E0 I0
 have N2 : @Ne Nat o1 o0 := by omega
 have O1 : Old Z n0 h1 := O0.ext E0
 have Z0 : n0 ≤ h1.size := by omega
 refine own_cN X0 hx hZ hown e1 (y := mN27) (b := o0) rfl (hw 254) (hw 255) (hw 253) (hw 257) (by decide) (W := 1) (own_rm65 l Z a0 hw [] o0 o1 h1 n0 Z0 O1 F0 A0 N1 F1 F4 N2 F2 F3) [(.ref o1)] [(.ref o0)] hml (lenOf own_pd17 rfl) (hb hby dd25_5) fun T1 h2 v0 L0 X2 e2 q0 => ?_
 obtain ⟨rfl, N3, K0, F5, F6, F7, F8, F9⟩ := q0
 have N4 := Fr.app N0 N3
 have z1 := K0.1
 have y0 : @LT.lt Nat instLTNat o0 h2.size := by omega
 have K1 : Keep h0 h2 [] := (((Keep.refl h0 []).ext E0).trans K0 (allS (Or.inr (by omega)) all0))
 exact own_retA X2 hx hns hrt rfl rfl (hb hby dd25_8) e2 (by decide) (by decide) (⟨o0, rfl, N4, K1, (by omega), F7, F5, F6, F8, F9, y0⟩)
theorem own_rm63 (l : Launch) (Z : State) (a0 : Array Value) (hw : own_W a0 Z) (ws : List Jvm.Cond) (o0 o3 o2 : Nat) (h0 : Heap) (n0 : Nat) (Z1 : n0 ≤ h0.size) (O0 : Old Z n0 h0) (I1 : Fld Z h0 o0 cN20 "this$0" cN21 .null) (I2 : Exa Z h0 o0 cN20) (I0 : n0 ≤ o0) (I3 : Fld Z h0 o3 cN12 "c" cN13 (.ref o2)) (I4 : @Ne Nat o3 o0) (I5 : Fld Z h0 o2 cN9 "modCount" "I" (.int 1)) (I6 : @Ne Nat o2 o0) (I9 : @LT.lt Nat instLTNat o2 h0.size) (I7 : Exa Z h0 o2 cN10) (I8 : Fld Z h0 o0 cN20 "i" cN22 .null) (I00 : @LT.lt Nat instLTNat o0 h0.size) :
 own_Met l Z h0 mN29 B0e 2 (Option.none : Option FieldType) ws (own_R 3 1 4 39) #[(.ref o0), (.ref o3)] (fun v h L => (∃ o1 : Nat, v = none ∧ Fr n0 L ∧ Keep h0 h [o0] ∧ h0.size ≤ o1 ∧ Fld Z h o0 cN20 "this$0" cN21 (.ref o3) ∧ Fld Z h o0 cN20 "i" cN22 (.ref o1) ∧ Exa Z h o0 cN20 ∧ Exa Z h o1 cN17 ∧ Fld Z h o1 cN17 "this$0" cN18 (.ref o2) ∧ Fld Z h o1 cN17 "lastRet" "I" (.int (-1)) ∧ Fld Z h o1 cN17 cN19 "I" (.int 1) ∧ Fld Z h o1 cN17 "cursor" "I" (.int 0) ∧ @LT.lt Nat instLTNat o1 h.size)) 1 4 := own_go own_pn24 fun p e s m below meth c s₁ hns hrt hnm hml hZ hx hby hown X0 e0 => by
 have N1 := Fr.nil n0
 refine own_cast (own_ef9 m o0 o3) ?_
 refine oAN X0 hx hby dd24_0 rfl rfl ?_
 refine oAN X0 hx hby dd24_1 rfl rfl ?_
 refine own_pF X0 hx hZ hown (hw 238) e0 I1 I2 (Or.inr ⟨(hw 239), rfl, hnm⟩) (hw 232) (ty := (.object cN12)) rfl rfl (hb hby dd24_2) fun T1 h1 X1 e1 W1 => ?_
 have N2 := Fr.snoc X1 N1 I0
 have z0 := W1.size
 have F0 := Fld.same W1 I1
 refine oAN X1 hx hby dd24_5 rfl rfl ?_
 obtain ⟨T2, X2, e2, s0⟩ := initO X1 hx hZ hown (hw 240) (hw 21) (hw 22) e1 (g := (mkF m 6 #[rv o0, rv o3] [(.ref o0)])) rfl (by rw [hml]; rfl) rfl (hb hby dd24_6) (by decide) (W := 0) (by show 2 * 0 + _ ≤ _; exact Nat.le_of_eq rfl) (by decide)
 refine oS s0 ?_
 refine oAN X2 hx hby dd24_9 rfl rfl ?_
 refine oAN X2 hx hby dd24_10 rfl rfl ?_
 refine own_gF X2 hx hZ hown (hw 238) e2 F0 (hb hby dd24_11) fun T3 X4 e3 => ?_
 have F3 := Fld.other W1 I3 (Or.inl I4)
 refine own_gF X4 hx hZ hown (hw 241) e3 F3 (hb hby dd24_14) fun T4 X5 e4 => ?_
 have F4 := Fld.other W1 I5 (Or.inl I6)
 have y0 : @LT.lt Nat instLTNat o2 h1.size := by omega
 have O1 : Old Z n0 h1 := O0.wr W1 I0
 have Z0 : n0 ≤ h1.size := by omega
 have F5 := Exa.wr W1 I7
 refine own_cI X5 hx hZ hown e4 (y := mN30) (z := mN28) (b := o2) (hw 242) (hw 243) (hw 244) rfl (hw 245) (hw 246) (hw 247) (hw 248) (hw 249) (hw 123) (hw 250) (by decide) F5 (W := 1) (own_rm64 l Z a0 hw [] o2 h1 n0 Z0 O1 F4 y0) [] [(.ref o0)] hml (lenOf own_pd10 rfl) (hb hby dd24_17) fun T0 h3 v0 L0 X6 e5 q0 => ?_
 obtain ⟨o1, rfl, N3, K0, F09, F6, F7, F8, F9, F00, F0a⟩ := q0
 have N4 := Fr.app N2 N3
 have z1 := K0.1
 show own_G p e below (T0.setTop (mkF m 22 #[rv o0, rv o3] [(.ref o1), (.ref o0)])) _
 have F1 := (Fld.other W1 I8 (Or.inr (slot_ne (C := cN20) (Or.inr (hw 267)) (Or.inr (hw 239)) (by decide) (t := (.object cN6)) (t' := (.object cN12)) (by decide) (by decide)))).keep K0 nin0
 have F2 := (Exa.wr W1 I2).keep K0
 refine own_pF X6 hx hZ hown (hw 266) e5 F1 F2 (Or.inr ⟨(hw 267), rfl, hnm⟩) (hw 232) (ty := (.object cN6)) rfl rfl (hb hby dd24_22) fun T5 h2 X3 e6 W0 => ?_
 have N5 := Fr.snoc X3 N4 I0
 have z2 := W0.size
 have F01 := Fld.same W0 F1
 have F02 := Fld.other W0 (F0.keep K0 nin0) (Or.inr (slot_ne (C := cN20) (Or.inr (hw 239)) (Or.inr (hw 267)) (by decide) (t := (.object cN12)) (t' := (.object cN6)) (by decide) (by decide)))
 have F03 := Exa.wr W0 F2
 have F04 := Exa.wr W0 F6
 have N0 : @Ne Nat o1 o0 := by omega
 have F05 := Fld.other W0 F7 (Or.inl N0)
 have F06 := Fld.other W0 F8 (Or.inl N0)
 have F07 := Fld.other W0 F9 (Or.inl N0)
 have F08 := Fld.other W0 F00 (Or.inl N0)
 have y1 : @LT.lt Nat instLTNat o1 h2.size := by omega
 have K1 : Keep h0 h2 [o0] := ((((Keep.refl h0 [o0]).wr W1 (Or.inl (by simp))).trans K0 all0).wr W0 (Or.inl (by simp)))
 exact own_retV X3 hx hns hrt (hb hby dd24_25) e6 (by decide) (by decide) (⟨o1, rfl, N5, K1, (by omega), F02, F01, F03, F04, F05, F06, F07, F08, y1⟩)
theorem own_rm62 (l : Launch) (Z : State) (a0 : Array Value) (hw : own_W a0 Z) (ws : List Jvm.Cond) (o2 o3 : Nat) (h0 : Heap) (n0 : Nat) (Z1 : n0 ≤ h0.size) (O0 : Old Z n0 h0) (I0 : Fld Z h0 o2 cN12 "c" cN13 (.ref o3)) (I3 : @LT.lt Nat instLTNat o2 h0.size) (I1 : Fld Z h0 o3 cN9 "modCount" "I" (.int 1)) (I4 : @LT.lt Nat instLTNat o3 h0.size) (I2 : Exa Z h0 o3 cN10) :
 own_Met l Z h0 mN31 B0d 1 (Option.some (FieldType.object cN6)) ws (own_R 4 2 6 53) #[(.ref o2)] (fun v h L => (∃ o0 : Nat, ∃ o1 : Nat, v = some (.ref o0) ∧ Fr n0 L ∧ Keep h0 h [] ∧ h0.size ≤ o0 ∧ o0 < o1 ∧ Exa Z h o0 cN20 ∧ Fld Z h o0 cN20 "this$0" cN21 (.ref o2) ∧ Fld Z h o0 cN20 "i" cN22 (.ref o1) ∧ Exa Z h o1 cN17 ∧ Fld Z h o1 cN17 "this$0" cN18 (.ref o3) ∧ Fld Z h o1 cN17 "lastRet" "I" (.int (-1)) ∧ Fld Z h o1 cN17 cN19 "I" (.int 1) ∧ Fld Z h o1 cN17 "cursor" "I" (.int 0) ∧ @LT.lt Nat instLTNat o0 h.size ∧ @LT.lt Nat instLTNat o1 h.size)) 2 6 := own_go own_pn25 fun p e s m below meth c s₁ hns hrt hnm hml hZ hx hby hown X1 e0 => by
 have N0 := Fr.nil n0
 refine own_cast (own_ef6 m o2) ?_
 obtain ⟨T0, h1, X0, e1, E0, A0, D0, U0, s0⟩ := newO X1 hx hZ hown (hw 231) (hw 232) (hw 233) e0 (g := (mkF m 0 #[rv o2] [])) rfl (hb hby dd23_0) (by decide) (by decide)
 obtain ⟨o0, g0⟩ : ∃ z, z = h0.size := ⟨_, rfl⟩
 rw [← g0] at A0 D0 U0 s0
 have z0 := E0.1
 have y4 : @LT.lt Nat instLTNat o0 h1.size := A0.lt
 refine oS s0 ?_
 have F0 : Fld Z h1 o0 cN20 "this$0" cN21 .null := D0 (Or.inr (hw 239)) (ty := (.object cN12)) (by decide)
 have F1 : Fld Z h1 o0 cN20 "i" cN22 .null := D0 (Or.inr (hw 267)) (ty := (.object cN6)) (by decide)
 refine oS (fun _ => XS.dup X0.here hx rfl (hb hby dd23_3) rfl rfl) ?_
 refine oAN X0 hx hby dd23_4 rfl rfl ?_
 have N1 : n0 ≤ o0 := by omega
 have F2 := Fld.ext E0 I0
 have N2 : @Ne Nat o2 o0 := by omega
 have F3 := Fld.ext E0 I1
 have N3 : @Ne Nat o3 o0 := by omega
 have y0 : @LT.lt Nat instLTNat o3 h1.size := by omega
 have F4 := Exa.ext E0 I2
 have y1 : @LT.lt Nat instLTNat o0 h1.size := by omega
 have O1 : Old Z n0 h1 := O0.ext E0
 have Z0 : n0 ≤ h1.size := by omega
 refine own_cN X0 hx hZ hown e1 (y := mN29) (b := o0) rfl (hw 234) (hw 235) (hw 233) (hw 237) (by decide) (W := 1) (own_rm63 l Z a0 hw [] o0 o2 o3 h1 n0 Z0 O1 F0 A0 N1 F2 N2 F3 N3 y0 F4 F1 y1) [(.ref o2)] [(.ref o0)] hml (lenOf own_pd18 rfl) (hb hby dd23_5) fun T1 h2 v0 L0 X2 e2 q0 => ?_
 obtain ⟨o1, rfl, N4, K0, F03, F5, F6, F7, F8, F9, F00, F01, F02, F04⟩ := q0
 have N5 := Fr.app N0 N4
 have z1 := K0.1
 have y2 : @LT.lt Nat instLTNat o0 h2.size := by omega
 have y3 : @LT.lt Nat instLTNat o1 h2.size := by omega
 have K1 : Keep h0 h2 [] := (((Keep.refl h0 []).ext E0).trans K0 (allS (Or.inr (by omega)) all0))
 exact own_retA X2 hx hns hrt rfl rfl (hb hby dd23_8) e2 (by decide) (by decide) (⟨o0, o1, rfl, N5, K1, (by omega), (by omega), F7, F5, F6, F8, F9, F00, F01, F02, y2, y3⟩)
theorem dd28_14 : decode B0i 14 = .ok (.iconst 1, 1) := by decide +kernel
theorem dd28_15 : decode B0i 15 = .ok (.goto 4, 3) := by decide +kernel
theorem own_rm67 (l : Launch) (Z : State) (a0 : Array Value) (hw : own_W a0 Z) (ws : List Jvm.Cond) (o0 o1 : Nat) (h0 : Heap) (n0 : Nat) (Z0 : n0 ≤ h0.size) (O0 : Old Z n0 h0) (I0 : Fld Z h0 o0 cN17 "cursor" "I" (.int 0)) (I1 : Fld Z h0 o0 cN17 "this$0" cN18 (.ref o1)) (I2 : Fld Z h0 o1 cN10 "size" "I" (.int 1)) :
 own_Met l Z h0 mN32 B0i 1 (Option.some FieldType.boolean) ws (own_R 0 0 0 0) #[(.ref o0)] (fun v h L => (v = some (.int 1) ∧ Fr n0 L ∧ h = h0)) 0 0 := own_go own_pn26 fun p e s m below meth c s₁ hns hrt hnm hml hZ hx hby hown X1 e0 => by
 have N0 := Fr.nil n0
 refine own_cast (own_ef6 m o0) ?_
 refine oAN X1 hx hby dd28_0 rfl rfl ?_
 refine own_gF X1 hx hZ hown (hw 281) e0 I0 (hb hby dd28_1) fun T0 X2 e1 => ?_
 refine oAN X2 hx hby dd28_4 rfl rfl ?_
 refine own_gF X2 hx hZ hown (hw 258) e1 I1 (hb hby dd28_5) fun T1 X3 e2 => ?_
 obtain ⟨T2, X0, e3, s0⟩ := getF X3 hx hZ hown (host := cN10) (Or.inr (hw 283)) Via.refl e2 I2 (g := (mkF m 8 #[rv o0] [(.ref o1), (.int 0)])) rfl rfl (hb hby dd28_8)
 refine oS s0 ?_
 refine oNI X0 hx hby dd28_11 (XT.ii_eq_f (by decide)) ?_
 refine oIC X0 hx hby dd28_14 ?_
 refine oGO X0 hx hby (pc' := 19) dd28_15 ?_
 exact own_retN X0 hx (t := .boolean) hns hrt (by simp) (hb hby dd28_19) (by decide) e3 (by decide) (by decide) (⟨rfl, N0, rfl⟩)
theorem own_rm66 (l : Launch) (Z : State) (a0 : Array Value) (hw : own_W a0 Z) (ws : List Jvm.Cond) (o1 o0 o2 : Nat) (h0 : Heap) (n0 : Nat) (Z0 : n0 ≤ h0.size) (O0 : Old Z n0 h0) (I0 : Fld Z h0 o1 cN20 "i" cN22 (.ref o0)) (I1 : Fld Z h0 o0 cN17 "cursor" "I" (.int 0)) (I2 : Fld Z h0 o0 cN17 "this$0" cN18 (.ref o2)) (I3 : Fld Z h0 o2 cN10 "size" "I" (.int 1)) (I4 : Exa Z h0 o0 cN17) :
 own_Met l Z h0 mN33 B0h 1 (Option.some FieldType.boolean) ws (own_R 1 0 0 12) #[(.ref o1)] (fun v h L => (v = some (.int 1) ∧ Fr n0 L ∧ h = h0)) 0 0 := own_go own_pn27 fun p e s m below meth c s₁ hns hrt hnm hml hZ hx hby hown X0 e0 => by
 have N0 := Fr.nil n0
 refine own_cast (own_ef6 m o1) ?_
 refine oAN X0 hx hby dd27_0 rfl rfl ?_
 refine own_gF X0 hx hZ hown (hw 266) e0 I0 (hb hby dd27_1) fun T0 X1 e1 => ?_
 refine own_cI X1 hx hZ hown e1 (y := mN17) (z := mN32) (b := o0) (hw 274) (hw 111) (hw 112) rfl (hw 275) (hw 276) (hw 277) (hw 278) (hw 279) (hw 253) (hw 280) (by decide) I4 (W := 0) (own_rm67 l Z a0 hw [] o0 o2 h0 n0 Z0 O0 I1 I2 I3) [] [] hml (lenOf own_pd5 rfl) (hb hby dd27_4) fun T1 h1 v0 L0 X2 e2 q0 => ?_
 obtain ⟨rfl, N1, K0⟩ := q0
 have N2 := Fr.app N0 N1
 have e3 := e2.trans K0
 exact own_retN X2 hx (t := .boolean) hns hrt (by simp) (hb hby dd27_9) (by decide) e3 (by decide) (by decide) (⟨rfl, N2, rfl⟩)
theorem dd6_76 : decode B6 76 = .ok (.aload 7, 2) := by decide +kernel
theorem dd55_0 : decode B0J 0 = .ok (.aload_n 0, 1) := by decide +kernel
theorem dd55_1 : decode B0J 1 = .ok (.getfield 25, 3) := by decide +kernel
theorem own_ef20 (m : MethodId) (x0 : Addr) : entryFrame m #[(.ref x0)] 3 = mkF m 0 #[.val (.ref x0), .unset, .unset] [] := by first | (simp [entryFrame, mkF, argsToLocals, Value.category]; done) | rfl
theorem dd56_0 : decode B0K 0 = .ok (.aload_n 0, 1) := by decide +kernel
theorem dd57_0 : decode B0L 0 = .ok (.aload_n 0, 1) := by decide +kernel
theorem dd57_1 : decode B0L 1 = .ok (.getfield 1, 3) := by decide +kernel
theorem dd57_4 : decode B0L 4 = .ok (.getfield 17, 3) := by decide +kernel
theorem dd57_7 : decode B0L 7 = .ok (.aload_n 0, 1) := by decide +kernel
theorem dd57_8 : decode B0L 8 = .ok (.getfield 22, 3) := by decide +kernel
theorem dd57_11 : decode B0L 11 = .ok (.if_icmp .eq 11, 3) := by decide +kernel
theorem dd57_22 : decode B0L 22 = .ok (.return_, 1) := by decide +kernel
theorem own_pn55 : plainFor mN66 = true := by decide +kernel
theorem own_rm70 (l : Launch) (Z : State) (a0 : Array Value) (hw : own_W a0 Z) (ws : List Jvm.Cond) (o0 o1 : Nat) (h0 : Heap) (n0 : Nat) (Z0 : n0 ≤ h0.size) (O0 : Old Z n0 h0) (I0 : Fld Z h0 o0 cN17 "this$0" cN18 (.ref o1)) (I1 : Fld Z h0 o1 cN9 "modCount" "I" (.int 1)) (I2 : Fld Z h0 o0 cN17 cN19 "I" (.int 1)) :
 own_Met l Z h0 mN66 B0L 1 (Option.none : Option FieldType) ws (own_R 0 0 0 0) #[(.ref o0)] (fun v h L => (v = none ∧ Fr n0 L ∧ h = h0)) 0 0 := own_go own_pn55 fun p e s m below meth c s₁ hns hrt hnm hml hZ hx hby hown X0 e0 => by
 have N0 := Fr.nil n0
 refine own_cast (own_ef6 m o0) ?_
 refine oAN X0 hx hby dd57_0 rfl rfl ?_
 refine own_gF X0 hx hZ hown (hw 258) e0 I0 (hb hby dd57_1) fun T0 X3 e1 => ?_
 obtain ⟨T1, X1, e2, s0⟩ := getF X3 hx hZ hown (host := "") (Or.inl (hw 263)) (Via.of (hw 155)) e1 I1 (g := (mkF m 4 #[rv o0] [(.ref o1)])) rfl rfl (hb hby dd57_4)
 refine oS s0 ?_
 refine oAN X1 hx hby dd57_7 rfl rfl ?_
 refine own_gF X1 hx hZ hown (hw 264) e2 I2 (hb hby dd57_8) fun T2 X2 e3 => ?_
 refine oYI X2 hx hby (pc' := 22) dd57_11 (XT.ii_eq_t (by decide)) ?_
 exact own_retV X2 hx hns hrt (hb hby dd57_22) e3 (by decide) (by decide) (⟨rfl, N0, rfl⟩)
theorem dd56_1 : decode B0K 1 = .ok (.invokevirtual 31, 3) := by decide +kernel
theorem dd56_4 : decode B0K 4 = .ok (.aload_n 0, 1) := by decide +kernel
theorem dd56_5 : decode B0K 5 = .ok (.getfield 25, 3) := by decide +kernel
theorem dd56_8 : decode B0K 8 = .ok (.istore_n 1, 1) := by decide +kernel
theorem dd56_9 : decode B0K 9 = .ok (.iload_n 1, 1) := by decide +kernel
theorem dd56_10 : decode B0K 10 = .ok (.aload_n 0, 1) := by decide +kernel
theorem dd56_11 : decode B0K 11 = .ok (.getfield 1, 3) := by decide +kernel
theorem dd56_14 : decode B0K 14 = .ok (.getfield 28, 3) := by decide +kernel
theorem dd56_17 : decode B0K 17 = .ok (.if_icmp .lt 11, 3) := by decide +kernel
theorem dd56_28 : decode B0K 28 = .ok (.aload_n 0, 1) := by decide +kernel
theorem dd56_29 : decode B0K 29 = .ok (.getfield 1, 3) := by decide +kernel
theorem dd56_32 : decode B0K 32 = .ok (.getfield 37, 3) := by decide +kernel
theorem dd56_35 : decode B0K 35 = .ok (.astore_n 2, 1) := by decide +kernel
theorem dd56_36 : decode B0K 36 = .ok (.iload_n 1, 1) := by decide +kernel
theorem dd56_37 : decode B0K 37 = .ok (.aload_n 2, 1) := by decide +kernel
theorem dd56_38 : decode B0K 38 = .ok (.arraylength, 1) := by decide +kernel
theorem dd56_39 : decode B0K 39 = .ok (.if_icmp .lt 11, 3) := by decide +kernel
theorem dd56_50 : decode B0K 50 = .ok (.aload_n 0, 1) := by decide +kernel
theorem dd56_51 : decode B0K 51 = .ok (.iload_n 1, 1) := by decide +kernel
theorem dd56_52 : decode B0K 52 = .ok (.iconst 1, 1) := by decide +kernel
theorem dd56_53 : decode B0K 53 = .ok (.iadd, 1) := by decide +kernel
theorem dd56_54 : decode B0K 54 = .ok (.putfield 25, 3) := by decide +kernel
theorem dd56_57 : decode B0K 57 = .ok (.aload_n 2, 1) := by decide +kernel
theorem dd56_58 : decode B0K 58 = .ok (.aload_n 0, 1) := by decide +kernel
theorem dd56_59 : decode B0K 59 = .ok (.iload_n 1, 1) := by decide +kernel
theorem dd56_60 : decode B0K 60 = .ok (.dup_x1, 1) := by decide +kernel
theorem dd56_61 : decode B0K 61 = .ok (.putfield 13, 3) := by decide +kernel
theorem dd56_64 : decode B0K 64 = .ok (.aaload, 1) := by decide +kernel
theorem dd56_65 : decode B0K 65 = .ok (.areturn, 1) := by decide +kernel
theorem own_pn56 : plainFor mN67 = true := by decide +kernel
theorem own_rm69 (l : Launch) (Z : State) (a0 : Array Value) (hw : own_W a0 Z) (ws : List Jvm.Cond) (m0 : ClassId) (o0 o1 o2 o3 : Nat) (h0 : Heap) (n0 : Nat) (Z0 : n0 ≤ h0.size) (O0 : Old Z n0 h0) (I0 : Fld Z h0 o0 cN17 "this$0" cN18 (.ref o1)) (I7 : Fld Z h0 o1 cN9 "modCount" "I" (.int 1)) (I3 : Fld Z h0 o0 cN17 cN19 "I" (.int 1)) (I1 : Exa Z h0 o0 cN17) (I2 : Fld Z h0 o0 cN17 "cursor" "I" (.int 0)) (I8 : Fld Z h0 o1 cN10 "size" "I" (.int 1)) (I9 : Fld Z h0 o1 cN10 "elementData" cN3 (.ref o2)) (I4 : Arv Z h0 o2 m0 (.object cN1) 10 [(.ref o3), .null, .null, .null, .null, .null, .null, .null, .null, .null] .null) (I5 : n0 ≤ o0) (I00 : Fld Z h0 o0 cN17 "lastRet" "I" (.int (-1))) (I6 : @Ne Nat o2 o0) :
 own_Met l Z h0 mN67 B0K 3 (Option.some (FieldType.object cN1)) ws (own_R 1 0 0 12) #[(.ref o0)] (fun v h L => (v = some (.ref o3) ∧ Fr n0 L ∧ Keep h0 h [o0] ∧ Fld Z h o0 cN17 "cursor" "I" (.int 1) ∧ Fld Z h o0 cN17 "lastRet" "I" (.int 0) ∧ Exa Z h o0 cN17 ∧ Fld Z h o0 cN17 "this$0" cN18 (.ref o1) ∧ Fld Z h o0 cN17 cN19 "I" (.int 1))) 0 0 := own_go own_pn56 fun p e s m below meth c s₁ hns hrt hnm hml hZ hx hby hown X5 e2 => by
 have N0 := Fr.nil n0
 refine own_cast (own_ef20 m o0) ?_
 refine oAN X5 hx hby dd56_0 rfl rfl ?_
 refine own_cV X5 hx hZ hown e2 (y := mN66) (z := mN66) (b := o0) (hw 298) (hw 299) (notFace_of_selects (args := #[]) (mvT hZ (hw 301))) (hw 301) (hw 300) (hw 253) (hw 302) (by decide) I1 (W := 0) (own_rm70 l Z a0 hw [] o0 o1 h0 n0 Z0 O0 I0 I7 I3) [] [] hml (lenOf own_pd13 rfl) (hb hby dd56_1) fun T2 h2 v0 L0 X6 e3 q0 => ?_
 obtain ⟨rfl, N1, K0⟩ := q0
 have N2 := Fr.app N0 N1
 have e4 := e3.trans K0
 refine oAN X6 hx hby dd56_4 rfl rfl ?_
 refine own_gF X6 hx hZ hown (hw 281) e4 I2 (hb hby dd56_5) fun T3 X2 e5 => ?_
 refine oISN X2 hx hby dd56_8 (l' := #[rv o0, iv 0, .unset]) rfl ?_
 refine oIN X2 hx hby dd56_9 rfl ?_
 refine oAN X2 hx hby dd56_10 rfl rfl ?_
 refine own_gF X2 hx hZ hown (hw 258) e5 I0 (hb hby dd56_11) fun T4 X7 e6 => ?_
 obtain ⟨T0, X3, e7, s0⟩ := getF X7 hx hZ hown (host := cN10) (Or.inr (hw 283)) Via.refl e6 I8 (g := (mkF m 14 #[rv o0, iv 0, .unset] [(.ref o1), (.int 0)])) rfl rfl (hb hby dd56_14)
 refine oS s0 ?_
 refine oYI X3 hx hby (pc' := 28) dd56_17 (XT.ii_lt_t (by decide)) ?_
 show own_G p e below (T0.setTop (mkF m 28 #[rv o0, iv 0, .unset] [])) _
 refine oAN X3 hx hby dd56_28 rfl rfl ?_
 refine own_gF X3 hx hZ hown (hw 258) e7 I0 (hb hby dd56_29) fun T5 X8 e8 => ?_
 refine own_gF X8 hx hZ hown (hw 303) e8 I9 (hb hby dd56_32) fun T1 X0 e0 => ?_
 refine oASN X0 hx hby dd56_35 rfl (l' := #[rv o0, iv 0, rv o2]) rfl ?_
 refine oIN X0 hx hby dd56_36 rfl ?_
 refine oAN X0 hx hby dd56_37 rfl rfl ?_
 refine oS (own_len X0 hx hZ e0 I4 rfl rfl (hb hby dd56_38)) ?_
 refine oYI X0 hx hby (pc' := 50) dd56_39 (XT.ii_lt_t (by decide)) ?_
 refine oAN X0 hx hby dd56_50 rfl rfl ?_
 refine oIN X0 hx hby dd56_51 rfl ?_
 show own_G p e below (T1.setTop (mkF m 52 #[rv o0, iv 0, rv o2] [(.int 0), (.ref o0)])) _
 refine oIC X0 hx hby dd56_52 ?_
 refine oS (fun _ => XS.iadd X0.here hx rfl (hb hby dd56_53) rfl) ?_
 refine own_pF X0 hx hZ hown (hw 281) e0 I2 I1 (Or.inl (hw 282)) (hw 252) (ty := .int) rfl rfl (hb hby dd56_54) fun T6 h3 X1 e9 W0 => ?_
 have N3 := Fr.snoc X1 N2 I5
 have z0 := W0.size
 have F2 := Fld.same W0 I2
 refine oAN X1 hx hby dd56_57 rfl rfl ?_
 refine oAN X1 hx hby dd56_58 rfl rfl ?_
 refine oIN X1 hx hby dd56_59 rfl ?_
 refine oS (fun _ => XT.dupX1 X1.here hx rfl (hb hby dd56_60) rfl rfl rfl) ?_
 have F0 := Fld.other W0 I00 (Or.inr (slot_ne (C := cN17) (Or.inl (hw 262)) (Or.inl (hw 282)) (by decide) (t := .int) (t' := .int) (by decide) (by decide)))
 have F1 := Exa.wr W0 I1
 refine own_pF X1 hx hZ hown (hw 261) e9 F0 F1 (Or.inl (hw 262)) (hw 252) (ty := .int) rfl rfl (hb hby dd56_61) fun T7 h1 X4 e1 W1 => ?_
 have N4 := Fr.snoc X4 N3 I5
 have z1 := W1.size
 have F3 := Fld.same W1 F0
 have F4 := (I4.other W0 I6).other W1 I6
 refine oS (own_aaload X4 hx hZ e1 F4 rfl (by decide) (v := (.ref o3)) rfl rfl rfl (hb hby dd56_64)) ?_
 have F5 := Fld.other W1 F2 (Or.inr (slot_ne (C := cN17) (Or.inl (hw 282)) (Or.inl (hw 262)) (by decide) (t := .int) (t' := .int) (by decide) (by decide)))
 have F6 := Exa.wr W1 F1
 have F7 := Fld.other W1 (Fld.other W0 I0 (Or.inr (slot_ne (C := cN17) (Or.inr (hw 259)) (Or.inl (hw 282)) (by decide) (t := (.object cN10)) (t' := .int) (by decide) (by decide)))) (Or.inr (slot_ne (C := cN17) (Or.inr (hw 259)) (Or.inl (hw 262)) (by decide) (t := (.object cN10)) (t' := .int) (by decide) (by decide)))
 have F8 := Fld.other W1 (Fld.other W0 I3 (Or.inr (slot_ne (C := cN17) (Or.inl (hw 265)) (Or.inl (hw 282)) (by decide) (t := .int) (t' := .int) (by decide) (by decide)))) (Or.inr (slot_ne (C := cN17) (Or.inl (hw 265)) (Or.inl (hw 262)) (by decide) (t := .int) (t' := .int) (by decide) (by decide)))
 have K1 : Keep h0 h1 [o0] := (((Keep.refl h0 [o0]).wr W0 (Or.inl (by simp))).wr W1 (Or.inl (by simp)))
 exact own_retA X4 hx hns hrt rfl rfl (hb hby dd56_65) e1 (by decide) (by decide) (⟨rfl, N4, K1, F5, F3, F6, F7, F8⟩)
theorem dd55_4 : decode B0J 4 = .ok (.invokeinterface 35 1, 5) := by decide +kernel
theorem dd55_9 : decode B0J 9 = .ok (.areturn, 1) := by decide +kernel
theorem own_pn57 : plainFor mN68 = true := by decide +kernel
theorem own_rm68 (l : Launch) (Z : State) (a0 : Array Value) (hw : own_W a0 Z) (ws : List Jvm.Cond) (m0 : ClassId) (o3 o0 o1 o2 o4 : Nat) (h0 : Heap) (n0 : Nat) (Z0 : n0 ≤ h0.size) (O0 : Old Z n0 h0) (I1 : Fld Z h0 o3 cN20 "i" cN22 (.ref o0)) (I2 : Fld Z h0 o0 cN17 "this$0" cN18 (.ref o1)) (I3 : Fld Z h0 o1 cN9 "modCount" "I" (.int 1)) (I4 : Fld Z h0 o0 cN17 cN19 "I" (.int 1)) (I0 : Exa Z h0 o0 cN17) (I5 : Fld Z h0 o0 cN17 "cursor" "I" (.int 0)) (I6 : Fld Z h0 o1 cN10 "size" "I" (.int 1)) (I7 : Fld Z h0 o1 cN10 "elementData" cN3 (.ref o2)) (I8 : Arv Z h0 o2 m0 (.object cN1) 10 [(.ref o4), .null, .null, .null, .null, .null, .null, .null, .null, .null] .null) (I9 : n0 ≤ o0) (I00 : Fld Z h0 o0 cN17 "lastRet" "I" (.int (-1))) (I01 : @Ne Nat o2 o0) :
 own_Met l Z h0 mN68 B0J 1 (Option.some (FieldType.object cN1)) ws (own_R 2 0 0 26) #[(.ref o3)] (fun v h L => (v = some (.ref o4) ∧ Fr n0 L ∧ Keep h0 h [o0] ∧ Fld Z h o0 cN17 "cursor" "I" (.int 1) ∧ Fld Z h o0 cN17 "lastRet" "I" (.int 0) ∧ Exa Z h o0 cN17 ∧ Fld Z h o0 cN17 "this$0" cN18 (.ref o1) ∧ Fld Z h o0 cN17 cN19 "I" (.int 1))) 0 0 := own_go own_pn57 fun p e s m below meth c s₁ hns hrt hnm hml hZ hx hby hown X0 e0 => by
 have N0 := Fr.nil n0
 refine own_cast (own_ef6 m o3) ?_
 refine oAN X0 hx hby dd55_0 rfl rfl ?_
 refine own_gF X0 hx hZ hown (hw 266) e0 I1 (hb hby dd55_1) fun T0 X1 e1 => ?_
 refine own_cI X1 hx hZ hown e1 (y := mN69) (z := mN67) (b := o0) (hw 292) (hw 285) (hw 286) rfl (hw 293) (hw 294) (hw 295) (hw 296) (hw 279) (hw 253) (hw 297) (by decide) I0 (W := 0) (own_rm69 l Z a0 hw [] m0 o0 o1 o2 o4 h0 n0 Z0 O0 I2 I3 I4 I0 I5 I6 I7 I8 I9 I00 I01) [] [] hml (lenOf own_pd25 rfl) (hb hby dd55_4) fun T1 h1 v0 L0 X2 e2 q0 => ?_
 obtain ⟨rfl, N1, K0, F0, F1, F2, F3, F4⟩ := q0
 have N2 := Fr.app N0 N1
 have z0 := K0.1
 have K1 : Keep h0 h1 [o0] := ((Keep.refl h0 [o0]).trans K0 (allS (Or.inl (by simp)) all0))
 exact own_retA X2 hx hns hrt rfl rfl (hb hby dd55_9) e2 (by decide) (by decide) (⟨rfl, N2, K1, F0, F1, F2, F3, F4⟩)
theorem dd6_78 : decode B6 78 = .ok (.invokeinterface 46 1, 5) := by decide +kernel
theorem dd6_83 : decode B6 83 = .ok (.checkcast 50, 3) := by decide +kernel
theorem dd6_86 : decode B6 86 = .ok (.astore 8, 2) := by decide +kernel
theorem dd6_88 : decode B6 88 = .ok (.bipush 31, 2) := by decide +kernel
theorem dd6_90 : decode B6 90 = .ok (.iload 6, 2) := by decide +kernel
theorem dd6_92 : decode B6 92 = .ok (.imul, 1) := by decide +kernel
theorem dd6_93 : decode B6 93 = .ok (.aload 8, 2) := by decide +kernel
theorem own_rm71 (l : Launch) (Z : State) (a0 : Array Value) (hw : own_W a0 Z) (ws : List Jvm.Cond) (i0 i1 i2 : Int32) (o0 : Nat) (h0 : Heap) (n0 : Nat) (Z0 : n0 ≤ h0.size) (O0 : Old Z n0 h0) (I0 : Fld Z h0 o0 cN7 "hash" "I" (.int (((31 : Int32) * (((31 : Int32) * ((31 : Int32) + ((i0.toInt8.toInt32) &&& 255))) + i1)) + i2))) :
 own_Met l Z h0 mN60 B0D 1 (Option.some FieldType.int) ws (own_R 0 0 0 0) #[(.ref o0)] (fun v h L => (v = some (.int (((31 : Int32) * (((31 : Int32) * ((31 : Int32) + ((i0.toInt8.toInt32) &&& 255))) + i1)) + i2)) ∧ Fr n0 L ∧ h = h0)) 0 0 := own_go own_pn49 fun p e s m below meth c s₁ hns hrt hnm hml hZ hx hby hown X0 e0 => by
 have N0 := Fr.nil n0
 refine own_cast (own_ef6 m o0) ?_
 refine oAN X0 hx hby dd49_0 rfl rfl ?_
 refine own_gF X0 hx hZ hown (hw 119) e0 I0 (hb hby dd49_1) fun T0 X1 e1 => ?_
 exact own_retI X1 hx hns hrt (hb hby dd49_4) e1 (by decide) (by decide) (⟨rfl, N0, rfl⟩)
theorem dd6_95 : decode B6 95 = .ok (.invokeinterface 52 1, 5) := by decide +kernel
theorem dd6_100 : decode B6 100 = .ok (.iadd, 1) := by decide +kernel
theorem dd6_101 : decode B6 101 = .ok (.istore 6, 2) := by decide +kernel
theorem dd6_103 : decode B6 103 = .ok (.goto (-37), 3) := by decide +kernel
theorem own_rm73 (l : Launch) (Z : State) (a0 : Array Value) (hw : own_W a0 Z) (ws : List Jvm.Cond) (o0 o1 : Nat) (h0 : Heap) (n0 : Nat) (Z0 : n0 ≤ h0.size) (O0 : Old Z n0 h0) (I0 : Fld Z h0 o0 cN17 "cursor" "I" (.int 1)) (I1 : Fld Z h0 o0 cN17 "this$0" cN18 (.ref o1)) (I2 : Fld Z h0 o1 cN10 "size" "I" (.int 1)) :
 own_Met l Z h0 mN32 B0i 1 (Option.some FieldType.boolean) ws (own_R 0 0 0 0) #[(.ref o0)] (fun v h L => (v = some (.int 0) ∧ Fr n0 L ∧ h = h0)) 0 0 := own_go own_pn26 fun p e s m below meth c s₁ hns hrt hnm hml hZ hx hby hown X1 e0 => by
 have N0 := Fr.nil n0
 refine own_cast (own_ef6 m o0) ?_
 refine oAN X1 hx hby dd28_0 rfl rfl ?_
 refine own_gF X1 hx hZ hown (hw 281) e0 I0 (hb hby dd28_1) fun T0 X2 e1 => ?_
 refine oAN X2 hx hby dd28_4 rfl rfl ?_
 refine own_gF X2 hx hZ hown (hw 258) e1 I1 (hb hby dd28_5) fun T1 X3 e2 => ?_
 obtain ⟨T2, X0, e3, s0⟩ := getF X3 hx hZ hown (host := cN10) (Or.inr (hw 283)) Via.refl e2 I2 (g := (mkF m 8 #[rv o0] [(.ref o1), (.int 1)])) rfl rfl (hb hby dd28_8)
 refine oS s0 ?_
 refine oYI X0 hx hby (pc' := 18) dd28_11 (XT.ii_eq_t (by decide)) ?_
 refine oIC X0 hx hby dd28_18 ?_
 exact own_retN X0 hx (t := .boolean) hns hrt (by simp) (hb hby dd28_19) (by decide) e3 (by decide) (by decide) (⟨rfl, N0, rfl⟩)
theorem own_rm72 (l : Launch) (Z : State) (a0 : Array Value) (hw : own_W a0 Z) (ws : List Jvm.Cond) (o1 o0 o2 : Nat) (h0 : Heap) (n0 : Nat) (Z0 : n0 ≤ h0.size) (O0 : Old Z n0 h0) (I0 : Fld Z h0 o1 cN20 "i" cN22 (.ref o0)) (I1 : Fld Z h0 o0 cN17 "cursor" "I" (.int 1)) (I2 : Fld Z h0 o0 cN17 "this$0" cN18 (.ref o2)) (I3 : Fld Z h0 o2 cN10 "size" "I" (.int 1)) (I4 : Exa Z h0 o0 cN17) :
 own_Met l Z h0 mN33 B0h 1 (Option.some FieldType.boolean) ws (own_R 1 0 0 12) #[(.ref o1)] (fun v h L => (v = some (.int 0) ∧ Fr n0 L ∧ h = h0)) 0 0 := own_go own_pn27 fun p e s m below meth c s₁ hns hrt hnm hml hZ hx hby hown X0 e0 => by
 have N0 := Fr.nil n0
 refine own_cast (own_ef6 m o1) ?_
 refine oAN X0 hx hby dd27_0 rfl rfl ?_
 refine own_gF X0 hx hZ hown (hw 266) e0 I0 (hb hby dd27_1) fun T0 X1 e1 => ?_
 refine own_cI X1 hx hZ hown e1 (y := mN17) (z := mN32) (b := o0) (hw 274) (hw 111) (hw 112) rfl (hw 275) (hw 276) (hw 277) (hw 278) (hw 279) (hw 253) (hw 280) (by decide) I4 (W := 0) (own_rm73 l Z a0 hw [] o0 o2 h0 n0 Z0 O0 I1 I2 I3) [] [] hml (lenOf own_pd5 rfl) (hb hby dd27_4) fun T1 h1 v0 L0 X2 e2 q0 => ?_
 obtain ⟨rfl, N1, K0⟩ := q0
 have N2 := Fr.app N0 N1
 have e3 := e2.trans K0
 exact own_retN X2 hx (t := .boolean) hns hrt (by simp) (hb hby dd27_9) (by decide) e3 (by decide) (by decide) (⟨rfl, N2, rfl⟩)
theorem own_rm61 (l : Launch) (Z : State) (a0 : Array Value) (hw : own_W a0 Z) (ws : List Jvm.Cond) (i0 i1 i2 i3 i4 i5 : Int32) (m0 : ClassId) (o0 o1 o2 o6 o3 : Nat) (h0 : Heap) (n0 : Nat) (Z6 : n0 ≤ h0.size) (O3 : Old Z n0 h0) (I5 : Fld Z h0 o0 cN7 "type" "S" (.int 0)) (I6 : Exa Z h0 o0 cN7) (I7 : nar .short i0 = i0) (I1 : n0 ≤ o0) (I8 : Fld Z h0 o0 cN7 "name" cN8 .null) (I9 : Fld Z h0 o0 cN7 "minOccurs" "I" (.int 0)) (I00 : Fld Z h0 o0 cN7 "maxOccurs" "I" (.int 0)) (I01 : Fld Z h0 o0 cN7 "particles" cN5 .null) (I02 : Fld Z h0 o1 cN12 "c" cN13 (.ref o2)) (I2 : @Ne Nat o1 o0) (I0c : @LT.lt Nat instLTNat o1 h0.size) (I03 : Fld Z h0 o2 cN9 "modCount" "I" (.int 1)) (I0 : @Ne Nat o2 o0) (I0d : @LT.lt Nat instLTNat o2 h0.size) (I04 : Exa Z h0 o2 cN10) (I05 : Exa Z h0 o1 cN14) (I06 : Fld Z h0 o2 cN10 "size" "I" (.int 1)) (I07 : Fld Z h0 o2 cN10 "elementData" cN3 (.ref o6)) (I08 : Arv Z h0 o6 m0 (.object cN1) 10 [(.ref o3), .null, .null, .null, .null, .null, .null, .null, .null, .null] .null) (I3 : @Ne Nat o6 o0) (I0e : @LT.lt Nat instLTNat o6 h0.size) (I09 : Exa Z h0 o3 cN7) (I0a : Fld Z h0 o3 cN7 "hash" "I" (.int (((31 : Int32) * (((31 : Int32) * ((31 : Int32) + ((i3.toInt8.toInt32) &&& 255))) + i4)) + i5))) (I4 : @Ne Nat o3 o0) (I0f : @LT.lt Nat instLTNat o3 h0.size) (I0b : Fld Z h0 o0 cN7 "hash" "I" (.int 0)) (I0g : @LT.lt Nat instLTNat o0 h0.size) :
 own_Met l Z h0 mN15 B6 9 (Option.none : Option FieldType) ws (own_R 5 2 6 65) #[(.ref o0), (.int i0), .null, (.int i1), (.int i2), (.ref o1)] (fun v h L => (v = none ∧ Fr n0 L ∧ Keep h0 h [o0] ∧ Fld Z h o0 cN7 "type" "S" (.int i0) ∧ Fld Z h o0 cN7 "name" cN8 .null ∧ Exa Z h o0 cN7 ∧ Fld Z h o0 cN7 "minOccurs" "I" (.int i1) ∧ Fld Z h o0 cN7 "maxOccurs" "I" (.int i2) ∧ Fld Z h o0 cN7 "particles" cN5 (.ref o1) ∧ Fld Z h o0 cN7 "hash" "I" (.int (((31 : Int32) * (((31 : Int32) * (((31 : Int32) * (((31 : Int32) * i0) + 0)) + i1)) + i2)) + (((31 : Int32) * (((31 : Int32) * ((31 : Int32) + ((i3.toInt8.toInt32) &&& 255))) + i4)) + i5))))) 2 6 := own_go own_pn13 fun p e s m below meth c s₁ hns hrt hnm hml hZ hx hby hown X02 e0 => by
 have N2 := Fr.nil n0
 refine own_cast (own_ef10 m o0 i0 i1 i2 o1) ?_
 refine oAN X02 hx hby dd6_0 rfl rfl ?_
 obtain ⟨T5, X9, e1, s0⟩ := initO X02 hx hZ hown (hw 42) (hw 21) (hw 22) e0 (g := (mkF m 1 #[rv o0, iv i0, .val .null, iv i1, iv i2, rv o1, .unset, .unset, .unset] [(.ref o0)])) rfl (by rw [hml]; rfl) rfl (hb hby dd6_1) (by decide) (W := 0) (by show 2 * 0 + _ ≤ _; exact Nat.le_of_eq rfl) (by decide)
 refine oS s0 ?_
 refine oAN X9 hx hby dd6_4 rfl rfl ?_
 refine oIN X9 hx hby dd6_5 rfl ?_
 refine own_pF X9 hx hZ hown (hw 43) e1 I5 I6 (Or.inr ⟨(hw 44), rfl, hnm⟩) (hw 32) (ty := .short) (own_fnS I7) (own_fiS I7) (hb hby dd6_6) fun T6 h4 X4 e2 W0 => ?_
 have N3 := Fr.snoc X4 N2 I1
 have z0 := W0.size
 have F08 := Fld.same W0 I5
 refine oAN X4 hx hby dd6_9 rfl rfl ?_
 refine oAN X4 hx hby dd6_10 rfl rfl ?_
 have F3 := Fld.other W0 I8 (Or.inr (slot_ne (C := cN7) (Or.inr (hw 46)) (Or.inr (hw 44)) (by decide) (t := (.object cN0)) (t' := .short) (by decide) (by decide)))
 have F4 := Exa.wr W0 I6
 refine own_pF X4 hx hZ hown (hw 45) e2 F3 F4 (Or.inr ⟨(hw 46), rfl, hnm⟩) (hw 32) (ty := (.object cN0)) rfl rfl (hb hby dd6_11) fun T0 h5 X5 e3 W1 => ?_
 have N4 := Fr.snoc X5 N3 I1
 have z1 := W1.size
 have F09 := Fld.same W1 F3
 refine oAN X5 hx hby dd6_14 rfl rfl ?_
 refine oIN X5 hx hby dd6_15 rfl ?_
 show own_G p e below (T0.setTop (mkF m 16 #[rv o0, iv i0, .val .null, iv i1, iv i2, rv o1, .unset, .unset, .unset] [(.int i1), (.ref o0)])) _
 have F5 := Fld.other W1 (Fld.other W0 I9 (Or.inr (slot_ne (C := cN7) (Or.inr (hw 48)) (Or.inr (hw 44)) (by decide) (t := .int) (t' := .short) (by decide) (by decide)))) (Or.inr (slot_ne (C := cN7) (Or.inr (hw 48)) (Or.inr (hw 46)) (by decide) (t := .int) (t' := (.object cN0)) (by decide) (by decide)))
 have F6 := Exa.wr W1 F4
 refine own_pF X5 hx hZ hown (hw 47) e3 F5 F6 (Or.inr ⟨(hw 48), rfl, hnm⟩) (hw 32) (ty := .int) rfl rfl (hb hby dd6_16) fun T7 h6 X6 e4 W2 => ?_
 have N5 := Fr.snoc X6 N4 I1
 have z2 := W2.size
 have F0a := Fld.same W2 F5
 refine oAN X6 hx hby dd6_19 rfl rfl ?_
 refine oIL X6 hx hby dd6_20 rfl ?_
 have F7 := Fld.other W2 (Fld.other W1 (Fld.other W0 I00 (Or.inr (slot_ne (C := cN7) (Or.inr (hw 50)) (Or.inr (hw 44)) (by decide) (t := .int) (t' := .short) (by decide) (by decide)))) (Or.inr (slot_ne (C := cN7) (Or.inr (hw 50)) (Or.inr (hw 46)) (by decide) (t := .int) (t' := (.object cN0)) (by decide) (by decide)))) (Or.inr (slot_ne (C := cN7) (Or.inr (hw 50)) (Or.inr (hw 48)) (by decide) (t := .int) (t' := .int) (by decide) (by decide)))
 have F8 := Exa.wr W2 F6
 refine own_pF X6 hx hZ hown (hw 49) e4 F7 F8 (Or.inr ⟨(hw 50), rfl, hnm⟩) (hw 32) (ty := .int) rfl rfl (hb hby dd6_22) fun T8 h7 X7 e5 W3 => ?_
 have N6 := Fr.snoc X7 N5 I1
 have z3 := W3.size
 have F0b := Fld.same W3 F7
 refine oAN X7 hx hby dd6_25 rfl rfl ?_
 refine oAL X7 hx hby dd6_26 rfl rfl ?_
 have F9 := Fld.other W3 (Fld.other W2 (Fld.other W1 (Fld.other W0 I01 (Or.inr (slot_ne (C := cN7) (Or.inr (hw 52)) (Or.inr (hw 44)) (by decide) (t := (.object "java/util/List")) (t' := .short) (by decide) (by decide)))) (Or.inr (slot_ne (C := cN7) (Or.inr (hw 52)) (Or.inr (hw 46)) (by decide) (t := (.object "java/util/List")) (t' := (.object cN0)) (by decide) (by decide)))) (Or.inr (slot_ne (C := cN7) (Or.inr (hw 52)) (Or.inr (hw 48)) (by decide) (t := (.object "java/util/List")) (t' := .int) (by decide) (by decide)))) (Or.inr (slot_ne (C := cN7) (Or.inr (hw 52)) (Or.inr (hw 50)) (by decide) (t := (.object "java/util/List")) (t' := .int) (by decide) (by decide)))
 have F00 := Exa.wr W3 F8
 refine own_pF X7 hx hZ hown (hw 51) e5 F9 F00 (Or.inr ⟨(hw 52), rfl, hnm⟩) (hw 32) (ty := (.object "java/util/List")) rfl rfl (hb hby dd6_28) fun T1 h1 X1 e6 W4 => ?_
 have N7 := Fr.snoc X1 N6 I1
 have z4 := W4.size
 have F0c := Fld.same W4 F9
 refine oS (fun _ => XS.bipush X1.here hx rfl (hb hby dd6_31) ) ?_
 refine oIN X1 hx hby dd6_33 rfl ?_
 refine oS (fun _ => XS.imul X1.here hx rfl (hb hby dd6_34) rfl) ?_
 show own_G p e below (T1.setTop (mkF m 35 #[rv o0, iv i0, .val .null, iv i1, iv i2, rv o1, .unset, .unset, .unset] [(.int ((31 : Int32) * i0))])) _
 refine oAN X1 hx hby dd6_35 rfl rfl ?_
 have O4 : Old Z n0 h4 := O3.wr W0 I1
 have O5 : Old Z n0 h5 := O4.wr W1 I1
 have O6 : Old Z n0 h6 := O5.wr W2 I1
 have O7 : Old Z n0 h7 := O6.wr W3 I1
 have O0 : Old Z n0 h1 := O7.wr W4 I1
 have Z0 : n0 ≤ h1.size := by omega
 refine own_cS X1 hx hZ hown e6 (y := mN8) (hw 53) (hw 54) (hw 55) (hw 56) (by decide) (W := 1) (own_rm26 l Z a0 hw []  h1 n0 Z0 O0 ) [.null] [(.int ((31 : Int32) * i0))] hml (lenOf own_pd8 rfl) (hb hby dd6_36) fun T2 h9 v0 L0 X0 e7 q0 => ?_
 obtain ⟨rfl, N8, K2⟩ := q0
 have N9 := Fr.app N7 N8
 have e8 := e7.trans K2
 refine oS (fun _ => XS.iadd X0.here hx rfl (hb hby dd6_39) rfl) ?_
 refine oIS X0 hx hby dd6_40 (l' := #[rv o0, iv i0, .val .null, iv i1, iv i2, rv o1, iv (((31 : Int32) * i0) + 0), .unset, .unset]) rfl ?_
 refine oS (fun _ => XS.bipush X0.here hx rfl (hb hby dd6_42) ) ?_
 refine oS (fun _ => XS.bipush X0.here hx rfl (hb hby dd6_44) ) ?_
 refine oIL X0 hx hby dd6_46 rfl ?_
 refine oS (fun _ => XS.imul X0.here hx rfl (hb hby dd6_48) rfl) ?_
 refine oIN X0 hx hby dd6_49 rfl ?_
 refine oS (fun _ => XS.iadd X0.here hx rfl (hb hby dd6_50) rfl) ?_
 show own_G p e below (T2.setTop (mkF m 51 #[rv o0, iv i0, .val .null, iv i1, iv i2, rv o1, iv (((31 : Int32) * i0) + 0), .unset, .unset] [(.int (((31 : Int32) * (((31 : Int32) * i0) + 0)) + i1)), (.int 31)])) _
 refine oS (fun _ => XS.imul X0.here hx rfl (hb hby dd6_51) rfl) ?_
 refine oIL X0 hx hby dd6_52 rfl ?_
 refine oS (fun _ => XS.iadd X0.here hx rfl (hb hby dd6_54) rfl) ?_
 refine oIS X0 hx hby dd6_55 (l' := #[rv o0, iv i0, .val .null, iv i1, iv i2, rv o1, iv (((31 : Int32) * (((31 : Int32) * (((31 : Int32) * i0) + 0)) + i1)) + i2), .unset, .unset]) rfl ?_
 refine oAL X0 hx hby dd6_57 rfl rfl ?_
 have F0d := Fld.other W4 (Fld.other W3 (Fld.other W2 (Fld.other W1 (Fld.other W0 I02 (Or.inl I2)) (Or.inl I2)) (Or.inl I2)) (Or.inl I2)) (Or.inl I2)
 have y2 : @LT.lt Nat instLTNat o1 h1.size := by omega
 have F01 := Fld.other W4 (Fld.other W3 (Fld.other W2 (Fld.other W1 (Fld.other W0 I03 (Or.inl I0)) (Or.inl I0)) (Or.inl I0)) (Or.inl I0)) (Or.inl I0)
 have y0 : @LT.lt Nat instLTNat o1 h1.size := by omega
 have y1 : @LT.lt Nat instLTNat o2 h1.size := by omega
 have F0e := Exa.wr W4 (Exa.wr W3 (Exa.wr W2 (Exa.wr W1 (Exa.wr W0 I04))))
 have Z1 : n0 ≤ h1.size := by omega
 have F0f := Exa.wr W4 (Exa.wr W3 (Exa.wr W2 (Exa.wr W1 (Exa.wr W0 I05))))
 refine own_cI X0 hx hZ hown e8 (y := mN16) (z := mN31) (b := o1) (hw 75) (hw 76) (hw 77) rfl (hw 225) (hw 226) (hw 227) (hw 228) (hw 229) (hw 218) (hw 230) (by decide) F0f (W := 0) (own_rm62 l Z a0 hw [] o1 o2 h1 n0 Z1 O0 F0d y0 F01 y1 F0e) [] [] hml (lenOf own_pd10 rfl) (hb hby dd6_59) fun T9 h2 v1 L1 X00 e9 q1 => ?_
 obtain ⟨o4, o5, rfl, N00, K0, F0z, F0A, F0, F0B, F1, F02, F03, F0g, F0h, F04, F0C, F0D⟩ := q1
 have N01 := Fr.app N9 N00
 have z5 := K0.1
 refine oAS X00 hx hby dd6_64 rfl (l' := #[rv o0, iv i0, .val .null, iv i1, iv i2, rv o1, iv (((31 : Int32) * (((31 : Int32) * (((31 : Int32) * i0) + 0)) + i1)) + i2), rv o4, .unset]) rfl ?_
 refine oAL X00 hx hby dd6_66 rfl rfl ?_
 have F2 := (Fld.other W4 (Fld.other W3 (Fld.other W2 (Fld.other W1 (Fld.other W0 I06 (Or.inl I0)) (Or.inl I0)) (Or.inl I0)) (Or.inl I0)) (Or.inl I0)).keep K0 nin0
 have O1 : Old Z n0 h2 := O0.keep K0 all0
 have Z2 : n0 ≤ h2.size := by omega
 refine own_cI X00 hx hZ hown e9 (y := mN17) (z := mN33) (b := o4) (hw 110) (hw 111) (hw 112) rfl (hw 268) (hw 269) (hw 270) (hw 271) (hw 272) (hw 233) (hw 273) (by decide) F0 (W := 0) (own_rm66 l Z a0 hw [] o4 o5 o2 h2 n0 Z2 O1 F1 F04 F03 F2 F02) [] [] hml (lenOf own_pd5 rfl) (hb hby dd6_68) fun T3 h00 v2 L2 X01 e00 q2 => ?_
 obtain ⟨rfl, N02, K3⟩ := q2
 have N03 := Fr.app N01 N02
 have e01 := e00.trans K3
 refine oN0 X01 hx hby dd6_73 (XT.i0_eq_f (by decide)) ?_
 show own_G p e below (T3.setTop (mkF m 76 #[rv o0, iv i0, .val .null, iv i1, iv i2, rv o1, iv (((31 : Int32) * (((31 : Int32) * (((31 : Int32) * i0) + 0)) + i1)) + i2), rv o4, .unset] [])) _
 refine oAL X01 hx hby dd6_76 rfl rfl ?_
 have F0i := F01.keep K0 nin0
 have F0j := (Fld.other W4 (Fld.other W3 (Fld.other W2 (Fld.other W1 (Fld.other W0 I07 (Or.inl I0)) (Or.inl I0)) (Or.inl I0)) (Or.inl I0)) (Or.inl I0)).keep K0 nin0
 have F0k := (((((I08.other W0 I3).other W1 I3).other W2 I3).other W3 I3).other W4 I3).keep K0 nin0
 have N1 : n0 ≤ o5 := by omega
 have N04 : @Ne Nat o6 o5 := by omega
 have Z3 : n0 ≤ h2.size := by omega
 refine own_cI X01 hx hZ hown e01 (y := mN69) (z := mN68) (b := o4) (hw 284) (hw 285) (hw 286) rfl (hw 287) (hw 288) (hw 289) (hw 290) (hw 272) (hw 233) (hw 291) (by decide) F0 (W := 0) (own_rm68 l Z a0 hw [] m0 o4 o5 o2 o6 o3 h2 n0 Z3 O1 F1 F03 F0i F0h F02 F04 F2 F0j F0k N1 F0g N04) [] [] hml (lenOf own_pd25 rfl) (hb hby dd6_78) fun T00 h3 v3 L3 X04 e02 q3 => ?_
 obtain ⟨rfl, N05, K1, F0l, F0E, F0m, F0n, F0F⟩ := q3
 have N06 := Fr.app N03 N05
 have z6 := K1.1
 have F05 := ((Exa.wr W4 (Exa.wr W3 (Exa.wr W2 (Exa.wr W1 (Exa.wr W0 I09))))).keep K0).keep K1
 refine own_cY X04 hx hZ hown (hw 304) e02 (Ins.of_exa F05 (hw 305)) (hb hby dd6_83) fun T01 X2 e03 => ?_
 refine oAS X2 hx hby dd6_86 rfl (l' := #[rv o0, iv i0, .val .null, iv i1, iv i2, rv o1, iv (((31 : Int32) * (((31 : Int32) * (((31 : Int32) * i0) + 0)) + i1)) + i2), rv o4, rv o3]) rfl ?_
 refine oS (fun _ => XS.bipush X2.here hx rfl (hb hby dd6_88) ) ?_
 refine oIL X2 hx hby dd6_90 rfl ?_
 refine oS (fun _ => XS.imul X2.here hx rfl (hb hby dd6_92) rfl) ?_
 refine oAL X2 hx hby dd6_93 rfl rfl ?_
 have N07 : @Ne Nat o3 o5 := by omega
 have F0o := ((Fld.other W4 (Fld.other W3 (Fld.other W2 (Fld.other W1 (Fld.other W0 I0a (Or.inl I4)) (Or.inl I4)) (Or.inl I4)) (Or.inl I4)) (Or.inl I4)).keep K0 nin0).keep K1 (ninS N07 nin0)
 have O2 : Old Z n0 h3 := O1.keep K1 (allS N1 all0)
 have Z4 : n0 ≤ h3.size := by omega
 refine own_cIU X2 hx hZ hown e03 (y := mN70) (z := mN60) (J := cN1) (b := o3) (hw 306) (hw 58) (hw 307) (by decide) (by decide) (hw 308) (hw 309) (hw 310) (hw 311) (hw 305) (hw 29) (hw 312) (by decide) F05 (W := 1) (own_rm71 l Z a0 hw [] i3 i4 i5 o3 h3 n0 Z4 O2 F0o) [] [(.int ((31 : Int32) * (((31 : Int32) * (((31 : Int32) * (((31 : Int32) * i0) + 0)) + i1)) + i2)))] hml (lenOf own_pd7 rfl) (hb hby dd6_95) fun T4 h01 v4 L4 X3 e04 q4 => ?_
 obtain ⟨rfl, N08, K4⟩ := q4
 have N09 := Fr.app N06 N08
 have e05 := e04.trans K4
 refine oS (fun _ => XS.iadd X3.here hx rfl (hb hby dd6_100) rfl) ?_
 show own_G p e below (T4.setTop (mkF m 101 #[rv o0, iv i0, .val .null, iv i1, iv i2, rv o1, iv (((31 : Int32) * (((31 : Int32) * (((31 : Int32) * i0) + 0)) + i1)) + i2), rv o4, rv o3] [(.int (((31 : Int32) * (((31 : Int32) * (((31 : Int32) * (((31 : Int32) * i0) + 0)) + i1)) + i2)) + (((31 : Int32) * (((31 : Int32) * ((31 : Int32) + ((i3.toInt8.toInt32) &&& 255))) + i4)) + i5)))])) _
 refine oIS X3 hx hby dd6_101 (l' := #[rv o0, iv i0, .val .null, iv i1, iv i2, rv o1, iv (((31 : Int32) * (((31 : Int32) * (((31 : Int32) * (((31 : Int32) * i0) + 0)) + i1)) + i2)) + (((31 : Int32) * (((31 : Int32) * ((31 : Int32) + ((i3.toInt8.toInt32) &&& 255))) + i4)) + i5)), rv o4, rv o3]) rfl ?_
 refine oGO X3 hx hby (pc' := 66) dd6_103 ?_
 refine oAL X3 hx hby dd6_66 rfl rfl ?_
 have N0a : @Ne Nat o4 o5 := by omega
 have F0p := F1.keep K1 (ninS N0a nin0)
 have N0b : @Ne Nat o2 o5 := by omega
 have F0q := F2.keep K1 (ninS N0b nin0)
 have Z5 : n0 ≤ h3.size := by omega
 have F0r := F0.keep K1
 refine own_cI X3 hx hZ hown e05 (y := mN17) (z := mN33) (b := o4) (hw 110) (hw 111) (hw 112) rfl (hw 268) (hw 269) (hw 270) (hw 271) (hw 272) (hw 233) (hw 273) (by decide) F0r (W := 0) (own_rm72 l Z a0 hw [] o4 o5 o2 h3 n0 Z5 O2 F0p F0l F0n F0q F0m) [] [] hml (lenOf own_pd5 rfl) (hb hby dd6_68) fun T02 h02 v5 L5 X8 e06 q5 => ?_
 obtain ⟨rfl, N0c, K5⟩ := q5
 have N0d := Fr.app N09 N0c
 have e07 := e06.trans K5
 refine oY0 X8 hx hby (pc' := 106) dd6_73 (XT.i0_eq_t (by decide)) ?_
 refine oAN X8 hx hby dd6_106 rfl rfl ?_
 refine oIL X8 hx hby dd6_107 rfl ?_
 have N0 : @Ne Nat o0 o5 := by omega
 have F06 := ((Fld.other W4 (Fld.other W3 (Fld.other W2 (Fld.other W1 (Fld.other W0 I0b (Or.inr (slot_ne (C := cN7) (Or.inr (hw 120)) (Or.inr (hw 44)) (by decide) (t := .int) (t' := .short) (by decide) (by decide)))) (Or.inr (slot_ne (C := cN7) (Or.inr (hw 120)) (Or.inr (hw 46)) (by decide) (t := .int) (t' := (.object cN0)) (by decide) (by decide)))) (Or.inr (slot_ne (C := cN7) (Or.inr (hw 120)) (Or.inr (hw 48)) (by decide) (t := .int) (t' := .int) (by decide) (by decide)))) (Or.inr (slot_ne (C := cN7) (Or.inr (hw 120)) (Or.inr (hw 50)) (by decide) (t := .int) (t' := .int) (by decide) (by decide)))) (Or.inr (slot_ne (C := cN7) (Or.inr (hw 120)) (Or.inr (hw 52)) (by decide) (t := .int) (t' := (.object "java/util/List")) (by decide) (by decide)))).keep K0 nin0).keep K1 (ninS N0 nin0)
 have F07 := ((Exa.wr W4 F00).keep K0).keep K1
 refine own_pF X8 hx hZ hown (hw 119) e07 F06 F07 (Or.inr ⟨(hw 120), rfl, hnm⟩) (hw 32) (ty := .int) rfl rfl (hb hby dd6_109) fun T03 h8 X03 e08 W5 => ?_
 have N0e := Fr.snoc X03 N0d I1
 have z7 := W5.size
 have F0s := Fld.same W5 F06
 have F0t := Fld.other W5 (((Fld.other W4 (Fld.other W3 (Fld.other W2 (Fld.other W1 F08 (Or.inr (slot_ne (C := cN7) (Or.inr (hw 44)) (Or.inr (hw 46)) (by decide) (t := .short) (t' := (.object cN0)) (by decide) (by decide)))) (Or.inr (slot_ne (C := cN7) (Or.inr (hw 44)) (Or.inr (hw 48)) (by decide) (t := .short) (t' := .int) (by decide) (by decide)))) (Or.inr (slot_ne (C := cN7) (Or.inr (hw 44)) (Or.inr (hw 50)) (by decide) (t := .short) (t' := .int) (by decide) (by decide)))) (Or.inr (slot_ne (C := cN7) (Or.inr (hw 44)) (Or.inr (hw 52)) (by decide) (t := .short) (t' := (.object "java/util/List")) (by decide) (by decide)))).keep K0 nin0).keep K1 (ninS N0 nin0)) (Or.inr (slot_ne (C := cN7) (Or.inr (hw 44)) (Or.inr (hw 120)) (by decide) (t := .short) (t' := .int) (by decide) (by decide)))
 have F0u := Fld.other W5 (((Fld.other W4 (Fld.other W3 (Fld.other W2 F09 (Or.inr (slot_ne (C := cN7) (Or.inr (hw 46)) (Or.inr (hw 48)) (by decide) (t := (.object cN0)) (t' := .int) (by decide) (by decide)))) (Or.inr (slot_ne (C := cN7) (Or.inr (hw 46)) (Or.inr (hw 50)) (by decide) (t := (.object cN0)) (t' := .int) (by decide) (by decide)))) (Or.inr (slot_ne (C := cN7) (Or.inr (hw 46)) (Or.inr (hw 52)) (by decide) (t := (.object cN0)) (t' := (.object "java/util/List")) (by decide) (by decide)))).keep K0 nin0).keep K1 (ninS N0 nin0)) (Or.inr (slot_ne (C := cN7) (Or.inr (hw 46)) (Or.inr (hw 120)) (by decide) (t := (.object cN0)) (t' := .int) (by decide) (by decide)))
 have F0v := Exa.wr W5 F07
 have F0w := Fld.other W5 (((Fld.other W4 (Fld.other W3 F0a (Or.inr (slot_ne (C := cN7) (Or.inr (hw 48)) (Or.inr (hw 50)) (by decide) (t := .int) (t' := .int) (by decide) (by decide)))) (Or.inr (slot_ne (C := cN7) (Or.inr (hw 48)) (Or.inr (hw 52)) (by decide) (t := .int) (t' := (.object "java/util/List")) (by decide) (by decide)))).keep K0 nin0).keep K1 (ninS N0 nin0)) (Or.inr (slot_ne (C := cN7) (Or.inr (hw 48)) (Or.inr (hw 120)) (by decide) (t := .int) (t' := .int) (by decide) (by decide)))
 have F0x := Fld.other W5 (((Fld.other W4 F0b (Or.inr (slot_ne (C := cN7) (Or.inr (hw 50)) (Or.inr (hw 52)) (by decide) (t := .int) (t' := (.object "java/util/List")) (by decide) (by decide)))).keep K0 nin0).keep K1 (ninS N0 nin0)) (Or.inr (slot_ne (C := cN7) (Or.inr (hw 50)) (Or.inr (hw 120)) (by decide) (t := .int) (t' := .int) (by decide) (by decide)))
 have F0y := Fld.other W5 ((F0c.keep K0 nin0).keep K1 (ninS N0 nin0)) (Or.inr (slot_ne (C := cN7) (Or.inr (hw 52)) (Or.inr (hw 120)) (by decide) (t := (.object "java/util/List")) (t' := .int) (by decide) (by decide)))
 have K6 : Keep h0 h8 [o0] := (((((((((Keep.refl h0 [o0]).wr W0 (Or.inl (by simp))).wr W1 (Or.inl (by simp))).wr W2 (Or.inl (by simp))).wr W3 (Or.inl (by simp))).wr W4 (Or.inl (by simp))).trans K0 all0).trans K1 (allS (Or.inr (by omega)) all0)).wr W5 (Or.inl (by simp)))
 exact own_retV X03 hx hns hrt (hb hby dd6_112) e08 (by decide) (by decide) (⟨rfl, N0e, K6, F0t, F0u, F0v, F0w, F0x, F0y, F0s⟩)
theorem own_rm60 (l : Launch) (Z : State) (a0 : Array Value) (hw : own_W a0 Z) (ws : List Jvm.Cond) (i0 i1 i2 i3 i4 i5 : Int32) (m0 : ClassId) (o1 o5 o6 o7 o4 o3 : Nat) (h0 : Heap) (n0 : Nat) (Z2 : n0 ≤ h0.size) (O1 : Old Z n0 h0) (I0 : Exa Z h0 o1 cN10) (I1 : Mir Z cN10 o5) (I2 : Mir Z cN15 o6) (I3 : Mir Z cN14 o7) (I4 : nar .short i0 = i0) (I5 : Fld Z h0 o1 cN9 "modCount" "I" (.int 1)) (I01 : @LT.lt Nat instLTNat o1 h0.size) (I6 : Fld Z h0 o1 cN10 "size" "I" (.int 1)) (I7 : Fld Z h0 o1 cN10 "elementData" cN3 (.ref o4)) (I8 : Arv Z h0 o4 m0 (.object cN1) 10 [(.ref o3), .null, .null, .null, .null, .null, .null, .null, .null, .null] .null) (I02 : @LT.lt Nat instLTNat o4 h0.size) (I9 : Exa Z h0 o3 cN7) (I00 : Fld Z h0 o3 cN7 "hash" "I" (.int (((31 : Int32) * (((31 : Int32) * ((31 : Int32) + ((i3.toInt8.toInt32) &&& 255))) + i4)) + i5))) (I03 : @LT.lt Nat instLTNat o3 h0.size) :
 own_Met l Z h0 mN34 B08 4 (Option.some (FieldType.object cN7)) ws (own_R 6 4 14 86) #[(.int i0), (.ref o1), (.int i1), (.int i2)] (fun v h L => (∃ o0 : Nat, ∃ o2 : Nat, v = some (.ref o0) ∧ Fr n0 L ∧ Keep h0 h [] ∧ h0.size ≤ o0 ∧ o0 < o2 ∧ Exa Z h o0 cN7 ∧ Fld Z h o0 cN7 "type" "S" (.int i0) ∧ Fld Z h o0 cN7 "name" cN8 .null ∧ Fld Z h o0 cN7 "minOccurs" "I" (.int i1) ∧ Fld Z h o0 cN7 "maxOccurs" "I" (.int i2) ∧ Fld Z h o0 cN7 "particles" cN5 (.ref o2) ∧ Fld Z h o0 cN7 "hash" "I" (.int (((31 : Int32) * (((31 : Int32) * (((31 : Int32) * (((31 : Int32) * i0) + 0)) + i1)) + i2)) + (((31 : Int32) * (((31 : Int32) * ((31 : Int32) + ((i3.toInt8.toInt32) &&& 255))) + i4)) + i5))) ∧ Exa Z h o2 cN14 ∧ Fld Z h o2 cN12 "c" cN13 (.ref o1) ∧ Fld Z h o2 cN15 "list" cN5 (.ref o1) ∧ @LT.lt Nat instLTNat o0 h.size ∧ @LT.lt Nat instLTNat o2 h.size)) 4 14 := own_go own_pn28 fun p e s m below meth c s₁ hns hrt hnm hml hZ hx hby hown X1 e0 => by
 have N1 := Fr.nil n0
 refine own_cast (own_ef8 m i0 o1 i1 i2) ?_
 obtain ⟨T0, h1, X0, e1, E0, A0, D0, U0, s0⟩ := newO X1 hx hZ hown (hw 31) (hw 32) (hw 29) e0 (g := (mkF m 0 #[iv i0, rv o1, iv i1, iv i2] [])) rfl (hb hby dd18_0) (by decide) (by decide)
 obtain ⟨o0, g0⟩ : ∃ z, z = h0.size := ⟨_, rfl⟩
 rw [← g0] at A0 D0 U0 s0
 have z0 := E0.1
 have y6 : @LT.lt Nat instLTNat o0 h1.size := A0.lt
 refine oS s0 ?_
 have F3 : Fld Z h1 o0 cN7 "type" "S" (.int 0) := D0 (Or.inr (hw 44)) (ty := .short) (by decide)
 have F4 : Fld Z h1 o0 cN7 "name" cN8 .null := D0 (Or.inr (hw 46)) (ty := (.object cN0)) (by decide)
 have F5 : Fld Z h1 o0 cN7 "minOccurs" "I" (.int 0) := D0 (Or.inr (hw 48)) (ty := .int) (by decide)
 have F6 : Fld Z h1 o0 cN7 "maxOccurs" "I" (.int 0) := D0 (Or.inr (hw 50)) (ty := .int) (by decide)
 have F7 : Fld Z h1 o0 cN7 "particles" cN5 .null := D0 (Or.inr (hw 52)) (ty := (.object "java/util/List")) (by decide)
 have F8 : Fld Z h1 o0 cN7 "hash" "I" (.int 0) := D0 (Or.inr (hw 120)) (ty := .int) (by decide)
 refine oS (fun _ => XS.dup X0.here hx rfl (hb hby dd18_3) rfl rfl) ?_
 refine oIN X0 hx hby dd18_4 rfl ?_
 refine oS (fun _ => XS.aconstNull X0.here hx rfl (hb hby dd18_5) ) ?_
 refine oIN X0 hx hby dd18_6 rfl ?_
 refine oIN X0 hx hby dd18_7 rfl ?_
 refine oAN X0 hx hby dd18_8 rfl rfl ?_
 have F0 := Exa.ext E0 I0
 have O0 : Old Z n0 h1 := O1.ext E0
 have Z0 : n0 ≤ h1.size := by omega
 refine own_cS X0 hx hZ hown e1 (y := mN25) (hw 183) (hw 184) (hw 185) (hw 186) (by decide) (W := 6) (own_rm21 l Z a0 hw [] o1 o5 o6 o7 h1 n0 Z0 O0 F0 I1 I2 I3) [(.ref o1)] [(.int i2), (.int i1), .null, (.int i0), (.ref o0), (.ref o0)] hml (lenOf own_pd16 rfl) (hb hby dd18_9) fun T1 h2 v0 L0 X2 e2 q0 => ?_
 obtain ⟨o2, rfl, N2, K0, F0p, F1, F2, F9, F00⟩ := q0
 have N3 := Fr.app N1 N2
 have z1 := K0.1
 have F01 := F3.keep K0 nin0
 have F02 := A0.keep K0
 have N4 : n0 ≤ o0 := by omega
 have F03 := F4.keep K0 nin0
 have F04 := F5.keep K0 nin0
 have F05 := F6.keep K0 nin0
 have F06 := F7.keep K0 nin0
 have N0 : @Ne Nat o2 o0 := by omega
 have F07 := (Fld.ext E0 I5).keep K0 nin0
 have N5 : @Ne Nat o1 o0 := by omega
 have y0 : @LT.lt Nat instLTNat o1 h2.size := by omega
 have F08 := F0.keep K0
 have F09 := (Fld.ext E0 I6).keep K0 nin0
 have F0a := (Fld.ext E0 I7).keep K0 nin0
 have F0b := (I8.ext E0).keep K0 nin0
 have N6 : @Ne Nat o4 o0 := by omega
 have y1 : @LT.lt Nat instLTNat o4 h2.size := by omega
 have F0c := (Exa.ext E0 I9).keep K0
 have F0d := (Fld.ext E0 I00).keep K0 nin0
 have N7 : @Ne Nat o3 o0 := by omega
 have y2 : @LT.lt Nat instLTNat o3 h2.size := by omega
 have F0e := F8.keep K0 nin0
 have y3 : @LT.lt Nat instLTNat o0 h2.size := by omega
 have O2 : Old Z n0 h2 := O0.keep K0 all0
 have Z1 : n0 ≤ h2.size := by omega
 refine own_cN X2 hx hZ hown e2 (y := mN15) (b := o0) rfl (hw 39) (hw 40) (hw 29) (hw 41) (by decide) (W := 1) (own_rm61 l Z a0 hw [] i0 i1 i2 i3 i4 i5 m0 o0 o2 o1 o4 o3 h2 n0 Z1 O2 F01 F02 I4 N4 F03 F04 F05 F06 F2 N0 F00 F07 N5 y0 F08 F1 F09 F0a F0b N6 y1 F0c F0d N7 y2 F0e y3) [(.int i0), .null, (.int i1), (.int i2), (.ref o2)] [(.ref o0)] hml (lenOf own_pd11 rfl) (hb hby dd18_12) fun T2 h3 v1 L1 X3 e3 q1 => ?_
 obtain ⟨rfl, N8, K1, F0f, F0g, F0h, F0i, F0j, F0k, F0l⟩ := q1
 have N9 := Fr.app N3 N8
 have z2 := K1.1
 have F0m := F1.keep K1
 have F0n := F2.keep K1 (ninS N0 nin0)
 have F0o := F9.keep K1 (ninS N0 nin0)
 have y4 : @LT.lt Nat instLTNat o0 h3.size := by omega
 have y5 : @LT.lt Nat instLTNat o2 h3.size := by omega
 have K2 : Keep h0 h3 [] := ((((Keep.refl h0 []).ext E0).trans K0 all0).trans K1 (allS (Or.inr (by omega)) all0))
 exact own_retA X3 hx hns hrt rfl rfl (hb hby dd18_15) e3 (by decide) (by decide) (⟨o0, o2, rfl, N9, K2, (by omega), (by omega), F0h, F0f, F0g, F0i, F0j, F0k, F0l, F0m, F0n, F0o, y4, y5⟩)
theorem own_rm77 (l : Launch) (Z : State) (a0 : Array Value) (hw : own_W a0 Z) (ws : List Jvm.Cond) (o0 : Nat) (h0 : Heap) (n0 : Nat) (Z0 : n0 ≤ h0.size) (O0 : Old Z n0 h0) (I0 : Fld Z h0 o0 cN10 "size" "I" (.int 1)) :
 own_Met l Z h0 mN40 B0p 1 (Option.some FieldType.int) ws (own_R 0 0 0 0) #[(.ref o0)] (fun v h L => (v = some (.int 1) ∧ Fr n0 L ∧ h = h0)) 0 0 := own_go own_pn34 fun p e s m below meth c s₁ hns hrt hnm hml hZ hx hby hown X0 e0 => by
 have N0 := Fr.nil n0
 refine own_cast (own_ef6 m o0) ?_
 refine oAN X0 hx hby dd35_0 rfl rfl ?_
 refine own_gF X0 hx hZ hown (hw 156) e0 I0 (hb hby dd35_1) fun T0 X1 e1 => ?_
 exact own_retI X1 hx hns hrt (hb hby dd35_4) e1 (by decide) (by decide) (⟨rfl, N0, rfl⟩)
theorem own_rm76 (l : Launch) (Z : State) (a0 : Array Value) (hw : own_W a0 Z) (ws : List Jvm.Cond) (o1 o0 : Nat) (h0 : Heap) (n0 : Nat) (Z0 : n0 ≤ h0.size) (O0 : Old Z n0 h0) (I0 : Fld Z h0 o1 cN12 "c" cN13 (.ref o0)) (I1 : Fld Z h0 o0 cN10 "size" "I" (.int 1)) (I2 : Exa Z h0 o0 cN10) :
 own_Met l Z h0 mN41 B0o 1 (Option.some FieldType.int) ws (own_R 1 0 0 12) #[(.ref o1)] (fun v h L => (v = some (.int 1) ∧ Fr n0 L ∧ h = h0)) 0 0 := own_go own_pn35 fun p e s m below meth c s₁ hns hrt hnm hml hZ hx hby hown X0 e0 => by
 have N0 := Fr.nil n0
 refine own_cast (own_ef6 m o1) ?_
 refine oAN X0 hx hby dd34_0 rfl rfl ?_
 refine own_gF X0 hx hZ hown (hw 221) e0 I0 (hb hby dd34_1) fun T0 X1 e1 => ?_
 refine own_cI X1 hx hZ hown e1 (y := mN42) (z := mN40) (b := o0) (hw 346) (hw 347) (hw 348) rfl (hw 349) (hw 350) (hw 351) (hw 352) (hw 249) (hw 123) (hw 353) (by decide) I2 (W := 0) (own_rm77 l Z a0 hw [] o0 h0 n0 Z0 O0 I1) [] [] hml (lenOf own_pd7 rfl) (hb hby dd34_4) fun T1 h1 v0 L0 X2 e2 q0 => ?_
 obtain ⟨rfl, N1, K0⟩ := q0
 have N2 := Fr.app N0 N1
 have e3 := e2.trans K0
 exact own_retI X2 hx hns hrt (hb hby dd34_9) e3 (by decide) (by decide) (⟨rfl, N2, rfl⟩)
theorem own_rm75 (l : Launch) (Z : State) (a0 : Array Value) (hw : own_W a0 Z) (ws : List Jvm.Cond) (i0 i1 i2 i3 i4 i5 i6 i7 i8 : Int32) (o1 o0 o2 o4 o3 o5 : Nat) (h0 : Heap) (n0 : Nat) (Z0 : n0 ≤ h0.size) (O0 : Old Z n0 h0) (I0 : Fld Z h0 o1 cN7 "hash" "I" (.int (((31 : Int32) * (((31 : Int32) * (((31 : Int32) * i0) + 0)) + i1)) + i2))) (I1 : Fld Z h0 o0 cN7 "hash" "I" (.int (((31 : Int32) * (((31 : Int32) * (((31 : Int32) * (((31 : Int32) * i3) + 0)) + i4)) + i5)) + (((31 : Int32) * (((31 : Int32) * ((31 : Int32) + ((i6.toInt8.toInt32) &&& 255))) + i7)) + i8)))) (I2 : Fld Z h0 o1 cN7 "type" "S" (.int i0)) (I3 : Fld Z h0 o0 cN7 "type" "S" (.int i3)) (I4 : Fld Z h0 o1 cN7 "minOccurs" "I" (.int i1)) (I5 : Fld Z h0 o0 cN7 "minOccurs" "I" (.int i4)) (I6 : Fld Z h0 o1 cN7 "maxOccurs" "I" (.int i2)) (I7 : Fld Z h0 o0 cN7 "maxOccurs" "I" (.int i5)) (I8 : Fld Z h0 o1 cN7 "name" cN8 .null) (I9 : Fld Z h0 o0 cN7 "name" cN8 .null) (I00 : Fld Z h0 o1 cN7 "particles" cN5 (.ref o2)) (I01 : Fld Z h0 o2 cN12 "c" cN13 (.ref o4)) (I02 : Fld Z h0 o4 cN10 "size" "I" (.int 0)) (I03 : Exa Z h0 o4 cN10) (I04 : Exa Z h0 o2 cN14) (I05 : Fld Z h0 o0 cN7 "particles" cN5 (.ref o3)) (I06 : Fld Z h0 o3 cN12 "c" cN13 (.ref o5)) (I07 : Fld Z h0 o5 cN10 "size" "I" (.int 1)) (I08 : Exa Z h0 o5 cN10) (I09 : Exa Z h0 o3 cN14) :
 own_Met l Z h0 mN54 B0B 2 (Option.some FieldType.boolean) ws (own_R 2 0 0 25) #[(.ref o1), (.ref o0)] (fun v h L => (v = some (.int 0) ∧ Fr n0 L ∧ h = h0)) 0 0 := own_go own_pn47 fun p e s m below meth c s₁ hns hrt hnm hml hZ hx hby hown X6 e4 => by
 have N0 := Fr.nil n0
 refine own_cast (own_ef9 m o1 o0) ?_
 refine oAN X6 hx hby dd47_0 rfl rfl ?_
 refine own_gF X6 hx hZ hown (hw 119) e4 I0 (hb hby dd47_1) fun T5 X7 e5 => ?_
 refine oAN X7 hx hby dd47_4 rfl rfl ?_
 refine own_gF X7 hx hZ hown (hw 119) e5 I1 (hb hby dd47_5) fun T0 X0 e0 => ?_
 by_cases b0 : (((31 : Int32) * (((31 : Int32) * (((31 : Int32) * i0) + 0)) + i1)) + i2) = (((31 : Int32) * (((31 : Int32) * (((31 : Int32) * (((31 : Int32) * i3) + 0)) + i4)) + i5)) + (((31 : Int32) * (((31 : Int32) * ((31 : Int32) + ((i6.toInt8.toInt32) &&& 255))) + i7)) + i8))
 ·skip
  refine oNI X0 hx hby dd47_8 (XT.ii_ne_f b0) ?_
  show own_G p e below (T0.setTop (mkF m 11 #[rv o1, rv o0] [])) _
  refine oAN X0 hx hby dd47_11 rfl rfl ?_
  refine own_gF X0 hx hZ hown (hw 43) e0 I2 (hb hby dd47_12) fun T6 X8 e6 => ?_
  refine oAN X8 hx hby dd47_15 rfl rfl ?_
  refine own_gF X8 hx hZ hown (hw 43) e6 I3 (hb hby dd47_16) fun T1 X1 e1 => ?_
  by_cases b1 : i0 = i3
  ·skip
   refine oNI X1 hx hby dd47_19 (XT.ii_ne_f b1) ?_
   show own_G p e below (T1.setTop (mkF m 22 #[rv o1, rv o0] [])) _
   refine oAN X1 hx hby dd47_22 rfl rfl ?_
   refine own_gF X1 hx hZ hown (hw 47) e1 I4 (hb hby dd47_23) fun T7 X9 e7 => ?_
   refine oAN X9 hx hby dd47_26 rfl rfl ?_
   refine own_gF X9 hx hZ hown (hw 47) e7 I5 (hb hby dd47_27) fun T2 X2 e2 => ?_
   by_cases b2 : i1 = i4
   ·skip
    refine oNI X2 hx hby dd47_30 (XT.ii_ne_f b2) ?_
    show own_G p e below (T2.setTop (mkF m 33 #[rv o1, rv o0] [])) _
    refine oAN X2 hx hby dd47_33 rfl rfl ?_
    refine own_gF X2 hx hZ hown (hw 49) e2 I6 (hb hby dd47_34) fun T8 X00 e8 => ?_
    refine oAN X00 hx hby dd47_37 rfl rfl ?_
    refine own_gF X00 hx hZ hown (hw 49) e8 I7 (hb hby dd47_38) fun T3 X3 e3 => ?_
    by_cases b3 : i2 = i5
    ·skip
     refine oNI X3 hx hby dd47_41 (XT.ii_ne_f b3) ?_
     show own_G p e below (T3.setTop (mkF m 44 #[rv o1, rv o0] [])) _
     refine oAN X3 hx hby dd47_44 rfl rfl ?_
     refine own_gF X3 hx hZ hown (hw 45) e3 I8 (hb hby dd47_45) fun T9 X01 e9 => ?_
     refine oAN X01 hx hby dd47_48 rfl rfl ?_
     refine own_gF X01 hx hZ hown (hw 45) e9 I9 (hb hby dd47_49) fun T00 X03 e00 => ?_
     refine own_cS X03 hx hZ hown e00 (y := mN53) (hw 454) (hw 455) (hw 55) (hw 456) (by decide) (W := 0) (own_rm52 l Z a0 hw []  h0 n0 Z0 O0 ) [.null, .null] [] hml (lenOf own_pd26 rfl) (hb hby dd47_52) fun T01 h1 v0 L0 X4 e01 q0 => ?_
     obtain ⟨rfl, N1, K0⟩ := q0
     have N2 := Fr.app N0 N1
     have e02 := e01.trans K0
     refine oN0 X4 hx hby dd47_55 (XT.i0_eq_f (by decide)) ?_
     refine oAN X4 hx hby dd47_58 rfl rfl ?_
     refine own_gF X4 hx hZ hown (hw 51) e02 I00 (hb hby dd47_59) fun T02 X04 e03 => ?_
     refine own_cI X04 hx hZ hown e03 (y := mN55) (z := mN41) (b := o2) (hw 457) (hw 339) (hw 340) rfl (hw 341) (hw 342) (hw 343) (hw 344) (hw 229) (hw 218) (hw 345) (by decide) I04 (W := 0) (own_rm38 l Z a0 hw [] o2 o4 h0 n0 Z0 O0 I01 I02 I03) [] [] hml (lenOf own_pd7 rfl) (hb hby dd47_62) fun T4 h2 v1 L1 X02 e04 q1 => ?_
     obtain ⟨rfl, N3, K1⟩ := q1
     have N4 := Fr.app N2 N3
     have e05 := e04.trans K1
     refine oAN X02 hx hby dd47_67 rfl rfl ?_
     show own_G p e below (T4.setTop (mkF m 68 #[rv o1, rv o0] [(.ref o0), (.int 0)])) _
     refine own_gF X02 hx hZ hown (hw 51) e05 I05 (hb hby dd47_68) fun T03 X05 e06 => ?_
     refine own_cI X05 hx hZ hown e06 (y := mN55) (z := mN41) (b := o3) (hw 457) (hw 339) (hw 340) rfl (hw 341) (hw 342) (hw 343) (hw 344) (hw 229) (hw 218) (hw 345) (by decide) I09 (W := 1) (own_rm76 l Z a0 hw [] o3 o5 h0 n0 Z0 O0 I06 I07 I08) [] [(.int 0)] hml (lenOf own_pd7 rfl) (hb hby dd47_71) fun T04 h3 v2 L2 X5 e07 q2 => ?_
     obtain ⟨rfl, N5, K2⟩ := q2
     have N6 := Fr.app N4 N5
     have e08 := e07.trans K2
     refine oYI X5 hx hby (pc' := 83) dd47_76 (XT.ii_ne_t (by decide)) ?_
     refine oIC X5 hx hby dd47_83 ?_
     exact own_retN X5 hx (t := .boolean) hns hrt (by simp) (hb hby dd47_84) (by decide) e08 (by decide) (by decide) (⟨rfl, N6, rfl⟩)
    ·skip
     refine oYI X3 hx hby (pc' := 83) dd47_41 (XT.ii_ne_t b3) ?_
     show own_G p e below (T3.setTop (mkF m 83 #[rv o1, rv o0] [])) _
     refine oIC X3 hx hby dd47_83 ?_
     exact own_retN X3 hx (t := .boolean) hns hrt (by simp) (hb hby dd47_84) (by decide) e3 (by decide) (by decide) (⟨rfl, N0, rfl⟩)
   ·skip
    refine oYI X2 hx hby (pc' := 83) dd47_30 (XT.ii_ne_t b2) ?_
    show own_G p e below (T2.setTop (mkF m 83 #[rv o1, rv o0] [])) _
    refine oIC X2 hx hby dd47_83 ?_
    exact own_retN X2 hx (t := .boolean) hns hrt (by simp) (hb hby dd47_84) (by decide) e2 (by decide) (by decide) (⟨rfl, N0, rfl⟩)
  ·skip
   refine oYI X1 hx hby (pc' := 83) dd47_19 (XT.ii_ne_t b1) ?_
   show own_G p e below (T1.setTop (mkF m 83 #[rv o1, rv o0] [])) _
   refine oIC X1 hx hby dd47_83 ?_
   exact own_retN X1 hx (t := .boolean) hns hrt (by simp) (hb hby dd47_84) (by decide) e1 (by decide) (by decide) (⟨rfl, N0, rfl⟩)
 ·skip
  refine oYI X0 hx hby (pc' := 83) dd47_8 (XT.ii_ne_t b0) ?_
  show own_G p e below (T0.setTop (mkF m 83 #[rv o1, rv o0] [])) _
  refine oIC X0 hx hby dd47_83 ?_
  exact own_retN X0 hx (t := .boolean) hns hrt (by simp) (hb hby dd47_84) (by decide) e0 (by decide) (by decide) (⟨rfl, N0, rfl⟩)
theorem own_rm74 (l : Launch) (Z : State) (a0 : Array Value) (hw : own_W a0 Z) (ws : List Jvm.Cond) (i0 i1 i2 i3 i4 i5 i6 i7 i8 : Int32) (o0 o1 o6 o7 o8 o9 : Nat) (h0 : Heap) (n0 : Nat) (Z8 : n0 ≤ h0.size) (O6 : Old Z n0 h0) (I0 : Exa Z h0 o1 cN7) (I1 : Exa Z h0 o0 cN7) (I2 : @Ne Nat o0 o1) (I3 : Fld Z h0 o0 cN7 "hash" "I" (.int (((31 : Int32) * (((31 : Int32) * (((31 : Int32) * i0) + 0)) + i1)) + i2))) (I0d : @LT.lt Nat instLTNat o0 h0.size) (I4 : Fld Z h0 o1 cN7 "hash" "I" (.int (((31 : Int32) * (((31 : Int32) * (((31 : Int32) * (((31 : Int32) * i3) + 0)) + i4)) + i5)) + (((31 : Int32) * (((31 : Int32) * ((31 : Int32) + ((i6.toInt8.toInt32) &&& 255))) + i7)) + i8)))) (I0e : @LT.lt Nat instLTNat o1 h0.size) (I5 : Fld Z h0 o0 cN7 "type" "S" (.int i0)) (I6 : Fld Z h0 o1 cN7 "type" "S" (.int i3)) (I7 : Fld Z h0 o0 cN7 "minOccurs" "I" (.int i1)) (I8 : Fld Z h0 o1 cN7 "minOccurs" "I" (.int i4)) (I9 : Fld Z h0 o0 cN7 "maxOccurs" "I" (.int i2)) (I00 : Fld Z h0 o1 cN7 "maxOccurs" "I" (.int i5)) (I01 : Fld Z h0 o0 cN7 "name" cN8 .null) (I02 : Fld Z h0 o1 cN7 "name" cN8 .null) (I03 : Fld Z h0 o0 cN7 "particles" cN5 (.ref o6)) (I04 : Fld Z h0 o6 cN12 "c" cN13 (.ref o7)) (I0f : @LT.lt Nat instLTNat o6 h0.size) (I05 : Fld Z h0 o7 cN10 "size" "I" (.int 0)) (I0g : @LT.lt Nat instLTNat o7 h0.size) (I06 : Exa Z h0 o7 cN10) (I07 : Exa Z h0 o6 cN14) (I08 : Fld Z h0 o1 cN7 "particles" cN5 (.ref o8)) (I09 : Fld Z h0 o8 cN12 "c" cN13 (.ref o9)) (I0h : @LT.lt Nat instLTNat o8 h0.size) (I0a : Fld Z h0 o9 cN10 "size" "I" (.int 1)) (I0i : @LT.lt Nat instLTNat o9 h0.size) (I0b : Exa Z h0 o9 cN10) (I0c : Exa Z h0 o8 cN14) :
 own_Met l Z h0 mN56 B0q 7 (Option.some FieldType.boolean) ws (own_R 4 4 40 54) #[(.ref o0), (.ref o1)] (fun v h L => (v = some (.int 0) ∧ Fr n0 L ∧ Keep h0 h [])) 4 40 := own_go own_pn48 fun p e s m below meth c s₁ hns hrt hnm hml hZ hx hby hown X6 e0 => by
 have N0o := Fr.nil n0
 refine own_cast (own_ef12 m o0 o1) ?_
 refine oAN X6 hx hby dd36_0 rfl rfl ?_
 obtain ⟨T3, X7, e1, s2⟩ := instY X6 hx hZ hown (hw 31) e0 (Ins.self I0) (g := (mkF m 1 #[rv o0, rv o1, .unset, .unset, .unset, .unset, .unset] [(.ref o1)])) rfl rfl (hb hby dd36_1)
 refine oS s2 ?_
 refine oY0 X7 hx hby (pc' := 9) dd36_4 (XT.i0_ne_t (by decide)) ?_
 obtain ⟨T4, h1, X8, e2, E1, A0, D0, U0, s0⟩ := newO X7 hx hZ hown (hw 386) (hw 387) (hw 388) e1 (g := (mkF m 9 #[rv o0, rv o1, .unset, .unset, .unset, .unset, .unset] [])) rfl (hb hby dd36_9) (by decide) (by decide)
 obtain ⟨o2, g0⟩ : ∃ z, z = h0.size := ⟨_, rfl⟩
 rw [← g0] at A0 D0 U0 s0
 have z0 := E1.1
 have y2 : @LT.lt Nat instLTNat o2 h1.size := A0.lt
 refine oS s0 ?_
 have F9 : Fld Z h1 o2 cN23 "elements" cN3 .null := D0 (Or.inl (hw 396)) (ty := (.array (.object cN1))) (by decide)
 have F00 : Fld Z h1 o2 cN23 "head" "I" (.int 0) := D0 (Or.inl (hw 412)) (ty := .int) (by decide)
 have F01 : Fld Z h1 o2 cN23 "tail" "I" (.int 0) := D0 (Or.inl (hw 417)) (ty := .int) (by decide)
 refine oS (fun _ => XS.dup X8.here hx rfl (hb hby dd36_12) rfl rfl) ?_
 have N00 : n0 ≤ o2 := by omega
 have y0 : @LT.lt Nat instLTNat o2 h1.size := by omega
 have O1 : Old Z n0 h1 := O6.ext E1
 have Z0 : n0 ≤ h1.size := by omega
 refine own_cN X8 hx hZ hown e2 (y := mN43) (b := o2) rfl (hw 389) (hw 390) (hw 388) (hw 391) (by decide) (W := 1) (own_rm41 l Z a0 hw [] o2 h1 n0 Z0 O1 F9 A0 N00 F00 F01 y0) [] [(.ref o2)] hml (lenOf own_pd13 rfl) (hb hby dd36_13) fun T5 h8 v0 L0 X9 e3 q0 => ?_
 obtain ⟨o4, m0, rfl, N0p, K4, F11, F02, F03, F04, F05, F06, F12, F07⟩ := q0
 have N0q := Fr.app N0o N0p
 have z1 := K4.1
 refine oASN X9 hx hby dd36_16 rfl (l' := #[rv o0, rv o1, rv o2, .unset, .unset, .unset, .unset]) rfl ?_
 obtain ⟨T6, h2, X00, e4, E0, A1, D1, U1, s1⟩ := newO X9 hx hZ hown (hw 386) (hw 387) (hw 388) e3 (g := (mkF m 17 #[rv o0, rv o1, rv o2, .unset, .unset, .unset, .unset] [])) rfl (hb hby dd36_17) (by decide) (by decide)
 obtain ⟨o3, g1⟩ : ∃ z, z = h8.size := ⟨_, rfl⟩
 rw [← g1] at A1 D1 U1 s1
 have z2 := E0.1
 have y3 : @LT.lt Nat instLTNat o3 h2.size := A1.lt
 refine oS s1 ?_
 have F08 : Fld Z h2 o3 cN23 "elements" cN3 .null := D1 (Or.inl (hw 396)) (ty := (.array (.object cN1))) (by decide)
 have F09 : Fld Z h2 o3 cN23 "head" "I" (.int 0) := D1 (Or.inl (hw 412)) (ty := .int) (by decide)
 have F0a : Fld Z h2 o3 cN23 "tail" "I" (.int 0) := D1 (Or.inl (hw 417)) (ty := .int) (by decide)
 refine oS (fun _ => XS.dup X00.here hx rfl (hb hby dd36_20) rfl rfl) ?_
 have N01 : n0 ≤ o3 := by omega
 have y1 : @LT.lt Nat instLTNat o3 h2.size := by omega
 have O7 : Old Z n0 h8 := O1.keep K4 (allS N00 all0)
 have O2 : Old Z n0 h2 := O7.ext E0
 have Z1 : n0 ≤ h2.size := by omega
 refine own_cN X00 hx hZ hown e4 (y := mN43) (b := o3) rfl (hw 389) (hw 390) (hw 388) (hw 391) (by decide) (W := 1) (own_rm41 l Z a0 hw [] o3 h2 n0 Z1 O2 F08 A1 N01 F09 F0a y1) [] [(.ref o3)] hml (lenOf own_pd13 rfl) (hb hby dd36_21) fun T0 h5 v1 L1 X1 e5 q1 => ?_
 obtain ⟨o5, m1, rfl, N0r, K0, F13, F0b, F0c, F0d, F0e, F0f, F14, F0g⟩ := q1
 have N0s := Fr.app N0q N0r
 have z3 := K0.1
 show own_G p e below (T0.setTop (mkF m 24 #[rv o0, rv o1, rv o2, .unset, .unset, .unset, .unset] [(.ref o3)])) _
 refine oASN X1 hx hby dd36_24 rfl (l' := #[rv o0, rv o1, rv o2, rv o3, .unset, .unset, .unset]) rfl ?_
 refine oAN X1 hx hby dd36_25 rfl rfl ?_
 refine oAN X1 hx hby dd36_26 rfl rfl ?_
 have N4 : @Ne Nat o2 o3 := by omega
 have F0h := (Fld.ext E0 F02).keep K0 (ninS N4 nin0)
 have F0i := (Fld.ext E0 F04).keep K0 (ninS N4 nin0)
 have N9 : @Ne Nat o4 o3 := by omega
 have F0j := (F06.ext E0).keep K0 (ninS N9 nin0)
 have F2 := (Exa.ext E0 F03).keep K0
 have N0e : @Ne Nat o4 o2 := by omega
 have F3 := (Exa.ext E0 ((Exa.ext E1 I1).keep K4)).keep K0
 have N03 : n0 ≤ o4 := by omega
 have F0k := (Fld.ext E0 F05).keep K0 (ninS N4 nin0)
 have O3 : Old Z n0 h5 := O2.keep K0 (allS N01 all0)
 have Z2 : n0 ≤ h5.size := by omega
 refine own_cI X1 hx hZ hown e5 (y := mN57) (z := mN46) (b := o2) (hw 397) (hw 398) (hw 399) rfl (hw 400) (hw 401) (hw 402) (hw 403) (hw 404) (hw 388) (hw 405) (by decide) F2 (W := 0) (own_rm42 l Z a0 hw [] m0 o2 o0 o4 h5 n0 Z2 O3 F0h F0i F0j F2 N00 N0e F07 F3 N03 F0k) [(.ref o0)] [] hml (lenOf own_pd23 rfl) (hb hby dd36_27) fun T7 h6 v2 L2 X2 e6 q2 => ?_
 obtain ⟨rfl, N0t, K1, F0l, F0m, F0n, F0o, F0p⟩ := q2
 have N0u := Fr.app N0s N0t
 have z4 := K1.1
 refine oAN X2 hx hby dd36_32 rfl rfl ?_
 refine oAN X2 hx hby dd36_33 rfl rfl ?_
 have F0 := ((Exa.ext E0 ((Exa.ext E1 I0).keep K4)).keep K0).keep K1
 refine own_cY X2 hx hZ hown (hw 304) e6 (Ins.of_exa F0 (hw 305)) (hb hby dd36_34) fun T8 X02 e7 => ?_
 have F0q := F0b.keep K1 (ninS (Ne.symm N4) (ninS (Ne.symm N9) nin0))
 have F0r := F0d.keep K1 (ninS (Ne.symm N4) (ninS (Ne.symm N9) nin0))
 have N05 : @Ne Nat o5 o4 := by omega
 have N02 : @Ne Nat o5 o2 := by omega
 have F0s := F0f.keep K1 (ninS N02 (ninS N05 nin0))
 have F4 := F0c.keep K1
 have N0f : @Ne Nat o5 o3 := by omega
 have N04 : n0 ≤ o5 := by omega
 have F0t := F0e.keep K1 (ninS (Ne.symm N4) (ninS (Ne.symm N9) nin0))
 have O4 : Old Z n0 h6 := O3.keep K1 (allS N00 (allS N03 all0))
 have Z3 : n0 ≤ h6.size := by omega
 refine own_cI X02 hx hZ hown e7 (y := mN57) (z := mN46) (b := o3) (hw 397) (hw 398) (hw 399) rfl (hw 400) (hw 401) (hw 402) (hw 403) (hw 404) (hw 388) (hw 405) (by decide) F4 (W := 0) (own_rm42 l Z a0 hw [] m1 o3 o1 o5 h6 n0 Z3 O4 F0q F0r F0s F4 N01 N0f F0g F0 N04 F0t) [(.ref o1)] [] hml (lenOf own_pd23 rfl) (hb hby dd36_37) fun T9 h3 v3 L3 X01 e8 q3 => ?_
 obtain ⟨rfl, N0v, K2, F0u, F0v, F0w, F0x, F0y⟩ := q3
 have N0w := Fr.app N0u N0v
 have z5 := K2.1
 refine oAN X01 hx hby dd36_42 rfl rfl ?_
 have F5 := F0l.keep K2 (ninS N4 (ninS (Ne.symm N02) nin0))
 have F6 := F0m.keep K2 (ninS N4 (ninS (Ne.symm N02) nin0))
 have O0 : Old Z n0 h3 := O4.keep K2 (allS N01 (allS N04 all0))
 have Z4 : n0 ≤ h3.size := by omega
 have F1 := F0o.keep K2
 refine own_cIU X01 hx hZ hown e8 (y := mN58) (z := mN47) (J := cN16) (b := o2) (hw 418) (hw 419) (hw 420) (by decide) (by decide) (hw 421) (hw 422) (hw 423) (hw 424) (hw 404) (hw 388) (hw 425) (by decide) F1 (W := 0) (own_rm45 l Z a0 hw [] o2 h3 n0 Z4 O0 F5 F6) [] [] hml (lenOf own_pd5 rfl) (hb hby dd36_43) fun T1 h9 v4 L4 X3 e9 q4 => ?_
 obtain ⟨rfl, N0x, K6⟩ := q4
 have N0y := Fr.app N0w N0x
 have e00 := e9.trans K6
 show own_G p e below (T1.setTop (mkF m 48 #[rv o0, rv o1, rv o2, rv o3, .unset, .unset, .unset] [(.int 0)])) _
 refine oN0 X3 hx hby dd36_48 (XT.i0_ne_f (by decide)) ?_
 refine oAN X3 hx hby dd36_51 rfl rfl ?_
 have F0z := F0n.keep K2 (ninS N4 (ninS (Ne.symm N02) nin0))
 have F0A := F0p.keep K2 (ninS N9 (ninS (Ne.symm N05) nin0))
 have Z5 : n0 ≤ h3.size := by omega
 refine own_cI X3 hx hZ hown e00 (y := mN59) (z := mN52) (b := o2) (hw 426) (hw 427) (hw 428) rfl (hw 429) (hw 430) (hw 431) (hw 432) (hw 404) (hw 388) (hw 433) (by decide) F1 (W := 0) (own_rm46 l Z a0 hw [] m0 o2 o4 o0 h3 n0 Z5 O0 F0z F5 F0A N03 (Ne.symm N0e) F1 N00 F6) [] [] hml (lenOf own_pd25 rfl) (hb hby dd36_52) fun T00 h7 v5 L5 X03 e01 q5 => ?_
 obtain ⟨rfl, N0z, K3, F15, F16, F17, F18, F19⟩ := q5
 have N0A := Fr.app N0y N0z
 have z6 := K3.1
 have F7 := ((F3.keep K1).keep K2).keep K3
 refine own_cY X03 hx hZ hown (hw 31) e01 (Ins.self F7) (hb hby dd36_57) fun T01 X4 e02 => ?_
 refine oAS X4 hx hby dd36_60 rfl (l' := #[rv o0, rv o1, rv o2, rv o3, rv o0, .unset, .unset]) rfl ?_
 refine oAN X4 hx hby dd36_62 rfl rfl ?_
 have F0B := F0w.keep K3 (ninS (Ne.symm N9) (ninS (Ne.symm N4) nin0))
 have F0C := F0u.keep K3 (ninS (Ne.symm N9) (ninS (Ne.symm N4) nin0))
 have F0D := F0y.keep K3 (ninS N05 (ninS N02 nin0))
 have F8 := F0x.keep K3
 have F0E := F0v.keep K3 (ninS (Ne.symm N9) (ninS (Ne.symm N4) nin0))
 have O5 : Old Z n0 h7 := O0.keep K3 (allS N03 (allS N00 all0))
 have Z6 : n0 ≤ h7.size := by omega
 refine own_cI X4 hx hZ hown e02 (y := mN59) (z := mN52) (b := o3) (hw 426) (hw 427) (hw 428) rfl (hw 429) (hw 430) (hw 431) (hw 432) (hw 404) (hw 388) (hw 433) (by decide) F8 (W := 0) (own_rm46 l Z a0 hw [] m1 o3 o5 o1 h7 n0 Z6 O5 F0B F0C F0D N04 (Ne.symm N0f) F8 N01 F0E) [] [] hml (lenOf own_pd25 rfl) (hb hby dd36_63) fun T02 h4 v6 L6 X04 e03 q6 => ?_
 obtain ⟨rfl, N0B, K5, F1a, F1b, F1c, F1d, F1e⟩ := q6
 have N0C := Fr.app N0A N0B
 have z7 := K5.1
 have F0F := ((F0.keep K2).keep K3).keep K5
 refine own_cY X04 hx hZ hown (hw 31) e03 (Ins.self F0F) (hb hby dd36_68) fun T2 X0 e04 => ?_
 refine oAS X0 hx hby dd36_71 rfl (l' := #[rv o0, rv o1, rv o2, rv o3, rv o0, rv o1, .unset]) rfl ?_
 refine oAL X0 hx hby dd36_73 rfl rfl ?_
 show own_G p e below (T2.setTop (mkF m 75 #[rv o0, rv o1, rv o2, rv o3, rv o0, rv o1, .unset] [(.ref o0)])) _
 refine oAL X0 hx hby dd36_75 rfl rfl ?_
 refine oS (fun _ => XT.acmpYes X0.here hx rfl (pc0 := 77) (pc' := 83) rfl (hb hby dd36_77) rfl rfl rfl (XT.aa_ne_t (own_rne I2)) (by decide) (by decide)) ?_
 refine oAL X0 hx hby dd36_83 rfl rfl ?_
 refine oAL X0 hx hby dd36_85 rfl rfl ?_
 have N0 : @Ne Nat o0 o2 := by omega
 have N1 : @Ne Nat o0 o3 := by omega
 have N5 : @Ne Nat o0 o4 := by omega
 have N6 : @Ne Nat o0 o5 := by omega
 have F0G := (((((Fld.ext E0 ((Fld.ext E1 I3).keep K4 (ninS N0 nin0))).keep K0 (ninS N1 nin0)).keep K1 (ninS N0 (ninS N5 nin0))).keep K2 (ninS N1 (ninS N6 nin0))).keep K3 (ninS N5 (ninS N0 nin0))).keep K5 (ninS N6 (ninS N1 nin0))
 have N2 : @Ne Nat o1 o2 := by omega
 have N3 : @Ne Nat o1 o3 := by omega
 have N7 : @Ne Nat o1 o4 := by omega
 have N8 : @Ne Nat o1 o5 := by omega
 have F0H := (((((Fld.ext E0 ((Fld.ext E1 I4).keep K4 (ninS N2 nin0))).keep K0 (ninS N3 nin0)).keep K1 (ninS N2 (ninS N7 nin0))).keep K2 (ninS N3 (ninS N8 nin0))).keep K3 (ninS N7 (ninS N2 nin0))).keep K5 (ninS N8 (ninS N3 nin0))
 have F0I := (((((Fld.ext E0 ((Fld.ext E1 I5).keep K4 (ninS N0 nin0))).keep K0 (ninS N1 nin0)).keep K1 (ninS N0 (ninS N5 nin0))).keep K2 (ninS N1 (ninS N6 nin0))).keep K3 (ninS N5 (ninS N0 nin0))).keep K5 (ninS N6 (ninS N1 nin0))
 have F0J := (((((Fld.ext E0 ((Fld.ext E1 I6).keep K4 (ninS N2 nin0))).keep K0 (ninS N3 nin0)).keep K1 (ninS N2 (ninS N7 nin0))).keep K2 (ninS N3 (ninS N8 nin0))).keep K3 (ninS N7 (ninS N2 nin0))).keep K5 (ninS N8 (ninS N3 nin0))
 have F0K := (((((Fld.ext E0 ((Fld.ext E1 I7).keep K4 (ninS N0 nin0))).keep K0 (ninS N1 nin0)).keep K1 (ninS N0 (ninS N5 nin0))).keep K2 (ninS N1 (ninS N6 nin0))).keep K3 (ninS N5 (ninS N0 nin0))).keep K5 (ninS N6 (ninS N1 nin0))
 have F0L := (((((Fld.ext E0 ((Fld.ext E1 I8).keep K4 (ninS N2 nin0))).keep K0 (ninS N3 nin0)).keep K1 (ninS N2 (ninS N7 nin0))).keep K2 (ninS N3 (ninS N8 nin0))).keep K3 (ninS N7 (ninS N2 nin0))).keep K5 (ninS N8 (ninS N3 nin0))
 have F0M := (((((Fld.ext E0 ((Fld.ext E1 I9).keep K4 (ninS N0 nin0))).keep K0 (ninS N1 nin0)).keep K1 (ninS N0 (ninS N5 nin0))).keep K2 (ninS N1 (ninS N6 nin0))).keep K3 (ninS N5 (ninS N0 nin0))).keep K5 (ninS N6 (ninS N1 nin0))
 have F0N := (((((Fld.ext E0 ((Fld.ext E1 I00).keep K4 (ninS N2 nin0))).keep K0 (ninS N3 nin0)).keep K1 (ninS N2 (ninS N7 nin0))).keep K2 (ninS N3 (ninS N8 nin0))).keep K3 (ninS N7 (ninS N2 nin0))).keep K5 (ninS N8 (ninS N3 nin0))
 have F0O := (((((Fld.ext E0 ((Fld.ext E1 I01).keep K4 (ninS N0 nin0))).keep K0 (ninS N1 nin0)).keep K1 (ninS N0 (ninS N5 nin0))).keep K2 (ninS N1 (ninS N6 nin0))).keep K3 (ninS N5 (ninS N0 nin0))).keep K5 (ninS N6 (ninS N1 nin0))
 have F0P := (((((Fld.ext E0 ((Fld.ext E1 I02).keep K4 (ninS N2 nin0))).keep K0 (ninS N3 nin0)).keep K1 (ninS N2 (ninS N7 nin0))).keep K2 (ninS N3 (ninS N8 nin0))).keep K3 (ninS N7 (ninS N2 nin0))).keep K5 (ninS N8 (ninS N3 nin0))
 have F0Q := (((((Fld.ext E0 ((Fld.ext E1 I03).keep K4 (ninS N0 nin0))).keep K0 (ninS N1 nin0)).keep K1 (ninS N0 (ninS N5 nin0))).keep K2 (ninS N1 (ninS N6 nin0))).keep K3 (ninS N5 (ninS N0 nin0))).keep K5 (ninS N6 (ninS N1 nin0))
 have N06 : @Ne Nat o6 o2 := by omega
 have N07 : @Ne Nat o6 o3 := by omega
 have N0g : @Ne Nat o6 o4 := by omega
 have N0h : @Ne Nat o6 o5 := by omega
 have F0R := (((((Fld.ext E0 ((Fld.ext E1 I04).keep K4 (ninS N06 nin0))).keep K0 (ninS N07 nin0)).keep K1 (ninS N06 (ninS N0g nin0))).keep K2 (ninS N07 (ninS N0h nin0))).keep K3 (ninS N0g (ninS N06 nin0))).keep K5 (ninS N0h (ninS N07 nin0))
 have N08 : @Ne Nat o7 o2 := by omega
 have N09 : @Ne Nat o7 o3 := by omega
 have N0i : @Ne Nat o7 o4 := by omega
 have N0j : @Ne Nat o7 o5 := by omega
 have F0S := (((((Fld.ext E0 ((Fld.ext E1 I05).keep K4 (ninS N08 nin0))).keep K0 (ninS N09 nin0)).keep K1 (ninS N08 (ninS N0i nin0))).keep K2 (ninS N09 (ninS N0j nin0))).keep K3 (ninS N0i (ninS N08 nin0))).keep K5 (ninS N0j (ninS N09 nin0))
 have F0T := (((((Exa.ext E0 ((Exa.ext E1 I06).keep K4)).keep K0).keep K1).keep K2).keep K3).keep K5
 have F0U := (((((Exa.ext E0 ((Exa.ext E1 I07).keep K4)).keep K0).keep K1).keep K2).keep K3).keep K5
 have F0V := (((((Fld.ext E0 ((Fld.ext E1 I08).keep K4 (ninS N2 nin0))).keep K0 (ninS N3 nin0)).keep K1 (ninS N2 (ninS N7 nin0))).keep K2 (ninS N3 (ninS N8 nin0))).keep K3 (ninS N7 (ninS N2 nin0))).keep K5 (ninS N8 (ninS N3 nin0))
 have N0a : @Ne Nat o8 o2 := by omega
 have N0b : @Ne Nat o8 o3 := by omega
 have N0k : @Ne Nat o8 o4 := by omega
 have N0l : @Ne Nat o8 o5 := by omega
 have F0W := (((((Fld.ext E0 ((Fld.ext E1 I09).keep K4 (ninS N0a nin0))).keep K0 (ninS N0b nin0)).keep K1 (ninS N0a (ninS N0k nin0))).keep K2 (ninS N0b (ninS N0l nin0))).keep K3 (ninS N0k (ninS N0a nin0))).keep K5 (ninS N0l (ninS N0b nin0))
 have N0c : @Ne Nat o9 o2 := by omega
 have N0d : @Ne Nat o9 o3 := by omega
 have N0m : @Ne Nat o9 o4 := by omega
 have N0n : @Ne Nat o9 o5 := by omega
 have F0X := (((((Fld.ext E0 ((Fld.ext E1 I0a).keep K4 (ninS N0c nin0))).keep K0 (ninS N0d nin0)).keep K1 (ninS N0c (ninS N0m nin0))).keep K2 (ninS N0d (ninS N0n nin0))).keep K3 (ninS N0m (ninS N0c nin0))).keep K5 (ninS N0n (ninS N0d nin0))
 have F0Y := (((((Exa.ext E0 ((Exa.ext E1 I0b).keep K4)).keep K0).keep K1).keep K2).keep K3).keep K5
 have F0Z := (((((Exa.ext E0 ((Exa.ext E1 I0c).keep K4)).keep K0).keep K1).keep K2).keep K3).keep K5
 have O8 : Old Z n0 h4 := O5.keep K5 (allS N04 (allS N01 all0))
 have Z7 : n0 ≤ h4.size := by omega
 have F10 := F7.keep K5
 refine own_cP X0 hx hZ hown e04 (y := mN54) (b := o0) (hw 450) (hw 451) (own_selP (hw 451) (hw 452) (hw 308) rfl (by decide)) (hw 452) (hw 29) (hw 453) (by decide) F10 (W := 0) (own_rm75 l Z a0 hw [] i0 i1 i2 i3 i4 i5 i6 i7 i8 o0 o1 o6 o7 o8 o9 h4 n0 Z7 O8 F0G F0H F0I F0J F0K F0L F0M F0N F0O F0P F0Q F0R F0S F0T F0U F0V F0W F0X F0Y F0Z) [(.ref o1)] [] hml (lenOf own_pd27 rfl) (hb hby dd36_87) fun T03 h00 v7 L7 X5 e05 q7 => ?_
 obtain ⟨rfl, N0D, K7⟩ := q7
 have N0E := Fr.app N0C N0D
 have e06 := e05.trans K7
 refine oN0 X5 hx hby dd36_90 (XT.i0_ne_f (by decide)) ?_
 refine oIC X5 hx hby dd36_93 ?_
 have K8 : Keep h0 h4 [] := (((((((((Keep.refl h0 []).ext E1).trans K4 (allS (Or.inr (by omega)) all0)).ext E0).trans K0 (allS (Or.inr (by omega)) all0)).trans K1 (allS (Or.inr (by omega)) (allS (Or.inr (by omega)) all0))).trans K2 (allS (Or.inr (by omega)) (allS (Or.inr (by omega)) all0))).trans K3 (allS (Or.inr (by omega)) (allS (Or.inr (by omega)) all0))).trans K5 (allS (Or.inr (by omega)) (allS (Or.inr (by omega)) all0)))
 exact own_retN X5 hx (t := .boolean) hns hrt (by simp) (hb hby dd36_94) (by decide) e06 (by decide) (by decide) (⟨rfl, N0E, K8⟩)
theorem dd58_0 : decode B0M 0 = .ok (.aload_n 0, 1) := by decide +kernel
theorem dd58_1 : decode B0M 1 = .ok (.getfield 7, 3) := by decide +kernel
theorem dd58_4 : decode B0M 4 = .ok (.iload_n 1, 1) := by decide +kernel
theorem dd59_0 : decode B0N 0 = .ok (.iload_n 1, 1) := by decide +kernel
theorem dd59_1 : decode B0N 1 = .ok (.aload_n 0, 1) := by decide +kernel
theorem dd59_2 : decode B0N 2 = .ok (.getfield 48, 3) := by decide +kernel
theorem dd60_0 : decode B0O 0 = .ok (.iload_n 0, 1) := by decide +kernel
theorem dd60_1 : decode B0O 1 = .ok (.iload_n 1, 1) := by decide +kernel
theorem dd60_2 : decode B0O 2 = .ok (.aconst_null, 1) := by decide +kernel
theorem own_ef21 (m : MethodId) (x0 : Int32) (x1 : Int32) : entryFrame m #[(.int x0), (.int x1), .null] 3 = mkF m 0 #[.val (.int x0), .val (.int x1), .val .null] [] := by first | (simp [entryFrame, mkF, argsToLocals, Value.category]; done) | rfl
theorem dd61_0 : decode B0P 0 = .ok (.iload_n 0, 1) := by decide +kernel
theorem dd61_1 : decode B0P 1 = .ok (.ifCond .lt 8, 3) := by decide +kernel
theorem dd61_4 : decode B0P 4 = .ok (.iload_n 0, 1) := by decide +kernel
theorem dd61_5 : decode B0P 5 = .ok (.iload_n 1, 1) := by decide +kernel
theorem dd61_6 : decode B0P 6 = .ok (.if_icmp .lt 10, 3) := by decide +kernel
theorem dd61_16 : decode B0P 16 = .ok (.iload_n 0, 1) := by decide +kernel
theorem dd61_17 : decode B0P 17 = .ok (.ireturn, 1) := by decide +kernel
theorem own_pn58 : plainFor mN71 = true := by decide +kernel
theorem own_rm81 (l : Launch) (Z : State) (a0 : Array Value) (hw : own_W a0 Z) (ws : List Jvm.Cond)  (h0 : Heap) (n0 : Nat) (Z0 : n0 ≤ h0.size) (O0 : Old Z n0 h0)  :
 own_Met l Z h0 mN71 B0P 3 (Option.some FieldType.int) ws (own_R 0 0 0 0) #[(.int 0), (.int 1), .null] (fun v h L => (v = some (.int 0) ∧ Fr n0 L ∧ h = h0)) 0 0 := own_go own_pn58 fun p e s m below meth c s₁ hns hrt hnm hml hZ hx hby hown X0 e0 => by
 have N0 := Fr.nil n0
 refine own_cast (own_ef21 m 0 1) ?_
 refine oIN X0 hx hby dd61_0 rfl ?_
 refine oN0 X0 hx hby dd61_1 (XT.i0_lt_f (by decide)) ?_
 refine oIN X0 hx hby dd61_4 rfl ?_
 refine oIN X0 hx hby dd61_5 rfl ?_
 refine oYI X0 hx hby (pc' := 16) dd61_6 (XT.ii_lt_t (by decide)) ?_
 refine oIN X0 hx hby dd61_16 rfl ?_
 exact own_retI X0 hx hns hrt (hb hby dd61_17) e0 (by decide) (by decide) (⟨rfl, N0, rfl⟩)
theorem own_pd32 : parseMethodDescriptor "(IILjava/util/function/BiFunction;)I" = some ⟨[.int, .int, (.object "java/util/function/BiFunction")], (some .int)⟩ := by decide +kernel
theorem dd60_3 : decode B0O 3 = .ok (.invokestatic 105, 3) := by decide +kernel
theorem dd60_6 : decode B0O 6 = .ok (.ireturn, 1) := by decide +kernel
theorem own_pn59 : plainFor mN72 = true := by decide +kernel
theorem own_rm80 (l : Launch) (Z : State) (a0 : Array Value) (hw : own_W a0 Z) (ws : List Jvm.Cond)  (h0 : Heap) (n0 : Nat) (Z0 : n0 ≤ h0.size) (O0 : Old Z n0 h0)  :
 own_Met l Z h0 mN72 B0O 2 (Option.some FieldType.int) ws (own_R 1 0 0 14) #[(.int 0), (.int 1)] (fun v h L => (v = some (.int 0) ∧ Fr n0 L ∧ h = h0)) 0 0 := own_go own_pn59 fun p e s m below meth c s₁ hns hrt hnm hml hZ hx hby hown X0 e0 => by
 have N0 := Fr.nil n0
 refine own_cast (own_ef14 m 0 1) ?_
 refine oIN X0 hx hby dd60_0 rfl ?_
 refine oIN X0 hx hby dd60_1 rfl ?_
 refine oS (fun _ => XS.aconstNull X0.here hx rfl (hb hby dd60_2) ) ?_
 refine own_cS X0 hx hZ hown e0 (y := mN71) (hw 371) (hw 372) (hw 373) (hw 374) (by decide) (W := 0) (own_rm81 l Z a0 hw []  h0 n0 Z0 O0 ) [(.int 0), (.int 1), .null] [] hml (lenOf own_pd32 rfl) (hb hby dd60_3) fun T0 h1 v0 L0 X1 e1 q0 => ?_
 obtain ⟨rfl, N1, K0⟩ := q0
 have N2 := Fr.app N0 N1
 have e2 := e1.trans K0
 exact own_retI X1 hx hns hrt (hb hby dd60_6) e2 (by decide) (by decide) (⟨rfl, N2, rfl⟩)
theorem dd59_5 : decode B0N 5 = .ok (.invokestatic 118, 3) := by decide +kernel
theorem dd59_8 : decode B0N 8 = .ok (.pop, 1) := by decide +kernel
theorem dd59_9 : decode B0N 9 = .ok (.aload_n 0, 1) := by decide +kernel
theorem dd59_10 : decode B0N 10 = .ok (.iload_n 1, 1) := by decide +kernel
theorem dd62_0 : decode B0Q 0 = .ok (.aload_n 0, 1) := by decide +kernel
theorem dd62_1 : decode B0Q 1 = .ok (.getfield 9, 3) := by decide +kernel
theorem dd62_4 : decode B0Q 4 = .ok (.iload_n 1, 1) := by decide +kernel
theorem dd62_5 : decode B0Q 5 = .ok (.aaload, 1) := by decide +kernel
theorem dd62_6 : decode B0Q 6 = .ok (.areturn, 1) := by decide +kernel
theorem own_pn60 : plainFor mN73 = true := by decide +kernel
theorem own_rm82 (l : Launch) (Z : State) (a0 : Array Value) (hw : own_W a0 Z) (ws : List Jvm.Cond) (m0 : ClassId) (o0 o2 o1 : Nat) (h0 : Heap) (n0 : Nat) (Z0 : n0 ≤ h0.size) (O0 : Old Z n0 h0) (I0 : Fld Z h0 o0 cN10 "elementData" cN3 (.ref o2)) (I1 : Arv Z h0 o2 m0 (.object cN1) 10 [(.ref o1), .null, .null, .null, .null, .null, .null, .null, .null, .null] .null) :
 own_Met l Z h0 mN73 B0Q 2 (Option.some (FieldType.object cN1)) ws (own_R 0 0 0 0) #[(.ref o0), (.int 0)] (fun v h L => (v = some (.ref o1) ∧ Fr n0 L ∧ h = h0)) 0 0 := own_go own_pn60 fun p e s m below meth c s₁ hns hrt hnm hml hZ hx hby hown X1 e1 => by
 have N0 := Fr.nil n0
 refine own_cast (own_ef16 m o0 0) ?_
 refine oAN X1 hx hby dd62_0 rfl rfl ?_
 refine own_gF X1 hx hZ hown (hw 143) e1 I0 (hb hby dd62_1) fun T0 X0 e0 => ?_
 refine oIN X0 hx hby dd62_4 rfl ?_
 refine oS (own_aaload X0 hx hZ e0 I1 rfl (by decide) (v := (.ref o1)) rfl rfl rfl (hb hby dd62_5)) ?_
 exact own_retA X0 hx hns hrt rfl rfl (hb hby dd62_6) e0 (by decide) (by decide) (⟨rfl, N0, rfl⟩)
theorem own_pd33 : parseMethodDescriptor "(I)Ljava/lang/Object;" = some ⟨[.int], (some (.object cN1))⟩ := by decide +kernel
theorem dd59_11 : decode B0N 11 = .ok (.invokevirtual 123, 3) := by decide +kernel
theorem dd59_14 : decode B0N 14 = .ok (.areturn, 1) := by decide +kernel
theorem own_pn61 : plainFor mN74 = true := by decide +kernel
theorem own_rm79 (l : Launch) (Z : State) (a0 : Array Value) (hw : own_W a0 Z) (ws : List Jvm.Cond) (m0 : ClassId) (o0 o1 o2 : Nat) (h0 : Heap) (n0 : Nat) (Z0 : n0 ≤ h0.size) (O0 : Old Z n0 h0) (I0 : Fld Z h0 o0 cN10 "size" "I" (.int 1)) (I1 : Fld Z h0 o0 cN10 "elementData" cN3 (.ref o1)) (I2 : Arv Z h0 o1 m0 (.object cN1) 10 [(.ref o2), .null, .null, .null, .null, .null, .null, .null, .null, .null] .null) (I3 : Exa Z h0 o0 cN10) :
 own_Met l Z h0 mN74 B0N 2 (Option.some (FieldType.object cN1)) ws (own_R 2 0 0 27) #[(.ref o0), (.int 0)] (fun v h L => (v = some (.ref o2) ∧ Fr n0 L ∧ h = h0)) 0 0 := own_go own_pn61 fun p e s m below meth c s₁ hns hrt hnm hml hZ hx hby hown X1 e0 => by
 have N0 := Fr.nil n0
 refine own_cast (own_ef16 m o0 0) ?_
 refine oIN X1 hx hby dd59_0 rfl ?_
 refine oAN X1 hx hby dd59_1 rfl rfl ?_
 refine own_gF X1 hx hZ hown (hw 156) e0 I0 (hb hby dd59_2) fun T0 X2 e1 => ?_
 refine own_cS X2 hx hZ hown e1 (y := mN72) (hw 368) (hw 369) (hw 55) (hw 370) (by decide) (W := 0) (own_rm80 l Z a0 hw []  h0 n0 Z0 O0 ) [(.int 0), (.int 1)] [] hml (lenOf own_pd22 rfl) (hb hby dd59_5) fun T1 h1 v0 L0 X0 e2 q0 => ?_
 obtain ⟨rfl, N1, K0⟩ := q0
 have N2 := Fr.app N0 N1
 have e3 := e2.trans K0
 refine oS (fun _ => XT.pop X0.here hx rfl (hb hby dd59_8) rfl rfl) ?_
 refine oAN X0 hx hby dd59_9 rfl rfl ?_
 refine oIN X0 hx hby dd59_10 rfl ?_
 refine own_cV X0 hx hZ hown e3 (y := mN73) (z := mN73) (b := o0) (hw 375) (hw 376) (notFace_of_selects (args := #[]) (mvT hZ (hw 378))) (hw 378) (hw 377) (hw 123) (hw 379) (by decide) I3 (W := 0) (own_rm82 l Z a0 hw [] m0 o0 o1 o2 h0 n0 Z0 O0 I1 I2) [(.int 0)] [] hml (lenOf own_pd33 rfl) (hb hby dd59_11) fun T2 h2 v1 L1 X3 e4 q1 => ?_
 obtain ⟨rfl, N3, K1⟩ := q1
 have N4 := Fr.app N2 N3
 have e5 := e4.trans K1
 exact own_retA X3 hx hns hrt rfl rfl (hb hby dd59_14) e5 (by decide) (by decide) (⟨rfl, N4, rfl⟩)
theorem dd58_5 : decode B0M 5 = .ok (.invokeinterface 23 2, 5) := by decide +kernel
theorem dd58_10 : decode B0M 10 = .ok (.areturn, 1) := by decide +kernel
theorem own_pn62 : plainFor mN75 = true := by decide +kernel
theorem own_rm78 (l : Launch) (Z : State) (a0 : Array Value) (hw : own_W a0 Z) (ws : List Jvm.Cond) (m0 : ClassId) (o1 o0 o2 o3 : Nat) (h0 : Heap) (n0 : Nat) (Z0 : n0 ≤ h0.size) (O0 : Old Z n0 h0) (I1 : Fld Z h0 o1 cN15 "list" cN5 (.ref o0)) (I2 : Fld Z h0 o0 cN10 "size" "I" (.int 1)) (I3 : Fld Z h0 o0 cN10 "elementData" cN3 (.ref o2)) (I4 : Arv Z h0 o2 m0 (.object cN1) 10 [(.ref o3), .null, .null, .null, .null, .null, .null, .null, .null, .null] .null) (I0 : Exa Z h0 o0 cN10) :
 own_Met l Z h0 mN75 B0M 2 (Option.some (FieldType.object cN1)) ws (own_R 3 0 0 40) #[(.ref o1), (.int 0)] (fun v h L => (v = some (.ref o3) ∧ Fr n0 L ∧ h = h0)) 0 0 := own_go own_pn62 fun p e s m below meth c s₁ hns hrt hnm hml hZ hx hby hown X0 e0 => by
 have N0 := Fr.nil n0
 refine own_cast (own_ef16 m o1 0) ?_
 refine oAN X0 hx hby dd58_0 rfl rfl ?_
 refine own_gF X0 hx hZ hown (hw 223) e0 I1 (hb hby dd58_1) fun T0 X1 e1 => ?_
 refine oIN X1 hx hby dd58_4 rfl ?_
 refine own_cI X1 hx hZ hown e1 (y := mN76) (z := mN74) (b := o0) (hw 362) (hw 355) (hw 356) rfl (hw 363) (hw 364) (hw 365) (hw 366) (hw 152) (hw 123) (hw 367) (by decide) I0 (W := 0) (own_rm79 l Z a0 hw [] m0 o0 o2 o3 h0 n0 Z0 O0 I2 I3 I4 I0) [(.int 0)] [] hml (lenOf own_pd33 rfl) (hb hby dd58_5) fun T1 h1 v0 L0 X2 e2 q0 => ?_
 obtain ⟨rfl, N1, K0⟩ := q0
 have N2 := Fr.app N0 N1
 have e3 := e2.trans K0
 exact own_retA X2 hx hns hrt rfl rfl (hb hby dd58_10) e3 (by decide) (by decide) (⟨rfl, N2, rfl⟩)
theorem own_rm84 (l : Launch) (Z : State) (a0 : Array Value) (hw : own_W a0 Z) (ws : List Jvm.Cond) (i0 i1 i2 i6 i7 i8 i3 i4 i5 : Int32) (o1 o0 o2 o4 o3 o5 : Nat) (h0 : Heap) (n0 : Nat) (Z0 : n0 ≤ h0.size) (O0 : Old Z n0 h0) (I0 : Fld Z h0 o1 cN7 "hash" "I" (.int (((31 : Int32) * (((31 : Int32) * (((31 : Int32) * (((31 : Int32) * i0) + 0)) + i1)) + i2)) + (((31 : Int32) * (((31 : Int32) * ((31 : Int32) + ((i6.toInt8.toInt32) &&& 255))) + i7)) + i8)))) (I1 : Fld Z h0 o0 cN7 "hash" "I" (.int (((31 : Int32) * (((31 : Int32) * (((31 : Int32) * (((31 : Int32) * i3) + 0)) + i4)) + i5)) + (((31 : Int32) * (((31 : Int32) * ((31 : Int32) + ((i6.toInt8.toInt32) &&& 255))) + i7)) + i8)))) (I2 : Fld Z h0 o1 cN7 "type" "S" (.int i0)) (I3 : Fld Z h0 o0 cN7 "type" "S" (.int i3)) (I4 : Fld Z h0 o1 cN7 "minOccurs" "I" (.int i1)) (I5 : Fld Z h0 o0 cN7 "minOccurs" "I" (.int i4)) (I6 : Fld Z h0 o1 cN7 "maxOccurs" "I" (.int i2)) (I7 : Fld Z h0 o0 cN7 "maxOccurs" "I" (.int i5)) (I8 : Fld Z h0 o1 cN7 "name" cN8 .null) (I9 : Fld Z h0 o0 cN7 "name" cN8 .null) (I00 : Fld Z h0 o1 cN7 "particles" cN5 (.ref o2)) (I01 : Fld Z h0 o2 cN12 "c" cN13 (.ref o4)) (I02 : Fld Z h0 o4 cN10 "size" "I" (.int 1)) (I03 : Exa Z h0 o4 cN10) (I04 : Exa Z h0 o2 cN14) (I05 : Fld Z h0 o0 cN7 "particles" cN5 (.ref o3)) (I06 : Fld Z h0 o3 cN12 "c" cN13 (.ref o5)) (I07 : Fld Z h0 o5 cN10 "size" "I" (.int 1)) (I08 : Exa Z h0 o5 cN10) (I09 : Exa Z h0 o3 cN14) :
 own_Met l Z h0 mN54 B0B 2 (Option.some FieldType.boolean) ws (own_R 2 0 0 25) #[(.ref o1), (.ref o0)] (fun v h L => (((((31 : Int32) * (((31 : Int32) * (((31 : Int32) * (((31 : Int32) * i0) + 0)) + i1)) + i2)) + (((31 : Int32) * (((31 : Int32) * ((31 : Int32) + ((i6.toInt8.toInt32) &&& 255))) + i7)) + i8)) = (((31 : Int32) * (((31 : Int32) * (((31 : Int32) * (((31 : Int32) * i3) + 0)) + i4)) + i5)) + (((31 : Int32) * (((31 : Int32) * ((31 : Int32) + ((i6.toInt8.toInt32) &&& 255))) + i7)) + i8))) ∧ (i0 = i3) ∧ (i1 = i4) ∧ (i2 = i5) ∧ v = some (.int 1) ∧ Fr n0 L ∧ h = h0) ∨ (¬ (i0 = i3 ∧ i1 = i4 ∧ i2 = i5) ∧ v = some (.int 0) ∧ Fr n0 L ∧ h = h0)) 0 0 := own_go own_pn47 fun p e s m below meth c s₁ hns hrt hnm hml hZ hx hby hown X6 e4 => by
 have N0 := Fr.nil n0
 refine own_cast (own_ef9 m o1 o0) ?_
 refine oAN X6 hx hby dd47_0 rfl rfl ?_
 refine own_gF X6 hx hZ hown (hw 119) e4 I0 (hb hby dd47_1) fun T5 X7 e5 => ?_
 refine oAN X7 hx hby dd47_4 rfl rfl ?_
 refine own_gF X7 hx hZ hown (hw 119) e5 I1 (hb hby dd47_5) fun T0 X0 e0 => ?_
 by_cases b0 : (((31 : Int32) * (((31 : Int32) * (((31 : Int32) * (((31 : Int32) * i0) + 0)) + i1)) + i2)) + (((31 : Int32) * (((31 : Int32) * ((31 : Int32) + ((i6.toInt8.toInt32) &&& 255))) + i7)) + i8)) = (((31 : Int32) * (((31 : Int32) * (((31 : Int32) * (((31 : Int32) * i3) + 0)) + i4)) + i5)) + (((31 : Int32) * (((31 : Int32) * ((31 : Int32) + ((i6.toInt8.toInt32) &&& 255))) + i7)) + i8))
 ·skip
  refine oNI X0 hx hby dd47_8 (XT.ii_ne_f b0) ?_
  show own_G p e below (T0.setTop (mkF m 11 #[rv o1, rv o0] [])) _
  refine oAN X0 hx hby dd47_11 rfl rfl ?_
  refine own_gF X0 hx hZ hown (hw 43) e0 I2 (hb hby dd47_12) fun T6 X8 e6 => ?_
  refine oAN X8 hx hby dd47_15 rfl rfl ?_
  refine own_gF X8 hx hZ hown (hw 43) e6 I3 (hb hby dd47_16) fun T1 X1 e1 => ?_
  by_cases b1 : i0 = i3
  ·skip
   refine oNI X1 hx hby dd47_19 (XT.ii_ne_f b1) ?_
   show own_G p e below (T1.setTop (mkF m 22 #[rv o1, rv o0] [])) _
   refine oAN X1 hx hby dd47_22 rfl rfl ?_
   refine own_gF X1 hx hZ hown (hw 47) e1 I4 (hb hby dd47_23) fun T7 X9 e7 => ?_
   refine oAN X9 hx hby dd47_26 rfl rfl ?_
   refine own_gF X9 hx hZ hown (hw 47) e7 I5 (hb hby dd47_27) fun T2 X2 e2 => ?_
   by_cases b2 : i1 = i4
   ·skip
    refine oNI X2 hx hby dd47_30 (XT.ii_ne_f b2) ?_
    show own_G p e below (T2.setTop (mkF m 33 #[rv o1, rv o0] [])) _
    refine oAN X2 hx hby dd47_33 rfl rfl ?_
    refine own_gF X2 hx hZ hown (hw 49) e2 I6 (hb hby dd47_34) fun T8 X00 e8 => ?_
    refine oAN X00 hx hby dd47_37 rfl rfl ?_
    refine own_gF X00 hx hZ hown (hw 49) e8 I7 (hb hby dd47_38) fun T3 X3 e3 => ?_
    by_cases b3 : i2 = i5
    ·skip
     refine oNI X3 hx hby dd47_41 (XT.ii_ne_f b3) ?_
     show own_G p e below (T3.setTop (mkF m 44 #[rv o1, rv o0] [])) _
     refine oAN X3 hx hby dd47_44 rfl rfl ?_
     refine own_gF X3 hx hZ hown (hw 45) e3 I8 (hb hby dd47_45) fun T9 X01 e9 => ?_
     refine oAN X01 hx hby dd47_48 rfl rfl ?_
     refine own_gF X01 hx hZ hown (hw 45) e9 I9 (hb hby dd47_49) fun T00 X03 e00 => ?_
     refine own_cS X03 hx hZ hown e00 (y := mN53) (hw 454) (hw 455) (hw 55) (hw 456) (by decide) (W := 0) (own_rm52 l Z a0 hw []  h0 n0 Z0 O0 ) [.null, .null] [] hml (lenOf own_pd26 rfl) (hb hby dd47_52) fun T01 h1 v0 L0 X5 e01 q0 => ?_
     obtain ⟨rfl, N1, K0⟩ := q0
     have N2 := Fr.app N0 N1
     have e02 := e01.trans K0
     refine oN0 X5 hx hby dd47_55 (XT.i0_eq_f (by decide)) ?_
     refine oAN X5 hx hby dd47_58 rfl rfl ?_
     refine own_gF X5 hx hZ hown (hw 51) e02 I00 (hb hby dd47_59) fun T02 X04 e03 => ?_
     refine own_cI X04 hx hZ hown e03 (y := mN55) (z := mN41) (b := o2) (hw 457) (hw 339) (hw 340) rfl (hw 341) (hw 342) (hw 343) (hw 344) (hw 229) (hw 218) (hw 345) (by decide) I04 (W := 0) (own_rm76 l Z a0 hw [] o2 o4 h0 n0 Z0 O0 I01 I02 I03) [] [] hml (lenOf own_pd7 rfl) (hb hby dd47_62) fun T4 h2 v1 L1 X02 e04 q1 => ?_
     obtain ⟨rfl, N3, K1⟩ := q1
     have N4 := Fr.app N2 N3
     have e05 := e04.trans K1
     refine oAN X02 hx hby dd47_67 rfl rfl ?_
     show own_G p e below (T4.setTop (mkF m 68 #[rv o1, rv o0] [(.ref o0), (.int 1)])) _
     refine own_gF X02 hx hZ hown (hw 51) e05 I05 (hb hby dd47_68) fun T03 X05 e06 => ?_
     refine own_cI X05 hx hZ hown e06 (y := mN55) (z := mN41) (b := o3) (hw 457) (hw 339) (hw 340) rfl (hw 341) (hw 342) (hw 343) (hw 344) (hw 229) (hw 218) (hw 345) (by decide) I09 (W := 1) (own_rm76 l Z a0 hw [] o3 o5 h0 n0 Z0 O0 I06 I07 I08) [] [(.int 1)] hml (lenOf own_pd7 rfl) (hb hby dd47_71) fun T04 h3 v2 L2 X4 e07 q2 => ?_
     obtain ⟨rfl, N5, K2⟩ := q2
     have N6 := Fr.app N4 N5
     have e08 := e07.trans K2
     refine oNI X4 hx hby dd47_76 (XT.ii_ne_f (by decide)) ?_
     refine oIC X4 hx hby dd47_79 ?_
     refine oGO X4 hx hby (pc' := 84) dd47_80 ?_
     exact own_retN X4 hx (t := .boolean) hns hrt (by simp) (hb hby dd47_84) (by decide) e08 (by decide) (by decide) (Or.inl ⟨b0, b1, b2, b3, rfl, N6, rfl⟩)
    ·skip
     refine oYI X3 hx hby (pc' := 83) dd47_41 (XT.ii_ne_t b3) ?_
     show own_G p e below (T3.setTop (mkF m 83 #[rv o1, rv o0] [])) _
     refine oIC X3 hx hby dd47_83 ?_
     exact own_retN X3 hx (t := .boolean) hns hrt (by simp) (hb hby dd47_84) (by decide) e3 (by decide) (by decide) (Or.inr (⟨(fun z => b3 z.2.2), rfl, N0, rfl⟩))
   ·skip
    refine oYI X2 hx hby (pc' := 83) dd47_30 (XT.ii_ne_t b2) ?_
    show own_G p e below (T2.setTop (mkF m 83 #[rv o1, rv o0] [])) _
    refine oIC X2 hx hby dd47_83 ?_
    exact own_retN X2 hx (t := .boolean) hns hrt (by simp) (hb hby dd47_84) (by decide) e2 (by decide) (by decide) (Or.inr (⟨(fun z => b2 z.2.1), rfl, N0, rfl⟩))
  ·skip
   refine oYI X1 hx hby (pc' := 83) dd47_19 (XT.ii_ne_t b1) ?_
   show own_G p e below (T1.setTop (mkF m 83 #[rv o1, rv o0] [])) _
   refine oIC X1 hx hby dd47_83 ?_
   exact own_retN X1 hx (t := .boolean) hns hrt (by simp) (hb hby dd47_84) (by decide) e1 (by decide) (by decide) (Or.inr (⟨(fun z => b1 z.1), rfl, N0, rfl⟩))
 ·skip
  refine oYI X0 hx hby (pc' := 83) dd47_8 (XT.ii_ne_t b0) ?_
  show own_G p e below (T0.setTop (mkF m 83 #[rv o1, rv o0] [])) _
  refine oIC X0 hx hby dd47_83 ?_
  exact own_retN X0 hx (t := .boolean) hns hrt (by simp) (hb hby dd47_84) (by decide) e0 (by decide) (by decide) (Or.inr (⟨(fun z => b0 (by rw [z.1, z.2.1, z.2.2])), rfl, N0, rfl⟩))
theorem dd36_113 : decode B0q 113 = .ok (.aload_n 2, 1) := by decide +kernel
theorem dd36_114 : decode B0q 114 = .ok (.aload 4, 2) := by decide +kernel
theorem dd36_116 : decode B0q 116 = .ok (.getfield 24, 3) := by decide +kernel
theorem dd36_119 : decode B0q 119 = .ok (.iload 6, 2) := by decide +kernel
theorem dd36_121 : decode B0q 121 = .ok (.invokeinterface 93 2, 5) := by decide +kernel
theorem dd36_126 : decode B0q 126 = .ok (.checkcast 50, 3) := by decide +kernel
theorem dd36_129 : decode B0q 129 = .ok (.invokeinterface 74 2, 5) := by decide +kernel
theorem dd36_134 : decode B0q 134 = .ok (.aload_n 3, 1) := by decide +kernel
theorem dd36_135 : decode B0q 135 = .ok (.aload 5, 2) := by decide +kernel
theorem dd36_137 : decode B0q 137 = .ok (.getfield 24, 3) := by decide +kernel
theorem dd36_140 : decode B0q 140 = .ok (.iload 6, 2) := by decide +kernel
theorem dd36_142 : decode B0q 142 = .ok (.invokeinterface 93 2, 5) := by decide +kernel
theorem dd36_147 : decode B0q 147 = .ok (.checkcast 50, 3) := by decide +kernel
theorem dd36_150 : decode B0q 150 = .ok (.invokeinterface 74 2, 5) := by decide +kernel
theorem dd36_155 : decode B0q 155 = .ok (.iinc 6 1, 3) := by decide +kernel
theorem dd36_158 : decode B0q 158 = .ok (.goto (-60), 3) := by decide +kernel
theorem dd36_80 : decode B0q 80 = .ok (.goto (-38), 3) := by decide +kernel
theorem own_rm83 (l : Launch) (Z : State) (a0 : Array Value) (hw : own_W a0 Z) (ws : List Jvm.Cond) (i0 i1 i2 i6 i7 i8 i3 i4 i5 : Int32) (m2 m3 : ClassId) (o1 o2 o5 o8 o9 o00 o01 o4 o02 : Nat) (h0 : Heap) (n0 : Nat) (Z08 : n0 ≤ h0.size) (O00 : Old Z n0 h0) (I0 : Exa Z h0 o2 cN7) (I1 : Exa Z h0 o1 cN7) (I2 : @Ne Nat o1 o2) (I3 : Fld Z h0 o1 cN7 "hash" "I" (.int (((31 : Int32) * (((31 : Int32) * (((31 : Int32) * (((31 : Int32) * i0) + 0)) + i1)) + i2)) + (((31 : Int32) * (((31 : Int32) * ((31 : Int32) + ((i6.toInt8.toInt32) &&& 255))) + i7)) + i8)))) (I0k : @LT.lt Nat instLTNat o1 h0.size) (I4 : Fld Z h0 o2 cN7 "hash" "I" (.int (((31 : Int32) * (((31 : Int32) * (((31 : Int32) * (((31 : Int32) * i3) + 0)) + i4)) + i5)) + (((31 : Int32) * (((31 : Int32) * ((31 : Int32) + ((i6.toInt8.toInt32) &&& 255))) + i7)) + i8)))) (I0l : @LT.lt Nat instLTNat o2 h0.size) (I5 : Fld Z h0 o1 cN7 "type" "S" (.int i0)) (I6 : Fld Z h0 o2 cN7 "type" "S" (.int i3)) (I7 : Fld Z h0 o1 cN7 "minOccurs" "I" (.int i1)) (I8 : Fld Z h0 o2 cN7 "minOccurs" "I" (.int i4)) (I9 : Fld Z h0 o1 cN7 "maxOccurs" "I" (.int i2)) (I00 : Fld Z h0 o2 cN7 "maxOccurs" "I" (.int i5)) (I01 : Fld Z h0 o1 cN7 "name" cN8 .null) (I02 : Fld Z h0 o2 cN7 "name" cN8 .null) (I03 : Fld Z h0 o1 cN7 "particles" cN5 (.ref o5)) (I04 : Fld Z h0 o5 cN12 "c" cN13 (.ref o8)) (I0m : @LT.lt Nat instLTNat o5 h0.size) (I05 : Fld Z h0 o8 cN10 "size" "I" (.int 1)) (I0n : @LT.lt Nat instLTNat o8 h0.size) (I06 : Exa Z h0 o8 cN10) (I07 : Exa Z h0 o5 cN14) (I08 : Fld Z h0 o2 cN7 "particles" cN5 (.ref o9)) (I09 : Fld Z h0 o9 cN12 "c" cN13 (.ref o00)) (I0o : @LT.lt Nat instLTNat o9 h0.size) (I0a : Fld Z h0 o00 cN10 "size" "I" (.int 1)) (I0p : @LT.lt Nat instLTNat o00 h0.size) (I0b : Exa Z h0 o00 cN10) (I0c : Exa Z h0 o9 cN14) (I0d : Fld Z h0 o5 cN15 "list" cN5 (.ref o8)) (I0e : Fld Z h0 o8 cN10 "elementData" cN3 (.ref o01)) (I0f : Arv Z h0 o01 m2 (.object cN1) 10 [(.ref o4), .null, .null, .null, .null, .null, .null, .null, .null, .null] .null) (I0q : @LT.lt Nat instLTNat o01 h0.size) (I0g : Exa Z h0 o4 cN7) (I0h : Fld Z h0 o9 cN15 "list" cN5 (.ref o00)) (I0i : Fld Z h0 o00 cN10 "elementData" cN3 (.ref o02)) (I0j : Arv Z h0 o02 m3 (.object cN1) 10 [(.ref o4), .null, .null, .null, .null, .null, .null, .null, .null, .null] .null) (I0r : @LT.lt Nat instLTNat o02 h0.size) :
 own_Met l Z h0 mN56 B0q 7 (Option.some FieldType.boolean) ws (own_R 4 4 40 54) #[(.ref o1), (.ref o2)] (fun v h L => (((((31 : Int32) * (((31 : Int32) * (((31 : Int32) * (((31 : Int32) * i0) + 0)) + i1)) + i2)) + (((31 : Int32) * (((31 : Int32) * ((31 : Int32) + ((i6.toInt8.toInt32) &&& 255))) + i7)) + i8)) = (((31 : Int32) * (((31 : Int32) * (((31 : Int32) * (((31 : Int32) * i3) + 0)) + i4)) + i5)) + (((31 : Int32) * (((31 : Int32) * ((31 : Int32) + ((i6.toInt8.toInt32) &&& 255))) + i7)) + i8))) ∧ (i0 = i3) ∧ (i1 = i4) ∧ (i2 = i5) ∧ v = some (.int 1) ∧ Fr n0 L ∧ Keep h0 h []) ∨ (¬ (i0 = i3 ∧ i1 = i4 ∧ i2 = i5) ∧ v = some (.int 0) ∧ Fr n0 L ∧ Keep h0 h [])) 4 40 := own_go own_pn48 fun p e s m below meth c s₁ hns hrt hnm hml hZ hx hby hown X04 e1 => by
 have N0x := Fr.nil n0
 refine own_cast (own_ef12 m o1 o2) ?_
 refine oAN X04 hx hby dd36_0 rfl rfl ?_
 obtain ⟨T8, X05, e2, s2⟩ := instY X04 hx hZ hown (hw 31) e1 (Ins.self I0) (g := (mkF m 1 #[rv o1, rv o2, .unset, .unset, .unset, .unset, .unset] [(.ref o2)])) rfl rfl (hb hby dd36_1)
 refine oS s2 ?_
 refine oY0 X05 hx hby (pc' := 9) dd36_4 (XT.i0_ne_t (by decide)) ?_
 obtain ⟨T9, h2, X06, e3, E1, A0, D0, U0, s0⟩ := newO X05 hx hZ hown (hw 386) (hw 387) (hw 388) e2 (g := (mkF m 9 #[rv o1, rv o2, .unset, .unset, .unset, .unset, .unset] [])) rfl (hb hby dd36_9) (by decide) (by decide)
 obtain ⟨o0, g0⟩ : ∃ z, z = h0.size := ⟨_, rfl⟩
 rw [← g0] at A0 D0 U0 s0
 have z0 := E1.1
 have y2 : @LT.lt Nat instLTNat o0 h2.size := A0.lt
 refine oS s0 ?_
 have F0j : Fld Z h2 o0 cN23 "elements" cN3 .null := D0 (Or.inl (hw 396)) (ty := (.array (.object cN1))) (by decide)
 have F0k : Fld Z h2 o0 cN23 "head" "I" (.int 0) := D0 (Or.inl (hw 412)) (ty := .int) (by decide)
 have F0l : Fld Z h2 o0 cN23 "tail" "I" (.int 0) := D0 (Or.inl (hw 417)) (ty := .int) (by decide)
 refine oS (fun _ => XS.dup X06.here hx rfl (hb hby dd36_12) rfl rfl) ?_
 have N01 : n0 ≤ o0 := by omega
 have y0 : @LT.lt Nat instLTNat o0 h2.size := by omega
 have O4 : Old Z n0 h2 := O00.ext E1
 have Z0 : n0 ≤ h2.size := by omega
 refine own_cN X06 hx hZ hown e3 (y := mN43) (b := o0) rfl (hw 389) (hw 390) (hw 388) (hw 391) (by decide) (W := 1) (own_rm41 l Z a0 hw [] o0 h2 n0 Z0 O4 F0j A0 N01 F0k F0l y0) [] [(.ref o0)] hml (lenOf own_pd13 rfl) (hb hby dd36_13) fun T00 h02 v0 L0 X07 e4 q0 => ?_
 obtain ⟨o6, m0, rfl, N0y, K5, F24, F0m, F0n, F0o, F0p, F0q, F25, F00⟩ := q0
 have N0z := Fr.app N0x N0y
 have z1 := K5.1
 refine oASN X07 hx hby dd36_16 rfl (l' := #[rv o1, rv o2, rv o0, .unset, .unset, .unset, .unset]) rfl ?_
 obtain ⟨T01, h3, X08, e5, E0, A1, D1, U1, s1⟩ := newO X07 hx hZ hown (hw 386) (hw 387) (hw 388) e4 (g := (mkF m 17 #[rv o1, rv o2, rv o0, .unset, .unset, .unset, .unset] [])) rfl (hb hby dd36_17) (by decide) (by decide)
 obtain ⟨o3, g1⟩ : ∃ z, z = h02.size := ⟨_, rfl⟩
 rw [← g1] at A1 D1 U1 s1
 have z2 := E0.1
 have y3 : @LT.lt Nat instLTNat o3 h3.size := A1.lt
 refine oS s1 ?_
 have F0r : Fld Z h3 o3 cN23 "elements" cN3 .null := D1 (Or.inl (hw 396)) (ty := (.array (.object cN1))) (by decide)
 have F0s : Fld Z h3 o3 cN23 "head" "I" (.int 0) := D1 (Or.inl (hw 412)) (ty := .int) (by decide)
 have F0t : Fld Z h3 o3 cN23 "tail" "I" (.int 0) := D1 (Or.inl (hw 417)) (ty := .int) (by decide)
 refine oS (fun _ => XS.dup X08.here hx rfl (hb hby dd36_20) rfl rfl) ?_
 have N02 : n0 ≤ o3 := by omega
 have y1 : @LT.lt Nat instLTNat o3 h3.size := by omega
 have O01 : Old Z n0 h02 := O4.keep K5 (allS N01 all0)
 have O5 : Old Z n0 h3 := O01.ext E0
 have Z1 : n0 ≤ h3.size := by omega
 refine own_cN X08 hx hZ hown e5 (y := mN43) (b := o3) rfl (hw 389) (hw 390) (hw 388) (hw 391) (by decide) (W := 1) (own_rm41 l Z a0 hw [] o3 h3 n0 Z1 O5 F0r A1 N02 F0s F0t y1) [] [(.ref o3)] hml (lenOf own_pd13 rfl) (hb hby dd36_21) fun T0 h8 v1 L1 X4 e6 q1 => ?_
 obtain ⟨o7, m1, rfl, N0A, K0, F26, F0u, F0v, F0w, F0x, F0y, F27, F01⟩ := q1
 have N0B := Fr.app N0z N0A
 have z3 := K0.1
 show own_G p e below (T0.setTop (mkF m 24 #[rv o1, rv o2, rv o0, .unset, .unset, .unset, .unset] [(.ref o3)])) _
 refine oASN X4 hx hby dd36_24 rfl (l' := #[rv o1, rv o2, rv o0, rv o3, .unset, .unset, .unset]) rfl ?_
 refine oAN X4 hx hby dd36_25 rfl rfl ?_
 refine oAN X4 hx hby dd36_26 rfl rfl ?_
 have N0 : @Ne Nat o0 o3 := by omega
 have F0z := (Fld.ext E0 F0m).keep K0 (ninS N0 nin0)
 have F0A := (Fld.ext E0 F0o).keep K0 (ninS N0 nin0)
 have N5 : @Ne Nat o6 o3 := by omega
 have F0B := (F0q.ext E0).keep K0 (ninS N5 nin0)
 have F02 := (Exa.ext E0 F0n).keep K0
 have N0k : @Ne Nat o6 o0 := by omega
 have F03 := (Exa.ext E0 ((Exa.ext E1 I1).keep K5)).keep K0
 have N03 : n0 ≤ o6 := by omega
 have F0C := (Fld.ext E0 F0p).keep K0 (ninS N0 nin0)
 have O6 : Old Z n0 h8 := O5.keep K0 (allS N02 all0)
 have Z2 : n0 ≤ h8.size := by omega
 refine own_cI X4 hx hZ hown e6 (y := mN57) (z := mN46) (b := o0) (hw 397) (hw 398) (hw 399) rfl (hw 400) (hw 401) (hw 402) (hw 403) (hw 404) (hw 388) (hw 405) (by decide) F02 (W := 0) (own_rm42 l Z a0 hw [] m0 o0 o1 o6 h8 n0 Z2 O6 F0z F0A F0B F02 N01 N0k F00 F03 N03 F0C) [(.ref o1)] [] hml (lenOf own_pd23 rfl) (hb hby dd36_27) fun T02 h9 v2 L2 X7 e7 q2 => ?_
 obtain ⟨rfl, N0C, K1, F0D, F0E, F0F, F0G, F0H⟩ := q2
 have N0D := Fr.app N0B N0C
 have z4 := K1.1
 refine oAN X7 hx hby dd36_32 rfl rfl ?_
 refine oAN X7 hx hby dd36_33 rfl rfl ?_
 have F4 := ((Exa.ext E0 ((Exa.ext E1 I0).keep K5)).keep K0).keep K1
 refine own_cY X7 hx hZ hown (hw 304) e7 (Ins.of_exa F4 (hw 305)) (hb hby dd36_34) fun T03 X0c e8 => ?_
 have F0I := F0u.keep K1 (ninS (Ne.symm N0) (ninS (Ne.symm N5) nin0))
 have F0J := F0w.keep K1 (ninS (Ne.symm N0) (ninS (Ne.symm N5) nin0))
 have N06 : @Ne Nat o7 o6 := by omega
 have N6 : @Ne Nat o7 o0 := by omega
 have F0K := F0y.keep K1 (ninS N6 (ninS N06 nin0))
 have F04 := F0v.keep K1
 have N0l : @Ne Nat o7 o3 := by omega
 have N04 : n0 ≤ o7 := by omega
 have F0L := F0x.keep K1 (ninS (Ne.symm N0) (ninS (Ne.symm N5) nin0))
 have O7 : Old Z n0 h9 := O6.keep K1 (allS N01 (allS N03 all0))
 have Z3 : n0 ≤ h9.size := by omega
 refine own_cI X0c hx hZ hown e8 (y := mN57) (z := mN46) (b := o3) (hw 397) (hw 398) (hw 399) rfl (hw 400) (hw 401) (hw 402) (hw 403) (hw 404) (hw 388) (hw 405) (by decide) F04 (W := 0) (own_rm42 l Z a0 hw [] m1 o3 o2 o7 h9 n0 Z3 O7 F0I F0J F0K F04 N02 N0l F01 F4 N04 F0L) [(.ref o2)] [] hml (lenOf own_pd23 rfl) (hb hby dd36_37) fun T04 h5 v3 L3 X09 e9 q3 => ?_
 obtain ⟨rfl, N0E, K2, F0M, F0N, F0O, F0P, F0Q⟩ := q3
 have N0F := Fr.app N0D N0E
 have z5 := K2.1
 refine oAN X09 hx hby dd36_42 rfl rfl ?_
 have F05 := F0D.keep K2 (ninS N0 (ninS (Ne.symm N6) nin0))
 have F06 := F0E.keep K2 (ninS N0 (ninS (Ne.symm N6) nin0))
 have O2 : Old Z n0 h5 := O7.keep K2 (allS N02 (allS N04 all0))
 have Z4 : n0 ≤ h5.size := by omega
 have F5 := F0G.keep K2
 refine own_cIU X09 hx hZ hown e9 (y := mN58) (z := mN47) (J := cN16) (b := o0) (hw 418) (hw 419) (hw 420) (by decide) (by decide) (hw 421) (hw 422) (hw 423) (hw 424) (hw 404) (hw 388) (hw 425) (by decide) F5 (W := 0) (own_rm45 l Z a0 hw [] o0 h5 n0 Z4 O2 F05 F06) [] [] hml (lenOf own_pd5 rfl) (hb hby dd36_43) fun T1 h03 v4 L4 X8 e00 q4 => ?_
 obtain ⟨rfl, N0G, K00⟩ := q4
 have N0H := Fr.app N0F N0G
 have e01 := e00.trans K00
 show own_G p e below (T1.setTop (mkF m 48 #[rv o1, rv o2, rv o0, rv o3, .unset, .unset, .unset] [(.int 0)])) _
 refine oN0 X8 hx hby dd36_48 (XT.i0_ne_f (by decide)) ?_
 refine oAN X8 hx hby dd36_51 rfl rfl ?_
 have F0R := F0F.keep K2 (ninS N0 (ninS (Ne.symm N6) nin0))
 have F0S := F0H.keep K2 (ninS N5 (ninS (Ne.symm N06) nin0))
 have Z5 : n0 ≤ h5.size := by omega
 refine own_cI X8 hx hZ hown e01 (y := mN59) (z := mN52) (b := o0) (hw 426) (hw 427) (hw 428) rfl (hw 429) (hw 430) (hw 431) (hw 432) (hw 404) (hw 388) (hw 433) (by decide) F5 (W := 0) (own_rm46 l Z a0 hw [] m0 o0 o6 o1 h5 n0 Z5 O2 F0R F05 F0S N03 (Ne.symm N0k) F5 N01 F06) [] [] hml (lenOf own_pd25 rfl) (hb hby dd36_52) fun T05 h00 v5 L5 X0d e02 q5 => ?_
 obtain ⟨rfl, N0I, K3, F0T, F0U, F0V, F0W, F0X⟩ := q5
 have N0J := Fr.app N0H N0I
 have z6 := K3.1
 have F07 := ((F03.keep K1).keep K2).keep K3
 refine own_cY X0d hx hZ hown (hw 31) e02 (Ins.self F07) (hb hby dd36_57) fun T06 X9 e03 => ?_
 refine oAS X9 hx hby dd36_60 rfl (l' := #[rv o1, rv o2, rv o0, rv o3, rv o1, .unset, .unset]) rfl ?_
 refine oAN X9 hx hby dd36_62 rfl rfl ?_
 have F0Y := F0O.keep K3 (ninS (Ne.symm N5) (ninS (Ne.symm N0) nin0))
 have F0Z := F0M.keep K3 (ninS (Ne.symm N5) (ninS (Ne.symm N0) nin0))
 have F10 := F0Q.keep K3 (ninS N06 (ninS N6 nin0))
 have F08 := F0P.keep K3
 have F11 := F0N.keep K3 (ninS (Ne.symm N5) (ninS (Ne.symm N0) nin0))
 have O8 : Old Z n0 h00 := O2.keep K3 (allS N03 (allS N01 all0))
 have Z6 : n0 ≤ h00.size := by omega
 refine own_cI X9 hx hZ hown e03 (y := mN59) (z := mN52) (b := o3) (hw 426) (hw 427) (hw 428) rfl (hw 429) (hw 430) (hw 431) (hw 432) (hw 404) (hw 388) (hw 433) (by decide) F08 (W := 0) (own_rm46 l Z a0 hw [] m1 o3 o7 o2 h00 n0 Z6 O8 F0Y F0Z F10 N04 (Ne.symm N0l) F08 N02 F11) [] [] hml (lenOf own_pd25 rfl) (hb hby dd36_63) fun T07 h1 v6 L6 X0e e04 q6 => ?_
 obtain ⟨rfl, N0K, K4, F12, F13, F14, F15, F16⟩ := q6
 have N0t := Fr.app N0J N0K
 have z7 := K4.1
 have F17 := ((F4.keep K2).keep K3).keep K4
 refine own_cY X0e hx hZ hown (hw 31) e04 (Ins.self F17) (hb hby dd36_68) fun T2 X1 e05 => ?_
 refine oAS X1 hx hby dd36_71 rfl (l' := #[rv o1, rv o2, rv o0, rv o3, rv o1, rv o2, .unset]) rfl ?_
 refine oAL X1 hx hby dd36_73 rfl rfl ?_
 show own_G p e below (T2.setTop (mkF m 75 #[rv o1, rv o2, rv o0, rv o3, rv o1, rv o2, .unset] [(.ref o1)])) _
 refine oAL X1 hx hby dd36_75 rfl rfl ?_
 refine oS (fun _ => XT.acmpYes X1.here hx rfl (pc0 := 77) (pc' := 83) rfl (hb hby dd36_77) rfl rfl rfl (XT.aa_ne_t (own_rne I2)) (by decide) (by decide)) ?_
 refine oAL X1 hx hby dd36_83 rfl rfl ?_
 refine oAL X1 hx hby dd36_85 rfl rfl ?_
 have N1 : @Ne Nat o1 o0 := by omega
 have N2 : @Ne Nat o1 o3 := by omega
 have N7 : @Ne Nat o1 o6 := by omega
 have N8 : @Ne Nat o1 o7 := by omega
 have F18 := (((((Fld.ext E0 ((Fld.ext E1 I3).keep K5 (ninS N1 nin0))).keep K0 (ninS N2 nin0)).keep K1 (ninS N1 (ninS N7 nin0))).keep K2 (ninS N2 (ninS N8 nin0))).keep K3 (ninS N7 (ninS N1 nin0))).keep K4 (ninS N8 (ninS N2 nin0))
 have N3 : @Ne Nat o2 o0 := by omega
 have N4 : @Ne Nat o2 o3 := by omega
 have N9 : @Ne Nat o2 o6 := by omega
 have N00 : @Ne Nat o2 o7 := by omega
 have F19 := (((((Fld.ext E0 ((Fld.ext E1 I4).keep K5 (ninS N3 nin0))).keep K0 (ninS N4 nin0)).keep K1 (ninS N3 (ninS N9 nin0))).keep K2 (ninS N4 (ninS N00 nin0))).keep K3 (ninS N9 (ninS N3 nin0))).keep K4 (ninS N00 (ninS N4 nin0))
 have F1a := (((((Fld.ext E0 ((Fld.ext E1 I5).keep K5 (ninS N1 nin0))).keep K0 (ninS N2 nin0)).keep K1 (ninS N1 (ninS N7 nin0))).keep K2 (ninS N2 (ninS N8 nin0))).keep K3 (ninS N7 (ninS N1 nin0))).keep K4 (ninS N8 (ninS N2 nin0))
 have F1b := (((((Fld.ext E0 ((Fld.ext E1 I6).keep K5 (ninS N3 nin0))).keep K0 (ninS N4 nin0)).keep K1 (ninS N3 (ninS N9 nin0))).keep K2 (ninS N4 (ninS N00 nin0))).keep K3 (ninS N9 (ninS N3 nin0))).keep K4 (ninS N00 (ninS N4 nin0))
 have F1c := (((((Fld.ext E0 ((Fld.ext E1 I7).keep K5 (ninS N1 nin0))).keep K0 (ninS N2 nin0)).keep K1 (ninS N1 (ninS N7 nin0))).keep K2 (ninS N2 (ninS N8 nin0))).keep K3 (ninS N7 (ninS N1 nin0))).keep K4 (ninS N8 (ninS N2 nin0))
 have F1d := (((((Fld.ext E0 ((Fld.ext E1 I8).keep K5 (ninS N3 nin0))).keep K0 (ninS N4 nin0)).keep K1 (ninS N3 (ninS N9 nin0))).keep K2 (ninS N4 (ninS N00 nin0))).keep K3 (ninS N9 (ninS N3 nin0))).keep K4 (ninS N00 (ninS N4 nin0))
 have F1e := (((((Fld.ext E0 ((Fld.ext E1 I9).keep K5 (ninS N1 nin0))).keep K0 (ninS N2 nin0)).keep K1 (ninS N1 (ninS N7 nin0))).keep K2 (ninS N2 (ninS N8 nin0))).keep K3 (ninS N7 (ninS N1 nin0))).keep K4 (ninS N8 (ninS N2 nin0))
 have F1f := (((((Fld.ext E0 ((Fld.ext E1 I00).keep K5 (ninS N3 nin0))).keep K0 (ninS N4 nin0)).keep K1 (ninS N3 (ninS N9 nin0))).keep K2 (ninS N4 (ninS N00 nin0))).keep K3 (ninS N9 (ninS N3 nin0))).keep K4 (ninS N00 (ninS N4 nin0))
 have F1g := (((((Fld.ext E0 ((Fld.ext E1 I01).keep K5 (ninS N1 nin0))).keep K0 (ninS N2 nin0)).keep K1 (ninS N1 (ninS N7 nin0))).keep K2 (ninS N2 (ninS N8 nin0))).keep K3 (ninS N7 (ninS N1 nin0))).keep K4 (ninS N8 (ninS N2 nin0))
 have F1h := (((((Fld.ext E0 ((Fld.ext E1 I02).keep K5 (ninS N3 nin0))).keep K0 (ninS N4 nin0)).keep K1 (ninS N3 (ninS N9 nin0))).keep K2 (ninS N4 (ninS N00 nin0))).keep K3 (ninS N9 (ninS N3 nin0))).keep K4 (ninS N00 (ninS N4 nin0))
 have F0 := (((((Fld.ext E0 ((Fld.ext E1 I03).keep K5 (ninS N1 nin0))).keep K0 (ninS N2 nin0)).keep K1 (ninS N1 (ninS N7 nin0))).keep K2 (ninS N2 (ninS N8 nin0))).keep K3 (ninS N7 (ninS N1 nin0))).keep K4 (ninS N8 (ninS N2 nin0))
 have N07 : @Ne Nat o5 o0 := by omega
 have N08 : @Ne Nat o5 o3 := by omega
 have N0f : @Ne Nat o5 o6 := by omega
 have N0g : @Ne Nat o5 o7 := by omega
 have F6 := (((((Fld.ext E0 ((Fld.ext E1 I04).keep K5 (ninS N07 nin0))).keep K0 (ninS N08 nin0)).keep K1 (ninS N07 (ninS N0f nin0))).keep K2 (ninS N08 (ninS N0g nin0))).keep K3 (ninS N0f (ninS N07 nin0))).keep K4 (ninS N0g (ninS N08 nin0))
 have N09 : @Ne Nat o8 o0 := by omega
 have N0a : @Ne Nat o8 o3 := by omega
 have N0h : @Ne Nat o8 o6 := by omega
 have N0i : @Ne Nat o8 o7 := by omega
 have F1 := (((((Fld.ext E0 ((Fld.ext E1 I05).keep K5 (ninS N09 nin0))).keep K0 (ninS N0a nin0)).keep K1 (ninS N09 (ninS N0h nin0))).keep K2 (ninS N0a (ninS N0i nin0))).keep K3 (ninS N0h (ninS N09 nin0))).keep K4 (ninS N0i (ninS N0a nin0))
 have F2 := (((((Exa.ext E0 ((Exa.ext E1 I06).keep K5)).keep K0).keep K1).keep K2).keep K3).keep K4
 have F3 := (((((Exa.ext E0 ((Exa.ext E1 I07).keep K5)).keep K0).keep K1).keep K2).keep K3).keep K4
 have F09 := (((((Fld.ext E0 ((Fld.ext E1 I08).keep K5 (ninS N3 nin0))).keep K0 (ninS N4 nin0)).keep K1 (ninS N3 (ninS N9 nin0))).keep K2 (ninS N4 (ninS N00 nin0))).keep K3 (ninS N9 (ninS N3 nin0))).keep K4 (ninS N00 (ninS N4 nin0))
 have N0b : @Ne Nat o9 o0 := by omega
 have N0c : @Ne Nat o9 o3 := by omega
 have N0j : @Ne Nat o9 o6 := by omega
 have N0m : @Ne Nat o9 o7 := by omega
 have F1i := (((((Fld.ext E0 ((Fld.ext E1 I09).keep K5 (ninS N0b nin0))).keep K0 (ninS N0c nin0)).keep K1 (ninS N0b (ninS N0j nin0))).keep K2 (ninS N0c (ninS N0m nin0))).keep K3 (ninS N0j (ninS N0b nin0))).keep K4 (ninS N0m (ninS N0c nin0))
 have N05 : @Ne Nat o00 o0 := by omega
 have N0d : @Ne Nat o00 o3 := by omega
 have N0e : @Ne Nat o00 o6 := by omega
 have N0n : @Ne Nat o00 o7 := by omega
 have F0a := (((((Fld.ext E0 ((Fld.ext E1 I0a).keep K5 (ninS N05 nin0))).keep K0 (ninS N0d nin0)).keep K1 (ninS N05 (ninS N0e nin0))).keep K2 (ninS N0d (ninS N0n nin0))).keep K3 (ninS N0e (ninS N05 nin0))).keep K4 (ninS N0n (ninS N0d nin0))
 have F0b := (((((Exa.ext E0 ((Exa.ext E1 I0b).keep K5)).keep K0).keep K1).keep K2).keep K3).keep K4
 have F0c := (((((Exa.ext E0 ((Exa.ext E1 I0c).keep K5)).keep K0).keep K1).keep K2).keep K3).keep K4
 have O0 : Old Z n0 h1 := O8.keep K4 (allS N04 (allS N02 all0))
 have Z7 : n0 ≤ h1.size := by omega
 have F1j := F07.keep K4
 refine own_cP X1 hx hZ hown e05 (y := mN54) (b := o1) (hw 450) (hw 451) (own_selP (hw 451) (hw 452) (hw 308) rfl (by decide)) (hw 452) (hw 29) (hw 453) (by decide) F1j (W := 0) (own_rm84 l Z a0 hw [] i0 i1 i2 i6 i7 i8 i3 i4 i5 o1 o2 o5 o8 o9 o00 h1 n0 Z7 O0 F18 F19 F1a F1b F1c F1d F1e F1f F1g F1h F0 F6 F1 F2 F3 F09 F1i F0a F0b F0c) [(.ref o2)] [] hml (lenOf own_pd27 rfl) (hb hby dd36_87) fun T3 h04 v7 L7 X0 e0 q7 => ?_
 rcases q7 with ⟨b0, b1, b2, b3, rfl, N0L, K01⟩ | ⟨b4, rfl, N0M, K02⟩
 ·skip
  have N0N := Fr.app N0t N0L
  have e06 := e0.trans K01
  refine oY0 X0 hx hby (pc' := 95) dd36_90 (XT.i0_ne_t (by decide)) ?_
  refine oIC X0 hx hby dd36_95 ?_
  refine oIS X0 hx hby dd36_96 (l' := #[rv o1, rv o2, rv o0, rv o3, rv o1, rv o2, iv 0]) rfl ?_
  refine oIL X0 hx hby dd36_98 rfl ?_
  refine oAL X0 hx hby dd36_100 rfl rfl ?_
  show own_G p e below (T3.setTop (mkF m 102 #[rv o1, rv o2, rv o0, rv o3, rv o1, rv o2, iv 0] [(.ref o1), (.int 0)])) _
  refine own_gF X0 hx hZ hown (hw 51) e06 F0 (hb hby dd36_102) fun T08 X0f e07 => ?_
  have Z8 : n0 ≤ h1.size := by omega
  refine own_cI X0f hx hZ hown e07 (y := mN55) (z := mN41) (b := o5) (hw 457) (hw 339) (hw 340) rfl (hw 341) (hw 342) (hw 343) (hw 344) (hw 229) (hw 218) (hw 345) (by decide) F3 (W := 1) (own_rm76 l Z a0 hw [] o5 o8 h1 n0 Z8 O0 F6 F1 F2) [] [(.int 0)] hml (lenOf own_pd7 rfl) (hb hby dd36_105) fun T09 h05 v8 L8 X5 e08 q8 => ?_
  obtain ⟨rfl, N0O, K03⟩ := q8
  have N0P := Fr.app N0N N0O
  have e09 := e08.trans K03
  refine oNI X5 hx hby dd36_110 (XT.ii_ge_f (by decide)) ?_
  refine oAN X5 hx hby dd36_113 rfl rfl ?_
  refine oAL X5 hx hby dd36_114 rfl rfl ?_
  refine own_gF X5 hx hZ hown (hw 51) e09 F0 (hb hby dd36_116) fun T0a X0a e0a => ?_
  refine oIL X0a hx hby dd36_119 rfl ?_
  have F1k := (((((Fld.ext E0 ((Fld.ext E1 I0d).keep K5 (ninS N07 nin0))).keep K0 (ninS N08 nin0)).keep K1 (ninS N07 (ninS N0f nin0))).keep K2 (ninS N08 (ninS N0g nin0))).keep K3 (ninS N0f (ninS N07 nin0))).keep K4 (ninS N0g (ninS N08 nin0))
  have F1l := (((((Fld.ext E0 ((Fld.ext E1 I0e).keep K5 (ninS N09 nin0))).keep K0 (ninS N0a nin0)).keep K1 (ninS N09 (ninS N0h nin0))).keep K2 (ninS N0a (ninS N0i nin0))).keep K3 (ninS N0h (ninS N09 nin0))).keep K4 (ninS N0i (ninS N0a nin0))
  have N0p : @Ne Nat o01 o0 := by omega
  have N0q : @Ne Nat o01 o3 := by omega
  have N0u : @Ne Nat o01 o6 := by omega
  have N0v : @Ne Nat o01 o7 := by omega
  have F1m := (((((((I0f.ext E1).keep K5 (ninS N0p nin0)).ext E0).keep K0 (ninS N0q nin0)).keep K1 (ninS N0p (ninS N0u nin0))).keep K2 (ninS N0q (ninS N0v nin0))).keep K3 (ninS N0u (ninS N0p nin0))).keep K4 (ninS N0v (ninS N0q nin0))
  have Z9 : n0 ≤ h1.size := by omega
  refine own_cI X0a hx hZ hown e0a (y := mN76) (z := mN75) (b := o5) (hw 458) (hw 355) (hw 356) rfl (hw 357) (hw 358) (hw 359) (hw 360) (hw 229) (hw 212) (hw 361) (by decide) F3 (W := 1) (own_rm78 l Z a0 hw [] m2 o5 o8 o01 o4 h1 n0 Z9 O0 F1k F1 F1l F1m F2) [(.int 0)] [(.ref o0)] hml (lenOf own_pd33 rfl) (hb hby dd36_121) fun T0b h06 v9 L9 X0g e0b q9 => ?_
  obtain ⟨rfl, N0Q, K04⟩ := q9
  have N0R := Fr.app N0P N0Q
  have e0c := e0b.trans K04
  have F7 := (((((Exa.ext E0 ((Exa.ext E1 I0g).keep K5)).keep K0).keep K1).keep K2).keep K3).keep K4
  refine own_cY X0g hx hZ hown (hw 304) e0c (Ins.of_exa F7 (hw 305)) (hb hby dd36_126) fun T0c X0h e0d => ?_
  have F1n := F0W.keep K4 (ninS (Ne.symm N6) (ninS N0 nin0))
  have F1o := F0U.keep K4 (ninS (Ne.symm N6) (ninS N0 nin0))
  have F1p := F0T.keep K4 (ninS (Ne.symm N06) (ninS N5 nin0))
  have F0d := F0V.keep K4
  have F1q := F0X.keep K4 (ninS (Ne.symm N6) (ninS N0 nin0))
  have Z00 : n0 ≤ h1.size := by omega
  refine own_cI X0h hx hZ hown e0d (y := mN57) (z := mN46) (b := o0) (hw 397) (hw 398) (hw 399) rfl (hw 400) (hw 401) (hw 402) (hw 403) (hw 404) (hw 388) (hw 405) (by decide) F0d (W := 0) (own_rm42 l Z a0 hw [] m0 o0 o4 o6 h1 n0 Z00 O0 F1n F1o F1p F0d N01 N0k F00 F7 N03 F1q) [(.ref o4)] [] hml (lenOf own_pd23 rfl) (hb hby dd36_129) fun T4 h6 v00 L00 X00 e0e q00 => ?_
  obtain ⟨rfl, N0S, K6, F1r, F1s, F1t, F1u, F1v⟩ := q00
  have N0T := Fr.app N0R N0S
  have z8 := K6.1
  show own_G p e below (T4.setTop (mkF m 134 #[rv o1, rv o2, rv o0, rv o3, rv o1, rv o2, iv 0] [])) _
  refine oAN X00 hx hby dd36_134 rfl rfl ?_
  refine oAL X00 hx hby dd36_135 rfl rfl ?_
  have F1w := F09.keep K6 (ninS N3 (ninS N9 nin0))
  refine own_gF X00 hx hZ hown (hw 51) e0e F1w (hb hby dd36_137) fun T0d X0b e0f => ?_
  refine oIL X0b hx hby dd36_140 rfl ?_
  have F1x := ((((((Fld.ext E0 ((Fld.ext E1 I0h).keep K5 (ninS N0b nin0))).keep K0 (ninS N0c nin0)).keep K1 (ninS N0b (ninS N0j nin0))).keep K2 (ninS N0c (ninS N0m nin0))).keep K3 (ninS N0j (ninS N0b nin0))).keep K4 (ninS N0m (ninS N0c nin0))).keep K6 (ninS N0b (ninS N0j nin0))
  have F1y := F0a.keep K6 (ninS N05 (ninS N0e nin0))
  have F1z := ((((((Fld.ext E0 ((Fld.ext E1 I0i).keep K5 (ninS N05 nin0))).keep K0 (ninS N0d nin0)).keep K1 (ninS N05 (ninS N0e nin0))).keep K2 (ninS N0d (ninS N0n nin0))).keep K3 (ninS N0e (ninS N05 nin0))).keep K4 (ninS N0n (ninS N0d nin0))).keep K6 (ninS N05 (ninS N0e nin0))
  have N0o : @Ne Nat o02 o0 := by omega
  have N0r : @Ne Nat o02 o3 := by omega
  have N0s : @Ne Nat o02 o6 := by omega
  have N0w : @Ne Nat o02 o7 := by omega
  have F1A := ((((((((I0j.ext E1).keep K5 (ninS N0o nin0)).ext E0).keep K0 (ninS N0r nin0)).keep K1 (ninS N0o (ninS N0s nin0))).keep K2 (ninS N0r (ninS N0w nin0))).keep K3 (ninS N0s (ninS N0o nin0))).keep K4 (ninS N0w (ninS N0r nin0))).keep K6 (ninS N0o (ninS N0s nin0))
  have F1B := F0b.keep K6
  have O3 : Old Z n0 h6 := O0.keep K6 (allS N01 (allS N03 all0))
  have Z01 : n0 ≤ h6.size := by omega
  have F1C := F0c.keep K6
  refine own_cI X0b hx hZ hown e0f (y := mN76) (z := mN75) (b := o9) (hw 458) (hw 355) (hw 356) rfl (hw 357) (hw 358) (hw 359) (hw 360) (hw 229) (hw 212) (hw 361) (by decide) F1C (W := 1) (own_rm78 l Z a0 hw [] m3 o9 o00 o02 o4 h6 n0 Z01 O3 F1x F1y F1z F1A F1B) [(.int 0)] [(.ref o3)] hml (lenOf own_pd33 rfl) (hb hby dd36_142) fun T0e h07 v01 L01 X0i e0g q01 => ?_
  obtain ⟨rfl, N0U, K05⟩ := q01
  have N0V := Fr.app N0T N0U
  have e0h := e0g.trans K05
  have F8 := F7.keep K6
  refine own_cY X0i hx hZ hown (hw 304) e0h (Ins.of_exa F8 (hw 305)) (hb hby dd36_147) fun T0f X0j e0i => ?_
  have F1D := F15.keep K6 (ninS (Ne.symm N0) (ninS (Ne.symm N5) nin0))
  have F1E := F13.keep K6 (ninS (Ne.symm N0) (ninS (Ne.symm N5) nin0))
  have F1F := F12.keep K6 (ninS N6 (ninS N06 nin0))
  have F0e := F14.keep K6
  have F1G := F16.keep K6 (ninS (Ne.symm N0) (ninS (Ne.symm N5) nin0))
  have Z02 : n0 ≤ h6.size := by omega
  refine own_cI X0j hx hZ hown e0i (y := mN57) (z := mN46) (b := o3) (hw 397) (hw 398) (hw 399) rfl (hw 400) (hw 401) (hw 402) (hw 403) (hw 404) (hw 388) (hw 405) (by decide) F0e (W := 0) (own_rm42 l Z a0 hw [] m1 o3 o4 o7 h6 n0 Z02 O3 F1D F1E F1F F0e N02 N0l F01 F8 N04 F1G) [(.ref o4)] [] hml (lenOf own_pd23 rfl) (hb hby dd36_150) fun T5 h4 v02 L02 X3 e0j q02 => ?_
  obtain ⟨rfl, N0W, K7, F1H, F1I, F1J, F1K, F1L⟩ := q02
  have N0X := Fr.app N0V N0W
  have z9 := K7.1
  refine oS (fun _ => XS.iinc X3.here hx rfl (hb hby dd36_155) rfl (l' := #[rv o1, rv o2, rv o0, rv o3, rv o1, rv o2, iv 1]) rfl) ?_
  refine oGO X3 hx hby (pc' := 98) dd36_158 ?_
  refine oIL X3 hx hby dd36_98 rfl ?_
  show own_G p e below (T5.setTop (mkF m 100 #[rv o1, rv o2, rv o0, rv o3, rv o1, rv o2, iv 1] [(.int 1)])) _
  refine oAL X3 hx hby dd36_100 rfl rfl ?_
  have F1M := (F0.keep K6 (ninS N1 (ninS N7 nin0))).keep K7 (ninS N2 (ninS N8 nin0))
  refine own_gF X3 hx hZ hown (hw 51) e0j F1M (hb hby dd36_102) fun T0g X0k e0k => ?_
  have F1N := (F6.keep K6 (ninS N07 (ninS N0f nin0))).keep K7 (ninS N08 (ninS N0g nin0))
  have F1O := (F1.keep K6 (ninS N09 (ninS N0h nin0))).keep K7 (ninS N0a (ninS N0i nin0))
  have F1P := (F2.keep K6).keep K7
  have O1 : Old Z n0 h4 := O3.keep K7 (allS N02 (allS N04 all0))
  have Z03 : n0 ≤ h4.size := by omega
  have F1Q := (F3.keep K6).keep K7
  refine own_cI X0k hx hZ hown e0k (y := mN55) (z := mN41) (b := o5) (hw 457) (hw 339) (hw 340) rfl (hw 341) (hw 342) (hw 343) (hw 344) (hw 229) (hw 218) (hw 345) (by decide) F1Q (W := 1) (own_rm76 l Z a0 hw [] o5 o8 h4 n0 Z03 O1 F1N F1O F1P) [] [(.int 1)] hml (lenOf own_pd7 rfl) (hb hby dd36_105) fun T0h h08 v03 L03 X6 e0l q03 => ?_
  obtain ⟨rfl, N0Y, K06⟩ := q03
  have N0Z := Fr.app N0X N0Y
  have e0m := e0l.trans K06
  refine oYI X6 hx hby (pc' := 161) dd36_110 (XT.ii_ge_t (by decide)) ?_
  refine oGO X6 hx hby (pc' := 42) dd36_161 ?_
  refine oAN X6 hx hby dd36_42 rfl rfl ?_
  have F0f := F1r.keep K7 (ninS N0 (ninS (Ne.symm N6) nin0))
  have F0g := F1s.keep K7 (ninS N0 (ninS (Ne.symm N6) nin0))
  have Z04 : n0 ≤ h4.size := by omega
  have F9 := F1u.keep K7
  refine own_cIU X6 hx hZ hown e0m (y := mN58) (z := mN47) (J := cN16) (b := o0) (hw 418) (hw 419) (hw 420) (by decide) (by decide) (hw 421) (hw 422) (hw 423) (hw 424) (hw 404) (hw 388) (hw 425) (by decide) F9 (W := 0) (own_rm45 l Z a0 hw [] o0 h4 n0 Z04 O1 F0f F0g) [] [] hml (lenOf own_pd5 rfl) (hb hby dd36_43) fun T0i h09 v04 L04 X01 e0n q04 => ?_
  obtain ⟨rfl, N10, K07⟩ := q04
  have N11 := Fr.app N0Z N10
  have e0o := e0n.trans K07
  refine oN0 X01 hx hby dd36_48 (XT.i0_ne_f (by decide)) ?_
  refine oAN X01 hx hby dd36_51 rfl rfl ?_
  have F1R := F1t.keep K7 (ninS N0 (ninS (Ne.symm N6) nin0))
  have F1S := F1v.keep K7 (ninS N5 (ninS (Ne.symm N06) nin0))
  have Z05 : n0 ≤ h4.size := by omega
  refine own_cI X01 hx hZ hown e0o (y := mN59) (z := mN52) (b := o0) (hw 426) (hw 427) (hw 428) rfl (hw 429) (hw 430) (hw 431) (hw 432) (hw 404) (hw 388) (hw 433) (by decide) F9 (W := 0) (own_rm46 l Z a0 hw [] m0 o0 o6 o4 h4 n0 Z05 O1 F1R F0f F1S N03 (Ne.symm N0k) F9 N01 F0g) [] [] hml (lenOf own_pd25 rfl) (hb hby dd36_52) fun T6 h01 v05 L05 X0l e0p q05 => ?_
  obtain ⟨rfl, N12, K8, F28, F1T, F1U, F29, F1V⟩ := q05
  have N13 := Fr.app N11 N12
  have z00 := K8.1
  show own_G p e below (T6.setTop (mkF m 57 #[rv o1, rv o2, rv o0, rv o3, rv o1, rv o2, iv 1] [(.ref o4)])) _
  have F0h := (F8.keep K7).keep K8
  refine own_cY X0l hx hZ hown (hw 31) e0p (Ins.self F0h) (hb hby dd36_57) fun T0j X02 e0q => ?_
  refine oAS X02 hx hby dd36_60 rfl (l' := #[rv o1, rv o2, rv o0, rv o3, rv o4, rv o2, iv 1]) rfl ?_
  refine oAN X02 hx hby dd36_62 rfl rfl ?_
  have F1W := F1J.keep K8 (ninS (Ne.symm N5) (ninS (Ne.symm N0) nin0))
  have F1X := F1H.keep K8 (ninS (Ne.symm N5) (ninS (Ne.symm N0) nin0))
  have F1Y := F1L.keep K8 (ninS N06 (ninS N6 nin0))
  have F0i := F1K.keep K8
  have F1Z := F1I.keep K8 (ninS (Ne.symm N5) (ninS (Ne.symm N0) nin0))
  have O9 : Old Z n0 h01 := O1.keep K8 (allS N03 (allS N01 all0))
  have Z06 : n0 ≤ h01.size := by omega
  refine own_cI X02 hx hZ hown e0q (y := mN59) (z := mN52) (b := o3) (hw 426) (hw 427) (hw 428) rfl (hw 429) (hw 430) (hw 431) (hw 432) (hw 404) (hw 388) (hw 433) (by decide) F0i (W := 0) (own_rm46 l Z a0 hw [] m1 o3 o7 o4 h01 n0 Z06 O9 F1W F1X F1Y N04 (Ne.symm N0l) F0i N02 F1Z) [] [] hml (lenOf own_pd25 rfl) (hb hby dd36_63) fun T0k h7 v06 L06 X0m e0r q06 => ?_
  obtain ⟨rfl, N14, K9, F2a, F2b, F2c, F2d, F2e⟩ := q06
  have N15 := Fr.app N13 N14
  have z01 := K9.1
  have F20 := F0h.keep K9
  refine own_cY X0m hx hZ hown (hw 31) e0r (Ins.self F20) (hb hby dd36_68) fun T7 X2 e0s => ?_
  refine oAS X2 hx hby dd36_71 rfl (l' := #[rv o1, rv o2, rv o0, rv o3, rv o4, rv o4, iv 1]) rfl ?_
  refine oAL X2 hx hby dd36_73 rfl rfl ?_
  refine oAL X2 hx hby dd36_75 rfl rfl ?_
  refine oS (fun _ => XT.acmpNo X2.here hx rfl (hb hby dd36_77) rfl rfl rfl (XT.aa_ne_f rfl)) ?_
  refine oGO X2 hx hby (pc' := 42) dd36_80 ?_
  show own_G p e below (T7.setTop (mkF m 42 #[rv o1, rv o2, rv o0, rv o3, rv o4, rv o4, iv 1] [])) _
  refine oAN X2 hx hby dd36_42 rfl rfl ?_
  have F21 := F1T.keep K9 (ninS (Ne.symm N6) (ninS N0 nin0))
  have F22 := F1V.keep K9 (ninS (Ne.symm N6) (ninS N0 nin0))
  have O02 : Old Z n0 h7 := O9.keep K9 (allS N04 (allS N02 all0))
  have Z07 : n0 ≤ h7.size := by omega
  have F23 := F1U.keep K9
  refine own_cIU X2 hx hZ hown e0s (y := mN58) (z := mN47) (J := cN16) (b := o0) (hw 418) (hw 419) (hw 420) (by decide) (by decide) (hw 421) (hw 422) (hw 423) (hw 424) (hw 404) (hw 388) (hw 425) (by decide) F23 (W := 0) (own_rm53 l Z a0 hw [] o0 h7 n0 Z07 O02 F21 F22) [] [] hml (lenOf own_pd5 rfl) (hb hby dd36_43) fun T0l h0a v07 L07 X03 e0t q07 => ?_
  obtain ⟨rfl, N16, K08⟩ := q07
  have N17 := Fr.app N15 N16
  have e0u := e0t.trans K08
  refine oY0 X03 hx hby (pc' := 164) dd36_48 (XT.i0_ne_t (by decide)) ?_
  refine oIC X03 hx hby dd36_164 ?_
  have K09 : Keep h0 h7 [] := (((((((((((((Keep.refl h0 []).ext E1).trans K5 (allS (Or.inr (by omega)) all0)).ext E0).trans K0 (allS (Or.inr (by omega)) all0)).trans K1 (allS (Or.inr (by omega)) (allS (Or.inr (by omega)) all0))).trans K2 (allS (Or.inr (by omega)) (allS (Or.inr (by omega)) all0))).trans K3 (allS (Or.inr (by omega)) (allS (Or.inr (by omega)) all0))).trans K4 (allS (Or.inr (by omega)) (allS (Or.inr (by omega)) all0))).trans K6 (allS (Or.inr (by omega)) (allS (Or.inr (by omega)) all0))).trans K7 (allS (Or.inr (by omega)) (allS (Or.inr (by omega)) all0))).trans K8 (allS (Or.inr (by omega)) (allS (Or.inr (by omega)) all0))).trans K9 (allS (Or.inr (by omega)) (allS (Or.inr (by omega)) all0)))
  exact own_retN X03 hx (t := .boolean) hns hrt (by simp) (hb hby dd36_165) (by decide) e0u (by decide) (by decide) (Or.inl ⟨b0, b1, b2, b3, rfl, N17, K09⟩)
 ·skip
  have N18 := Fr.app N0t N0M
  have e0v := e0.trans K02
  refine oN0 X0 hx hby dd36_90 (XT.i0_ne_f (by decide)) ?_
  refine oIC X0 hx hby dd36_93 ?_
  have K0a : Keep h0 h1 [] := (((((((((Keep.refl h0 []).ext E1).trans K5 (allS (Or.inr (by omega)) all0)).ext E0).trans K0 (allS (Or.inr (by omega)) all0)).trans K1 (allS (Or.inr (by omega)) (allS (Or.inr (by omega)) all0))).trans K2 (allS (Or.inr (by omega)) (allS (Or.inr (by omega)) all0))).trans K3 (allS (Or.inr (by omega)) (allS (Or.inr (by omega)) all0))).trans K4 (allS (Or.inr (by omega)) (allS (Or.inr (by omega)) all0)))
  exact own_retN X0 hx (t := .boolean) hns hrt (by simp) (hb hby dd36_94) (by decide) e0v (by decide) (by decide) (Or.inr (⟨b4, rfl, N18, K0a⟩))
theorem own_rm85 (l : Launch) (Z : State) (a0 : Array Value) (hw : own_W a0 Z) (ws : List Jvm.Cond) (i0 i1 i2 i3 i4 i5 : Int32) (o0 : Nat) (h0 : Heap) (n0 : Nat) (Z0 : n0 ≤ h0.size) (O0 : Old Z n0 h0) (I0 : Fld Z h0 o0 cN7 "hash" "I" (.int (((31 : Int32) * (((31 : Int32) * (((31 : Int32) * (((31 : Int32) * i0) + 0)) + i1)) + i2)) + (((31 : Int32) * (((31 : Int32) * ((31 : Int32) + ((i3.toInt8.toInt32) &&& 255))) + i4)) + i5)))) :
 own_Met l Z h0 mN60 B0D 1 (Option.some FieldType.int) ws (own_R 0 0 0 0) #[(.ref o0)] (fun v h L => (v = some (.int (((31 : Int32) * (((31 : Int32) * (((31 : Int32) * (((31 : Int32) * i0) + 0)) + i1)) + i2)) + (((31 : Int32) * (((31 : Int32) * ((31 : Int32) + ((i3.toInt8.toInt32) &&& 255))) + i4)) + i5))) ∧ Fr n0 L ∧ h = h0)) 0 0 := own_go own_pn49 fun p e s m below meth c s₁ hns hrt hnm hml hZ hx hby hown X0 e0 => by
 have N0 := Fr.nil n0
 refine own_cast (own_ef6 m o0) ?_
 refine oAN X0 hx hby dd49_0 rfl rfl ?_
 refine own_gF X0 hx hZ hown (hw 119) e0 I0 (hb hby dd49_1) fun T0 X1 e1 => ?_
 exact own_retI X1 hx hns hrt (hb hby dd49_4) e1 (by decide) (by decide) (⟨rfl, N0, rfl⟩)
theorem own_rm87 (l : Launch) (Z : State) (a0 : Array Value) (hw : own_W a0 Z) (ws : List Jvm.Cond) (m0 : ClassId) (o0 o2 o1 o3 : Nat) (h0 : Heap) (n0 : Nat) (Z0 : n0 ≤ h0.size) (O0 : Old Z n0 h0) (I1 : Arv Z h0 o1 m0 (.object cN1) 10 [(.ref o3), .null, .null, .null, .null, .null, .null, .null, .null, .null] .null) (I2 : Ovr Z m0 cN1) (I3 : Exa Z h0 o2 cN7) (I4 : n0 ≤ o1) (I5 : Fld Z h0 o0 cN10 "size" "I" (.int 1)) (I0 : @Ne Nat o0 o1) (I6 : Exa Z h0 o0 cN10) (I7 : n0 ≤ o0) (I8 : Fld Z h0 o0 cN9 "modCount" "I" (.int 2)) (I9 : Fld Z h0 o0 cN10 "elementData" cN3 (.ref o1)) :
 own_Met l Z h0 mN64 B0F 4 (Option.none : Option FieldType) ws (own_R 0 0 0 0) #[(.ref o0), (.ref o2), (.ref o1), (.int 1)] (fun v h L => (v = none ∧ Fr n0 L ∧ Keep h0 h [o1, o0] ∧ Arv Z h o1 m0 (.object cN1) 10 [(.ref o3), (.ref o2), .null, .null, .null, .null, .null, .null, .null, .null] .null ∧ Fld Z h o0 cN10 "size" "I" (.int 2) ∧ Exa Z h o0 cN10 ∧ Fld Z h o0 cN9 "modCount" "I" (.int 2) ∧ Fld Z h o0 cN10 "elementData" cN3 (.ref o1))) 0 0 := own_go own_pn53 fun p e s m below meth c s₁ hns hrt hnm hml hZ hx hby hown X0 e0 => by
 have N0 := Fr.nil n0
 refine own_cast (own_ef18 m o0 o2 o1 1) ?_
 refine oIN X0 hx hby dd51_0 rfl ?_
 refine oAN X0 hx hby dd51_1 rfl rfl ?_
 refine oS (own_len X0 hx hZ e0 I1 rfl rfl (hb hby dd51_2)) ?_
 refine oYI X0 hx hby (pc' := 11) dd51_3 (XT.ii_ne_t (by decide)) ?_
 refine oAN X0 hx hby dd51_11 rfl rfl ?_
 refine oIN X0 hx hby dd51_12 rfl ?_
 refine oAN X0 hx hby dd51_13 rfl rfl ?_
 obtain ⟨T0, h1, X1, e1, W1, A0, s0⟩ := own_stR X0 hx hZ e0 I1 rfl 1 (own_sto I1 I2 (Ins.of_exa I3 (hw 179))) rfl rfl (by decide) (by simp) (g := (mkF m 14 #[rv o0, rv o2, rv o1, iv 1] [(.ref o2), (.int 1), (.ref o1)])) rfl (rest := []) rfl (hb hby dd51_14)
 have N1 := Fr.snoc X1 N0 I4
 have z0 := W1.size
 have F2 : Arv Z h1 o1 m0 (.object cN1) 10 [(.ref o3), (.ref o2), .null, .null, .null, .null, .null, .null, .null, .null] .null := A0
 refine oS s0 ?_
 refine oAN X1 hx hby dd51_15 rfl rfl ?_
 refine oIN X1 hx hby dd51_16 rfl ?_
 show own_G p e below (T0.setTop (mkF m 17 #[rv o0, rv o2, rv o1, iv 1] [(.int 1), (.ref o0)])) _
 refine oIC X1 hx hby dd51_17 ?_
 refine oS (fun _ => XS.iadd X1.here hx rfl (hb hby dd51_18) rfl) ?_
 have F0 := Fld.other W1 I5 (Or.inl I0)
 have F1 := Exa.wr W1 I6
 refine own_pF X1 hx hZ hown (hw 156) e1 F0 F1 (Or.inl (hw 157)) (hw 122) (ty := .int) rfl rfl (hb hby dd51_19) fun T1 h2 X2 e2 W0 => ?_
 have N2 := Fr.snoc X2 N1 I7
 have z1 := W0.size
 have F3 := Fld.same W0 F0
 have F4 := F2.other W0 (Ne.symm I0)
 have F5 := Exa.wr W0 F1
 have F6 := Fld.other W0 (Fld.other W1 I8 (Or.inl I0)) (Or.inr (slot_ne (C := cN10) (Or.inl (hw 141)) (Or.inl (hw 157)) (by decide) (t := .int) (t' := .int) (by decide) (by decide)))
 have F7 := Fld.other W0 (Fld.other W1 I9 (Or.inl I0)) (Or.inr (slot_ne (C := cN10) (Or.inl (hw 144)) (Or.inl (hw 157)) (by decide) (t := (.array (.object cN1))) (t' := .int) (by decide) (by decide)))
 have K0 : Keep h0 h2 [o1, o0] := (((Keep.refl h0 [o1, o0]).wr W1 (Or.inl (by simp))).wr W0 (Or.inl (by simp)))
 exact own_retV X2 hx hns hrt (hb hby dd51_22) e2 (by decide) (by decide) (⟨rfl, N2, K0, F4, F3, F5, F6, F7⟩)
theorem own_rm86 (l : Launch) (Z : State) (a0 : Array Value) (hw : own_W a0 Z) (ws : List Jvm.Cond) (m0 : ClassId) (o0 o2 o1 o3 : Nat) (h0 : Heap) (n0 : Nat) (Z1 : n0 ≤ h0.size) (O0 : Old Z n0 h0) (I0 : Fld Z h0 o0 cN9 "modCount" "I" (.int 1)) (I2 : Exa Z h0 o0 cN10) (I1 : n0 ≤ o0) (I4 : Fld Z h0 o0 cN10 "elementData" cN3 (.ref o1)) (I5 : Fld Z h0 o0 cN10 "size" "I" (.int 1)) (I6 : Arv Z h0 o1 m0 (.object cN1) 10 [(.ref o3), .null, .null, .null, .null, .null, .null, .null, .null, .null] .null) (I3 : @Ne Nat o1 o0) (I7 : Ovr Z m0 cN1) (I8 : Exa Z h0 o2 cN7) (I9 : n0 ≤ o1) :
 own_Met l Z h0 mN65 B0E 2 (Option.some FieldType.boolean) ws (own_R 1 0 0 15) #[(.ref o0), (.ref o2)] (fun v h L => (v = some (.int 1) ∧ Fr n0 L ∧ Keep h0 h [o0, o1] ∧ Fld Z h o0 cN9 "modCount" "I" (.int 2) ∧ Fld Z h o0 cN10 "elementData" cN3 (.ref o1) ∧ Fld Z h o0 cN10 "size" "I" (.int 2) ∧ Exa Z h o0 cN10 ∧ Arv Z h o1 m0 (.object cN1) 10 [(.ref o3), (.ref o2), .null, .null, .null, .null, .null, .null, .null, .null] .null)) 0 0 := own_go own_pn54 fun p e s m below meth c s₁ hns hrt hnm hml hZ hx hby hown X1 e0 => by
 have N0 := Fr.nil n0
 refine own_cast (own_ef9 m o0 o2) ?_
 refine oAN X1 hx hby dd50_0 rfl rfl ?_
 refine oS (fun _ => XS.dup X1.here hx rfl (hb hby dd50_1) rfl rfl) ?_
 obtain ⟨T1, X2, e1, s0⟩ := getF X1 hx hZ hown (host := "") (Or.inl (hw 154)) (Via.of (hw 155)) e0 I0 (g := (mkF m 2 #[rv o0, rv o2] [(.ref o0), (.ref o0)])) rfl rfl (hb hby dd50_2)
 refine oS s0 ?_
 refine oIC X2 hx hby dd50_5 ?_
 refine oS (fun _ => XS.iadd X2.here hx rfl (hb hby dd50_6) rfl) ?_
 obtain ⟨T2, h1, X0, e2, W0, s1⟩ := putF X2 hx hZ hown (host := "") (Or.inl (hw 154)) (Via.of (hw 155)) e1 I0 I2 (Or.inl (hw 141)) (hw 122) (ty := .int) (by decide) rfl rfl (g := (mkF m 7 #[rv o0, rv o2] [(.int 2), (.ref o0)])) rfl rfl (hb hby dd50_7)
 have N1 := Fr.snoc X0 N0 I1
 have z0 := W0.size
 have F3 := Fld.same W0 I0
 refine oS s1 ?_
 refine oAN X0 hx hby dd50_10 rfl rfl ?_
 refine oAN X0 hx hby dd50_11 rfl rfl ?_
 refine oAN X0 hx hby dd50_12 rfl rfl ?_
 have F0 := Fld.other W0 I4 (Or.inr (slot_ne (C := cN10) (Or.inl (hw 144)) (Or.inl (hw 141)) (by decide) (t := (.array (.object cN1))) (t' := .int) (by decide) (by decide)))
 refine own_gF X0 hx hZ hown (hw 143) e2 F0 (hb hby dd50_13) fun T0 X3 e3 => ?_
 show own_G p e below (T0.setTop (mkF m 16 #[rv o0, rv o2] [(.ref o1), (.ref o2), (.ref o0)])) _
 refine oAN X3 hx hby dd50_16 rfl rfl ?_
 have F1 := Fld.other W0 I5 (Or.inr (slot_ne (C := cN10) (Or.inl (hw 157)) (Or.inl (hw 141)) (by decide) (t := .int) (t' := .int) (by decide) (by decide)))
 refine own_gF X3 hx hZ hown (hw 156) e3 F1 (hb hby dd50_17) fun T3 X5 e4 => ?_
 have F4 := I6.other W0 I3
 have F5 := Exa.wr W0 I8
 have F2 := Exa.wr W0 I2
 have O1 : Old Z n0 h1 := O0.wr W0 I1
 have Z0 : n0 ≤ h1.size := by omega
 refine own_cP X5 hx hZ hown e4 (y := mN64) (b := o0) (hw 158) (hw 159) (hw 161) (hw 160) (hw 123) (hw 162) (by decide) F2 (W := 0) (own_rm87 l Z a0 hw [] m0 o0 o2 o1 o3 h1 n0 Z0 O1 F4 I7 F5 I9 F1 (Ne.symm I3) F2 I1 F3 F0) [(.ref o2), (.ref o1), (.int 1)] [] hml (lenOf own_pd31 rfl) (hb hby dd50_20) fun T4 h2 v0 L0 X4 e5 q0 => ?_
 obtain ⟨rfl, N2, K0, F6, F7, F8, F9, F00⟩ := q0
 have N3 := Fr.app N1 N2
 have z1 := K0.1
 refine oIC X4 hx hby dd50_23 ?_
 have K1 : Keep h0 h2 [o0, o1] := (((Keep.refl h0 [o0, o1]).wr W0 (Or.inl (by simp))).trans K0 (allS (Or.inl (by simp)) (allS (Or.inl (by simp)) all0)))
 exact own_retN X4 hx (t := .boolean) hns hrt (by simp) (hb hby dd50_24) (by decide) e5 (by decide) (by decide) (⟨rfl, N3, K1, F9, F00, F7, F8, F6⟩)
theorem own_rm93 (l : Launch) (Z : State) (a0 : Array Value) (hw : own_W a0 Z) (ws : List Jvm.Cond) (o0 o1 : Nat) (h0 : Heap) (n0 : Nat) (Z0 : n0 ≤ h0.size) (O0 : Old Z n0 h0) (I1 : Fld Z h0 o0 cN17 "this$0" cN18 .null) (I2 : Exa Z h0 o0 cN17) (I0 : n0 ≤ o0) (I4 : Fld Z h0 o0 cN17 "lastRet" "I" (.int 0)) (I5 : Fld Z h0 o1 cN9 "modCount" "I" (.int 2)) (I3 : @Ne Nat o1 o0) (I6 : Fld Z h0 o0 cN17 cN19 "I" (.int 0)) (I7 : Fld Z h0 o0 cN17 "cursor" "I" (.int 0)) :
 own_Met l Z h0 mN27 B0g 2 (Option.none : Option FieldType) ws (own_R 1 0 0 12) #[(.ref o0), (.ref o1)] (fun v h L => (v = none ∧ Fr n0 L ∧ Keep h0 h [o0] ∧ Fld Z h o0 cN17 "this$0" cN18 (.ref o1) ∧ Fld Z h o0 cN17 "lastRet" "I" (.int (-1)) ∧ Exa Z h o0 cN17 ∧ Fld Z h o0 cN17 cN19 "I" (.int 2) ∧ Fld Z h o0 cN17 "cursor" "I" (.int 0))) 0 0 := own_go own_pn22 fun p e s m below meth c s₁ hns hrt hnm hml hZ hx hby hown X1 e0 => by
 have N0 := Fr.nil n0
 refine own_cast (own_ef9 m o0 o1) ?_
 refine oAN X1 hx hby dd26_0 rfl rfl ?_
 refine oAN X1 hx hby dd26_1 rfl rfl ?_
 refine own_pF X1 hx hZ hown (hw 258) e0 I1 I2 (Or.inr ⟨(hw 259), rfl, hnm⟩) (hw 252) (ty := (.object cN10)) rfl rfl (hb hby dd26_2) fun T1 h2 X2 e1 W0 => ?_
 have N1 := Fr.snoc X2 N0 I0
 have z0 := W0.size
 have F5 := Fld.same W0 I1
 refine oAN X2 hx hby dd26_5 rfl rfl ?_
 obtain ⟨T2, X3, e2, s0⟩ := initO X2 hx hZ hown (hw 260) (hw 21) (hw 22) e1 (g := (mkF m 6 #[rv o0, rv o1] [(.ref o0)])) rfl (by rw [hml]; rfl) rfl (hb hby dd26_6) (by decide) (W := 0) (by show 2 * 0 + _ ≤ _; exact Nat.le_of_eq rfl) (by decide)
 refine oS s0 ?_
 refine oAN X3 hx hby dd26_9 rfl rfl ?_
 refine oIC X3 hx hby dd26_10 ?_
 have F0 := Fld.other W0 I4 (Or.inr (slot_ne (C := cN17) (Or.inl (hw 262)) (Or.inr (hw 259)) (by decide) (t := .int) (t' := (.object cN10)) (by decide) (by decide)))
 have F1 := Exa.wr W0 I2
 refine own_pF X3 hx hZ hown (hw 261) e2 F0 F1 (Or.inl (hw 262)) (hw 252) (ty := .int) rfl rfl (hb hby dd26_11) fun T0 h3 X0 e3 W1 => ?_
 have N2 := Fr.snoc X0 N1 I0
 have z1 := W1.size
 have F6 := Fld.same W1 F0
 refine oAN X0 hx hby dd26_14 rfl rfl ?_
 refine oAN X0 hx hby dd26_15 rfl rfl ?_
 show own_G p e below (T0.setTop (mkF m 16 #[rv o0, rv o1] [(.ref o0), (.ref o0)])) _
 have F2 := Fld.other W1 F5 (Or.inr (slot_ne (C := cN17) (Or.inr (hw 259)) (Or.inl (hw 262)) (by decide) (t := (.object cN10)) (t' := .int) (by decide) (by decide)))
 refine own_gF X0 hx hZ hown (hw 258) e3 F2 (hb hby dd26_16) fun T3 X5 e4 => ?_
 have F7 := Fld.other W1 (Fld.other W0 I5 (Or.inl I3)) (Or.inl I3)
 obtain ⟨T4, X6, e5, s1⟩ := getF X5 hx hZ hown (host := "") (Or.inl (hw 263)) (Via.of (hw 155)) e4 F7 (g := (mkF m 19 #[rv o0, rv o1] [(.ref o1), (.ref o0)])) rfl rfl (hb hby dd26_19)
 refine oS s1 ?_
 have F3 := Fld.other W1 (Fld.other W0 I6 (Or.inr (slot_ne (C := cN17) (Or.inl (hw 265)) (Or.inr (hw 259)) (by decide) (t := .int) (t' := (.object cN10)) (by decide) (by decide)))) (Or.inr (slot_ne (C := cN17) (Or.inl (hw 265)) (Or.inl (hw 262)) (by decide) (t := .int) (t' := .int) (by decide) (by decide)))
 have F4 := Exa.wr W1 F1
 refine own_pF X6 hx hZ hown (hw 264) e5 F3 F4 (Or.inl (hw 265)) (hw 252) (ty := .int) rfl rfl (hb hby dd26_22) fun T5 h1 X4 e6 W2 => ?_
 have N3 := Fr.snoc X4 N2 I0
 have z2 := W2.size
 have F8 := Fld.same W2 F3
 have F9 := Fld.other W2 F2 (Or.inr (slot_ne (C := cN17) (Or.inr (hw 259)) (Or.inl (hw 265)) (by decide) (t := (.object cN10)) (t' := .int) (by decide) (by decide)))
 have F00 := Fld.other W2 F6 (Or.inr (slot_ne (C := cN17) (Or.inl (hw 262)) (Or.inl (hw 265)) (by decide) (t := .int) (t' := .int) (by decide) (by decide)))
 have F01 := Exa.wr W2 F4
 have F02 := Fld.other W2 (Fld.other W1 (Fld.other W0 I7 (Or.inr (slot_ne (C := cN17) (Or.inl (hw 282)) (Or.inr (hw 259)) (by decide) (t := .int) (t' := (.object cN10)) (by decide) (by decide)))) (Or.inr (slot_ne (C := cN17) (Or.inl (hw 282)) (Or.inl (hw 262)) (by decide) (t := .int) (t' := .int) (by decide) (by decide)))) (Or.inr (slot_ne (C := cN17) (Or.inl (hw 282)) (Or.inl (hw 265)) (by decide) (t := .int) (t' := .int) (by decide) (by decide)))
 have K0 : Keep h0 h1 [o0] := ((((Keep.refl h0 [o0]).wr W0 (Or.inl (by simp))).wr W1 (Or.inl (by simp))).wr W2 (Or.inl (by simp)))
 exact own_retV X4 hx hns hrt (hb hby dd26_25) e6 (by decide) (by decide) (⟨rfl, N3, K0, F9, F00, F01, F8, F02⟩)
theorem own_rm92 (l : Launch) (Z : State) (a0 : Array Value) (hw : own_W a0 Z) (ws : List Jvm.Cond) (o1 : Nat) (h0 : Heap) (n0 : Nat) (Z1 : n0 ≤ h0.size) (O0 : Old Z n0 h0) (I0 : Fld Z h0 o1 cN9 "modCount" "I" (.int 2)) (I1 : @LT.lt Nat instLTNat o1 h0.size) :
 own_Met l Z h0 mN28 B0f 1 (Option.some (FieldType.object cN6)) ws (own_R 2 1 4 26) #[(.ref o1)] (fun v h L => (∃ o0 : Nat, v = some (.ref o0) ∧ Fr n0 L ∧ Keep h0 h [] ∧ h0.size ≤ o0 ∧ Exa Z h o0 cN17 ∧ Fld Z h o0 cN17 "this$0" cN18 (.ref o1) ∧ Fld Z h o0 cN17 "lastRet" "I" (.int (-1)) ∧ Fld Z h o0 cN17 cN19 "I" (.int 2) ∧ Fld Z h o0 cN17 "cursor" "I" (.int 0) ∧ @LT.lt Nat instLTNat o0 h.size)) 1 4 := own_go own_pn23 fun p e s m below meth c s₁ hns hrt hnm hml hZ hx hby hown X1 e0 => by
 have N0 := Fr.nil n0
 refine own_cast (own_ef6 m o1) ?_
 obtain ⟨T0, h1, X0, e1, E0, A0, D0, U0, s0⟩ := newO X1 hx hZ hown (hw 251) (hw 252) (hw 253) e0 (g := (mkF m 0 #[rv o1] [])) rfl (hb hby dd25_0) (by decide) (by decide)
 obtain ⟨o0, g0⟩ : ∃ z, z = h0.size := ⟨_, rfl⟩
 rw [← g0] at A0 D0 U0 s0
 have z0 := E0.1
 have y1 : @LT.lt Nat instLTNat o0 h1.size := A0.lt
 refine oS s0 ?_
 have F0 : Fld Z h1 o0 cN17 "this$0" cN18 .null := D0 (Or.inr (hw 259)) (ty := (.object cN10)) (by decide)
 have F1 : Fld Z h1 o0 cN17 "lastRet" "I" (.int 0) := D0 (Or.inl (hw 262)) (ty := .int) (by decide)
 have F2 : Fld Z h1 o0 cN17 cN19 "I" (.int 0) := D0 (Or.inl (hw 265)) (ty := .int) (by decide)
 have F3 : Fld Z h1 o0 cN17 "cursor" "I" (.int 0) := D0 (Or.inl (hw 282)) (ty := .int) (by decide)
 refine oS (fun _ => XS.dup X0.here hx rfl (hb hby dd25_3) rfl rfl) ?_
 refine oAN X0 hx hby dd25_4 rfl rfl ?_
 have N1 : n0 ≤ o0 := by omega
 have F4 := Fld.ext E0 I0
 have N2 : @Ne Nat o1 o0 := by omega
 have O1 : Old Z n0 h1 := O0.ext E0
 have Z0 : n0 ≤ h1.size := by omega
 refine own_cN X0 hx hZ hown e1 (y := mN27) (b := o0) rfl (hw 254) (hw 255) (hw 253) (hw 257) (by decide) (W := 1) (own_rm93 l Z a0 hw [] o0 o1 h1 n0 Z0 O1 F0 A0 N1 F1 F4 N2 F2 F3) [(.ref o1)] [(.ref o0)] hml (lenOf own_pd17 rfl) (hb hby dd25_5) fun T1 h2 v0 L0 X2 e2 q0 => ?_
 obtain ⟨rfl, N3, K0, F5, F6, F7, F8, F9⟩ := q0
 have N4 := Fr.app N0 N3
 have z1 := K0.1
 have y0 : @LT.lt Nat instLTNat o0 h2.size := by omega
 have K1 : Keep h0 h2 [] := (((Keep.refl h0 []).ext E0).trans K0 (allS (Or.inr (by omega)) all0))
 exact own_retA X2 hx hns hrt rfl rfl (hb hby dd25_8) e2 (by decide) (by decide) (⟨o0, rfl, N4, K1, (by omega), F7, F5, F6, F8, F9, y0⟩)
theorem own_rm91 (l : Launch) (Z : State) (a0 : Array Value) (hw : own_W a0 Z) (ws : List Jvm.Cond) (o0 o3 o2 : Nat) (h0 : Heap) (n0 : Nat) (Z1 : n0 ≤ h0.size) (O0 : Old Z n0 h0) (I1 : Fld Z h0 o0 cN20 "this$0" cN21 .null) (I2 : Exa Z h0 o0 cN20) (I0 : n0 ≤ o0) (I3 : Fld Z h0 o3 cN12 "c" cN13 (.ref o2)) (I4 : @Ne Nat o3 o0) (I5 : Fld Z h0 o2 cN9 "modCount" "I" (.int 2)) (I6 : @Ne Nat o2 o0) (I9 : @LT.lt Nat instLTNat o2 h0.size) (I7 : Exa Z h0 o2 cN10) (I8 : Fld Z h0 o0 cN20 "i" cN22 .null) (I00 : @LT.lt Nat instLTNat o0 h0.size) :
 own_Met l Z h0 mN29 B0e 2 (Option.none : Option FieldType) ws (own_R 3 1 4 39) #[(.ref o0), (.ref o3)] (fun v h L => (∃ o1 : Nat, v = none ∧ Fr n0 L ∧ Keep h0 h [o0] ∧ h0.size ≤ o1 ∧ Fld Z h o0 cN20 "this$0" cN21 (.ref o3) ∧ Fld Z h o0 cN20 "i" cN22 (.ref o1) ∧ Exa Z h o0 cN20 ∧ Exa Z h o1 cN17 ∧ Fld Z h o1 cN17 "this$0" cN18 (.ref o2) ∧ Fld Z h o1 cN17 "lastRet" "I" (.int (-1)) ∧ Fld Z h o1 cN17 cN19 "I" (.int 2) ∧ Fld Z h o1 cN17 "cursor" "I" (.int 0) ∧ @LT.lt Nat instLTNat o1 h.size)) 1 4 := own_go own_pn24 fun p e s m below meth c s₁ hns hrt hnm hml hZ hx hby hown X0 e0 => by
 have N1 := Fr.nil n0
 refine own_cast (own_ef9 m o0 o3) ?_
 refine oAN X0 hx hby dd24_0 rfl rfl ?_
 refine oAN X0 hx hby dd24_1 rfl rfl ?_
 refine own_pF X0 hx hZ hown (hw 238) e0 I1 I2 (Or.inr ⟨(hw 239), rfl, hnm⟩) (hw 232) (ty := (.object cN12)) rfl rfl (hb hby dd24_2) fun T1 h1 X1 e1 W1 => ?_
 have N2 := Fr.snoc X1 N1 I0
 have z0 := W1.size
 have F0 := Fld.same W1 I1
 refine oAN X1 hx hby dd24_5 rfl rfl ?_
 obtain ⟨T2, X2, e2, s0⟩ := initO X1 hx hZ hown (hw 240) (hw 21) (hw 22) e1 (g := (mkF m 6 #[rv o0, rv o3] [(.ref o0)])) rfl (by rw [hml]; rfl) rfl (hb hby dd24_6) (by decide) (W := 0) (by show 2 * 0 + _ ≤ _; exact Nat.le_of_eq rfl) (by decide)
 refine oS s0 ?_
 refine oAN X2 hx hby dd24_9 rfl rfl ?_
 refine oAN X2 hx hby dd24_10 rfl rfl ?_
 refine own_gF X2 hx hZ hown (hw 238) e2 F0 (hb hby dd24_11) fun T3 X4 e3 => ?_
 have F3 := Fld.other W1 I3 (Or.inl I4)
 refine own_gF X4 hx hZ hown (hw 241) e3 F3 (hb hby dd24_14) fun T4 X5 e4 => ?_
 have F4 := Fld.other W1 I5 (Or.inl I6)
 have y0 : @LT.lt Nat instLTNat o2 h1.size := by omega
 have O1 : Old Z n0 h1 := O0.wr W1 I0
 have Z0 : n0 ≤ h1.size := by omega
 have F5 := Exa.wr W1 I7
 refine own_cI X5 hx hZ hown e4 (y := mN30) (z := mN28) (b := o2) (hw 242) (hw 243) (hw 244) rfl (hw 245) (hw 246) (hw 247) (hw 248) (hw 249) (hw 123) (hw 250) (by decide) F5 (W := 1) (own_rm92 l Z a0 hw [] o2 h1 n0 Z0 O1 F4 y0) [] [(.ref o0)] hml (lenOf own_pd10 rfl) (hb hby dd24_17) fun T0 h3 v0 L0 X6 e5 q0 => ?_
 obtain ⟨o1, rfl, N3, K0, F09, F6, F7, F8, F9, F00, F0a⟩ := q0
 have N4 := Fr.app N2 N3
 have z1 := K0.1
 show own_G p e below (T0.setTop (mkF m 22 #[rv o0, rv o3] [(.ref o1), (.ref o0)])) _
 have F1 := (Fld.other W1 I8 (Or.inr (slot_ne (C := cN20) (Or.inr (hw 267)) (Or.inr (hw 239)) (by decide) (t := (.object cN6)) (t' := (.object cN12)) (by decide) (by decide)))).keep K0 nin0
 have F2 := (Exa.wr W1 I2).keep K0
 refine own_pF X6 hx hZ hown (hw 266) e5 F1 F2 (Or.inr ⟨(hw 267), rfl, hnm⟩) (hw 232) (ty := (.object cN6)) rfl rfl (hb hby dd24_22) fun T5 h2 X3 e6 W0 => ?_
 have N5 := Fr.snoc X3 N4 I0
 have z2 := W0.size
 have F01 := Fld.same W0 F1
 have F02 := Fld.other W0 (F0.keep K0 nin0) (Or.inr (slot_ne (C := cN20) (Or.inr (hw 239)) (Or.inr (hw 267)) (by decide) (t := (.object cN12)) (t' := (.object cN6)) (by decide) (by decide)))
 have F03 := Exa.wr W0 F2
 have F04 := Exa.wr W0 F6
 have N0 : @Ne Nat o1 o0 := by omega
 have F05 := Fld.other W0 F7 (Or.inl N0)
 have F06 := Fld.other W0 F8 (Or.inl N0)
 have F07 := Fld.other W0 F9 (Or.inl N0)
 have F08 := Fld.other W0 F00 (Or.inl N0)
 have y1 : @LT.lt Nat instLTNat o1 h2.size := by omega
 have K1 : Keep h0 h2 [o0] := ((((Keep.refl h0 [o0]).wr W1 (Or.inl (by simp))).trans K0 all0).wr W0 (Or.inl (by simp)))
 exact own_retV X3 hx hns hrt (hb hby dd24_25) e6 (by decide) (by decide) (⟨o1, rfl, N5, K1, (by omega), F02, F01, F03, F04, F05, F06, F07, F08, y1⟩)
theorem own_rm90 (l : Launch) (Z : State) (a0 : Array Value) (hw : own_W a0 Z) (ws : List Jvm.Cond) (o2 o3 : Nat) (h0 : Heap) (n0 : Nat) (Z1 : n0 ≤ h0.size) (O0 : Old Z n0 h0) (I0 : Fld Z h0 o2 cN12 "c" cN13 (.ref o3)) (I3 : @LT.lt Nat instLTNat o2 h0.size) (I1 : Fld Z h0 o3 cN9 "modCount" "I" (.int 2)) (I4 : @LT.lt Nat instLTNat o3 h0.size) (I2 : Exa Z h0 o3 cN10) :
 own_Met l Z h0 mN31 B0d 1 (Option.some (FieldType.object cN6)) ws (own_R 4 2 6 53) #[(.ref o2)] (fun v h L => (∃ o0 : Nat, ∃ o1 : Nat, v = some (.ref o0) ∧ Fr n0 L ∧ Keep h0 h [] ∧ h0.size ≤ o0 ∧ o0 < o1 ∧ Exa Z h o0 cN20 ∧ Fld Z h o0 cN20 "this$0" cN21 (.ref o2) ∧ Fld Z h o0 cN20 "i" cN22 (.ref o1) ∧ Exa Z h o1 cN17 ∧ Fld Z h o1 cN17 "this$0" cN18 (.ref o3) ∧ Fld Z h o1 cN17 "lastRet" "I" (.int (-1)) ∧ Fld Z h o1 cN17 cN19 "I" (.int 2) ∧ Fld Z h o1 cN17 "cursor" "I" (.int 0) ∧ @LT.lt Nat instLTNat o0 h.size ∧ @LT.lt Nat instLTNat o1 h.size)) 2 6 := own_go own_pn25 fun p e s m below meth c s₁ hns hrt hnm hml hZ hx hby hown X1 e0 => by
 have N0 := Fr.nil n0
 refine own_cast (own_ef6 m o2) ?_
 obtain ⟨T0, h1, X0, e1, E0, A0, D0, U0, s0⟩ := newO X1 hx hZ hown (hw 231) (hw 232) (hw 233) e0 (g := (mkF m 0 #[rv o2] [])) rfl (hb hby dd23_0) (by decide) (by decide)
 obtain ⟨o0, g0⟩ : ∃ z, z = h0.size := ⟨_, rfl⟩
 rw [← g0] at A0 D0 U0 s0
 have z0 := E0.1
 have y4 : @LT.lt Nat instLTNat o0 h1.size := A0.lt
 refine oS s0 ?_
 have F0 : Fld Z h1 o0 cN20 "this$0" cN21 .null := D0 (Or.inr (hw 239)) (ty := (.object cN12)) (by decide)
 have F1 : Fld Z h1 o0 cN20 "i" cN22 .null := D0 (Or.inr (hw 267)) (ty := (.object cN6)) (by decide)
 refine oS (fun _ => XS.dup X0.here hx rfl (hb hby dd23_3) rfl rfl) ?_
 refine oAN X0 hx hby dd23_4 rfl rfl ?_
 have N1 : n0 ≤ o0 := by omega
 have F2 := Fld.ext E0 I0
 have N2 : @Ne Nat o2 o0 := by omega
 have F3 := Fld.ext E0 I1
 have N3 : @Ne Nat o3 o0 := by omega
 have y0 : @LT.lt Nat instLTNat o3 h1.size := by omega
 have F4 := Exa.ext E0 I2
 have y1 : @LT.lt Nat instLTNat o0 h1.size := by omega
 have O1 : Old Z n0 h1 := O0.ext E0
 have Z0 : n0 ≤ h1.size := by omega
 refine own_cN X0 hx hZ hown e1 (y := mN29) (b := o0) rfl (hw 234) (hw 235) (hw 233) (hw 237) (by decide) (W := 1) (own_rm91 l Z a0 hw [] o0 o2 o3 h1 n0 Z0 O1 F0 A0 N1 F2 N2 F3 N3 y0 F4 F1 y1) [(.ref o2)] [(.ref o0)] hml (lenOf own_pd18 rfl) (hb hby dd23_5) fun T1 h2 v0 L0 X2 e2 q0 => ?_
 obtain ⟨o1, rfl, N4, K0, F03, F5, F6, F7, F8, F9, F00, F01, F02, F04⟩ := q0
 have N5 := Fr.app N0 N4
 have z1 := K0.1
 have y2 : @LT.lt Nat instLTNat o0 h2.size := by omega
 have y3 : @LT.lt Nat instLTNat o1 h2.size := by omega
 have K1 : Keep h0 h2 [] := (((Keep.refl h0 []).ext E0).trans K0 (allS (Or.inr (by omega)) all0))
 exact own_retA X2 hx hns hrt rfl rfl (hb hby dd23_8) e2 (by decide) (by decide) (⟨o0, o1, rfl, N5, K1, (by omega), (by omega), F7, F5, F6, F8, F9, F00, F01, F02, y2, y3⟩)
theorem own_rm95 (l : Launch) (Z : State) (a0 : Array Value) (hw : own_W a0 Z) (ws : List Jvm.Cond) (o0 o1 : Nat) (h0 : Heap) (n0 : Nat) (Z0 : n0 ≤ h0.size) (O0 : Old Z n0 h0) (I0 : Fld Z h0 o0 cN17 "cursor" "I" (.int 0)) (I1 : Fld Z h0 o0 cN17 "this$0" cN18 (.ref o1)) (I2 : Fld Z h0 o1 cN10 "size" "I" (.int 2)) :
 own_Met l Z h0 mN32 B0i 1 (Option.some FieldType.boolean) ws (own_R 0 0 0 0) #[(.ref o0)] (fun v h L => (v = some (.int 1) ∧ Fr n0 L ∧ h = h0)) 0 0 := own_go own_pn26 fun p e s m below meth c s₁ hns hrt hnm hml hZ hx hby hown X1 e0 => by
 have N0 := Fr.nil n0
 refine own_cast (own_ef6 m o0) ?_
 refine oAN X1 hx hby dd28_0 rfl rfl ?_
 refine own_gF X1 hx hZ hown (hw 281) e0 I0 (hb hby dd28_1) fun T0 X2 e1 => ?_
 refine oAN X2 hx hby dd28_4 rfl rfl ?_
 refine own_gF X2 hx hZ hown (hw 258) e1 I1 (hb hby dd28_5) fun T1 X3 e2 => ?_
 obtain ⟨T2, X0, e3, s0⟩ := getF X3 hx hZ hown (host := cN10) (Or.inr (hw 283)) Via.refl e2 I2 (g := (mkF m 8 #[rv o0] [(.ref o1), (.int 0)])) rfl rfl (hb hby dd28_8)
 refine oS s0 ?_
 refine oNI X0 hx hby dd28_11 (XT.ii_eq_f (by decide)) ?_
 refine oIC X0 hx hby dd28_14 ?_
 refine oGO X0 hx hby (pc' := 19) dd28_15 ?_
 exact own_retN X0 hx (t := .boolean) hns hrt (by simp) (hb hby dd28_19) (by decide) e3 (by decide) (by decide) (⟨rfl, N0, rfl⟩)
theorem own_rm94 (l : Launch) (Z : State) (a0 : Array Value) (hw : own_W a0 Z) (ws : List Jvm.Cond) (o1 o0 o2 : Nat) (h0 : Heap) (n0 : Nat) (Z0 : n0 ≤ h0.size) (O0 : Old Z n0 h0) (I0 : Fld Z h0 o1 cN20 "i" cN22 (.ref o0)) (I1 : Fld Z h0 o0 cN17 "cursor" "I" (.int 0)) (I2 : Fld Z h0 o0 cN17 "this$0" cN18 (.ref o2)) (I3 : Fld Z h0 o2 cN10 "size" "I" (.int 2)) (I4 : Exa Z h0 o0 cN17) :
 own_Met l Z h0 mN33 B0h 1 (Option.some FieldType.boolean) ws (own_R 1 0 0 12) #[(.ref o1)] (fun v h L => (v = some (.int 1) ∧ Fr n0 L ∧ h = h0)) 0 0 := own_go own_pn27 fun p e s m below meth c s₁ hns hrt hnm hml hZ hx hby hown X0 e0 => by
 have N0 := Fr.nil n0
 refine own_cast (own_ef6 m o1) ?_
 refine oAN X0 hx hby dd27_0 rfl rfl ?_
 refine own_gF X0 hx hZ hown (hw 266) e0 I0 (hb hby dd27_1) fun T0 X1 e1 => ?_
 refine own_cI X1 hx hZ hown e1 (y := mN17) (z := mN32) (b := o0) (hw 274) (hw 111) (hw 112) rfl (hw 275) (hw 276) (hw 277) (hw 278) (hw 279) (hw 253) (hw 280) (by decide) I4 (W := 0) (own_rm95 l Z a0 hw [] o0 o2 h0 n0 Z0 O0 I1 I2 I3) [] [] hml (lenOf own_pd5 rfl) (hb hby dd27_4) fun T1 h1 v0 L0 X2 e2 q0 => ?_
 obtain ⟨rfl, N1, K0⟩ := q0
 have N2 := Fr.app N0 N1
 have e3 := e2.trans K0
 exact own_retN X2 hx (t := .boolean) hns hrt (by simp) (hb hby dd27_9) (by decide) e3 (by decide) (by decide) (⟨rfl, N2, rfl⟩)
theorem own_rm98 (l : Launch) (Z : State) (a0 : Array Value) (hw : own_W a0 Z) (ws : List Jvm.Cond) (o0 o1 : Nat) (h0 : Heap) (n0 : Nat) (Z0 : n0 ≤ h0.size) (O0 : Old Z n0 h0) (I0 : Fld Z h0 o0 cN17 "this$0" cN18 (.ref o1)) (I1 : Fld Z h0 o1 cN9 "modCount" "I" (.int 2)) (I2 : Fld Z h0 o0 cN17 cN19 "I" (.int 2)) :
 own_Met l Z h0 mN66 B0L 1 (Option.none : Option FieldType) ws (own_R 0 0 0 0) #[(.ref o0)] (fun v h L => (v = none ∧ Fr n0 L ∧ h = h0)) 0 0 := own_go own_pn55 fun p e s m below meth c s₁ hns hrt hnm hml hZ hx hby hown X0 e0 => by
 have N0 := Fr.nil n0
 refine own_cast (own_ef6 m o0) ?_
 refine oAN X0 hx hby dd57_0 rfl rfl ?_
 refine own_gF X0 hx hZ hown (hw 258) e0 I0 (hb hby dd57_1) fun T0 X3 e1 => ?_
 obtain ⟨T1, X1, e2, s0⟩ := getF X3 hx hZ hown (host := "") (Or.inl (hw 263)) (Via.of (hw 155)) e1 I1 (g := (mkF m 4 #[rv o0] [(.ref o1)])) rfl rfl (hb hby dd57_4)
 refine oS s0 ?_
 refine oAN X1 hx hby dd57_7 rfl rfl ?_
 refine own_gF X1 hx hZ hown (hw 264) e2 I2 (hb hby dd57_8) fun T2 X2 e3 => ?_
 refine oYI X2 hx hby (pc' := 22) dd57_11 (XT.ii_eq_t (by decide)) ?_
 exact own_retV X2 hx hns hrt (hb hby dd57_22) e3 (by decide) (by decide) (⟨rfl, N0, rfl⟩)
theorem own_rm97 (l : Launch) (Z : State) (a0 : Array Value) (hw : own_W a0 Z) (ws : List Jvm.Cond) (m0 : ClassId) (o0 o1 o2 o3 o4 : Nat) (h0 : Heap) (n0 : Nat) (Z0 : n0 ≤ h0.size) (O0 : Old Z n0 h0) (I0 : Fld Z h0 o0 cN17 "this$0" cN18 (.ref o1)) (I7 : Fld Z h0 o1 cN9 "modCount" "I" (.int 2)) (I3 : Fld Z h0 o0 cN17 cN19 "I" (.int 2)) (I1 : Exa Z h0 o0 cN17) (I2 : Fld Z h0 o0 cN17 "cursor" "I" (.int 0)) (I8 : Fld Z h0 o1 cN10 "size" "I" (.int 2)) (I9 : Fld Z h0 o1 cN10 "elementData" cN3 (.ref o2)) (I4 : Arv Z h0 o2 m0 (.object cN1) 10 [(.ref o3), (.ref o4), .null, .null, .null, .null, .null, .null, .null, .null] .null) (I5 : n0 ≤ o0) (I00 : Fld Z h0 o0 cN17 "lastRet" "I" (.int (-1))) (I6 : @Ne Nat o2 o0) :
 own_Met l Z h0 mN67 B0K 3 (Option.some (FieldType.object cN1)) ws (own_R 1 0 0 12) #[(.ref o0)] (fun v h L => (v = some (.ref o3) ∧ Fr n0 L ∧ Keep h0 h [o0] ∧ Fld Z h o0 cN17 "cursor" "I" (.int 1) ∧ Fld Z h o0 cN17 "lastRet" "I" (.int 0) ∧ Exa Z h o0 cN17 ∧ Fld Z h o0 cN17 "this$0" cN18 (.ref o1) ∧ Fld Z h o0 cN17 cN19 "I" (.int 2))) 0 0 := own_go own_pn56 fun p e s m below meth c s₁ hns hrt hnm hml hZ hx hby hown X5 e2 => by
 have N0 := Fr.nil n0
 refine own_cast (own_ef20 m o0) ?_
 refine oAN X5 hx hby dd56_0 rfl rfl ?_
 refine own_cV X5 hx hZ hown e2 (y := mN66) (z := mN66) (b := o0) (hw 298) (hw 299) (notFace_of_selects (args := #[]) (mvT hZ (hw 301))) (hw 301) (hw 300) (hw 253) (hw 302) (by decide) I1 (W := 0) (own_rm98 l Z a0 hw [] o0 o1 h0 n0 Z0 O0 I0 I7 I3) [] [] hml (lenOf own_pd13 rfl) (hb hby dd56_1) fun T2 h2 v0 L0 X6 e3 q0 => ?_
 obtain ⟨rfl, N1, K0⟩ := q0
 have N2 := Fr.app N0 N1
 have e4 := e3.trans K0
 refine oAN X6 hx hby dd56_4 rfl rfl ?_
 refine own_gF X6 hx hZ hown (hw 281) e4 I2 (hb hby dd56_5) fun T3 X2 e5 => ?_
 refine oISN X2 hx hby dd56_8 (l' := #[rv o0, iv 0, .unset]) rfl ?_
 refine oIN X2 hx hby dd56_9 rfl ?_
 refine oAN X2 hx hby dd56_10 rfl rfl ?_
 refine own_gF X2 hx hZ hown (hw 258) e5 I0 (hb hby dd56_11) fun T4 X7 e6 => ?_
 obtain ⟨T0, X3, e7, s0⟩ := getF X7 hx hZ hown (host := cN10) (Or.inr (hw 283)) Via.refl e6 I8 (g := (mkF m 14 #[rv o0, iv 0, .unset] [(.ref o1), (.int 0)])) rfl rfl (hb hby dd56_14)
 refine oS s0 ?_
 refine oYI X3 hx hby (pc' := 28) dd56_17 (XT.ii_lt_t (by decide)) ?_
 show own_G p e below (T0.setTop (mkF m 28 #[rv o0, iv 0, .unset] [])) _
 refine oAN X3 hx hby dd56_28 rfl rfl ?_
 refine own_gF X3 hx hZ hown (hw 258) e7 I0 (hb hby dd56_29) fun T5 X8 e8 => ?_
 refine own_gF X8 hx hZ hown (hw 303) e8 I9 (hb hby dd56_32) fun T1 X0 e0 => ?_
 refine oASN X0 hx hby dd56_35 rfl (l' := #[rv o0, iv 0, rv o2]) rfl ?_
 refine oIN X0 hx hby dd56_36 rfl ?_
 refine oAN X0 hx hby dd56_37 rfl rfl ?_
 refine oS (own_len X0 hx hZ e0 I4 rfl rfl (hb hby dd56_38)) ?_
 refine oYI X0 hx hby (pc' := 50) dd56_39 (XT.ii_lt_t (by decide)) ?_
 refine oAN X0 hx hby dd56_50 rfl rfl ?_
 refine oIN X0 hx hby dd56_51 rfl ?_
 show own_G p e below (T1.setTop (mkF m 52 #[rv o0, iv 0, rv o2] [(.int 0), (.ref o0)])) _
 refine oIC X0 hx hby dd56_52 ?_
 refine oS (fun _ => XS.iadd X0.here hx rfl (hb hby dd56_53) rfl) ?_
 refine own_pF X0 hx hZ hown (hw 281) e0 I2 I1 (Or.inl (hw 282)) (hw 252) (ty := .int) rfl rfl (hb hby dd56_54) fun T6 h3 X1 e9 W0 => ?_
 have N3 := Fr.snoc X1 N2 I5
 have z0 := W0.size
 have F2 := Fld.same W0 I2
 refine oAN X1 hx hby dd56_57 rfl rfl ?_
 refine oAN X1 hx hby dd56_58 rfl rfl ?_
 refine oIN X1 hx hby dd56_59 rfl ?_
 refine oS (fun _ => XT.dupX1 X1.here hx rfl (hb hby dd56_60) rfl rfl rfl) ?_
 have F0 := Fld.other W0 I00 (Or.inr (slot_ne (C := cN17) (Or.inl (hw 262)) (Or.inl (hw 282)) (by decide) (t := .int) (t' := .int) (by decide) (by decide)))
 have F1 := Exa.wr W0 I1
 refine own_pF X1 hx hZ hown (hw 261) e9 F0 F1 (Or.inl (hw 262)) (hw 252) (ty := .int) rfl rfl (hb hby dd56_61) fun T7 h1 X4 e1 W1 => ?_
 have N4 := Fr.snoc X4 N3 I5
 have z1 := W1.size
 have F3 := Fld.same W1 F0
 have F4 := (I4.other W0 I6).other W1 I6
 refine oS (own_aaload X4 hx hZ e1 F4 rfl (by decide) (v := (.ref o3)) rfl rfl rfl (hb hby dd56_64)) ?_
 have F5 := Fld.other W1 F2 (Or.inr (slot_ne (C := cN17) (Or.inl (hw 282)) (Or.inl (hw 262)) (by decide) (t := .int) (t' := .int) (by decide) (by decide)))
 have F6 := Exa.wr W1 F1
 have F7 := Fld.other W1 (Fld.other W0 I0 (Or.inr (slot_ne (C := cN17) (Or.inr (hw 259)) (Or.inl (hw 282)) (by decide) (t := (.object cN10)) (t' := .int) (by decide) (by decide)))) (Or.inr (slot_ne (C := cN17) (Or.inr (hw 259)) (Or.inl (hw 262)) (by decide) (t := (.object cN10)) (t' := .int) (by decide) (by decide)))
 have F8 := Fld.other W1 (Fld.other W0 I3 (Or.inr (slot_ne (C := cN17) (Or.inl (hw 265)) (Or.inl (hw 282)) (by decide) (t := .int) (t' := .int) (by decide) (by decide)))) (Or.inr (slot_ne (C := cN17) (Or.inl (hw 265)) (Or.inl (hw 262)) (by decide) (t := .int) (t' := .int) (by decide) (by decide)))
 have K1 : Keep h0 h1 [o0] := (((Keep.refl h0 [o0]).wr W0 (Or.inl (by simp))).wr W1 (Or.inl (by simp)))
 exact own_retA X4 hx hns hrt rfl rfl (hb hby dd56_65) e1 (by decide) (by decide) (⟨rfl, N4, K1, F5, F3, F6, F7, F8⟩)
theorem own_rm96 (l : Launch) (Z : State) (a0 : Array Value) (hw : own_W a0 Z) (ws : List Jvm.Cond) (m0 : ClassId) (o3 o0 o1 o2 o4 o5 : Nat) (h0 : Heap) (n0 : Nat) (Z0 : n0 ≤ h0.size) (O0 : Old Z n0 h0) (I1 : Fld Z h0 o3 cN20 "i" cN22 (.ref o0)) (I2 : Fld Z h0 o0 cN17 "this$0" cN18 (.ref o1)) (I3 : Fld Z h0 o1 cN9 "modCount" "I" (.int 2)) (I4 : Fld Z h0 o0 cN17 cN19 "I" (.int 2)) (I0 : Exa Z h0 o0 cN17) (I5 : Fld Z h0 o0 cN17 "cursor" "I" (.int 0)) (I6 : Fld Z h0 o1 cN10 "size" "I" (.int 2)) (I7 : Fld Z h0 o1 cN10 "elementData" cN3 (.ref o2)) (I8 : Arv Z h0 o2 m0 (.object cN1) 10 [(.ref o4), (.ref o5), .null, .null, .null, .null, .null, .null, .null, .null] .null) (I9 : n0 ≤ o0) (I00 : Fld Z h0 o0 cN17 "lastRet" "I" (.int (-1))) (I01 : @Ne Nat o2 o0) :
 own_Met l Z h0 mN68 B0J 1 (Option.some (FieldType.object cN1)) ws (own_R 2 0 0 26) #[(.ref o3)] (fun v h L => (v = some (.ref o4) ∧ Fr n0 L ∧ Keep h0 h [o0] ∧ Fld Z h o0 cN17 "cursor" "I" (.int 1) ∧ Fld Z h o0 cN17 "lastRet" "I" (.int 0) ∧ Exa Z h o0 cN17 ∧ Fld Z h o0 cN17 "this$0" cN18 (.ref o1) ∧ Fld Z h o0 cN17 cN19 "I" (.int 2))) 0 0 := own_go own_pn57 fun p e s m below meth c s₁ hns hrt hnm hml hZ hx hby hown X0 e0 => by
 have N0 := Fr.nil n0
 refine own_cast (own_ef6 m o3) ?_
 refine oAN X0 hx hby dd55_0 rfl rfl ?_
 refine own_gF X0 hx hZ hown (hw 266) e0 I1 (hb hby dd55_1) fun T0 X1 e1 => ?_
 refine own_cI X1 hx hZ hown e1 (y := mN69) (z := mN67) (b := o0) (hw 292) (hw 285) (hw 286) rfl (hw 293) (hw 294) (hw 295) (hw 296) (hw 279) (hw 253) (hw 297) (by decide) I0 (W := 0) (own_rm97 l Z a0 hw [] m0 o0 o1 o2 o4 o5 h0 n0 Z0 O0 I2 I3 I4 I0 I5 I6 I7 I8 I9 I00 I01) [] [] hml (lenOf own_pd25 rfl) (hb hby dd55_4) fun T1 h1 v0 L0 X2 e2 q0 => ?_
 obtain ⟨rfl, N1, K0, F0, F1, F2, F3, F4⟩ := q0
 have N2 := Fr.app N0 N1
 have z0 := K0.1
 have K1 : Keep h0 h1 [o0] := ((Keep.refl h0 [o0]).trans K0 (allS (Or.inl (by simp)) all0))
 exact own_retA X2 hx hns hrt rfl rfl (hb hby dd55_9) e2 (by decide) (by decide) (⟨rfl, N2, K1, F0, F1, F2, F3, F4⟩)
theorem own_rm100 (l : Launch) (Z : State) (a0 : Array Value) (hw : own_W a0 Z) (ws : List Jvm.Cond) (o0 o1 : Nat) (h0 : Heap) (n0 : Nat) (Z0 : n0 ≤ h0.size) (O0 : Old Z n0 h0) (I0 : Fld Z h0 o0 cN17 "cursor" "I" (.int 1)) (I1 : Fld Z h0 o0 cN17 "this$0" cN18 (.ref o1)) (I2 : Fld Z h0 o1 cN10 "size" "I" (.int 2)) :
 own_Met l Z h0 mN32 B0i 1 (Option.some FieldType.boolean) ws (own_R 0 0 0 0) #[(.ref o0)] (fun v h L => (v = some (.int 1) ∧ Fr n0 L ∧ h = h0)) 0 0 := own_go own_pn26 fun p e s m below meth c s₁ hns hrt hnm hml hZ hx hby hown X1 e0 => by
 have N0 := Fr.nil n0
 refine own_cast (own_ef6 m o0) ?_
 refine oAN X1 hx hby dd28_0 rfl rfl ?_
 refine own_gF X1 hx hZ hown (hw 281) e0 I0 (hb hby dd28_1) fun T0 X2 e1 => ?_
 refine oAN X2 hx hby dd28_4 rfl rfl ?_
 refine own_gF X2 hx hZ hown (hw 258) e1 I1 (hb hby dd28_5) fun T1 X3 e2 => ?_
 obtain ⟨T2, X0, e3, s0⟩ := getF X3 hx hZ hown (host := cN10) (Or.inr (hw 283)) Via.refl e2 I2 (g := (mkF m 8 #[rv o0] [(.ref o1), (.int 1)])) rfl rfl (hb hby dd28_8)
 refine oS s0 ?_
 refine oNI X0 hx hby dd28_11 (XT.ii_eq_f (by decide)) ?_
 refine oIC X0 hx hby dd28_14 ?_
 refine oGO X0 hx hby (pc' := 19) dd28_15 ?_
 exact own_retN X0 hx (t := .boolean) hns hrt (by simp) (hb hby dd28_19) (by decide) e3 (by decide) (by decide) (⟨rfl, N0, rfl⟩)
theorem own_rm99 (l : Launch) (Z : State) (a0 : Array Value) (hw : own_W a0 Z) (ws : List Jvm.Cond) (o1 o0 o2 : Nat) (h0 : Heap) (n0 : Nat) (Z0 : n0 ≤ h0.size) (O0 : Old Z n0 h0) (I0 : Fld Z h0 o1 cN20 "i" cN22 (.ref o0)) (I1 : Fld Z h0 o0 cN17 "cursor" "I" (.int 1)) (I2 : Fld Z h0 o0 cN17 "this$0" cN18 (.ref o2)) (I3 : Fld Z h0 o2 cN10 "size" "I" (.int 2)) (I4 : Exa Z h0 o0 cN17) :
 own_Met l Z h0 mN33 B0h 1 (Option.some FieldType.boolean) ws (own_R 1 0 0 12) #[(.ref o1)] (fun v h L => (v = some (.int 1) ∧ Fr n0 L ∧ h = h0)) 0 0 := own_go own_pn27 fun p e s m below meth c s₁ hns hrt hnm hml hZ hx hby hown X0 e0 => by
 have N0 := Fr.nil n0
 refine own_cast (own_ef6 m o1) ?_
 refine oAN X0 hx hby dd27_0 rfl rfl ?_
 refine own_gF X0 hx hZ hown (hw 266) e0 I0 (hb hby dd27_1) fun T0 X1 e1 => ?_
 refine own_cI X1 hx hZ hown e1 (y := mN17) (z := mN32) (b := o0) (hw 274) (hw 111) (hw 112) rfl (hw 275) (hw 276) (hw 277) (hw 278) (hw 279) (hw 253) (hw 280) (by decide) I4 (W := 0) (own_rm100 l Z a0 hw [] o0 o2 h0 n0 Z0 O0 I1 I2 I3) [] [] hml (lenOf own_pd5 rfl) (hb hby dd27_4) fun T1 h1 v0 L0 X2 e2 q0 => ?_
 obtain ⟨rfl, N1, K0⟩ := q0
 have N2 := Fr.app N0 N1
 have e3 := e2.trans K0
 exact own_retN X2 hx (t := .boolean) hns hrt (by simp) (hb hby dd27_9) (by decide) e3 (by decide) (by decide) (⟨rfl, N2, rfl⟩)
theorem own_rm102 (l : Launch) (Z : State) (a0 : Array Value) (hw : own_W a0 Z) (ws : List Jvm.Cond) (m0 : ClassId) (o0 o1 o2 o4 o3 : Nat) (h0 : Heap) (n0 : Nat) (Z0 : n0 ≤ h0.size) (O0 : Old Z n0 h0) (I0 : Fld Z h0 o0 cN17 "this$0" cN18 (.ref o1)) (I7 : Fld Z h0 o1 cN9 "modCount" "I" (.int 2)) (I3 : Fld Z h0 o0 cN17 cN19 "I" (.int 2)) (I1 : Exa Z h0 o0 cN17) (I2 : Fld Z h0 o0 cN17 "cursor" "I" (.int 1)) (I8 : Fld Z h0 o1 cN10 "size" "I" (.int 2)) (I9 : Fld Z h0 o1 cN10 "elementData" cN3 (.ref o2)) (I4 : Arv Z h0 o2 m0 (.object cN1) 10 [(.ref o4), (.ref o3), .null, .null, .null, .null, .null, .null, .null, .null] .null) (I5 : n0 ≤ o0) (I00 : Fld Z h0 o0 cN17 "lastRet" "I" (.int 0)) (I6 : @Ne Nat o2 o0) :
 own_Met l Z h0 mN67 B0K 3 (Option.some (FieldType.object cN1)) ws (own_R 1 0 0 12) #[(.ref o0)] (fun v h L => (v = some (.ref o3) ∧ Fr n0 L ∧ Keep h0 h [o0] ∧ Fld Z h o0 cN17 "cursor" "I" (.int 2) ∧ Fld Z h o0 cN17 "lastRet" "I" (.int 1) ∧ Exa Z h o0 cN17 ∧ Fld Z h o0 cN17 "this$0" cN18 (.ref o1) ∧ Fld Z h o0 cN17 cN19 "I" (.int 2))) 0 0 := own_go own_pn56 fun p e s m below meth c s₁ hns hrt hnm hml hZ hx hby hown X5 e2 => by
 have N0 := Fr.nil n0
 refine own_cast (own_ef20 m o0) ?_
 refine oAN X5 hx hby dd56_0 rfl rfl ?_
 refine own_cV X5 hx hZ hown e2 (y := mN66) (z := mN66) (b := o0) (hw 298) (hw 299) (notFace_of_selects (args := #[]) (mvT hZ (hw 301))) (hw 301) (hw 300) (hw 253) (hw 302) (by decide) I1 (W := 0) (own_rm98 l Z a0 hw [] o0 o1 h0 n0 Z0 O0 I0 I7 I3) [] [] hml (lenOf own_pd13 rfl) (hb hby dd56_1) fun T2 h2 v0 L0 X6 e3 q0 => ?_
 obtain ⟨rfl, N1, K0⟩ := q0
 have N2 := Fr.app N0 N1
 have e4 := e3.trans K0
 refine oAN X6 hx hby dd56_4 rfl rfl ?_
 refine own_gF X6 hx hZ hown (hw 281) e4 I2 (hb hby dd56_5) fun T3 X2 e5 => ?_
 refine oISN X2 hx hby dd56_8 (l' := #[rv o0, iv 1, .unset]) rfl ?_
 refine oIN X2 hx hby dd56_9 rfl ?_
 refine oAN X2 hx hby dd56_10 rfl rfl ?_
 refine own_gF X2 hx hZ hown (hw 258) e5 I0 (hb hby dd56_11) fun T4 X7 e6 => ?_
 obtain ⟨T0, X3, e7, s0⟩ := getF X7 hx hZ hown (host := cN10) (Or.inr (hw 283)) Via.refl e6 I8 (g := (mkF m 14 #[rv o0, iv 1, .unset] [(.ref o1), (.int 1)])) rfl rfl (hb hby dd56_14)
 refine oS s0 ?_
 refine oYI X3 hx hby (pc' := 28) dd56_17 (XT.ii_lt_t (by decide)) ?_
 show own_G p e below (T0.setTop (mkF m 28 #[rv o0, iv 1, .unset] [])) _
 refine oAN X3 hx hby dd56_28 rfl rfl ?_
 refine own_gF X3 hx hZ hown (hw 258) e7 I0 (hb hby dd56_29) fun T5 X8 e8 => ?_
 refine own_gF X8 hx hZ hown (hw 303) e8 I9 (hb hby dd56_32) fun T1 X0 e0 => ?_
 refine oASN X0 hx hby dd56_35 rfl (l' := #[rv o0, iv 1, rv o2]) rfl ?_
 refine oIN X0 hx hby dd56_36 rfl ?_
 refine oAN X0 hx hby dd56_37 rfl rfl ?_
 refine oS (own_len X0 hx hZ e0 I4 rfl rfl (hb hby dd56_38)) ?_
 refine oYI X0 hx hby (pc' := 50) dd56_39 (XT.ii_lt_t (by decide)) ?_
 refine oAN X0 hx hby dd56_50 rfl rfl ?_
 refine oIN X0 hx hby dd56_51 rfl ?_
 show own_G p e below (T1.setTop (mkF m 52 #[rv o0, iv 1, rv o2] [(.int 1), (.ref o0)])) _
 refine oIC X0 hx hby dd56_52 ?_
 refine oS (fun _ => XS.iadd X0.here hx rfl (hb hby dd56_53) rfl) ?_
 refine own_pF X0 hx hZ hown (hw 281) e0 I2 I1 (Or.inl (hw 282)) (hw 252) (ty := .int) rfl rfl (hb hby dd56_54) fun T6 h3 X1 e9 W0 => ?_
 have N3 := Fr.snoc X1 N2 I5
 have z0 := W0.size
 have F2 := Fld.same W0 I2
 refine oAN X1 hx hby dd56_57 rfl rfl ?_
 refine oAN X1 hx hby dd56_58 rfl rfl ?_
 refine oIN X1 hx hby dd56_59 rfl ?_
 refine oS (fun _ => XT.dupX1 X1.here hx rfl (hb hby dd56_60) rfl rfl rfl) ?_
 have F0 := Fld.other W0 I00 (Or.inr (slot_ne (C := cN17) (Or.inl (hw 262)) (Or.inl (hw 282)) (by decide) (t := .int) (t' := .int) (by decide) (by decide)))
 have F1 := Exa.wr W0 I1
 refine own_pF X1 hx hZ hown (hw 261) e9 F0 F1 (Or.inl (hw 262)) (hw 252) (ty := .int) rfl rfl (hb hby dd56_61) fun T7 h1 X4 e1 W1 => ?_
 have N4 := Fr.snoc X4 N3 I5
 have z1 := W1.size
 have F3 := Fld.same W1 F0
 have F4 := (I4.other W0 I6).other W1 I6
 refine oS (own_aaload X4 hx hZ e1 F4 rfl (by decide) (v := (.ref o3)) rfl rfl rfl (hb hby dd56_64)) ?_
 have F5 := Fld.other W1 F2 (Or.inr (slot_ne (C := cN17) (Or.inl (hw 282)) (Or.inl (hw 262)) (by decide) (t := .int) (t' := .int) (by decide) (by decide)))
 have F6 := Exa.wr W1 F1
 have F7 := Fld.other W1 (Fld.other W0 I0 (Or.inr (slot_ne (C := cN17) (Or.inr (hw 259)) (Or.inl (hw 282)) (by decide) (t := (.object cN10)) (t' := .int) (by decide) (by decide)))) (Or.inr (slot_ne (C := cN17) (Or.inr (hw 259)) (Or.inl (hw 262)) (by decide) (t := (.object cN10)) (t' := .int) (by decide) (by decide)))
 have F8 := Fld.other W1 (Fld.other W0 I3 (Or.inr (slot_ne (C := cN17) (Or.inl (hw 265)) (Or.inl (hw 282)) (by decide) (t := .int) (t' := .int) (by decide) (by decide)))) (Or.inr (slot_ne (C := cN17) (Or.inl (hw 265)) (Or.inl (hw 262)) (by decide) (t := .int) (t' := .int) (by decide) (by decide)))
 have K1 : Keep h0 h1 [o0] := (((Keep.refl h0 [o0]).wr W0 (Or.inl (by simp))).wr W1 (Or.inl (by simp)))
 exact own_retA X4 hx hns hrt rfl rfl (hb hby dd56_65) e1 (by decide) (by decide) (⟨rfl, N4, K1, F5, F3, F6, F7, F8⟩)
theorem own_rm101 (l : Launch) (Z : State) (a0 : Array Value) (hw : own_W a0 Z) (ws : List Jvm.Cond) (m0 : ClassId) (o3 o0 o1 o2 o5 o4 : Nat) (h0 : Heap) (n0 : Nat) (Z0 : n0 ≤ h0.size) (O0 : Old Z n0 h0) (I1 : Fld Z h0 o3 cN20 "i" cN22 (.ref o0)) (I2 : Fld Z h0 o0 cN17 "this$0" cN18 (.ref o1)) (I3 : Fld Z h0 o1 cN9 "modCount" "I" (.int 2)) (I4 : Fld Z h0 o0 cN17 cN19 "I" (.int 2)) (I0 : Exa Z h0 o0 cN17) (I5 : Fld Z h0 o0 cN17 "cursor" "I" (.int 1)) (I6 : Fld Z h0 o1 cN10 "size" "I" (.int 2)) (I7 : Fld Z h0 o1 cN10 "elementData" cN3 (.ref o2)) (I8 : Arv Z h0 o2 m0 (.object cN1) 10 [(.ref o5), (.ref o4), .null, .null, .null, .null, .null, .null, .null, .null] .null) (I9 : n0 ≤ o0) (I00 : Fld Z h0 o0 cN17 "lastRet" "I" (.int 0)) (I01 : @Ne Nat o2 o0) :
 own_Met l Z h0 mN68 B0J 1 (Option.some (FieldType.object cN1)) ws (own_R 2 0 0 26) #[(.ref o3)] (fun v h L => (v = some (.ref o4) ∧ Fr n0 L ∧ Keep h0 h [o0] ∧ Fld Z h o0 cN17 "cursor" "I" (.int 2) ∧ Fld Z h o0 cN17 "lastRet" "I" (.int 1) ∧ Exa Z h o0 cN17 ∧ Fld Z h o0 cN17 "this$0" cN18 (.ref o1) ∧ Fld Z h o0 cN17 cN19 "I" (.int 2))) 0 0 := own_go own_pn57 fun p e s m below meth c s₁ hns hrt hnm hml hZ hx hby hown X0 e0 => by
 have N0 := Fr.nil n0
 refine own_cast (own_ef6 m o3) ?_
 refine oAN X0 hx hby dd55_0 rfl rfl ?_
 refine own_gF X0 hx hZ hown (hw 266) e0 I1 (hb hby dd55_1) fun T0 X1 e1 => ?_
 refine own_cI X1 hx hZ hown e1 (y := mN69) (z := mN67) (b := o0) (hw 292) (hw 285) (hw 286) rfl (hw 293) (hw 294) (hw 295) (hw 296) (hw 279) (hw 253) (hw 297) (by decide) I0 (W := 0) (own_rm102 l Z a0 hw [] m0 o0 o1 o2 o5 o4 h0 n0 Z0 O0 I2 I3 I4 I0 I5 I6 I7 I8 I9 I00 I01) [] [] hml (lenOf own_pd25 rfl) (hb hby dd55_4) fun T1 h1 v0 L0 X2 e2 q0 => ?_
 obtain ⟨rfl, N1, K0, F0, F1, F2, F3, F4⟩ := q0
 have N2 := Fr.app N0 N1
 have z0 := K0.1
 have K1 : Keep h0 h1 [o0] := ((Keep.refl h0 [o0]).trans K0 (allS (Or.inl (by simp)) all0))
 exact own_retA X2 hx hns hrt rfl rfl (hb hby dd55_9) e2 (by decide) (by decide) (⟨rfl, N2, K1, F0, F1, F2, F3, F4⟩)
theorem own_rm104 (l : Launch) (Z : State) (a0 : Array Value) (hw : own_W a0 Z) (ws : List Jvm.Cond) (o0 o1 : Nat) (h0 : Heap) (n0 : Nat) (Z0 : n0 ≤ h0.size) (O0 : Old Z n0 h0) (I0 : Fld Z h0 o0 cN17 "cursor" "I" (.int 2)) (I1 : Fld Z h0 o0 cN17 "this$0" cN18 (.ref o1)) (I2 : Fld Z h0 o1 cN10 "size" "I" (.int 2)) :
 own_Met l Z h0 mN32 B0i 1 (Option.some FieldType.boolean) ws (own_R 0 0 0 0) #[(.ref o0)] (fun v h L => (v = some (.int 0) ∧ Fr n0 L ∧ h = h0)) 0 0 := own_go own_pn26 fun p e s m below meth c s₁ hns hrt hnm hml hZ hx hby hown X1 e0 => by
 have N0 := Fr.nil n0
 refine own_cast (own_ef6 m o0) ?_
 refine oAN X1 hx hby dd28_0 rfl rfl ?_
 refine own_gF X1 hx hZ hown (hw 281) e0 I0 (hb hby dd28_1) fun T0 X2 e1 => ?_
 refine oAN X2 hx hby dd28_4 rfl rfl ?_
 refine own_gF X2 hx hZ hown (hw 258) e1 I1 (hb hby dd28_5) fun T1 X3 e2 => ?_
 obtain ⟨T2, X0, e3, s0⟩ := getF X3 hx hZ hown (host := cN10) (Or.inr (hw 283)) Via.refl e2 I2 (g := (mkF m 8 #[rv o0] [(.ref o1), (.int 2)])) rfl rfl (hb hby dd28_8)
 refine oS s0 ?_
 refine oYI X0 hx hby (pc' := 18) dd28_11 (XT.ii_eq_t (by decide)) ?_
 refine oIC X0 hx hby dd28_18 ?_
 exact own_retN X0 hx (t := .boolean) hns hrt (by simp) (hb hby dd28_19) (by decide) e3 (by decide) (by decide) (⟨rfl, N0, rfl⟩)
theorem own_rm103 (l : Launch) (Z : State) (a0 : Array Value) (hw : own_W a0 Z) (ws : List Jvm.Cond) (o1 o0 o2 : Nat) (h0 : Heap) (n0 : Nat) (Z0 : n0 ≤ h0.size) (O0 : Old Z n0 h0) (I0 : Fld Z h0 o1 cN20 "i" cN22 (.ref o0)) (I1 : Fld Z h0 o0 cN17 "cursor" "I" (.int 2)) (I2 : Fld Z h0 o0 cN17 "this$0" cN18 (.ref o2)) (I3 : Fld Z h0 o2 cN10 "size" "I" (.int 2)) (I4 : Exa Z h0 o0 cN17) :
 own_Met l Z h0 mN33 B0h 1 (Option.some FieldType.boolean) ws (own_R 1 0 0 12) #[(.ref o1)] (fun v h L => (v = some (.int 0) ∧ Fr n0 L ∧ h = h0)) 0 0 := own_go own_pn27 fun p e s m below meth c s₁ hns hrt hnm hml hZ hx hby hown X0 e0 => by
 have N0 := Fr.nil n0
 refine own_cast (own_ef6 m o1) ?_
 refine oAN X0 hx hby dd27_0 rfl rfl ?_
 refine own_gF X0 hx hZ hown (hw 266) e0 I0 (hb hby dd27_1) fun T0 X1 e1 => ?_
 refine own_cI X1 hx hZ hown e1 (y := mN17) (z := mN32) (b := o0) (hw 274) (hw 111) (hw 112) rfl (hw 275) (hw 276) (hw 277) (hw 278) (hw 279) (hw 253) (hw 280) (by decide) I4 (W := 0) (own_rm104 l Z a0 hw [] o0 o2 h0 n0 Z0 O0 I1 I2 I3) [] [] hml (lenOf own_pd5 rfl) (hb hby dd27_4) fun T1 h1 v0 L0 X2 e2 q0 => ?_
 obtain ⟨rfl, N1, K0⟩ := q0
 have N2 := Fr.app N0 N1
 have e3 := e2.trans K0
 exact own_retN X2 hx (t := .boolean) hns hrt (by simp) (hb hby dd27_9) (by decide) e3 (by decide) (by decide) (⟨rfl, N2, rfl⟩)
theorem own_rm89 (l : Launch) (Z : State) (a0 : Array Value) (hw : own_W a0 Z) (ws : List Jvm.Cond) (i0 i1 i2 i3 i4 i5 i6 i7 i8 : Int32) (m0 : ClassId) (o0 o1 o3 o7 o5 o4 : Nat) (h0 : Heap) (n0 : Nat) (Z9 : n0 ≤ h0.size) (O4 : Old Z n0 h0) (I6 : Fld Z h0 o0 cN7 "type" "S" (.int 0)) (I7 : Exa Z h0 o0 cN7) (I8 : nar .short i0 = i0) (I1 : n0 ≤ o0) (I9 : Fld Z h0 o0 cN7 "name" cN8 .null) (I00 : Fld Z h0 o0 cN7 "minOccurs" "I" (.int 0)) (I01 : Fld Z h0 o0 cN7 "maxOccurs" "I" (.int 0)) (I02 : Fld Z h0 o0 cN7 "particles" cN5 .null) (I03 : Fld Z h0 o1 cN12 "c" cN13 (.ref o3)) (I2 : @Ne Nat o1 o0) (I0f : @LT.lt Nat instLTNat o1 h0.size) (I04 : Fld Z h0 o3 cN9 "modCount" "I" (.int 2)) (I0 : @Ne Nat o3 o0) (I0g : @LT.lt Nat instLTNat o3 h0.size) (I05 : Exa Z h0 o3 cN10) (I06 : Exa Z h0 o1 cN14) (I07 : Fld Z h0 o3 cN10 "size" "I" (.int 2)) (I08 : Fld Z h0 o3 cN10 "elementData" cN3 (.ref o7)) (I09 : Arv Z h0 o7 m0 (.object cN1) 10 [(.ref o5), (.ref o4), .null, .null, .null, .null, .null, .null, .null, .null] .null) (I3 : @Ne Nat o7 o0) (I0h : @LT.lt Nat instLTNat o7 h0.size) (I0a : Exa Z h0 o5 cN7) (I0b : Fld Z h0 o5 cN7 "hash" "I" (.int (((31 : Int32) * (((31 : Int32) * ((31 : Int32) + ((i3.toInt8.toInt32) &&& 255))) + i4)) + i5))) (I4 : @Ne Nat o5 o0) (I0i : @LT.lt Nat instLTNat o5 h0.size) (I0c : Exa Z h0 o4 cN7) (I0d : Fld Z h0 o4 cN7 "hash" "I" (.int (((31 : Int32) * (((31 : Int32) * ((31 : Int32) + ((i6.toInt8.toInt32) &&& 255))) + i7)) + i8))) (I5 : @Ne Nat o4 o0) (I0j : @LT.lt Nat instLTNat o4 h0.size) (I0e : Fld Z h0 o0 cN7 "hash" "I" (.int 0)) (I0k : @LT.lt Nat instLTNat o0 h0.size) :
 own_Met l Z h0 mN15 B6 9 (Option.none : Option FieldType) ws (own_R 5 2 6 65) #[(.ref o0), (.int i0), .null, (.int i1), (.int i2), (.ref o1)] (fun v h L => (v = none ∧ Fr n0 L ∧ Keep h0 h [o0] ∧ Fld Z h o0 cN7 "type" "S" (.int i0) ∧ Fld Z h o0 cN7 "name" cN8 .null ∧ Exa Z h o0 cN7 ∧ Fld Z h o0 cN7 "minOccurs" "I" (.int i1) ∧ Fld Z h o0 cN7 "maxOccurs" "I" (.int i2) ∧ Fld Z h o0 cN7 "particles" cN5 (.ref o1) ∧ Fld Z h o0 cN7 "hash" "I" (.int (((31 : Int32) * (((31 : Int32) * (((31 : Int32) * (((31 : Int32) * (((31 : Int32) * i0) + 0)) + i1)) + i2)) + (((31 : Int32) * (((31 : Int32) * ((31 : Int32) + ((i3.toInt8.toInt32) &&& 255))) + i4)) + i5))) + (((31 : Int32) * (((31 : Int32) * ((31 : Int32) + ((i6.toInt8.toInt32) &&& 255))) + i7)) + i8))))) 2 6 := own_go own_pn13 fun p e s m below meth c s₁ hns hrt hnm hml hZ hx hby hown X05 e0 => by
 have N6 := Fr.nil n0
 refine own_cast (own_ef10 m o0 i0 i1 i2 o1) ?_
 refine oAN X05 hx hby dd6_0 rfl rfl ?_
 obtain ⟨T7, X01, e1, s0⟩ := initO X05 hx hZ hown (hw 42) (hw 21) (hw 22) e0 (g := (mkF m 1 #[rv o0, iv i0, .val .null, iv i1, iv i2, rv o1, .unset, .unset, .unset] [(.ref o0)])) rfl (by rw [hml]; rfl) rfl (hb hby dd6_1) (by decide) (W := 0) (by show 2 * 0 + _ ≤ _; exact Nat.le_of_eq rfl) (by decide)
 refine oS s0 ?_
 refine oAN X01 hx hby dd6_4 rfl rfl ?_
 refine oIN X01 hx hby dd6_5 rfl ?_
 refine own_pF X01 hx hZ hown (hw 43) e1 I6 I7 (Or.inr ⟨(hw 44), rfl, hnm⟩) (hw 32) (ty := .short) (own_fnS I8) (own_fiS I8) (hb hby dd6_6) fun T8 h5 X6 e2 W0 => ?_
 have N7 := Fr.snoc X6 N6 I1
 have z0 := W0.size
 have F0i := Fld.same W0 I6
 refine oAN X6 hx hby dd6_9 rfl rfl ?_
 refine oAN X6 hx hby dd6_10 rfl rfl ?_
 have F6 := Fld.other W0 I9 (Or.inr (slot_ne (C := cN7) (Or.inr (hw 46)) (Or.inr (hw 44)) (by decide) (t := (.object cN0)) (t' := .short) (by decide) (by decide)))
 have F7 := Exa.wr W0 I7
 refine own_pF X6 hx hZ hown (hw 45) e2 F6 F7 (Or.inr ⟨(hw 46), rfl, hnm⟩) (hw 32) (ty := (.object cN0)) rfl rfl (hb hby dd6_11) fun T0 h6 X7 e3 W1 => ?_
 have N8 := Fr.snoc X7 N7 I1
 have z1 := W1.size
 have F0j := Fld.same W1 F6
 refine oAN X7 hx hby dd6_14 rfl rfl ?_
 refine oIN X7 hx hby dd6_15 rfl ?_
 show own_G p e below (T0.setTop (mkF m 16 #[rv o0, iv i0, .val .null, iv i1, iv i2, rv o1, .unset, .unset, .unset] [(.int i1), (.ref o0)])) _
 have F8 := Fld.other W1 (Fld.other W0 I00 (Or.inr (slot_ne (C := cN7) (Or.inr (hw 48)) (Or.inr (hw 44)) (by decide) (t := .int) (t' := .short) (by decide) (by decide)))) (Or.inr (slot_ne (C := cN7) (Or.inr (hw 48)) (Or.inr (hw 46)) (by decide) (t := .int) (t' := (.object cN0)) (by decide) (by decide)))
 have F9 := Exa.wr W1 F7
 refine own_pF X7 hx hZ hown (hw 47) e3 F8 F9 (Or.inr ⟨(hw 48), rfl, hnm⟩) (hw 32) (ty := .int) rfl rfl (hb hby dd6_16) fun T9 h7 X8 e4 W2 => ?_
 have N9 := Fr.snoc X8 N8 I1
 have z2 := W2.size
 have F0k := Fld.same W2 F8
 refine oAN X8 hx hby dd6_19 rfl rfl ?_
 refine oIL X8 hx hby dd6_20 rfl ?_
 have F00 := Fld.other W2 (Fld.other W1 (Fld.other W0 I01 (Or.inr (slot_ne (C := cN7) (Or.inr (hw 50)) (Or.inr (hw 44)) (by decide) (t := .int) (t' := .short) (by decide) (by decide)))) (Or.inr (slot_ne (C := cN7) (Or.inr (hw 50)) (Or.inr (hw 46)) (by decide) (t := .int) (t' := (.object cN0)) (by decide) (by decide)))) (Or.inr (slot_ne (C := cN7) (Or.inr (hw 50)) (Or.inr (hw 48)) (by decide) (t := .int) (t' := .int) (by decide) (by decide)))
 have F01 := Exa.wr W2 F9
 refine own_pF X8 hx hZ hown (hw 49) e4 F00 F01 (Or.inr ⟨(hw 50), rfl, hnm⟩) (hw 32) (ty := .int) rfl rfl (hb hby dd6_22) fun T00 h8 X9 e5 W3 => ?_
 have N00 := Fr.snoc X9 N9 I1
 have z3 := W3.size
 have F0l := Fld.same W3 F00
 refine oAN X9 hx hby dd6_25 rfl rfl ?_
 refine oAL X9 hx hby dd6_26 rfl rfl ?_
 have F02 := Fld.other W3 (Fld.other W2 (Fld.other W1 (Fld.other W0 I02 (Or.inr (slot_ne (C := cN7) (Or.inr (hw 52)) (Or.inr (hw 44)) (by decide) (t := (.object "java/util/List")) (t' := .short) (by decide) (by decide)))) (Or.inr (slot_ne (C := cN7) (Or.inr (hw 52)) (Or.inr (hw 46)) (by decide) (t := (.object "java/util/List")) (t' := (.object cN0)) (by decide) (by decide)))) (Or.inr (slot_ne (C := cN7) (Or.inr (hw 52)) (Or.inr (hw 48)) (by decide) (t := (.object "java/util/List")) (t' := .int) (by decide) (by decide)))) (Or.inr (slot_ne (C := cN7) (Or.inr (hw 52)) (Or.inr (hw 50)) (by decide) (t := (.object "java/util/List")) (t' := .int) (by decide) (by decide)))
 have F03 := Exa.wr W3 F01
 refine own_pF X9 hx hZ hown (hw 51) e5 F02 F03 (Or.inr ⟨(hw 52), rfl, hnm⟩) (hw 32) (ty := (.object "java/util/List")) rfl rfl (hb hby dd6_28) fun T1 h1 X1 e6 W4 => ?_
 have N01 := Fr.snoc X1 N00 I1
 have z4 := W4.size
 have F0m := Fld.same W4 F02
 refine oS (fun _ => XS.bipush X1.here hx rfl (hb hby dd6_31) ) ?_
 refine oIN X1 hx hby dd6_33 rfl ?_
 refine oS (fun _ => XS.imul X1.here hx rfl (hb hby dd6_34) rfl) ?_
 show own_G p e below (T1.setTop (mkF m 35 #[rv o0, iv i0, .val .null, iv i1, iv i2, rv o1, .unset, .unset, .unset] [(.int ((31 : Int32) * i0))])) _
 refine oAN X1 hx hby dd6_35 rfl rfl ?_
 have O5 : Old Z n0 h5 := O4.wr W0 I1
 have O6 : Old Z n0 h6 := O5.wr W1 I1
 have O7 : Old Z n0 h7 := O6.wr W2 I1
 have O8 : Old Z n0 h8 := O7.wr W3 I1
 have O1 : Old Z n0 h1 := O8.wr W4 I1
 have Z0 : n0 ≤ h1.size := by omega
 refine own_cS X1 hx hZ hown e6 (y := mN8) (hw 53) (hw 54) (hw 55) (hw 56) (by decide) (W := 1) (own_rm26 l Z a0 hw []  h1 n0 Z0 O1 ) [.null] [(.int ((31 : Int32) * i0))] hml (lenOf own_pd8 rfl) (hb hby dd6_36) fun T2 h00 v0 L0 X0 e7 q0 => ?_
 obtain ⟨rfl, N02, K3⟩ := q0
 have N03 := Fr.app N01 N02
 have e8 := e7.trans K3
 refine oS (fun _ => XS.iadd X0.here hx rfl (hb hby dd6_39) rfl) ?_
 refine oIS X0 hx hby dd6_40 (l' := #[rv o0, iv i0, .val .null, iv i1, iv i2, rv o1, iv (((31 : Int32) * i0) + 0), .unset, .unset]) rfl ?_
 refine oS (fun _ => XS.bipush X0.here hx rfl (hb hby dd6_42) ) ?_
 refine oS (fun _ => XS.bipush X0.here hx rfl (hb hby dd6_44) ) ?_
 refine oIL X0 hx hby dd6_46 rfl ?_
 refine oS (fun _ => XS.imul X0.here hx rfl (hb hby dd6_48) rfl) ?_
 refine oIN X0 hx hby dd6_49 rfl ?_
 refine oS (fun _ => XS.iadd X0.here hx rfl (hb hby dd6_50) rfl) ?_
 show own_G p e below (T2.setTop (mkF m 51 #[rv o0, iv i0, .val .null, iv i1, iv i2, rv o1, iv (((31 : Int32) * i0) + 0), .unset, .unset] [(.int (((31 : Int32) * (((31 : Int32) * i0) + 0)) + i1)), (.int 31)])) _
 refine oS (fun _ => XS.imul X0.here hx rfl (hb hby dd6_51) rfl) ?_
 refine oIL X0 hx hby dd6_52 rfl ?_
 refine oS (fun _ => XS.iadd X0.here hx rfl (hb hby dd6_54) rfl) ?_
 refine oIS X0 hx hby dd6_55 (l' := #[rv o0, iv i0, .val .null, iv i1, iv i2, rv o1, iv (((31 : Int32) * (((31 : Int32) * (((31 : Int32) * i0) + 0)) + i1)) + i2), .unset, .unset]) rfl ?_
 refine oAL X0 hx hby dd6_57 rfl rfl ?_
 have F0n := Fld.other W4 (Fld.other W3 (Fld.other W2 (Fld.other W1 (Fld.other W0 I03 (Or.inl I2)) (Or.inl I2)) (Or.inl I2)) (Or.inl I2)) (Or.inl I2)
 have y2 : @LT.lt Nat instLTNat o1 h1.size := by omega
 have F04 := Fld.other W4 (Fld.other W3 (Fld.other W2 (Fld.other W1 (Fld.other W0 I04 (Or.inl I0)) (Or.inl I0)) (Or.inl I0)) (Or.inl I0)) (Or.inl I0)
 have y0 : @LT.lt Nat instLTNat o1 h1.size := by omega
 have y1 : @LT.lt Nat instLTNat o3 h1.size := by omega
 have F0o := Exa.wr W4 (Exa.wr W3 (Exa.wr W2 (Exa.wr W1 (Exa.wr W0 I05))))
 have Z1 : n0 ≤ h1.size := by omega
 have F0p := Exa.wr W4 (Exa.wr W3 (Exa.wr W2 (Exa.wr W1 (Exa.wr W0 I06))))
 refine own_cI X0 hx hZ hown e8 (y := mN16) (z := mN31) (b := o1) (hw 75) (hw 76) (hw 77) rfl (hw 225) (hw 226) (hw 227) (hw 228) (hw 229) (hw 218) (hw 230) (by decide) F0p (W := 0) (own_rm90 l Z a0 hw [] o1 o3 h1 n0 Z1 O1 F0n y0 F04 y1 F0o) [] [] hml (lenOf own_pd10 rfl) (hb hby dd6_59) fun T01 h3 v1 L1 X02 e9 q1 => ?_
 obtain ⟨o2, o6, rfl, N04, K1, F0M, F0N, F0, F0O, F1, F05, F06, F0q, F0r, F07, F0P, F0Q⟩ := q1
 have N05 := Fr.app N03 N04
 have z5 := K1.1
 refine oAS X02 hx hby dd6_64 rfl (l' := #[rv o0, iv i0, .val .null, iv i1, iv i2, rv o1, iv (((31 : Int32) * (((31 : Int32) * (((31 : Int32) * i0) + 0)) + i1)) + i2), rv o2, .unset]) rfl ?_
 refine oAL X02 hx hby dd6_66 rfl rfl ?_
 have F2 := (Fld.other W4 (Fld.other W3 (Fld.other W2 (Fld.other W1 (Fld.other W0 I07 (Or.inl I0)) (Or.inl I0)) (Or.inl I0)) (Or.inl I0)) (Or.inl I0)).keep K1 nin0
 have O2 : Old Z n0 h3 := O1.keep K1 all0
 have Z2 : n0 ≤ h3.size := by omega
 refine own_cI X02 hx hZ hown e9 (y := mN17) (z := mN33) (b := o2) (hw 110) (hw 111) (hw 112) rfl (hw 268) (hw 269) (hw 270) (hw 271) (hw 272) (hw 233) (hw 273) (by decide) F0 (W := 0) (own_rm94 l Z a0 hw [] o2 o6 o3 h3 n0 Z2 O2 F1 F07 F06 F2 F05) [] [] hml (lenOf own_pd5 rfl) (hb hby dd6_68) fun T3 h01 v2 L2 X03 e00 q2 => ?_
 obtain ⟨rfl, N06, K4⟩ := q2
 have N07 := Fr.app N05 N06
 have e01 := e00.trans K4
 refine oN0 X03 hx hby dd6_73 (XT.i0_eq_f (by decide)) ?_
 show own_G p e below (T3.setTop (mkF m 76 #[rv o0, iv i0, .val .null, iv i1, iv i2, rv o1, iv (((31 : Int32) * (((31 : Int32) * (((31 : Int32) * i0) + 0)) + i1)) + i2), rv o2, .unset] [])) _
 refine oAL X03 hx hby dd6_76 rfl rfl ?_
 have F08 := F04.keep K1 nin0
 have F09 := (Fld.other W4 (Fld.other W3 (Fld.other W2 (Fld.other W1 (Fld.other W0 I08 (Or.inl I0)) (Or.inl I0)) (Or.inl I0)) (Or.inl I0)) (Or.inl I0)).keep K1 nin0
 have F0a := (((((I09.other W0 I3).other W1 I3).other W2 I3).other W3 I3).other W4 I3).keep K1 nin0
 have N1 : n0 ≤ o6 := by omega
 have N3 : @Ne Nat o7 o6 := by omega
 have Z3 : n0 ≤ h3.size := by omega
 refine own_cI X03 hx hZ hown e01 (y := mN69) (z := mN68) (b := o2) (hw 284) (hw 285) (hw 286) rfl (hw 287) (hw 288) (hw 289) (hw 290) (hw 272) (hw 233) (hw 291) (by decide) F0 (W := 0) (own_rm96 l Z a0 hw [] m0 o2 o6 o3 o7 o5 o4 h3 n0 Z3 O2 F1 F06 F08 F0r F05 F07 F2 F09 F0a N1 F0q N3) [] [] hml (lenOf own_pd25 rfl) (hb hby dd6_78) fun T02 h2 v3 L3 X07 e02 q3 => ?_
 obtain ⟨rfl, N08, K0, F0b, F0s, F0c, F0d, F0t⟩ := q3
 have N09 := Fr.app N07 N08
 have z6 := K0.1
 have F0e := ((Exa.wr W4 (Exa.wr W3 (Exa.wr W2 (Exa.wr W1 (Exa.wr W0 I0a))))).keep K1).keep K0
 refine own_cY X07 hx hZ hown (hw 304) e02 (Ins.of_exa F0e (hw 305)) (hb hby dd6_83) fun T03 X2 e03 => ?_
 refine oAS X2 hx hby dd6_86 rfl (l' := #[rv o0, iv i0, .val .null, iv i1, iv i2, rv o1, iv (((31 : Int32) * (((31 : Int32) * (((31 : Int32) * i0) + 0)) + i1)) + i2), rv o2, rv o5]) rfl ?_
 refine oS (fun _ => XS.bipush X2.here hx rfl (hb hby dd6_88) ) ?_
 refine oIL X2 hx hby dd6_90 rfl ?_
 refine oS (fun _ => XS.imul X2.here hx rfl (hb hby dd6_92) rfl) ?_
 refine oAL X2 hx hby dd6_93 rfl rfl ?_
 have N0a : @Ne Nat o5 o6 := by omega
 have F0u := ((Fld.other W4 (Fld.other W3 (Fld.other W2 (Fld.other W1 (Fld.other W0 I0b (Or.inl I4)) (Or.inl I4)) (Or.inl I4)) (Or.inl I4)) (Or.inl I4)).keep K1 nin0).keep K0 (ninS N0a nin0)
 have O0 : Old Z n0 h2 := O2.keep K0 (allS N1 all0)
 have Z4 : n0 ≤ h2.size := by omega
 refine own_cIU X2 hx hZ hown e03 (y := mN70) (z := mN60) (J := cN1) (b := o5) (hw 306) (hw 58) (hw 307) (by decide) (by decide) (hw 308) (hw 309) (hw 310) (hw 311) (hw 305) (hw 29) (hw 312) (by decide) F0e (W := 1) (own_rm71 l Z a0 hw [] i3 i4 i5 o5 h2 n0 Z4 O0 F0u) [] [(.int ((31 : Int32) * (((31 : Int32) * (((31 : Int32) * (((31 : Int32) * i0) + 0)) + i1)) + i2)))] hml (lenOf own_pd7 rfl) (hb hby dd6_95) fun T4 h02 v4 L4 X4 e04 q4 => ?_
 obtain ⟨rfl, N0b, K5⟩ := q4
 have N0c := Fr.app N09 N0b
 have e05 := e04.trans K5
 refine oS (fun _ => XS.iadd X4.here hx rfl (hb hby dd6_100) rfl) ?_
 show own_G p e below (T4.setTop (mkF m 101 #[rv o0, iv i0, .val .null, iv i1, iv i2, rv o1, iv (((31 : Int32) * (((31 : Int32) * (((31 : Int32) * i0) + 0)) + i1)) + i2), rv o2, rv o5] [(.int (((31 : Int32) * (((31 : Int32) * (((31 : Int32) * (((31 : Int32) * i0) + 0)) + i1)) + i2)) + (((31 : Int32) * (((31 : Int32) * ((31 : Int32) + ((i3.toInt8.toInt32) &&& 255))) + i4)) + i5)))])) _
 refine oIS X4 hx hby dd6_101 (l' := #[rv o0, iv i0, .val .null, iv i1, iv i2, rv o1, iv (((31 : Int32) * (((31 : Int32) * (((31 : Int32) * (((31 : Int32) * i0) + 0)) + i1)) + i2)) + (((31 : Int32) * (((31 : Int32) * ((31 : Int32) + ((i3.toInt8.toInt32) &&& 255))) + i4)) + i5)), rv o2, rv o5]) rfl ?_
 refine oGO X4 hx hby (pc' := 66) dd6_103 ?_
 refine oAL X4 hx hby dd6_66 rfl rfl ?_
 have N4 : @Ne Nat o2 o6 := by omega
 have F3 := F1.keep K0 (ninS N4 nin0)
 have N2 : @Ne Nat o3 o6 := by omega
 have F4 := F2.keep K0 (ninS N2 nin0)
 have Z5 : n0 ≤ h2.size := by omega
 have F5 := F0.keep K0
 refine own_cI X4 hx hZ hown e05 (y := mN17) (z := mN33) (b := o2) (hw 110) (hw 111) (hw 112) rfl (hw 268) (hw 269) (hw 270) (hw 271) (hw 272) (hw 233) (hw 273) (by decide) F5 (W := 0) (own_rm99 l Z a0 hw [] o2 o6 o3 h2 n0 Z5 O0 F3 F0b F0d F4 F0c) [] [] hml (lenOf own_pd5 rfl) (hb hby dd6_68) fun T04 h03 v5 L5 X04 e06 q5 => ?_
 obtain ⟨rfl, N0d, K6⟩ := q5
 have N0e := Fr.app N0c N0d
 have e07 := e06.trans K6
 refine oN0 X04 hx hby dd6_73 (XT.i0_eq_f (by decide)) ?_
 refine oAL X04 hx hby dd6_76 rfl rfl ?_
 have F0v := F08.keep K0 (ninS N2 nin0)
 have F0w := F09.keep K0 (ninS N2 nin0)
 have F0x := F0a.keep K0 (ninS N3 nin0)
 have Z6 : n0 ≤ h2.size := by omega
 refine own_cI X04 hx hZ hown e07 (y := mN69) (z := mN68) (b := o2) (hw 284) (hw 285) (hw 286) rfl (hw 287) (hw 288) (hw 289) (hw 290) (hw 272) (hw 233) (hw 291) (by decide) F5 (W := 0) (own_rm101 l Z a0 hw [] m0 o2 o6 o3 o7 o5 o4 h2 n0 Z6 O0 F3 F0d F0v F0t F0c F0b F4 F0w F0x N1 F0s N3) [] [] hml (lenOf own_pd25 rfl) (hb hby dd6_78) fun T05 h4 v6 L6 X08 e08 q6 => ?_
 obtain ⟨rfl, N0f, K2, F0y, F0R, F0z, F0A, F0S⟩ := q6
 have N0g := Fr.app N0e N0f
 have z7 := K2.1
 have F0f := (((Exa.wr W4 (Exa.wr W3 (Exa.wr W2 (Exa.wr W1 (Exa.wr W0 I0c))))).keep K1).keep K0).keep K2
 refine own_cY X08 hx hZ hown (hw 304) e08 (Ins.of_exa F0f (hw 305)) (hb hby dd6_83) fun T5 X3 e09 => ?_
 refine oAS X3 hx hby dd6_86 rfl (l' := #[rv o0, iv i0, .val .null, iv i1, iv i2, rv o1, iv (((31 : Int32) * (((31 : Int32) * (((31 : Int32) * (((31 : Int32) * i0) + 0)) + i1)) + i2)) + (((31 : Int32) * (((31 : Int32) * ((31 : Int32) + ((i3.toInt8.toInt32) &&& 255))) + i4)) + i5)), rv o2, rv o4]) rfl ?_
 refine oS (fun _ => XS.bipush X3.here hx rfl (hb hby dd6_88) ) ?_
 show own_G p e below (T5.setTop (mkF m 90 #[rv o0, iv i0, .val .null, iv i1, iv i2, rv o1, iv (((31 : Int32) * (((31 : Int32) * (((31 : Int32) * (((31 : Int32) * i0) + 0)) + i1)) + i2)) + (((31 : Int32) * (((31 : Int32) * ((31 : Int32) + ((i3.toInt8.toInt32) &&& 255))) + i4)) + i5)), rv o2, rv o4] [(.int 31)])) _
 refine oIL X3 hx hby dd6_90 rfl ?_
 refine oS (fun _ => XS.imul X3.here hx rfl (hb hby dd6_92) rfl) ?_
 refine oAL X3 hx hby dd6_93 rfl rfl ?_
 have N5 : @Ne Nat o4 o6 := by omega
 have F0B := (((Fld.other W4 (Fld.other W3 (Fld.other W2 (Fld.other W1 (Fld.other W0 I0d (Or.inl I5)) (Or.inl I5)) (Or.inl I5)) (Or.inl I5)) (Or.inl I5)).keep K1 nin0).keep K0 (ninS N5 nin0)).keep K2 (ninS N5 nin0)
 have O3 : Old Z n0 h4 := O0.keep K2 (allS N1 all0)
 have Z7 : n0 ≤ h4.size := by omega
 refine own_cIU X3 hx hZ hown e09 (y := mN70) (z := mN60) (J := cN1) (b := o4) (hw 306) (hw 58) (hw 307) (by decide) (by decide) (hw 308) (hw 309) (hw 310) (hw 311) (hw 305) (hw 29) (hw 312) (by decide) F0f (W := 1) (own_rm71 l Z a0 hw [] i6 i7 i8 o4 h4 n0 Z7 O3 F0B) [] [(.int ((31 : Int32) * (((31 : Int32) * (((31 : Int32) * (((31 : Int32) * (((31 : Int32) * i0) + 0)) + i1)) + i2)) + (((31 : Int32) * (((31 : Int32) * ((31 : Int32) + ((i3.toInt8.toInt32) &&& 255))) + i4)) + i5))))] hml (lenOf own_pd7 rfl) (hb hby dd6_95) fun T06 h04 v7 L7 X5 e0a q7 => ?_
 obtain ⟨rfl, N0h, K7⟩ := q7
 have N0i := Fr.app N0g N0h
 have e0b := e0a.trans K7
 refine oS (fun _ => XS.iadd X5.here hx rfl (hb hby dd6_100) rfl) ?_
 refine oIS X5 hx hby dd6_101 (l' := #[rv o0, iv i0, .val .null, iv i1, iv i2, rv o1, iv (((31 : Int32) * (((31 : Int32) * (((31 : Int32) * (((31 : Int32) * (((31 : Int32) * i0) + 0)) + i1)) + i2)) + (((31 : Int32) * (((31 : Int32) * ((31 : Int32) + ((i3.toInt8.toInt32) &&& 255))) + i4)) + i5))) + (((31 : Int32) * (((31 : Int32) * ((31 : Int32) + ((i6.toInt8.toInt32) &&& 255))) + i7)) + i8)), rv o2, rv o4]) rfl ?_
 refine oGO X5 hx hby (pc' := 66) dd6_103 ?_
 refine oAL X5 hx hby dd6_66 rfl rfl ?_
 have F0C := F3.keep K2 (ninS N4 nin0)
 have F0D := F4.keep K2 (ninS N2 nin0)
 have Z8 : n0 ≤ h4.size := by omega
 have F0E := F5.keep K2
 refine own_cI X5 hx hZ hown e0b (y := mN17) (z := mN33) (b := o2) (hw 110) (hw 111) (hw 112) rfl (hw 268) (hw 269) (hw 270) (hw 271) (hw 272) (hw 233) (hw 273) (by decide) F0E (W := 0) (own_rm103 l Z a0 hw [] o2 o6 o3 h4 n0 Z8 O3 F0C F0y F0A F0D F0z) [] [] hml (lenOf own_pd5 rfl) (hb hby dd6_68) fun T6 h05 v8 L8 X00 e0c q8 => ?_
 obtain ⟨rfl, N0j, K8⟩ := q8
 have N0k := Fr.app N0i N0j
 have e0d := e0c.trans K8
 refine oY0 X00 hx hby (pc' := 106) dd6_73 (XT.i0_eq_t (by decide)) ?_
 show own_G p e below (T6.setTop (mkF m 106 #[rv o0, iv i0, .val .null, iv i1, iv i2, rv o1, iv (((31 : Int32) * (((31 : Int32) * (((31 : Int32) * (((31 : Int32) * (((31 : Int32) * i0) + 0)) + i1)) + i2)) + (((31 : Int32) * (((31 : Int32) * ((31 : Int32) + ((i3.toInt8.toInt32) &&& 255))) + i4)) + i5))) + (((31 : Int32) * (((31 : Int32) * ((31 : Int32) + ((i6.toInt8.toInt32) &&& 255))) + i7)) + i8)), rv o2, rv o4] [])) _
 refine oAN X00 hx hby dd6_106 rfl rfl ?_
 refine oIL X00 hx hby dd6_107 rfl ?_
 have N0 : @Ne Nat o0 o6 := by omega
 have F0g := (((Fld.other W4 (Fld.other W3 (Fld.other W2 (Fld.other W1 (Fld.other W0 I0e (Or.inr (slot_ne (C := cN7) (Or.inr (hw 120)) (Or.inr (hw 44)) (by decide) (t := .int) (t' := .short) (by decide) (by decide)))) (Or.inr (slot_ne (C := cN7) (Or.inr (hw 120)) (Or.inr (hw 46)) (by decide) (t := .int) (t' := (.object cN0)) (by decide) (by decide)))) (Or.inr (slot_ne (C := cN7) (Or.inr (hw 120)) (Or.inr (hw 48)) (by decide) (t := .int) (t' := .int) (by decide) (by decide)))) (Or.inr (slot_ne (C := cN7) (Or.inr (hw 120)) (Or.inr (hw 50)) (by decide) (t := .int) (t' := .int) (by decide) (by decide)))) (Or.inr (slot_ne (C := cN7) (Or.inr (hw 120)) (Or.inr (hw 52)) (by decide) (t := .int) (t' := (.object "java/util/List")) (by decide) (by decide)))).keep K1 nin0).keep K0 (ninS N0 nin0)).keep K2 (ninS N0 nin0)
 have F0h := (((Exa.wr W4 F03).keep K1).keep K0).keep K2
 refine own_pF X00 hx hZ hown (hw 119) e0d F0g F0h (Or.inr ⟨(hw 120), rfl, hnm⟩) (hw 32) (ty := .int) rfl rfl (hb hby dd6_109) fun T07 h9 X06 e0e W5 => ?_
 have N0l := Fr.snoc X06 N0k I1
 have z8 := W5.size
 have F0F := Fld.same W5 F0g
 have F0G := Fld.other W5 ((((Fld.other W4 (Fld.other W3 (Fld.other W2 (Fld.other W1 F0i (Or.inr (slot_ne (C := cN7) (Or.inr (hw 44)) (Or.inr (hw 46)) (by decide) (t := .short) (t' := (.object cN0)) (by decide) (by decide)))) (Or.inr (slot_ne (C := cN7) (Or.inr (hw 44)) (Or.inr (hw 48)) (by decide) (t := .short) (t' := .int) (by decide) (by decide)))) (Or.inr (slot_ne (C := cN7) (Or.inr (hw 44)) (Or.inr (hw 50)) (by decide) (t := .short) (t' := .int) (by decide) (by decide)))) (Or.inr (slot_ne (C := cN7) (Or.inr (hw 44)) (Or.inr (hw 52)) (by decide) (t := .short) (t' := (.object "java/util/List")) (by decide) (by decide)))).keep K1 nin0).keep K0 (ninS N0 nin0)).keep K2 (ninS N0 nin0)) (Or.inr (slot_ne (C := cN7) (Or.inr (hw 44)) (Or.inr (hw 120)) (by decide) (t := .short) (t' := .int) (by decide) (by decide)))
 have F0H := Fld.other W5 ((((Fld.other W4 (Fld.other W3 (Fld.other W2 F0j (Or.inr (slot_ne (C := cN7) (Or.inr (hw 46)) (Or.inr (hw 48)) (by decide) (t := (.object cN0)) (t' := .int) (by decide) (by decide)))) (Or.inr (slot_ne (C := cN7) (Or.inr (hw 46)) (Or.inr (hw 50)) (by decide) (t := (.object cN0)) (t' := .int) (by decide) (by decide)))) (Or.inr (slot_ne (C := cN7) (Or.inr (hw 46)) (Or.inr (hw 52)) (by decide) (t := (.object cN0)) (t' := (.object "java/util/List")) (by decide) (by decide)))).keep K1 nin0).keep K0 (ninS N0 nin0)).keep K2 (ninS N0 nin0)) (Or.inr (slot_ne (C := cN7) (Or.inr (hw 46)) (Or.inr (hw 120)) (by decide) (t := (.object cN0)) (t' := .int) (by decide) (by decide)))
 have F0I := Exa.wr W5 F0h
 have F0J := Fld.other W5 ((((Fld.other W4 (Fld.other W3 F0k (Or.inr (slot_ne (C := cN7) (Or.inr (hw 48)) (Or.inr (hw 50)) (by decide) (t := .int) (t' := .int) (by decide) (by decide)))) (Or.inr (slot_ne (C := cN7) (Or.inr (hw 48)) (Or.inr (hw 52)) (by decide) (t := .int) (t' := (.object "java/util/List")) (by decide) (by decide)))).keep K1 nin0).keep K0 (ninS N0 nin0)).keep K2 (ninS N0 nin0)) (Or.inr (slot_ne (C := cN7) (Or.inr (hw 48)) (Or.inr (hw 120)) (by decide) (t := .int) (t' := .int) (by decide) (by decide)))
 have F0K := Fld.other W5 ((((Fld.other W4 F0l (Or.inr (slot_ne (C := cN7) (Or.inr (hw 50)) (Or.inr (hw 52)) (by decide) (t := .int) (t' := (.object "java/util/List")) (by decide) (by decide)))).keep K1 nin0).keep K0 (ninS N0 nin0)).keep K2 (ninS N0 nin0)) (Or.inr (slot_ne (C := cN7) (Or.inr (hw 50)) (Or.inr (hw 120)) (by decide) (t := .int) (t' := .int) (by decide) (by decide)))
 have F0L := Fld.other W5 (((F0m.keep K1 nin0).keep K0 (ninS N0 nin0)).keep K2 (ninS N0 nin0)) (Or.inr (slot_ne (C := cN7) (Or.inr (hw 52)) (Or.inr (hw 120)) (by decide) (t := (.object "java/util/List")) (t' := .int) (by decide) (by decide)))
 have K9 : Keep h0 h9 [o0] := ((((((((((Keep.refl h0 [o0]).wr W0 (Or.inl (by simp))).wr W1 (Or.inl (by simp))).wr W2 (Or.inl (by simp))).wr W3 (Or.inl (by simp))).wr W4 (Or.inl (by simp))).trans K1 all0).trans K0 (allS (Or.inr (by omega)) all0)).trans K2 (allS (Or.inr (by omega)) all0)).wr W5 (Or.inl (by simp)))
 exact own_retV X06 hx hns hrt (hb hby dd6_112) e0e (by decide) (by decide) (⟨rfl, N0l, K9, F0G, F0H, F0I, F0J, F0K, F0L, F0F⟩)
theorem own_rm88 (l : Launch) (Z : State) (a0 : Array Value) (hw : own_W a0 Z) (ws : List Jvm.Cond) (i0 i1 i2 i3 i4 i5 i6 i7 i8 : Int32) (m0 : ClassId) (o1 o6 o7 o8 o5 o3 o4 : Nat) (h0 : Heap) (n0 : Nat) (Z2 : n0 ≤ h0.size) (O1 : Old Z n0 h0) (I0 : Exa Z h0 o1 cN10) (I1 : Mir Z cN10 o6) (I2 : Mir Z cN15 o7) (I3 : Mir Z cN14 o8) (I4 : nar .short i0 = i0) (I5 : Fld Z h0 o1 cN9 "modCount" "I" (.int 2)) (I03 : @LT.lt Nat instLTNat o1 h0.size) (I6 : Fld Z h0 o1 cN10 "size" "I" (.int 2)) (I7 : Fld Z h0 o1 cN10 "elementData" cN3 (.ref o5)) (I8 : Arv Z h0 o5 m0 (.object cN1) 10 [(.ref o3), (.ref o4), .null, .null, .null, .null, .null, .null, .null, .null] .null) (I04 : @LT.lt Nat instLTNat o5 h0.size) (I9 : Exa Z h0 o3 cN7) (I00 : Fld Z h0 o3 cN7 "hash" "I" (.int (((31 : Int32) * (((31 : Int32) * ((31 : Int32) + ((i3.toInt8.toInt32) &&& 255))) + i4)) + i5))) (I05 : @LT.lt Nat instLTNat o3 h0.size) (I01 : Exa Z h0 o4 cN7) (I02 : Fld Z h0 o4 cN7 "hash" "I" (.int (((31 : Int32) * (((31 : Int32) * ((31 : Int32) + ((i6.toInt8.toInt32) &&& 255))) + i7)) + i8))) (I06 : @LT.lt Nat instLTNat o4 h0.size) :
 own_Met l Z h0 mN34 B08 4 (Option.some (FieldType.object cN7)) ws (own_R 6 4 14 86) #[(.int i0), (.ref o1), (.int i1), (.int i2)] (fun v h L => (∃ o0 : Nat, ∃ o2 : Nat, v = some (.ref o0) ∧ Fr n0 L ∧ Keep h0 h [] ∧ h0.size ≤ o0 ∧ o0 < o2 ∧ Exa Z h o0 cN7 ∧ Fld Z h o0 cN7 "type" "S" (.int i0) ∧ Fld Z h o0 cN7 "name" cN8 .null ∧ Fld Z h o0 cN7 "minOccurs" "I" (.int i1) ∧ Fld Z h o0 cN7 "maxOccurs" "I" (.int i2) ∧ Fld Z h o0 cN7 "particles" cN5 (.ref o2) ∧ Fld Z h o0 cN7 "hash" "I" (.int (((31 : Int32) * (((31 : Int32) * (((31 : Int32) * (((31 : Int32) * (((31 : Int32) * i0) + 0)) + i1)) + i2)) + (((31 : Int32) * (((31 : Int32) * ((31 : Int32) + ((i3.toInt8.toInt32) &&& 255))) + i4)) + i5))) + (((31 : Int32) * (((31 : Int32) * ((31 : Int32) + ((i6.toInt8.toInt32) &&& 255))) + i7)) + i8))) ∧ Exa Z h o2 cN14 ∧ Fld Z h o2 cN12 "c" cN13 (.ref o1) ∧ Fld Z h o2 cN15 "list" cN5 (.ref o1) ∧ @LT.lt Nat instLTNat o0 h.size ∧ @LT.lt Nat instLTNat o2 h.size)) 4 14 := own_go own_pn28 fun p e s m below meth c s₁ hns hrt hnm hml hZ hx hby hown X1 e0 => by
 have N1 := Fr.nil n0
 refine own_cast (own_ef8 m i0 o1 i1 i2) ?_
 obtain ⟨T0, h1, X0, e1, E0, A0, D0, U0, s0⟩ := newO X1 hx hZ hown (hw 31) (hw 32) (hw 29) e0 (g := (mkF m 0 #[iv i0, rv o1, iv i1, iv i2] [])) rfl (hb hby dd18_0) (by decide) (by decide)
 obtain ⟨o0, g0⟩ : ∃ z, z = h0.size := ⟨_, rfl⟩
 rw [← g0] at A0 D0 U0 s0
 have z0 := E0.1
 have y7 : @LT.lt Nat instLTNat o0 h1.size := A0.lt
 refine oS s0 ?_
 have F3 : Fld Z h1 o0 cN7 "type" "S" (.int 0) := D0 (Or.inr (hw 44)) (ty := .short) (by decide)
 have F4 : Fld Z h1 o0 cN7 "name" cN8 .null := D0 (Or.inr (hw 46)) (ty := (.object cN0)) (by decide)
 have F5 : Fld Z h1 o0 cN7 "minOccurs" "I" (.int 0) := D0 (Or.inr (hw 48)) (ty := .int) (by decide)
 have F6 : Fld Z h1 o0 cN7 "maxOccurs" "I" (.int 0) := D0 (Or.inr (hw 50)) (ty := .int) (by decide)
 have F7 : Fld Z h1 o0 cN7 "particles" cN5 .null := D0 (Or.inr (hw 52)) (ty := (.object "java/util/List")) (by decide)
 have F8 : Fld Z h1 o0 cN7 "hash" "I" (.int 0) := D0 (Or.inr (hw 120)) (ty := .int) (by decide)
 refine oS (fun _ => XS.dup X0.here hx rfl (hb hby dd18_3) rfl rfl) ?_
 refine oIN X0 hx hby dd18_4 rfl ?_
 refine oS (fun _ => XS.aconstNull X0.here hx rfl (hb hby dd18_5) ) ?_
 refine oIN X0 hx hby dd18_6 rfl ?_
 refine oIN X0 hx hby dd18_7 rfl ?_
 refine oAN X0 hx hby dd18_8 rfl rfl ?_
 have F0 := Exa.ext E0 I0
 have O0 : Old Z n0 h1 := O1.ext E0
 have Z0 : n0 ≤ h1.size := by omega
 refine own_cS X0 hx hZ hown e1 (y := mN25) (hw 183) (hw 184) (hw 185) (hw 186) (by decide) (W := 6) (own_rm21 l Z a0 hw [] o1 o6 o7 o8 h1 n0 Z0 O0 F0 I1 I2 I3) [(.ref o1)] [(.int i2), (.int i1), .null, (.int i0), (.ref o0), (.ref o0)] hml (lenOf own_pd16 rfl) (hb hby dd18_9) fun T1 h2 v0 L0 X2 e2 q0 => ?_
 obtain ⟨o2, rfl, N2, K0, F0r, F1, F2, F9, F00⟩ := q0
 have N3 := Fr.app N1 N2
 have z1 := K0.1
 have F01 := F3.keep K0 nin0
 have F02 := A0.keep K0
 have N4 : n0 ≤ o0 := by omega
 have F03 := F4.keep K0 nin0
 have F04 := F5.keep K0 nin0
 have F05 := F6.keep K0 nin0
 have F06 := F7.keep K0 nin0
 have N0 : @Ne Nat o2 o0 := by omega
 have F07 := (Fld.ext E0 I5).keep K0 nin0
 have N5 : @Ne Nat o1 o0 := by omega
 have y0 : @LT.lt Nat instLTNat o1 h2.size := by omega
 have F08 := F0.keep K0
 have F09 := (Fld.ext E0 I6).keep K0 nin0
 have F0a := (Fld.ext E0 I7).keep K0 nin0
 have F0b := (I8.ext E0).keep K0 nin0
 have N6 : @Ne Nat o5 o0 := by omega
 have y1 : @LT.lt Nat instLTNat o5 h2.size := by omega
 have F0c := (Exa.ext E0 I9).keep K0
 have F0d := (Fld.ext E0 I00).keep K0 nin0
 have N7 : @Ne Nat o3 o0 := by omega
 have y2 : @LT.lt Nat instLTNat o3 h2.size := by omega
 have F0e := (Exa.ext E0 I01).keep K0
 have F0f := (Fld.ext E0 I02).keep K0 nin0
 have N8 : @Ne Nat o4 o0 := by omega
 have y3 : @LT.lt Nat instLTNat o4 h2.size := by omega
 have F0g := F8.keep K0 nin0
 have y4 : @LT.lt Nat instLTNat o0 h2.size := by omega
 have O2 : Old Z n0 h2 := O0.keep K0 all0
 have Z1 : n0 ≤ h2.size := by omega
 refine own_cN X2 hx hZ hown e2 (y := mN15) (b := o0) rfl (hw 39) (hw 40) (hw 29) (hw 41) (by decide) (W := 1) (own_rm89 l Z a0 hw [] i0 i1 i2 i3 i4 i5 i6 i7 i8 m0 o0 o2 o1 o5 o3 o4 h2 n0 Z1 O2 F01 F02 I4 N4 F03 F04 F05 F06 F2 N0 F00 F07 N5 y0 F08 F1 F09 F0a F0b N6 y1 F0c F0d N7 y2 F0e F0f N8 y3 F0g y4) [(.int i0), .null, (.int i1), (.int i2), (.ref o2)] [(.ref o0)] hml (lenOf own_pd11 rfl) (hb hby dd18_12) fun T2 h3 v1 L1 X3 e3 q1 => ?_
 obtain ⟨rfl, N9, K1, F0h, F0i, F0j, F0k, F0l, F0m, F0n⟩ := q1
 have N00 := Fr.app N3 N9
 have z2 := K1.1
 have F0o := F1.keep K1
 have F0p := F2.keep K1 (ninS N0 nin0)
 have F0q := F9.keep K1 (ninS N0 nin0)
 have y5 : @LT.lt Nat instLTNat o0 h3.size := by omega
 have y6 : @LT.lt Nat instLTNat o2 h3.size := by omega
 have K2 : Keep h0 h3 [] := ((((Keep.refl h0 []).ext E0).trans K0 all0).trans K1 (allS (Or.inr (by omega)) all0))
 exact own_retA X3 hx hns hrt rfl rfl (hb hby dd18_15) e3 (by decide) (by decide) (⟨o0, o2, rfl, N00, K2, (by omega), (by omega), F0j, F0h, F0i, F0k, F0l, F0m, F0n, F0o, F0p, F0q, y5, y6⟩)
theorem own_rm108 (l : Launch) (Z : State) (a0 : Array Value) (hw : own_W a0 Z) (ws : List Jvm.Cond) (o0 : Nat) (h0 : Heap) (n0 : Nat) (Z0 : n0 ≤ h0.size) (O0 : Old Z n0 h0) (I0 : Fld Z h0 o0 cN10 "size" "I" (.int 2)) :
 own_Met l Z h0 mN40 B0p 1 (Option.some FieldType.int) ws (own_R 0 0 0 0) #[(.ref o0)] (fun v h L => (v = some (.int 2) ∧ Fr n0 L ∧ h = h0)) 0 0 := own_go own_pn34 fun p e s m below meth c s₁ hns hrt hnm hml hZ hx hby hown X0 e0 => by
 have N0 := Fr.nil n0
 refine own_cast (own_ef6 m o0) ?_
 refine oAN X0 hx hby dd35_0 rfl rfl ?_
 refine own_gF X0 hx hZ hown (hw 156) e0 I0 (hb hby dd35_1) fun T0 X1 e1 => ?_
 exact own_retI X1 hx hns hrt (hb hby dd35_4) e1 (by decide) (by decide) (⟨rfl, N0, rfl⟩)
theorem own_rm107 (l : Launch) (Z : State) (a0 : Array Value) (hw : own_W a0 Z) (ws : List Jvm.Cond) (o1 o0 : Nat) (h0 : Heap) (n0 : Nat) (Z0 : n0 ≤ h0.size) (O0 : Old Z n0 h0) (I0 : Fld Z h0 o1 cN12 "c" cN13 (.ref o0)) (I1 : Fld Z h0 o0 cN10 "size" "I" (.int 2)) (I2 : Exa Z h0 o0 cN10) :
 own_Met l Z h0 mN41 B0o 1 (Option.some FieldType.int) ws (own_R 1 0 0 12) #[(.ref o1)] (fun v h L => (v = some (.int 2) ∧ Fr n0 L ∧ h = h0)) 0 0 := own_go own_pn35 fun p e s m below meth c s₁ hns hrt hnm hml hZ hx hby hown X0 e0 => by
 have N0 := Fr.nil n0
 refine own_cast (own_ef6 m o1) ?_
 refine oAN X0 hx hby dd34_0 rfl rfl ?_
 refine own_gF X0 hx hZ hown (hw 221) e0 I0 (hb hby dd34_1) fun T0 X1 e1 => ?_
 refine own_cI X1 hx hZ hown e1 (y := mN42) (z := mN40) (b := o0) (hw 346) (hw 347) (hw 348) rfl (hw 349) (hw 350) (hw 351) (hw 352) (hw 249) (hw 123) (hw 353) (by decide) I2 (W := 0) (own_rm108 l Z a0 hw [] o0 h0 n0 Z0 O0 I1) [] [] hml (lenOf own_pd7 rfl) (hb hby dd34_4) fun T1 h1 v0 L0 X2 e2 q0 => ?_
 obtain ⟨rfl, N1, K0⟩ := q0
 have N2 := Fr.app N0 N1
 have e3 := e2.trans K0
 exact own_retI X2 hx hns hrt (hb hby dd34_9) e3 (by decide) (by decide) (⟨rfl, N2, rfl⟩)
theorem own_rm106 (l : Launch) (Z : State) (a0 : Array Value) (hw : own_W a0 Z) (ws : List Jvm.Cond) (i0 i1 i2 i3 i4 i5 i6 i7 i8 i9 i00 i01 : Int32) (o1 o0 o2 o4 o3 o5 : Nat) (h0 : Heap) (n0 : Nat) (Z0 : n0 ≤ h0.size) (O0 : Old Z n0 h0) (I0 : Fld Z h0 o1 cN7 "hash" "I" (.int (((31 : Int32) * (((31 : Int32) * (((31 : Int32) * (((31 : Int32) * i0) + 0)) + i1)) + i2)) + (((31 : Int32) * (((31 : Int32) * ((31 : Int32) + ((i3.toInt8.toInt32) &&& 255))) + i4)) + i5)))) (I1 : Fld Z h0 o0 cN7 "hash" "I" (.int (((31 : Int32) * (((31 : Int32) * (((31 : Int32) * (((31 : Int32) * (((31 : Int32) * i6) + 0)) + i7)) + i8)) + (((31 : Int32) * (((31 : Int32) * ((31 : Int32) + ((i3.toInt8.toInt32) &&& 255))) + i4)) + i5))) + (((31 : Int32) * (((31 : Int32) * ((31 : Int32) + ((i9.toInt8.toInt32) &&& 255))) + i00)) + i01)))) (I2 : Fld Z h0 o1 cN7 "type" "S" (.int i0)) (I3 : Fld Z h0 o0 cN7 "type" "S" (.int i6)) (I4 : Fld Z h0 o1 cN7 "minOccurs" "I" (.int i1)) (I5 : Fld Z h0 o0 cN7 "minOccurs" "I" (.int i7)) (I6 : Fld Z h0 o1 cN7 "maxOccurs" "I" (.int i2)) (I7 : Fld Z h0 o0 cN7 "maxOccurs" "I" (.int i8)) (I8 : Fld Z h0 o1 cN7 "name" cN8 .null) (I9 : Fld Z h0 o0 cN7 "name" cN8 .null) (I00 : Fld Z h0 o1 cN7 "particles" cN5 (.ref o2)) (I01 : Fld Z h0 o2 cN12 "c" cN13 (.ref o4)) (I02 : Fld Z h0 o4 cN10 "size" "I" (.int 1)) (I03 : Exa Z h0 o4 cN10) (I04 : Exa Z h0 o2 cN14) (I05 : Fld Z h0 o0 cN7 "particles" cN5 (.ref o3)) (I06 : Fld Z h0 o3 cN12 "c" cN13 (.ref o5)) (I07 : Fld Z h0 o5 cN10 "size" "I" (.int 2)) (I08 : Exa Z h0 o5 cN10) (I09 : Exa Z h0 o3 cN14) :
 own_Met l Z h0 mN54 B0B 2 (Option.some FieldType.boolean) ws (own_R 2 0 0 25) #[(.ref o1), (.ref o0)] (fun v h L => (v = some (.int 0) ∧ Fr n0 L ∧ h = h0)) 0 0 := own_go own_pn47 fun p e s m below meth c s₁ hns hrt hnm hml hZ hx hby hown X6 e4 => by
 have N0 := Fr.nil n0
 refine own_cast (own_ef9 m o1 o0) ?_
 refine oAN X6 hx hby dd47_0 rfl rfl ?_
 refine own_gF X6 hx hZ hown (hw 119) e4 I0 (hb hby dd47_1) fun T5 X7 e5 => ?_
 refine oAN X7 hx hby dd47_4 rfl rfl ?_
 refine own_gF X7 hx hZ hown (hw 119) e5 I1 (hb hby dd47_5) fun T0 X0 e0 => ?_
 by_cases b0 : (((31 : Int32) * (((31 : Int32) * (((31 : Int32) * (((31 : Int32) * i0) + 0)) + i1)) + i2)) + (((31 : Int32) * (((31 : Int32) * ((31 : Int32) + ((i3.toInt8.toInt32) &&& 255))) + i4)) + i5)) = (((31 : Int32) * (((31 : Int32) * (((31 : Int32) * (((31 : Int32) * (((31 : Int32) * i6) + 0)) + i7)) + i8)) + (((31 : Int32) * (((31 : Int32) * ((31 : Int32) + ((i3.toInt8.toInt32) &&& 255))) + i4)) + i5))) + (((31 : Int32) * (((31 : Int32) * ((31 : Int32) + ((i9.toInt8.toInt32) &&& 255))) + i00)) + i01))
 ·skip
  refine oNI X0 hx hby dd47_8 (XT.ii_ne_f b0) ?_
  show own_G p e below (T0.setTop (mkF m 11 #[rv o1, rv o0] [])) _
  refine oAN X0 hx hby dd47_11 rfl rfl ?_
  refine own_gF X0 hx hZ hown (hw 43) e0 I2 (hb hby dd47_12) fun T6 X8 e6 => ?_
  refine oAN X8 hx hby dd47_15 rfl rfl ?_
  refine own_gF X8 hx hZ hown (hw 43) e6 I3 (hb hby dd47_16) fun T1 X1 e1 => ?_
  by_cases b1 : i0 = i6
  ·skip
   refine oNI X1 hx hby dd47_19 (XT.ii_ne_f b1) ?_
   show own_G p e below (T1.setTop (mkF m 22 #[rv o1, rv o0] [])) _
   refine oAN X1 hx hby dd47_22 rfl rfl ?_
   refine own_gF X1 hx hZ hown (hw 47) e1 I4 (hb hby dd47_23) fun T7 X9 e7 => ?_
   refine oAN X9 hx hby dd47_26 rfl rfl ?_
   refine own_gF X9 hx hZ hown (hw 47) e7 I5 (hb hby dd47_27) fun T2 X2 e2 => ?_
   by_cases b2 : i1 = i7
   ·skip
    refine oNI X2 hx hby dd47_30 (XT.ii_ne_f b2) ?_
    show own_G p e below (T2.setTop (mkF m 33 #[rv o1, rv o0] [])) _
    refine oAN X2 hx hby dd47_33 rfl rfl ?_
    refine own_gF X2 hx hZ hown (hw 49) e2 I6 (hb hby dd47_34) fun T8 X00 e8 => ?_
    refine oAN X00 hx hby dd47_37 rfl rfl ?_
    refine own_gF X00 hx hZ hown (hw 49) e8 I7 (hb hby dd47_38) fun T3 X3 e3 => ?_
    by_cases b3 : i2 = i8
    ·skip
     refine oNI X3 hx hby dd47_41 (XT.ii_ne_f b3) ?_
     show own_G p e below (T3.setTop (mkF m 44 #[rv o1, rv o0] [])) _
     refine oAN X3 hx hby dd47_44 rfl rfl ?_
     refine own_gF X3 hx hZ hown (hw 45) e3 I8 (hb hby dd47_45) fun T9 X01 e9 => ?_
     refine oAN X01 hx hby dd47_48 rfl rfl ?_
     refine own_gF X01 hx hZ hown (hw 45) e9 I9 (hb hby dd47_49) fun T00 X03 e00 => ?_
     refine own_cS X03 hx hZ hown e00 (y := mN53) (hw 454) (hw 455) (hw 55) (hw 456) (by decide) (W := 0) (own_rm52 l Z a0 hw []  h0 n0 Z0 O0 ) [.null, .null] [] hml (lenOf own_pd26 rfl) (hb hby dd47_52) fun T01 h1 v0 L0 X4 e01 q0 => ?_
     obtain ⟨rfl, N1, K0⟩ := q0
     have N2 := Fr.app N0 N1
     have e02 := e01.trans K0
     refine oN0 X4 hx hby dd47_55 (XT.i0_eq_f (by decide)) ?_
     refine oAN X4 hx hby dd47_58 rfl rfl ?_
     refine own_gF X4 hx hZ hown (hw 51) e02 I00 (hb hby dd47_59) fun T02 X04 e03 => ?_
     refine own_cI X04 hx hZ hown e03 (y := mN55) (z := mN41) (b := o2) (hw 457) (hw 339) (hw 340) rfl (hw 341) (hw 342) (hw 343) (hw 344) (hw 229) (hw 218) (hw 345) (by decide) I04 (W := 0) (own_rm76 l Z a0 hw [] o2 o4 h0 n0 Z0 O0 I01 I02 I03) [] [] hml (lenOf own_pd7 rfl) (hb hby dd47_62) fun T4 h2 v1 L1 X02 e04 q1 => ?_
     obtain ⟨rfl, N3, K1⟩ := q1
     have N4 := Fr.app N2 N3
     have e05 := e04.trans K1
     refine oAN X02 hx hby dd47_67 rfl rfl ?_
     show own_G p e below (T4.setTop (mkF m 68 #[rv o1, rv o0] [(.ref o0), (.int 1)])) _
     refine own_gF X02 hx hZ hown (hw 51) e05 I05 (hb hby dd47_68) fun T03 X05 e06 => ?_
     refine own_cI X05 hx hZ hown e06 (y := mN55) (z := mN41) (b := o3) (hw 457) (hw 339) (hw 340) rfl (hw 341) (hw 342) (hw 343) (hw 344) (hw 229) (hw 218) (hw 345) (by decide) I09 (W := 1) (own_rm107 l Z a0 hw [] o3 o5 h0 n0 Z0 O0 I06 I07 I08) [] [(.int 1)] hml (lenOf own_pd7 rfl) (hb hby dd47_71) fun T04 h3 v2 L2 X5 e07 q2 => ?_
     obtain ⟨rfl, N5, K2⟩ := q2
     have N6 := Fr.app N4 N5
     have e08 := e07.trans K2
     refine oYI X5 hx hby (pc' := 83) dd47_76 (XT.ii_ne_t (by decide)) ?_
     refine oIC X5 hx hby dd47_83 ?_
     exact own_retN X5 hx (t := .boolean) hns hrt (by simp) (hb hby dd47_84) (by decide) e08 (by decide) (by decide) (⟨rfl, N6, rfl⟩)
    ·skip
     refine oYI X3 hx hby (pc' := 83) dd47_41 (XT.ii_ne_t b3) ?_
     show own_G p e below (T3.setTop (mkF m 83 #[rv o1, rv o0] [])) _
     refine oIC X3 hx hby dd47_83 ?_
     exact own_retN X3 hx (t := .boolean) hns hrt (by simp) (hb hby dd47_84) (by decide) e3 (by decide) (by decide) (⟨rfl, N0, rfl⟩)
   ·skip
    refine oYI X2 hx hby (pc' := 83) dd47_30 (XT.ii_ne_t b2) ?_
    show own_G p e below (T2.setTop (mkF m 83 #[rv o1, rv o0] [])) _
    refine oIC X2 hx hby dd47_83 ?_
    exact own_retN X2 hx (t := .boolean) hns hrt (by simp) (hb hby dd47_84) (by decide) e2 (by decide) (by decide) (⟨rfl, N0, rfl⟩)
  ·skip
   refine oYI X1 hx hby (pc' := 83) dd47_19 (XT.ii_ne_t b1) ?_
   show own_G p e below (T1.setTop (mkF m 83 #[rv o1, rv o0] [])) _
   refine oIC X1 hx hby dd47_83 ?_
   exact own_retN X1 hx (t := .boolean) hns hrt (by simp) (hb hby dd47_84) (by decide) e1 (by decide) (by decide) (⟨rfl, N0, rfl⟩)
 ·skip
  refine oYI X0 hx hby (pc' := 83) dd47_8 (XT.ii_ne_t b0) ?_
  show own_G p e below (T0.setTop (mkF m 83 #[rv o1, rv o0] [])) _
  refine oIC X0 hx hby dd47_83 ?_
  exact own_retN X0 hx (t := .boolean) hns hrt (by simp) (hb hby dd47_84) (by decide) e0 (by decide) (by decide) (⟨rfl, N0, rfl⟩)
theorem own_rm105 (l : Launch) (Z : State) (a0 : Array Value) (hw : own_W a0 Z) (ws : List Jvm.Cond) (i0 i1 i2 i3 i4 i5 i6 i7 i8 i9 i00 i01 : Int32) (o0 o1 o6 o7 o8 o9 : Nat) (h0 : Heap) (n0 : Nat) (Z8 : n0 ≤ h0.size) (O6 : Old Z n0 h0) (I0 : Exa Z h0 o1 cN7) (I1 : Exa Z h0 o0 cN7) (I2 : @Ne Nat o0 o1) (I3 : Fld Z h0 o0 cN7 "hash" "I" (.int (((31 : Int32) * (((31 : Int32) * (((31 : Int32) * (((31 : Int32) * i0) + 0)) + i1)) + i2)) + (((31 : Int32) * (((31 : Int32) * ((31 : Int32) + ((i3.toInt8.toInt32) &&& 255))) + i4)) + i5)))) (I0d : @LT.lt Nat instLTNat o0 h0.size) (I4 : Fld Z h0 o1 cN7 "hash" "I" (.int (((31 : Int32) * (((31 : Int32) * (((31 : Int32) * (((31 : Int32) * (((31 : Int32) * i6) + 0)) + i7)) + i8)) + (((31 : Int32) * (((31 : Int32) * ((31 : Int32) + ((i3.toInt8.toInt32) &&& 255))) + i4)) + i5))) + (((31 : Int32) * (((31 : Int32) * ((31 : Int32) + ((i9.toInt8.toInt32) &&& 255))) + i00)) + i01)))) (I0e : @LT.lt Nat instLTNat o1 h0.size) (I5 : Fld Z h0 o0 cN7 "type" "S" (.int i0)) (I6 : Fld Z h0 o1 cN7 "type" "S" (.int i6)) (I7 : Fld Z h0 o0 cN7 "minOccurs" "I" (.int i1)) (I8 : Fld Z h0 o1 cN7 "minOccurs" "I" (.int i7)) (I9 : Fld Z h0 o0 cN7 "maxOccurs" "I" (.int i2)) (I00 : Fld Z h0 o1 cN7 "maxOccurs" "I" (.int i8)) (I01 : Fld Z h0 o0 cN7 "name" cN8 .null) (I02 : Fld Z h0 o1 cN7 "name" cN8 .null) (I03 : Fld Z h0 o0 cN7 "particles" cN5 (.ref o6)) (I04 : Fld Z h0 o6 cN12 "c" cN13 (.ref o7)) (I0f : @LT.lt Nat instLTNat o6 h0.size) (I05 : Fld Z h0 o7 cN10 "size" "I" (.int 1)) (I0g : @LT.lt Nat instLTNat o7 h0.size) (I06 : Exa Z h0 o7 cN10) (I07 : Exa Z h0 o6 cN14) (I08 : Fld Z h0 o1 cN7 "particles" cN5 (.ref o8)) (I09 : Fld Z h0 o8 cN12 "c" cN13 (.ref o9)) (I0h : @LT.lt Nat instLTNat o8 h0.size) (I0a : Fld Z h0 o9 cN10 "size" "I" (.int 2)) (I0i : @LT.lt Nat instLTNat o9 h0.size) (I0b : Exa Z h0 o9 cN10) (I0c : Exa Z h0 o8 cN14) :
 own_Met l Z h0 mN56 B0q 7 (Option.some FieldType.boolean) ws (own_R 4 4 40 54) #[(.ref o0), (.ref o1)] (fun v h L => (v = some (.int 0) ∧ Fr n0 L ∧ Keep h0 h [])) 4 40 := own_go own_pn48 fun p e s m below meth c s₁ hns hrt hnm hml hZ hx hby hown X6 e0 => by
 have N0o := Fr.nil n0
 refine own_cast (own_ef12 m o0 o1) ?_
 refine oAN X6 hx hby dd36_0 rfl rfl ?_
 obtain ⟨T3, X7, e1, s2⟩ := instY X6 hx hZ hown (hw 31) e0 (Ins.self I0) (g := (mkF m 1 #[rv o0, rv o1, .unset, .unset, .unset, .unset, .unset] [(.ref o1)])) rfl rfl (hb hby dd36_1)
 refine oS s2 ?_
 refine oY0 X7 hx hby (pc' := 9) dd36_4 (XT.i0_ne_t (by decide)) ?_
 obtain ⟨T4, h1, X8, e2, E1, A0, D0, U0, s0⟩ := newO X7 hx hZ hown (hw 386) (hw 387) (hw 388) e1 (g := (mkF m 9 #[rv o0, rv o1, .unset, .unset, .unset, .unset, .unset] [])) rfl (hb hby dd36_9) (by decide) (by decide)
 obtain ⟨o2, g0⟩ : ∃ z, z = h0.size := ⟨_, rfl⟩
 rw [← g0] at A0 D0 U0 s0
 have z0 := E1.1
 have y2 : @LT.lt Nat instLTNat o2 h1.size := A0.lt
 refine oS s0 ?_
 have F9 : Fld Z h1 o2 cN23 "elements" cN3 .null := D0 (Or.inl (hw 396)) (ty := (.array (.object cN1))) (by decide)
 have F00 : Fld Z h1 o2 cN23 "head" "I" (.int 0) := D0 (Or.inl (hw 412)) (ty := .int) (by decide)
 have F01 : Fld Z h1 o2 cN23 "tail" "I" (.int 0) := D0 (Or.inl (hw 417)) (ty := .int) (by decide)
 refine oS (fun _ => XS.dup X8.here hx rfl (hb hby dd36_12) rfl rfl) ?_
 have N00 : n0 ≤ o2 := by omega
 have y0 : @LT.lt Nat instLTNat o2 h1.size := by omega
 have O1 : Old Z n0 h1 := O6.ext E1
 have Z0 : n0 ≤ h1.size := by omega
 refine own_cN X8 hx hZ hown e2 (y := mN43) (b := o2) rfl (hw 389) (hw 390) (hw 388) (hw 391) (by decide) (W := 1) (own_rm41 l Z a0 hw [] o2 h1 n0 Z0 O1 F9 A0 N00 F00 F01 y0) [] [(.ref o2)] hml (lenOf own_pd13 rfl) (hb hby dd36_13) fun T5 h8 v0 L0 X9 e3 q0 => ?_
 obtain ⟨o4, m0, rfl, N0p, K4, F11, F02, F03, F04, F05, F06, F12, F07⟩ := q0
 have N0q := Fr.app N0o N0p
 have z1 := K4.1
 refine oASN X9 hx hby dd36_16 rfl (l' := #[rv o0, rv o1, rv o2, .unset, .unset, .unset, .unset]) rfl ?_
 obtain ⟨T6, h2, X00, e4, E0, A1, D1, U1, s1⟩ := newO X9 hx hZ hown (hw 386) (hw 387) (hw 388) e3 (g := (mkF m 17 #[rv o0, rv o1, rv o2, .unset, .unset, .unset, .unset] [])) rfl (hb hby dd36_17) (by decide) (by decide)
 obtain ⟨o3, g1⟩ : ∃ z, z = h8.size := ⟨_, rfl⟩
 rw [← g1] at A1 D1 U1 s1
 have z2 := E0.1
 have y3 : @LT.lt Nat instLTNat o3 h2.size := A1.lt
 refine oS s1 ?_
 have F08 : Fld Z h2 o3 cN23 "elements" cN3 .null := D1 (Or.inl (hw 396)) (ty := (.array (.object cN1))) (by decide)
 have F09 : Fld Z h2 o3 cN23 "head" "I" (.int 0) := D1 (Or.inl (hw 412)) (ty := .int) (by decide)
 have F0a : Fld Z h2 o3 cN23 "tail" "I" (.int 0) := D1 (Or.inl (hw 417)) (ty := .int) (by decide)
 refine oS (fun _ => XS.dup X00.here hx rfl (hb hby dd36_20) rfl rfl) ?_
 have N01 : n0 ≤ o3 := by omega
 have y1 : @LT.lt Nat instLTNat o3 h2.size := by omega
 have O7 : Old Z n0 h8 := O1.keep K4 (allS N00 all0)
 have O2 : Old Z n0 h2 := O7.ext E0
 have Z1 : n0 ≤ h2.size := by omega
 refine own_cN X00 hx hZ hown e4 (y := mN43) (b := o3) rfl (hw 389) (hw 390) (hw 388) (hw 391) (by decide) (W := 1) (own_rm41 l Z a0 hw [] o3 h2 n0 Z1 O2 F08 A1 N01 F09 F0a y1) [] [(.ref o3)] hml (lenOf own_pd13 rfl) (hb hby dd36_21) fun T0 h5 v1 L1 X1 e5 q1 => ?_
 obtain ⟨o5, m1, rfl, N0r, K0, F13, F0b, F0c, F0d, F0e, F0f, F14, F0g⟩ := q1
 have N0s := Fr.app N0q N0r
 have z3 := K0.1
 show own_G p e below (T0.setTop (mkF m 24 #[rv o0, rv o1, rv o2, .unset, .unset, .unset, .unset] [(.ref o3)])) _
 refine oASN X1 hx hby dd36_24 rfl (l' := #[rv o0, rv o1, rv o2, rv o3, .unset, .unset, .unset]) rfl ?_
 refine oAN X1 hx hby dd36_25 rfl rfl ?_
 refine oAN X1 hx hby dd36_26 rfl rfl ?_
 have N4 : @Ne Nat o2 o3 := by omega
 have F0h := (Fld.ext E0 F02).keep K0 (ninS N4 nin0)
 have F0i := (Fld.ext E0 F04).keep K0 (ninS N4 nin0)
 have N9 : @Ne Nat o4 o3 := by omega
 have F0j := (F06.ext E0).keep K0 (ninS N9 nin0)
 have F2 := (Exa.ext E0 F03).keep K0
 have N0e : @Ne Nat o4 o2 := by omega
 have F3 := (Exa.ext E0 ((Exa.ext E1 I1).keep K4)).keep K0
 have N03 : n0 ≤ o4 := by omega
 have F0k := (Fld.ext E0 F05).keep K0 (ninS N4 nin0)
 have O3 : Old Z n0 h5 := O2.keep K0 (allS N01 all0)
 have Z2 : n0 ≤ h5.size := by omega
 refine own_cI X1 hx hZ hown e5 (y := mN57) (z := mN46) (b := o2) (hw 397) (hw 398) (hw 399) rfl (hw 400) (hw 401) (hw 402) (hw 403) (hw 404) (hw 388) (hw 405) (by decide) F2 (W := 0) (own_rm42 l Z a0 hw [] m0 o2 o0 o4 h5 n0 Z2 O3 F0h F0i F0j F2 N00 N0e F07 F3 N03 F0k) [(.ref o0)] [] hml (lenOf own_pd23 rfl) (hb hby dd36_27) fun T7 h6 v2 L2 X2 e6 q2 => ?_
 obtain ⟨rfl, N0t, K1, F0l, F0m, F0n, F0o, F0p⟩ := q2
 have N0u := Fr.app N0s N0t
 have z4 := K1.1
 refine oAN X2 hx hby dd36_32 rfl rfl ?_
 refine oAN X2 hx hby dd36_33 rfl rfl ?_
 have F0 := ((Exa.ext E0 ((Exa.ext E1 I0).keep K4)).keep K0).keep K1
 refine own_cY X2 hx hZ hown (hw 304) e6 (Ins.of_exa F0 (hw 305)) (hb hby dd36_34) fun T8 X02 e7 => ?_
 have F0q := F0b.keep K1 (ninS (Ne.symm N4) (ninS (Ne.symm N9) nin0))
 have F0r := F0d.keep K1 (ninS (Ne.symm N4) (ninS (Ne.symm N9) nin0))
 have N05 : @Ne Nat o5 o4 := by omega
 have N02 : @Ne Nat o5 o2 := by omega
 have F0s := F0f.keep K1 (ninS N02 (ninS N05 nin0))
 have F4 := F0c.keep K1
 have N0f : @Ne Nat o5 o3 := by omega
 have N04 : n0 ≤ o5 := by omega
 have F0t := F0e.keep K1 (ninS (Ne.symm N4) (ninS (Ne.symm N9) nin0))
 have O4 : Old Z n0 h6 := O3.keep K1 (allS N00 (allS N03 all0))
 have Z3 : n0 ≤ h6.size := by omega
 refine own_cI X02 hx hZ hown e7 (y := mN57) (z := mN46) (b := o3) (hw 397) (hw 398) (hw 399) rfl (hw 400) (hw 401) (hw 402) (hw 403) (hw 404) (hw 388) (hw 405) (by decide) F4 (W := 0) (own_rm42 l Z a0 hw [] m1 o3 o1 o5 h6 n0 Z3 O4 F0q F0r F0s F4 N01 N0f F0g F0 N04 F0t) [(.ref o1)] [] hml (lenOf own_pd23 rfl) (hb hby dd36_37) fun T9 h3 v3 L3 X01 e8 q3 => ?_
 obtain ⟨rfl, N0v, K2, F0u, F0v, F0w, F0x, F0y⟩ := q3
 have N0w := Fr.app N0u N0v
 have z5 := K2.1
 refine oAN X01 hx hby dd36_42 rfl rfl ?_
 have F5 := F0l.keep K2 (ninS N4 (ninS (Ne.symm N02) nin0))
 have F6 := F0m.keep K2 (ninS N4 (ninS (Ne.symm N02) nin0))
 have O0 : Old Z n0 h3 := O4.keep K2 (allS N01 (allS N04 all0))
 have Z4 : n0 ≤ h3.size := by omega
 have F1 := F0o.keep K2
 refine own_cIU X01 hx hZ hown e8 (y := mN58) (z := mN47) (J := cN16) (b := o2) (hw 418) (hw 419) (hw 420) (by decide) (by decide) (hw 421) (hw 422) (hw 423) (hw 424) (hw 404) (hw 388) (hw 425) (by decide) F1 (W := 0) (own_rm45 l Z a0 hw [] o2 h3 n0 Z4 O0 F5 F6) [] [] hml (lenOf own_pd5 rfl) (hb hby dd36_43) fun T1 h9 v4 L4 X3 e9 q4 => ?_
 obtain ⟨rfl, N0x, K6⟩ := q4
 have N0y := Fr.app N0w N0x
 have e00 := e9.trans K6
 show own_G p e below (T1.setTop (mkF m 48 #[rv o0, rv o1, rv o2, rv o3, .unset, .unset, .unset] [(.int 0)])) _
 refine oN0 X3 hx hby dd36_48 (XT.i0_ne_f (by decide)) ?_
 refine oAN X3 hx hby dd36_51 rfl rfl ?_
 have F0z := F0n.keep K2 (ninS N4 (ninS (Ne.symm N02) nin0))
 have F0A := F0p.keep K2 (ninS N9 (ninS (Ne.symm N05) nin0))
 have Z5 : n0 ≤ h3.size := by omega
 refine own_cI X3 hx hZ hown e00 (y := mN59) (z := mN52) (b := o2) (hw 426) (hw 427) (hw 428) rfl (hw 429) (hw 430) (hw 431) (hw 432) (hw 404) (hw 388) (hw 433) (by decide) F1 (W := 0) (own_rm46 l Z a0 hw [] m0 o2 o4 o0 h3 n0 Z5 O0 F0z F5 F0A N03 (Ne.symm N0e) F1 N00 F6) [] [] hml (lenOf own_pd25 rfl) (hb hby dd36_52) fun T00 h7 v5 L5 X03 e01 q5 => ?_
 obtain ⟨rfl, N0z, K3, F15, F16, F17, F18, F19⟩ := q5
 have N0A := Fr.app N0y N0z
 have z6 := K3.1
 have F7 := ((F3.keep K1).keep K2).keep K3
 refine own_cY X03 hx hZ hown (hw 31) e01 (Ins.self F7) (hb hby dd36_57) fun T01 X4 e02 => ?_
 refine oAS X4 hx hby dd36_60 rfl (l' := #[rv o0, rv o1, rv o2, rv o3, rv o0, .unset, .unset]) rfl ?_
 refine oAN X4 hx hby dd36_62 rfl rfl ?_
 have F0B := F0w.keep K3 (ninS (Ne.symm N9) (ninS (Ne.symm N4) nin0))
 have F0C := F0u.keep K3 (ninS (Ne.symm N9) (ninS (Ne.symm N4) nin0))
 have F0D := F0y.keep K3 (ninS N05 (ninS N02 nin0))
 have F8 := F0x.keep K3
 have F0E := F0v.keep K3 (ninS (Ne.symm N9) (ninS (Ne.symm N4) nin0))
 have O5 : Old Z n0 h7 := O0.keep K3 (allS N03 (allS N00 all0))
 have Z6 : n0 ≤ h7.size := by omega
 refine own_cI X4 hx hZ hown e02 (y := mN59) (z := mN52) (b := o3) (hw 426) (hw 427) (hw 428) rfl (hw 429) (hw 430) (hw 431) (hw 432) (hw 404) (hw 388) (hw 433) (by decide) F8 (W := 0) (own_rm46 l Z a0 hw [] m1 o3 o5 o1 h7 n0 Z6 O5 F0B F0C F0D N04 (Ne.symm N0f) F8 N01 F0E) [] [] hml (lenOf own_pd25 rfl) (hb hby dd36_63) fun T02 h4 v6 L6 X04 e03 q6 => ?_
 obtain ⟨rfl, N0B, K5, F1a, F1b, F1c, F1d, F1e⟩ := q6
 have N0C := Fr.app N0A N0B
 have z7 := K5.1
 have F0F := ((F0.keep K2).keep K3).keep K5
 refine own_cY X04 hx hZ hown (hw 31) e03 (Ins.self F0F) (hb hby dd36_68) fun T2 X0 e04 => ?_
 refine oAS X0 hx hby dd36_71 rfl (l' := #[rv o0, rv o1, rv o2, rv o3, rv o0, rv o1, .unset]) rfl ?_
 refine oAL X0 hx hby dd36_73 rfl rfl ?_
 show own_G p e below (T2.setTop (mkF m 75 #[rv o0, rv o1, rv o2, rv o3, rv o0, rv o1, .unset] [(.ref o0)])) _
 refine oAL X0 hx hby dd36_75 rfl rfl ?_
 refine oS (fun _ => XT.acmpYes X0.here hx rfl (pc0 := 77) (pc' := 83) rfl (hb hby dd36_77) rfl rfl rfl (XT.aa_ne_t (own_rne I2)) (by decide) (by decide)) ?_
 refine oAL X0 hx hby dd36_83 rfl rfl ?_
 refine oAL X0 hx hby dd36_85 rfl rfl ?_
 have N0 : @Ne Nat o0 o2 := by omega
 have N1 : @Ne Nat o0 o3 := by omega
 have N5 : @Ne Nat o0 o4 := by omega
 have N6 : @Ne Nat o0 o5 := by omega
 have F0G := (((((Fld.ext E0 ((Fld.ext E1 I3).keep K4 (ninS N0 nin0))).keep K0 (ninS N1 nin0)).keep K1 (ninS N0 (ninS N5 nin0))).keep K2 (ninS N1 (ninS N6 nin0))).keep K3 (ninS N5 (ninS N0 nin0))).keep K5 (ninS N6 (ninS N1 nin0))
 have N2 : @Ne Nat o1 o2 := by omega
 have N3 : @Ne Nat o1 o3 := by omega
 have N7 : @Ne Nat o1 o4 := by omega
 have N8 : @Ne Nat o1 o5 := by omega
 have F0H := (((((Fld.ext E0 ((Fld.ext E1 I4).keep K4 (ninS N2 nin0))).keep K0 (ninS N3 nin0)).keep K1 (ninS N2 (ninS N7 nin0))).keep K2 (ninS N3 (ninS N8 nin0))).keep K3 (ninS N7 (ninS N2 nin0))).keep K5 (ninS N8 (ninS N3 nin0))
 have F0I := (((((Fld.ext E0 ((Fld.ext E1 I5).keep K4 (ninS N0 nin0))).keep K0 (ninS N1 nin0)).keep K1 (ninS N0 (ninS N5 nin0))).keep K2 (ninS N1 (ninS N6 nin0))).keep K3 (ninS N5 (ninS N0 nin0))).keep K5 (ninS N6 (ninS N1 nin0))
 have F0J := (((((Fld.ext E0 ((Fld.ext E1 I6).keep K4 (ninS N2 nin0))).keep K0 (ninS N3 nin0)).keep K1 (ninS N2 (ninS N7 nin0))).keep K2 (ninS N3 (ninS N8 nin0))).keep K3 (ninS N7 (ninS N2 nin0))).keep K5 (ninS N8 (ninS N3 nin0))
 have F0K := (((((Fld.ext E0 ((Fld.ext E1 I7).keep K4 (ninS N0 nin0))).keep K0 (ninS N1 nin0)).keep K1 (ninS N0 (ninS N5 nin0))).keep K2 (ninS N1 (ninS N6 nin0))).keep K3 (ninS N5 (ninS N0 nin0))).keep K5 (ninS N6 (ninS N1 nin0))
 have F0L := (((((Fld.ext E0 ((Fld.ext E1 I8).keep K4 (ninS N2 nin0))).keep K0 (ninS N3 nin0)).keep K1 (ninS N2 (ninS N7 nin0))).keep K2 (ninS N3 (ninS N8 nin0))).keep K3 (ninS N7 (ninS N2 nin0))).keep K5 (ninS N8 (ninS N3 nin0))
 have F0M := (((((Fld.ext E0 ((Fld.ext E1 I9).keep K4 (ninS N0 nin0))).keep K0 (ninS N1 nin0)).keep K1 (ninS N0 (ninS N5 nin0))).keep K2 (ninS N1 (ninS N6 nin0))).keep K3 (ninS N5 (ninS N0 nin0))).keep K5 (ninS N6 (ninS N1 nin0))
 have F0N := (((((Fld.ext E0 ((Fld.ext E1 I00).keep K4 (ninS N2 nin0))).keep K0 (ninS N3 nin0)).keep K1 (ninS N2 (ninS N7 nin0))).keep K2 (ninS N3 (ninS N8 nin0))).keep K3 (ninS N7 (ninS N2 nin0))).keep K5 (ninS N8 (ninS N3 nin0))
 have F0O := (((((Fld.ext E0 ((Fld.ext E1 I01).keep K4 (ninS N0 nin0))).keep K0 (ninS N1 nin0)).keep K1 (ninS N0 (ninS N5 nin0))).keep K2 (ninS N1 (ninS N6 nin0))).keep K3 (ninS N5 (ninS N0 nin0))).keep K5 (ninS N6 (ninS N1 nin0))
 have F0P := (((((Fld.ext E0 ((Fld.ext E1 I02).keep K4 (ninS N2 nin0))).keep K0 (ninS N3 nin0)).keep K1 (ninS N2 (ninS N7 nin0))).keep K2 (ninS N3 (ninS N8 nin0))).keep K3 (ninS N7 (ninS N2 nin0))).keep K5 (ninS N8 (ninS N3 nin0))
 have F0Q := (((((Fld.ext E0 ((Fld.ext E1 I03).keep K4 (ninS N0 nin0))).keep K0 (ninS N1 nin0)).keep K1 (ninS N0 (ninS N5 nin0))).keep K2 (ninS N1 (ninS N6 nin0))).keep K3 (ninS N5 (ninS N0 nin0))).keep K5 (ninS N6 (ninS N1 nin0))
 have N06 : @Ne Nat o6 o2 := by omega
 have N07 : @Ne Nat o6 o3 := by omega
 have N0g : @Ne Nat o6 o4 := by omega
 have N0h : @Ne Nat o6 o5 := by omega
 have F0R := (((((Fld.ext E0 ((Fld.ext E1 I04).keep K4 (ninS N06 nin0))).keep K0 (ninS N07 nin0)).keep K1 (ninS N06 (ninS N0g nin0))).keep K2 (ninS N07 (ninS N0h nin0))).keep K3 (ninS N0g (ninS N06 nin0))).keep K5 (ninS N0h (ninS N07 nin0))
 have N08 : @Ne Nat o7 o2 := by omega
 have N09 : @Ne Nat o7 o3 := by omega
 have N0i : @Ne Nat o7 o4 := by omega
 have N0j : @Ne Nat o7 o5 := by omega
 have F0S := (((((Fld.ext E0 ((Fld.ext E1 I05).keep K4 (ninS N08 nin0))).keep K0 (ninS N09 nin0)).keep K1 (ninS N08 (ninS N0i nin0))).keep K2 (ninS N09 (ninS N0j nin0))).keep K3 (ninS N0i (ninS N08 nin0))).keep K5 (ninS N0j (ninS N09 nin0))
 have F0T := (((((Exa.ext E0 ((Exa.ext E1 I06).keep K4)).keep K0).keep K1).keep K2).keep K3).keep K5
 have F0U := (((((Exa.ext E0 ((Exa.ext E1 I07).keep K4)).keep K0).keep K1).keep K2).keep K3).keep K5
 have F0V := (((((Fld.ext E0 ((Fld.ext E1 I08).keep K4 (ninS N2 nin0))).keep K0 (ninS N3 nin0)).keep K1 (ninS N2 (ninS N7 nin0))).keep K2 (ninS N3 (ninS N8 nin0))).keep K3 (ninS N7 (ninS N2 nin0))).keep K5 (ninS N8 (ninS N3 nin0))
 have N0a : @Ne Nat o8 o2 := by omega
 have N0b : @Ne Nat o8 o3 := by omega
 have N0k : @Ne Nat o8 o4 := by omega
 have N0l : @Ne Nat o8 o5 := by omega
 have F0W := (((((Fld.ext E0 ((Fld.ext E1 I09).keep K4 (ninS N0a nin0))).keep K0 (ninS N0b nin0)).keep K1 (ninS N0a (ninS N0k nin0))).keep K2 (ninS N0b (ninS N0l nin0))).keep K3 (ninS N0k (ninS N0a nin0))).keep K5 (ninS N0l (ninS N0b nin0))
 have N0c : @Ne Nat o9 o2 := by omega
 have N0d : @Ne Nat o9 o3 := by omega
 have N0m : @Ne Nat o9 o4 := by omega
 have N0n : @Ne Nat o9 o5 := by omega
 have F0X := (((((Fld.ext E0 ((Fld.ext E1 I0a).keep K4 (ninS N0c nin0))).keep K0 (ninS N0d nin0)).keep K1 (ninS N0c (ninS N0m nin0))).keep K2 (ninS N0d (ninS N0n nin0))).keep K3 (ninS N0m (ninS N0c nin0))).keep K5 (ninS N0n (ninS N0d nin0))
 have F0Y := (((((Exa.ext E0 ((Exa.ext E1 I0b).keep K4)).keep K0).keep K1).keep K2).keep K3).keep K5
 have F0Z := (((((Exa.ext E0 ((Exa.ext E1 I0c).keep K4)).keep K0).keep K1).keep K2).keep K3).keep K5
 have O8 : Old Z n0 h4 := O5.keep K5 (allS N04 (allS N01 all0))
 have Z7 : n0 ≤ h4.size := by omega
 have F10 := F7.keep K5
 refine own_cP X0 hx hZ hown e04 (y := mN54) (b := o0) (hw 450) (hw 451) (own_selP (hw 451) (hw 452) (hw 308) rfl (by decide)) (hw 452) (hw 29) (hw 453) (by decide) F10 (W := 0) (own_rm106 l Z a0 hw [] i0 i1 i2 i3 i4 i5 i6 i7 i8 i9 i00 i01 o0 o1 o6 o7 o8 o9 h4 n0 Z7 O8 F0G F0H F0I F0J F0K F0L F0M F0N F0O F0P F0Q F0R F0S F0T F0U F0V F0W F0X F0Y F0Z) [(.ref o1)] [] hml (lenOf own_pd27 rfl) (hb hby dd36_87) fun T03 h00 v7 L7 X5 e05 q7 => ?_
 obtain ⟨rfl, N0D, K7⟩ := q7
 have N0E := Fr.app N0C N0D
 have e06 := e05.trans K7
 refine oN0 X5 hx hby dd36_90 (XT.i0_ne_f (by decide)) ?_
 refine oIC X5 hx hby dd36_93 ?_
 have K8 : Keep h0 h4 [] := (((((((((Keep.refl h0 []).ext E1).trans K4 (allS (Or.inr (by omega)) all0)).ext E0).trans K0 (allS (Or.inr (by omega)) all0)).trans K1 (allS (Or.inr (by omega)) (allS (Or.inr (by omega)) all0))).trans K2 (allS (Or.inr (by omega)) (allS (Or.inr (by omega)) all0))).trans K3 (allS (Or.inr (by omega)) (allS (Or.inr (by omega)) all0))).trans K5 (allS (Or.inr (by omega)) (allS (Or.inr (by omega)) all0)))
 exact own_retN X5 hx (t := .boolean) hns hrt (by simp) (hb hby dd36_94) (by decide) e06 (by decide) (by decide) (⟨rfl, N0E, K8⟩)
theorem own_rm112 (l : Launch) (Z : State) (a0 : Array Value) (hw : own_W a0 Z) (ws : List Jvm.Cond)  (h0 : Heap) (n0 : Nat) (Z0 : n0 ≤ h0.size) (O0 : Old Z n0 h0)  :
 own_Met l Z h0 mN71 B0P 3 (Option.some FieldType.int) ws (own_R 0 0 0 0) #[(.int 0), (.int 2), .null] (fun v h L => (v = some (.int 0) ∧ Fr n0 L ∧ h = h0)) 0 0 := own_go own_pn58 fun p e s m below meth c s₁ hns hrt hnm hml hZ hx hby hown X0 e0 => by
 have N0 := Fr.nil n0
 refine own_cast (own_ef21 m 0 2) ?_
 refine oIN X0 hx hby dd61_0 rfl ?_
 refine oN0 X0 hx hby dd61_1 (XT.i0_lt_f (by decide)) ?_
 refine oIN X0 hx hby dd61_4 rfl ?_
 refine oIN X0 hx hby dd61_5 rfl ?_
 refine oYI X0 hx hby (pc' := 16) dd61_6 (XT.ii_lt_t (by decide)) ?_
 refine oIN X0 hx hby dd61_16 rfl ?_
 exact own_retI X0 hx hns hrt (hb hby dd61_17) e0 (by decide) (by decide) (⟨rfl, N0, rfl⟩)
theorem own_rm111 (l : Launch) (Z : State) (a0 : Array Value) (hw : own_W a0 Z) (ws : List Jvm.Cond)  (h0 : Heap) (n0 : Nat) (Z0 : n0 ≤ h0.size) (O0 : Old Z n0 h0)  :
 own_Met l Z h0 mN72 B0O 2 (Option.some FieldType.int) ws (own_R 1 0 0 14) #[(.int 0), (.int 2)] (fun v h L => (v = some (.int 0) ∧ Fr n0 L ∧ h = h0)) 0 0 := own_go own_pn59 fun p e s m below meth c s₁ hns hrt hnm hml hZ hx hby hown X0 e0 => by
 have N0 := Fr.nil n0
 refine own_cast (own_ef14 m 0 2) ?_
 refine oIN X0 hx hby dd60_0 rfl ?_
 refine oIN X0 hx hby dd60_1 rfl ?_
 refine oS (fun _ => XS.aconstNull X0.here hx rfl (hb hby dd60_2) ) ?_
 refine own_cS X0 hx hZ hown e0 (y := mN71) (hw 371) (hw 372) (hw 373) (hw 374) (by decide) (W := 0) (own_rm112 l Z a0 hw []  h0 n0 Z0 O0 ) [(.int 0), (.int 2), .null] [] hml (lenOf own_pd32 rfl) (hb hby dd60_3) fun T0 h1 v0 L0 X1 e1 q0 => ?_
 obtain ⟨rfl, N1, K0⟩ := q0
 have N2 := Fr.app N0 N1
 have e2 := e1.trans K0
 exact own_retI X1 hx hns hrt (hb hby dd60_6) e2 (by decide) (by decide) (⟨rfl, N2, rfl⟩)
theorem own_rm113 (l : Launch) (Z : State) (a0 : Array Value) (hw : own_W a0 Z) (ws : List Jvm.Cond) (m0 : ClassId) (o0 o2 o1 o3 : Nat) (h0 : Heap) (n0 : Nat) (Z0 : n0 ≤ h0.size) (O0 : Old Z n0 h0) (I0 : Fld Z h0 o0 cN10 "elementData" cN3 (.ref o2)) (I1 : Arv Z h0 o2 m0 (.object cN1) 10 [(.ref o1), (.ref o3), .null, .null, .null, .null, .null, .null, .null, .null] .null) :
 own_Met l Z h0 mN73 B0Q 2 (Option.some (FieldType.object cN1)) ws (own_R 0 0 0 0) #[(.ref o0), (.int 0)] (fun v h L => (v = some (.ref o1) ∧ Fr n0 L ∧ h = h0)) 0 0 := own_go own_pn60 fun p e s m below meth c s₁ hns hrt hnm hml hZ hx hby hown X1 e1 => by
 have N0 := Fr.nil n0
 refine own_cast (own_ef16 m o0 0) ?_
 refine oAN X1 hx hby dd62_0 rfl rfl ?_
 refine own_gF X1 hx hZ hown (hw 143) e1 I0 (hb hby dd62_1) fun T0 X0 e0 => ?_
 refine oIN X0 hx hby dd62_4 rfl ?_
 refine oS (own_aaload X0 hx hZ e0 I1 rfl (by decide) (v := (.ref o1)) rfl rfl rfl (hb hby dd62_5)) ?_
 exact own_retA X0 hx hns hrt rfl rfl (hb hby dd62_6) e0 (by decide) (by decide) (⟨rfl, N0, rfl⟩)
theorem own_rm110 (l : Launch) (Z : State) (a0 : Array Value) (hw : own_W a0 Z) (ws : List Jvm.Cond) (m0 : ClassId) (o0 o1 o2 o3 : Nat) (h0 : Heap) (n0 : Nat) (Z0 : n0 ≤ h0.size) (O0 : Old Z n0 h0) (I0 : Fld Z h0 o0 cN10 "size" "I" (.int 2)) (I1 : Fld Z h0 o0 cN10 "elementData" cN3 (.ref o1)) (I2 : Arv Z h0 o1 m0 (.object cN1) 10 [(.ref o2), (.ref o3), .null, .null, .null, .null, .null, .null, .null, .null] .null) (I3 : Exa Z h0 o0 cN10) :
 own_Met l Z h0 mN74 B0N 2 (Option.some (FieldType.object cN1)) ws (own_R 2 0 0 27) #[(.ref o0), (.int 0)] (fun v h L => (v = some (.ref o2) ∧ Fr n0 L ∧ h = h0)) 0 0 := own_go own_pn61 fun p e s m below meth c s₁ hns hrt hnm hml hZ hx hby hown X1 e0 => by
 have N0 := Fr.nil n0
 refine own_cast (own_ef16 m o0 0) ?_
 refine oIN X1 hx hby dd59_0 rfl ?_
 refine oAN X1 hx hby dd59_1 rfl rfl ?_
 refine own_gF X1 hx hZ hown (hw 156) e0 I0 (hb hby dd59_2) fun T0 X2 e1 => ?_
 refine own_cS X2 hx hZ hown e1 (y := mN72) (hw 368) (hw 369) (hw 55) (hw 370) (by decide) (W := 0) (own_rm111 l Z a0 hw []  h0 n0 Z0 O0 ) [(.int 0), (.int 2)] [] hml (lenOf own_pd22 rfl) (hb hby dd59_5) fun T1 h1 v0 L0 X0 e2 q0 => ?_
 obtain ⟨rfl, N1, K0⟩ := q0
 have N2 := Fr.app N0 N1
 have e3 := e2.trans K0
 refine oS (fun _ => XT.pop X0.here hx rfl (hb hby dd59_8) rfl rfl) ?_
 refine oAN X0 hx hby dd59_9 rfl rfl ?_
 refine oIN X0 hx hby dd59_10 rfl ?_
 refine own_cV X0 hx hZ hown e3 (y := mN73) (z := mN73) (b := o0) (hw 375) (hw 376) (notFace_of_selects (args := #[]) (mvT hZ (hw 378))) (hw 378) (hw 377) (hw 123) (hw 379) (by decide) I3 (W := 0) (own_rm113 l Z a0 hw [] m0 o0 o1 o2 o3 h0 n0 Z0 O0 I1 I2) [(.int 0)] [] hml (lenOf own_pd33 rfl) (hb hby dd59_11) fun T2 h2 v1 L1 X3 e4 q1 => ?_
 obtain ⟨rfl, N3, K1⟩ := q1
 have N4 := Fr.app N2 N3
 have e5 := e4.trans K1
 exact own_retA X3 hx hns hrt rfl rfl (hb hby dd59_14) e5 (by decide) (by decide) (⟨rfl, N4, rfl⟩)
theorem own_rm109 (l : Launch) (Z : State) (a0 : Array Value) (hw : own_W a0 Z) (ws : List Jvm.Cond) (m0 : ClassId) (o1 o0 o2 o3 o4 : Nat) (h0 : Heap) (n0 : Nat) (Z0 : n0 ≤ h0.size) (O0 : Old Z n0 h0) (I1 : Fld Z h0 o1 cN15 "list" cN5 (.ref o0)) (I2 : Fld Z h0 o0 cN10 "size" "I" (.int 2)) (I3 : Fld Z h0 o0 cN10 "elementData" cN3 (.ref o2)) (I4 : Arv Z h0 o2 m0 (.object cN1) 10 [(.ref o3), (.ref o4), .null, .null, .null, .null, .null, .null, .null, .null] .null) (I0 : Exa Z h0 o0 cN10) :
 own_Met l Z h0 mN75 B0M 2 (Option.some (FieldType.object cN1)) ws (own_R 3 0 0 40) #[(.ref o1), (.int 0)] (fun v h L => (v = some (.ref o3) ∧ Fr n0 L ∧ h = h0)) 0 0 := own_go own_pn62 fun p e s m below meth c s₁ hns hrt hnm hml hZ hx hby hown X0 e0 => by
 have N0 := Fr.nil n0
 refine own_cast (own_ef16 m o1 0) ?_
 refine oAN X0 hx hby dd58_0 rfl rfl ?_
 refine own_gF X0 hx hZ hown (hw 223) e0 I1 (hb hby dd58_1) fun T0 X1 e1 => ?_
 refine oIN X1 hx hby dd58_4 rfl ?_
 refine own_cI X1 hx hZ hown e1 (y := mN76) (z := mN74) (b := o0) (hw 362) (hw 355) (hw 356) rfl (hw 363) (hw 364) (hw 365) (hw 366) (hw 152) (hw 123) (hw 367) (by decide) I0 (W := 0) (own_rm110 l Z a0 hw [] m0 o0 o2 o3 o4 h0 n0 Z0 O0 I2 I3 I4 I0) [(.int 0)] [] hml (lenOf own_pd33 rfl) (hb hby dd58_5) fun T1 h1 v0 L0 X2 e2 q0 => ?_
 obtain ⟨rfl, N1, K0⟩ := q0
 have N2 := Fr.app N0 N1
 have e3 := e2.trans K0
 exact own_retA X2 hx hns hrt rfl rfl (hb hby dd58_10) e3 (by decide) (by decide) (⟨rfl, N2, rfl⟩)
theorem own_rm117 (l : Launch) (Z : State) (a0 : Array Value) (hw : own_W a0 Z) (ws : List Jvm.Cond)  (h0 : Heap) (n0 : Nat) (Z0 : n0 ≤ h0.size) (O0 : Old Z n0 h0)  :
 own_Met l Z h0 mN71 B0P 3 (Option.some FieldType.int) ws (own_R 0 0 0 0) #[(.int 1), (.int 2), .null] (fun v h L => (v = some (.int 1) ∧ Fr n0 L ∧ h = h0)) 0 0 := own_go own_pn58 fun p e s m below meth c s₁ hns hrt hnm hml hZ hx hby hown X0 e0 => by
 have N0 := Fr.nil n0
 refine own_cast (own_ef21 m 1 2) ?_
 refine oIN X0 hx hby dd61_0 rfl ?_
 refine oN0 X0 hx hby dd61_1 (XT.i0_lt_f (by decide)) ?_
 refine oIN X0 hx hby dd61_4 rfl ?_
 refine oIN X0 hx hby dd61_5 rfl ?_
 refine oYI X0 hx hby (pc' := 16) dd61_6 (XT.ii_lt_t (by decide)) ?_
 refine oIN X0 hx hby dd61_16 rfl ?_
 exact own_retI X0 hx hns hrt (hb hby dd61_17) e0 (by decide) (by decide) (⟨rfl, N0, rfl⟩)
theorem own_rm116 (l : Launch) (Z : State) (a0 : Array Value) (hw : own_W a0 Z) (ws : List Jvm.Cond)  (h0 : Heap) (n0 : Nat) (Z0 : n0 ≤ h0.size) (O0 : Old Z n0 h0)  :
 own_Met l Z h0 mN72 B0O 2 (Option.some FieldType.int) ws (own_R 1 0 0 14) #[(.int 1), (.int 2)] (fun v h L => (v = some (.int 1) ∧ Fr n0 L ∧ h = h0)) 0 0 := own_go own_pn59 fun p e s m below meth c s₁ hns hrt hnm hml hZ hx hby hown X0 e0 => by
 have N0 := Fr.nil n0
 refine own_cast (own_ef14 m 1 2) ?_
 refine oIN X0 hx hby dd60_0 rfl ?_
 refine oIN X0 hx hby dd60_1 rfl ?_
 refine oS (fun _ => XS.aconstNull X0.here hx rfl (hb hby dd60_2) ) ?_
 refine own_cS X0 hx hZ hown e0 (y := mN71) (hw 371) (hw 372) (hw 373) (hw 374) (by decide) (W := 0) (own_rm117 l Z a0 hw []  h0 n0 Z0 O0 ) [(.int 1), (.int 2), .null] [] hml (lenOf own_pd32 rfl) (hb hby dd60_3) fun T0 h1 v0 L0 X1 e1 q0 => ?_
 obtain ⟨rfl, N1, K0⟩ := q0
 have N2 := Fr.app N0 N1
 have e2 := e1.trans K0
 exact own_retI X1 hx hns hrt (hb hby dd60_6) e2 (by decide) (by decide) (⟨rfl, N2, rfl⟩)
theorem own_rm118 (l : Launch) (Z : State) (a0 : Array Value) (hw : own_W a0 Z) (ws : List Jvm.Cond) (m0 : ClassId) (o0 o2 o3 o1 : Nat) (h0 : Heap) (n0 : Nat) (Z0 : n0 ≤ h0.size) (O0 : Old Z n0 h0) (I0 : Fld Z h0 o0 cN10 "elementData" cN3 (.ref o2)) (I1 : Arv Z h0 o2 m0 (.object cN1) 10 [(.ref o3), (.ref o1), .null, .null, .null, .null, .null, .null, .null, .null] .null) :
 own_Met l Z h0 mN73 B0Q 2 (Option.some (FieldType.object cN1)) ws (own_R 0 0 0 0) #[(.ref o0), (.int 1)] (fun v h L => (v = some (.ref o1) ∧ Fr n0 L ∧ h = h0)) 0 0 := own_go own_pn60 fun p e s m below meth c s₁ hns hrt hnm hml hZ hx hby hown X1 e1 => by
 have N0 := Fr.nil n0
 refine own_cast (own_ef16 m o0 1) ?_
 refine oAN X1 hx hby dd62_0 rfl rfl ?_
 refine own_gF X1 hx hZ hown (hw 143) e1 I0 (hb hby dd62_1) fun T0 X0 e0 => ?_
 refine oIN X0 hx hby dd62_4 rfl ?_
 refine oS (own_aaload X0 hx hZ e0 I1 rfl (by decide) (v := (.ref o1)) rfl rfl rfl (hb hby dd62_5)) ?_
 exact own_retA X0 hx hns hrt rfl rfl (hb hby dd62_6) e0 (by decide) (by decide) (⟨rfl, N0, rfl⟩)
theorem own_rm115 (l : Launch) (Z : State) (a0 : Array Value) (hw : own_W a0 Z) (ws : List Jvm.Cond) (m0 : ClassId) (o0 o1 o3 o2 : Nat) (h0 : Heap) (n0 : Nat) (Z0 : n0 ≤ h0.size) (O0 : Old Z n0 h0) (I0 : Fld Z h0 o0 cN10 "size" "I" (.int 2)) (I1 : Fld Z h0 o0 cN10 "elementData" cN3 (.ref o1)) (I2 : Arv Z h0 o1 m0 (.object cN1) 10 [(.ref o3), (.ref o2), .null, .null, .null, .null, .null, .null, .null, .null] .null) (I3 : Exa Z h0 o0 cN10) :
 own_Met l Z h0 mN74 B0N 2 (Option.some (FieldType.object cN1)) ws (own_R 2 0 0 27) #[(.ref o0), (.int 1)] (fun v h L => (v = some (.ref o2) ∧ Fr n0 L ∧ h = h0)) 0 0 := own_go own_pn61 fun p e s m below meth c s₁ hns hrt hnm hml hZ hx hby hown X1 e0 => by
 have N0 := Fr.nil n0
 refine own_cast (own_ef16 m o0 1) ?_
 refine oIN X1 hx hby dd59_0 rfl ?_
 refine oAN X1 hx hby dd59_1 rfl rfl ?_
 refine own_gF X1 hx hZ hown (hw 156) e0 I0 (hb hby dd59_2) fun T0 X2 e1 => ?_
 refine own_cS X2 hx hZ hown e1 (y := mN72) (hw 368) (hw 369) (hw 55) (hw 370) (by decide) (W := 0) (own_rm116 l Z a0 hw []  h0 n0 Z0 O0 ) [(.int 1), (.int 2)] [] hml (lenOf own_pd22 rfl) (hb hby dd59_5) fun T1 h1 v0 L0 X0 e2 q0 => ?_
 obtain ⟨rfl, N1, K0⟩ := q0
 have N2 := Fr.app N0 N1
 have e3 := e2.trans K0
 refine oS (fun _ => XT.pop X0.here hx rfl (hb hby dd59_8) rfl rfl) ?_
 refine oAN X0 hx hby dd59_9 rfl rfl ?_
 refine oIN X0 hx hby dd59_10 rfl ?_
 refine own_cV X0 hx hZ hown e3 (y := mN73) (z := mN73) (b := o0) (hw 375) (hw 376) (notFace_of_selects (args := #[]) (mvT hZ (hw 378))) (hw 378) (hw 377) (hw 123) (hw 379) (by decide) I3 (W := 0) (own_rm118 l Z a0 hw [] m0 o0 o1 o3 o2 h0 n0 Z0 O0 I1 I2) [(.int 1)] [] hml (lenOf own_pd33 rfl) (hb hby dd59_11) fun T2 h2 v1 L1 X3 e4 q1 => ?_
 obtain ⟨rfl, N3, K1⟩ := q1
 have N4 := Fr.app N2 N3
 have e5 := e4.trans K1
 exact own_retA X3 hx hns hrt rfl rfl (hb hby dd59_14) e5 (by decide) (by decide) (⟨rfl, N4, rfl⟩)
theorem own_rm114 (l : Launch) (Z : State) (a0 : Array Value) (hw : own_W a0 Z) (ws : List Jvm.Cond) (m0 : ClassId) (o1 o0 o2 o4 o3 : Nat) (h0 : Heap) (n0 : Nat) (Z0 : n0 ≤ h0.size) (O0 : Old Z n0 h0) (I1 : Fld Z h0 o1 cN15 "list" cN5 (.ref o0)) (I2 : Fld Z h0 o0 cN10 "size" "I" (.int 2)) (I3 : Fld Z h0 o0 cN10 "elementData" cN3 (.ref o2)) (I4 : Arv Z h0 o2 m0 (.object cN1) 10 [(.ref o4), (.ref o3), .null, .null, .null, .null, .null, .null, .null, .null] .null) (I0 : Exa Z h0 o0 cN10) :
 own_Met l Z h0 mN75 B0M 2 (Option.some (FieldType.object cN1)) ws (own_R 3 0 0 40) #[(.ref o1), (.int 1)] (fun v h L => (v = some (.ref o3) ∧ Fr n0 L ∧ h = h0)) 0 0 := own_go own_pn62 fun p e s m below meth c s₁ hns hrt hnm hml hZ hx hby hown X0 e0 => by
 have N0 := Fr.nil n0
 refine own_cast (own_ef16 m o1 1) ?_
 refine oAN X0 hx hby dd58_0 rfl rfl ?_
 refine own_gF X0 hx hZ hown (hw 223) e0 I1 (hb hby dd58_1) fun T0 X1 e1 => ?_
 refine oIN X1 hx hby dd58_4 rfl ?_
 refine own_cI X1 hx hZ hown e1 (y := mN76) (z := mN74) (b := o0) (hw 362) (hw 355) (hw 356) rfl (hw 363) (hw 364) (hw 365) (hw 366) (hw 152) (hw 123) (hw 367) (by decide) I0 (W := 0) (own_rm115 l Z a0 hw [] m0 o0 o2 o4 o3 h0 n0 Z0 O0 I2 I3 I4 I0) [(.int 1)] [] hml (lenOf own_pd33 rfl) (hb hby dd58_5) fun T1 h1 v0 L0 X2 e2 q0 => ?_
 obtain ⟨rfl, N1, K0⟩ := q0
 have N2 := Fr.app N0 N1
 have e3 := e2.trans K0
 exact own_retA X2 hx hns hrt rfl rfl (hb hby dd58_10) e3 (by decide) (by decide) (⟨rfl, N2, rfl⟩)
theorem own_rm120 (l : Launch) (Z : State) (a0 : Array Value) (hw : own_W a0 Z) (ws : List Jvm.Cond) (i0 i1 i2 i6 i7 i8 i9 i00 i01 i3 i4 i5 : Int32) (o1 o0 o2 o4 o3 o5 : Nat) (h0 : Heap) (n0 : Nat) (Z0 : n0 ≤ h0.size) (O0 : Old Z n0 h0) (I0 : Fld Z h0 o1 cN7 "hash" "I" (.int (((31 : Int32) * (((31 : Int32) * (((31 : Int32) * (((31 : Int32) * (((31 : Int32) * i0) + 0)) + i1)) + i2)) + (((31 : Int32) * (((31 : Int32) * ((31 : Int32) + ((i6.toInt8.toInt32) &&& 255))) + i7)) + i8))) + (((31 : Int32) * (((31 : Int32) * ((31 : Int32) + ((i9.toInt8.toInt32) &&& 255))) + i00)) + i01)))) (I1 : Fld Z h0 o0 cN7 "hash" "I" (.int (((31 : Int32) * (((31 : Int32) * (((31 : Int32) * (((31 : Int32) * (((31 : Int32) * i3) + 0)) + i4)) + i5)) + (((31 : Int32) * (((31 : Int32) * ((31 : Int32) + ((i6.toInt8.toInt32) &&& 255))) + i7)) + i8))) + (((31 : Int32) * (((31 : Int32) * ((31 : Int32) + ((i9.toInt8.toInt32) &&& 255))) + i00)) + i01)))) (I2 : Fld Z h0 o1 cN7 "type" "S" (.int i0)) (I3 : Fld Z h0 o0 cN7 "type" "S" (.int i3)) (I4 : Fld Z h0 o1 cN7 "minOccurs" "I" (.int i1)) (I5 : Fld Z h0 o0 cN7 "minOccurs" "I" (.int i4)) (I6 : Fld Z h0 o1 cN7 "maxOccurs" "I" (.int i2)) (I7 : Fld Z h0 o0 cN7 "maxOccurs" "I" (.int i5)) (I8 : Fld Z h0 o1 cN7 "name" cN8 .null) (I9 : Fld Z h0 o0 cN7 "name" cN8 .null) (I00 : Fld Z h0 o1 cN7 "particles" cN5 (.ref o2)) (I01 : Fld Z h0 o2 cN12 "c" cN13 (.ref o4)) (I02 : Fld Z h0 o4 cN10 "size" "I" (.int 2)) (I03 : Exa Z h0 o4 cN10) (I04 : Exa Z h0 o2 cN14) (I05 : Fld Z h0 o0 cN7 "particles" cN5 (.ref o3)) (I06 : Fld Z h0 o3 cN12 "c" cN13 (.ref o5)) (I07 : Fld Z h0 o5 cN10 "size" "I" (.int 2)) (I08 : Exa Z h0 o5 cN10) (I09 : Exa Z h0 o3 cN14) :
 own_Met l Z h0 mN54 B0B 2 (Option.some FieldType.boolean) ws (own_R 2 0 0 25) #[(.ref o1), (.ref o0)] (fun v h L => (((((31 : Int32) * (((31 : Int32) * (((31 : Int32) * (((31 : Int32) * (((31 : Int32) * i0) + 0)) + i1)) + i2)) + (((31 : Int32) * (((31 : Int32) * ((31 : Int32) + ((i6.toInt8.toInt32) &&& 255))) + i7)) + i8))) + (((31 : Int32) * (((31 : Int32) * ((31 : Int32) + ((i9.toInt8.toInt32) &&& 255))) + i00)) + i01)) = (((31 : Int32) * (((31 : Int32) * (((31 : Int32) * (((31 : Int32) * (((31 : Int32) * i3) + 0)) + i4)) + i5)) + (((31 : Int32) * (((31 : Int32) * ((31 : Int32) + ((i6.toInt8.toInt32) &&& 255))) + i7)) + i8))) + (((31 : Int32) * (((31 : Int32) * ((31 : Int32) + ((i9.toInt8.toInt32) &&& 255))) + i00)) + i01))) ∧ (i0 = i3) ∧ (i1 = i4) ∧ (i2 = i5) ∧ v = some (.int 1) ∧ Fr n0 L ∧ h = h0) ∨ (¬ (i0 = i3 ∧ i1 = i4 ∧ i2 = i5) ∧ v = some (.int 0) ∧ Fr n0 L ∧ h = h0)) 0 0 := own_go own_pn47 fun p e s m below meth c s₁ hns hrt hnm hml hZ hx hby hown X6 e4 => by
 have N0 := Fr.nil n0
 refine own_cast (own_ef9 m o1 o0) ?_
 refine oAN X6 hx hby dd47_0 rfl rfl ?_
 refine own_gF X6 hx hZ hown (hw 119) e4 I0 (hb hby dd47_1) fun T5 X7 e5 => ?_
 refine oAN X7 hx hby dd47_4 rfl rfl ?_
 refine own_gF X7 hx hZ hown (hw 119) e5 I1 (hb hby dd47_5) fun T0 X0 e0 => ?_
 by_cases b0 : (((31 : Int32) * (((31 : Int32) * (((31 : Int32) * (((31 : Int32) * (((31 : Int32) * i0) + 0)) + i1)) + i2)) + (((31 : Int32) * (((31 : Int32) * ((31 : Int32) + ((i6.toInt8.toInt32) &&& 255))) + i7)) + i8))) + (((31 : Int32) * (((31 : Int32) * ((31 : Int32) + ((i9.toInt8.toInt32) &&& 255))) + i00)) + i01)) = (((31 : Int32) * (((31 : Int32) * (((31 : Int32) * (((31 : Int32) * (((31 : Int32) * i3) + 0)) + i4)) + i5)) + (((31 : Int32) * (((31 : Int32) * ((31 : Int32) + ((i6.toInt8.toInt32) &&& 255))) + i7)) + i8))) + (((31 : Int32) * (((31 : Int32) * ((31 : Int32) + ((i9.toInt8.toInt32) &&& 255))) + i00)) + i01))
 ·skip
  refine oNI X0 hx hby dd47_8 (XT.ii_ne_f b0) ?_
  show own_G p e below (T0.setTop (mkF m 11 #[rv o1, rv o0] [])) _
  refine oAN X0 hx hby dd47_11 rfl rfl ?_
  refine own_gF X0 hx hZ hown (hw 43) e0 I2 (hb hby dd47_12) fun T6 X8 e6 => ?_
  refine oAN X8 hx hby dd47_15 rfl rfl ?_
  refine own_gF X8 hx hZ hown (hw 43) e6 I3 (hb hby dd47_16) fun T1 X1 e1 => ?_
  by_cases b1 : i0 = i3
  ·skip
   refine oNI X1 hx hby dd47_19 (XT.ii_ne_f b1) ?_
   show own_G p e below (T1.setTop (mkF m 22 #[rv o1, rv o0] [])) _
   refine oAN X1 hx hby dd47_22 rfl rfl ?_
   refine own_gF X1 hx hZ hown (hw 47) e1 I4 (hb hby dd47_23) fun T7 X9 e7 => ?_
   refine oAN X9 hx hby dd47_26 rfl rfl ?_
   refine own_gF X9 hx hZ hown (hw 47) e7 I5 (hb hby dd47_27) fun T2 X2 e2 => ?_
   by_cases b2 : i1 = i4
   ·skip
    refine oNI X2 hx hby dd47_30 (XT.ii_ne_f b2) ?_
    show own_G p e below (T2.setTop (mkF m 33 #[rv o1, rv o0] [])) _
    refine oAN X2 hx hby dd47_33 rfl rfl ?_
    refine own_gF X2 hx hZ hown (hw 49) e2 I6 (hb hby dd47_34) fun T8 X00 e8 => ?_
    refine oAN X00 hx hby dd47_37 rfl rfl ?_
    refine own_gF X00 hx hZ hown (hw 49) e8 I7 (hb hby dd47_38) fun T3 X3 e3 => ?_
    by_cases b3 : i2 = i5
    ·skip
     refine oNI X3 hx hby dd47_41 (XT.ii_ne_f b3) ?_
     show own_G p e below (T3.setTop (mkF m 44 #[rv o1, rv o0] [])) _
     refine oAN X3 hx hby dd47_44 rfl rfl ?_
     refine own_gF X3 hx hZ hown (hw 45) e3 I8 (hb hby dd47_45) fun T9 X01 e9 => ?_
     refine oAN X01 hx hby dd47_48 rfl rfl ?_
     refine own_gF X01 hx hZ hown (hw 45) e9 I9 (hb hby dd47_49) fun T00 X03 e00 => ?_
     refine own_cS X03 hx hZ hown e00 (y := mN53) (hw 454) (hw 455) (hw 55) (hw 456) (by decide) (W := 0) (own_rm52 l Z a0 hw []  h0 n0 Z0 O0 ) [.null, .null] [] hml (lenOf own_pd26 rfl) (hb hby dd47_52) fun T01 h1 v0 L0 X5 e01 q0 => ?_
     obtain ⟨rfl, N1, K0⟩ := q0
     have N2 := Fr.app N0 N1
     have e02 := e01.trans K0
     refine oN0 X5 hx hby dd47_55 (XT.i0_eq_f (by decide)) ?_
     refine oAN X5 hx hby dd47_58 rfl rfl ?_
     refine own_gF X5 hx hZ hown (hw 51) e02 I00 (hb hby dd47_59) fun T02 X04 e03 => ?_
     refine own_cI X04 hx hZ hown e03 (y := mN55) (z := mN41) (b := o2) (hw 457) (hw 339) (hw 340) rfl (hw 341) (hw 342) (hw 343) (hw 344) (hw 229) (hw 218) (hw 345) (by decide) I04 (W := 0) (own_rm107 l Z a0 hw [] o2 o4 h0 n0 Z0 O0 I01 I02 I03) [] [] hml (lenOf own_pd7 rfl) (hb hby dd47_62) fun T4 h2 v1 L1 X02 e04 q1 => ?_
     obtain ⟨rfl, N3, K1⟩ := q1
     have N4 := Fr.app N2 N3
     have e05 := e04.trans K1
     refine oAN X02 hx hby dd47_67 rfl rfl ?_
     show own_G p e below (T4.setTop (mkF m 68 #[rv o1, rv o0] [(.ref o0), (.int 2)])) _
     refine own_gF X02 hx hZ hown (hw 51) e05 I05 (hb hby dd47_68) fun T03 X05 e06 => ?_
     refine own_cI X05 hx hZ hown e06 (y := mN55) (z := mN41) (b := o3) (hw 457) (hw 339) (hw 340) rfl (hw 341) (hw 342) (hw 343) (hw 344) (hw 229) (hw 218) (hw 345) (by decide) I09 (W := 1) (own_rm107 l Z a0 hw [] o3 o5 h0 n0 Z0 O0 I06 I07 I08) [] [(.int 2)] hml (lenOf own_pd7 rfl) (hb hby dd47_71) fun T04 h3 v2 L2 X4 e07 q2 => ?_
     obtain ⟨rfl, N5, K2⟩ := q2
     have N6 := Fr.app N4 N5
     have e08 := e07.trans K2
     refine oNI X4 hx hby dd47_76 (XT.ii_ne_f (by decide)) ?_
     refine oIC X4 hx hby dd47_79 ?_
     refine oGO X4 hx hby (pc' := 84) dd47_80 ?_
     exact own_retN X4 hx (t := .boolean) hns hrt (by simp) (hb hby dd47_84) (by decide) e08 (by decide) (by decide) (Or.inl ⟨b0, b1, b2, b3, rfl, N6, rfl⟩)
    ·skip
     refine oYI X3 hx hby (pc' := 83) dd47_41 (XT.ii_ne_t b3) ?_
     show own_G p e below (T3.setTop (mkF m 83 #[rv o1, rv o0] [])) _
     refine oIC X3 hx hby dd47_83 ?_
     exact own_retN X3 hx (t := .boolean) hns hrt (by simp) (hb hby dd47_84) (by decide) e3 (by decide) (by decide) (Or.inr (⟨(fun z => b3 z.2.2), rfl, N0, rfl⟩))
   ·skip
    refine oYI X2 hx hby (pc' := 83) dd47_30 (XT.ii_ne_t b2) ?_
    show own_G p e below (T2.setTop (mkF m 83 #[rv o1, rv o0] [])) _
    refine oIC X2 hx hby dd47_83 ?_
    exact own_retN X2 hx (t := .boolean) hns hrt (by simp) (hb hby dd47_84) (by decide) e2 (by decide) (by decide) (Or.inr (⟨(fun z => b2 z.2.1), rfl, N0, rfl⟩))
  ·skip
   refine oYI X1 hx hby (pc' := 83) dd47_19 (XT.ii_ne_t b1) ?_
   show own_G p e below (T1.setTop (mkF m 83 #[rv o1, rv o0] [])) _
   refine oIC X1 hx hby dd47_83 ?_
   exact own_retN X1 hx (t := .boolean) hns hrt (by simp) (hb hby dd47_84) (by decide) e1 (by decide) (by decide) (Or.inr (⟨(fun z => b1 z.1), rfl, N0, rfl⟩))
 ·skip
  refine oYI X0 hx hby (pc' := 83) dd47_8 (XT.ii_ne_t b0) ?_
  show own_G p e below (T0.setTop (mkF m 83 #[rv o1, rv o0] [])) _
  refine oIC X0 hx hby dd47_83 ?_
  exact own_retN X0 hx (t := .boolean) hns hrt (by simp) (hb hby dd47_84) (by decide) e0 (by decide) (by decide) (Or.inr (⟨(fun z => b0 (by rw [z.1, z.2.1, z.2.2])), rfl, N0, rfl⟩))
theorem own_rm123 (l : Launch) (Z : State) (a0 : Array Value) (hw : own_W a0 Z) (ws : List Jvm.Cond)  (h0 : Heap) (n0 : Nat) (Z0 : n0 ≤ h0.size) (O0 : Old Z n0 h0)  :
 own_Met l Z h0 mN44 B0u 2 (Option.some FieldType.int) ws (own_R 0 0 0 0) #[(.int 16), (.int 17)] (fun v h L => (v = some (.int 15) ∧ Fr n0 L ∧ h = h0)) 0 0 := own_go own_pn37 fun p e s m below meth c s₁ hns hrt hnm hml hZ hx hby hown X0 e0 => by
 have N0 := Fr.nil n0
 refine own_cast (own_ef14 m 16 17) ?_
 refine oS (fun _ => XS.iinc X0.here hx rfl (hb hby dd40_0) rfl (l' := #[iv 15, iv 17]) rfl) ?_
 refine oIN X0 hx hby dd40_3 rfl ?_
 refine oY0 X0 hx hby (pc' := 11) dd40_4 (XT.i0_ge_t (by decide)) ?_
 refine oIN X0 hx hby dd40_11 rfl ?_
 exact own_retI X0 hx hns hrt (hb hby dd40_12) e0 (by decide) (by decide) (⟨rfl, N0, rfl⟩)
theorem own_rm122 (l : Launch) (Z : State) (a0 : Array Value) (hw : own_W a0 Z) (ws : List Jvm.Cond) (m0 : ClassId) (o0 o2 o1 o3 : Nat) (h0 : Heap) (n0 : Nat) (Z0 : n0 ≤ h0.size) (O0 : Old Z n0 h0) (I2 : Fld Z h0 o0 cN23 "elements" cN3 (.ref o1)) (I1 : Fld Z h0 o0 cN23 "head" "I" (.int 16)) (I3 : Arv Z h0 o1 m0 (.object cN1) 17 [.null, .null, .null, .null, .null, .null, .null, .null, .null, .null, .null, .null, .null, .null, .null, .null, (.ref o3)] .null) (I4 : Exa Z h0 o0 cN23) (I5 : n0 ≤ o0) (I0 : @Ne Nat o1 o0) (I6 : Ovr Z m0 cN1) (I7 : Exa Z h0 o2 cN7) (I8 : n0 ≤ o1) (I9 : Fld Z h0 o0 cN23 "tail" "I" (.int 0)) :
 own_Met l Z h0 mN45 B0t 3 (Option.none : Option FieldType) ws (own_R 1 0 0 15) #[(.ref o0), (.ref o2)] (fun v h L => (v = none ∧ Fr n0 L ∧ Keep h0 h [o0, o1] ∧ Fld Z h o0 cN23 "head" "I" (.int 15) ∧ Fld Z h o0 cN23 "tail" "I" (.int 0) ∧ Fld Z h o0 cN23 "elements" cN3 (.ref o1) ∧ Exa Z h o0 cN23 ∧ Arv Z h o1 m0 (.object cN1) 17 [.null, .null, .null, .null, .null, .null, .null, .null, .null, .null, .null, .null, .null, .null, .null, (.ref o2), (.ref o3)] .null)) 0 0 := own_go own_pn38 fun p e s m below meth c s₁ hns hrt hnm hml hZ hx hby hown X1 e1 => by
 have N0 := Fr.nil n0
 refine own_cast (own_ef13 m o0 o2) ?_
 refine oAN X1 hx hby dd39_0 rfl rfl ?_
 refine oS (fun _ => XT.ifnonnullYes X1.here hx rfl (pc0 := 1) (pc' := 12) rfl (hb hby dd39_1) rfl (by decide) (by decide)) ?_
 refine oAN X1 hx hby dd39_12 rfl rfl ?_
 refine own_gF X1 hx hZ hown (hw 395) e1 I2 (hb hby dd39_13) fun T2 X0 e2 => ?_
 refine oASN X0 hx hby dd39_16 rfl (l' := #[rv o0, rv o2, rv o1]) rfl ?_
 refine oAN X0 hx hby dd39_17 rfl rfl ?_
 refine oAN X0 hx hby dd39_18 rfl rfl ?_
 refine oAN X0 hx hby dd39_19 rfl rfl ?_
 refine own_gF X0 hx hZ hown (hw 411) e2 I1 (hb hby dd39_20) fun T0 X2 e0 => ?_
 refine oAN X2 hx hby dd39_23 rfl rfl ?_
 show own_G p e below (T0.setTop (mkF m 24 #[rv o0, rv o2, rv o1] [(.ref o1), (.int 16), (.ref o0), (.ref o1)])) _
 refine oS (own_len X2 hx hZ e0 I3 rfl rfl (hb hby dd39_24)) ?_
 refine own_cS X2 hx hZ hown e0 (y := mN44) (hw 413) (hw 414) (hw 388) (hw 415) (by decide) (W := 2) (own_rm123 l Z a0 hw []  h0 n0 Z0 O0 ) [(.int 16), (.int 17)] [(.ref o0), (.ref o1)] hml (lenOf own_pd22 rfl) (hb hby dd39_25) fun T3 h2 v0 L0 X5 e3 q0 => ?_
 obtain ⟨rfl, N1, K0⟩ := q0
 have N2 := Fr.app N0 N1
 have e4 := e3.trans K0
 refine oS (fun _ => XT.dupX1 X5.here hx rfl (hb hby dd39_28) rfl rfl rfl) ?_
 refine own_pF X5 hx hZ hown (hw 411) e4 I1 I4 (Or.inl (hw 412)) (hw 387) (ty := .int) rfl rfl (hb hby dd39_29) fun T4 h3 X3 e5 W0 => ?_
 have N3 := Fr.snoc X3 N2 I5
 have z0 := W0.size
 have F3 := Fld.same W0 I1
 refine oAN X3 hx hby dd39_32 rfl rfl ?_
 have F0 := I3.other W0 I0
 have F4 := Exa.wr W0 I7
 obtain ⟨T5, h1, X4, e6, W1, A0, s0⟩ := own_stR X3 hx hZ e5 F0 rfl 15 (own_sto F0 I6 (Ins.of_exa F4 (hw 179))) rfl rfl (by decide) (by simp) (g := (mkF m 33 #[rv o0, rv o2, rv o1] [(.ref o2), (.int 15), (.ref o1)])) rfl (rest := []) rfl (hb hby dd39_33)
 have N4 := Fr.snoc X4 N3 I8
 have z1 := W1.size
 have F5 : Arv Z h1 o1 m0 (.object cN1) 17 [.null, .null, .null, .null, .null, .null, .null, .null, .null, .null, .null, .null, .null, .null, .null, (.ref o2), (.ref o3)] .null := A0
 refine oS s0 ?_
 refine oAN X4 hx hby dd39_34 rfl rfl ?_
 have F1 := Fld.other W1 F3 (Or.inl (Ne.symm I0))
 refine own_gF X4 hx hZ hown (hw 411) e6 F1 (hb hby dd39_35) fun T6 X6 e7 => ?_
 refine oAN X6 hx hby dd39_38 rfl rfl ?_
 have F2 := Fld.other W1 (Fld.other W0 I9 (Or.inr (slot_ne (C := cN23) (Or.inl (hw 417)) (Or.inl (hw 412)) (by decide) (t := .int) (t' := .int) (by decide) (by decide)))) (Or.inl (Ne.symm I0))
 refine own_gF X6 hx hZ hown (hw 416) e7 F2 (hb hby dd39_39) fun T1 X7 e8 => ?_
 show own_G p e below (T1.setTop (mkF m 42 #[rv o0, rv o2, rv o1] [(.int 0), (.int 15)])) _
 refine oYI X7 hx hby (pc' := 50) dd39_42 (XT.ii_ne_t (by decide)) ?_
 have F6 := Fld.other W1 (Fld.other W0 I2 (Or.inr (slot_ne (C := cN23) (Or.inl (hw 396)) (Or.inl (hw 412)) (by decide) (t := (.array (.object cN1))) (t' := .int) (by decide) (by decide)))) (Or.inl (Ne.symm I0))
 have F7 := Exa.wr W1 (Exa.wr W0 I4)
 have K1 : Keep h0 h1 [o0, o1] := (((Keep.refl h0 [o0, o1]).wr W0 (Or.inl (by simp))).wr W1 (Or.inl (by simp)))
 exact own_retV X7 hx hns hrt (hb hby dd39_50) e8 (by decide) (by decide) (⟨rfl, N4, K1, F1, F2, F6, F7, F5⟩)
theorem own_rm121 (l : Launch) (Z : State) (a0 : Array Value) (hw : own_W a0 Z) (ws : List Jvm.Cond) (m0 : ClassId) (o0 o2 o1 o3 : Nat) (h0 : Heap) (n0 : Nat) (Z0 : n0 ≤ h0.size) (O0 : Old Z n0 h0) (I1 : Fld Z h0 o0 cN23 "elements" cN3 (.ref o1)) (I2 : Fld Z h0 o0 cN23 "head" "I" (.int 16)) (I3 : Arv Z h0 o1 m0 (.object cN1) 17 [.null, .null, .null, .null, .null, .null, .null, .null, .null, .null, .null, .null, .null, .null, .null, .null, (.ref o3)] .null) (I0 : Exa Z h0 o0 cN23) (I4 : n0 ≤ o0) (I5 : @Ne Nat o1 o0) (I6 : Ovr Z m0 cN1) (I7 : Exa Z h0 o2 cN7) (I8 : n0 ≤ o1) (I9 : Fld Z h0 o0 cN23 "tail" "I" (.int 0)) :
 own_Met l Z h0 mN46 B0s 2 (Option.none : Option FieldType) ws (own_R 2 0 0 29) #[(.ref o0), (.ref o2)] (fun v h L => (v = none ∧ Fr n0 L ∧ Keep h0 h [o0, o1] ∧ Fld Z h o0 cN23 "head" "I" (.int 15) ∧ Fld Z h o0 cN23 "tail" "I" (.int 0) ∧ Fld Z h o0 cN23 "elements" cN3 (.ref o1) ∧ Exa Z h o0 cN23 ∧ Arv Z h o1 m0 (.object cN1) 17 [.null, .null, .null, .null, .null, .null, .null, .null, .null, .null, .null, .null, .null, .null, .null, (.ref o2), (.ref o3)] .null)) 0 0 := own_go own_pn39 fun p e s m below meth c s₁ hns hrt hnm hml hZ hx hby hown X0 e0 => by
 have N0 := Fr.nil n0
 refine own_cast (own_ef9 m o0 o2) ?_
 refine oAN X0 hx hby dd38_0 rfl rfl ?_
 refine oAN X0 hx hby dd38_1 rfl rfl ?_
 refine own_cV X0 hx hZ hown e0 (y := mN45) (z := mN45) (b := o0) (hw 406) (hw 407) (notFace_of_selects (args := #[]) (mvT hZ (hw 409))) (hw 409) (hw 408) (hw 388) (hw 410) (by decide) I0 (W := 0) (own_rm122 l Z a0 hw [] m0 o0 o2 o1 o3 h0 n0 Z0 O0 I1 I2 I3 I0 I4 I5 I6 I7 I8 I9) [(.ref o2)] [] hml (lenOf own_pd23 rfl) (hb hby dd38_2) fun T0 h1 v0 L0 X1 e1 q0 => ?_
 obtain ⟨rfl, N1, K0, F0, F1, F2, F3, F4⟩ := q0
 have N2 := Fr.app N0 N1
 have z0 := K0.1
 have K1 : Keep h0 h1 [o0, o1] := ((Keep.refl h0 [o0, o1]).trans K0 (allS (Or.inl (by simp)) (allS (Or.inl (by simp)) all0)))
 exact own_retV X1 hx hns hrt (hb hby dd38_5) e1 (by decide) (by decide) (⟨rfl, N2, K1, F0, F1, F2, F3, F4⟩)
theorem own_rm124 (l : Launch) (Z : State) (a0 : Array Value) (hw : own_W a0 Z) (ws : List Jvm.Cond) (o0 : Nat) (h0 : Heap) (n0 : Nat) (Z0 : n0 ≤ h0.size) (O0 : Old Z n0 h0) (I0 : Fld Z h0 o0 cN23 "head" "I" (.int 15)) (I1 : Fld Z h0 o0 cN23 "tail" "I" (.int 0)) :
 own_Met l Z h0 mN47 B0v 1 (Option.some FieldType.boolean) ws (own_R 0 0 0 0) #[(.ref o0)] (fun v h L => (v = some (.int 0) ∧ Fr n0 L ∧ h = h0)) 0 0 := own_go own_pn40 fun p e s m below meth c s₁ hns hrt hnm hml hZ hx hby hown X1 e0 => by
 have N0 := Fr.nil n0
 refine own_cast (own_ef6 m o0) ?_
 refine oAN X1 hx hby dd41_0 rfl rfl ?_
 refine own_gF X1 hx hZ hown (hw 411) e0 I0 (hb hby dd41_1) fun T0 X2 e1 => ?_
 refine oAN X2 hx hby dd41_4 rfl rfl ?_
 refine own_gF X2 hx hZ hown (hw 416) e1 I1 (hb hby dd41_5) fun T1 X0 e2 => ?_
 refine oYI X0 hx hby (pc' := 15) dd41_8 (XT.ii_ne_t (by decide)) ?_
 refine oIC X0 hx hby dd41_15 ?_
 exact own_retN X0 hx (t := .boolean) hns hrt (by simp) (hb hby dd41_16) (by decide) e2 (by decide) (by decide) (⟨rfl, N0, rfl⟩)
theorem own_rm128 (l : Launch) (Z : State) (a0 : Array Value) (hw : own_W a0 Z) (ws : List Jvm.Cond) (m0 : ClassId) (o0 o1 o2 : Nat) (h0 : Heap) (n0 : Nat) (Z0 : n0 ≤ h0.size) (O0 : Old Z n0 h0) (I0 : Arv Z h0 o0 m0 (.object cN1) 17 [.null, .null, .null, .null, .null, .null, .null, .null, .null, .null, .null, .null, .null, .null, .null, (.ref o1), (.ref o2)] .null) :
 own_Met l Z h0 mN48 B0z 2 (Option.some (FieldType.object cN1)) ws (own_R 0 0 0 0) #[(.ref o0), (.int 15)] (fun v h L => (v = some (.ref o1) ∧ Fr n0 L ∧ h = h0)) 0 0 := own_go own_pn41 fun p e s m below meth c s₁ hns hrt hnm hml hZ hx hby hown X0 e0 => by
 have N0 := Fr.nil n0
 refine own_cast (own_ef16 m o0 15) ?_
 refine oAN X0 hx hby dd45_0 rfl rfl ?_
 refine oIN X0 hx hby dd45_1 rfl ?_
 refine oS (own_aaload X0 hx hZ e0 I0 rfl (by decide) (v := (.ref o1)) rfl rfl rfl (hb hby dd45_2)) ?_
 exact own_retA X0 hx hns hrt rfl rfl (hb hby dd45_3) e0 (by decide) (by decide) (⟨rfl, N0, rfl⟩)
theorem own_rm129 (l : Launch) (Z : State) (a0 : Array Value) (hw : own_W a0 Z) (ws : List Jvm.Cond)  (h0 : Heap) (n0 : Nat) (Z0 : n0 ≤ h0.size) (O0 : Old Z n0 h0)  :
 own_Met l Z h0 mN49 B0A 2 (Option.some FieldType.int) ws (own_R 0 0 0 0) #[(.int 15), (.int 17)] (fun v h L => (v = some (.int 16) ∧ Fr n0 L ∧ h = h0)) 0 0 := own_go own_pn42 fun p e s m below meth c s₁ hns hrt hnm hml hZ hx hby hown X0 e0 => by
 have N0 := Fr.nil n0
 refine own_cast (own_ef14 m 15 17) ?_
 refine oS (fun _ => XS.iinc X0.here hx rfl (hb hby dd46_0) rfl (l' := #[iv 16, iv 17]) rfl) ?_
 refine oIN X0 hx hby dd46_3 rfl ?_
 refine oIN X0 hx hby dd46_4 rfl ?_
 refine oYI X0 hx hby (pc' := 10) dd46_5 (XT.ii_lt_t (by decide)) ?_
 refine oIN X0 hx hby dd46_10 rfl ?_
 exact own_retI X0 hx hns hrt (hb hby dd46_11) e0 (by decide) (by decide) (⟨rfl, N0, rfl⟩)
theorem own_rm127 (l : Launch) (Z : State) (a0 : Array Value) (hw : own_W a0 Z) (ws : List Jvm.Cond) (m0 : ClassId) (o0 o1 o2 o3 : Nat) (h0 : Heap) (n0 : Nat) (Z0 : n0 ≤ h0.size) (O0 : Old Z n0 h0) (I1 : Fld Z h0 o0 cN23 "elements" cN3 (.ref o1)) (I2 : Fld Z h0 o0 cN23 "head" "I" (.int 15)) (I3 : Arv Z h0 o1 m0 (.object cN1) 17 [.null, .null, .null, .null, .null, .null, .null, .null, .null, .null, .null, .null, .null, .null, .null, (.ref o2), (.ref o3)] .null) (I4 : n0 ≤ o1) (I0 : @Ne Nat o0 o1) (I5 : Exa Z h0 o0 cN23) (I6 : n0 ≤ o0) (I7 : Fld Z h0 o0 cN23 "tail" "I" (.int 0)) :
 own_Met l Z h0 mN50 B0y 4 (Option.some (FieldType.object cN1)) ws (own_R 1 0 0 14) #[(.ref o0)] (fun v h L => (v = some (.ref o2) ∧ Fr n0 L ∧ Keep h0 h [o1, o0] ∧ Arv Z h o1 m0 (.object cN1) 17 [.null, .null, .null, .null, .null, .null, .null, .null, .null, .null, .null, .null, .null, .null, .null, .null, (.ref o3)] .null ∧ Fld Z h o0 cN23 "head" "I" (.int 16) ∧ Exa Z h o0 cN23 ∧ Fld Z h o0 cN23 "elements" cN3 (.ref o1) ∧ Fld Z h o0 cN23 "tail" "I" (.int 0))) 0 0 := own_go own_pn43 fun p e s m below meth c s₁ hns hrt hnm hml hZ hx hby hown X5 e1 => by
 have N0 := Fr.nil n0
 refine own_cast (own_ef15 m o0) ?_
 refine oAN X5 hx hby dd44_0 rfl rfl ?_
 refine own_gF X5 hx hZ hown (hw 395) e1 I1 (hb hby dd44_1) fun T2 X2 e2 => ?_
 refine oS (fun _ => XS.dup X2.here hx rfl (hb hby dd44_4) rfl rfl) ?_
 refine oASN X2 hx hby dd44_5 rfl (l' := #[rv o0, rv o1, .unset, .unset]) rfl ?_
 refine oAN X2 hx hby dd44_6 rfl rfl ?_
 refine own_gF X2 hx hZ hown (hw 411) e2 I2 (hb hby dd44_7) fun T3 X3 e3 => ?_
 refine oS (fun _ => XS.dup X3.here hx rfl (hb hby dd44_10) rfl rfl) ?_
 refine oISN X3 hx hby dd44_11 (l' := #[rv o0, rv o1, iv 15, .unset]) rfl ?_
 refine own_cS X3 hx hZ hown e3 (y := mN48) (hw 444) (hw 445) (hw 388) (hw 446) (by decide) (W := 0) (own_rm128 l Z a0 hw [] m0 o1 o2 o3 h0 n0 Z0 O0 I3) [(.ref o1), (.int 15)] [] hml (lenOf own_pd24 rfl) (hb hby dd44_12) fun T0 h3 v0 L0 X0 e4 q0 => ?_
 obtain ⟨rfl, N1, K0⟩ := q0
 have N2 := Fr.app N0 N1
 have e5 := e4.trans K0
 refine oASN X0 hx hby dd44_15 rfl (l' := #[rv o0, rv o1, iv 15, rv o2]) rfl ?_
 show own_G p e below (T0.setTop (mkF m 16 #[rv o0, rv o1, iv 15, rv o2] [])) _
 refine oAN X0 hx hby dd44_16 rfl rfl ?_
 refine oS (fun _ => XS.ifnullNo X0.here hx rfl (hb hby dd44_17) rfl) ?_
 refine oAN X0 hx hby dd44_20 rfl rfl ?_
 refine oIN X0 hx hby dd44_21 rfl ?_
 refine oS (fun _ => XS.aconstNull X0.here hx rfl (hb hby dd44_22) ) ?_
 obtain ⟨T1, h1, X1, e0, W0, A0, s0⟩ := own_stR X0 hx hZ e5 I3 rfl 15 (Or.inl rfl) rfl rfl (by decide) (by simp) (g := (mkF m 23 #[rv o0, rv o1, iv 15, rv o2] [.null, (.int 15), (.ref o1)])) rfl (rest := []) rfl (hb hby dd44_23)
 have N3 := Fr.snoc X1 N2 I4
 have z0 := W0.size
 have F0 : Arv Z h1 o1 m0 (.object cN1) 17 [.null, .null, .null, .null, .null, .null, .null, .null, .null, .null, .null, .null, .null, .null, .null, .null, (.ref o3)] .null := A0
 refine oS s0 ?_
 refine oAN X1 hx hby dd44_24 rfl rfl ?_
 refine oIN X1 hx hby dd44_25 rfl ?_
 refine oAN X1 hx hby dd44_26 rfl rfl ?_
 refine oS (own_len X1 hx hZ e0 F0 rfl rfl (hb hby dd44_27)) ?_
 show own_G p e below (T1.setTop (mkF m 28 #[rv o0, rv o1, iv 15, rv o2] [(.int 17), (.int 15), (.ref o0)])) _
 have O1 : Old Z n0 h1 := O0.wr W0 I4
 have Z1 : n0 ≤ h1.size := by omega
 refine own_cS X1 hx hZ hown e0 (y := mN49) (hw 447) (hw 448) (hw 388) (hw 449) (by decide) (W := 1) (own_rm129 l Z a0 hw []  h1 n0 Z1 O1 ) [(.int 15), (.int 17)] [(.ref o0)] hml (lenOf own_pd22 rfl) (hb hby dd44_28) fun T4 h4 v1 L1 X6 e6 q1 => ?_
 obtain ⟨rfl, N4, K1⟩ := q1
 have N5 := Fr.app N3 N4
 have e7 := e6.trans K1
 have F1 := Fld.other W0 I2 (Or.inl I0)
 have F2 := Exa.wr W0 I5
 refine own_pF X6 hx hZ hown (hw 411) e7 F1 F2 (Or.inl (hw 412)) (hw 387) (ty := .int) rfl rfl (hb hby dd44_31) fun T5 h2 X4 e8 W1 => ?_
 have N6 := Fr.snoc X4 N5 I6
 have z1 := W1.size
 have F3 := Fld.same W1 F1
 refine oAN X4 hx hby dd44_34 rfl rfl ?_
 have F4 := F0.other W1 (Ne.symm I0)
 have F5 := Exa.wr W1 F2
 have F6 := Fld.other W1 (Fld.other W0 I1 (Or.inl I0)) (Or.inr (slot_ne (C := cN23) (Or.inl (hw 396)) (Or.inl (hw 412)) (by decide) (t := (.array (.object cN1))) (t' := .int) (by decide) (by decide)))
 have F7 := Fld.other W1 (Fld.other W0 I7 (Or.inl I0)) (Or.inr (slot_ne (C := cN23) (Or.inl (hw 417)) (Or.inl (hw 412)) (by decide) (t := .int) (t' := .int) (by decide) (by decide)))
 have K2 : Keep h0 h2 [o1, o0] := (((Keep.refl h0 [o1, o0]).wr W0 (Or.inl (by simp))).wr W1 (Or.inl (by simp)))
 exact own_retA X4 hx hns hrt rfl rfl (hb hby dd44_35) e8 (by decide) (by decide) (⟨rfl, N6, K2, F4, F3, F5, F6, F7⟩)
theorem own_rm126 (l : Launch) (Z : State) (a0 : Array Value) (hw : own_W a0 Z) (ws : List Jvm.Cond) (m0 : ClassId) (o0 o1 o2 o3 : Nat) (h0 : Heap) (n0 : Nat) (Z0 : n0 ≤ h0.size) (O0 : Old Z n0 h0) (I1 : Fld Z h0 o0 cN23 "elements" cN3 (.ref o1)) (I2 : Fld Z h0 o0 cN23 "head" "I" (.int 15)) (I3 : Arv Z h0 o1 m0 (.object cN1) 17 [.null, .null, .null, .null, .null, .null, .null, .null, .null, .null, .null, .null, .null, .null, .null, (.ref o2), (.ref o3)] .null) (I4 : n0 ≤ o1) (I5 : @Ne Nat o0 o1) (I0 : Exa Z h0 o0 cN23) (I6 : n0 ≤ o0) (I7 : Fld Z h0 o0 cN23 "tail" "I" (.int 0)) :
 own_Met l Z h0 mN51 B0x 2 (Option.some (FieldType.object cN1)) ws (own_R 2 0 0 29) #[(.ref o0)] (fun v h L => (v = some (.ref o2) ∧ Fr n0 L ∧ Keep h0 h [o1, o0] ∧ Arv Z h o1 m0 (.object cN1) 17 [.null, .null, .null, .null, .null, .null, .null, .null, .null, .null, .null, .null, .null, .null, .null, .null, (.ref o3)] .null ∧ Fld Z h o0 cN23 "head" "I" (.int 16) ∧ Exa Z h o0 cN23 ∧ Fld Z h o0 cN23 "elements" cN3 (.ref o1) ∧ Fld Z h o0 cN23 "tail" "I" (.int 0))) 0 0 := own_go own_pn44 fun p e s m below meth c s₁ hns hrt hnm hml hZ hx hby hown X1 e0 => by
 have N0 := Fr.nil n0
 refine own_cast (own_ef7 m o0) ?_
 refine oAN X1 hx hby dd43_0 rfl rfl ?_
 refine own_cV X1 hx hZ hown e0 (y := mN50) (z := mN50) (b := o0) (hw 439) (hw 440) (notFace_of_selects (args := #[]) (mvT hZ (hw 442))) (hw 442) (hw 441) (hw 388) (hw 443) (by decide) I0 (W := 0) (own_rm127 l Z a0 hw [] m0 o0 o1 o2 o3 h0 n0 Z0 O0 I1 I2 I3 I4 I5 I0 I6 I7) [] [] hml (lenOf own_pd25 rfl) (hb hby dd43_1) fun T0 h1 v0 L0 X0 e1 q0 => ?_
 obtain ⟨rfl, N1, K0, F0, F1, F2, F3, F4⟩ := q0
 have N2 := Fr.app N0 N1
 have z0 := K0.1
 refine oASN X0 hx hby dd43_4 rfl (l' := #[rv o0, rv o2]) rfl ?_
 refine oAN X0 hx hby dd43_5 rfl rfl ?_
 refine oS (fun _ => XT.ifnonnullYes X0.here hx rfl (pc0 := 6) (pc' := 17) rfl (hb hby dd43_6) rfl (by decide) (by decide)) ?_
 refine oAN X0 hx hby dd43_17 rfl rfl ?_
 have K1 : Keep h0 h1 [o1, o0] := ((Keep.refl h0 [o1, o0]).trans K0 (allS (Or.inl (by simp)) (allS (Or.inl (by simp)) all0)))
 exact own_retA X0 hx hns hrt rfl rfl (hb hby dd43_18) e1 (by decide) (by decide) (⟨rfl, N2, K1, F0, F1, F2, F3, F4⟩)
theorem own_rm125 (l : Launch) (Z : State) (a0 : Array Value) (hw : own_W a0 Z) (ws : List Jvm.Cond) (m0 : ClassId) (o0 o1 o2 o3 : Nat) (h0 : Heap) (n0 : Nat) (Z0 : n0 ≤ h0.size) (O0 : Old Z n0 h0) (I1 : Fld Z h0 o0 cN23 "elements" cN3 (.ref o1)) (I2 : Fld Z h0 o0 cN23 "head" "I" (.int 15)) (I3 : Arv Z h0 o1 m0 (.object cN1) 17 [.null, .null, .null, .null, .null, .null, .null, .null, .null, .null, .null, .null, .null, .null, .null, (.ref o2), (.ref o3)] .null) (I4 : n0 ≤ o1) (I5 : @Ne Nat o0 o1) (I0 : Exa Z h0 o0 cN23) (I6 : n0 ≤ o0) (I7 : Fld Z h0 o0 cN23 "tail" "I" (.int 0)) :
 own_Met l Z h0 mN52 B0w 1 (Option.some (FieldType.object cN1)) ws (own_R 3 0 0 42) #[(.ref o0)] (fun v h L => (v = some (.ref o2) ∧ Fr n0 L ∧ Keep h0 h [o1, o0] ∧ Arv Z h o1 m0 (.object cN1) 17 [.null, .null, .null, .null, .null, .null, .null, .null, .null, .null, .null, .null, .null, .null, .null, .null, (.ref o3)] .null ∧ Fld Z h o0 cN23 "head" "I" (.int 16) ∧ Exa Z h o0 cN23 ∧ Fld Z h o0 cN23 "elements" cN3 (.ref o1) ∧ Fld Z h o0 cN23 "tail" "I" (.int 0))) 0 0 := own_go own_pn45 fun p e s m below meth c s₁ hns hrt hnm hml hZ hx hby hown X0 e0 => by
 have N0 := Fr.nil n0
 refine own_cast (own_ef6 m o0) ?_
 refine oAN X0 hx hby dd42_0 rfl rfl ?_
 refine own_cV X0 hx hZ hown e0 (y := mN51) (z := mN51) (b := o0) (hw 434) (hw 435) (notFace_of_selects (args := #[]) (mvT hZ (hw 437))) (hw 437) (hw 436) (hw 388) (hw 438) (by decide) I0 (W := 0) (own_rm126 l Z a0 hw [] m0 o0 o1 o2 o3 h0 n0 Z0 O0 I1 I2 I3 I4 I5 I0 I6 I7) [] [] hml (lenOf own_pd25 rfl) (hb hby dd42_1) fun T0 h1 v0 L0 X1 e1 q0 => ?_
 obtain ⟨rfl, N1, K0, F0, F1, F2, F3, F4⟩ := q0
 have N2 := Fr.app N0 N1
 have z0 := K0.1
 have K1 : Keep h0 h1 [o1, o0] := ((Keep.refl h0 [o1, o0]).trans K0 (allS (Or.inl (by simp)) (allS (Or.inl (by simp)) all0)))
 exact own_retA X1 hx hns hrt rfl rfl (hb hby dd42_4) e1 (by decide) (by decide) (⟨rfl, N2, K1, F0, F1, F2, F3, F4⟩)
theorem own_rm119 (l : Launch) (Z : State) (a0 : Array Value) (hw : own_W a0 Z) (ws : List Jvm.Cond) (i0 i1 i2 i6 i7 i8 i9 i00 i01 i3 i4 i5 : Int32) (m2 m3 : ClassId) (o1 o2 o6 o9 o00 o01 o02 o4 o5 o03 : Nat) (h0 : Heap) (n0 : Nat) (Z0g : n0 ≤ h0.size) (O04 : Old Z n0 h0) (I0 : Exa Z h0 o2 cN7) (I1 : Exa Z h0 o1 cN7) (I2 : @Ne Nat o1 o2) (I3 : Fld Z h0 o1 cN7 "hash" "I" (.int (((31 : Int32) * (((31 : Int32) * (((31 : Int32) * (((31 : Int32) * (((31 : Int32) * i0) + 0)) + i1)) + i2)) + (((31 : Int32) * (((31 : Int32) * ((31 : Int32) + ((i6.toInt8.toInt32) &&& 255))) + i7)) + i8))) + (((31 : Int32) * (((31 : Int32) * ((31 : Int32) + ((i9.toInt8.toInt32) &&& 255))) + i00)) + i01)))) (I0l : @LT.lt Nat instLTNat o1 h0.size) (I4 : Fld Z h0 o2 cN7 "hash" "I" (.int (((31 : Int32) * (((31 : Int32) * (((31 : Int32) * (((31 : Int32) * (((31 : Int32) * i3) + 0)) + i4)) + i5)) + (((31 : Int32) * (((31 : Int32) * ((31 : Int32) + ((i6.toInt8.toInt32) &&& 255))) + i7)) + i8))) + (((31 : Int32) * (((31 : Int32) * ((31 : Int32) + ((i9.toInt8.toInt32) &&& 255))) + i00)) + i01)))) (I0m : @LT.lt Nat instLTNat o2 h0.size) (I5 : Fld Z h0 o1 cN7 "type" "S" (.int i0)) (I6 : Fld Z h0 o2 cN7 "type" "S" (.int i3)) (I7 : Fld Z h0 o1 cN7 "minOccurs" "I" (.int i1)) (I8 : Fld Z h0 o2 cN7 "minOccurs" "I" (.int i4)) (I9 : Fld Z h0 o1 cN7 "maxOccurs" "I" (.int i2)) (I00 : Fld Z h0 o2 cN7 "maxOccurs" "I" (.int i5)) (I01 : Fld Z h0 o1 cN7 "name" cN8 .null) (I02 : Fld Z h0 o2 cN7 "name" cN8 .null) (I03 : Fld Z h0 o1 cN7 "particles" cN5 (.ref o6)) (I04 : Fld Z h0 o6 cN12 "c" cN13 (.ref o9)) (I0n : @LT.lt Nat instLTNat o6 h0.size) (I05 : Fld Z h0 o9 cN10 "size" "I" (.int 2)) (I0o : @LT.lt Nat instLTNat o9 h0.size) (I06 : Exa Z h0 o9 cN10) (I07 : Exa Z h0 o6 cN14) (I08 : Fld Z h0 o2 cN7 "particles" cN5 (.ref o00)) (I09 : Fld Z h0 o00 cN12 "c" cN13 (.ref o01)) (I0p : @LT.lt Nat instLTNat o00 h0.size) (I0a : Fld Z h0 o01 cN10 "size" "I" (.int 2)) (I0q : @LT.lt Nat instLTNat o01 h0.size) (I0b : Exa Z h0 o01 cN10) (I0c : Exa Z h0 o00 cN14) (I0d : Fld Z h0 o6 cN15 "list" cN5 (.ref o9)) (I0e : Fld Z h0 o9 cN10 "elementData" cN3 (.ref o02)) (I0f : Arv Z h0 o02 m2 (.object cN1) 10 [(.ref o4), (.ref o5), .null, .null, .null, .null, .null, .null, .null, .null] .null) (I0r : @LT.lt Nat instLTNat o02 h0.size) (I0g : Exa Z h0 o4 cN7) (I0h : Fld Z h0 o00 cN15 "list" cN5 (.ref o01)) (I0i : Fld Z h0 o01 cN10 "elementData" cN3 (.ref o03)) (I0j : Arv Z h0 o03 m3 (.object cN1) 10 [(.ref o4), (.ref o5), .null, .null, .null, .null, .null, .null, .null, .null] .null) (I0s : @LT.lt Nat instLTNat o03 h0.size) (I0k : Exa Z h0 o5 cN7) :
 own_Met l Z h0 mN56 B0q 7 (Option.some FieldType.boolean) ws (own_R 4 4 40 54) #[(.ref o1), (.ref o2)] (fun v h L => (((((31 : Int32) * (((31 : Int32) * (((31 : Int32) * (((31 : Int32) * (((31 : Int32) * i0) + 0)) + i1)) + i2)) + (((31 : Int32) * (((31 : Int32) * ((31 : Int32) + ((i6.toInt8.toInt32) &&& 255))) + i7)) + i8))) + (((31 : Int32) * (((31 : Int32) * ((31 : Int32) + ((i9.toInt8.toInt32) &&& 255))) + i00)) + i01)) = (((31 : Int32) * (((31 : Int32) * (((31 : Int32) * (((31 : Int32) * (((31 : Int32) * i3) + 0)) + i4)) + i5)) + (((31 : Int32) * (((31 : Int32) * ((31 : Int32) + ((i6.toInt8.toInt32) &&& 255))) + i7)) + i8))) + (((31 : Int32) * (((31 : Int32) * ((31 : Int32) + ((i9.toInt8.toInt32) &&& 255))) + i00)) + i01))) ∧ (i0 = i3) ∧ (i1 = i4) ∧ (i2 = i5) ∧ v = some (.int 1) ∧ Fr n0 L ∧ Keep h0 h []) ∨ (¬ (i0 = i3 ∧ i1 = i4 ∧ i2 = i5) ∧ v = some (.int 0) ∧ Fr n0 L ∧ Keep h0 h [])) 4 40 := own_go own_pn48 fun p e s m below meth c s₁ hns hrt hnm hml hZ hx hby hown X0a e1 => by
 have N0x := Fr.nil n0
 refine own_cast (own_ef12 m o1 o2) ?_
 refine oAN X0a hx hby dd36_0 rfl rfl ?_
 obtain ⟨T02, X0b, e2, s2⟩ := instY X0a hx hZ hown (hw 31) e1 (Ins.self I0) (g := (mkF m 1 #[rv o1, rv o2, .unset, .unset, .unset, .unset, .unset] [(.ref o2)])) rfl rfl (hb hby dd36_1)
 refine oS s2 ?_
 refine oY0 X0b hx hby (pc' := 9) dd36_4 (XT.i0_ne_t (by decide)) ?_
 obtain ⟨T03, h2, X0c, e3, E1, A0, D0, U0, s0⟩ := newO X0b hx hZ hown (hw 386) (hw 387) (hw 388) e2 (g := (mkF m 9 #[rv o1, rv o2, .unset, .unset, .unset, .unset, .unset] [])) rfl (hb hby dd36_9) (by decide) (by decide)
 obtain ⟨o0, g0⟩ : ∃ z, z = h0.size := ⟨_, rfl⟩
 rw [← g0] at A0 D0 U0 s0
 have z0 := E1.1
 have y2 : @LT.lt Nat instLTNat o0 h2.size := A0.lt
 refine oS s0 ?_
 have F0H : Fld Z h2 o0 cN23 "elements" cN3 .null := D0 (Or.inl (hw 396)) (ty := (.array (.object cN1))) (by decide)
 have F0I : Fld Z h2 o0 cN23 "head" "I" (.int 0) := D0 (Or.inl (hw 412)) (ty := .int) (by decide)
 have F0J : Fld Z h2 o0 cN23 "tail" "I" (.int 0) := D0 (Or.inl (hw 417)) (ty := .int) (by decide)
 refine oS (fun _ => XS.dup X0c.here hx rfl (hb hby dd36_12) rfl rfl) ?_
 have N7 : n0 ≤ o0 := by omega
 have y0 : @LT.lt Nat instLTNat o0 h2.size := by omega
 have O7 : Old Z n0 h2 := O04.ext E1
 have Z0 : n0 ≤ h2.size := by omega
 refine own_cN X0c hx hZ hown e3 (y := mN43) (b := o0) rfl (hw 389) (hw 390) (hw 388) (hw 391) (by decide) (W := 1) (own_rm41 l Z a0 hw [] o0 h2 n0 Z0 O7 F0H A0 N7 F0I F0J y0) [] [(.ref o0)] hml (lenOf own_pd13 rfl) (hb hby dd36_13) fun T04 h06 v0 L0 X0d e4 q0 => ?_
 obtain ⟨o7, m0, rfl, N0y, K5, F31, F0K, F0L, F0M, F0N, F0O, F32, F4⟩ := q0
 have N0z := Fr.app N0x N0y
 have z1 := K5.1
 refine oASN X0d hx hby dd36_16 rfl (l' := #[rv o1, rv o2, rv o0, .unset, .unset, .unset, .unset]) rfl ?_
 obtain ⟨T05, h3, X0e, e5, E0, A1, D1, U1, s1⟩ := newO X0d hx hZ hown (hw 386) (hw 387) (hw 388) e4 (g := (mkF m 17 #[rv o1, rv o2, rv o0, .unset, .unset, .unset, .unset] [])) rfl (hb hby dd36_17) (by decide) (by decide)
 obtain ⟨o3, g1⟩ : ∃ z, z = h06.size := ⟨_, rfl⟩
 rw [← g1] at A1 D1 U1 s1
 have z2 := E0.1
 have y3 : @LT.lt Nat instLTNat o3 h3.size := A1.lt
 refine oS s1 ?_
 have F0P : Fld Z h3 o3 cN23 "elements" cN3 .null := D1 (Or.inl (hw 396)) (ty := (.array (.object cN1))) (by decide)
 have F0Q : Fld Z h3 o3 cN23 "head" "I" (.int 0) := D1 (Or.inl (hw 412)) (ty := .int) (by decide)
 have F0R : Fld Z h3 o3 cN23 "tail" "I" (.int 0) := D1 (Or.inl (hw 417)) (ty := .int) (by decide)
 refine oS (fun _ => XS.dup X0e.here hx rfl (hb hby dd36_20) rfl rfl) ?_
 have N8 : n0 ≤ o3 := by omega
 have y1 : @LT.lt Nat instLTNat o3 h3.size := by omega
 have O05 : Old Z n0 h06 := O7.keep K5 (allS N7 all0)
 have O8 : Old Z n0 h3 := O05.ext E0
 have Z1 : n0 ≤ h3.size := by omega
 refine own_cN X0e hx hZ hown e5 (y := mN43) (b := o3) rfl (hw 389) (hw 390) (hw 388) (hw 391) (by decide) (W := 1) (own_rm41 l Z a0 hw [] o3 h3 n0 Z1 O8 F0P A1 N8 F0Q F0R y1) [] [(.ref o3)] hml (lenOf own_pd13 rfl) (hb hby dd36_21) fun T0 h01 v1 L1 X6 e6 q1 => ?_
 obtain ⟨o8, m1, rfl, N0A, K0, F33, F0S, F0T, F0U, F0V, F0W, F34, F5⟩ := q1
 have N0B := Fr.app N0z N0A
 have z3 := K0.1
 show own_G p e below (T0.setTop (mkF m 24 #[rv o1, rv o2, rv o0, .unset, .unset, .unset, .unset] [(.ref o3)])) _
 refine oASN X6 hx hby dd36_24 rfl (l' := #[rv o1, rv o2, rv o0, rv o3, .unset, .unset, .unset]) rfl ?_
 refine oAN X6 hx hby dd36_25 rfl rfl ?_
 refine oAN X6 hx hby dd36_26 rfl rfl ?_
 have N0 : @Ne Nat o0 o3 := by omega
 have F0X := (Fld.ext E0 F0K).keep K0 (ninS N0 nin0)
 have F0Y := (Fld.ext E0 F0M).keep K0 (ninS N0 nin0)
 have N1 : @Ne Nat o7 o3 := by omega
 have F0Z := (F0O.ext E0).keep K0 (ninS N1 nin0)
 have F09 := (Exa.ext E0 F0L).keep K0
 have N0j : @Ne Nat o7 o0 := by omega
 have F0a := (Exa.ext E0 ((Exa.ext E1 I1).keep K5)).keep K0
 have N03 : n0 ≤ o7 := by omega
 have F10 := (Fld.ext E0 F0N).keep K0 (ninS N0 nin0)
 have O9 : Old Z n0 h01 := O8.keep K0 (allS N8 all0)
 have Z2 : n0 ≤ h01.size := by omega
 refine own_cI X6 hx hZ hown e6 (y := mN57) (z := mN46) (b := o0) (hw 397) (hw 398) (hw 399) rfl (hw 400) (hw 401) (hw 402) (hw 403) (hw 404) (hw 388) (hw 405) (by decide) F09 (W := 0) (own_rm42 l Z a0 hw [] m0 o0 o1 o7 h01 n0 Z2 O9 F0X F0Y F0Z F09 N7 N0j F4 F0a N03 F10) [(.ref o1)] [] hml (lenOf own_pd23 rfl) (hb hby dd36_27) fun T06 h02 v2 L2 X00 e7 q2 => ?_
 obtain ⟨rfl, N0C, K1, F11, F12, F13, F14, F15⟩ := q2
 have N0D := Fr.app N0B N0C
 have z4 := K1.1
 refine oAN X00 hx hby dd36_32 rfl rfl ?_
 refine oAN X00 hx hby dd36_33 rfl rfl ?_
 have F6 := ((Exa.ext E0 ((Exa.ext E1 I0).keep K5)).keep K0).keep K1
 refine own_cY X00 hx hZ hown (hw 304) e7 (Ins.of_exa F6 (hw 305)) (hb hby dd36_34) fun T07 X0k e8 => ?_
 have F16 := F0S.keep K1 (ninS (Ne.symm N0) (ninS (Ne.symm N1) nin0))
 have F17 := F0U.keep K1 (ninS (Ne.symm N0) (ninS (Ne.symm N1) nin0))
 have N05 : @Ne Nat o8 o7 := by omega
 have N2 : @Ne Nat o8 o0 := by omega
 have F18 := F0W.keep K1 (ninS N2 (ninS N05 nin0))
 have F0b := F0T.keep K1
 have N0k : @Ne Nat o8 o3 := by omega
 have N04 : n0 ≤ o8 := by omega
 have F19 := F0V.keep K1 (ninS (Ne.symm N0) (ninS (Ne.symm N1) nin0))
 have O00 : Old Z n0 h02 := O9.keep K1 (allS N7 (allS N03 all0))
 have Z3 : n0 ≤ h02.size := by omega
 refine own_cI X0k hx hZ hown e8 (y := mN57) (z := mN46) (b := o3) (hw 397) (hw 398) (hw 399) rfl (hw 400) (hw 401) (hw 402) (hw 403) (hw 404) (hw 388) (hw 405) (by decide) F0b (W := 0) (own_rm42 l Z a0 hw [] m1 o3 o2 o8 h02 n0 Z3 O00 F16 F17 F18 F0b N8 N0k F5 F6 N04 F19) [(.ref o2)] [] hml (lenOf own_pd23 rfl) (hb hby dd36_37) fun T08 h6 v3 L3 X0f e9 q3 => ?_
 obtain ⟨rfl, N0E, K2, F1a, F1b, F1c, F1d, F1e⟩ := q3
 have N0F := Fr.app N0D N0E
 have z5 := K2.1
 refine oAN X0f hx hby dd36_42 rfl rfl ?_
 have F0c := F11.keep K2 (ninS N0 (ninS (Ne.symm N2) nin0))
 have F0d := F12.keep K2 (ninS N0 (ninS (Ne.symm N2) nin0))
 have O3 : Old Z n0 h6 := O00.keep K2 (allS N8 (allS N04 all0))
 have Z4 : n0 ≤ h6.size := by omega
 have F7 := F14.keep K2
 refine own_cIU X0f hx hZ hown e9 (y := mN58) (z := mN47) (J := cN16) (b := o0) (hw 418) (hw 419) (hw 420) (by decide) (by decide) (hw 421) (hw 422) (hw 423) (hw 424) (hw 404) (hw 388) (hw 425) (by decide) F7 (W := 0) (own_rm45 l Z a0 hw [] o0 h6 n0 Z4 O3 F0c F0d) [] [] hml (lenOf own_pd5 rfl) (hb hby dd36_43) fun T1 h07 v4 L4 X01 e00 q4 => ?_
 obtain ⟨rfl, N0G, K04⟩ := q4
 have N0H := Fr.app N0F N0G
 have e01 := e00.trans K04
 show own_G p e below (T1.setTop (mkF m 48 #[rv o1, rv o2, rv o0, rv o3, .unset, .unset, .unset] [(.int 0)])) _
 refine oN0 X01 hx hby dd36_48 (XT.i0_ne_f (by decide)) ?_
 refine oAN X01 hx hby dd36_51 rfl rfl ?_
 have F1f := F13.keep K2 (ninS N0 (ninS (Ne.symm N2) nin0))
 have F1g := F15.keep K2 (ninS N1 (ninS (Ne.symm N05) nin0))
 have Z5 : n0 ≤ h6.size := by omega
 refine own_cI X01 hx hZ hown e01 (y := mN59) (z := mN52) (b := o0) (hw 426) (hw 427) (hw 428) rfl (hw 429) (hw 430) (hw 431) (hw 432) (hw 404) (hw 388) (hw 433) (by decide) F7 (W := 0) (own_rm46 l Z a0 hw [] m0 o0 o7 o1 h6 n0 Z5 O3 F1f F0c F1g N03 (Ne.symm N0j) F7 N7 F0d) [] [] hml (lenOf own_pd25 rfl) (hb hby dd36_52) fun T09 h03 v5 L5 X0l e02 q5 => ?_
 obtain ⟨rfl, N0I, K3, F1h, F1i, F1j, F1k, F1l⟩ := q5
 have N0J := Fr.app N0H N0I
 have z6 := K3.1
 have F0e := ((F0a.keep K1).keep K2).keep K3
 refine own_cY X0l hx hZ hown (hw 31) e02 (Ins.self F0e) (hb hby dd36_57) fun T0a X02 e03 => ?_
 refine oAS X02 hx hby dd36_60 rfl (l' := #[rv o1, rv o2, rv o0, rv o3, rv o1, .unset, .unset]) rfl ?_
 refine oAN X02 hx hby dd36_62 rfl rfl ?_
 have F1m := F1c.keep K3 (ninS (Ne.symm N1) (ninS (Ne.symm N0) nin0))
 have F1n := F1a.keep K3 (ninS (Ne.symm N1) (ninS (Ne.symm N0) nin0))
 have F1o := F1e.keep K3 (ninS N05 (ninS N2 nin0))
 have F0f := F1d.keep K3
 have F1p := F1b.keep K3 (ninS (Ne.symm N1) (ninS (Ne.symm N0) nin0))
 have O01 : Old Z n0 h03 := O3.keep K3 (allS N03 (allS N7 all0))
 have Z6 : n0 ≤ h03.size := by omega
 refine own_cI X02 hx hZ hown e03 (y := mN59) (z := mN52) (b := o3) (hw 426) (hw 427) (hw 428) rfl (hw 429) (hw 430) (hw 431) (hw 432) (hw 404) (hw 388) (hw 433) (by decide) F0f (W := 0) (own_rm46 l Z a0 hw [] m1 o3 o8 o2 h03 n0 Z6 O01 F1m F1n F1o N04 (Ne.symm N0k) F0f N8 F1p) [] [] hml (lenOf own_pd25 rfl) (hb hby dd36_63) fun T0b h1 v6 L6 X0m e04 q6 => ?_
 obtain ⟨rfl, N0K, K4, F1q, F1r, F1s, F1t, F1u⟩ := q6
 have N0w := Fr.app N0J N0K
 have z7 := K4.1
 have F1v := ((F6.keep K2).keep K3).keep K4
 refine own_cY X0m hx hZ hown (hw 31) e04 (Ins.self F1v) (hb hby dd36_68) fun T2 X1 e05 => ?_
 refine oAS X1 hx hby dd36_71 rfl (l' := #[rv o1, rv o2, rv o0, rv o3, rv o1, rv o2, .unset]) rfl ?_
 refine oAL X1 hx hby dd36_73 rfl rfl ?_
 show own_G p e below (T2.setTop (mkF m 75 #[rv o1, rv o2, rv o0, rv o3, rv o1, rv o2, .unset] [(.ref o1)])) _
 refine oAL X1 hx hby dd36_75 rfl rfl ?_
 refine oS (fun _ => XT.acmpYes X1.here hx rfl (pc0 := 77) (pc' := 83) rfl (hb hby dd36_77) rfl rfl rfl (XT.aa_ne_t (own_rne I2)) (by decide) (by decide)) ?_
 refine oAL X1 hx hby dd36_83 rfl rfl ?_
 refine oAL X1 hx hby dd36_85 rfl rfl ?_
 have N3 : @Ne Nat o1 o0 := by omega
 have N4 : @Ne Nat o1 o3 := by omega
 have N9 : @Ne Nat o1 o7 := by omega
 have N00 : @Ne Nat o1 o8 := by omega
 have F1w := (((((Fld.ext E0 ((Fld.ext E1 I3).keep K5 (ninS N3 nin0))).keep K0 (ninS N4 nin0)).keep K1 (ninS N3 (ninS N9 nin0))).keep K2 (ninS N4 (ninS N00 nin0))).keep K3 (ninS N9 (ninS N3 nin0))).keep K4 (ninS N00 (ninS N4 nin0))
 have N5 : @Ne Nat o2 o0 := by omega
 have N6 : @Ne Nat o2 o3 := by omega
 have N01 : @Ne Nat o2 o7 := by omega
 have N02 : @Ne Nat o2 o8 := by omega
 have F1x := (((((Fld.ext E0 ((Fld.ext E1 I4).keep K5 (ninS N5 nin0))).keep K0 (ninS N6 nin0)).keep K1 (ninS N5 (ninS N01 nin0))).keep K2 (ninS N6 (ninS N02 nin0))).keep K3 (ninS N01 (ninS N5 nin0))).keep K4 (ninS N02 (ninS N6 nin0))
 have F1y := (((((Fld.ext E0 ((Fld.ext E1 I5).keep K5 (ninS N3 nin0))).keep K0 (ninS N4 nin0)).keep K1 (ninS N3 (ninS N9 nin0))).keep K2 (ninS N4 (ninS N00 nin0))).keep K3 (ninS N9 (ninS N3 nin0))).keep K4 (ninS N00 (ninS N4 nin0))
 have F1z := (((((Fld.ext E0 ((Fld.ext E1 I6).keep K5 (ninS N5 nin0))).keep K0 (ninS N6 nin0)).keep K1 (ninS N5 (ninS N01 nin0))).keep K2 (ninS N6 (ninS N02 nin0))).keep K3 (ninS N01 (ninS N5 nin0))).keep K4 (ninS N02 (ninS N6 nin0))
 have F1A := (((((Fld.ext E0 ((Fld.ext E1 I7).keep K5 (ninS N3 nin0))).keep K0 (ninS N4 nin0)).keep K1 (ninS N3 (ninS N9 nin0))).keep K2 (ninS N4 (ninS N00 nin0))).keep K3 (ninS N9 (ninS N3 nin0))).keep K4 (ninS N00 (ninS N4 nin0))
 have F1B := (((((Fld.ext E0 ((Fld.ext E1 I8).keep K5 (ninS N5 nin0))).keep K0 (ninS N6 nin0)).keep K1 (ninS N5 (ninS N01 nin0))).keep K2 (ninS N6 (ninS N02 nin0))).keep K3 (ninS N01 (ninS N5 nin0))).keep K4 (ninS N02 (ninS N6 nin0))
 have F1C := (((((Fld.ext E0 ((Fld.ext E1 I9).keep K5 (ninS N3 nin0))).keep K0 (ninS N4 nin0)).keep K1 (ninS N3 (ninS N9 nin0))).keep K2 (ninS N4 (ninS N00 nin0))).keep K3 (ninS N9 (ninS N3 nin0))).keep K4 (ninS N00 (ninS N4 nin0))
 have F1D := (((((Fld.ext E0 ((Fld.ext E1 I00).keep K5 (ninS N5 nin0))).keep K0 (ninS N6 nin0)).keep K1 (ninS N5 (ninS N01 nin0))).keep K2 (ninS N6 (ninS N02 nin0))).keep K3 (ninS N01 (ninS N5 nin0))).keep K4 (ninS N02 (ninS N6 nin0))
 have F1E := (((((Fld.ext E0 ((Fld.ext E1 I01).keep K5 (ninS N3 nin0))).keep K0 (ninS N4 nin0)).keep K1 (ninS N3 (ninS N9 nin0))).keep K2 (ninS N4 (ninS N00 nin0))).keep K3 (ninS N9 (ninS N3 nin0))).keep K4 (ninS N00 (ninS N4 nin0))
 have F1F := (((((Fld.ext E0 ((Fld.ext E1 I02).keep K5 (ninS N5 nin0))).keep K0 (ninS N6 nin0)).keep K1 (ninS N5 (ninS N01 nin0))).keep K2 (ninS N6 (ninS N02 nin0))).keep K3 (ninS N01 (ninS N5 nin0))).keep K4 (ninS N02 (ninS N6 nin0))
 have F0 := (((((Fld.ext E0 ((Fld.ext E1 I03).keep K5 (ninS N3 nin0))).keep K0 (ninS N4 nin0)).keep K1 (ninS N3 (ninS N9 nin0))).keep K2 (ninS N4 (ninS N00 nin0))).keep K3 (ninS N9 (ninS N3 nin0))).keep K4 (ninS N00 (ninS N4 nin0))
 have N07 : @Ne Nat o6 o0 := by omega
 have N08 : @Ne Nat o6 o3 := by omega
 have N0e : @Ne Nat o6 o7 := by omega
 have N0f : @Ne Nat o6 o8 := by omega
 have F8 := (((((Fld.ext E0 ((Fld.ext E1 I04).keep K5 (ninS N07 nin0))).keep K0 (ninS N08 nin0)).keep K1 (ninS N07 (ninS N0e nin0))).keep K2 (ninS N08 (ninS N0f nin0))).keep K3 (ninS N0e (ninS N07 nin0))).keep K4 (ninS N0f (ninS N08 nin0))
 have N09 : @Ne Nat o9 o0 := by omega
 have N0a : @Ne Nat o9 o3 := by omega
 have N0g : @Ne Nat o9 o7 := by omega
 have N0h : @Ne Nat o9 o8 := by omega
 have F1 := (((((Fld.ext E0 ((Fld.ext E1 I05).keep K5 (ninS N09 nin0))).keep K0 (ninS N0a nin0)).keep K1 (ninS N09 (ninS N0g nin0))).keep K2 (ninS N0a (ninS N0h nin0))).keep K3 (ninS N0g (ninS N09 nin0))).keep K4 (ninS N0h (ninS N0a nin0))
 have F2 := (((((Exa.ext E0 ((Exa.ext E1 I06).keep K5)).keep K0).keep K1).keep K2).keep K3).keep K4
 have F3 := (((((Exa.ext E0 ((Exa.ext E1 I07).keep K5)).keep K0).keep K1).keep K2).keep K3).keep K4
 have F0g := (((((Fld.ext E0 ((Fld.ext E1 I08).keep K5 (ninS N5 nin0))).keep K0 (ninS N6 nin0)).keep K1 (ninS N5 (ninS N01 nin0))).keep K2 (ninS N6 (ninS N02 nin0))).keep K3 (ninS N01 (ninS N5 nin0))).keep K4 (ninS N02 (ninS N6 nin0))
 have N0b : @Ne Nat o00 o0 := by omega
 have N0i : @Ne Nat o00 o3 := by omega
 have N0l : @Ne Nat o00 o7 := by omega
 have N0n : @Ne Nat o00 o8 := by omega
 have F1G := (((((Fld.ext E0 ((Fld.ext E1 I09).keep K5 (ninS N0b nin0))).keep K0 (ninS N0i nin0)).keep K1 (ninS N0b (ninS N0l nin0))).keep K2 (ninS N0i (ninS N0n nin0))).keep K3 (ninS N0l (ninS N0b nin0))).keep K4 (ninS N0n (ninS N0i nin0))
 have N06 : @Ne Nat o01 o0 := by omega
 have N0c : @Ne Nat o01 o3 := by omega
 have N0d : @Ne Nat o01 o7 := by omega
 have N0m : @Ne Nat o01 o8 := by omega
 have F0h := (((((Fld.ext E0 ((Fld.ext E1 I0a).keep K5 (ninS N06 nin0))).keep K0 (ninS N0c nin0)).keep K1 (ninS N06 (ninS N0d nin0))).keep K2 (ninS N0c (ninS N0m nin0))).keep K3 (ninS N0d (ninS N06 nin0))).keep K4 (ninS N0m (ninS N0c nin0))
 have F0i := (((((Exa.ext E0 ((Exa.ext E1 I0b).keep K5)).keep K0).keep K1).keep K2).keep K3).keep K4
 have F0j := (((((Exa.ext E0 ((Exa.ext E1 I0c).keep K5)).keep K0).keep K1).keep K2).keep K3).keep K4
 have O0 : Old Z n0 h1 := O01.keep K4 (allS N04 (allS N8 all0))
 have Z7 : n0 ≤ h1.size := by omega
 have F1H := F0e.keep K4
 refine own_cP X1 hx hZ hown e05 (y := mN54) (b := o1) (hw 450) (hw 451) (own_selP (hw 451) (hw 452) (hw 308) rfl (by decide)) (hw 452) (hw 29) (hw 453) (by decide) F1H (W := 0) (own_rm120 l Z a0 hw [] i0 i1 i2 i6 i7 i8 i9 i00 i01 i3 i4 i5 o1 o2 o6 o9 o00 o01 h1 n0 Z7 O0 F1w F1x F1y F1z F1A F1B F1C F1D F1E F1F F0 F8 F1 F2 F3 F0g F1G F0h F0i F0j) [(.ref o2)] [] hml (lenOf own_pd27 rfl) (hb hby dd36_87) fun T3 h08 v7 L7 X0 e0 q7 => ?_
 rcases q7 with ⟨b0, b1, b2, b3, rfl, N0L, K05⟩ | ⟨b4, rfl, N0M, K06⟩
 ·skip
  have N0N := Fr.app N0w N0L
  have e06 := e0.trans K05
  refine oY0 X0 hx hby (pc' := 95) dd36_90 (XT.i0_ne_t (by decide)) ?_
  refine oIC X0 hx hby dd36_95 ?_
  refine oIS X0 hx hby dd36_96 (l' := #[rv o1, rv o2, rv o0, rv o3, rv o1, rv o2, iv 0]) rfl ?_
  refine oIL X0 hx hby dd36_98 rfl ?_
  refine oAL X0 hx hby dd36_100 rfl rfl ?_
  show own_G p e below (T3.setTop (mkF m 102 #[rv o1, rv o2, rv o0, rv o3, rv o1, rv o2, iv 0] [(.ref o1), (.int 0)])) _
  refine own_gF X0 hx hZ hown (hw 51) e06 F0 (hb hby dd36_102) fun T0c X0n e07 => ?_
  have Z8 : n0 ≤ h1.size := by omega
  refine own_cI X0n hx hZ hown e07 (y := mN55) (z := mN41) (b := o6) (hw 457) (hw 339) (hw 340) rfl (hw 341) (hw 342) (hw 343) (hw 344) (hw 229) (hw 218) (hw 345) (by decide) F3 (W := 1) (own_rm107 l Z a0 hw [] o6 o9 h1 n0 Z8 O0 F8 F1 F2) [] [(.int 0)] hml (lenOf own_pd7 rfl) (hb hby dd36_105) fun T0d h09 v8 L8 X7 e08 q8 => ?_
  obtain ⟨rfl, N0O, K07⟩ := q8
  have N0P := Fr.app N0N N0O
  have e09 := e08.trans K07
  refine oNI X7 hx hby dd36_110 (XT.ii_ge_f (by decide)) ?_
  refine oAN X7 hx hby dd36_113 rfl rfl ?_
  refine oAL X7 hx hby dd36_114 rfl rfl ?_
  refine own_gF X7 hx hZ hown (hw 51) e09 F0 (hb hby dd36_116) fun T0e X0g e0a => ?_
  refine oIL X0g hx hby dd36_119 rfl ?_
  have F0k := (((((Fld.ext E0 ((Fld.ext E1 I0d).keep K5 (ninS N07 nin0))).keep K0 (ninS N08 nin0)).keep K1 (ninS N07 (ninS N0e nin0))).keep K2 (ninS N08 (ninS N0f nin0))).keep K3 (ninS N0e (ninS N07 nin0))).keep K4 (ninS N0f (ninS N08 nin0))
  have F0l := (((((Fld.ext E0 ((Fld.ext E1 I0e).keep K5 (ninS N09 nin0))).keep K0 (ninS N0a nin0)).keep K1 (ninS N09 (ninS N0g nin0))).keep K2 (ninS N0a (ninS N0h nin0))).keep K3 (ninS N0g (ninS N09 nin0))).keep K4 (ninS N0h (ninS N0a nin0))
  have N0p : @Ne Nat o02 o0 := by omega
  have N0q : @Ne Nat o02 o3 := by omega
  have N0t : @Ne Nat o02 o7 := by omega
  have N0u : @Ne Nat o02 o8 := by omega
  have F0m := (((((((I0f.ext E1).keep K5 (ninS N0p nin0)).ext E0).keep K0 (ninS N0q nin0)).keep K1 (ninS N0p (ninS N0t nin0))).keep K2 (ninS N0q (ninS N0u nin0))).keep K3 (ninS N0t (ninS N0p nin0))).keep K4 (ninS N0u (ninS N0q nin0))
  have Z9 : n0 ≤ h1.size := by omega
  refine own_cI X0g hx hZ hown e0a (y := mN76) (z := mN75) (b := o6) (hw 458) (hw 355) (hw 356) rfl (hw 357) (hw 358) (hw 359) (hw 360) (hw 229) (hw 212) (hw 361) (by decide) F3 (W := 1) (own_rm109 l Z a0 hw [] m2 o6 o9 o02 o4 o5 h1 n0 Z9 O0 F0k F1 F0l F0m F2) [(.int 0)] [(.ref o0)] hml (lenOf own_pd33 rfl) (hb hby dd36_121) fun T0f h0a v9 L9 X0o e0b q9 => ?_
  obtain ⟨rfl, N0Q, K08⟩ := q9
  have N0R := Fr.app N0P N0Q
  have e0c := e0b.trans K08
  have F9 := (((((Exa.ext E0 ((Exa.ext E1 I0g).keep K5)).keep K0).keep K1).keep K2).keep K3).keep K4
  refine own_cY X0o hx hZ hown (hw 304) e0c (Ins.of_exa F9 (hw 305)) (hb hby dd36_126) fun T0g X0p e0d => ?_
  have F1I := F1k.keep K4 (ninS (Ne.symm N2) (ninS N0 nin0))
  have F1J := F1i.keep K4 (ninS (Ne.symm N2) (ninS N0 nin0))
  have F1K := F1h.keep K4 (ninS (Ne.symm N05) (ninS N1 nin0))
  have F0n := F1j.keep K4
  have F1L := F1l.keep K4 (ninS (Ne.symm N2) (ninS N0 nin0))
  have Z00 : n0 ≤ h1.size := by omega
  refine own_cI X0p hx hZ hown e0d (y := mN57) (z := mN46) (b := o0) (hw 397) (hw 398) (hw 399) rfl (hw 400) (hw 401) (hw 402) (hw 403) (hw 404) (hw 388) (hw 405) (by decide) F0n (W := 0) (own_rm42 l Z a0 hw [] m0 o0 o4 o7 h1 n0 Z00 O0 F1I F1J F1K F0n N7 N0j F4 F9 N03 F1L) [(.ref o4)] [] hml (lenOf own_pd23 rfl) (hb hby dd36_129) fun T4 h7 v00 L00 X03 e0e q00 => ?_
  obtain ⟨rfl, N0S, K6, F1M, F1N, F1O, F1P, F1Q⟩ := q00
  have N0T := Fr.app N0R N0S
  have z8 := K6.1
  show own_G p e below (T4.setTop (mkF m 134 #[rv o1, rv o2, rv o0, rv o3, rv o1, rv o2, iv 0] [])) _
  refine oAN X03 hx hby dd36_134 rfl rfl ?_
  refine oAL X03 hx hby dd36_135 rfl rfl ?_
  have F0o := F0g.keep K6 (ninS N5 (ninS N01 nin0))
  refine own_gF X03 hx hZ hown (hw 51) e0e F0o (hb hby dd36_137) fun T0h X0h e0f => ?_
  refine oIL X0h hx hby dd36_140 rfl ?_
  have F0p := ((((((Fld.ext E0 ((Fld.ext E1 I0h).keep K5 (ninS N0b nin0))).keep K0 (ninS N0i nin0)).keep K1 (ninS N0b (ninS N0l nin0))).keep K2 (ninS N0i (ninS N0n nin0))).keep K3 (ninS N0l (ninS N0b nin0))).keep K4 (ninS N0n (ninS N0i nin0))).keep K6 (ninS N0b (ninS N0l nin0))
  have F0q := F0h.keep K6 (ninS N06 (ninS N0d nin0))
  have F0r := ((((((Fld.ext E0 ((Fld.ext E1 I0i).keep K5 (ninS N06 nin0))).keep K0 (ninS N0c nin0)).keep K1 (ninS N06 (ninS N0d nin0))).keep K2 (ninS N0c (ninS N0m nin0))).keep K3 (ninS N0d (ninS N06 nin0))).keep K4 (ninS N0m (ninS N0c nin0))).keep K6 (ninS N06 (ninS N0d nin0))
  have N0o : @Ne Nat o03 o0 := by omega
  have N0r : @Ne Nat o03 o3 := by omega
  have N0s : @Ne Nat o03 o7 := by omega
  have N0v : @Ne Nat o03 o8 := by omega
  have F0s := ((((((((I0j.ext E1).keep K5 (ninS N0o nin0)).ext E0).keep K0 (ninS N0r nin0)).keep K1 (ninS N0o (ninS N0s nin0))).keep K2 (ninS N0r (ninS N0v nin0))).keep K3 (ninS N0s (ninS N0o nin0))).keep K4 (ninS N0v (ninS N0r nin0))).keep K6 (ninS N0o (ninS N0s nin0))
  have F0t := F0i.keep K6
  have O4 : Old Z n0 h7 := O0.keep K6 (allS N7 (allS N03 all0))
  have Z01 : n0 ≤ h7.size := by omega
  have F0u := F0j.keep K6
  refine own_cI X0h hx hZ hown e0f (y := mN76) (z := mN75) (b := o00) (hw 458) (hw 355) (hw 356) rfl (hw 357) (hw 358) (hw 359) (hw 360) (hw 229) (hw 212) (hw 361) (by decide) F0u (W := 1) (own_rm109 l Z a0 hw [] m3 o00 o01 o03 o4 o5 h7 n0 Z01 O4 F0p F0q F0r F0s F0t) [(.int 0)] [(.ref o3)] hml (lenOf own_pd33 rfl) (hb hby dd36_142) fun T0i h0b v01 L01 X0q e0g q01 => ?_
  obtain ⟨rfl, N0U, K09⟩ := q01
  have N0V := Fr.app N0T N0U
  have e0h := e0g.trans K09
  have F00 := F9.keep K6
  refine own_cY X0q hx hZ hown (hw 304) e0h (Ins.of_exa F00 (hw 305)) (hb hby dd36_147) fun T0j X0r e0i => ?_
  have F1R := F1t.keep K6 (ninS (Ne.symm N0) (ninS (Ne.symm N1) nin0))
  have F1S := F1r.keep K6 (ninS (Ne.symm N0) (ninS (Ne.symm N1) nin0))
  have F1T := F1q.keep K6 (ninS N2 (ninS N05 nin0))
  have F0v := F1s.keep K6
  have F1U := F1u.keep K6 (ninS (Ne.symm N0) (ninS (Ne.symm N1) nin0))
  have Z02 : n0 ≤ h7.size := by omega
  refine own_cI X0r hx hZ hown e0i (y := mN57) (z := mN46) (b := o3) (hw 397) (hw 398) (hw 399) rfl (hw 400) (hw 401) (hw 402) (hw 403) (hw 404) (hw 388) (hw 405) (by decide) F0v (W := 0) (own_rm42 l Z a0 hw [] m1 o3 o4 o8 h7 n0 Z02 O4 F1R F1S F1T F0v N8 N0k F5 F00 N04 F1U) [(.ref o4)] [] hml (lenOf own_pd23 rfl) (hb hby dd36_150) fun T5 h4 v02 L02 X4 e0j q02 => ?_
  obtain ⟨rfl, N0W, K7, F1V, F1W, F1X, F1Y, F1Z⟩ := q02
  have N0X := Fr.app N0V N0W
  have z9 := K7.1
  refine oS (fun _ => XS.iinc X4.here hx rfl (hb hby dd36_155) rfl (l' := #[rv o1, rv o2, rv o0, rv o3, rv o1, rv o2, iv 1]) rfl) ?_
  refine oGO X4 hx hby (pc' := 98) dd36_158 ?_
  refine oIL X4 hx hby dd36_98 rfl ?_
  show own_G p e below (T5.setTop (mkF m 100 #[rv o1, rv o2, rv o0, rv o3, rv o1, rv o2, iv 1] [(.int 1)])) _
  refine oAL X4 hx hby dd36_100 rfl rfl ?_
  have F01 := (F0.keep K6 (ninS N3 (ninS N9 nin0))).keep K7 (ninS N4 (ninS N00 nin0))
  refine own_gF X4 hx hZ hown (hw 51) e0j F01 (hb hby dd36_102) fun T0k X0s e0k => ?_
  have F0w := (F8.keep K6 (ninS N07 (ninS N0e nin0))).keep K7 (ninS N08 (ninS N0f nin0))
  have F02 := (F1.keep K6 (ninS N09 (ninS N0g nin0))).keep K7 (ninS N0a (ninS N0h nin0))
  have F03 := (F2.keep K6).keep K7
  have O1 : Old Z n0 h4 := O4.keep K7 (allS N8 (allS N04 all0))
  have Z03 : n0 ≤ h4.size := by omega
  have F04 := (F3.keep K6).keep K7
  refine own_cI X0s hx hZ hown e0k (y := mN55) (z := mN41) (b := o6) (hw 457) (hw 339) (hw 340) rfl (hw 341) (hw 342) (hw 343) (hw 344) (hw 229) (hw 218) (hw 345) (by decide) F04 (W := 1) (own_rm107 l Z a0 hw [] o6 o9 h4 n0 Z03 O1 F0w F02 F03) [] [(.int 1)] hml (lenOf own_pd7 rfl) (hb hby dd36_105) fun T0l h0c v03 L03 X8 e0l q03 => ?_
  obtain ⟨rfl, N0Y, K0a⟩ := q03
  have N0Z := Fr.app N0X N0Y
  have e0m := e0l.trans K0a
  refine oNI X8 hx hby dd36_110 (XT.ii_ge_f (by decide)) ?_
  refine oAN X8 hx hby dd36_113 rfl rfl ?_
  refine oAL X8 hx hby dd36_114 rfl rfl ?_
  refine own_gF X8 hx hZ hown (hw 51) e0m F01 (hb hby dd36_116) fun T0m X0i e0n => ?_
  refine oIL X0i hx hby dd36_119 rfl ?_
  have F20 := (F0k.keep K6 (ninS N07 (ninS N0e nin0))).keep K7 (ninS N08 (ninS N0f nin0))
  have F21 := (F0l.keep K6 (ninS N09 (ninS N0g nin0))).keep K7 (ninS N0a (ninS N0h nin0))
  have F22 := (F0m.keep K6 (ninS N0p (ninS N0t nin0))).keep K7 (ninS N0q (ninS N0u nin0))
  have Z04 : n0 ≤ h4.size := by omega
  refine own_cI X0i hx hZ hown e0n (y := mN76) (z := mN75) (b := o6) (hw 458) (hw 355) (hw 356) rfl (hw 357) (hw 358) (hw 359) (hw 360) (hw 229) (hw 212) (hw 361) (by decide) F04 (W := 1) (own_rm114 l Z a0 hw [] m2 o6 o9 o02 o4 o5 h4 n0 Z04 O1 F20 F02 F21 F22 F03) [(.int 1)] [(.ref o0)] hml (lenOf own_pd33 rfl) (hb hby dd36_121) fun T0n h0d v04 L04 X0t e0o q04 => ?_
  obtain ⟨rfl, N10, K0b⟩ := q04
  have N11 := Fr.app N0Z N10
  have e0p := e0o.trans K0b
  have F05 := (((((((Exa.ext E0 ((Exa.ext E1 I0k).keep K5)).keep K0).keep K1).keep K2).keep K3).keep K4).keep K6).keep K7
  refine own_cY X0t hx hZ hown (hw 304) e0p (Ins.of_exa F05 (hw 305)) (hb hby dd36_126) fun T6 X0u e0q => ?_
  show own_G p e below (T6.setTop (mkF m 129 #[rv o1, rv o2, rv o0, rv o3, rv o1, rv o2, iv 1] [(.ref o5), (.ref o0)])) _
  have F23 := F1O.keep K7 (ninS N0 (ninS (Ne.symm N2) nin0))
  have F24 := F1M.keep K7 (ninS N0 (ninS (Ne.symm N2) nin0))
  have F25 := F1Q.keep K7 (ninS N1 (ninS (Ne.symm N05) nin0))
  have F0x := F1P.keep K7
  have F26 := F1N.keep K7 (ninS N0 (ninS (Ne.symm N2) nin0))
  have Z05 : n0 ≤ h4.size := by omega
  refine own_cI X0u hx hZ hown e0q (y := mN57) (z := mN46) (b := o0) (hw 397) (hw 398) (hw 399) rfl (hw 400) (hw 401) (hw 402) (hw 403) (hw 404) (hw 388) (hw 405) (by decide) F0x (W := 0) (own_rm121 l Z a0 hw [] m0 o0 o5 o7 o4 h4 n0 Z05 O1 F23 F24 F25 F0x N7 N0j F4 F05 N03 F26) [(.ref o5)] [] hml (lenOf own_pd23 rfl) (hb hby dd36_129) fun T0o h8 v05 L05 X04 e0r q05 => ?_
  obtain ⟨rfl, N12, K8, F27, F28, F29, F2a, F2b⟩ := q05
  have N13 := Fr.app N11 N12
  have z00 := K8.1
  refine oAN X04 hx hby dd36_134 rfl rfl ?_
  refine oAL X04 hx hby dd36_135 rfl rfl ?_
  have F2c := (F0o.keep K7 (ninS N6 (ninS N02 nin0))).keep K8 (ninS N5 (ninS N01 nin0))
  refine own_gF X04 hx hZ hown (hw 51) e0r F2c (hb hby dd36_137) fun T0p X0j e0s => ?_
  refine oIL X0j hx hby dd36_140 rfl ?_
  have F2d := (F0p.keep K7 (ninS N0i (ninS N0n nin0))).keep K8 (ninS N0b (ninS N0l nin0))
  have F2e := (F0q.keep K7 (ninS N0c (ninS N0m nin0))).keep K8 (ninS N06 (ninS N0d nin0))
  have F2f := (F0r.keep K7 (ninS N0c (ninS N0m nin0))).keep K8 (ninS N06 (ninS N0d nin0))
  have F2g := (F0s.keep K7 (ninS N0r (ninS N0v nin0))).keep K8 (ninS N0o (ninS N0s nin0))
  have F2h := (F0t.keep K7).keep K8
  have O5 : Old Z n0 h8 := O1.keep K8 (allS N7 (allS N03 all0))
  have Z06 : n0 ≤ h8.size := by omega
  have F2i := (F0u.keep K7).keep K8
  refine own_cI X0j hx hZ hown e0s (y := mN76) (z := mN75) (b := o00) (hw 458) (hw 355) (hw 356) rfl (hw 357) (hw 358) (hw 359) (hw 360) (hw 229) (hw 212) (hw 361) (by decide) F2i (W := 1) (own_rm114 l Z a0 hw [] m3 o00 o01 o03 o4 o5 h8 n0 Z06 O5 F2d F2e F2f F2g F2h) [(.int 1)] [(.ref o3)] hml (lenOf own_pd33 rfl) (hb hby dd36_142) fun T0q h0e v06 L06 X0v e0t q06 => ?_
  obtain ⟨rfl, N14, K0c⟩ := q06
  have N15 := Fr.app N13 N14
  have e0u := e0t.trans K0c
  have F06 := F05.keep K8
  refine own_cY X0v hx hZ hown (hw 304) e0u (Ins.of_exa F06 (hw 305)) (hb hby dd36_147) fun T0r X0w e0v => ?_
  have F2j := F1X.keep K8 (ninS (Ne.symm N0) (ninS (Ne.symm N1) nin0))
  have F2k := F1V.keep K8 (ninS (Ne.symm N0) (ninS (Ne.symm N1) nin0))
  have F2l := F1Z.keep K8 (ninS N2 (ninS N05 nin0))
  have F0y := F1Y.keep K8
  have F2m := F1W.keep K8 (ninS (Ne.symm N0) (ninS (Ne.symm N1) nin0))
  have Z07 : n0 ≤ h8.size := by omega
  refine own_cI X0w hx hZ hown e0v (y := mN57) (z := mN46) (b := o3) (hw 397) (hw 398) (hw 399) rfl (hw 400) (hw 401) (hw 402) (hw 403) (hw 404) (hw 388) (hw 405) (by decide) F0y (W := 0) (own_rm121 l Z a0 hw [] m1 o3 o5 o8 o4 h8 n0 Z07 O5 F2j F2k F2l F0y N8 N0k F5 F06 N04 F2m) [(.ref o5)] [] hml (lenOf own_pd23 rfl) (hb hby dd36_150) fun T7 h5 v07 L07 X5 e0w q07 => ?_
  obtain ⟨rfl, N16, K9, F2n, F2o, F2p, F2q, F2r⟩ := q07
  have N17 := Fr.app N15 N16
  have z01 := K9.1
  refine oS (fun _ => XS.iinc X5.here hx rfl (hb hby dd36_155) rfl (l' := #[rv o1, rv o2, rv o0, rv o3, rv o1, rv o2, iv 2]) rfl) ?_
  refine oGO X5 hx hby (pc' := 98) dd36_158 ?_
  show own_G p e below (T7.setTop (mkF m 98 #[rv o1, rv o2, rv o0, rv o3, rv o1, rv o2, iv 2] [])) _
  refine oIL X5 hx hby dd36_98 rfl ?_
  refine oAL X5 hx hby dd36_100 rfl rfl ?_
  have F2s := (F01.keep K8 (ninS N3 (ninS N9 nin0))).keep K9 (ninS N4 (ninS N00 nin0))
  refine own_gF X5 hx hZ hown (hw 51) e0w F2s (hb hby dd36_102) fun T0s X0x e0x => ?_
  have F2t := (F0w.keep K8 (ninS N07 (ninS N0e nin0))).keep K9 (ninS N08 (ninS N0f nin0))
  have F2u := (F02.keep K8 (ninS N09 (ninS N0g nin0))).keep K9 (ninS N0a (ninS N0h nin0))
  have F2v := (F03.keep K8).keep K9
  have O2 : Old Z n0 h5 := O5.keep K9 (allS N8 (allS N04 all0))
  have Z08 : n0 ≤ h5.size := by omega
  have F2w := (F04.keep K8).keep K9
  refine own_cI X0x hx hZ hown e0x (y := mN55) (z := mN41) (b := o6) (hw 457) (hw 339) (hw 340) rfl (hw 341) (hw 342) (hw 343) (hw 344) (hw 229) (hw 218) (hw 345) (by decide) F2w (W := 1) (own_rm107 l Z a0 hw [] o6 o9 h5 n0 Z08 O2 F2t F2u F2v) [] [(.int 2)] hml (lenOf own_pd7 rfl) (hb hby dd36_105) fun T0t h0f v08 L08 X9 e0y q08 => ?_
  obtain ⟨rfl, N18, K0d⟩ := q08
  have N19 := Fr.app N17 N18
  have e0z := e0y.trans K0d
  refine oYI X9 hx hby (pc' := 161) dd36_110 (XT.ii_ge_t (by decide)) ?_
  refine oGO X9 hx hby (pc' := 42) dd36_161 ?_
  refine oAN X9 hx hby dd36_42 rfl rfl ?_
  have F0z := F27.keep K9 (ninS N0 (ninS (Ne.symm N2) nin0))
  have F0A := F28.keep K9 (ninS N0 (ninS (Ne.symm N2) nin0))
  have Z09 : n0 ≤ h5.size := by omega
  have F07 := F2a.keep K9
  refine own_cIU X9 hx hZ hown e0z (y := mN58) (z := mN47) (J := cN16) (b := o0) (hw 418) (hw 419) (hw 420) (by decide) (by decide) (hw 421) (hw 422) (hw 423) (hw 424) (hw 404) (hw 388) (hw 425) (by decide) F07 (W := 0) (own_rm124 l Z a0 hw [] o0 h5 n0 Z09 O2 F0z F0A) [] [] hml (lenOf own_pd5 rfl) (hb hby dd36_43) fun T8 h0g v09 L09 X05 e0A q09 => ?_
  obtain ⟨rfl, N1a, K0e⟩ := q09
  have N1b := Fr.app N19 N1a
  have e0B := e0A.trans K0e
  refine oN0 X05 hx hby dd36_48 (XT.i0_ne_f (by decide)) ?_
  refine oAN X05 hx hby dd36_51 rfl rfl ?_
  show own_G p e below (T8.setTop (mkF m 52 #[rv o1, rv o2, rv o0, rv o3, rv o1, rv o2, iv 2] [(.ref o0)])) _
  have F2x := F29.keep K9 (ninS N0 (ninS (Ne.symm N2) nin0))
  have F2y := F2b.keep K9 (ninS N1 (ninS (Ne.symm N05) nin0))
  have Z0a : n0 ≤ h5.size := by omega
  refine own_cI X05 hx hZ hown e0B (y := mN59) (z := mN52) (b := o0) (hw 426) (hw 427) (hw 428) rfl (hw 429) (hw 430) (hw 431) (hw 432) (hw 404) (hw 388) (hw 433) (by decide) F07 (W := 0) (own_rm125 l Z a0 hw [] m0 o0 o7 o5 o4 h5 n0 Z0a O2 F2x F0z F2y N03 (Ne.symm N0j) F07 N7 F0A) [] [] hml (lenOf own_pd25 rfl) (hb hby dd36_52) fun T0u h04 v0a L0a X0y e0C q0a => ?_
  obtain ⟨rfl, N1c, K00, F2z, F2A, F2B, F2C, F2D⟩ := q0a
  have N1d := Fr.app N1b N1c
  have z02 := K00.1
  have F0B := (F06.keep K9).keep K00
  refine own_cY X0y hx hZ hown (hw 31) e0C (Ins.self F0B) (hb hby dd36_57) fun T0v X06 e0D => ?_
  refine oAS X06 hx hby dd36_60 rfl (l' := #[rv o1, rv o2, rv o0, rv o3, rv o5, rv o2, iv 2]) rfl ?_
  refine oAN X06 hx hby dd36_62 rfl rfl ?_
  have F2E := F2p.keep K00 (ninS (Ne.symm N1) (ninS (Ne.symm N0) nin0))
  have F2F := F2n.keep K00 (ninS (Ne.symm N1) (ninS (Ne.symm N0) nin0))
  have F2G := F2r.keep K00 (ninS N05 (ninS N2 nin0))
  have F0C := F2q.keep K00
  have F2H := F2o.keep K00 (ninS (Ne.symm N1) (ninS (Ne.symm N0) nin0))
  have O02 : Old Z n0 h04 := O2.keep K00 (allS N03 (allS N7 all0))
  have Z0b : n0 ≤ h04.size := by omega
  refine own_cI X06 hx hZ hown e0D (y := mN59) (z := mN52) (b := o3) (hw 426) (hw 427) (hw 428) rfl (hw 429) (hw 430) (hw 431) (hw 432) (hw 404) (hw 388) (hw 433) (by decide) F0C (W := 0) (own_rm125 l Z a0 hw [] m1 o3 o8 o5 o4 h04 n0 Z0b O02 F2E F2F F2G N04 (Ne.symm N0k) F0C N8 F2H) [] [] hml (lenOf own_pd25 rfl) (hb hby dd36_63) fun T0w h9 v0b L0b X0z e0E q0b => ?_
  obtain ⟨rfl, N1e, K01, F2I, F2J, F2K, F2L, F2M⟩ := q0b
  have N1f := Fr.app N1d N1e
  have z03 := K01.1
  have F2N := F0B.keep K01
  refine own_cY X0z hx hZ hown (hw 31) e0E (Ins.self F2N) (hb hby dd36_68) fun T9 X2 e0F => ?_
  refine oAS X2 hx hby dd36_71 rfl (l' := #[rv o1, rv o2, rv o0, rv o3, rv o5, rv o5, iv 2]) rfl ?_
  refine oAL X2 hx hby dd36_73 rfl rfl ?_
  refine oAL X2 hx hby dd36_75 rfl rfl ?_
  refine oS (fun _ => XT.acmpNo X2.here hx rfl (hb hby dd36_77) rfl rfl rfl (XT.aa_ne_f rfl)) ?_
  show own_G p e below (T9.setTop (mkF m 80 #[rv o1, rv o2, rv o0, rv o3, rv o5, rv o5, iv 2] [])) _
  refine oGO X2 hx hby (pc' := 42) dd36_80 ?_
  refine oAN X2 hx hby dd36_42 rfl rfl ?_
  have F0D := F2A.keep K01 (ninS (Ne.symm N2) (ninS N0 nin0))
  have F0E := F2D.keep K01 (ninS (Ne.symm N2) (ninS N0 nin0))
  have O6 : Old Z n0 h9 := O02.keep K01 (allS N04 (allS N8 all0))
  have Z0c : n0 ≤ h9.size := by omega
  have F08 := F2B.keep K01
  refine own_cIU X2 hx hZ hown e0F (y := mN58) (z := mN47) (J := cN16) (b := o0) (hw 418) (hw 419) (hw 420) (by decide) (by decide) (hw 421) (hw 422) (hw 423) (hw 424) (hw 404) (hw 388) (hw 425) (by decide) F08 (W := 0) (own_rm45 l Z a0 hw [] o0 h9 n0 Z0c O6 F0D F0E) [] [] hml (lenOf own_pd5 rfl) (hb hby dd36_43) fun T0x h0h v0c L0c X07 e0G q0c => ?_
  obtain ⟨rfl, N1g, K0f⟩ := q0c
  have N1h := Fr.app N1f N1g
  have e0H := e0G.trans K0f
  refine oN0 X07 hx hby dd36_48 (XT.i0_ne_f (by decide)) ?_
  refine oAN X07 hx hby dd36_51 rfl rfl ?_
  have F2O := F2C.keep K01 (ninS (Ne.symm N2) (ninS N0 nin0))
  have F2P := F2z.keep K01 (ninS (Ne.symm N05) (ninS N1 nin0))
  have Z0d : n0 ≤ h9.size := by omega
  refine own_cI X07 hx hZ hown e0H (y := mN59) (z := mN52) (b := o0) (hw 426) (hw 427) (hw 428) rfl (hw 429) (hw 430) (hw 431) (hw 432) (hw 404) (hw 388) (hw 433) (by decide) F08 (W := 0) (own_rm46 l Z a0 hw [] m0 o0 o7 o4 h9 n0 Z0d O6 F2O F0D F2P N03 (Ne.symm N0j) F08 N7 F0E) [] [] hml (lenOf own_pd25 rfl) (hb hby dd36_52) fun T0y h05 v0d L0d X0A e0I q0d => ?_
  obtain ⟨rfl, N1i, K02, F35, F2Q, F2R, F36, F2S⟩ := q0d
  have N1j := Fr.app N1h N1i
  have z04 := K02.1
  have F0F := (((((F00.keep K7).keep K8).keep K9).keep K00).keep K01).keep K02
  refine own_cY X0A hx hZ hown (hw 31) e0I (Ins.self F0F) (hb hby dd36_57) fun T0z X08 e0J => ?_
  refine oAS X08 hx hby dd36_60 rfl (l' := #[rv o1, rv o2, rv o0, rv o3, rv o4, rv o5, iv 2]) rfl ?_
  refine oAN X08 hx hby dd36_62 rfl rfl ?_
  have F2T := F2L.keep K02 (ninS (Ne.symm N1) (ninS (Ne.symm N0) nin0))
  have F2U := F2J.keep K02 (ninS (Ne.symm N1) (ninS (Ne.symm N0) nin0))
  have F2V := F2I.keep K02 (ninS N05 (ninS N2 nin0))
  have F0G := F2K.keep K02
  have F2W := F2M.keep K02 (ninS (Ne.symm N1) (ninS (Ne.symm N0) nin0))
  have O03 : Old Z n0 h05 := O6.keep K02 (allS N03 (allS N7 all0))
  have Z0e : n0 ≤ h05.size := by omega
  refine own_cI X08 hx hZ hown e0J (y := mN59) (z := mN52) (b := o3) (hw 426) (hw 427) (hw 428) rfl (hw 429) (hw 430) (hw 431) (hw 432) (hw 404) (hw 388) (hw 433) (by decide) F0G (W := 0) (own_rm46 l Z a0 hw [] m1 o3 o8 o4 h05 n0 Z0e O03 F2T F2U F2V N04 (Ne.symm N0k) F0G N8 F2W) [] [] hml (lenOf own_pd25 rfl) (hb hby dd36_63) fun T00 h00 v0e L0e X0B e0K q0e => ?_
  obtain ⟨rfl, N1k, K03, F37, F38, F39, F3a, F3b⟩ := q0e
  have N1l := Fr.app N1j N1k
  have z05 := K03.1
  show own_G p e below (T00.setTop (mkF m 68 #[rv o1, rv o2, rv o0, rv o3, rv o4, rv o5, iv 2] [(.ref o4)])) _
  have F2X := F0F.keep K03
  refine own_cY X0B hx hZ hown (hw 31) e0K (Ins.self F2X) (hb hby dd36_68) fun T0A X3 e0L => ?_
  refine oAS X3 hx hby dd36_71 rfl (l' := #[rv o1, rv o2, rv o0, rv o3, rv o4, rv o4, iv 2]) rfl ?_
  refine oAL X3 hx hby dd36_73 rfl rfl ?_
  refine oAL X3 hx hby dd36_75 rfl rfl ?_
  refine oS (fun _ => XT.acmpNo X3.here hx rfl (hb hby dd36_77) rfl rfl rfl (XT.aa_ne_f rfl)) ?_
  refine oGO X3 hx hby (pc' := 42) dd36_80 ?_
  refine oAN X3 hx hby dd36_42 rfl rfl ?_
  have F2Y := F2Q.keep K03 (ninS (Ne.symm N2) (ninS N0 nin0))
  have F2Z := F2S.keep K03 (ninS (Ne.symm N2) (ninS N0 nin0))
  have O06 : Old Z n0 h00 := O03.keep K03 (allS N04 (allS N8 all0))
  have Z0f : n0 ≤ h00.size := by omega
  have F30 := F2R.keep K03
  refine own_cIU X3 hx hZ hown e0L (y := mN58) (z := mN47) (J := cN16) (b := o0) (hw 418) (hw 419) (hw 420) (by decide) (by decide) (hw 421) (hw 422) (hw 423) (hw 424) (hw 404) (hw 388) (hw 425) (by decide) F30 (W := 0) (own_rm53 l Z a0 hw [] o0 h00 n0 Z0f O06 F2Y F2Z) [] [] hml (lenOf own_pd5 rfl) (hb hby dd36_43) fun T01 h0i v0f L0f X09 e0M q0f => ?_
  obtain ⟨rfl, N1m, K0g⟩ := q0f
  have N1n := Fr.app N1l N1m
  have e0N := e0M.trans K0g
  refine oY0 X09 hx hby (pc' := 164) dd36_48 (XT.i0_ne_t (by decide)) ?_
  refine oIC X09 hx hby dd36_164 ?_
  show own_G p e below (T01.setTop (mkF m 165 #[rv o1, rv o2, rv o0, rv o3, rv o4, rv o4, iv 2] [(.int 1)])) _
  have K0h : Keep h0 h00 [] := (((((((((((((((((Keep.refl h0 []).ext E1).trans K5 (allS (Or.inr (by omega)) all0)).ext E0).trans K0 (allS (Or.inr (by omega)) all0)).trans K1 (allS (Or.inr (by omega)) (allS (Or.inr (by omega)) all0))).trans K2 (allS (Or.inr (by omega)) (allS (Or.inr (by omega)) all0))).trans K3 (allS (Or.inr (by omega)) (allS (Or.inr (by omega)) all0))).trans K4 (allS (Or.inr (by omega)) (allS (Or.inr (by omega)) all0))).trans K6 (allS (Or.inr (by omega)) (allS (Or.inr (by omega)) all0))).trans K7 (allS (Or.inr (by omega)) (allS (Or.inr (by omega)) all0))).trans K8 (allS (Or.inr (by omega)) (allS (Or.inr (by omega)) all0))).trans K9 (allS (Or.inr (by omega)) (allS (Or.inr (by omega)) all0))).trans K00 (allS (Or.inr (by omega)) (allS (Or.inr (by omega)) all0))).trans K01 (allS (Or.inr (by omega)) (allS (Or.inr (by omega)) all0))).trans K02 (allS (Or.inr (by omega)) (allS (Or.inr (by omega)) all0))).trans K03 (allS (Or.inr (by omega)) (allS (Or.inr (by omega)) all0)))
  exact own_retN X09 hx (t := .boolean) hns hrt (by simp) (hb hby dd36_165) (by decide) e0N (by decide) (by decide) (Or.inl ⟨b0, b1, b2, b3, rfl, N1n, K0h⟩)
 ·skip
  have N1o := Fr.app N0w N0M
  have e0O := e0.trans K06
  refine oN0 X0 hx hby dd36_90 (XT.i0_ne_f (by decide)) ?_
  refine oIC X0 hx hby dd36_93 ?_
  have K0i : Keep h0 h1 [] := (((((((((Keep.refl h0 []).ext E1).trans K5 (allS (Or.inr (by omega)) all0)).ext E0).trans K0 (allS (Or.inr (by omega)) all0)).trans K1 (allS (Or.inr (by omega)) (allS (Or.inr (by omega)) all0))).trans K2 (allS (Or.inr (by omega)) (allS (Or.inr (by omega)) all0))).trans K3 (allS (Or.inr (by omega)) (allS (Or.inr (by omega)) all0))).trans K4 (allS (Or.inr (by omega)) (allS (Or.inr (by omega)) all0)))
  exact own_retN X0 hx (t := .boolean) hns hrt (by simp) (hb hby dd36_94) (by decide) e0O (by decide) (by decide) (Or.inr (⟨b4, rfl, N1o, K0i⟩))
theorem own_rm130 (l : Launch) (Z : State) (a0 : Array Value) (hw : own_W a0 Z) (ws : List Jvm.Cond) (i0 i1 i2 i3 i4 i5 i6 i7 i8 : Int32) (o0 : Nat) (h0 : Heap) (n0 : Nat) (Z0 : n0 ≤ h0.size) (O0 : Old Z n0 h0) (I0 : Fld Z h0 o0 cN7 "hash" "I" (.int (((31 : Int32) * (((31 : Int32) * (((31 : Int32) * (((31 : Int32) * (((31 : Int32) * i0) + 0)) + i1)) + i2)) + (((31 : Int32) * (((31 : Int32) * ((31 : Int32) + ((i3.toInt8.toInt32) &&& 255))) + i4)) + i5))) + (((31 : Int32) * (((31 : Int32) * ((31 : Int32) + ((i6.toInt8.toInt32) &&& 255))) + i7)) + i8)))) :
 own_Met l Z h0 mN60 B0D 1 (Option.some FieldType.int) ws (own_R 0 0 0 0) #[(.ref o0)] (fun v h L => (v = some (.int (((31 : Int32) * (((31 : Int32) * (((31 : Int32) * (((31 : Int32) * (((31 : Int32) * i0) + 0)) + i1)) + i2)) + (((31 : Int32) * (((31 : Int32) * ((31 : Int32) + ((i3.toInt8.toInt32) &&& 255))) + i4)) + i5))) + (((31 : Int32) * (((31 : Int32) * ((31 : Int32) + ((i6.toInt8.toInt32) &&& 255))) + i7)) + i8))) ∧ Fr n0 L ∧ h = h0)) 0 0 := own_go own_pn49 fun p e s m below meth c s₁ hns hrt hnm hml hZ hx hby hown X0 e0 => by
 have N0 := Fr.nil n0
 refine own_cast (own_ef6 m o0) ?_
 refine oAN X0 hx hby dd49_0 rfl rfl ?_
 refine own_gF X0 hx hZ hown (hw 119) e0 I0 (hb hby dd49_1) fun T0 X1 e1 => ?_
 exact own_retI X1 hx hns hrt (hb hby dd49_4) e1 (by decide) (by decide) (⟨rfl, N0, rfl⟩)
theorem own_rm132 (l : Launch) (Z : State) (a0 : Array Value) (hw : own_W a0 Z) (ws : List Jvm.Cond) (i0 i1 i2 i6 i7 i8 i9 i00 i01 i3 i4 i5 : Int32) (o1 o0 o2 o4 o3 o5 : Nat) (h0 : Heap) (n0 : Nat) (Z0 : n0 ≤ h0.size) (O0 : Old Z n0 h0) (I0 : Fld Z h0 o1 cN7 "hash" "I" (.int (((31 : Int32) * (((31 : Int32) * (((31 : Int32) * (((31 : Int32) * (((31 : Int32) * i0) + 0)) + i1)) + i2)) + (((31 : Int32) * (((31 : Int32) * ((31 : Int32) + ((i6.toInt8.toInt32) &&& 255))) + i7)) + i8))) + (((31 : Int32) * (((31 : Int32) * ((31 : Int32) + ((i9.toInt8.toInt32) &&& 255))) + i00)) + i01)))) (I1 : Fld Z h0 o0 cN7 "hash" "I" (.int (((31 : Int32) * (((31 : Int32) * (((31 : Int32) * i3) + 0)) + i4)) + i5))) (I2 : Fld Z h0 o1 cN7 "type" "S" (.int i0)) (I3 : Fld Z h0 o0 cN7 "type" "S" (.int i3)) (I4 : Fld Z h0 o1 cN7 "minOccurs" "I" (.int i1)) (I5 : Fld Z h0 o0 cN7 "minOccurs" "I" (.int i4)) (I6 : Fld Z h0 o1 cN7 "maxOccurs" "I" (.int i2)) (I7 : Fld Z h0 o0 cN7 "maxOccurs" "I" (.int i5)) (I8 : Fld Z h0 o1 cN7 "name" cN8 .null) (I9 : Fld Z h0 o0 cN7 "name" cN8 .null) (I00 : Fld Z h0 o1 cN7 "particles" cN5 (.ref o2)) (I01 : Fld Z h0 o2 cN12 "c" cN13 (.ref o4)) (I02 : Fld Z h0 o4 cN10 "size" "I" (.int 2)) (I03 : Exa Z h0 o4 cN10) (I04 : Exa Z h0 o2 cN14) (I05 : Fld Z h0 o0 cN7 "particles" cN5 (.ref o3)) (I06 : Fld Z h0 o3 cN12 "c" cN13 (.ref o5)) (I07 : Fld Z h0 o5 cN10 "size" "I" (.int 0)) (I08 : Exa Z h0 o5 cN10) (I09 : Exa Z h0 o3 cN14) :
 own_Met l Z h0 mN54 B0B 2 (Option.some FieldType.boolean) ws (own_R 2 0 0 25) #[(.ref o1), (.ref o0)] (fun v h L => (v = some (.int 0) ∧ Fr n0 L ∧ h = h0)) 0 0 := own_go own_pn47 fun p e s m below meth c s₁ hns hrt hnm hml hZ hx hby hown X6 e4 => by
 have N0 := Fr.nil n0
 refine own_cast (own_ef9 m o1 o0) ?_
 refine oAN X6 hx hby dd47_0 rfl rfl ?_
 refine own_gF X6 hx hZ hown (hw 119) e4 I0 (hb hby dd47_1) fun T5 X7 e5 => ?_
 refine oAN X7 hx hby dd47_4 rfl rfl ?_
 refine own_gF X7 hx hZ hown (hw 119) e5 I1 (hb hby dd47_5) fun T0 X0 e0 => ?_
 by_cases b0 : (((31 : Int32) * (((31 : Int32) * (((31 : Int32) * (((31 : Int32) * (((31 : Int32) * i0) + 0)) + i1)) + i2)) + (((31 : Int32) * (((31 : Int32) * ((31 : Int32) + ((i6.toInt8.toInt32) &&& 255))) + i7)) + i8))) + (((31 : Int32) * (((31 : Int32) * ((31 : Int32) + ((i9.toInt8.toInt32) &&& 255))) + i00)) + i01)) = (((31 : Int32) * (((31 : Int32) * (((31 : Int32) * i3) + 0)) + i4)) + i5)
 ·skip
  refine oNI X0 hx hby dd47_8 (XT.ii_ne_f b0) ?_
  show own_G p e below (T0.setTop (mkF m 11 #[rv o1, rv o0] [])) _
  refine oAN X0 hx hby dd47_11 rfl rfl ?_
  refine own_gF X0 hx hZ hown (hw 43) e0 I2 (hb hby dd47_12) fun T6 X8 e6 => ?_
  refine oAN X8 hx hby dd47_15 rfl rfl ?_
  refine own_gF X8 hx hZ hown (hw 43) e6 I3 (hb hby dd47_16) fun T1 X1 e1 => ?_
  by_cases b1 : i0 = i3
  ·skip
   refine oNI X1 hx hby dd47_19 (XT.ii_ne_f b1) ?_
   show own_G p e below (T1.setTop (mkF m 22 #[rv o1, rv o0] [])) _
   refine oAN X1 hx hby dd47_22 rfl rfl ?_
   refine own_gF X1 hx hZ hown (hw 47) e1 I4 (hb hby dd47_23) fun T7 X9 e7 => ?_
   refine oAN X9 hx hby dd47_26 rfl rfl ?_
   refine own_gF X9 hx hZ hown (hw 47) e7 I5 (hb hby dd47_27) fun T2 X2 e2 => ?_
   by_cases b2 : i1 = i4
   ·skip
    refine oNI X2 hx hby dd47_30 (XT.ii_ne_f b2) ?_
    show own_G p e below (T2.setTop (mkF m 33 #[rv o1, rv o0] [])) _
    refine oAN X2 hx hby dd47_33 rfl rfl ?_
    refine own_gF X2 hx hZ hown (hw 49) e2 I6 (hb hby dd47_34) fun T8 X00 e8 => ?_
    refine oAN X00 hx hby dd47_37 rfl rfl ?_
    refine own_gF X00 hx hZ hown (hw 49) e8 I7 (hb hby dd47_38) fun T3 X3 e3 => ?_
    by_cases b3 : i2 = i5
    ·skip
     refine oNI X3 hx hby dd47_41 (XT.ii_ne_f b3) ?_
     show own_G p e below (T3.setTop (mkF m 44 #[rv o1, rv o0] [])) _
     refine oAN X3 hx hby dd47_44 rfl rfl ?_
     refine own_gF X3 hx hZ hown (hw 45) e3 I8 (hb hby dd47_45) fun T9 X01 e9 => ?_
     refine oAN X01 hx hby dd47_48 rfl rfl ?_
     refine own_gF X01 hx hZ hown (hw 45) e9 I9 (hb hby dd47_49) fun T00 X03 e00 => ?_
     refine own_cS X03 hx hZ hown e00 (y := mN53) (hw 454) (hw 455) (hw 55) (hw 456) (by decide) (W := 0) (own_rm52 l Z a0 hw []  h0 n0 Z0 O0 ) [.null, .null] [] hml (lenOf own_pd26 rfl) (hb hby dd47_52) fun T01 h1 v0 L0 X4 e01 q0 => ?_
     obtain ⟨rfl, N1, K0⟩ := q0
     have N2 := Fr.app N0 N1
     have e02 := e01.trans K0
     refine oN0 X4 hx hby dd47_55 (XT.i0_eq_f (by decide)) ?_
     refine oAN X4 hx hby dd47_58 rfl rfl ?_
     refine own_gF X4 hx hZ hown (hw 51) e02 I00 (hb hby dd47_59) fun T02 X04 e03 => ?_
     refine own_cI X04 hx hZ hown e03 (y := mN55) (z := mN41) (b := o2) (hw 457) (hw 339) (hw 340) rfl (hw 341) (hw 342) (hw 343) (hw 344) (hw 229) (hw 218) (hw 345) (by decide) I04 (W := 0) (own_rm107 l Z a0 hw [] o2 o4 h0 n0 Z0 O0 I01 I02 I03) [] [] hml (lenOf own_pd7 rfl) (hb hby dd47_62) fun T4 h2 v1 L1 X02 e04 q1 => ?_
     obtain ⟨rfl, N3, K1⟩ := q1
     have N4 := Fr.app N2 N3
     have e05 := e04.trans K1
     refine oAN X02 hx hby dd47_67 rfl rfl ?_
     show own_G p e below (T4.setTop (mkF m 68 #[rv o1, rv o0] [(.ref o0), (.int 2)])) _
     refine own_gF X02 hx hZ hown (hw 51) e05 I05 (hb hby dd47_68) fun T03 X05 e06 => ?_
     refine own_cI X05 hx hZ hown e06 (y := mN55) (z := mN41) (b := o3) (hw 457) (hw 339) (hw 340) rfl (hw 341) (hw 342) (hw 343) (hw 344) (hw 229) (hw 218) (hw 345) (by decide) I09 (W := 1) (own_rm38 l Z a0 hw [] o3 o5 h0 n0 Z0 O0 I06 I07 I08) [] [(.int 2)] hml (lenOf own_pd7 rfl) (hb hby dd47_71) fun T04 h3 v2 L2 X5 e07 q2 => ?_
     obtain ⟨rfl, N5, K2⟩ := q2
     have N6 := Fr.app N4 N5
     have e08 := e07.trans K2
     refine oYI X5 hx hby (pc' := 83) dd47_76 (XT.ii_ne_t (by decide)) ?_
     refine oIC X5 hx hby dd47_83 ?_
     exact own_retN X5 hx (t := .boolean) hns hrt (by simp) (hb hby dd47_84) (by decide) e08 (by decide) (by decide) (⟨rfl, N6, rfl⟩)
    ·skip
     refine oYI X3 hx hby (pc' := 83) dd47_41 (XT.ii_ne_t b3) ?_
     show own_G p e below (T3.setTop (mkF m 83 #[rv o1, rv o0] [])) _
     refine oIC X3 hx hby dd47_83 ?_
     exact own_retN X3 hx (t := .boolean) hns hrt (by simp) (hb hby dd47_84) (by decide) e3 (by decide) (by decide) (⟨rfl, N0, rfl⟩)
   ·skip
    refine oYI X2 hx hby (pc' := 83) dd47_30 (XT.ii_ne_t b2) ?_
    show own_G p e below (T2.setTop (mkF m 83 #[rv o1, rv o0] [])) _
    refine oIC X2 hx hby dd47_83 ?_
    exact own_retN X2 hx (t := .boolean) hns hrt (by simp) (hb hby dd47_84) (by decide) e2 (by decide) (by decide) (⟨rfl, N0, rfl⟩)
  ·skip
   refine oYI X1 hx hby (pc' := 83) dd47_19 (XT.ii_ne_t b1) ?_
   show own_G p e below (T1.setTop (mkF m 83 #[rv o1, rv o0] [])) _
   refine oIC X1 hx hby dd47_83 ?_
   exact own_retN X1 hx (t := .boolean) hns hrt (by simp) (hb hby dd47_84) (by decide) e1 (by decide) (by decide) (⟨rfl, N0, rfl⟩)
 ·skip
  refine oYI X0 hx hby (pc' := 83) dd47_8 (XT.ii_ne_t b0) ?_
  show own_G p e below (T0.setTop (mkF m 83 #[rv o1, rv o0] [])) _
  refine oIC X0 hx hby dd47_83 ?_
  exact own_retN X0 hx (t := .boolean) hns hrt (by simp) (hb hby dd47_84) (by decide) e0 (by decide) (by decide) (⟨rfl, N0, rfl⟩)
theorem own_rm131 (l : Launch) (Z : State) (a0 : Array Value) (hw : own_W a0 Z) (ws : List Jvm.Cond) (i0 i1 i2 i6 i7 i8 i9 i00 i01 i3 i4 i5 : Int32) (o0 o1 o6 o7 o8 o9 : Nat) (h0 : Heap) (n0 : Nat) (Z8 : n0 ≤ h0.size) (O6 : Old Z n0 h0) (I0 : Exa Z h0 o1 cN7) (I1 : Exa Z h0 o0 cN7) (I2 : @Ne Nat o0 o1) (I3 : Fld Z h0 o0 cN7 "hash" "I" (.int (((31 : Int32) * (((31 : Int32) * (((31 : Int32) * (((31 : Int32) * (((31 : Int32) * i0) + 0)) + i1)) + i2)) + (((31 : Int32) * (((31 : Int32) * ((31 : Int32) + ((i6.toInt8.toInt32) &&& 255))) + i7)) + i8))) + (((31 : Int32) * (((31 : Int32) * ((31 : Int32) + ((i9.toInt8.toInt32) &&& 255))) + i00)) + i01)))) (I0d : @LT.lt Nat instLTNat o0 h0.size) (I4 : Fld Z h0 o1 cN7 "hash" "I" (.int (((31 : Int32) * (((31 : Int32) * (((31 : Int32) * i3) + 0)) + i4)) + i5))) (I0e : @LT.lt Nat instLTNat o1 h0.size) (I5 : Fld Z h0 o0 cN7 "type" "S" (.int i0)) (I6 : Fld Z h0 o1 cN7 "type" "S" (.int i3)) (I7 : Fld Z h0 o0 cN7 "minOccurs" "I" (.int i1)) (I8 : Fld Z h0 o1 cN7 "minOccurs" "I" (.int i4)) (I9 : Fld Z h0 o0 cN7 "maxOccurs" "I" (.int i2)) (I00 : Fld Z h0 o1 cN7 "maxOccurs" "I" (.int i5)) (I01 : Fld Z h0 o0 cN7 "name" cN8 .null) (I02 : Fld Z h0 o1 cN7 "name" cN8 .null) (I03 : Fld Z h0 o0 cN7 "particles" cN5 (.ref o6)) (I04 : Fld Z h0 o6 cN12 "c" cN13 (.ref o7)) (I0f : @LT.lt Nat instLTNat o6 h0.size) (I05 : Fld Z h0 o7 cN10 "size" "I" (.int 2)) (I0g : @LT.lt Nat instLTNat o7 h0.size) (I06 : Exa Z h0 o7 cN10) (I07 : Exa Z h0 o6 cN14) (I08 : Fld Z h0 o1 cN7 "particles" cN5 (.ref o8)) (I09 : Fld Z h0 o8 cN12 "c" cN13 (.ref o9)) (I0h : @LT.lt Nat instLTNat o8 h0.size) (I0a : Fld Z h0 o9 cN10 "size" "I" (.int 0)) (I0i : @LT.lt Nat instLTNat o9 h0.size) (I0b : Exa Z h0 o9 cN10) (I0c : Exa Z h0 o8 cN14) :
 own_Met l Z h0 mN56 B0q 7 (Option.some FieldType.boolean) ws (own_R 4 4 40 54) #[(.ref o0), (.ref o1)] (fun v h L => (v = some (.int 0) ∧ Fr n0 L ∧ Keep h0 h [])) 4 40 := own_go own_pn48 fun p e s m below meth c s₁ hns hrt hnm hml hZ hx hby hown X6 e0 => by
 have N0o := Fr.nil n0
 refine own_cast (own_ef12 m o0 o1) ?_
 refine oAN X6 hx hby dd36_0 rfl rfl ?_
 obtain ⟨T3, X7, e1, s2⟩ := instY X6 hx hZ hown (hw 31) e0 (Ins.self I0) (g := (mkF m 1 #[rv o0, rv o1, .unset, .unset, .unset, .unset, .unset] [(.ref o1)])) rfl rfl (hb hby dd36_1)
 refine oS s2 ?_
 refine oY0 X7 hx hby (pc' := 9) dd36_4 (XT.i0_ne_t (by decide)) ?_
 obtain ⟨T4, h1, X8, e2, E1, A0, D0, U0, s0⟩ := newO X7 hx hZ hown (hw 386) (hw 387) (hw 388) e1 (g := (mkF m 9 #[rv o0, rv o1, .unset, .unset, .unset, .unset, .unset] [])) rfl (hb hby dd36_9) (by decide) (by decide)
 obtain ⟨o2, g0⟩ : ∃ z, z = h0.size := ⟨_, rfl⟩
 rw [← g0] at A0 D0 U0 s0
 have z0 := E1.1
 have y2 : @LT.lt Nat instLTNat o2 h1.size := A0.lt
 refine oS s0 ?_
 have F9 : Fld Z h1 o2 cN23 "elements" cN3 .null := D0 (Or.inl (hw 396)) (ty := (.array (.object cN1))) (by decide)
 have F00 : Fld Z h1 o2 cN23 "head" "I" (.int 0) := D0 (Or.inl (hw 412)) (ty := .int) (by decide)
 have F01 : Fld Z h1 o2 cN23 "tail" "I" (.int 0) := D0 (Or.inl (hw 417)) (ty := .int) (by decide)
 refine oS (fun _ => XS.dup X8.here hx rfl (hb hby dd36_12) rfl rfl) ?_
 have N00 : n0 ≤ o2 := by omega
 have y0 : @LT.lt Nat instLTNat o2 h1.size := by omega
 have O1 : Old Z n0 h1 := O6.ext E1
 have Z0 : n0 ≤ h1.size := by omega
 refine own_cN X8 hx hZ hown e2 (y := mN43) (b := o2) rfl (hw 389) (hw 390) (hw 388) (hw 391) (by decide) (W := 1) (own_rm41 l Z a0 hw [] o2 h1 n0 Z0 O1 F9 A0 N00 F00 F01 y0) [] [(.ref o2)] hml (lenOf own_pd13 rfl) (hb hby dd36_13) fun T5 h8 v0 L0 X9 e3 q0 => ?_
 obtain ⟨o4, m0, rfl, N0p, K4, F11, F02, F03, F04, F05, F06, F12, F07⟩ := q0
 have N0q := Fr.app N0o N0p
 have z1 := K4.1
 refine oASN X9 hx hby dd36_16 rfl (l' := #[rv o0, rv o1, rv o2, .unset, .unset, .unset, .unset]) rfl ?_
 obtain ⟨T6, h2, X00, e4, E0, A1, D1, U1, s1⟩ := newO X9 hx hZ hown (hw 386) (hw 387) (hw 388) e3 (g := (mkF m 17 #[rv o0, rv o1, rv o2, .unset, .unset, .unset, .unset] [])) rfl (hb hby dd36_17) (by decide) (by decide)
 obtain ⟨o3, g1⟩ : ∃ z, z = h8.size := ⟨_, rfl⟩
 rw [← g1] at A1 D1 U1 s1
 have z2 := E0.1
 have y3 : @LT.lt Nat instLTNat o3 h2.size := A1.lt
 refine oS s1 ?_
 have F08 : Fld Z h2 o3 cN23 "elements" cN3 .null := D1 (Or.inl (hw 396)) (ty := (.array (.object cN1))) (by decide)
 have F09 : Fld Z h2 o3 cN23 "head" "I" (.int 0) := D1 (Or.inl (hw 412)) (ty := .int) (by decide)
 have F0a : Fld Z h2 o3 cN23 "tail" "I" (.int 0) := D1 (Or.inl (hw 417)) (ty := .int) (by decide)
 refine oS (fun _ => XS.dup X00.here hx rfl (hb hby dd36_20) rfl rfl) ?_
 have N01 : n0 ≤ o3 := by omega
 have y1 : @LT.lt Nat instLTNat o3 h2.size := by omega
 have O7 : Old Z n0 h8 := O1.keep K4 (allS N00 all0)
 have O2 : Old Z n0 h2 := O7.ext E0
 have Z1 : n0 ≤ h2.size := by omega
 refine own_cN X00 hx hZ hown e4 (y := mN43) (b := o3) rfl (hw 389) (hw 390) (hw 388) (hw 391) (by decide) (W := 1) (own_rm41 l Z a0 hw [] o3 h2 n0 Z1 O2 F08 A1 N01 F09 F0a y1) [] [(.ref o3)] hml (lenOf own_pd13 rfl) (hb hby dd36_21) fun T0 h5 v1 L1 X1 e5 q1 => ?_
 obtain ⟨o5, m1, rfl, N0r, K0, F13, F0b, F0c, F0d, F0e, F0f, F14, F0g⟩ := q1
 have N0s := Fr.app N0q N0r
 have z3 := K0.1
 show own_G p e below (T0.setTop (mkF m 24 #[rv o0, rv o1, rv o2, .unset, .unset, .unset, .unset] [(.ref o3)])) _
 refine oASN X1 hx hby dd36_24 rfl (l' := #[rv o0, rv o1, rv o2, rv o3, .unset, .unset, .unset]) rfl ?_
 refine oAN X1 hx hby dd36_25 rfl rfl ?_
 refine oAN X1 hx hby dd36_26 rfl rfl ?_
 have N4 : @Ne Nat o2 o3 := by omega
 have F0h := (Fld.ext E0 F02).keep K0 (ninS N4 nin0)
 have F0i := (Fld.ext E0 F04).keep K0 (ninS N4 nin0)
 have N9 : @Ne Nat o4 o3 := by omega
 have F0j := (F06.ext E0).keep K0 (ninS N9 nin0)
 have F2 := (Exa.ext E0 F03).keep K0
 have N0e : @Ne Nat o4 o2 := by omega
 have F3 := (Exa.ext E0 ((Exa.ext E1 I1).keep K4)).keep K0
 have N03 : n0 ≤ o4 := by omega
 have F0k := (Fld.ext E0 F05).keep K0 (ninS N4 nin0)
 have O3 : Old Z n0 h5 := O2.keep K0 (allS N01 all0)
 have Z2 : n0 ≤ h5.size := by omega
 refine own_cI X1 hx hZ hown e5 (y := mN57) (z := mN46) (b := o2) (hw 397) (hw 398) (hw 399) rfl (hw 400) (hw 401) (hw 402) (hw 403) (hw 404) (hw 388) (hw 405) (by decide) F2 (W := 0) (own_rm42 l Z a0 hw [] m0 o2 o0 o4 h5 n0 Z2 O3 F0h F0i F0j F2 N00 N0e F07 F3 N03 F0k) [(.ref o0)] [] hml (lenOf own_pd23 rfl) (hb hby dd36_27) fun T7 h6 v2 L2 X2 e6 q2 => ?_
 obtain ⟨rfl, N0t, K1, F0l, F0m, F0n, F0o, F0p⟩ := q2
 have N0u := Fr.app N0s N0t
 have z4 := K1.1
 refine oAN X2 hx hby dd36_32 rfl rfl ?_
 refine oAN X2 hx hby dd36_33 rfl rfl ?_
 have F0 := ((Exa.ext E0 ((Exa.ext E1 I0).keep K4)).keep K0).keep K1
 refine own_cY X2 hx hZ hown (hw 304) e6 (Ins.of_exa F0 (hw 305)) (hb hby dd36_34) fun T8 X02 e7 => ?_
 have F0q := F0b.keep K1 (ninS (Ne.symm N4) (ninS (Ne.symm N9) nin0))
 have F0r := F0d.keep K1 (ninS (Ne.symm N4) (ninS (Ne.symm N9) nin0))
 have N05 : @Ne Nat o5 o4 := by omega
 have N02 : @Ne Nat o5 o2 := by omega
 have F0s := F0f.keep K1 (ninS N02 (ninS N05 nin0))
 have F4 := F0c.keep K1
 have N0f : @Ne Nat o5 o3 := by omega
 have N04 : n0 ≤ o5 := by omega
 have F0t := F0e.keep K1 (ninS (Ne.symm N4) (ninS (Ne.symm N9) nin0))
 have O4 : Old Z n0 h6 := O3.keep K1 (allS N00 (allS N03 all0))
 have Z3 : n0 ≤ h6.size := by omega
 refine own_cI X02 hx hZ hown e7 (y := mN57) (z := mN46) (b := o3) (hw 397) (hw 398) (hw 399) rfl (hw 400) (hw 401) (hw 402) (hw 403) (hw 404) (hw 388) (hw 405) (by decide) F4 (W := 0) (own_rm42 l Z a0 hw [] m1 o3 o1 o5 h6 n0 Z3 O4 F0q F0r F0s F4 N01 N0f F0g F0 N04 F0t) [(.ref o1)] [] hml (lenOf own_pd23 rfl) (hb hby dd36_37) fun T9 h3 v3 L3 X01 e8 q3 => ?_
 obtain ⟨rfl, N0v, K2, F0u, F0v, F0w, F0x, F0y⟩ := q3
 have N0w := Fr.app N0u N0v
 have z5 := K2.1
 refine oAN X01 hx hby dd36_42 rfl rfl ?_
 have F5 := F0l.keep K2 (ninS N4 (ninS (Ne.symm N02) nin0))
 have F6 := F0m.keep K2 (ninS N4 (ninS (Ne.symm N02) nin0))
 have O0 : Old Z n0 h3 := O4.keep K2 (allS N01 (allS N04 all0))
 have Z4 : n0 ≤ h3.size := by omega
 have F1 := F0o.keep K2
 refine own_cIU X01 hx hZ hown e8 (y := mN58) (z := mN47) (J := cN16) (b := o2) (hw 418) (hw 419) (hw 420) (by decide) (by decide) (hw 421) (hw 422) (hw 423) (hw 424) (hw 404) (hw 388) (hw 425) (by decide) F1 (W := 0) (own_rm45 l Z a0 hw [] o2 h3 n0 Z4 O0 F5 F6) [] [] hml (lenOf own_pd5 rfl) (hb hby dd36_43) fun T1 h9 v4 L4 X3 e9 q4 => ?_
 obtain ⟨rfl, N0x, K6⟩ := q4
 have N0y := Fr.app N0w N0x
 have e00 := e9.trans K6
 show own_G p e below (T1.setTop (mkF m 48 #[rv o0, rv o1, rv o2, rv o3, .unset, .unset, .unset] [(.int 0)])) _
 refine oN0 X3 hx hby dd36_48 (XT.i0_ne_f (by decide)) ?_
 refine oAN X3 hx hby dd36_51 rfl rfl ?_
 have F0z := F0n.keep K2 (ninS N4 (ninS (Ne.symm N02) nin0))
 have F0A := F0p.keep K2 (ninS N9 (ninS (Ne.symm N05) nin0))
 have Z5 : n0 ≤ h3.size := by omega
 refine own_cI X3 hx hZ hown e00 (y := mN59) (z := mN52) (b := o2) (hw 426) (hw 427) (hw 428) rfl (hw 429) (hw 430) (hw 431) (hw 432) (hw 404) (hw 388) (hw 433) (by decide) F1 (W := 0) (own_rm46 l Z a0 hw [] m0 o2 o4 o0 h3 n0 Z5 O0 F0z F5 F0A N03 (Ne.symm N0e) F1 N00 F6) [] [] hml (lenOf own_pd25 rfl) (hb hby dd36_52) fun T00 h7 v5 L5 X03 e01 q5 => ?_
 obtain ⟨rfl, N0z, K3, F15, F16, F17, F18, F19⟩ := q5
 have N0A := Fr.app N0y N0z
 have z6 := K3.1
 have F7 := ((F3.keep K1).keep K2).keep K3
 refine own_cY X03 hx hZ hown (hw 31) e01 (Ins.self F7) (hb hby dd36_57) fun T01 X4 e02 => ?_
 refine oAS X4 hx hby dd36_60 rfl (l' := #[rv o0, rv o1, rv o2, rv o3, rv o0, .unset, .unset]) rfl ?_
 refine oAN X4 hx hby dd36_62 rfl rfl ?_
 have F0B := F0w.keep K3 (ninS (Ne.symm N9) (ninS (Ne.symm N4) nin0))
 have F0C := F0u.keep K3 (ninS (Ne.symm N9) (ninS (Ne.symm N4) nin0))
 have F0D := F0y.keep K3 (ninS N05 (ninS N02 nin0))
 have F8 := F0x.keep K3
 have F0E := F0v.keep K3 (ninS (Ne.symm N9) (ninS (Ne.symm N4) nin0))
 have O5 : Old Z n0 h7 := O0.keep K3 (allS N03 (allS N00 all0))
 have Z6 : n0 ≤ h7.size := by omega
 refine own_cI X4 hx hZ hown e02 (y := mN59) (z := mN52) (b := o3) (hw 426) (hw 427) (hw 428) rfl (hw 429) (hw 430) (hw 431) (hw 432) (hw 404) (hw 388) (hw 433) (by decide) F8 (W := 0) (own_rm46 l Z a0 hw [] m1 o3 o5 o1 h7 n0 Z6 O5 F0B F0C F0D N04 (Ne.symm N0f) F8 N01 F0E) [] [] hml (lenOf own_pd25 rfl) (hb hby dd36_63) fun T02 h4 v6 L6 X04 e03 q6 => ?_
 obtain ⟨rfl, N0B, K5, F1a, F1b, F1c, F1d, F1e⟩ := q6
 have N0C := Fr.app N0A N0B
 have z7 := K5.1
 have F0F := ((F0.keep K2).keep K3).keep K5
 refine own_cY X04 hx hZ hown (hw 31) e03 (Ins.self F0F) (hb hby dd36_68) fun T2 X0 e04 => ?_
 refine oAS X0 hx hby dd36_71 rfl (l' := #[rv o0, rv o1, rv o2, rv o3, rv o0, rv o1, .unset]) rfl ?_
 refine oAL X0 hx hby dd36_73 rfl rfl ?_
 show own_G p e below (T2.setTop (mkF m 75 #[rv o0, rv o1, rv o2, rv o3, rv o0, rv o1, .unset] [(.ref o0)])) _
 refine oAL X0 hx hby dd36_75 rfl rfl ?_
 refine oS (fun _ => XT.acmpYes X0.here hx rfl (pc0 := 77) (pc' := 83) rfl (hb hby dd36_77) rfl rfl rfl (XT.aa_ne_t (own_rne I2)) (by decide) (by decide)) ?_
 refine oAL X0 hx hby dd36_83 rfl rfl ?_
 refine oAL X0 hx hby dd36_85 rfl rfl ?_
 have N0 : @Ne Nat o0 o2 := by omega
 have N1 : @Ne Nat o0 o3 := by omega
 have N5 : @Ne Nat o0 o4 := by omega
 have N6 : @Ne Nat o0 o5 := by omega
 have F0G := (((((Fld.ext E0 ((Fld.ext E1 I3).keep K4 (ninS N0 nin0))).keep K0 (ninS N1 nin0)).keep K1 (ninS N0 (ninS N5 nin0))).keep K2 (ninS N1 (ninS N6 nin0))).keep K3 (ninS N5 (ninS N0 nin0))).keep K5 (ninS N6 (ninS N1 nin0))
 have N2 : @Ne Nat o1 o2 := by omega
 have N3 : @Ne Nat o1 o3 := by omega
 have N7 : @Ne Nat o1 o4 := by omega
 have N8 : @Ne Nat o1 o5 := by omega
 have F0H := (((((Fld.ext E0 ((Fld.ext E1 I4).keep K4 (ninS N2 nin0))).keep K0 (ninS N3 nin0)).keep K1 (ninS N2 (ninS N7 nin0))).keep K2 (ninS N3 (ninS N8 nin0))).keep K3 (ninS N7 (ninS N2 nin0))).keep K5 (ninS N8 (ninS N3 nin0))
 have F0I := (((((Fld.ext E0 ((Fld.ext E1 I5).keep K4 (ninS N0 nin0))).keep K0 (ninS N1 nin0)).keep K1 (ninS N0 (ninS N5 nin0))).keep K2 (ninS N1 (ninS N6 nin0))).keep K3 (ninS N5 (ninS N0 nin0))).keep K5 (ninS N6 (ninS N1 nin0))
 have F0J := (((((Fld.ext E0 ((Fld.ext E1 I6).keep K4 (ninS N2 nin0))).keep K0 (ninS N3 nin0)).keep K1 (ninS N2 (ninS N7 nin0))).keep K2 (ninS N3 (ninS N8 nin0))).keep K3 (ninS N7 (ninS N2 nin0))).keep K5 (ninS N8 (ninS N3 nin0))
 have F0K := (((((Fld.ext E0 ((Fld.ext E1 I7).keep K4 (ninS N0 nin0))).keep K0 (ninS N1 nin0)).keep K1 (ninS N0 (ninS N5 nin0))).keep K2 (ninS N1 (ninS N6 nin0))).keep K3 (ninS N5 (ninS N0 nin0))).keep K5 (ninS N6 (ninS N1 nin0))
 have F0L := (((((Fld.ext E0 ((Fld.ext E1 I8).keep K4 (ninS N2 nin0))).keep K0 (ninS N3 nin0)).keep K1 (ninS N2 (ninS N7 nin0))).keep K2 (ninS N3 (ninS N8 nin0))).keep K3 (ninS N7 (ninS N2 nin0))).keep K5 (ninS N8 (ninS N3 nin0))
 have F0M := (((((Fld.ext E0 ((Fld.ext E1 I9).keep K4 (ninS N0 nin0))).keep K0 (ninS N1 nin0)).keep K1 (ninS N0 (ninS N5 nin0))).keep K2 (ninS N1 (ninS N6 nin0))).keep K3 (ninS N5 (ninS N0 nin0))).keep K5 (ninS N6 (ninS N1 nin0))
 have F0N := (((((Fld.ext E0 ((Fld.ext E1 I00).keep K4 (ninS N2 nin0))).keep K0 (ninS N3 nin0)).keep K1 (ninS N2 (ninS N7 nin0))).keep K2 (ninS N3 (ninS N8 nin0))).keep K3 (ninS N7 (ninS N2 nin0))).keep K5 (ninS N8 (ninS N3 nin0))
 have F0O := (((((Fld.ext E0 ((Fld.ext E1 I01).keep K4 (ninS N0 nin0))).keep K0 (ninS N1 nin0)).keep K1 (ninS N0 (ninS N5 nin0))).keep K2 (ninS N1 (ninS N6 nin0))).keep K3 (ninS N5 (ninS N0 nin0))).keep K5 (ninS N6 (ninS N1 nin0))
 have F0P := (((((Fld.ext E0 ((Fld.ext E1 I02).keep K4 (ninS N2 nin0))).keep K0 (ninS N3 nin0)).keep K1 (ninS N2 (ninS N7 nin0))).keep K2 (ninS N3 (ninS N8 nin0))).keep K3 (ninS N7 (ninS N2 nin0))).keep K5 (ninS N8 (ninS N3 nin0))
 have F0Q := (((((Fld.ext E0 ((Fld.ext E1 I03).keep K4 (ninS N0 nin0))).keep K0 (ninS N1 nin0)).keep K1 (ninS N0 (ninS N5 nin0))).keep K2 (ninS N1 (ninS N6 nin0))).keep K3 (ninS N5 (ninS N0 nin0))).keep K5 (ninS N6 (ninS N1 nin0))
 have N06 : @Ne Nat o6 o2 := by omega
 have N07 : @Ne Nat o6 o3 := by omega
 have N0g : @Ne Nat o6 o4 := by omega
 have N0h : @Ne Nat o6 o5 := by omega
 have F0R := (((((Fld.ext E0 ((Fld.ext E1 I04).keep K4 (ninS N06 nin0))).keep K0 (ninS N07 nin0)).keep K1 (ninS N06 (ninS N0g nin0))).keep K2 (ninS N07 (ninS N0h nin0))).keep K3 (ninS N0g (ninS N06 nin0))).keep K5 (ninS N0h (ninS N07 nin0))
 have N08 : @Ne Nat o7 o2 := by omega
 have N09 : @Ne Nat o7 o3 := by omega
 have N0i : @Ne Nat o7 o4 := by omega
 have N0j : @Ne Nat o7 o5 := by omega
 have F0S := (((((Fld.ext E0 ((Fld.ext E1 I05).keep K4 (ninS N08 nin0))).keep K0 (ninS N09 nin0)).keep K1 (ninS N08 (ninS N0i nin0))).keep K2 (ninS N09 (ninS N0j nin0))).keep K3 (ninS N0i (ninS N08 nin0))).keep K5 (ninS N0j (ninS N09 nin0))
 have F0T := (((((Exa.ext E0 ((Exa.ext E1 I06).keep K4)).keep K0).keep K1).keep K2).keep K3).keep K5
 have F0U := (((((Exa.ext E0 ((Exa.ext E1 I07).keep K4)).keep K0).keep K1).keep K2).keep K3).keep K5
 have F0V := (((((Fld.ext E0 ((Fld.ext E1 I08).keep K4 (ninS N2 nin0))).keep K0 (ninS N3 nin0)).keep K1 (ninS N2 (ninS N7 nin0))).keep K2 (ninS N3 (ninS N8 nin0))).keep K3 (ninS N7 (ninS N2 nin0))).keep K5 (ninS N8 (ninS N3 nin0))
 have N0a : @Ne Nat o8 o2 := by omega
 have N0b : @Ne Nat o8 o3 := by omega
 have N0k : @Ne Nat o8 o4 := by omega
 have N0l : @Ne Nat o8 o5 := by omega
 have F0W := (((((Fld.ext E0 ((Fld.ext E1 I09).keep K4 (ninS N0a nin0))).keep K0 (ninS N0b nin0)).keep K1 (ninS N0a (ninS N0k nin0))).keep K2 (ninS N0b (ninS N0l nin0))).keep K3 (ninS N0k (ninS N0a nin0))).keep K5 (ninS N0l (ninS N0b nin0))
 have N0c : @Ne Nat o9 o2 := by omega
 have N0d : @Ne Nat o9 o3 := by omega
 have N0m : @Ne Nat o9 o4 := by omega
 have N0n : @Ne Nat o9 o5 := by omega
 have F0X := (((((Fld.ext E0 ((Fld.ext E1 I0a).keep K4 (ninS N0c nin0))).keep K0 (ninS N0d nin0)).keep K1 (ninS N0c (ninS N0m nin0))).keep K2 (ninS N0d (ninS N0n nin0))).keep K3 (ninS N0m (ninS N0c nin0))).keep K5 (ninS N0n (ninS N0d nin0))
 have F0Y := (((((Exa.ext E0 ((Exa.ext E1 I0b).keep K4)).keep K0).keep K1).keep K2).keep K3).keep K5
 have F0Z := (((((Exa.ext E0 ((Exa.ext E1 I0c).keep K4)).keep K0).keep K1).keep K2).keep K3).keep K5
 have O8 : Old Z n0 h4 := O5.keep K5 (allS N04 (allS N01 all0))
 have Z7 : n0 ≤ h4.size := by omega
 have F10 := F7.keep K5
 refine own_cP X0 hx hZ hown e04 (y := mN54) (b := o0) (hw 450) (hw 451) (own_selP (hw 451) (hw 452) (hw 308) rfl (by decide)) (hw 452) (hw 29) (hw 453) (by decide) F10 (W := 0) (own_rm132 l Z a0 hw [] i0 i1 i2 i6 i7 i8 i9 i00 i01 i3 i4 i5 o0 o1 o6 o7 o8 o9 h4 n0 Z7 O8 F0G F0H F0I F0J F0K F0L F0M F0N F0O F0P F0Q F0R F0S F0T F0U F0V F0W F0X F0Y F0Z) [(.ref o1)] [] hml (lenOf own_pd27 rfl) (hb hby dd36_87) fun T03 h00 v7 L7 X5 e05 q7 => ?_
 obtain ⟨rfl, N0D, K7⟩ := q7
 have N0E := Fr.app N0C N0D
 have e06 := e05.trans K7
 refine oN0 X5 hx hby dd36_90 (XT.i0_ne_f (by decide)) ?_
 refine oIC X5 hx hby dd36_93 ?_
 have K8 : Keep h0 h4 [] := (((((((((Keep.refl h0 []).ext E1).trans K4 (allS (Or.inr (by omega)) all0)).ext E0).trans K0 (allS (Or.inr (by omega)) all0)).trans K1 (allS (Or.inr (by omega)) (allS (Or.inr (by omega)) all0))).trans K2 (allS (Or.inr (by omega)) (allS (Or.inr (by omega)) all0))).trans K3 (allS (Or.inr (by omega)) (allS (Or.inr (by omega)) all0))).trans K5 (allS (Or.inr (by omega)) (allS (Or.inr (by omega)) all0)))
 exact own_retN X5 hx (t := .boolean) hns hrt (by simp) (hb hby dd36_94) (by decide) e06 (by decide) (by decide) (⟨rfl, N0E, K8⟩)
def own_Q1 (Z : State) (in_1 : Int32) (in_2 : Int32) (in_3 : Int32) (in_4 : Int32) (in_5 : Int32) (in_6 : Int32) (in_7 : Int32) (ob_9 : Nat) (ob_10 : Nat) (kk_11 : ClassId) (ob_14 : Nat) (ob_16 : Nat) (ob_17 : Nat) (ob_18 : Nat) (kk_15 : ClassId) (h0 : Heap) (n0 : Nat) (v : Option Value) (h : Heap) (L : List Loc) : Prop := (v = some (.int 1) ∧ Fr n0 L)
theorem own_pn63 : plainFor x = true := by decide +kernel
set_option maxRecDepth 65536 in
set_option maxHeartbeats 40000000 in
theorem own_rm1 (l : Launch) (Z : State) (a0 : Array Value) (hw : own_W a0 Z) (ws : List Jvm.Cond) (i5 : Int32) (i0 : Int32) (i1 : Int32) (i6 : Int32) (i2 : Int32) (i3 : Int32) (i0f : Int32) (o06 : Nat) (o07 : Nat) (m1 : ClassId) (o03 : Nat) (o9 : Nat) (o00 : Nat) (o01 : Nat) (m0 : ClassId) (h0 : Heap) (n0 : Nat) (Z0 : n0 ≤ h0.size) (O00 : Old Z n0 h0) (I9 : Sta Z Z.heap cN0 "COMPACT_STRINGS" "Z" (.int i0f)) (I00 : ¬ (i0f = 0)) (I05 : Sta Z Z.heap "java/util/ImmutableCollections" "EMPTY_LIST" "Ljava/util/ImmutableCollections$ListN;" (.ref o06)) (I06 : Fld Z Z.heap o06 cN2 "elements" cN3 (.ref o07)) (I07 : Arv Z Z.heap o07 m1 (FieldType.object cN1) 0 [] .null) (I08 : Exa Z Z.heap o06 cN2) (I3 : Sta Z Z.heap cN10 cN11 cN3 (.ref o03)) (I0 : Mir Z cN10 o9) (I1 : Mir Z cN15 o00) (I2 : Mir Z cN14 o01) (I8 : Arv Z Z.heap o03 m0 (FieldType.object cN1) 0 [] .null) :
 own_Met l Z h0 x code maxLocals ret ws room_1 #[(.int i5), (.int i0), (.int i1), (.int i6), (.int i2), (.int i3)] (own_Q1 Z i5 i0 i1 i6 i2 i3 i0f o06 o07 m1 o03 o9 o00 o01 m0 h0 n0) 56 320 := by
 refine MetFree.of_bodySF own_pn63 hisR ?_
 intro p e s m args below meth c s₁ Bd hml0 hP hK
 obtain ⟨rfl, hZ, hh⟩ := hP
 have hx := Bd.exec
 have hby := Bd.bytes
 have hml : c.maxLocals = 32 := hml0
 have hown : s.vm.findClass "com/example/doctype_in_dom/doctypeindom/definitions/ContentParticleImplGroupPinLaw" = some m.cls := findClass_of_methodNamed Bd.named
 have hnm := (name_of_methodNamed Bd.named Bd.method).1
 have X3 : Stand p l e room_1 s m #[(.int i5), (.int i0), (.int i1), (.int i6), (.int i2), (.int i3)] below meth c s₁ [] 0 0 := Stand.of_body Bd
 have e06 : s₁.heap = h0 := by rw [← hh, Bd.state]; rfl
 have N0u := Fr.nil n0
 show own_G p e below (s₁.setTop (entryFrame m #[(.int i5), (.int i0), (.int i1), (.int i6), (.int i2), (.int i3)] maxLocals)) (own_P s (own_Q1 Z i5 i0 i1 i6 i2 i3 i0f o06 o07 m1 o03 o9 o00 o01 m0 h0 n0) 56 320)
 refine own_cast (own_ef0 m i5 i0 i1 i6 i2 i3) ?_
 show own_G p e below (s₁.setTop (mkF m 0 #[iv i5, iv i0, iv i1, iv i6, iv i2, iv i3, .unset, .unset, .unset, .unset, .unset, .unset, .unset, .unset, .unset, .unset, .unset, .unset, .unset, .unset, .unset, .unset, .unset, .unset, .unset, .unset, .unset, .unset, .unset, .unset, .unset, .unset] [])) _
 refine oIN X3 hx hby at_0 rfl ?_
 refine oS (fun _ => XT.i2s X3.here hx rfl (hb hby at_1) rfl) ?_
 show own_G p e below (s₁.setTop (mkF m 2 #[iv i5, iv i0, iv i1, iv i6, iv i2, iv i3, .unset, .unset, .unset, .unset, .unset, .unset, .unset, .unset, .unset, .unset, .unset, .unset, .unset, .unset, .unset, .unset, .unset, .unset, .unset, .unset, .unset, .unset, .unset, .unset, .unset, .unset] [(.int (i5.toInt16.toInt32))])) _
 obtain ⟨i4, q4, b0⟩ := own_sht i5
 refine own_cast (g' := (mkF m 2 #[iv i5, iv i0, iv i1, iv i6, iv i2, iv i3, .unset, .unset, .unset, .unset, .unset, .unset, .unset, .unset, .unset, .unset, .unset, .unset, .unset, .unset, .unset, .unset, .unset, .unset, .unset, .unset, .unset, .unset, .unset, .unset, .unset, .unset] [(.int i4)])) (by rw [q4]) ?_
 refine oIS X3 hx hby at_2 (l' := #[iv i5, iv i0, iv i1, iv i6, iv i2, iv i3, iv i4, .unset, .unset, .unset, .unset, .unset, .unset, .unset, .unset, .unset, .unset, .unset, .unset, .unset, .unset, .unset, .unset, .unset, .unset, .unset, .unset, .unset, .unset, .unset, .unset, .unset]) rfl ?_
 refine oIL X3 hx hby at_4 rfl ?_
 refine oS (fun _ => XS.sipush X3.here hx rfl (hb hby at_6) ) ?_
 refine oS (fun _ => XS.iand X3.here hx rfl (hb hby at_9) rfl) ?_
 refine oS (fun _ => XT.i2c X3.here hx rfl (hb hby at_10) rfl) ?_
 show own_G p e below (s₁.setTop (mkF m 11 #[iv i5, iv i0, iv i1, iv i6, iv i2, iv i3, iv i4, .unset, .unset, .unset, .unset, .unset, .unset, .unset, .unset, .unset, .unset, .unset, .unset, .unset, .unset, .unset, .unset, .unset, .unset, .unset, .unset, .unset, .unset, .unset, .unset, .unset] [(.int ((i2 &&& 255).toUInt32.toUInt16.toUInt32.toInt32))])) _
 obtain ⟨i7, q5, b0x, b0f, b0y⟩ := own_chr i2
 refine own_cast (g' := (mkF m 11 #[iv i5, iv i0, iv i1, iv i6, iv i2, iv i3, iv i4, .unset, .unset, .unset, .unset, .unset, .unset, .unset, .unset, .unset, .unset, .unset, .unset, .unset, .unset, .unset, .unset, .unset, .unset, .unset, .unset, .unset, .unset, .unset, .unset, .unset] [(.int i7)])) (by rw [q5]) ?_
 refine oIS X3 hx hby at_11 (l' := #[iv i5, iv i0, iv i1, iv i6, iv i2, iv i3, iv i4, iv i7, .unset, .unset, .unset, .unset, .unset, .unset, .unset, .unset, .unset, .unset, .unset, .unset, .unset, .unset, .unset, .unset, .unset, .unset, .unset, .unset, .unset, .unset, .unset, .unset]) rfl ?_
 refine oIL X3 hx hby at_13 rfl ?_
 refine oS (fun _ => XS.bipush X3.here hx rfl (hb hby at_15) ) ?_
 refine oS (fun _ => XT.iushr X3.here hx rfl (hb hby at_17) rfl) ?_
 refine oS (fun _ => XS.sipush X3.here hx rfl (hb hby at_18) ) ?_
 refine oS (fun _ => XS.iand X3.here hx rfl (hb hby at_21) rfl) ?_
 refine oS (fun _ => XT.i2c X3.here hx rfl (hb hby at_22) rfl) ?_
 show own_G p e below (s₁.setTop (mkF m 23 #[iv i5, iv i0, iv i1, iv i6, iv i2, iv i3, iv i4, iv i7, .unset, .unset, .unset, .unset, .unset, .unset, .unset, .unset, .unset, .unset, .unset, .unset, .unset, .unset, .unset, .unset, .unset, .unset, .unset, .unset, .unset, .unset, .unset, .unset] [(.int (((XT.ushr i2 8) &&& 255).toUInt32.toUInt16.toUInt32.toInt32))])) _
 obtain ⟨i9, q6, b0z, b0g, b0A⟩ := own_chr (XT.ushr i2 8)
 refine own_cast (g' := (mkF m 23 #[iv i5, iv i0, iv i1, iv i6, iv i2, iv i3, iv i4, iv i7, .unset, .unset, .unset, .unset, .unset, .unset, .unset, .unset, .unset, .unset, .unset, .unset, .unset, .unset, .unset, .unset, .unset, .unset, .unset, .unset, .unset, .unset, .unset, .unset] [(.int i9)])) (by rw [q6]) ?_
 refine oIS X3 hx hby at_23 (l' := #[iv i5, iv i0, iv i1, iv i6, iv i2, iv i3, iv i4, iv i7, iv i9, .unset, .unset, .unset, .unset, .unset, .unset, .unset, .unset, .unset, .unset, .unset, .unset, .unset, .unset, .unset, .unset, .unset, .unset, .unset, .unset, .unset, .unset, .unset]) rfl ?_
 refine oIL X3 hx hby at_25 rfl ?_
 refine oS (fun _ => XS.bipush X3.here hx rfl (hb hby at_27) ) ?_
 refine oS (fun _ => XT.iushr X3.here hx rfl (hb hby at_29) rfl) ?_
 refine oIC X3 hx hby at_30 ?_
 refine oS (fun _ => XS.iand X3.here hx rfl (hb hby at_31) rfl) ?_
 show own_G p e below (s₁.setTop (mkF m 32 #[iv i5, iv i0, iv i1, iv i6, iv i2, iv i3, iv i4, iv i7, iv i9, .unset, .unset, .unset, .unset, .unset, .unset, .unset, .unset, .unset, .unset, .unset, .unset, .unset, .unset, .unset, .unset, .unset, .unset, .unset, .unset, .unset, .unset, .unset] [(.int ((XT.ushr i2 16) &&& 1))])) _
 obtain ⟨i8, q7⟩ := own_nm0 (((XT.ushr i2 16) &&& 1))
 refine own_cast (g' := (mkF m 32 #[iv i5, iv i0, iv i1, iv i6, iv i2, iv i3, iv i4, iv i7, iv i9, .unset, .unset, .unset, .unset, .unset, .unset, .unset, .unset, .unset, .unset, .unset, .unset, .unset, .unset, .unset, .unset, .unset, .unset, .unset, .unset, .unset, .unset, .unset] [(.int i8)])) (by rw [q7]) ?_
 refine oIS X3 hx hby at_32 (l' := #[iv i5, iv i0, iv i1, iv i6, iv i2, iv i3, iv i4, iv i7, iv i9, iv i8, .unset, .unset, .unset, .unset, .unset, .unset, .unset, .unset, .unset, .unset, .unset, .unset, .unset, .unset, .unset, .unset, .unset, .unset, .unset, .unset, .unset, .unset]) rfl ?_
 have J7 : ∀ (T7 : State) (L0 : List Loc) (X01 : Stand p l e room_1 s m #[(.int i5), (.int i0), (.int i1), (.int i6), (.int i2), (.int i3)] below meth c T7 L0 0 0) (e7 : T7.heap = h0) (N05 : Fr n0 L0) (i00 : Int32), own_G p e below (T7.setTop (mkF m 51 #[iv i5, iv i0, iv i1, iv i6, iv i2, iv i3, iv i4, iv i7, iv i9, iv i8, iv i00, .unset, .unset, .unset, .unset, .unset, .unset, .unset, .unset, .unset, .unset, .unset, .unset, .unset, .unset, .unset, .unset, .unset, .unset, .unset, .unset, .unset] [])) (own_P s (own_Q1 Z i5 i0 i1 i6 i2 i3 i0f o06 o07 m1 o03 o9 o00 o01 m0 h0 n0) 56 320) := by
  intro T7 L0 X01 e7 N05 i00
  refine oIL X01 hx hby at_51 rfl ?_
  refine oS (fun _ => XS.bipush X01.here hx rfl (hb hby at_53) ) ?_
  refine oS (fun _ => XT.iushr X01.here hx rfl (hb hby at_55) rfl) ?_
  refine oIC X01 hx hby at_56 ?_
  refine oS (fun _ => XS.iand X01.here hx rfl (hb hby at_57) rfl) ?_
  show own_G p e below (T7.setTop (mkF m 58 #[iv i5, iv i0, iv i1, iv i6, iv i2, iv i3, iv i4, iv i7, iv i9, iv i8, iv i00, .unset, .unset, .unset, .unset, .unset, .unset, .unset, .unset, .unset, .unset, .unset, .unset, .unset, .unset, .unset, .unset, .unset, .unset, .unset, .unset, .unset] [(.int ((XT.ushr i2 18) &&& 1))])) _
  obtain ⟨i01, q8⟩ := own_nm0 (((XT.ushr i2 18) &&& 1))
  refine own_cast (g' := (mkF m 58 #[iv i5, iv i0, iv i1, iv i6, iv i2, iv i3, iv i4, iv i7, iv i9, iv i8, iv i00, .unset, .unset, .unset, .unset, .unset, .unset, .unset, .unset, .unset, .unset, .unset, .unset, .unset, .unset, .unset, .unset, .unset, .unset, .unset, .unset, .unset] [(.int i01)])) (by rw [q8]) ?_
  refine oIS X01 hx hby at_58 (l' := #[iv i5, iv i0, iv i1, iv i6, iv i2, iv i3, iv i4, iv i7, iv i9, iv i8, iv i00, iv i01, .unset, .unset, .unset, .unset, .unset, .unset, .unset, .unset, .unset, .unset, .unset, .unset, .unset, .unset, .unset, .unset, .unset, .unset, .unset, .unset]) rfl ?_
  have J8 : ∀ (T8 : State) (L1 : List Loc) (X03 : Stand p l e room_1 s m #[(.int i5), (.int i0), (.int i1), (.int i6), (.int i2), (.int i3)] below meth c T8 L1 0 0) (e8 : T8.heap = h0) (N06 : Fr n0 L1) (i02 : Int32), own_G p e below (T8.setTop (mkF m 77 #[iv i5, iv i0, iv i1, iv i6, iv i2, iv i3, iv i4, iv i7, iv i9, iv i8, iv i00, iv i01, iv i02, .unset, .unset, .unset, .unset, .unset, .unset, .unset, .unset, .unset, .unset, .unset, .unset, .unset, .unset, .unset, .unset, .unset, .unset, .unset] [])) (own_P s (own_Q1 Z i5 i0 i1 i6 i2 i3 i0f o06 o07 m1 o03 o9 o00 o01 m0 h0 n0) 56 320) := by
   intro T8 L1 X03 e8 N06 i02
   refine oIN X03 hx hby at_77 rfl ?_
   refine oS (fun _ => X03.ldcI hx hown (mvT hZ (hw 0)) rfl (hb hby at_78)) ?_
   refine oS (fun _ => XS.iand X03.here hx rfl (hb hby at_80) rfl) ?_
   refine oIC X03 hx hby at_81 ?_
   refine oS (fun _ => iremM X03 hx rfl (hb hby at_82) rfl (by decide)) ?_
   show own_G p e below (T8.setTop (mkF m 83 #[iv i5, iv i0, iv i1, iv i6, iv i2, iv i3, iv i4, iv i7, iv i9, iv i8, iv i00, iv i01, iv i02, .unset, .unset, .unset, .unset, .unset, .unset, .unset, .unset, .unset, .unset, .unset, .unset, .unset, .unset, .unset, .unset, .unset, .unset, .unset] [(.int ((i6 &&& 2147483647) % 3))])) _
   obtain ⟨i0g, q9, b0h⟩ := own_nm i6 3 (by decide)
   refine own_cast (g' := (mkF m 83 #[iv i5, iv i0, iv i1, iv i6, iv i2, iv i3, iv i4, iv i7, iv i9, iv i8, iv i00, iv i01, iv i02, .unset, .unset, .unset, .unset, .unset, .unset, .unset, .unset, .unset, .unset, .unset, .unset, .unset, .unset, .unset, .unset, .unset, .unset, .unset] [(.int i0g)])) (by rw [q9]) ?_
   refine oIS X03 hx hby at_83 (l' := #[iv i5, iv i0, iv i1, iv i6, iv i2, iv i3, iv i4, iv i7, iv i9, iv i8, iv i00, iv i01, iv i02, iv i0g, .unset, .unset, .unset, .unset, .unset, .unset, .unset, .unset, .unset, .unset, .unset, .unset, .unset, .unset, .unset, .unset, .unset, .unset]) rfl ?_
   have J9 : ∀ (T02 : State) (L2 : List Loc) (X0c : Stand p l e room_1 s m #[(.int i5), (.int i0), (.int i1), (.int i6), (.int i2), (.int i3)] below meth c T02 L2 0 0) (e9 : T02.heap = h0) (N07 : Fr n0 L2) (i0b : Int32) (I09 : i0b = 0 ∨ i0b = 1), own_G p e below (T02.setTop (mkF m 99 #[iv i5, iv i0, iv i1, iv i6, iv i2, iv i3, iv i4, iv i7, iv i9, iv i8, iv i00, iv i01, iv i02, iv i0g, iv i0b, .unset, .unset, .unset, .unset, .unset, .unset, .unset, .unset, .unset, .unset, .unset, .unset, .unset, .unset, .unset, .unset, .unset] [])) (own_P s (own_Q1 Z i5 i0 i1 i6 i2 i3 i0f o06 o07 m1 o03 o9 o00 o01 m0 h0 n0) 56 320) := by
    intro T02 L2 X0c e9 N07 i0b I09
    have J00 : ∀ (T03 : State) (L3 : List Loc) (X0d : Stand p l e room_1 s m #[(.int i5), (.int i0), (.int i1), (.int i6), (.int i2), (.int i3)] below meth c T03 L3 0 0) (e00 : T03.heap = h0) (N08 : Fr n0 L3) (i0a : Int32) (I0a : i0a = 0 ∨ i0a = 1), own_G p e below (T03.setTop (mkF m 113 #[iv i5, iv i0, iv i1, iv i6, iv i2, iv i3, iv i4, iv i7, iv i9, iv i8, iv i00, iv i01, iv i02, iv i0g, iv i0b, iv i0a, .unset, .unset, .unset, .unset, .unset, .unset, .unset, .unset, .unset, .unset, .unset, .unset, .unset, .unset, .unset, .unset] [])) (own_P s (own_Q1 Z i5 i0 i1 i6 i2 i3 i0f o06 o07 m1 o03 o9 o00 o01 m0 h0 n0) 56 320) := by
     intro T03 L3 X0d e00 N08 i0a I0a
     have J01 : ∀ (T04 : State) (L4 : List Loc) (X0e : Stand p l e room_1 s m #[(.int i5), (.int i0), (.int i1), (.int i6), (.int i2), (.int i3)] below meth c T04 L4 0 0) (e01 : T04.heap = h0) (N09 : Fr n0 L4) (i07 : Int32) (I0b : i07 = 0 ∨ i07 = 1), own_G p e below (T04.setTop (mkF m 127 #[iv i5, iv i0, iv i1, iv i6, iv i2, iv i3, iv i4, iv i7, iv i9, iv i8, iv i00, iv i01, iv i02, iv i0g, iv i0b, iv i0a, iv i07, .unset, .unset, .unset, .unset, .unset, .unset, .unset, .unset, .unset, .unset, .unset, .unset, .unset, .unset, .unset] [])) (own_P s (own_Q1 Z i5 i0 i1 i6 i2 i3 i0f o06 o07 m1 o03 o9 o00 o01 m0 h0 n0) 56 320) := by
      intro T04 L4 X0e e01 N09 i07 I0b
      have J02 : ∀ (T0 : State) (L5 : List Loc) (X0 : Stand p l e room_1 s m #[(.int i5), (.int i0), (.int i1), (.int i6), (.int i2), (.int i3)] below meth c T0 L5 0 0) (e0 : T0.heap = h0) (N4 : Fr n0 L5) (i0h : Int32) (I01 : i0h = 0 ∨ i0h = 1), own_G p e below (T0.setTop (mkF m 142 #[iv i5, iv i0, iv i1, iv i6, iv i2, iv i3, iv i4, iv i7, iv i9, iv i8, iv i00, iv i01, iv i02, iv i0g, iv i0b, iv i0a, iv i07, iv i0h, .unset, .unset, .unset, .unset, .unset, .unset, .unset, .unset, .unset, .unset, .unset, .unset, .unset, .unset] [])) (own_P s (own_Q1 Z i5 i0 i1 i6 i2 i3 i0f o06 o07 m1 o03 o9 o00 o01 m0 h0 n0) 56 320) := by
       intro T0 L5 X0 e0 N4 i0h I01
       have J0 : ∀ (T9 : State) (L6 : List Loc) (X06 : Stand p l e room_1 s m #[(.int i5), (.int i0), (.int i1), (.int i6), (.int i2), (.int i3)] below meth c T9 L6 0 0) (e02 : T9.heap = h0) (N0a : Fr n0 L6) (i0e : Int32) (i08 : Int32) (i09 : Int32) (I0c : (i0e = 0 ∧ i08 = 1 ∧ i09 = 0) ∨ (i0e = 0 ∧ i08 = 0 ∧ i09 = 1) ∨ (i0e = 1 ∧ i08 = 1 ∧ i09 = 1) ∨ (i0e = 1 ∧ i08 = 0 ∧ i09 = 2) ∨ (i0e = 2 ∧ i08 = 1 ∧ i09 = 2) ∨ (i0e = 2 ∧ i08 = 0 ∧ i09 = 0)), own_G p e below (T9.setTop (mkF m 160 #[iv i5, iv i0, iv i1, iv i6, iv i2, iv i3, iv i4, iv i7, iv i9, iv i8, iv i00, iv i01, iv i02, iv i0e, iv i0b, iv i0a, iv i07, iv i08, iv i09, .unset, .unset, .unset, .unset, .unset, .unset, .unset, .unset, .unset, .unset, .unset, .unset, .unset] [])) (own_P s (own_Q1 Z i5 i0 i1 i6 i2 i3 i0f o06 o07 m1 o03 o9 o00 o01 m0 h0 n0) 56 320) := by
        intro T9 L6 X06 e02 N0a i0e i08 i09 I0c
        have J03 : ∀ (T00 : State) (L7 : List Loc) (X0a : Stand p l e room_1 s m #[(.int i5), (.int i0), (.int i1), (.int i6), (.int i2), (.int i3)] below meth c T00 L7 0 0) (e03 : T00.heap = h0) (N0b : Fr n0 L7) (i06 : Int32) (i03 : Int32) (I4 : (i06 = 1 ∧ i03 = i4) ∨ (i06 = 0 ∧ ¬ (i03 = i4))) (I5 : nar .short i03 = i03), own_G p e below (T00.setTop (mkF m 177 #[iv i5, iv i0, iv i1, iv i6, iv i2, iv i3, iv i4, iv i7, iv i9, iv i8, iv i00, iv i01, iv i02, iv i0e, iv i06, iv i0a, iv i07, iv i08, iv i09, iv i03, .unset, .unset, .unset, .unset, .unset, .unset, .unset, .unset, .unset, .unset, .unset, .unset] [])) (own_P s (own_Q1 Z i5 i0 i1 i6 i2 i3 i0f o06 o07 m1 o03 o9 o00 o01 m0 h0 n0) 56 320) := by
         intro T00 L7 X0a e03 N0b i06 i03 I4 I5
         have J04 : ∀ (T01 : State) (L8 : List Loc) (X0b : Stand p l e room_1 s m #[(.int i5), (.int i0), (.int i1), (.int i6), (.int i2), (.int i3)] below meth c T01 L8 0 0) (e04 : T01.heap = h0) (N0c : Fr n0 L8) (i0c : Int32) (i04 : Int32) (I6 : (i0c = 1 ∧ i04 = i0) ∨ (i0c = 0 ∧ ¬ (i04 = i0))), own_G p e below (T01.setTop (mkF m 191 #[iv i5, iv i0, iv i1, iv i6, iv i2, iv i3, iv i4, iv i7, iv i9, iv i8, iv i00, iv i01, iv i02, iv i0e, iv i06, iv i0c, iv i07, iv i08, iv i09, iv i03, iv i04, .unset, .unset, .unset, .unset, .unset, .unset, .unset, .unset, .unset, .unset, .unset] [])) (own_P s (own_Q1 Z i5 i0 i1 i6 i2 i3 i0f o06 o07 m1 o03 o9 o00 o01 m0 h0 n0) 56 320) := by
          intro T01 L8 X0b e04 N0c i0c i04 I6
          have J05 : ∀ (T07 : State) (L9 : List Loc) (X11 : Stand p l e room_1 s m #[(.int i5), (.int i0), (.int i1), (.int i6), (.int i2), (.int i3)] below meth c T07 L9 0 0) (e07 : T07.heap = h0) (N0v : Fr n0 L9) (i0d : Int32) (i05 : Int32) (I7 : (i0d = 1 ∧ i05 = i1) ∨ (i0d = 0 ∧ ¬ (i05 = i1))), own_G p e below (T07.setTop (mkF m 205 #[iv i5, iv i0, iv i1, iv i6, iv i2, iv i3, iv i4, iv i7, iv i9, iv i8, iv i00, iv i01, iv i02, iv i0e, iv i06, iv i0c, iv i0d, iv i08, iv i09, iv i03, iv i04, iv i05, .unset, .unset, .unset, .unset, .unset, .unset, .unset, .unset, .unset, .unset] [])) (own_P s (own_Q1 Z i5 i0 i1 i6 i2 i3 i0f o06 o07 m1 o03 o9 o00 o01 m0 h0 n0) 56 320) := by
           intro T07 L9 X11 e07 N0v i0d i05 I7
           refine oIL X11 hx hby at_205 rfl ?_
           refine own_cS X11 hx hZ hown e07 (y := mN3) (hw 1) (hw 2) (hw 3) (hw 4) (by decide) (W := 0) (own_rm2 l Z a0 hw [] i7 i0f h0 n0 Z0 O00 I9 I00 b0f) [(.int i7)] [] hml (lenOf own_pd3 rfl) (hb hby at_207) fun T0R h0i v0 L06 X12 e0k q00 => ?_
           obtain ⟨o0q, o0s, m7, rfl, N0O, K0c, F6y, F6z, F2v, F2w, F2x, F2y, F2z, F2A, F6A, F2B, F2C⟩ := q00
           have N0P := Fr.app N0v N0O
           have z0 := K0c.1
           refine oIL X12 hx hby at_210 rfl ?_
           refine oIL X12 hx hby at_212 rfl ?_
           have N0w : n0 ≤ o0q := by omega
           have O01 : Old Z n0 h0i := O00.keep K0c all0
           have Z1 : n0 ≤ h0i.size := by omega
           refine own_cS X12 hx hZ hown e0k (y := mN18) (hw 27) (hw 28) (hw 29) (hw 30) (by decide) (W := 0) (own_rm6 l Z a0 hw [] i8 i00 i0f i7 m7 m1 o0q o06 o0s o07 h0i n0 Z1 O01 I05 F2y F2B F2z I9 I00 F2x F2v F2w F2A F2C N0w I06 I07 I08) [(.ref o0q), (.int i8), (.int i00)] [] hml (lenOf own_pd12 rfl) (hb hby at_214) fun T0S h0j v1 L07 X13 e0l q01 => ?_
           obtain ⟨o1, rfl, N0Q, K0d, F6B, F6C, F6D, F6E, F07, F6F, F6G, F6H, F6I, F6J, F7, F6K⟩ := q01
           have N0R := Fr.app N0P N0Q
           have z1 := K0d.1
           refine oAS X13 hx hby at_217 rfl (l' := #[iv i5, iv i0, iv i1, iv i6, iv i2, iv i3, iv i4, iv i7, iv i9, iv i8, iv i00, iv i01, iv i02, iv i0e, iv i06, iv i0c, iv i0d, iv i08, iv i09, iv i03, iv i04, iv i05, rv o1, .unset, .unset, .unset, .unset, .unset, .unset, .unset, .unset, .unset]) rfl ?_
           refine oIL X13 hx hby at_219 rfl ?_
           have O02 : Old Z n0 h0j := O01.keep K0d (allS N0w all0)
           have Z2 : n0 ≤ h0j.size := by omega
           refine own_cS X13 hx hZ hown e0l (y := mN3) (hw 1) (hw 2) (hw 3) (hw 4) (by decide) (W := 0) (own_rm2 l Z a0 hw [] i9 i0f h0j n0 Z2 O02 I9 I00 b0g) [(.int i9)] [] hml (lenOf own_pd3 rfl) (hb hby at_221) fun T0m h0k v2 L08 X14 e0m q02 => ?_
           obtain ⟨o0h, o0t, m8, rfl, N0S, K5, F6L, F6M, F2D, F2E, F2F, F2G, F2H, F2I, F6N, F2J, F2K⟩ := q02
           have N0T := Fr.app N0R N0S
           have z2 := K5.1
           refine oIL X14 hx hby at_224 rfl ?_
           show own_G p e below (T0m.setTop (mkF m 226 #[iv i5, iv i0, iv i1, iv i6, iv i2, iv i3, iv i4, iv i7, iv i9, iv i8, iv i00, iv i01, iv i02, iv i0e, iv i06, iv i0c, iv i0d, iv i08, iv i09, iv i03, iv i04, iv i05, rv o1, .unset, .unset, .unset, .unset, .unset, .unset, .unset, .unset, .unset] [(.int i01), (.ref o0h)])) _
           refine oIL X14 hx hby at_226 rfl ?_
           have N0x : n0 ≤ o0h := by omega
           have O03 : Old Z n0 h0k := O02.keep K5 all0
           have Z3 : n0 ≤ h0k.size := by omega
           refine own_cS X14 hx hZ hown e0m (y := mN18) (hw 27) (hw 28) (hw 29) (hw 30) (by decide) (W := 0) (own_rm6 l Z a0 hw [] i01 i02 i0f i9 m8 m1 o0h o06 o0t o07 h0k n0 Z3 O03 I05 F2G F2J F2H I9 I00 F2F F2D F2E F2I F2K N0x I06 I07 I08) [(.ref o0h), (.int i01), (.int i02)] [] hml (lenOf own_pd12 rfl) (hb hby at_228) fun T0T h0o v3 L09 X1n e0n q03 => ?_
           obtain ⟨o2, rfl, N0U, K6, F6O, F6P, F6Q, F6R, F0n, F6S, F6T, F6U, F6V, F6W, F08, F6X⟩ := q03
           have N0V := Fr.app N0T N0U
           have z3 := K6.1
           refine oAS X1n hx hby at_231 rfl (l' := #[iv i5, iv i0, iv i1, iv i6, iv i2, iv i3, iv i4, iv i7, iv i9, iv i8, iv i00, iv i01, iv i02, iv i0e, iv i06, iv i0c, iv i0d, iv i08, iv i09, iv i03, iv i04, iv i05, rv o1, rv o2, .unset, .unset, .unset, .unset, .unset, .unset, .unset, .unset]) rfl ?_
           obtain ⟨T0U, h01, X1o, e0o, E0, A05, D0, U0, s0⟩ := newO X1n hx hZ hown (hw 121) (hw 122) (hw 123) e0n (g := (mkF m 233 #[iv i5, iv i0, iv i1, iv i6, iv i2, iv i3, iv i4, iv i7, iv i9, iv i8, iv i00, iv i01, iv i02, iv i0e, iv i06, iv i0c, iv i0d, iv i08, iv i09, iv i03, iv i04, iv i05, rv o1, rv o2, .unset, .unset, .unset, .unset, .unset, .unset, .unset, .unset] [])) rfl (hb hby at_233) (by decide) (by decide)
           obtain ⟨o0, g0⟩ : ∃ z, z = h0o.size := ⟨_, rfl⟩
           rw [← g0] at A05 D0 U0 s0
           have z4 := E0.1
           have y0U : @LT.lt Nat instLTNat o0 h01.size := A05.lt
           refine oS s0 ?_
           have F2L : Fld Z h01 o0 cN9 "modCount" "I" (.int 0) := D0 (Or.inl (hw 141)) (ty := .int) (by decide)
           have F2M : Fld Z h01 o0 cN10 "elementData" cN3 .null := D0 (Or.inl (hw 144)) (ty := (.array (.object cN1))) (by decide)
           have F2N : Fld Z h01 o0 cN10 "size" "I" (.int 0) := D0 (Or.inl (hw 157)) (ty := .int) (by decide)
           refine oS (fun _ => XS.dup X1o.here hx rfl (hb hby at_236) rfl rfl) ?_
           have N0 : n0 ≤ o0 := by omega
           have O0s : Old Z n0 h0o := O03.keep K6 (allS N0x all0)
           have O6 : Old Z n0 h01 := O0s.ext E0
           have Z4 : n0 ≤ h01.size := by omega
           refine own_cN X1o hx hZ hown e0o (y := mN21) (b := o0) rfl (hw 124) (hw 125) (hw 123) (hw 126) (by decide) (W := 1) (own_rm17 l Z a0 hw [] o0 o03 h01 n0 Z4 O6 F2L A05 N0 F2M F2N I3) [] [(.ref o0)] hml (lenOf own_pd13 rfl) (hb hby at_237) fun T08 h8 v4 L0a X02 e05 q04 => ?_
           obtain ⟨rfl, N0W, K0, F8, F6, F0o, F9⟩ := q04
           have N0d := Fr.app N0V N0W
           have z5 := K0.1
           refine oAS X02 hx hby at_240 rfl (l' := #[iv i5, iv i0, iv i1, iv i6, iv i2, iv i3, iv i4, iv i7, iv i9, iv i8, iv i00, iv i01, iv i02, iv i0e, iv i06, iv i0c, iv i0d, iv i08, iv i09, iv i03, iv i04, iv i05, rv o1, rv o2, rv o0, .unset, .unset, .unset, .unset, .unset, .unset, .unset]) rfl ?_
           show own_G p e below (T08.setTop (mkF m 242 #[iv i5, iv i0, iv i1, iv i6, iv i2, iv i3, iv i4, iv i7, iv i9, iv i8, iv i00, iv i01, iv i02, iv i0e, iv i06, iv i0c, iv i0d, iv i08, iv i09, iv i03, iv i04, iv i05, rv o1, rv o2, rv o0, .unset, .unset, .unset, .unset, .unset, .unset, .unset] [])) _
           rcases own_six I0c with ⟨q2, q3⟩ | ⟨q2, q3⟩ | ⟨q2, q3⟩
           ·skip
            refine own_cast (g' := (mkF m 242 #[iv i5, iv i0, iv i1, iv i6, iv i2, iv i3, iv i4, iv i7, iv i9, iv i8, iv i00, iv i01, iv i02, iv 0, iv i06, iv i0c, iv i0d, iv i08, iv i09, iv i03, iv i04, iv i05, rv o1, rv o2, rv o0, .unset, .unset, .unset, .unset, .unset, .unset, .unset] [])) (by rw [q2]) ?_
            let A02 : Slot → Slot → Slot → Slot → Slot → Slot → Slot → Slot → Slot → Array Slot := fun x17 x18 x25 x26 x27 x28 x29 x30 x31 => #[iv i5, iv i0, iv i1, iv i6, iv i2, iv i3, iv i4, iv i7, iv i9, iv i8, iv i00, iv i01, iv i02, iv 0, iv i06, iv i0c, iv i0d, x17, x18, iv i03, iv i04, iv i05, rv o1, rv o2, rv o0, x25, x26, x27, x28, x29, x30, x31]
            show own_G p e below (T08.setTop (mkF m 242 (A02 (iv i08) (iv i09) .unset .unset .unset .unset .unset .unset .unset) [])) _
            refine oIL X02 hx hby at_242 rfl ?_
            refine oIC X02 hx hby at_244 ?_
            refine oYI X02 hx hby (pc' := 258) at_245 (XT.ii_lt_t (by decide)) ?_
            refine oIL X02 hx hby at_258 rfl ?_
            refine oIC X02 hx hby at_260 ?_
            refine oYI X02 hx hby (pc' := 274) at_261 (XT.ii_lt_t (by decide)) ?_
            obtain ⟨T0V, h02, X1p, e0p, E3, A06, D1, U1, s1⟩ := newO X02 hx hZ hown (hw 121) (hw 122) (hw 123) e05 (g := (mkF m 274 (A02 (iv i08) (iv i09) .unset .unset .unset .unset .unset .unset .unset) [])) rfl (hb hby at_274) (by decide) (by decide)
            obtain ⟨o8, g1⟩ : ∃ z, z = h8.size := ⟨_, rfl⟩
            rw [← g1] at A06 D1 U1 s1
            have z6 := E3.1
            have y0V : @LT.lt Nat instLTNat o8 h02.size := A06.lt
            refine oS s1 ?_
            have F2O : Fld Z h02 o8 cN9 "modCount" "I" (.int 0) := D1 (Or.inl (hw 141)) (ty := .int) (by decide)
            have F2P : Fld Z h02 o8 cN10 "elementData" cN3 .null := D1 (Or.inl (hw 144)) (ty := (.array (.object cN1))) (by decide)
            have F2Q : Fld Z h02 o8 cN10 "size" "I" (.int 0) := D1 (Or.inl (hw 157)) (ty := .int) (by decide)
            refine oS (fun _ => XS.dup X1p.here hx rfl (hb hby at_277) rfl rfl) ?_
            have N7 : n0 ≤ o8 := by omega
            have O0t : Old Z n0 h8 := O6.keep K0 (allS N0 all0)
            have O7 : Old Z n0 h02 := O0t.ext E3
            have Z5 : n0 ≤ h02.size := by omega
            refine own_cN X1p hx hZ hown e0p (y := mN21) (b := o8) rfl (hw 124) (hw 125) (hw 123) (hw 126) (by decide) (W := 1) (own_rm17 l Z a0 hw [] o8 o03 h02 n0 Z5 O7 F2O A06 N7 F2P F2Q I3) [] [(.ref o8)] hml (lenOf own_pd13 rfl) (hb hby at_278) fun T09 h9 v5 L0b X04 e08 q05 => ?_
            obtain ⟨rfl, N0X, K04, F0p, F09, F2R, F0q⟩ := q05
            have N0y := Fr.app N0d N0X
            have z7 := K04.1
            refine oAS X04 hx hby at_281 rfl (l' := (A02 (iv i08) (iv i09) (rv o8) .unset .unset .unset .unset .unset .unset)) rfl ?_
            show own_G p e below (T09.setTop (mkF m 283 (A02 (iv i08) (iv i09) (rv o8) .unset .unset .unset .unset .unset .unset) [])) _
            rcases q3 with ⟨q0, q1⟩ | ⟨q0, q1⟩
            ·skip
             refine own_cast (g' := (mkF m 283 #[iv i5, iv i0, iv i1, iv i6, iv i2, iv i3, iv i4, iv i7, iv i9, iv i8, iv i00, iv i01, iv i02, iv 0, iv i06, iv i0c, iv i0d, iv 1, iv 0, iv i03, iv i04, iv i05, rv o1, rv o2, rv o0, rv o8, .unset, .unset, .unset, .unset, .unset, .unset] [])) (by rw [q0, q1]) ?_
             let A03 : Slot → Slot → Slot → Slot → Slot → Slot → Array Slot := fun x26 x27 x28 x29 x30 x31 => #[iv i5, iv i0, iv i1, iv i6, iv i2, iv i3, iv i4, iv i7, iv i9, iv i8, iv i00, iv i01, iv i02, iv 0, iv i06, iv i0c, iv i0d, iv 1, iv 0, iv i03, iv i04, iv i05, rv o1, rv o2, rv o0, rv o8, x26, x27, x28, x29, x30, x31]
             show own_G p e below (T09.setTop (mkF m 283 (A03 .unset .unset .unset .unset .unset .unset) [])) _
             refine oIL X04 hx hby at_283 rfl ?_
             refine oIC X04 hx hby at_285 ?_
             refine oYI X04 hx hby (pc' := 299) at_286 (XT.ii_lt_t (by decide)) ?_
             refine oIL X04 hx hby at_299 rfl ?_
             refine oIC X04 hx hby at_301 ?_
             refine oYI X04 hx hby (pc' := 315) at_302 (XT.ii_lt_t (by decide)) ?_
             refine oIL X04 hx hby at_315 rfl ?_
             refine oAL X04 hx hby at_317 rfl rfl ?_
             refine oIN X04 hx hby at_319 rfl ?_
             refine oIN X04 hx hby at_320 rfl ?_
             show own_G p e below (T09.setTop (mkF m 321 (A03 .unset .unset .unset .unset .unset .unset) [(.int i1), (.int i0), (.ref o0), (.int i4)])) _
             have F0r := (Exa.ext E3 F6).keep K04
             have N0z : @Ne Nat o0 o8 := by omega
             have F2S := (Fld.ext E3 F8).keep K04 (ninS N0z nin0)
             have y0 : @LT.lt Nat instLTNat o0 h9.size := by omega
             have F0s := (Fld.ext E3 F9).keep K04 (ninS N0z nin0)
             have O04 : Old Z n0 h9 := O7.keep K04 (allS N7 all0)
             have Z6 : n0 ≤ h9.size := by omega
             refine own_cS X04 hx hZ hown e08 (y := mN34) (hw 180) (hw 181) (hw 29) (hw 182) (by decide) (W := 0) (own_rm20 l Z a0 hw [] i4 i0 i1 o0 o9 o00 o01 h9 n0 Z6 O04 F0r I0 I1 I2 b0 F2S y0 F0s) [(.int i4), (.ref o0), (.int i0), (.int i1)] [] hml (lenOf own_pd19 rfl) (hb hby at_321) fun T0W h0f v6 L0c X0r e0q q06 => ?_
             obtain ⟨o0a, o02, rfl, N0Y, K0h, F6Y, F6Z, F2T, F2U, F2V, F2W, F2X, F2Y, F2Z, F30, F31, F70, F71, F72⟩ := q06
             have N0Z := Fr.app N0y N0Y
             have z8 := K0h.1
             refine oAS X0r hx hby at_324 rfl (l' := (A03 (rv o0a) .unset .unset .unset .unset .unset)) rfl ?_
             refine oIL X0r hx hby at_326 rfl ?_
             refine oAL X0r hx hby at_328 rfl rfl ?_
             refine oIL X0r hx hby at_330 rfl ?_
             refine oIL X0r hx hby at_332 rfl ?_
             have F0t := F09.keep K0h
             have F32 := F0p.keep K0h nin0
             have y1 : @LT.lt Nat instLTNat o8 h0f.size := by omega
             have F0u := F0q.keep K0h nin0
             have O05 : Old Z n0 h0f := O04.keep K0h all0
             have Z7 : n0 ≤ h0f.size := by omega
             refine own_cS X0r hx hZ hown e0q (y := mN34) (hw 180) (hw 181) (hw 29) (hw 182) (by decide) (W := 0) (own_rm20 l Z a0 hw [] i03 i04 i05 o8 o9 o00 o01 h0f n0 Z7 O05 F0t I0 I1 I2 I5 F32 y1 F0u) [(.int i03), (.ref o8), (.int i04), (.int i05)] [] hml (lenOf own_pd19 rfl) (hb hby at_334) fun T0X h5 v7 L0d X15 e0r q07 => ?_
             obtain ⟨o0j, o0u, rfl, N10, K9, F73, F74, F0v, F33, F34, F35, F36, F37, F0w, F38, F39, F75, F3a, F3b⟩ := q07
             have N11 := Fr.app N0Z N10
             have z9 := K9.1
             refine oAS X15 hx hby at_337 rfl (l' := (A03 (rv o0a) (rv o0j) .unset .unset .unset .unset)) rfl ?_
             let A2 : Slot → Slot → Slot → Slot → Array Slot := fun x28 x29 x30 x31 => #[iv i5, iv i0, iv i1, iv i6, iv i2, iv i3, iv i4, iv i7, iv i9, iv i8, iv i00, iv i01, iv i02, iv 0, iv i06, iv i0c, iv i0d, iv 1, iv 0, iv i03, iv i04, iv i05, rv o1, rv o2, rv o0, rv o8, rv o0a, rv o0j, x28, x29, x30, x31]
             refine oAL X15 hx hby at_339 rfl rfl ?_
             have F0x := F2Y.keep K9 nin0
             have O3 : Old Z n0 h5 := O05.keep K9 all0
             have Z8 : n0 ≤ h5.size := by omega
             have F0 := F2T.keep K9
             refine own_cV X15 hx hZ hown e0r (y := mN35) (z := mN35) (b := o0a) (hw 313) (hw 314) (notFace_of_selects (args := #[]) (mvT hZ (hw 316))) (hw 316) (hw 315) (hw 29) (hw 317) (by decide) F0 (W := 0) (own_rm33 l Z a0 hw [] o0a o02 h5 n0 Z8 O3 F0x) [] [] hml (lenOf own_pd4 rfl) (hb hby at_341) fun T0n h0u v8 L0e X16 e0s q08 => ?_
             obtain ⟨rfl, N12, K0s⟩ := q08
             have N13 := Fr.app N11 N12
             have e0t := e0s.trans K0s
             show own_G p e below (T0n.setTop (mkF m 344 (A2 .unset .unset .unset .unset) [(.ref o02)])) _
             refine oAS X16 hx hby at_344 rfl (l' := (A2 (rv o02) .unset .unset .unset)) rfl ?_
             refine oAL X16 hx hby at_346 rfl rfl ?_
             have F0y := F2U.keep K9 nin0
             have Z9 : n0 ≤ h5.size := by omega
             refine own_cV X16 hx hZ hown e0t (y := mN36) (z := mN36) (b := o0a) (hw 318) (hw 319) (notFace_of_selects (args := #[]) (mvT hZ (hw 321))) (hw 321) (hw 320) (hw 29) (hw 322) (by decide) F0 (W := 0) (own_rm34 l Z a0 hw [] i4 o0a h5 n0 Z9 O3 F0y b0) [] [] hml (lenOf own_pd20 rfl) (hb hby at_348) fun T0Y h0v v9 L0f X0D e0u q09 => ?_
             obtain ⟨rfl, N14, K0t⟩ := q09
             have N15 := Fr.app N13 N14
             have e0v := e0u.trans K0t
             refine oIL X0D hx hby at_351 rfl ?_
             refine oNI X0D hx hby at_353 (XT.ii_ne_f rfl) ?_
             refine oAL X0D hx hby at_356 rfl rfl ?_
             have F0z := F2V.keep K9 nin0
             have Z00 : n0 ≤ h5.size := by omega
             refine own_cV X0D hx hZ hown e0v (y := mN37) (z := mN37) (b := o0a) (hw 323) (hw 324) (notFace_of_selects (args := #[]) (mvT hZ (hw 326))) (hw 326) (hw 325) (hw 29) (hw 327) (by decide) F0 (W := 0) (own_rm35 l Z a0 hw [] o0a h5 n0 Z00 O3 F0z) [] [] hml (lenOf own_pd21 rfl) (hb hby at_358) fun T0Z h0w v00 L0g X17 e0w q0a => ?_
             obtain ⟨rfl, N16, K0u⟩ := q0a
             have N17 := Fr.app N15 N16
             have e0x := e0w.trans K0u
             refine oS (fun _ => XT.ifnonnullNo X17.here hx rfl (hb hby at_361) rfl) ?_
             refine oAL X17 hx hby at_364 rfl rfl ?_
             have F0A := F2W.keep K9 nin0
             have Z01 : n0 ≤ h5.size := by omega
             refine own_cV X17 hx hZ hown e0x (y := mN38) (z := mN38) (b := o0a) (hw 328) (hw 329) (notFace_of_selects (args := #[]) (mvT hZ (hw 331))) (hw 331) (hw 330) (hw 29) (hw 332) (by decide) F0 (W := 0) (own_rm36 l Z a0 hw [] i0 o0a h5 n0 Z01 O3 F0A) [] [] hml (lenOf own_pd7 rfl) (hb hby at_366) fun T0o h0x v01 L0h X0E e0y q0b => ?_
             obtain ⟨rfl, N18, K0v⟩ := q0b
             have N19 := Fr.app N17 N18
             have e0z := e0y.trans K0v
             show own_G p e below (T0o.setTop (mkF m 369 (A2 (rv o02) .unset .unset .unset) [(.int i0)])) _
             refine oIN X0E hx hby at_369 rfl ?_
             refine oNI X0E hx hby at_370 (XT.ii_ne_f rfl) ?_
             refine oAL X0E hx hby at_373 rfl rfl ?_
             have F0B := F2X.keep K9 nin0
             have Z02 : n0 ≤ h5.size := by omega
             refine own_cV X0E hx hZ hown e0z (y := mN39) (z := mN39) (b := o0a) (hw 333) (hw 334) (notFace_of_selects (args := #[]) (mvT hZ (hw 336))) (hw 336) (hw 335) (hw 29) (hw 337) (by decide) F0 (W := 0) (own_rm37 l Z a0 hw [] i1 o0a h5 n0 Z02 O3 F0B) [] [] hml (lenOf own_pd7 rfl) (hb hby at_375) fun T10 h0y v02 L0i X0F e0A q0c => ?_
             obtain ⟨rfl, N1a, K0w⟩ := q0c
             have N1b := Fr.app N19 N1a
             have e0B := e0A.trans K0w
             refine oIN X0F hx hby at_378 rfl ?_
             refine oNI X0F hx hby at_379 (XT.ii_ne_f rfl) ?_
             refine oAL X0F hx hby at_382 rfl rfl ?_
             have F0C := F31.keep K9 nin0
             have F0D := (F0s.keep K0h nin0).keep K9 nin0
             have F0E := (F0r.keep K0h).keep K9
             have Z03 : n0 ≤ h5.size := by omega
             have F0F := F30.keep K9
             refine own_cI X0F hx hZ hown e0B (y := mN55) (z := mN41) (b := o02) (hw 338) (hw 339) (hw 340) rfl (hw 341) (hw 342) (hw 343) (hw 344) (hw 229) (hw 218) (hw 345) (by decide) F0F (W := 0) (own_rm38 l Z a0 hw [] o02 o0 h5 n0 Z03 O3 F0C F0D F0E) [] [] hml (lenOf own_pd7 rfl) (hb hby at_384) fun T1 h0z v03 L0j X1 e0C q0d => ?_
             obtain ⟨rfl, N1c, K0x⟩ := q0d
             have N8 := Fr.app N1b N1c
             have e1 := e0C.trans K0x
             refine oIL X1 hx hby at_389 rfl ?_
             refine oNI X1 hx hby at_391 (XT.ii_ne_f (by decide)) ?_
             show own_G p e below (T1.setTop (mkF m 394 (A2 (rv o02) .unset .unset .unset) [])) _
             refine oIC X1 hx hby at_394 ?_
             refine oGO X1 hx hby (pc' := 399) at_395 ?_
             refine oIS X1 hx hby at_399 (l' := (A2 (rv o02) (iv 1) .unset .unset)) rfl ?_
             refine oIL X1 hx hby at_401 rfl ?_
             refine oN0 X1 hx hby at_403 (XT.i0_eq_f (by decide)) ?_
             refine oIL X1 hx hby at_406 rfl ?_
             refine oIC X1 hx hby at_408 ?_
             refine oYI X1 hx hby (pc' := 432) at_409 (XT.ii_lt_t (by decide)) ?_
             refine oIL X1 hx hby at_432 rfl ?_
             refine oN0 X1 hx hby at_434 (XT.i0_eq_f (by decide)) ?_
             show own_G p e below (T1.setTop (mkF m 437 (A2 (rv o02) (iv 1) .unset .unset) [])) _
             refine oIL X1 hx hby at_437 rfl ?_
             refine oIC X1 hx hby at_439 ?_
             refine oYI X1 hx hby (pc' := 463) at_440 (XT.ii_lt_t (by decide)) ?_
             have J1 : ∀ (T0a : State) (L00 : List Loc) (X0G : Stand p l e room_1 s m #[(.int i5), (.int i0), (.int i1), (.int i6), (.int i2), (.int i3)] below meth c T0a L00 18 64) (e09 : T0a.heap = h5) (N0e : Fr n0 L00) (i0i : Int32) (I02 : (i0i = 1 ∧ i03 = i4 ∧ i04 = i0 ∧ i05 = i1) ∨ (i0i = 0 ∧ ¬ (i03 = i4 ∧ i04 = i0 ∧ i05 = i1))), own_G p e below (T0a.setTop (mkF m 490 (A2 (rv o02) (iv 1) (iv i0i) .unset) [])) (own_P s (own_Q1 Z i5 i0 i1 i6 i2 i3 i0f o06 o07 m1 o03 o9 o00 o01 m0 h0 n0) 56 320) := by
              intro T0a L00 X0G e09 N0e i0i I02
              refine oAL X0G hx hby at_490 rfl rfl ?_
              refine oAL X0G hx hby at_492 rfl rfl ?_
              have N1d : @Ne Nat o0a o0j := by omega
              have F0G := F2Z.keep K9 nin0
              have y2 : @LT.lt Nat instLTNat o0a h5.size := by omega
              have y3 : @LT.lt Nat instLTNat o02 h5.size := by omega
              have y4 : @LT.lt Nat instLTNat o0 h5.size := by omega
              have F3c := F0u.keep K9 nin0
              have y5 : @LT.lt Nat instLTNat o8 h5.size := by omega
              have F3d := F0t.keep K9
              have Z04 : n0 ≤ h5.size := by omega
              refine own_cV X0G hx hZ hown e09 (y := mN56) (z := mN56) (b := o0a) (hw 380) (hw 381) (notFace_of_selects (args := #[]) (mvT hZ (hw 383))) (hw 383) (hw 382) (hw 29) (hw 384) (by decide) F0 (W := 0) (own_rm40 l Z a0 hw [] i4 i0 i1 i03 i04 i05 o0a o0j o02 o0 o0u o8 h5 n0 Z04 O3 F0v F0 N1d F0G y2 F0w F3a F0y F33 F0A F35 F0B F36 F0z F34 F0x F0C y3 F0D y4 F0E F0F F37 F39 F3b F3c y5 F3d F38) [(.ref o0j)] [] hml (lenOf own_pd28 rfl) (hb hby at_494) fun T0b h03 v04 L0k X6 e0a q0e => ?_
              rcases q0e with ⟨b0i, b0j, b0k, b0l, rfl, N1e, K0j⟩ | ⟨b0m, rfl, N1f, K0m⟩
              ·skip
               have N1g := Fr.app N0e N1e
               have z00 := K0j.1
               refine oIS X6 hx hby at_497 (l' := (A2 (rv o02) (iv 1) (iv i0i) (iv 1))) rfl ?_
               refine oIL X6 hx hby at_499 rfl ?_
               refine oN0 X6 hx hby at_501 (XT.i0_eq_f (by decide)) ?_
               refine oIL X6 hx hby at_504 rfl ?_
               show own_G p e below (T0b.setTop (mkF m 506 (A2 (rv o02) (iv 1) (iv i0i) (iv 1)) [(.int 1)])) _
               refine oIL X6 hx hby at_506 rfl ?_
               refine oNI X6 hx hby at_508 (XT.ii_ne_f (Eq.symm (own_x1 I02 ⟨Eq.symm b0j, Eq.symm b0k, Eq.symm b0l⟩))) ?_
               refine oIC X6 hx hby at_511 ?_
               refine oGO X6 hx hby (pc' := 516) at_512 ?_
               refine oIS X6 hx hby at_516 (l' := (A2 (rv o02) (iv 1) (iv i0i) (iv 1))) rfl ?_
               refine oIL X6 hx hby at_518 rfl ?_
               refine oN0 X6 hx hby at_520 (XT.i0_eq_f (by decide)) ?_
               refine oIL X6 hx hby at_523 rfl ?_
               refine oN0 X6 hx hby at_525 (XT.i0_eq_f (by decide)) ?_
               refine oAL X6 hx hby at_528 rfl rfl ?_
               show own_G p e below (T0b.setTop (mkF m 530 (A2 (rv o02) (iv 1) (iv i0i) (iv 1)) [(.ref o0a)])) _
               have F3e := F0G.keep K0j nin0
               have O06 : Old Z n0 h03 := O3.keep K0j all0
               have Z05 : n0 ≤ h03.size := by omega
               have F3f := F0.keep K0j
               refine own_cV X6 hx hZ hown e0a (y := mN60) (z := mN60) (b := o0a) (hw 459) (hw 460) (notFace_of_selects (args := #[]) (mvT hZ (hw 461))) (hw 461) (hw 309) (hw 29) (hw 312) (by decide) F3f (W := 0) (own_rm54 l Z a0 hw [] i4 i0 i1 o0a h03 n0 Z05 O06 F3e) [] [] hml (lenOf own_pd7 rfl) (hb hby at_530) fun T11 h0A v05 L0l X1q e0D q0f => ?_
               obtain ⟨rfl, N1h, K0y⟩ := q0f
               have N1i := Fr.app N1g N1h
               have e0E := e0D.trans K0y
               refine oAL X1q hx hby at_533 rfl rfl ?_
               have F3g := F0w.keep K0j nin0
               have Z06 : n0 ≤ h03.size := by omega
               have F3h := F0v.keep K0j
               refine own_cV X1q hx hZ hown e0E (y := mN60) (z := mN60) (b := o0j) (hw 459) (hw 460) (notFace_of_selects (args := #[]) (mvT hZ (hw 461))) (hw 461) (hw 309) (hw 29) (hw 312) (by decide) F3h (W := 1) (own_rm54 l Z a0 hw [] i03 i04 i05 o0j h03 n0 Z06 O06 F3g) [] [(.int (((31 : Int32) * (((31 : Int32) * (((31 : Int32) * i4) + 0)) + i0)) + i1))] hml (lenOf own_pd7 rfl) (hb hby at_535) fun T12 h0B v06 L0m X0s e0F q0g => ?_
               obtain ⟨rfl, N1j, K0z⟩ := q0g
               have N1k := Fr.app N1i N1j
               have e0G := e0F.trans K0z
               refine oNI X0s hx hby at_538 (XT.ii_ne_f b0i) ?_
               refine oIC X0s hx hby at_541 ?_
               refine oGO X0s hx hby (pc' := 546) at_542 ?_
               refine oIS X0s hx hby at_546 (l' := (A2 (rv o02) (iv 1) (iv i0i) (iv 1))) rfl ?_
               refine oIL X0s hx hby at_548 rfl ?_
               have K1e : Keep h0 h03 [] := ((((((((((((Keep.refl h0 []).trans K0c all0).trans K0d (allS (Or.inr (by omega)) all0)).trans K5 all0).trans K6 (allS (Or.inr (by omega)) all0)).ext E0).trans K0 (allS (Or.inr (by omega)) all0)).ext E3).trans K04 (allS (Or.inr (by omega)) all0)).trans K0h all0).trans K9 all0).trans K0j all0)
               exact own_retN X0s hx (t := .boolean) Bd.notSynchronized Bd.returns (by simp) (hb hby at_550) (by decide) e0G (by decide) (by decide) (⟨rfl, N1k⟩)
              ·skip
               have N1l := Fr.app N0e N1f
               have z01 := K0m.1
               refine oIS X6 hx hby at_497 (l' := (A2 (rv o02) (iv 1) (iv i0i) (iv 0))) rfl ?_
               show own_G p e below (T0b.setTop (mkF m 499 (A2 (rv o02) (iv 1) (iv i0i) (iv 0)) [])) _
               refine oIL X6 hx hby at_499 rfl ?_
               refine oN0 X6 hx hby at_501 (XT.i0_eq_f (by decide)) ?_
               refine oIL X6 hx hby at_504 rfl ?_
               refine oIL X6 hx hby at_506 rfl ?_
               refine oNI X6 hx hby at_508 (XT.ii_ne_f (Eq.symm (own_x0 I02 (fun z => b0m ⟨Eq.symm z.1, Eq.symm z.2.1, Eq.symm z.2.2⟩)))) ?_
               refine oIC X6 hx hby at_511 ?_
               refine oGO X6 hx hby (pc' := 516) at_512 ?_
               refine oIS X6 hx hby at_516 (l' := (A2 (rv o02) (iv 1) (iv i0i) (iv 0))) rfl ?_
               refine oIL X6 hx hby at_518 rfl ?_
               refine oN0 X6 hx hby at_520 (XT.i0_eq_f (by decide)) ?_
               show own_G p e below (T0b.setTop (mkF m 523 (A2 (rv o02) (iv 1) (iv i0i) (iv 0)) [])) _
               refine oIL X6 hx hby at_523 rfl ?_
               refine oY0 X6 hx hby (pc' := 548) at_525 (XT.i0_eq_t (by decide)) ?_
               refine oIL X6 hx hby at_548 rfl ?_
               have K1f : Keep h0 h03 [] := ((((((((((((Keep.refl h0 []).trans K0c all0).trans K0d (allS (Or.inr (by omega)) all0)).trans K5 all0).trans K6 (allS (Or.inr (by omega)) all0)).ext E0).trans K0 (allS (Or.inr (by omega)) all0)).ext E3).trans K04 (allS (Or.inr (by omega)) all0)).trans K0h all0).trans K9 all0).trans K0m all0)
               exact own_retN X6 hx (t := .boolean) Bd.notSynchronized Bd.returns (by simp) (hb hby at_550) (by decide) e0a (by decide) (by decide) (⟨rfl, N1l⟩)
             refine oIL X1 hx hby at_463 rfl ?_
             by_cases b1 : i06 = 0
             ·skip
              refine oY0 X1 hx hby (pc' := 487) at_465 (XT.i0_eq_t b1) ?_
              show own_G p e below (T1.setTop (mkF m 487 (A2 (rv o02) (iv 1) .unset .unset) [])) _
              refine oIC X1 hx hby at_487 ?_
              refine oIS X1 hx hby at_488 (l' := (A2 (rv o02) (iv 1) (iv 0) .unset)) rfl ?_
              exact J1 T1 _ X1 e1 N8 0 (Or.inr ⟨rfl, fun z => own_en I4 b1 z.1⟩)
             ·skip
              refine oN0 X1 hx hby at_465 (XT.i0_eq_f b1) ?_
              show own_G p e below (T1.setTop (mkF m 468 (A2 (rv o02) (iv 1) .unset .unset) [])) _
              refine oIL X1 hx hby at_468 rfl ?_
              by_cases b2 : i0c = 0
              ·skip
               refine oY0 X1 hx hby (pc' := 487) at_470 (XT.i0_eq_t b2) ?_
               show own_G p e below (T1.setTop (mkF m 487 (A2 (rv o02) (iv 1) .unset .unset) [])) _
               refine oIC X1 hx hby at_487 ?_
               refine oIS X1 hx hby at_488 (l' := (A2 (rv o02) (iv 1) (iv 0) .unset)) rfl ?_
               exact J1 T1 _ X1 e1 N8 0 (Or.inr ⟨rfl, fun z => own_en I6 b2 z.2.1⟩)
              ·skip
               refine oN0 X1 hx hby at_470 (XT.i0_eq_f b2) ?_
               show own_G p e below (T1.setTop (mkF m 473 (A2 (rv o02) (iv 1) .unset .unset) [])) _
               refine oIL X1 hx hby at_473 rfl ?_
               by_cases b3 : i0d = 0
               ·skip
                refine oY0 X1 hx hby (pc' := 487) at_475 (XT.i0_eq_t b3) ?_
                show own_G p e below (T1.setTop (mkF m 487 (A2 (rv o02) (iv 1) .unset .unset) [])) _
                refine oIC X1 hx hby at_487 ?_
                refine oIS X1 hx hby at_488 (l' := (A2 (rv o02) (iv 1) (iv 0) .unset)) rfl ?_
                exact J1 T1 _ X1 e1 N8 0 (Or.inr ⟨rfl, fun z => own_en I7 b3 z.2.2⟩)
               ·skip
                refine oN0 X1 hx hby at_475 (XT.i0_eq_f b3) ?_
                show own_G p e below (T1.setTop (mkF m 478 (A2 (rv o02) (iv 1) .unset .unset) [])) _
                refine oIL X1 hx hby at_478 rfl ?_
                refine oN0 X1 hx hby at_480 (XT.i0_eq_f (by decide)) ?_
                refine oIC X1 hx hby at_483 ?_
                refine oGO X1 hx hby (pc' := 488) at_484 ?_
                refine oIS X1 hx hby at_488 (l' := (A2 (rv o02) (iv 1) (iv 1) .unset)) rfl ?_
                exact J1 T1 _ X1 e1 N8 1 (Or.inl ⟨rfl, own_e0 I4 b1, own_e0 I6 b2, own_e0 I7 b3⟩)
            ·skip
             refine own_cast (g' := (mkF m 283 #[iv i5, iv i0, iv i1, iv i6, iv i2, iv i3, iv i4, iv i7, iv i9, iv i8, iv i00, iv i01, iv i02, iv 0, iv i06, iv i0c, iv i0d, iv 0, iv 1, iv i03, iv i04, iv i05, rv o1, rv o2, rv o0, rv o8, .unset, .unset, .unset, .unset, .unset, .unset] [])) (by rw [q0, q1]) ?_
             let A6 : Slot → Slot → Slot → Slot → Slot → Slot → Array Slot := fun x26 x27 x28 x29 x30 x31 => #[iv i5, iv i0, iv i1, iv i6, iv i2, iv i3, iv i4, iv i7, iv i9, iv i8, iv i00, iv i01, iv i02, iv 0, iv i06, iv i0c, iv i0d, iv 0, iv 1, iv i03, iv i04, iv i05, rv o1, rv o2, rv o0, rv o8, x26, x27, x28, x29, x30, x31]
             show own_G p e below (T09.setTop (mkF m 283 (A6 .unset .unset .unset .unset .unset .unset) [])) _
             refine oIL X04 hx hby at_283 rfl ?_
             refine oIC X04 hx hby at_285 ?_
             refine oNI X04 hx hby at_286 (XT.ii_lt_f (by decide)) ?_
             refine oAL X04 hx hby at_289 rfl rfl ?_
             refine oAL X04 hx hby at_291 rfl rfl ?_
             have y6 : @LT.lt Nat instLTNat o8 h9.size := by omega
             have F0H := (Exa.ext E3 ((Exa.ext E0 ((F07.keep K5).keep K6)).keep K0)).keep K04
             have O07 : Old Z n0 h9 := O7.keep K04 (allS N7 all0)
             have Z07 : n0 ≤ h9.size := by omega
             refine own_cI X04 hx hZ hown e08 (y := mN77) (z := mN65) (b := o8) (hw 145) (hw 146) (hw 147) rfl (hw 148) (hw 149) (hw 150) (hw 151) (hw 152) (hw 123) (hw 153) (by decide) F09 (W := 0) (own_rm55 l Z a0 hw [] m0 o8 o1 o03 h9 n0 Z07 O07 F0p F09 N7 F2R F0q I8 I3 y6 F0H) [(.ref o1)] [] hml (lenOf own_pd28 rfl) (hb hby at_293) fun T0p h0g v07 L0n X0m e0H q0h => ?_
             obtain ⟨o0r, m9, rfl, N1m, K0i, F76, F3i, F3j, F3k, F3l, F3m, F77, F78⟩ := q0h
             have N1n := Fr.app N0y N1m
             have z02 := K0i.1
             refine oS (fun _ => XT.pop X0m.here hx rfl (hb hby at_298) rfl rfl) ?_
             refine oIL X0m hx hby at_299 rfl ?_
             refine oIC X0m hx hby at_301 ?_
             refine oYI X0m hx hby (pc' := 315) at_302 (XT.ii_lt_t (by decide)) ?_
             show own_G p e below (T0p.setTop (mkF m 315 (A6 .unset .unset .unset .unset .unset .unset) [])) _
             refine oIL X0m hx hby at_315 rfl ?_
             refine oAL X0m hx hby at_317 rfl rfl ?_
             refine oIN X0m hx hby at_319 rfl ?_
             refine oIN X0m hx hby at_320 rfl ?_
             have F0I := ((Exa.ext E3 F6).keep K04).keep K0i
             have N9 : @Ne Nat o0 o8 := by omega
             have F3n := ((Fld.ext E3 F8).keep K04 (ninS N9 nin0)).keep K0i (ninS N9 nin0)
             have y7 : @LT.lt Nat instLTNat o0 h0g.size := by omega
             have F0J := ((Fld.ext E3 F9).keep K04 (ninS N9 nin0)).keep K0i (ninS N9 nin0)
             have O08 : Old Z n0 h0g := O07.keep K0i (allS N7 all0)
             have Z08 : n0 ≤ h0g.size := by omega
             refine own_cS X0m hx hZ hown e0H (y := mN34) (hw 180) (hw 181) (hw 29) (hw 182) (by decide) (W := 0) (own_rm20 l Z a0 hw [] i4 i0 i1 o0 o9 o00 o01 h0g n0 Z08 O08 F0I I0 I1 I2 b0 F3n y7 F0J) [(.int i4), (.ref o0), (.int i0), (.int i1)] [] hml (lenOf own_pd19 rfl) (hb hby at_321) fun T0q h0b v08 L0o X0t e0I q0i => ?_
             obtain ⟨o0d, o05, rfl, N1o, K08, F79, F7a, F3o, F3p, F3q, F3r, F3s, F3t, F3u, F3v, F3w, F7b, F7c, F7d⟩ := q0i
             have N1p := Fr.app N1n N1o
             have z03 := K08.1
             refine oAS X0t hx hby at_324 rfl (l' := (A6 (rv o0d) .unset .unset .unset .unset .unset)) rfl ?_
             refine oIL X0t hx hby at_326 rfl ?_
             refine oAL X0t hx hby at_328 rfl rfl ?_
             refine oIL X0t hx hby at_330 rfl ?_
             refine oIL X0t hx hby at_332 rfl ?_
             show own_G p e below (T0q.setTop (mkF m 334 (A6 (rv o0d) .unset .unset .unset .unset .unset) [(.int i05), (.int i04), (.ref o8), (.int i03)])) _
             have F0K := F3l.keep K08
             have F3x := F3i.keep K08 nin0
             have y8 : @LT.lt Nat instLTNat o8 h0b.size := by omega
             have F0L := F3k.keep K08 nin0
             have F3y := F3j.keep K08 nin0
             have F3z := F3m.keep K08 nin0
             have y9 : @LT.lt Nat instLTNat o0r h0b.size := by omega
             have F3A := (F0H.keep K0i).keep K08
             have N1q : @Ne Nat o1 o0h := by omega
             have N1r : @Ne Nat o1 o0 := by omega
             have N0A : @Ne Nat o1 o8 := by omega
             have F3B := (((Fld.ext E3 ((Fld.ext E0 ((F7.keep K5 nin0).keep K6 (ninS N1q nin0))).keep K0 (ninS N1r nin0))).keep K04 (ninS N0A nin0)).keep K0i (ninS N0A nin0)).keep K08 nin0
             have y00 : @LT.lt Nat instLTNat o1 h0b.size := by omega
             have O09 : Old Z n0 h0b := O08.keep K08 all0
             have Z09 : n0 ≤ h0b.size := by omega
             refine own_cS X0t hx hZ hown e0I (y := mN34) (hw 180) (hw 181) (hw 29) (hw 182) (by decide) (W := 0) (own_rm60 l Z a0 hw [] i03 i04 i05 i7 i8 i00 m9 o8 o9 o00 o01 o0r o1 h0b n0 Z09 O09 F0K I0 I1 I2 I5 F3x y8 F0L F3y F3z y9 F3A F3B y00) [(.int i03), (.ref o8), (.int i04), (.int i05)] [] hml (lenOf own_pd19 rfl) (hb hby at_334) fun T13 h6 v09 L0p X18 e0J q0j => ?_
             obtain ⟨o0m, o0v, rfl, N1s, K01, F7e, F7f, F3C, F3D, F3E, F3F, F3G, F3H, F3I, F3J, F3K, F7g, F3L, F3M⟩ := q0j
             have N1t := Fr.app N1p N1s
             have z04 := K01.1
             refine oAS X18 hx hby at_337 rfl (l' := (A6 (rv o0d) (rv o0m) .unset .unset .unset .unset)) rfl ?_
             let A5 : Slot → Slot → Slot → Slot → Array Slot := fun x28 x29 x30 x31 => #[iv i5, iv i0, iv i1, iv i6, iv i2, iv i3, iv i4, iv i7, iv i9, iv i8, iv i00, iv i01, iv i02, iv 0, iv i06, iv i0c, iv i0d, iv 0, iv 1, iv i03, iv i04, iv i05, rv o1, rv o2, rv o0, rv o8, rv o0d, rv o0m, x28, x29, x30, x31]
             refine oAL X18 hx hby at_339 rfl rfl ?_
             have F0M := F3t.keep K01 nin0
             have O5 : Old Z n0 h6 := O09.keep K01 all0
             have Z0a : n0 ≤ h6.size := by omega
             have F3 := F3o.keep K01
             refine own_cV X18 hx hZ hown e0J (y := mN35) (z := mN35) (b := o0d) (hw 313) (hw 314) (notFace_of_selects (args := #[]) (mvT hZ (hw 316))) (hw 316) (hw 315) (hw 29) (hw 317) (by decide) F3 (W := 0) (own_rm33 l Z a0 hw [] o0d o05 h6 n0 Z0a O5 F0M) [] [] hml (lenOf own_pd4 rfl) (hb hby at_341) fun T14 h0C v0a L0q X19 e0K q0k => ?_
             obtain ⟨rfl, N1u, K0A⟩ := q0k
             have N1v := Fr.app N1t N1u
             have e0L := e0K.trans K0A
             refine oAS X19 hx hby at_344 rfl (l' := (A5 (rv o05) .unset .unset .unset)) rfl ?_
             refine oAL X19 hx hby at_346 rfl rfl ?_
             have F0N := F3p.keep K01 nin0
             have Z0b : n0 ≤ h6.size := by omega
             refine own_cV X19 hx hZ hown e0L (y := mN36) (z := mN36) (b := o0d) (hw 318) (hw 319) (notFace_of_selects (args := #[]) (mvT hZ (hw 321))) (hw 321) (hw 320) (hw 29) (hw 322) (by decide) F3 (W := 0) (own_rm34 l Z a0 hw [] i4 o0d h6 n0 Z0b O5 F0N b0) [] [] hml (lenOf own_pd20 rfl) (hb hby at_348) fun T0r h0D v0b L0r X0H e0M q0l => ?_
             obtain ⟨rfl, N1w, K0B⟩ := q0l
             have N1x := Fr.app N1v N1w
             have e0N := e0M.trans K0B
             refine oIL X0H hx hby at_351 rfl ?_
             refine oNI X0H hx hby at_353 (XT.ii_ne_f rfl) ?_
             refine oAL X0H hx hby at_356 rfl rfl ?_
             show own_G p e below (T0r.setTop (mkF m 358 (A5 (rv o05) .unset .unset .unset) [(.ref o0d)])) _
             have F0O := F3q.keep K01 nin0
             have Z0c : n0 ≤ h6.size := by omega
             refine own_cV X0H hx hZ hown e0N (y := mN37) (z := mN37) (b := o0d) (hw 323) (hw 324) (notFace_of_selects (args := #[]) (mvT hZ (hw 326))) (hw 326) (hw 325) (hw 29) (hw 327) (by decide) F3 (W := 0) (own_rm35 l Z a0 hw [] o0d h6 n0 Z0c O5 F0O) [] [] hml (lenOf own_pd21 rfl) (hb hby at_358) fun T15 h0E v0c L0s X1a e0O q0m => ?_
             obtain ⟨rfl, N1y, K0C⟩ := q0m
             have N1z := Fr.app N1x N1y
             have e0P := e0O.trans K0C
             refine oS (fun _ => XT.ifnonnullNo X1a.here hx rfl (hb hby at_361) rfl) ?_
             refine oAL X1a hx hby at_364 rfl rfl ?_
             have F0P := F3r.keep K01 nin0
             have Z0d : n0 ≤ h6.size := by omega
             refine own_cV X1a hx hZ hown e0P (y := mN38) (z := mN38) (b := o0d) (hw 328) (hw 329) (notFace_of_selects (args := #[]) (mvT hZ (hw 331))) (hw 331) (hw 330) (hw 29) (hw 332) (by decide) F3 (W := 0) (own_rm36 l Z a0 hw [] i0 o0d h6 n0 Z0d O5 F0P) [] [] hml (lenOf own_pd7 rfl) (hb hby at_366) fun T16 h0F v0d L0t X0I e0Q q0n => ?_
             obtain ⟨rfl, N1A, K0D⟩ := q0n
             have N1B := Fr.app N1z N1A
             have e0R := e0Q.trans K0D
             refine oIN X0I hx hby at_369 rfl ?_
             refine oNI X0I hx hby at_370 (XT.ii_ne_f rfl) ?_
             refine oAL X0I hx hby at_373 rfl rfl ?_
             have F0Q := F3s.keep K01 nin0
             have Z0e : n0 ≤ h6.size := by omega
             refine own_cV X0I hx hZ hown e0R (y := mN39) (z := mN39) (b := o0d) (hw 333) (hw 334) (notFace_of_selects (args := #[]) (mvT hZ (hw 336))) (hw 336) (hw 335) (hw 29) (hw 337) (by decide) F3 (W := 0) (own_rm37 l Z a0 hw [] i1 o0d h6 n0 Z0e O5 F0Q) [] [] hml (lenOf own_pd7 rfl) (hb hby at_375) fun T0s h0G v0e L0u X0J e0S q0o => ?_
             obtain ⟨rfl, N1C, K0E⟩ := q0o
             have N1D := Fr.app N1B N1C
             have e0T := e0S.trans K0E
             refine oIN X0J hx hby at_378 rfl ?_
             refine oNI X0J hx hby at_379 (XT.ii_ne_f rfl) ?_
             show own_G p e below (T0s.setTop (mkF m 382 (A5 (rv o05) .unset .unset .unset) [])) _
             refine oAL X0J hx hby at_382 rfl rfl ?_
             have F0R := F3w.keep K01 nin0
             have F0S := (F0J.keep K08 nin0).keep K01 nin0
             have F0T := (F0I.keep K08).keep K01
             have Z0f : n0 ≤ h6.size := by omega
             have F0U := F3v.keep K01
             refine own_cI X0J hx hZ hown e0T (y := mN55) (z := mN41) (b := o05) (hw 338) (hw 339) (hw 340) rfl (hw 341) (hw 342) (hw 343) (hw 344) (hw 229) (hw 218) (hw 345) (by decide) F0U (W := 0) (own_rm38 l Z a0 hw [] o05 o0 h6 n0 Z0f O5 F0R F0S F0T) [] [] hml (lenOf own_pd7 rfl) (hb hby at_384) fun T2 h0H v0f L0v X2 e0U q0p => ?_
             obtain ⟨rfl, N1E, K0F⟩ := q0p
             have N00 := Fr.app N1D N1E
             have e2 := e0U.trans K0F
             refine oIL X2 hx hby at_389 rfl ?_
             refine oNI X2 hx hby at_391 (XT.ii_ne_f (by decide)) ?_
             refine oIC X2 hx hby at_394 ?_
             refine oGO X2 hx hby (pc' := 399) at_395 ?_
             refine oIS X2 hx hby at_399 (l' := (A5 (rv o05) (iv 1) .unset .unset)) rfl ?_
             refine oIL X2 hx hby at_401 rfl ?_
             refine oN0 X2 hx hby at_403 (XT.i0_eq_f (by decide)) ?_
             refine oIL X2 hx hby at_406 rfl ?_
             show own_G p e below (T2.setTop (mkF m 408 (A5 (rv o05) (iv 1) .unset .unset) [(.int 0)])) _
             refine oIC X2 hx hby at_408 ?_
             refine oYI X2 hx hby (pc' := 432) at_409 (XT.ii_lt_t (by decide)) ?_
             refine oIL X2 hx hby at_432 rfl ?_
             refine oN0 X2 hx hby at_434 (XT.i0_eq_f (by decide)) ?_
             refine oIL X2 hx hby at_437 rfl ?_
             refine oIC X2 hx hby at_439 ?_
             refine oYI X2 hx hby (pc' := 463) at_440 (XT.ii_lt_t (by decide)) ?_
             have J2 : ∀ (T0c : State) (L01 : List Loc) (X0K : Stand p l e room_1 s m #[(.int i5), (.int i0), (.int i1), (.int i6), (.int i2), (.int i3)] below meth c T0c L01 19 74) (e0b : T0c.heap = h6) (N0B : Fr n0 L01), own_G p e below (T0c.setTop (mkF m 490 (A5 (rv o05) (iv 1) (iv 0) .unset) [])) (own_P s (own_Q1 Z i5 i0 i1 i6 i2 i3 i0f o06 o07 m1 o03 o9 o00 o01 m0 h0 n0) 56 320) := by
              intro T0c L01 X0K e0b N0B
              refine oAL X0K hx hby at_490 rfl rfl ?_
              refine oAL X0K hx hby at_492 rfl rfl ?_
              have N1F : @Ne Nat o0d o0m := by omega
              have F3N := F3u.keep K01 nin0
              have y01 : @LT.lt Nat instLTNat o0d h6.size := by omega
              have y02 : @LT.lt Nat instLTNat o05 h6.size := by omega
              have y03 : @LT.lt Nat instLTNat o0 h6.size := by omega
              have F3O := F0L.keep K01 nin0
              have y04 : @LT.lt Nat instLTNat o8 h6.size := by omega
              have F3P := F0K.keep K01
              have Z0g : n0 ≤ h6.size := by omega
              refine own_cV X0K hx hZ hown e0b (y := mN56) (z := mN56) (b := o0d) (hw 380) (hw 381) (notFace_of_selects (args := #[]) (mvT hZ (hw 383))) (hw 383) (hw 382) (hw 29) (hw 384) (by decide) F3 (W := 0) (own_rm74 l Z a0 hw [] i4 i0 i1 i03 i04 i05 i7 i8 i00 o0d o0m o05 o0 o0v o8 h6 n0 Z0g O5 F3C F3 N1F F3N y01 F3I F3L F0N F3D F0P F3F F0Q F3G F0O F3E F0M F0R y02 F0S y03 F0T F0U F3H F3K F3M F3O y04 F3P F3J) [(.ref o0m)] [] hml (lenOf own_pd28 rfl) (hb hby at_494) fun T0j h0r v0g L0w X07 e0V q0q => ?_
              obtain ⟨rfl, N1G, K0n⟩ := q0q
              have N1H := Fr.app N0B N1G
              have z05 := K0n.1
              show own_G p e below (T0j.setTop (mkF m 497 (A5 (rv o05) (iv 1) (iv 0) .unset) [(.int 0)])) _
              refine oIS X07 hx hby at_497 (l' := (A5 (rv o05) (iv 1) (iv 0) (iv 0))) rfl ?_
              refine oIL X07 hx hby at_499 rfl ?_
              refine oN0 X07 hx hby at_501 (XT.i0_eq_f (by decide)) ?_
              refine oIL X07 hx hby at_504 rfl ?_
              refine oIL X07 hx hby at_506 rfl ?_
              refine oNI X07 hx hby at_508 (XT.ii_ne_f (by decide)) ?_
              refine oIC X07 hx hby at_511 ?_
              refine oGO X07 hx hby (pc' := 516) at_512 ?_
              refine oIS X07 hx hby at_516 (l' := (A5 (rv o05) (iv 1) (iv 0) (iv 0))) rfl ?_
              refine oIL X07 hx hby at_518 rfl ?_
              show own_G p e below (T0j.setTop (mkF m 520 (A5 (rv o05) (iv 1) (iv 0) (iv 0)) [(.int 1)])) _
              refine oN0 X07 hx hby at_520 (XT.i0_eq_f (by decide)) ?_
              refine oIL X07 hx hby at_523 rfl ?_
              refine oY0 X07 hx hby (pc' := 548) at_525 (XT.i0_eq_t (by decide)) ?_
              refine oIL X07 hx hby at_548 rfl ?_
              have K1g : Keep h0 h0r [] := (((((((((((((Keep.refl h0 []).trans K0c all0).trans K0d (allS (Or.inr (by omega)) all0)).trans K5 all0).trans K6 (allS (Or.inr (by omega)) all0)).ext E0).trans K0 (allS (Or.inr (by omega)) all0)).ext E3).trans K04 (allS (Or.inr (by omega)) all0)).trans K0i (allS (Or.inr (by omega)) all0)).trans K08 all0).trans K01 all0).trans K0n all0)
              exact own_retN X07 hx (t := .boolean) Bd.notSynchronized Bd.returns (by simp) (hb hby at_550) (by decide) e0V (by decide) (by decide) (⟨rfl, N1H⟩)
             refine oIL X2 hx hby at_463 rfl ?_
             by_cases b00 : i06 = 0
             ·skip
              refine oY0 X2 hx hby (pc' := 487) at_465 (XT.i0_eq_t b00) ?_
              show own_G p e below (T2.setTop (mkF m 487 (A5 (rv o05) (iv 1) .unset .unset) [])) _
              refine oIC X2 hx hby at_487 ?_
              refine oIS X2 hx hby at_488 (l' := (A5 (rv o05) (iv 1) (iv 0) .unset)) rfl ?_
              exact J2 T2 _ X2 e2 N00  
             ·skip
              refine oN0 X2 hx hby at_465 (XT.i0_eq_f b00) ?_
              show own_G p e below (T2.setTop (mkF m 468 (A5 (rv o05) (iv 1) .unset .unset) [])) _
              refine oIL X2 hx hby at_468 rfl ?_
              by_cases b01 : i0c = 0
              ·skip
               refine oY0 X2 hx hby (pc' := 487) at_470 (XT.i0_eq_t b01) ?_
               show own_G p e below (T2.setTop (mkF m 487 (A5 (rv o05) (iv 1) .unset .unset) [])) _
               refine oIC X2 hx hby at_487 ?_
               refine oIS X2 hx hby at_488 (l' := (A5 (rv o05) (iv 1) (iv 0) .unset)) rfl ?_
               exact J2 T2 _ X2 e2 N00  
              ·skip
               refine oN0 X2 hx hby at_470 (XT.i0_eq_f b01) ?_
               show own_G p e below (T2.setTop (mkF m 473 (A5 (rv o05) (iv 1) .unset .unset) [])) _
               refine oIL X2 hx hby at_473 rfl ?_
               by_cases b02 : i0d = 0
               ·skip
                refine oY0 X2 hx hby (pc' := 487) at_475 (XT.i0_eq_t b02) ?_
                show own_G p e below (T2.setTop (mkF m 487 (A5 (rv o05) (iv 1) .unset .unset) [])) _
                refine oIC X2 hx hby at_487 ?_
                refine oIS X2 hx hby at_488 (l' := (A5 (rv o05) (iv 1) (iv 0) .unset)) rfl ?_
                exact J2 T2 _ X2 e2 N00  
               ·skip
                refine oN0 X2 hx hby at_475 (XT.i0_eq_f b02) ?_
                show own_G p e below (T2.setTop (mkF m 478 (A5 (rv o05) (iv 1) .unset .unset) [])) _
                refine oIL X2 hx hby at_478 rfl ?_
                refine oY0 X2 hx hby (pc' := 487) at_480 (XT.i0_eq_t (by decide)) ?_
                refine oIC X2 hx hby at_487 ?_
                refine oIS X2 hx hby at_488 (l' := (A5 (rv o05) (iv 1) (iv 0) .unset)) rfl ?_
                exact J2 T2 _ X2 e2 N00  
           ·skip
            refine own_cast (g' := (mkF m 242 #[iv i5, iv i0, iv i1, iv i6, iv i2, iv i3, iv i4, iv i7, iv i9, iv i8, iv i00, iv i01, iv i02, iv 1, iv i06, iv i0c, iv i0d, iv i08, iv i09, iv i03, iv i04, iv i05, rv o1, rv o2, rv o0, .unset, .unset, .unset, .unset, .unset, .unset, .unset] [])) (by rw [q2]) ?_
            let A7 : Slot → Slot → Slot → Slot → Slot → Slot → Slot → Slot → Slot → Array Slot := fun x17 x18 x25 x26 x27 x28 x29 x30 x31 => #[iv i5, iv i0, iv i1, iv i6, iv i2, iv i3, iv i4, iv i7, iv i9, iv i8, iv i00, iv i01, iv i02, iv 1, iv i06, iv i0c, iv i0d, x17, x18, iv i03, iv i04, iv i05, rv o1, rv o2, rv o0, x25, x26, x27, x28, x29, x30, x31]
            show own_G p e below (T08.setTop (mkF m 242 (A7 (iv i08) (iv i09) .unset .unset .unset .unset .unset .unset .unset) [])) _
            refine oIL X02 hx hby at_242 rfl ?_
            refine oIC X02 hx hby at_244 ?_
            refine oNI X02 hx hby at_245 (XT.ii_lt_f (by decide)) ?_
            refine oAL X02 hx hby at_248 rfl rfl ?_
            refine oAL X02 hx hby at_250 rfl rfl ?_
            have y05 : @LT.lt Nat instLTNat o0 h8.size := by omega
            have F0a := (Exa.ext E0 ((F07.keep K5).keep K6)).keep K0
            have O0a : Old Z n0 h8 := O6.keep K0 (allS N0 all0)
            have Z0h : n0 ≤ h8.size := by omega
            refine own_cI X02 hx hZ hown e05 (y := mN77) (z := mN65) (b := o0) (hw 145) (hw 146) (hw 147) rfl (hw 148) (hw 149) (hw 150) (hw 151) (hw 152) (hw 123) (hw 153) (by decide) F6 (W := 0) (own_rm55 l Z a0 hw [] m0 o0 o1 o03 h8 n0 Z0h O0a F8 F6 N0 F0o F9 I8 I3 y05 F0a) [(.ref o1)] [] hml (lenOf own_pd28 rfl) (hb hby at_252) fun T0t h0p v0h L0x X0C e0W q0r => ?_
            obtain ⟨o0f, m3, rfl, N1I, K0e, F7h, F0V, F0W, F0X, F0Y, F0Z, F7i, F7j⟩ := q0r
            have N1J := Fr.app N0d N1I
            have z06 := K0e.1
            refine oS (fun _ => XT.pop X0C.here hx rfl (hb hby at_257) rfl rfl) ?_
            refine oIL X0C hx hby at_258 rfl ?_
            refine oIC X0C hx hby at_260 ?_
            refine oYI X0C hx hby (pc' := 274) at_261 (XT.ii_lt_t (by decide)) ?_
            show own_G p e below (T0t.setTop (mkF m 274 (A7 (iv i08) (iv i09) .unset .unset .unset .unset .unset .unset .unset) [])) _
            obtain ⟨T17, h04, X1r, e0X, E2, A07, D2, U2, s2⟩ := newO X0C hx hZ hown (hw 121) (hw 122) (hw 123) e0W (g := (mkF m 274 (A7 (iv i08) (iv i09) .unset .unset .unset .unset .unset .unset .unset) [])) rfl (hb hby at_274) (by decide) (by decide)
            obtain ⟨o3, g2⟩ : ∃ z, z = h0p.size := ⟨_, rfl⟩
            rw [← g2] at A07 D2 U2 s2
            have z07 := E2.1
            have y0W : @LT.lt Nat instLTNat o3 h04.size := A07.lt
            refine oS s2 ?_
            have F3Q : Fld Z h04 o3 cN9 "modCount" "I" (.int 0) := D2 (Or.inl (hw 141)) (ty := .int) (by decide)
            have F3R : Fld Z h04 o3 cN10 "elementData" cN3 .null := D2 (Or.inl (hw 144)) (ty := (.array (.object cN1))) (by decide)
            have F3S : Fld Z h04 o3 cN10 "size" "I" (.int 0) := D2 (Or.inl (hw 157)) (ty := .int) (by decide)
            refine oS (fun _ => XS.dup X1r.here hx rfl (hb hby at_277) rfl rfl) ?_
            have N1 : n0 ≤ o3 := by omega
            have O0u : Old Z n0 h0p := O0a.keep K0e (allS N0 all0)
            have O8 : Old Z n0 h04 := O0u.ext E2
            have Z0i : n0 ≤ h04.size := by omega
            refine own_cN X1r hx hZ hown e0X (y := mN21) (b := o3) rfl (hw 124) (hw 125) (hw 123) (hw 126) (by decide) (W := 1) (own_rm17 l Z a0 hw [] o3 o03 h04 n0 Z0i O8 F3Q A07 N1 F3R F3S I3) [] [(.ref o3)] hml (lenOf own_pd13 rfl) (hb hby at_278) fun T0g h00 v0i L0y X0f e0c q0s => ?_
            obtain ⟨rfl, N1K, K4, F10, F00, F11, F12⟩ := q0s
            have N0C := Fr.app N1J N1K
            have z08 := K4.1
            refine oAS X0f hx hby at_281 rfl (l' := (A7 (iv i08) (iv i09) (rv o3) .unset .unset .unset .unset .unset .unset)) rfl ?_
            show own_G p e below (T0g.setTop (mkF m 283 (A7 (iv i08) (iv i09) (rv o3) .unset .unset .unset .unset .unset .unset) [])) _
            rcases q3 with ⟨q0, q1⟩ | ⟨q0, q1⟩
            ·skip
             refine own_cast (g' := (mkF m 283 #[iv i5, iv i0, iv i1, iv i6, iv i2, iv i3, iv i4, iv i7, iv i9, iv i8, iv i00, iv i01, iv i02, iv 1, iv i06, iv i0c, iv i0d, iv 1, iv 1, iv i03, iv i04, iv i05, rv o1, rv o2, rv o0, rv o3, .unset, .unset, .unset, .unset, .unset, .unset] [])) (by rw [q0, q1]) ?_
             let A8 : Slot → Slot → Slot → Slot → Slot → Slot → Array Slot := fun x26 x27 x28 x29 x30 x31 => #[iv i5, iv i0, iv i1, iv i6, iv i2, iv i3, iv i4, iv i7, iv i9, iv i8, iv i00, iv i01, iv i02, iv 1, iv i06, iv i0c, iv i0d, iv 1, iv 1, iv i03, iv i04, iv i05, rv o1, rv o2, rv o0, rv o3, x26, x27, x28, x29, x30, x31]
             show own_G p e below (T0g.setTop (mkF m 283 (A8 .unset .unset .unset .unset .unset .unset) [])) _
             refine oIL X0f hx hby at_283 rfl ?_
             refine oIC X0f hx hby at_285 ?_
             refine oNI X0f hx hby at_286 (XT.ii_lt_f (by decide)) ?_
             refine oAL X0f hx hby at_289 rfl rfl ?_
             refine oAL X0f hx hby at_291 rfl rfl ?_
             have y06 : @LT.lt Nat instLTNat o3 h00.size := by omega
             have F13 := (Exa.ext E2 (F0a.keep K0e)).keep K4
             have O0b : Old Z n0 h00 := O8.keep K4 (allS N1 all0)
             have Z0j : n0 ≤ h00.size := by omega
             refine own_cI X0f hx hZ hown e0c (y := mN77) (z := mN65) (b := o3) (hw 145) (hw 146) (hw 147) rfl (hw 148) (hw 149) (hw 150) (hw 151) (hw 152) (hw 123) (hw 153) (by decide) F00 (W := 0) (own_rm55 l Z a0 hw [] m0 o3 o1 o03 h00 n0 Z0j O0b F10 F00 N1 F11 F12 I8 I3 y06 F13) [(.ref o1)] [] hml (lenOf own_pd28 rfl) (hb hby at_293) fun T0u h0c v0j L0z X0n e0Y q0t => ?_
             obtain ⟨o0p, m5, rfl, N1L, K0f, F7k, F3T, F3U, F3V, F3W, F3X, F7l, F7m⟩ := q0t
             have N1M := Fr.app N0C N1L
             have z09 := K0f.1
             refine oS (fun _ => XT.pop X0n.here hx rfl (hb hby at_298) rfl rfl) ?_
             refine oIL X0n hx hby at_299 rfl ?_
             refine oIC X0n hx hby at_301 ?_
             refine oYI X0n hx hby (pc' := 315) at_302 (XT.ii_lt_t (by decide)) ?_
             show own_G p e below (T0u.setTop (mkF m 315 (A8 .unset .unset .unset .unset .unset .unset) [])) _
             refine oIL X0n hx hby at_315 rfl ?_
             refine oAL X0n hx hby at_317 rfl rfl ?_
             refine oIN X0n hx hby at_319 rfl ?_
             refine oIN X0n hx hby at_320 rfl ?_
             have F14 := ((Exa.ext E2 F0Y).keep K4).keep K0f
             have N6 : @Ne Nat o0 o3 := by omega
             have F3Y := ((Fld.ext E2 F0V).keep K4 (ninS N6 nin0)).keep K0f (ninS N6 nin0)
             have y07 : @LT.lt Nat instLTNat o0 h0c.size := by omega
             have F15 := ((Fld.ext E2 F0X).keep K4 (ninS N6 nin0)).keep K0f (ninS N6 nin0)
             have F16 := ((Fld.ext E2 F0W).keep K4 (ninS N6 nin0)).keep K0f (ninS N6 nin0)
             have N0D : @Ne Nat o0f o3 := by omega
             have F17 := ((F0Z.ext E2).keep K4 (ninS N0D nin0)).keep K0f (ninS N0D nin0)
             have y08 : @LT.lt Nat instLTNat o0f h0c.size := by omega
             have F18 := F13.keep K0f
             have N1N : @Ne Nat o1 o0h := by omega
             have N0E : @Ne Nat o1 o0 := by omega
             have N0F : @Ne Nat o1 o3 := by omega
             have F19 := ((Fld.ext E2 (((Fld.ext E0 ((F7.keep K5 nin0).keep K6 (ninS N1N nin0))).keep K0 (ninS N0E nin0)).keep K0e (ninS N0E nin0))).keep K4 (ninS N0F nin0)).keep K0f (ninS N0F nin0)
             have y09 : @LT.lt Nat instLTNat o1 h0c.size := by omega
             have O0c : Old Z n0 h0c := O0b.keep K0f (allS N1 all0)
             have Z0k : n0 ≤ h0c.size := by omega
             refine own_cS X0n hx hZ hown e0Y (y := mN34) (hw 180) (hw 181) (hw 29) (hw 182) (by decide) (W := 0) (own_rm60 l Z a0 hw [] i4 i0 i1 i7 i8 i00 m3 o0 o9 o00 o01 o0f o1 h0c n0 Z0k O0c F14 I0 I1 I2 b0 F3Y y07 F15 F16 F17 y08 F18 F19 y09) [(.int i4), (.ref o0), (.int i0), (.int i1)] [] hml (lenOf own_pd19 rfl) (hb hby at_321) fun T0v h0d v0k L0A X0u e0Z q0u => ?_
             obtain ⟨o08, o6, rfl, N1O, K03, F7n, F7o, F3Z, F40, F41, F42, F43, F44, F45, F46, F47, F48, F7p, F7q⟩ := q0u
             have N1P := Fr.app N1M N1O
             have z0a := K03.1
             refine oAS X0u hx hby at_324 rfl (l' := (A8 (rv o08) .unset .unset .unset .unset .unset)) rfl ?_
             refine oIL X0u hx hby at_326 rfl ?_
             refine oAL X0u hx hby at_328 rfl rfl ?_
             refine oIL X0u hx hby at_330 rfl ?_
             refine oIL X0u hx hby at_332 rfl ?_
             show own_G p e below (T0v.setTop (mkF m 334 (A8 (rv o08) .unset .unset .unset .unset .unset) [(.int i05), (.int i04), (.ref o3), (.int i03)])) _
             have F1a := F3W.keep K03
             have F49 := F3T.keep K03 nin0
             have y0a : @LT.lt Nat instLTNat o3 h0d.size := by omega
             have F1b := F3V.keep K03 nin0
             have F1c := F3U.keep K03 nin0
             have F1d := F3X.keep K03 nin0
             have y0b : @LT.lt Nat instLTNat o0p h0d.size := by omega
             have F1e := F18.keep K03
             have F4a := F19.keep K03 nin0
             have y0c : @LT.lt Nat instLTNat o1 h0d.size := by omega
             have O0d : Old Z n0 h0d := O0c.keep K03 all0
             have Z0l : n0 ≤ h0d.size := by omega
             refine own_cS X0u hx hZ hown e0Z (y := mN34) (hw 180) (hw 181) (hw 29) (hw 182) (by decide) (W := 0) (own_rm60 l Z a0 hw [] i03 i04 i05 i7 i8 i00 m5 o3 o9 o00 o01 o0p o1 h0d n0 Z0l O0d F1a I0 I1 I2 I5 F49 y0a F1b F1c F1d y0b F1e F4a y0c) [(.int i03), (.ref o3), (.int i04), (.int i05)] [] hml (lenOf own_pd19 rfl) (hb hby at_334) fun T18 h2 v0l L0B X1b e10 q0v => ?_
             obtain ⟨o0k, o0w, rfl, N1Q, K3, F7r, F7s, F1f, F4b, F4c, F4d, F4e, F4f, F1g, F4g, F4h, F4i, F4j, F4k⟩ := q0v
             have N1R := Fr.app N1P N1Q
             have z0b := K3.1
             refine oAS X1b hx hby at_337 rfl (l' := (A8 (rv o08) (rv o0k) .unset .unset .unset .unset)) rfl ?_
             let A1 : Slot → Slot → Slot → Slot → Array Slot := fun x28 x29 x30 x31 => #[iv i5, iv i0, iv i1, iv i6, iv i2, iv i3, iv i4, iv i7, iv i9, iv i8, iv i00, iv i01, iv i02, iv 1, iv i06, iv i0c, iv i0d, iv 1, iv 1, iv i03, iv i04, iv i05, rv o1, rv o2, rv o0, rv o3, rv o08, rv o0k, x28, x29, x30, x31]
             refine oAL X1b hx hby at_339 rfl rfl ?_
             have F1h := F44.keep K3 nin0
             have O1 : Old Z n0 h2 := O0d.keep K3 all0
             have Z0m : n0 ≤ h2.size := by omega
             have F1 := F3Z.keep K3
             refine own_cV X1b hx hZ hown e10 (y := mN35) (z := mN35) (b := o08) (hw 313) (hw 314) (notFace_of_selects (args := #[]) (mvT hZ (hw 316))) (hw 316) (hw 315) (hw 29) (hw 317) (by decide) F1 (W := 0) (own_rm33 l Z a0 hw [] o08 o6 h2 n0 Z0m O1 F1h) [] [] hml (lenOf own_pd4 rfl) (hb hby at_341) fun T19 h0I v0m L0C X1c e11 q0w => ?_
             obtain ⟨rfl, N1S, K0G⟩ := q0w
             have N1T := Fr.app N1R N1S
             have e12 := e11.trans K0G
             refine oAS X1c hx hby at_344 rfl (l' := (A1 (rv o6) .unset .unset .unset)) rfl ?_
             refine oAL X1c hx hby at_346 rfl rfl ?_
             have F1i := F40.keep K3 nin0
             have Z0n : n0 ≤ h2.size := by omega
             refine own_cV X1c hx hZ hown e12 (y := mN36) (z := mN36) (b := o08) (hw 318) (hw 319) (notFace_of_selects (args := #[]) (mvT hZ (hw 321))) (hw 321) (hw 320) (hw 29) (hw 322) (by decide) F1 (W := 0) (own_rm34 l Z a0 hw [] i4 o08 h2 n0 Z0n O1 F1i b0) [] [] hml (lenOf own_pd20 rfl) (hb hby at_348) fun T0w h0J v0n L0D X0L e13 q0x => ?_
             obtain ⟨rfl, N1U, K0H⟩ := q0x
             have N1V := Fr.app N1T N1U
             have e14 := e13.trans K0H
             refine oIL X0L hx hby at_351 rfl ?_
             refine oNI X0L hx hby at_353 (XT.ii_ne_f rfl) ?_
             refine oAL X0L hx hby at_356 rfl rfl ?_
             show own_G p e below (T0w.setTop (mkF m 358 (A1 (rv o6) .unset .unset .unset) [(.ref o08)])) _
             have F1j := F41.keep K3 nin0
             have Z0o : n0 ≤ h2.size := by omega
             refine own_cV X0L hx hZ hown e14 (y := mN37) (z := mN37) (b := o08) (hw 323) (hw 324) (notFace_of_selects (args := #[]) (mvT hZ (hw 326))) (hw 326) (hw 325) (hw 29) (hw 327) (by decide) F1 (W := 0) (own_rm35 l Z a0 hw [] o08 h2 n0 Z0o O1 F1j) [] [] hml (lenOf own_pd21 rfl) (hb hby at_358) fun T1a h0K v0o L0E X1d e15 q0y => ?_
             obtain ⟨rfl, N1W, K0I⟩ := q0y
             have N1X := Fr.app N1V N1W
             have e16 := e15.trans K0I
             refine oS (fun _ => XT.ifnonnullNo X1d.here hx rfl (hb hby at_361) rfl) ?_
             refine oAL X1d hx hby at_364 rfl rfl ?_
             have F1k := F42.keep K3 nin0
             have Z0p : n0 ≤ h2.size := by omega
             refine own_cV X1d hx hZ hown e16 (y := mN38) (z := mN38) (b := o08) (hw 328) (hw 329) (notFace_of_selects (args := #[]) (mvT hZ (hw 331))) (hw 331) (hw 330) (hw 29) (hw 332) (by decide) F1 (W := 0) (own_rm36 l Z a0 hw [] i0 o08 h2 n0 Z0p O1 F1k) [] [] hml (lenOf own_pd7 rfl) (hb hby at_366) fun T1b h0L v0p L0F X0M e17 q0z => ?_
             obtain ⟨rfl, N1Y, K0J⟩ := q0z
             have N1Z := Fr.app N1X N1Y
             have e18 := e17.trans K0J
             refine oIN X0M hx hby at_369 rfl ?_
             refine oNI X0M hx hby at_370 (XT.ii_ne_f rfl) ?_
             refine oAL X0M hx hby at_373 rfl rfl ?_
             have F1l := F43.keep K3 nin0
             have Z0q : n0 ≤ h2.size := by omega
             refine own_cV X0M hx hZ hown e18 (y := mN39) (z := mN39) (b := o08) (hw 333) (hw 334) (notFace_of_selects (args := #[]) (mvT hZ (hw 336))) (hw 336) (hw 335) (hw 29) (hw 337) (by decide) F1 (W := 0) (own_rm37 l Z a0 hw [] i1 o08 h2 n0 Z0q O1 F1l) [] [] hml (lenOf own_pd7 rfl) (hb hby at_375) fun T0x h0M v0q L0G X0N e19 q0A => ?_
             obtain ⟨rfl, N20, K0K⟩ := q0A
             have N21 := Fr.app N1Z N20
             have e1a := e19.trans K0K
             refine oIN X0N hx hby at_378 rfl ?_
             refine oNI X0N hx hby at_379 (XT.ii_ne_f rfl) ?_
             show own_G p e below (T0x.setTop (mkF m 382 (A1 (rv o6) .unset .unset .unset) [])) _
             refine oAL X0N hx hby at_382 rfl rfl ?_
             have F1m := F47.keep K3 nin0
             have F0b := (F15.keep K03 nin0).keep K3 nin0
             have F0c := (F14.keep K03).keep K3
             have Z0r : n0 ≤ h2.size := by omega
             have F0d := F46.keep K3
             refine own_cI X0N hx hZ hown e1a (y := mN55) (z := mN41) (b := o6) (hw 338) (hw 339) (hw 340) rfl (hw 341) (hw 342) (hw 343) (hw 344) (hw 229) (hw 218) (hw 345) (by decide) F0d (W := 0) (own_rm76 l Z a0 hw [] o6 o0 h2 n0 Z0r O1 F1m F0b F0c) [] [] hml (lenOf own_pd7 rfl) (hb hby at_384) fun T0y h0N v0r L0H X0g e1b q0B => ?_
             obtain ⟨rfl, N22, K0L⟩ := q0B
             have N23 := Fr.app N21 N22
             have e1c := e1b.trans K0L
             refine oIL X0g hx hby at_389 rfl ?_
             refine oNI X0g hx hby at_391 (XT.ii_ne_f (by decide)) ?_
             refine oIC X0g hx hby at_394 ?_
             refine oGO X0g hx hby (pc' := 399) at_395 ?_
             refine oIS X0g hx hby at_399 (l' := (A1 (rv o6) (iv 1) .unset .unset)) rfl ?_
             refine oIL X0g hx hby at_401 rfl ?_
             refine oN0 X0g hx hby at_403 (XT.i0_eq_f (by decide)) ?_
             refine oIL X0g hx hby at_406 rfl ?_
             show own_G p e below (T0y.setTop (mkF m 408 (A1 (rv o6) (iv 1) .unset .unset) [(.int 1)])) _
             refine oIC X0g hx hby at_408 ?_
             refine oNI X0g hx hby at_409 (XT.ii_lt_f (by decide)) ?_
             refine oAL X0g hx hby at_412 rfl rfl ?_
             refine oIC X0g hx hby at_414 ?_
             have F1n := F48.keep K3 nin0
             have F1o := (F16.keep K03 nin0).keep K3 nin0
             have F1p := (F17.keep K03 nin0).keep K3 nin0
             have Z0s : n0 ≤ h2.size := by omega
             refine own_cI X0g hx hZ hown e1c (y := mN76) (z := mN75) (b := o6) (hw 354) (hw 355) (hw 356) rfl (hw 357) (hw 358) (hw 359) (hw 360) (hw 229) (hw 212) (hw 361) (by decide) F0d (W := 0) (own_rm78 l Z a0 hw [] m3 o6 o0 o0f o1 h2 n0 Z0s O1 F1n F0b F1o F1p F0c) [(.int 0)] [] hml (lenOf own_pd33 rfl) (hb hby at_415) fun T3 h0O v0s L0I X4 e1d q0C => ?_
             obtain ⟨rfl, N24, K0M⟩ := q0C
             have N01 := Fr.app N23 N24
             have e3 := e1d.trans K0M
             refine oAL X4 hx hby at_420 rfl rfl ?_
             refine oS (fun _ => XT.acmpNo X4.here hx rfl (hb hby at_422) rfl rfl rfl (XT.aa_ne_f rfl)) ?_
             refine oIC X4 hx hby at_425 ?_
             refine oGO X4 hx hby (pc' := 430) at_426 ?_
             refine oIS X4 hx hby at_430 (l' := (A1 (rv o6) (iv 1) .unset .unset)) rfl ?_
             show own_G p e below (T3.setTop (mkF m 432 (A1 (rv o6) (iv 1) .unset .unset) [])) _
             refine oIL X4 hx hby at_432 rfl ?_
             refine oN0 X4 hx hby at_434 (XT.i0_eq_f (by decide)) ?_
             refine oIL X4 hx hby at_437 rfl ?_
             refine oIC X4 hx hby at_439 ?_
             refine oYI X4 hx hby (pc' := 463) at_440 (XT.ii_lt_t (by decide)) ?_
             have J3 : ∀ (T0d : State) (L02 : List Loc) (X0O : Stand p l e room_1 s m #[(.int i5), (.int i0), (.int i1), (.int i6), (.int i2), (.int i3)] below meth c T0d L02 20 84) (e0d : T0d.heap = h2) (N0f : Fr n0 L02) (i0j : Int32) (I03 : (i0j = 1 ∧ i03 = i4 ∧ i04 = i0 ∧ i05 = i1) ∨ (i0j = 0 ∧ ¬ (i03 = i4 ∧ i04 = i0 ∧ i05 = i1))), own_G p e below (T0d.setTop (mkF m 490 (A1 (rv o6) (iv 1) (iv i0j) .unset) [])) (own_P s (own_Q1 Z i5 i0 i1 i6 i2 i3 i0f o06 o07 m1 o03 o9 o00 o01 m0 h0 n0) 56 320) := by
              intro T0d L02 X0O e0d N0f i0j I03
              refine oAL X0O hx hby at_490 rfl rfl ?_
              refine oAL X0O hx hby at_492 rfl rfl ?_
              have N25 : @Ne Nat o08 o0k := by omega
              have F1q := F45.keep K3 nin0
              have y0d : @LT.lt Nat instLTNat o08 h2.size := by omega
              have y0e : @LT.lt Nat instLTNat o6 h2.size := by omega
              have y0f : @LT.lt Nat instLTNat o0 h2.size := by omega
              have F4l := F1b.keep K3 nin0
              have y0g : @LT.lt Nat instLTNat o3 h2.size := by omega
              have F4m := F1a.keep K3
              have y0h : @LT.lt Nat instLTNat o0f h2.size := by omega
              have F4n := F1e.keep K3
              have F4o := F1c.keep K3 nin0
              have F4p := F1d.keep K3 nin0
              have y0i : @LT.lt Nat instLTNat o0p h2.size := by omega
              have Z0t : n0 ≤ h2.size := by omega
              refine own_cV X0O hx hZ hown e0d (y := mN56) (z := mN56) (b := o08) (hw 380) (hw 381) (notFace_of_selects (args := #[]) (mvT hZ (hw 383))) (hw 383) (hw 382) (hw 29) (hw 384) (by decide) F1 (W := 0) (own_rm83 l Z a0 hw [] i4 i0 i1 i7 i8 i00 i03 i04 i05 m3 m5 o08 o0k o6 o0 o0w o3 o0f o1 o0p h2 n0 Z0t O1 F1f F1 N25 F1q y0d F1g F4j F1i F4b F1k F4d F1l F4e F1j F4c F1h F1m y0e F0b y0f F0c F0d F4f F4h F4k F4l y0g F4m F4g F1n F1o F1p y0h F4n F4i F4o F4p y0i) [(.ref o0k)] [] hml (lenOf own_pd28 rfl) (hb hby at_494) fun T0h h05 v0t L0J X7 e0e q0D => ?_
              rcases q0D with ⟨b0n, b0o, b0p, b0q, rfl, N26, K0k⟩ | ⟨b0r, rfl, N27, K0o⟩
              ·skip
               have N28 := Fr.app N0f N26
               have z0c := K0k.1
               refine oIS X7 hx hby at_497 (l' := (A1 (rv o6) (iv 1) (iv i0j) (iv 1))) rfl ?_
               refine oIL X7 hx hby at_499 rfl ?_
               show own_G p e below (T0h.setTop (mkF m 501 (A1 (rv o6) (iv 1) (iv i0j) (iv 1)) [(.int 1)])) _
               refine oN0 X7 hx hby at_501 (XT.i0_eq_f (by decide)) ?_
               refine oIL X7 hx hby at_504 rfl ?_
               refine oIL X7 hx hby at_506 rfl ?_
               refine oNI X7 hx hby at_508 (XT.ii_ne_f (Eq.symm (own_x1 I03 ⟨Eq.symm b0o, Eq.symm b0p, Eq.symm b0q⟩))) ?_
               refine oIC X7 hx hby at_511 ?_
               refine oGO X7 hx hby (pc' := 516) at_512 ?_
               refine oIS X7 hx hby at_516 (l' := (A1 (rv o6) (iv 1) (iv i0j) (iv 1))) rfl ?_
               refine oIL X7 hx hby at_518 rfl ?_
               refine oN0 X7 hx hby at_520 (XT.i0_eq_f (by decide)) ?_
               refine oIL X7 hx hby at_523 rfl ?_
               show own_G p e below (T0h.setTop (mkF m 525 (A1 (rv o6) (iv 1) (iv i0j) (iv 1)) [(.int 1)])) _
               refine oN0 X7 hx hby at_525 (XT.i0_eq_f (by decide)) ?_
               refine oAL X7 hx hby at_528 rfl rfl ?_
               have F4q := F1q.keep K0k nin0
               have O0e : Old Z n0 h05 := O1.keep K0k all0
               have Z0u : n0 ≤ h05.size := by omega
               have F4r := F1.keep K0k
               refine own_cV X7 hx hZ hown e0e (y := mN60) (z := mN60) (b := o08) (hw 459) (hw 460) (notFace_of_selects (args := #[]) (mvT hZ (hw 461))) (hw 461) (hw 309) (hw 29) (hw 312) (by decide) F4r (W := 0) (own_rm85 l Z a0 hw [] i4 i0 i1 i7 i8 i00 o08 h05 n0 Z0u O0e F4q) [] [] hml (lenOf own_pd7 rfl) (hb hby at_530) fun T1c h0P v0u L0K X1s e1e q0E => ?_
               obtain ⟨rfl, N29, K0N⟩ := q0E
               have N2a := Fr.app N28 N29
               have e1f := e1e.trans K0N
               refine oAL X1s hx hby at_533 rfl rfl ?_
               have F4s := F1g.keep K0k nin0
               have Z0v : n0 ≤ h05.size := by omega
               have F4t := F1f.keep K0k
               refine own_cV X1s hx hZ hown e1f (y := mN60) (z := mN60) (b := o0k) (hw 459) (hw 460) (notFace_of_selects (args := #[]) (mvT hZ (hw 461))) (hw 461) (hw 309) (hw 29) (hw 312) (by decide) F4t (W := 1) (own_rm85 l Z a0 hw [] i03 i04 i05 i7 i8 i00 o0k h05 n0 Z0v O0e F4s) [] [(.int (((31 : Int32) * (((31 : Int32) * (((31 : Int32) * (((31 : Int32) * i4) + 0)) + i0)) + i1)) + (((31 : Int32) * (((31 : Int32) * ((31 : Int32) + ((i7.toInt8.toInt32) &&& 255))) + i8)) + i00)))] hml (lenOf own_pd7 rfl) (hb hby at_535) fun T0z h0Q v0v L0L X0v e1g q0F => ?_
               obtain ⟨rfl, N2b, K0O⟩ := q0F
               have N2c := Fr.app N2a N2b
               have e1h := e1g.trans K0O
               refine oNI X0v hx hby at_538 (XT.ii_ne_f b0n) ?_
               refine oIC X0v hx hby at_541 ?_
               refine oGO X0v hx hby (pc' := 546) at_542 ?_
               refine oIS X0v hx hby at_546 (l' := (A1 (rv o6) (iv 1) (iv i0j) (iv 1))) rfl ?_
               refine oIL X0v hx hby at_548 rfl ?_
               show own_G p e below (T0z.setTop (mkF m 550 (A1 (rv o6) (iv 1) (iv i0j) (iv 1)) [(.int 1)])) _
               have K1h : Keep h0 h05 [] := ((((((((((((((Keep.refl h0 []).trans K0c all0).trans K0d (allS (Or.inr (by omega)) all0)).trans K5 all0).trans K6 (allS (Or.inr (by omega)) all0)).ext E0).trans K0 (allS (Or.inr (by omega)) all0)).trans K0e (allS (Or.inr (by omega)) all0)).ext E2).trans K4 (allS (Or.inr (by omega)) all0)).trans K0f (allS (Or.inr (by omega)) all0)).trans K03 all0).trans K3 all0).trans K0k all0)
               exact own_retN X0v hx (t := .boolean) Bd.notSynchronized Bd.returns (by simp) (hb hby at_550) (by decide) e1h (by decide) (by decide) (⟨rfl, N2c⟩)
              ·skip
               have N2d := Fr.app N0f N27
               have z0d := K0o.1
               refine oIS X7 hx hby at_497 (l' := (A1 (rv o6) (iv 1) (iv i0j) (iv 0))) rfl ?_
               refine oIL X7 hx hby at_499 rfl ?_
               refine oN0 X7 hx hby at_501 (XT.i0_eq_f (by decide)) ?_
               refine oIL X7 hx hby at_504 rfl ?_
               refine oIL X7 hx hby at_506 rfl ?_
               refine oNI X7 hx hby at_508 (XT.ii_ne_f (Eq.symm (own_x0 I03 (fun z => b0r ⟨Eq.symm z.1, Eq.symm z.2.1, Eq.symm z.2.2⟩)))) ?_
               refine oIC X7 hx hby at_511 ?_
               refine oGO X7 hx hby (pc' := 516) at_512 ?_
               refine oIS X7 hx hby at_516 (l' := (A1 (rv o6) (iv 1) (iv i0j) (iv 0))) rfl ?_
               show own_G p e below (T0h.setTop (mkF m 518 (A1 (rv o6) (iv 1) (iv i0j) (iv 0)) [])) _
               refine oIL X7 hx hby at_518 rfl ?_
               refine oN0 X7 hx hby at_520 (XT.i0_eq_f (by decide)) ?_
               refine oIL X7 hx hby at_523 rfl ?_
               refine oY0 X7 hx hby (pc' := 548) at_525 (XT.i0_eq_t (by decide)) ?_
               refine oIL X7 hx hby at_548 rfl ?_
               have K1i : Keep h0 h05 [] := ((((((((((((((Keep.refl h0 []).trans K0c all0).trans K0d (allS (Or.inr (by omega)) all0)).trans K5 all0).trans K6 (allS (Or.inr (by omega)) all0)).ext E0).trans K0 (allS (Or.inr (by omega)) all0)).trans K0e (allS (Or.inr (by omega)) all0)).ext E2).trans K4 (allS (Or.inr (by omega)) all0)).trans K0f (allS (Or.inr (by omega)) all0)).trans K03 all0).trans K3 all0).trans K0o all0)
               exact own_retN X7 hx (t := .boolean) Bd.notSynchronized Bd.returns (by simp) (hb hby at_550) (by decide) e0e (by decide) (by decide) (⟨rfl, N2d⟩)
             refine oIL X4 hx hby at_463 rfl ?_
             by_cases b4 : i06 = 0
             ·skip
              refine oY0 X4 hx hby (pc' := 487) at_465 (XT.i0_eq_t b4) ?_
              show own_G p e below (T3.setTop (mkF m 487 (A1 (rv o6) (iv 1) .unset .unset) [])) _
              refine oIC X4 hx hby at_487 ?_
              refine oIS X4 hx hby at_488 (l' := (A1 (rv o6) (iv 1) (iv 0) .unset)) rfl ?_
              exact J3 T3 _ X4 e3 N01 0 (Or.inr ⟨rfl, fun z => own_en I4 b4 z.1⟩)
             ·skip
              refine oN0 X4 hx hby at_465 (XT.i0_eq_f b4) ?_
              show own_G p e below (T3.setTop (mkF m 468 (A1 (rv o6) (iv 1) .unset .unset) [])) _
              refine oIL X4 hx hby at_468 rfl ?_
              by_cases b5 : i0c = 0
              ·skip
               refine oY0 X4 hx hby (pc' := 487) at_470 (XT.i0_eq_t b5) ?_
               show own_G p e below (T3.setTop (mkF m 487 (A1 (rv o6) (iv 1) .unset .unset) [])) _
               refine oIC X4 hx hby at_487 ?_
               refine oIS X4 hx hby at_488 (l' := (A1 (rv o6) (iv 1) (iv 0) .unset)) rfl ?_
               exact J3 T3 _ X4 e3 N01 0 (Or.inr ⟨rfl, fun z => own_en I6 b5 z.2.1⟩)
              ·skip
               refine oN0 X4 hx hby at_470 (XT.i0_eq_f b5) ?_
               show own_G p e below (T3.setTop (mkF m 473 (A1 (rv o6) (iv 1) .unset .unset) [])) _
               refine oIL X4 hx hby at_473 rfl ?_
               by_cases b6 : i0d = 0
               ·skip
                refine oY0 X4 hx hby (pc' := 487) at_475 (XT.i0_eq_t b6) ?_
                show own_G p e below (T3.setTop (mkF m 487 (A1 (rv o6) (iv 1) .unset .unset) [])) _
                refine oIC X4 hx hby at_487 ?_
                refine oIS X4 hx hby at_488 (l' := (A1 (rv o6) (iv 1) (iv 0) .unset)) rfl ?_
                exact J3 T3 _ X4 e3 N01 0 (Or.inr ⟨rfl, fun z => own_en I7 b6 z.2.2⟩)
               ·skip
                refine oN0 X4 hx hby at_475 (XT.i0_eq_f b6) ?_
                show own_G p e below (T3.setTop (mkF m 478 (A1 (rv o6) (iv 1) .unset .unset) [])) _
                refine oIL X4 hx hby at_478 rfl ?_
                refine oN0 X4 hx hby at_480 (XT.i0_eq_f (by decide)) ?_
                refine oIC X4 hx hby at_483 ?_
                refine oGO X4 hx hby (pc' := 488) at_484 ?_
                refine oIS X4 hx hby at_488 (l' := (A1 (rv o6) (iv 1) (iv 1) .unset)) rfl ?_
                exact J3 T3 _ X4 e3 N01 1 (Or.inl ⟨rfl, own_e0 I4 b4, own_e0 I6 b5, own_e0 I7 b6⟩)
            ·skip
             refine own_cast (g' := (mkF m 283 #[iv i5, iv i0, iv i1, iv i6, iv i2, iv i3, iv i4, iv i7, iv i9, iv i8, iv i00, iv i01, iv i02, iv 1, iv i06, iv i0c, iv i0d, iv 0, iv 2, iv i03, iv i04, iv i05, rv o1, rv o2, rv o0, rv o3, .unset, .unset, .unset, .unset, .unset, .unset] [])) (by rw [q0, q1]) ?_
             let A9 : Slot → Slot → Slot → Slot → Slot → Slot → Array Slot := fun x26 x27 x28 x29 x30 x31 => #[iv i5, iv i0, iv i1, iv i6, iv i2, iv i3, iv i4, iv i7, iv i9, iv i8, iv i00, iv i01, iv i02, iv 1, iv i06, iv i0c, iv i0d, iv 0, iv 2, iv i03, iv i04, iv i05, rv o1, rv o2, rv o0, rv o3, x26, x27, x28, x29, x30, x31]
             show own_G p e below (T0g.setTop (mkF m 283 (A9 .unset .unset .unset .unset .unset .unset) [])) _
             refine oIL X0f hx hby at_283 rfl ?_
             refine oIC X0f hx hby at_285 ?_
             refine oNI X0f hx hby at_286 (XT.ii_lt_f (by decide)) ?_
             refine oAL X0f hx hby at_289 rfl rfl ?_
             refine oAL X0f hx hby at_291 rfl rfl ?_
             have y0j : @LT.lt Nat instLTNat o3 h00.size := by omega
             have F1r := (Exa.ext E2 (F0a.keep K0e)).keep K4
             have O0f : Old Z n0 h00 := O8.keep K4 (allS N1 all0)
             have Z0w : n0 ≤ h00.size := by omega
             refine own_cI X0f hx hZ hown e0c (y := mN77) (z := mN65) (b := o3) (hw 145) (hw 146) (hw 147) rfl (hw 148) (hw 149) (hw 150) (hw 151) (hw 152) (hw 123) (hw 153) (by decide) F00 (W := 0) (own_rm55 l Z a0 hw [] m0 o3 o1 o03 h00 n0 Z0w O0f F10 F00 N1 F11 F12 I8 I3 y0j F1r) [(.ref o1)] [] hml (lenOf own_pd28 rfl) (hb hby at_293) fun T0A h0l v0w L0M X0o e1i q0G => ?_
             obtain ⟨o0i, m6, rfl, N2e, K09, F7t, F4u, F4v, F4w, F1s, F4x, F7u, F4y⟩ := q0G
             have N2f := Fr.app N0C N2e
             have z0e := K09.1
             refine oS (fun _ => XT.pop X0o.here hx rfl (hb hby at_298) rfl rfl) ?_
             refine oIL X0o hx hby at_299 rfl ?_
             refine oIC X0o hx hby at_301 ?_
             refine oNI X0o hx hby at_302 (XT.ii_lt_f (by decide)) ?_
             show own_G p e below (T0A.setTop (mkF m 305 (A9 .unset .unset .unset .unset .unset .unset) [])) _
             refine oAL X0o hx hby at_305 rfl rfl ?_
             refine oAL X0o hx hby at_307 rfl rfl ?_
             have N2g : @Ne Nat o0i o3 := by omega
             have F1t := ((Exa.ext E2 (((Exa.ext E0 F0n).keep K0).keep K0e)).keep K4).keep K09
             have N0G : n0 ≤ o0i := by omega
             have O0g : Old Z n0 h0l := O0f.keep K09 (allS N1 all0)
             have Z0x : n0 ≤ h0l.size := by omega
             refine own_cI X0o hx hZ hown e1i (y := mN77) (z := mN65) (b := o3) (hw 145) (hw 146) (hw 147) rfl (hw 148) (hw 149) (hw 150) (hw 151) (hw 152) (hw 123) (hw 153) (by decide) F1s (W := 0) (own_rm86 l Z a0 hw [] m6 o3 o2 o0i o1 h0l n0 Z0x O0g F4u F1s N1 F4v F4w F4x N2g F4y F1t N0G) [(.ref o2)] [] hml (lenOf own_pd28 rfl) (hb hby at_309) fun T1d h0e v0x L0N X0w e1j q0H => ?_
             obtain ⟨rfl, N2h, K0a, F4z, F4A, F4B, F4C, F4D⟩ := q0H
             have N2i := Fr.app N2f N2h
             have z0f := K0a.1
             refine oS (fun _ => XT.pop X0w.here hx rfl (hb hby at_314) rfl rfl) ?_
             refine oIL X0w hx hby at_315 rfl ?_
             refine oAL X0w hx hby at_317 rfl rfl ?_
             refine oIN X0w hx hby at_319 rfl ?_
             refine oIN X0w hx hby at_320 rfl ?_
             have F1u := (((Exa.ext E2 F0Y).keep K4).keep K09).keep K0a
             have N2 : @Ne Nat o0 o3 := by omega
             have N0g : @Ne Nat o0 o0i := by omega
             have F4E := (((Fld.ext E2 F0V).keep K4 (ninS N2 nin0)).keep K09 (ninS N2 nin0)).keep K0a (ninS N2 (ninS N0g nin0))
             have y0k : @LT.lt Nat instLTNat o0 h0e.size := by omega
             have F1v := (((Fld.ext E2 F0X).keep K4 (ninS N2 nin0)).keep K09 (ninS N2 nin0)).keep K0a (ninS N2 (ninS N0g nin0))
             have F1w := (((Fld.ext E2 F0W).keep K4 (ninS N2 nin0)).keep K09 (ninS N2 nin0)).keep K0a (ninS N2 (ninS N0g nin0))
             have N0h : @Ne Nat o0f o3 := by omega
             have N2j : @Ne Nat o0f o0i := by omega
             have F1x := (((F0Z.ext E2).keep K4 (ninS N0h nin0)).keep K09 (ninS N0h nin0)).keep K0a (ninS N0h (ninS N2j nin0))
             have y0l : @LT.lt Nat instLTNat o0f h0e.size := by omega
             have F1y := (F1r.keep K09).keep K0a
             have N2k : @Ne Nat o1 o0h := by omega
             have N0H : @Ne Nat o1 o0 := by omega
             have N0i : @Ne Nat o1 o3 := by omega
             have N2l : @Ne Nat o1 o0i := by omega
             have F1z := (((Fld.ext E2 (((Fld.ext E0 ((F7.keep K5 nin0).keep K6 (ninS N2k nin0))).keep K0 (ninS N0H nin0)).keep K0e (ninS N0H nin0))).keep K4 (ninS N0i nin0)).keep K09 (ninS N0i nin0)).keep K0a (ninS N0i (ninS N2l nin0))
             have y0m : @LT.lt Nat instLTNat o1 h0e.size := by omega
             have O0h : Old Z n0 h0e := O0g.keep K0a (allS N1 (allS N0G all0))
             have Z0y : n0 ≤ h0e.size := by omega
             refine own_cS X0w hx hZ hown e1j (y := mN34) (hw 180) (hw 181) (hw 29) (hw 182) (by decide) (W := 0) (own_rm60 l Z a0 hw [] i4 i0 i1 i7 i8 i00 m3 o0 o9 o00 o01 o0f o1 h0e n0 Z0y O0h F1u I0 I1 I2 b0 F4E y0k F1v F1w F1x y0l F1y F1z y0m) [(.int i4), (.ref o0), (.int i0), (.int i1)] [] hml (lenOf own_pd19 rfl) (hb hby at_321) fun T0B h06 v0y L0O X0x e1k q0I => ?_
             obtain ⟨o0b, o04, rfl, N2m, K02, F7v, F7w, F4F, F4G, F4H, F4I, F4J, F4K, F4L, F4M, F4N, F4O, F7x, F7y⟩ := q0I
             have N2n := Fr.app N2i N2m
             have z0g := K02.1
             refine oAS X0x hx hby at_324 rfl (l' := (A9 (rv o0b) .unset .unset .unset .unset .unset)) rfl ?_
             show own_G p e below (T0B.setTop (mkF m 326 (A9 (rv o0b) .unset .unset .unset .unset .unset) [])) _
             refine oIL X0x hx hby at_326 rfl ?_
             refine oAL X0x hx hby at_328 rfl rfl ?_
             refine oIL X0x hx hby at_330 rfl ?_
             refine oIL X0x hx hby at_332 rfl ?_
             have F1A := F4C.keep K02
             have F4P := F4z.keep K02 nin0
             have y0n : @LT.lt Nat instLTNat o3 h06.size := by omega
             have F1B := F4B.keep K02 nin0
             have F4Q := F4A.keep K02 nin0
             have F4R := F4D.keep K02 nin0
             have y0o : @LT.lt Nat instLTNat o0i h06.size := by omega
             have F4S := F1y.keep K02
             have F4T := F1z.keep K02 nin0
             have y0p : @LT.lt Nat instLTNat o1 h06.size := by omega
             have F4U := (F1t.keep K0a).keep K02
             have N0I : @Ne Nat o2 o0 := by omega
             have N0j : @Ne Nat o2 o3 := by omega
             have N2o : @Ne Nat o2 o0i := by omega
             have F4V := ((((Fld.ext E2 (((Fld.ext E0 F08).keep K0 (ninS N0I nin0)).keep K0e (ninS N0I nin0))).keep K4 (ninS N0j nin0)).keep K09 (ninS N0j nin0)).keep K0a (ninS N0j (ninS N2o nin0))).keep K02 nin0
             have y0q : @LT.lt Nat instLTNat o2 h06.size := by omega
             have O0i : Old Z n0 h06 := O0h.keep K02 all0
             have Z0z : n0 ≤ h06.size := by omega
             refine own_cS X0x hx hZ hown e1k (y := mN34) (hw 180) (hw 181) (hw 29) (hw 182) (by decide) (W := 0) (own_rm88 l Z a0 hw [] i03 i04 i05 i7 i8 i00 i9 i01 i02 m6 o3 o9 o00 o01 o0i o1 o2 h06 n0 Z0z O0i F1A I0 I1 I2 I5 F4P y0n F1B F4Q F4R y0o F4S F4T y0p F4U F4V y0q) [(.int i03), (.ref o3), (.int i04), (.int i05)] [] hml (lenOf own_pd19 rfl) (hb hby at_334) fun T1e h4 v0z L0P X1e e1l q0J => ?_
             obtain ⟨o0n, o0x, rfl, N2p, K7, F7z, F7A, F4W, F4X, F4Y, F4Z, F50, F51, F52, F53, F54, F7B, F55, F56⟩ := q0J
             have N2q := Fr.app N2n N2p
             have z0h := K7.1
             refine oAS X1e hx hby at_337 rfl (l' := (A9 (rv o0b) (rv o0n) .unset .unset .unset .unset)) rfl ?_
             let A4 : Slot → Slot → Slot → Slot → Array Slot := fun x28 x29 x30 x31 => #[iv i5, iv i0, iv i1, iv i6, iv i2, iv i3, iv i4, iv i7, iv i9, iv i8, iv i00, iv i01, iv i02, iv 1, iv i06, iv i0c, iv i0d, iv 0, iv 2, iv i03, iv i04, iv i05, rv o1, rv o2, rv o0, rv o3, rv o0b, rv o0n, x28, x29, x30, x31]
             refine oAL X1e hx hby at_339 rfl rfl ?_
             have F1C := F4K.keep K7 nin0
             have O4 : Old Z n0 h4 := O0i.keep K7 all0
             have Z0A : n0 ≤ h4.size := by omega
             have F4 := F4F.keep K7
             refine own_cV X1e hx hZ hown e1l (y := mN35) (z := mN35) (b := o0b) (hw 313) (hw 314) (notFace_of_selects (args := #[]) (mvT hZ (hw 316))) (hw 316) (hw 315) (hw 29) (hw 317) (by decide) F4 (W := 0) (own_rm33 l Z a0 hw [] o0b o04 h4 n0 Z0A O4 F1C) [] [] hml (lenOf own_pd4 rfl) (hb hby at_341) fun T0C h0R v0A L0Q X1f e1m q0K => ?_
             obtain ⟨rfl, N2r, K0P⟩ := q0K
             have N2s := Fr.app N2q N2r
             have e1n := e1m.trans K0P
             refine oAS X1f hx hby at_344 rfl (l' := (A4 (rv o04) .unset .unset .unset)) rfl ?_
             refine oAL X1f hx hby at_346 rfl rfl ?_
             show own_G p e below (T0C.setTop (mkF m 348 (A4 (rv o04) .unset .unset .unset) [(.ref o0b)])) _
             have F1D := F4G.keep K7 nin0
             have Z0B : n0 ≤ h4.size := by omega
             refine own_cV X1f hx hZ hown e1n (y := mN36) (z := mN36) (b := o0b) (hw 318) (hw 319) (notFace_of_selects (args := #[]) (mvT hZ (hw 321))) (hw 321) (hw 320) (hw 29) (hw 322) (by decide) F4 (W := 0) (own_rm34 l Z a0 hw [] i4 o0b h4 n0 Z0B O4 F1D b0) [] [] hml (lenOf own_pd20 rfl) (hb hby at_348) fun T1f h0S v0B L0R X0P e1o q0L => ?_
             obtain ⟨rfl, N2t, K0Q⟩ := q0L
             have N2u := Fr.app N2s N2t
             have e1p := e1o.trans K0Q
             refine oIL X0P hx hby at_351 rfl ?_
             refine oNI X0P hx hby at_353 (XT.ii_ne_f rfl) ?_
             refine oAL X0P hx hby at_356 rfl rfl ?_
             have F1E := F4H.keep K7 nin0
             have Z0C : n0 ≤ h4.size := by omega
             refine own_cV X0P hx hZ hown e1p (y := mN37) (z := mN37) (b := o0b) (hw 323) (hw 324) (notFace_of_selects (args := #[]) (mvT hZ (hw 326))) (hw 326) (hw 325) (hw 29) (hw 327) (by decide) F4 (W := 0) (own_rm35 l Z a0 hw [] o0b h4 n0 Z0C O4 F1E) [] [] hml (lenOf own_pd21 rfl) (hb hby at_358) fun T1g h0T v0C L0S X1g e1q q0M => ?_
             obtain ⟨rfl, N2v, K0R⟩ := q0M
             have N2w := Fr.app N2u N2v
             have e1r := e1q.trans K0R
             refine oS (fun _ => XT.ifnonnullNo X1g.here hx rfl (hb hby at_361) rfl) ?_
             refine oAL X1g hx hby at_364 rfl rfl ?_
             have F1F := F4I.keep K7 nin0
             have Z0D : n0 ≤ h4.size := by omega
             refine own_cV X1g hx hZ hown e1r (y := mN38) (z := mN38) (b := o0b) (hw 328) (hw 329) (notFace_of_selects (args := #[]) (mvT hZ (hw 331))) (hw 331) (hw 330) (hw 29) (hw 332) (by decide) F4 (W := 0) (own_rm36 l Z a0 hw [] i0 o0b h4 n0 Z0D O4 F1F) [] [] hml (lenOf own_pd7 rfl) (hb hby at_366) fun T0D h0U v0D L0T X0Q e1s q0N => ?_
             obtain ⟨rfl, N2x, K0S⟩ := q0N
             have N2y := Fr.app N2w N2x
             have e1t := e1s.trans K0S
             refine oIN X0Q hx hby at_369 rfl ?_
             refine oNI X0Q hx hby at_370 (XT.ii_ne_f rfl) ?_
             show own_G p e below (T0D.setTop (mkF m 373 (A4 (rv o04) .unset .unset .unset) [])) _
             refine oAL X0Q hx hby at_373 rfl rfl ?_
             have F1G := F4J.keep K7 nin0
             have Z0E : n0 ≤ h4.size := by omega
             refine own_cV X0Q hx hZ hown e1t (y := mN39) (z := mN39) (b := o0b) (hw 333) (hw 334) (notFace_of_selects (args := #[]) (mvT hZ (hw 336))) (hw 336) (hw 335) (hw 29) (hw 337) (by decide) F4 (W := 0) (own_rm37 l Z a0 hw [] i1 o0b h4 n0 Z0E O4 F1G) [] [] hml (lenOf own_pd7 rfl) (hb hby at_375) fun T1h h0V v0E L0U X0R e1u q0O => ?_
             obtain ⟨rfl, N2z, K0T⟩ := q0O
             have N2A := Fr.app N2y N2z
             have e1v := e1u.trans K0T
             refine oIN X0R hx hby at_378 rfl ?_
             refine oNI X0R hx hby at_379 (XT.ii_ne_f rfl) ?_
             refine oAL X0R hx hby at_382 rfl rfl ?_
             have F1H := F4N.keep K7 nin0
             have F0e := (F1v.keep K02 nin0).keep K7 nin0
             have F0f := (F1u.keep K02).keep K7
             have Z0F : n0 ≤ h4.size := by omega
             have F0g := F4M.keep K7
             refine own_cI X0R hx hZ hown e1v (y := mN55) (z := mN41) (b := o04) (hw 338) (hw 339) (hw 340) rfl (hw 341) (hw 342) (hw 343) (hw 344) (hw 229) (hw 218) (hw 345) (by decide) F0g (W := 0) (own_rm76 l Z a0 hw [] o04 o0 h4 n0 Z0F O4 F1H F0e F0f) [] [] hml (lenOf own_pd7 rfl) (hb hby at_384) fun T0E h0W v0F L0V X0h e1w q0P => ?_
             obtain ⟨rfl, N2B, K0U⟩ := q0P
             have N2C := Fr.app N2A N2B
             have e1x := e1w.trans K0U
             refine oIL X0h hx hby at_389 rfl ?_
             refine oNI X0h hx hby at_391 (XT.ii_ne_f (by decide)) ?_
             refine oIC X0h hx hby at_394 ?_
             refine oGO X0h hx hby (pc' := 399) at_395 ?_
             show own_G p e below (T0E.setTop (mkF m 399 (A4 (rv o04) .unset .unset .unset) [(.int 1)])) _
             refine oIS X0h hx hby at_399 (l' := (A4 (rv o04) (iv 1) .unset .unset)) rfl ?_
             refine oIL X0h hx hby at_401 rfl ?_
             refine oN0 X0h hx hby at_403 (XT.i0_eq_f (by decide)) ?_
             refine oIL X0h hx hby at_406 rfl ?_
             refine oIC X0h hx hby at_408 ?_
             refine oNI X0h hx hby at_409 (XT.ii_lt_f (by decide)) ?_
             refine oAL X0h hx hby at_412 rfl rfl ?_
             refine oIC X0h hx hby at_414 ?_
             have F57 := F4O.keep K7 nin0
             have F58 := (F1w.keep K02 nin0).keep K7 nin0
             have F59 := (F1x.keep K02 nin0).keep K7 nin0
             have Z0G : n0 ≤ h4.size := by omega
             refine own_cI X0h hx hZ hown e1x (y := mN76) (z := mN75) (b := o04) (hw 354) (hw 355) (hw 356) rfl (hw 357) (hw 358) (hw 359) (hw 360) (hw 229) (hw 212) (hw 361) (by decide) F0g (W := 0) (own_rm78 l Z a0 hw [] m3 o04 o0 o0f o1 h4 n0 Z0G O4 F57 F0e F58 F59 F0f) [(.int 0)] [] hml (lenOf own_pd33 rfl) (hb hby at_415) fun T4 h0X v0G L0W X5 e1y q0Q => ?_
             obtain ⟨rfl, N2D, K0V⟩ := q0Q
             have N02 := Fr.app N2C N2D
             have e4 := e1y.trans K0V
             refine oAL X5 hx hby at_420 rfl rfl ?_
             show own_G p e below (T4.setTop (mkF m 422 (A4 (rv o04) (iv 1) .unset .unset) [(.ref o1), (.ref o1)])) _
             refine oS (fun _ => XT.acmpNo X5.here hx rfl (hb hby at_422) rfl rfl rfl (XT.aa_ne_f rfl)) ?_
             refine oIC X5 hx hby at_425 ?_
             refine oGO X5 hx hby (pc' := 430) at_426 ?_
             refine oIS X5 hx hby at_430 (l' := (A4 (rv o04) (iv 1) .unset .unset)) rfl ?_
             refine oIL X5 hx hby at_432 rfl ?_
             refine oN0 X5 hx hby at_434 (XT.i0_eq_f (by decide)) ?_
             refine oIL X5 hx hby at_437 rfl ?_
             refine oIC X5 hx hby at_439 ?_
             refine oYI X5 hx hby (pc' := 463) at_440 (XT.ii_lt_t (by decide)) ?_
             have J4 : ∀ (T05 : State) (L03 : List Loc) (X0S : Stand p l e room_1 s m #[(.int i5), (.int i0), (.int i1), (.int i6), (.int i2), (.int i3)] below meth c T05 L03 20 84) (e0f : T05.heap = h4) (N0J : Fr n0 L03), own_G p e below (T05.setTop (mkF m 490 (A4 (rv o04) (iv 1) (iv 0) .unset) [])) (own_P s (own_Q1 Z i5 i0 i1 i6 i2 i3 i0f o06 o07 m1 o03 o9 o00 o01 m0 h0 n0) 56 320) := by
              intro T05 L03 X0S e0f N0J
              refine oAL X0S hx hby at_490 rfl rfl ?_
              show own_G p e below (T05.setTop (mkF m 492 (A4 (rv o04) (iv 1) (iv 0) .unset) [(.ref o0b)])) _
              refine oAL X0S hx hby at_492 rfl rfl ?_
              have N2E : @Ne Nat o0b o0n := by omega
              have F5a := F4L.keep K7 nin0
              have y0r : @LT.lt Nat instLTNat o0b h4.size := by omega
              have y0s : @LT.lt Nat instLTNat o04 h4.size := by omega
              have y0t : @LT.lt Nat instLTNat o0 h4.size := by omega
              have F5b := F1B.keep K7 nin0
              have y0u : @LT.lt Nat instLTNat o3 h4.size := by omega
              have F5c := F1A.keep K7
              have Z0H : n0 ≤ h4.size := by omega
              refine own_cV X0S hx hZ hown e0f (y := mN56) (z := mN56) (b := o0b) (hw 380) (hw 381) (notFace_of_selects (args := #[]) (mvT hZ (hw 383))) (hw 383) (hw 382) (hw 29) (hw 384) (by decide) F4 (W := 0) (own_rm105 l Z a0 hw [] i4 i0 i1 i7 i8 i00 i03 i04 i05 i9 i01 i02 o0b o0n o04 o0 o0x o3 h4 n0 Z0H O4 F4W F4 N2E F5a y0r F52 F55 F1D F4X F1F F4Z F1G F50 F1E F4Y F1C F1H y0s F0e y0t F0f F0g F51 F54 F56 F5b y0u F5c F53) [(.ref o0n)] [] hml (lenOf own_pd28 rfl) (hb hby at_494) fun T0F h0s v0H L0X X08 e1z q0R => ?_
              obtain ⟨rfl, N2F, K0p⟩ := q0R
              have N2G := Fr.app N0J N2F
              have z0i := K0p.1
              refine oIS X08 hx hby at_497 (l' := (A4 (rv o04) (iv 1) (iv 0) (iv 0))) rfl ?_
              refine oIL X08 hx hby at_499 rfl ?_
              refine oN0 X08 hx hby at_501 (XT.i0_eq_f (by decide)) ?_
              refine oIL X08 hx hby at_504 rfl ?_
              refine oIL X08 hx hby at_506 rfl ?_
              refine oNI X08 hx hby at_508 (XT.ii_ne_f (by decide)) ?_
              refine oIC X08 hx hby at_511 ?_
              refine oGO X08 hx hby (pc' := 516) at_512 ?_
              show own_G p e below (T0F.setTop (mkF m 516 (A4 (rv o04) (iv 1) (iv 0) (iv 0)) [(.int 1)])) _
              refine oIS X08 hx hby at_516 (l' := (A4 (rv o04) (iv 1) (iv 0) (iv 0))) rfl ?_
              refine oIL X08 hx hby at_518 rfl ?_
              refine oN0 X08 hx hby at_520 (XT.i0_eq_f (by decide)) ?_
              refine oIL X08 hx hby at_523 rfl ?_
              refine oY0 X08 hx hby (pc' := 548) at_525 (XT.i0_eq_t (by decide)) ?_
              refine oIL X08 hx hby at_548 rfl ?_
              have K1j : Keep h0 h0s [] := (((((((((((((((Keep.refl h0 []).trans K0c all0).trans K0d (allS (Or.inr (by omega)) all0)).trans K5 all0).trans K6 (allS (Or.inr (by omega)) all0)).ext E0).trans K0 (allS (Or.inr (by omega)) all0)).trans K0e (allS (Or.inr (by omega)) all0)).ext E2).trans K4 (allS (Or.inr (by omega)) all0)).trans K09 (allS (Or.inr (by omega)) all0)).trans K0a (allS (Or.inr (by omega)) (allS (Or.inr (by omega)) all0))).trans K02 all0).trans K7 all0).trans K0p all0)
              exact own_retN X08 hx (t := .boolean) Bd.notSynchronized Bd.returns (by simp) (hb hby at_550) (by decide) e1z (by decide) (by decide) (⟨rfl, N2G⟩)
             refine oIL X5 hx hby at_463 rfl ?_
             by_cases b03 : i06 = 0
             ·skip
              refine oY0 X5 hx hby (pc' := 487) at_465 (XT.i0_eq_t b03) ?_
              show own_G p e below (T4.setTop (mkF m 487 (A4 (rv o04) (iv 1) .unset .unset) [])) _
              refine oIC X5 hx hby at_487 ?_
              refine oIS X5 hx hby at_488 (l' := (A4 (rv o04) (iv 1) (iv 0) .unset)) rfl ?_
              exact J4 T4 _ X5 e4 N02  
             ·skip
              refine oN0 X5 hx hby at_465 (XT.i0_eq_f b03) ?_
              show own_G p e below (T4.setTop (mkF m 468 (A4 (rv o04) (iv 1) .unset .unset) [])) _
              refine oIL X5 hx hby at_468 rfl ?_
              by_cases b04 : i0c = 0
              ·skip
               refine oY0 X5 hx hby (pc' := 487) at_470 (XT.i0_eq_t b04) ?_
               show own_G p e below (T4.setTop (mkF m 487 (A4 (rv o04) (iv 1) .unset .unset) [])) _
               refine oIC X5 hx hby at_487 ?_
               refine oIS X5 hx hby at_488 (l' := (A4 (rv o04) (iv 1) (iv 0) .unset)) rfl ?_
               exact J4 T4 _ X5 e4 N02  
              ·skip
               refine oN0 X5 hx hby at_470 (XT.i0_eq_f b04) ?_
               show own_G p e below (T4.setTop (mkF m 473 (A4 (rv o04) (iv 1) .unset .unset) [])) _
               refine oIL X5 hx hby at_473 rfl ?_
               by_cases b05 : i0d = 0
               ·skip
                refine oY0 X5 hx hby (pc' := 487) at_475 (XT.i0_eq_t b05) ?_
                show own_G p e below (T4.setTop (mkF m 487 (A4 (rv o04) (iv 1) .unset .unset) [])) _
                refine oIC X5 hx hby at_487 ?_
                refine oIS X5 hx hby at_488 (l' := (A4 (rv o04) (iv 1) (iv 0) .unset)) rfl ?_
                exact J4 T4 _ X5 e4 N02  
               ·skip
                refine oN0 X5 hx hby at_475 (XT.i0_eq_f b05) ?_
                show own_G p e below (T4.setTop (mkF m 478 (A4 (rv o04) (iv 1) .unset .unset) [])) _
                refine oIL X5 hx hby at_478 rfl ?_
                refine oY0 X5 hx hby (pc' := 487) at_480 (XT.i0_eq_t (by decide)) ?_
                refine oIC X5 hx hby at_487 ?_
                refine oIS X5 hx hby at_488 (l' := (A4 (rv o04) (iv 1) (iv 0) .unset)) rfl ?_
                exact J4 T4 _ X5 e4 N02  
           ·skip
            refine own_cast (g' := (mkF m 242 #[iv i5, iv i0, iv i1, iv i6, iv i2, iv i3, iv i4, iv i7, iv i9, iv i8, iv i00, iv i01, iv i02, iv 2, iv i06, iv i0c, iv i0d, iv i08, iv i09, iv i03, iv i04, iv i05, rv o1, rv o2, rv o0, .unset, .unset, .unset, .unset, .unset, .unset, .unset] [])) (by rw [q2]) ?_
            let A00 : Slot → Slot → Slot → Slot → Slot → Slot → Slot → Slot → Slot → Array Slot := fun x17 x18 x25 x26 x27 x28 x29 x30 x31 => #[iv i5, iv i0, iv i1, iv i6, iv i2, iv i3, iv i4, iv i7, iv i9, iv i8, iv i00, iv i01, iv i02, iv 2, iv i06, iv i0c, iv i0d, x17, x18, iv i03, iv i04, iv i05, rv o1, rv o2, rv o0, x25, x26, x27, x28, x29, x30, x31]
            show own_G p e below (T08.setTop (mkF m 242 (A00 (iv i08) (iv i09) .unset .unset .unset .unset .unset .unset .unset) [])) _
            refine oIL X02 hx hby at_242 rfl ?_
            refine oIC X02 hx hby at_244 ?_
            refine oNI X02 hx hby at_245 (XT.ii_lt_f (by decide)) ?_
            refine oAL X02 hx hby at_248 rfl rfl ?_
            refine oAL X02 hx hby at_250 rfl rfl ?_
            have y0v : @LT.lt Nat instLTNat o0 h8.size := by omega
            have F0h := (Exa.ext E0 ((F07.keep K5).keep K6)).keep K0
            have O0j : Old Z n0 h8 := O6.keep K0 (allS N0 all0)
            have Z0I : n0 ≤ h8.size := by omega
            refine own_cI X02 hx hZ hown e05 (y := mN77) (z := mN65) (b := o0) (hw 145) (hw 146) (hw 147) rfl (hw 148) (hw 149) (hw 150) (hw 151) (hw 152) (hw 123) (hw 153) (by decide) F6 (W := 0) (own_rm55 l Z a0 hw [] m0 o0 o1 o03 h8 n0 Z0I O0j F8 F6 N0 F0o F9 I8 I3 y0v F0h) [(.ref o1)] [] hml (lenOf own_pd28 rfl) (hb hby at_252) fun T0G h0m v0I L0Y X0p e1A q0S => ?_
            obtain ⟨o0c, m2, rfl, N2H, K0b, F7C, F5d, F5e, F5f, F1I, F5g, F7D, F5h⟩ := q0S
            have N2I := Fr.app N0d N2H
            have z0j := K0b.1
            refine oS (fun _ => XT.pop X0p.here hx rfl (hb hby at_257) rfl rfl) ?_
            refine oIL X0p hx hby at_258 rfl ?_
            refine oIC X0p hx hby at_260 ?_
            refine oNI X0p hx hby at_261 (XT.ii_lt_f (by decide)) ?_
            show own_G p e below (T0G.setTop (mkF m 264 (A00 (iv i08) (iv i09) .unset .unset .unset .unset .unset .unset .unset) [])) _
            refine oAL X0p hx hby at_264 rfl rfl ?_
            refine oAL X0p hx hby at_266 rfl rfl ?_
            have N2J : @Ne Nat o0c o0 := by omega
            have F0i := ((Exa.ext E0 F0n).keep K0).keep K0b
            have N0K : n0 ≤ o0c := by omega
            have O0k : Old Z n0 h0m := O0j.keep K0b (allS N0 all0)
            have Z0J : n0 ≤ h0m.size := by omega
            refine own_cI X0p hx hZ hown e1A (y := mN77) (z := mN65) (b := o0) (hw 145) (hw 146) (hw 147) rfl (hw 148) (hw 149) (hw 150) (hw 151) (hw 152) (hw 123) (hw 153) (by decide) F1I (W := 0) (own_rm86 l Z a0 hw [] m2 o0 o2 o0c o1 h0m n0 Z0J O0k F5d F1I N0 F5e F5f F5g N2J F5h F0i N0K) [(.ref o2)] [] hml (lenOf own_pd28 rfl) (hb hby at_268) fun T1i h0q v0J L0Z X1t e1B q0T => ?_
            obtain ⟨rfl, N2K, K05, F1J, F1K, F1L, F1M, F1N⟩ := q0T
            have N2L := Fr.app N2I N2K
            have z0k := K05.1
            refine oS (fun _ => XT.pop X1t.here hx rfl (hb hby at_273) rfl rfl) ?_
            obtain ⟨T1j, h07, X1u, e1C, E1, A08, D3, U3, s3⟩ := newO X1t hx hZ hown (hw 121) (hw 122) (hw 123) e1B (g := (mkF m 274 (A00 (iv i08) (iv i09) .unset .unset .unset .unset .unset .unset .unset) [])) rfl (hb hby at_274) (by decide) (by decide)
            obtain ⟨o4, g3⟩ : ∃ z, z = h0q.size := ⟨_, rfl⟩
            rw [← g3] at A08 D3 U3 s3
            have z0l := E1.1
            have y0X : @LT.lt Nat instLTNat o4 h07.size := A08.lt
            refine oS s3 ?_
            have F5i : Fld Z h07 o4 cN9 "modCount" "I" (.int 0) := D3 (Or.inl (hw 141)) (ty := .int) (by decide)
            have F5j : Fld Z h07 o4 cN10 "elementData" cN3 .null := D3 (Or.inl (hw 144)) (ty := (.array (.object cN1))) (by decide)
            have F5k : Fld Z h07 o4 cN10 "size" "I" (.int 0) := D3 (Or.inl (hw 157)) (ty := .int) (by decide)
            refine oS (fun _ => XS.dup X1u.here hx rfl (hb hby at_277) rfl rfl) ?_
            have N5 : n0 ≤ o4 := by omega
            have O0v : Old Z n0 h0q := O0k.keep K05 (allS N0 (allS N0K all0))
            have O9 : Old Z n0 h07 := O0v.ext E1
            have Z0K : n0 ≤ h07.size := by omega
            refine own_cN X1u hx hZ hown e1C (y := mN21) (b := o4) rfl (hw 124) (hw 125) (hw 123) (hw 126) (by decide) (W := 1) (own_rm17 l Z a0 hw [] o4 o03 h07 n0 Z0K O9 F5i A08 N5 F5j F5k I3) [] [(.ref o4)] hml (lenOf own_pd13 rfl) (hb hby at_278) fun T0e h7 v0K L10 X05 e0g q0U => ?_
            obtain ⟨rfl, N2M, K1, F1O, F0j, F5l, F1P⟩ := q0U
            have N0L := Fr.app N2L N2M
            have z0m := K1.1
            refine oAS X05 hx hby at_281 rfl (l' := (A00 (iv i08) (iv i09) (rv o4) .unset .unset .unset .unset .unset .unset)) rfl ?_
            show own_G p e below (T0e.setTop (mkF m 283 (A00 (iv i08) (iv i09) (rv o4) .unset .unset .unset .unset .unset .unset) [])) _
            rcases q3 with ⟨q0, q1⟩ | ⟨q0, q1⟩
            ·skip
             refine own_cast (g' := (mkF m 283 #[iv i5, iv i0, iv i1, iv i6, iv i2, iv i3, iv i4, iv i7, iv i9, iv i8, iv i00, iv i01, iv i02, iv 2, iv i06, iv i0c, iv i0d, iv 1, iv 2, iv i03, iv i04, iv i05, rv o1, rv o2, rv o0, rv o4, .unset, .unset, .unset, .unset, .unset, .unset] [])) (by rw [q0, q1]) ?_
             let A01 : Slot → Slot → Slot → Slot → Slot → Slot → Array Slot := fun x26 x27 x28 x29 x30 x31 => #[iv i5, iv i0, iv i1, iv i6, iv i2, iv i3, iv i4, iv i7, iv i9, iv i8, iv i00, iv i01, iv i02, iv 2, iv i06, iv i0c, iv i0d, iv 1, iv 2, iv i03, iv i04, iv i05, rv o1, rv o2, rv o0, rv o4, x26, x27, x28, x29, x30, x31]
             show own_G p e below (T0e.setTop (mkF m 283 (A01 .unset .unset .unset .unset .unset .unset) [])) _
             refine oIL X05 hx hby at_283 rfl ?_
             refine oIC X05 hx hby at_285 ?_
             refine oNI X05 hx hby at_286 (XT.ii_lt_f (by decide)) ?_
             refine oAL X05 hx hby at_289 rfl rfl ?_
             refine oAL X05 hx hby at_291 rfl rfl ?_
             have y0w : @LT.lt Nat instLTNat o4 h7.size := by omega
             have F1Q := (Exa.ext E1 ((F0h.keep K0b).keep K05)).keep K1
             have O0l : Old Z n0 h7 := O9.keep K1 (allS N5 all0)
             have Z0L : n0 ≤ h7.size := by omega
             refine own_cI X05 hx hZ hown e0g (y := mN77) (z := mN65) (b := o4) (hw 145) (hw 146) (hw 147) rfl (hw 148) (hw 149) (hw 150) (hw 151) (hw 152) (hw 123) (hw 153) (by decide) F0j (W := 0) (own_rm55 l Z a0 hw [] m0 o4 o1 o03 h7 n0 Z0L O0l F1O F0j N5 F5l F1P I8 I3 y0w F1Q) [(.ref o1)] [] hml (lenOf own_pd28 rfl) (hb hby at_293) fun T0H h0n v0L L11 X0q e1D q0V => ?_
             obtain ⟨o0g, m4, rfl, N2N, K06, F7E, F5m, F5n, F5o, F1R, F5p, F7F, F5q⟩ := q0V
             have N2O := Fr.app N0L N2N
             have z0n := K06.1
             refine oS (fun _ => XT.pop X0q.here hx rfl (hb hby at_298) rfl rfl) ?_
             refine oIL X0q hx hby at_299 rfl ?_
             refine oIC X0q hx hby at_301 ?_
             refine oNI X0q hx hby at_302 (XT.ii_lt_f (by decide)) ?_
             show own_G p e below (T0H.setTop (mkF m 305 (A01 .unset .unset .unset .unset .unset .unset) [])) _
             refine oAL X0q hx hby at_305 rfl rfl ?_
             refine oAL X0q hx hby at_307 rfl rfl ?_
             have N2P : @Ne Nat o0g o4 := by omega
             have F1S := ((Exa.ext E1 (F0i.keep K05)).keep K1).keep K06
             have N0M : n0 ≤ o0g := by omega
             have O0m : Old Z n0 h0n := O0l.keep K06 (allS N5 all0)
             have Z0M : n0 ≤ h0n.size := by omega
             refine own_cI X0q hx hZ hown e1D (y := mN77) (z := mN65) (b := o4) (hw 145) (hw 146) (hw 147) rfl (hw 148) (hw 149) (hw 150) (hw 151) (hw 152) (hw 123) (hw 153) (by decide) F1R (W := 0) (own_rm86 l Z a0 hw [] m4 o4 o2 o0g o1 h0n n0 Z0M O0m F5m F1R N5 F5n F5o F5p N2P F5q F1S N0M) [(.ref o2)] [] hml (lenOf own_pd28 rfl) (hb hby at_309) fun T1k h08 v0M L12 X0y e1E q0W => ?_
             obtain ⟨rfl, N2Q, K07, F5r, F5s, F5t, F5u, F5v⟩ := q0W
             have N2R := Fr.app N2O N2Q
             have z0o := K07.1
             refine oS (fun _ => XT.pop X0y.here hx rfl (hb hby at_314) rfl rfl) ?_
             refine oIL X0y hx hby at_315 rfl ?_
             refine oAL X0y hx hby at_317 rfl rfl ?_
             refine oIN X0y hx hby at_319 rfl ?_
             refine oIN X0y hx hby at_320 rfl ?_
             have F1T := (((Exa.ext E1 F1M).keep K1).keep K06).keep K07
             have N3 : @Ne Nat o0 o4 := by omega
             have N0k : @Ne Nat o0 o0g := by omega
             have F5w := (((Fld.ext E1 F1J).keep K1 (ninS N3 nin0)).keep K06 (ninS N3 nin0)).keep K07 (ninS N3 (ninS N0k nin0))
             have y0x : @LT.lt Nat instLTNat o0 h08.size := by omega
             have F1U := (((Fld.ext E1 F1L).keep K1 (ninS N3 nin0)).keep K06 (ninS N3 nin0)).keep K07 (ninS N3 (ninS N0k nin0))
             have F1V := (((Fld.ext E1 F1K).keep K1 (ninS N3 nin0)).keep K06 (ninS N3 nin0)).keep K07 (ninS N3 (ninS N0k nin0))
             have N0l : @Ne Nat o0c o4 := by omega
             have N2S : @Ne Nat o0c o0g := by omega
             have F1W := (((F1N.ext E1).keep K1 (ninS N0l nin0)).keep K06 (ninS N0l nin0)).keep K07 (ninS N0l (ninS N2S nin0))
             have y0y : @LT.lt Nat instLTNat o0c h08.size := by omega
             have F1X := (F1Q.keep K06).keep K07
             have N2T : @Ne Nat o1 o0h := by omega
             have N0m : @Ne Nat o1 o0 := by omega
             have N2U : @Ne Nat o1 o0c := by omega
             have N0n : @Ne Nat o1 o4 := by omega
             have N2V : @Ne Nat o1 o0g := by omega
             have F1Y := (((Fld.ext E1 ((((Fld.ext E0 ((F7.keep K5 nin0).keep K6 (ninS N2T nin0))).keep K0 (ninS N0m nin0)).keep K0b (ninS N0m nin0)).keep K05 (ninS N0m (ninS N2U nin0)))).keep K1 (ninS N0n nin0)).keep K06 (ninS N0n nin0)).keep K07 (ninS N0n (ninS N2V nin0))
             have y0z : @LT.lt Nat instLTNat o1 h08.size := by omega
             have F1Z := F1S.keep K07
             have N0o : @Ne Nat o2 o0 := by omega
             have N2W : @Ne Nat o2 o0c := by omega
             have N0p : @Ne Nat o2 o4 := by omega
             have N2X : @Ne Nat o2 o0g := by omega
             have F20 := (((Fld.ext E1 ((((Fld.ext E0 F08).keep K0 (ninS N0o nin0)).keep K0b (ninS N0o nin0)).keep K05 (ninS N0o (ninS N2W nin0)))).keep K1 (ninS N0p nin0)).keep K06 (ninS N0p nin0)).keep K07 (ninS N0p (ninS N2X nin0))
             have y0A : @LT.lt Nat instLTNat o2 h08.size := by omega
             have O0n : Old Z n0 h08 := O0m.keep K07 (allS N5 (allS N0M all0))
             have Z0N : n0 ≤ h08.size := by omega
             refine own_cS X0y hx hZ hown e1E (y := mN34) (hw 180) (hw 181) (hw 29) (hw 182) (by decide) (W := 0) (own_rm88 l Z a0 hw [] i4 i0 i1 i7 i8 i00 i9 i01 i02 m2 o0 o9 o00 o01 o0c o1 o2 h08 n0 Z0N O0n F1T I0 I1 I2 b0 F5w y0x F1U F1V F1W y0y F1X F1Y y0z F1Z F20 y0A) [(.int i4), (.ref o0), (.int i0), (.int i1)] [] hml (lenOf own_pd19 rfl) (hb hby at_321) fun T0I h09 v0N L13 X0z e1F q0X => ?_
             obtain ⟨o09, o5, rfl, N2Y, K00, F7G, F7H, F5x, F5y, F5z, F5A, F5B, F5C, F5D, F5E, F5F, F5G, F7I, F7J⟩ := q0X
             have N2Z := Fr.app N2R N2Y
             have z0p := K00.1
             refine oAS X0z hx hby at_324 rfl (l' := (A01 (rv o09) .unset .unset .unset .unset .unset)) rfl ?_
             show own_G p e below (T0I.setTop (mkF m 326 (A01 (rv o09) .unset .unset .unset .unset .unset) [])) _
             refine oIL X0z hx hby at_326 rfl ?_
             refine oAL X0z hx hby at_328 rfl rfl ?_
             refine oIL X0z hx hby at_330 rfl ?_
             refine oIL X0z hx hby at_332 rfl ?_
             have F21 := F5u.keep K00
             have F5H := F5r.keep K00 nin0
             have y0B : @LT.lt Nat instLTNat o4 h09.size := by omega
             have F22 := F5t.keep K00 nin0
             have F23 := F5s.keep K00 nin0
             have F24 := F5v.keep K00 nin0
             have y0C : @LT.lt Nat instLTNat o0g h09.size := by omega
             have F25 := F1X.keep K00
             have F5I := F1Y.keep K00 nin0
             have y0D : @LT.lt Nat instLTNat o1 h09.size := by omega
             have F26 := F1Z.keep K00
             have F5J := F20.keep K00 nin0
             have y0E : @LT.lt Nat instLTNat o2 h09.size := by omega
             have O0o : Old Z n0 h09 := O0n.keep K00 all0
             have Z0O : n0 ≤ h09.size := by omega
             refine own_cS X0z hx hZ hown e1F (y := mN34) (hw 180) (hw 181) (hw 29) (hw 182) (by decide) (W := 0) (own_rm88 l Z a0 hw [] i03 i04 i05 i7 i8 i00 i9 i01 i02 m4 o4 o9 o00 o01 o0g o1 o2 h09 n0 Z0O O0o F21 I0 I1 I2 I5 F5H y0B F22 F23 F24 y0C F25 F5I y0D F26 F5J y0E) [(.int i03), (.ref o4), (.int i04), (.int i05)] [] hml (lenOf own_pd19 rfl) (hb hby at_334) fun T1l h1 v0O L14 X1h e1G q0Y => ?_
             obtain ⟨o0l, o0y, rfl, N30, K2, F7K, F7L, F27, F5K, F5L, F5M, F5N, F5O, F28, F5P, F5Q, F5R, F5S, F5T⟩ := q0Y
             have N31 := Fr.app N2Z N30
             have z0q := K2.1
             refine oAS X1h hx hby at_337 rfl (l' := (A01 (rv o09) (rv o0l) .unset .unset .unset .unset)) rfl ?_
             let A0 : Slot → Slot → Slot → Slot → Array Slot := fun x28 x29 x30 x31 => #[iv i5, iv i0, iv i1, iv i6, iv i2, iv i3, iv i4, iv i7, iv i9, iv i8, iv i00, iv i01, iv i02, iv 2, iv i06, iv i0c, iv i0d, iv 1, iv 2, iv i03, iv i04, iv i05, rv o1, rv o2, rv o0, rv o4, rv o09, rv o0l, x28, x29, x30, x31]
             refine oAL X1h hx hby at_339 rfl rfl ?_
             have F29 := F5C.keep K2 nin0
             have O0 : Old Z n0 h1 := O0o.keep K2 all0
             have Z0P : n0 ≤ h1.size := by omega
             have F2 := F5x.keep K2
             refine own_cV X1h hx hZ hown e1G (y := mN35) (z := mN35) (b := o09) (hw 313) (hw 314) (notFace_of_selects (args := #[]) (mvT hZ (hw 316))) (hw 316) (hw 315) (hw 29) (hw 317) (by decide) F2 (W := 0) (own_rm33 l Z a0 hw [] o09 o5 h1 n0 Z0P O0 F29) [] [] hml (lenOf own_pd4 rfl) (hb hby at_341) fun T0J h0Y v0P L15 X1i e1H q0Z => ?_
             obtain ⟨rfl, N32, K0W⟩ := q0Z
             have N33 := Fr.app N31 N32
             have e1I := e1H.trans K0W
             refine oAS X1i hx hby at_344 rfl (l' := (A0 (rv o5) .unset .unset .unset)) rfl ?_
             refine oAL X1i hx hby at_346 rfl rfl ?_
             show own_G p e below (T0J.setTop (mkF m 348 (A0 (rv o5) .unset .unset .unset) [(.ref o09)])) _
             have F2a := F5y.keep K2 nin0
             have Z0Q : n0 ≤ h1.size := by omega
             refine own_cV X1i hx hZ hown e1I (y := mN36) (z := mN36) (b := o09) (hw 318) (hw 319) (notFace_of_selects (args := #[]) (mvT hZ (hw 321))) (hw 321) (hw 320) (hw 29) (hw 322) (by decide) F2 (W := 0) (own_rm34 l Z a0 hw [] i4 o09 h1 n0 Z0Q O0 F2a b0) [] [] hml (lenOf own_pd20 rfl) (hb hby at_348) fun T1m h0Z v0Q L16 X0T e1J q10 => ?_
             obtain ⟨rfl, N34, K0X⟩ := q10
             have N35 := Fr.app N33 N34
             have e1K := e1J.trans K0X
             refine oIL X0T hx hby at_351 rfl ?_
             refine oNI X0T hx hby at_353 (XT.ii_ne_f rfl) ?_
             refine oAL X0T hx hby at_356 rfl rfl ?_
             have F2b := F5z.keep K2 nin0
             have Z0R : n0 ≤ h1.size := by omega
             refine own_cV X0T hx hZ hown e1K (y := mN37) (z := mN37) (b := o09) (hw 323) (hw 324) (notFace_of_selects (args := #[]) (mvT hZ (hw 326))) (hw 326) (hw 325) (hw 29) (hw 327) (by decide) F2 (W := 0) (own_rm35 l Z a0 hw [] o09 h1 n0 Z0R O0 F2b) [] [] hml (lenOf own_pd21 rfl) (hb hby at_358) fun T1n h10 v0R L17 X1j e1L q11 => ?_
             obtain ⟨rfl, N36, K0Y⟩ := q11
             have N37 := Fr.app N35 N36
             have e1M := e1L.trans K0Y
             refine oS (fun _ => XT.ifnonnullNo X1j.here hx rfl (hb hby at_361) rfl) ?_
             refine oAL X1j hx hby at_364 rfl rfl ?_
             have F2c := F5A.keep K2 nin0
             have Z0S : n0 ≤ h1.size := by omega
             refine own_cV X1j hx hZ hown e1M (y := mN38) (z := mN38) (b := o09) (hw 328) (hw 329) (notFace_of_selects (args := #[]) (mvT hZ (hw 331))) (hw 331) (hw 330) (hw 29) (hw 332) (by decide) F2 (W := 0) (own_rm36 l Z a0 hw [] i0 o09 h1 n0 Z0S O0 F2c) [] [] hml (lenOf own_pd7 rfl) (hb hby at_366) fun T0K h11 v0S L18 X0U e1N q12 => ?_
             obtain ⟨rfl, N38, K0Z⟩ := q12
             have N39 := Fr.app N37 N38
             have e1O := e1N.trans K0Z
             refine oIN X0U hx hby at_369 rfl ?_
             refine oNI X0U hx hby at_370 (XT.ii_ne_f rfl) ?_
             show own_G p e below (T0K.setTop (mkF m 373 (A0 (rv o5) .unset .unset .unset) [])) _
             refine oAL X0U hx hby at_373 rfl rfl ?_
             have F2d := F5B.keep K2 nin0
             have Z0T : n0 ≤ h1.size := by omega
             refine own_cV X0U hx hZ hown e1O (y := mN39) (z := mN39) (b := o09) (hw 333) (hw 334) (notFace_of_selects (args := #[]) (mvT hZ (hw 336))) (hw 336) (hw 335) (hw 29) (hw 337) (by decide) F2 (W := 0) (own_rm37 l Z a0 hw [] i1 o09 h1 n0 Z0T O0 F2d) [] [] hml (lenOf own_pd7 rfl) (hb hby at_375) fun T1o h12 v0T L19 X0V e1P q13 => ?_
             obtain ⟨rfl, N3a, K10⟩ := q13
             have N3b := Fr.app N39 N3a
             have e1Q := e1P.trans K10
             refine oIN X0V hx hby at_378 rfl ?_
             refine oNI X0V hx hby at_379 (XT.ii_ne_f rfl) ?_
             refine oAL X0V hx hby at_382 rfl rfl ?_
             have F2e := F5F.keep K2 nin0
             have F01 := (F1U.keep K00 nin0).keep K2 nin0
             have F02 := (F1T.keep K00).keep K2
             have Z0U : n0 ≤ h1.size := by omega
             have F03 := F5E.keep K2
             refine own_cI X0V hx hZ hown e1Q (y := mN55) (z := mN41) (b := o5) (hw 338) (hw 339) (hw 340) rfl (hw 341) (hw 342) (hw 343) (hw 344) (hw 229) (hw 218) (hw 345) (by decide) F03 (W := 0) (own_rm107 l Z a0 hw [] o5 o0 h1 n0 Z0U O0 F2e F01 F02) [] [] hml (lenOf own_pd7 rfl) (hb hby at_384) fun T0L h13 v0U L1a X0i e1R q14 => ?_
             obtain ⟨rfl, N3c, K11⟩ := q14
             have N3d := Fr.app N3b N3c
             have e1S := e1R.trans K11
             refine oIL X0i hx hby at_389 rfl ?_
             refine oNI X0i hx hby at_391 (XT.ii_ne_f (by decide)) ?_
             refine oIC X0i hx hby at_394 ?_
             refine oGO X0i hx hby (pc' := 399) at_395 ?_
             show own_G p e below (T0L.setTop (mkF m 399 (A0 (rv o5) .unset .unset .unset) [(.int 1)])) _
             refine oIS X0i hx hby at_399 (l' := (A0 (rv o5) (iv 1) .unset .unset)) rfl ?_
             refine oIL X0i hx hby at_401 rfl ?_
             refine oN0 X0i hx hby at_403 (XT.i0_eq_f (by decide)) ?_
             refine oIL X0i hx hby at_406 rfl ?_
             refine oIC X0i hx hby at_408 ?_
             refine oNI X0i hx hby at_409 (XT.ii_lt_f (by decide)) ?_
             refine oAL X0i hx hby at_412 rfl rfl ?_
             refine oIC X0i hx hby at_414 ?_
             have F0k := F5G.keep K2 nin0
             have F0l := (F1V.keep K00 nin0).keep K2 nin0
             have F0m := (F1W.keep K00 nin0).keep K2 nin0
             have Z0V : n0 ≤ h1.size := by omega
             refine own_cI X0i hx hZ hown e1S (y := mN76) (z := mN75) (b := o5) (hw 354) (hw 355) (hw 356) rfl (hw 357) (hw 358) (hw 359) (hw 360) (hw 229) (hw 212) (hw 361) (by decide) F03 (W := 0) (own_rm109 l Z a0 hw [] m2 o5 o0 o0c o1 o2 h1 n0 Z0V O0 F0k F01 F0l F0m F02) [(.int 0)] [] hml (lenOf own_pd33 rfl) (hb hby at_415) fun T0k h14 v0V L1b X0j e1T q15 => ?_
             obtain ⟨rfl, N3e, K12⟩ := q15
             have N3f := Fr.app N3d N3e
             have e1U := e1T.trans K12
             refine oAL X0j hx hby at_420 rfl rfl ?_
             show own_G p e below (T0k.setTop (mkF m 422 (A0 (rv o5) (iv 1) .unset .unset) [(.ref o1), (.ref o1)])) _
             refine oS (fun _ => XT.acmpNo X0j.here hx rfl (hb hby at_422) rfl rfl rfl (XT.aa_ne_f rfl)) ?_
             refine oIC X0j hx hby at_425 ?_
             refine oGO X0j hx hby (pc' := 430) at_426 ?_
             refine oIS X0j hx hby at_430 (l' := (A0 (rv o5) (iv 1) .unset .unset)) rfl ?_
             refine oIL X0j hx hby at_432 rfl ?_
             refine oN0 X0j hx hby at_434 (XT.i0_eq_f (by decide)) ?_
             refine oIL X0j hx hby at_437 rfl ?_
             refine oIC X0j hx hby at_439 ?_
             refine oNI X0j hx hby at_440 (XT.ii_lt_f (by decide)) ?_
             refine oAL X0j hx hby at_443 rfl rfl ?_
             show own_G p e below (T0k.setTop (mkF m 445 (A0 (rv o5) (iv 1) .unset .unset) [(.ref o5)])) _
             refine oIC X0j hx hby at_445 ?_
             have Z0W : n0 ≤ h1.size := by omega
             refine own_cI X0j hx hZ hown e1U (y := mN76) (z := mN75) (b := o5) (hw 354) (hw 355) (hw 356) rfl (hw 357) (hw 358) (hw 359) (hw 360) (hw 229) (hw 212) (hw 361) (by decide) F03 (W := 0) (own_rm114 l Z a0 hw [] m2 o5 o0 o0c o1 o2 h1 n0 Z0W O0 F0k F01 F0l F0m F02) [(.int 1)] [] hml (lenOf own_pd33 rfl) (hb hby at_446) fun T5 h15 v0W L1c X9 e1V q16 => ?_
             obtain ⟨rfl, N3g, K13⟩ := q16
             have N03 := Fr.app N3f N3g
             have e5 := e1V.trans K13
             refine oAL X9 hx hby at_451 rfl rfl ?_
             refine oS (fun _ => XT.acmpNo X9.here hx rfl (hb hby at_453) rfl rfl rfl (XT.aa_ne_f rfl)) ?_
             refine oIC X9 hx hby at_456 ?_
             refine oGO X9 hx hby (pc' := 461) at_457 ?_
             refine oIS X9 hx hby at_461 (l' := (A0 (rv o5) (iv 1) .unset .unset)) rfl ?_
             have J5 : ∀ (T0f : State) (L04 : List Loc) (X0W : Stand p l e room_1 s m #[(.int i5), (.int i0), (.int i1), (.int i6), (.int i2), (.int i3)] below meth c T0f L04 20 84) (e0h : T0f.heap = h1) (N0q : Fr n0 L04) (i0k : Int32) (I04 : (i0k = 1 ∧ i03 = i4 ∧ i04 = i0 ∧ i05 = i1) ∨ (i0k = 0 ∧ ¬ (i03 = i4 ∧ i04 = i0 ∧ i05 = i1))), own_G p e below (T0f.setTop (mkF m 490 (A0 (rv o5) (iv 1) (iv i0k) .unset) [])) (own_P s (own_Q1 Z i5 i0 i1 i6 i2 i3 i0f o06 o07 m1 o03 o9 o00 o01 m0 h0 n0) 56 320) := by
              intro T0f L04 X0W e0h N0q i0k I04
              refine oAL X0W hx hby at_490 rfl rfl ?_
              refine oAL X0W hx hby at_492 rfl rfl ?_
              have N3h : @Ne Nat o09 o0l := by omega
              have F2f := F5D.keep K2 nin0
              have y0F : @LT.lt Nat instLTNat o09 h1.size := by omega
              have y0G : @LT.lt Nat instLTNat o5 h1.size := by omega
              have y0H : @LT.lt Nat instLTNat o0 h1.size := by omega
              have F5U := F22.keep K2 nin0
              have y0I : @LT.lt Nat instLTNat o4 h1.size := by omega
              have F5V := F21.keep K2
              have y0J : @LT.lt Nat instLTNat o0c h1.size := by omega
              have F5W := F25.keep K2
              have F5X := F23.keep K2 nin0
              have F5Y := F24.keep K2 nin0
              have y0K : @LT.lt Nat instLTNat o0g h1.size := by omega
              have F5Z := F26.keep K2
              have Z0X : n0 ≤ h1.size := by omega
              refine own_cV X0W hx hZ hown e0h (y := mN56) (z := mN56) (b := o09) (hw 380) (hw 381) (notFace_of_selects (args := #[]) (mvT hZ (hw 383))) (hw 383) (hw 382) (hw 29) (hw 384) (by decide) F2 (W := 0) (own_rm119 l Z a0 hw [] i4 i0 i1 i7 i8 i00 i9 i01 i02 i03 i04 i05 m2 m4 o09 o0l o5 o0 o0y o4 o0c o1 o2 o0g h1 n0 Z0X O0 F27 F2 N3h F2f y0F F28 F5S F2a F5K F2c F5M F2d F5N F2b F5L F29 F2e y0G F01 y0H F02 F03 F5O F5Q F5T F5U y0I F5V F5P F0k F0l F0m y0J F5W F5R F5X F5Y y0K F5Z) [(.ref o0l)] [] hml (lenOf own_pd28 rfl) (hb hby at_494) fun T0i h0a v0X L1d X8 e0i q17 => ?_
              rcases q17 with ⟨b0s, b0t, b0u, b0v, rfl, N3i, K0l⟩ | ⟨b0w, rfl, N3j, K0q⟩
              ·skip
               have N3k := Fr.app N0q N3i
               have z0r := K0l.1
               show own_G p e below (T0i.setTop (mkF m 497 (A0 (rv o5) (iv 1) (iv i0k) .unset) [(.int 1)])) _
               refine oIS X8 hx hby at_497 (l' := (A0 (rv o5) (iv 1) (iv i0k) (iv 1))) rfl ?_
               refine oIL X8 hx hby at_499 rfl ?_
               refine oN0 X8 hx hby at_501 (XT.i0_eq_f (by decide)) ?_
               refine oIL X8 hx hby at_504 rfl ?_
               refine oIL X8 hx hby at_506 rfl ?_
               refine oNI X8 hx hby at_508 (XT.ii_ne_f (Eq.symm (own_x1 I04 ⟨Eq.symm b0t, Eq.symm b0u, Eq.symm b0v⟩))) ?_
               refine oIC X8 hx hby at_511 ?_
               refine oGO X8 hx hby (pc' := 516) at_512 ?_
               refine oIS X8 hx hby at_516 (l' := (A0 (rv o5) (iv 1) (iv i0k) (iv 1))) rfl ?_
               refine oIL X8 hx hby at_518 rfl ?_
               show own_G p e below (T0i.setTop (mkF m 520 (A0 (rv o5) (iv 1) (iv i0k) (iv 1)) [(.int 1)])) _
               refine oN0 X8 hx hby at_520 (XT.i0_eq_f (by decide)) ?_
               refine oIL X8 hx hby at_523 rfl ?_
               refine oN0 X8 hx hby at_525 (XT.i0_eq_f (by decide)) ?_
               refine oAL X8 hx hby at_528 rfl rfl ?_
               have F60 := F2f.keep K0l nin0
               have O0p : Old Z n0 h0a := O0.keep K0l all0
               have Z0Y : n0 ≤ h0a.size := by omega
               have F61 := F2.keep K0l
               refine own_cV X8 hx hZ hown e0i (y := mN60) (z := mN60) (b := o09) (hw 459) (hw 460) (notFace_of_selects (args := #[]) (mvT hZ (hw 461))) (hw 461) (hw 309) (hw 29) (hw 312) (by decide) F61 (W := 0) (own_rm130 l Z a0 hw [] i4 i0 i1 i7 i8 i00 i9 i01 i02 o09 h0a n0 Z0Y O0p F60) [] [] hml (lenOf own_pd7 rfl) (hb hby at_530) fun T1p h16 v0Y L1e X1v e1W q18 => ?_
               obtain ⟨rfl, N3l, K14⟩ := q18
               have N3m := Fr.app N3k N3l
               have e1X := e1W.trans K14
               refine oAL X1v hx hby at_533 rfl rfl ?_
               have F62 := F28.keep K0l nin0
               have Z0Z : n0 ≤ h0a.size := by omega
               have F63 := F27.keep K0l
               refine own_cV X1v hx hZ hown e1X (y := mN60) (z := mN60) (b := o0l) (hw 459) (hw 460) (notFace_of_selects (args := #[]) (mvT hZ (hw 461))) (hw 461) (hw 309) (hw 29) (hw 312) (by decide) F63 (W := 1) (own_rm130 l Z a0 hw [] i03 i04 i05 i7 i8 i00 i9 i01 i02 o0l h0a n0 Z0Z O0p F62) [] [(.int (((31 : Int32) * (((31 : Int32) * (((31 : Int32) * (((31 : Int32) * (((31 : Int32) * i4) + 0)) + i0)) + i1)) + (((31 : Int32) * (((31 : Int32) * ((31 : Int32) + ((i7.toInt8.toInt32) &&& 255))) + i8)) + i00))) + (((31 : Int32) * (((31 : Int32) * ((31 : Int32) + ((i9.toInt8.toInt32) &&& 255))) + i01)) + i02)))] hml (lenOf own_pd7 rfl) (hb hby at_535) fun T0M h17 v0Z L1f X0A e1Y q19 => ?_
               obtain ⟨rfl, N3n, K15⟩ := q19
               have N3o := Fr.app N3m N3n
               have e1Z := e1Y.trans K15
               refine oNI X0A hx hby at_538 (XT.ii_ne_f b0s) ?_
               refine oIC X0A hx hby at_541 ?_
               refine oGO X0A hx hby (pc' := 546) at_542 ?_
               show own_G p e below (T0M.setTop (mkF m 546 (A0 (rv o5) (iv 1) (iv i0k) (iv 1)) [(.int 1)])) _
               refine oIS X0A hx hby at_546 (l' := (A0 (rv o5) (iv 1) (iv i0k) (iv 1))) rfl ?_
               refine oIL X0A hx hby at_548 rfl ?_
               have K1k : Keep h0 h0a [] := ((((((((((((((((Keep.refl h0 []).trans K0c all0).trans K0d (allS (Or.inr (by omega)) all0)).trans K5 all0).trans K6 (allS (Or.inr (by omega)) all0)).ext E0).trans K0 (allS (Or.inr (by omega)) all0)).trans K0b (allS (Or.inr (by omega)) all0)).trans K05 (allS (Or.inr (by omega)) (allS (Or.inr (by omega)) all0))).ext E1).trans K1 (allS (Or.inr (by omega)) all0)).trans K06 (allS (Or.inr (by omega)) all0)).trans K07 (allS (Or.inr (by omega)) (allS (Or.inr (by omega)) all0))).trans K00 all0).trans K2 all0).trans K0l all0)
               exact own_retN X0A hx (t := .boolean) Bd.notSynchronized Bd.returns (by simp) (hb hby at_550) (by decide) e1Z (by decide) (by decide) (⟨rfl, N3o⟩)
              ·skip
               have N3p := Fr.app N0q N3j
               have z0s := K0q.1
               refine oIS X8 hx hby at_497 (l' := (A0 (rv o5) (iv 1) (iv i0k) (iv 0))) rfl ?_
               refine oIL X8 hx hby at_499 rfl ?_
               refine oN0 X8 hx hby at_501 (XT.i0_eq_f (by decide)) ?_
               refine oIL X8 hx hby at_504 rfl ?_
               refine oIL X8 hx hby at_506 rfl ?_
               refine oNI X8 hx hby at_508 (XT.ii_ne_f (Eq.symm (own_x0 I04 (fun z => b0w ⟨Eq.symm z.1, Eq.symm z.2.1, Eq.symm z.2.2⟩)))) ?_
               refine oIC X8 hx hby at_511 ?_
               show own_G p e below (T0i.setTop (mkF m 512 (A0 (rv o5) (iv 1) (iv i0k) (iv 0)) [(.int 1)])) _
               refine oGO X8 hx hby (pc' := 516) at_512 ?_
               refine oIS X8 hx hby at_516 (l' := (A0 (rv o5) (iv 1) (iv i0k) (iv 0))) rfl ?_
               refine oIL X8 hx hby at_518 rfl ?_
               refine oN0 X8 hx hby at_520 (XT.i0_eq_f (by decide)) ?_
               refine oIL X8 hx hby at_523 rfl ?_
               refine oY0 X8 hx hby (pc' := 548) at_525 (XT.i0_eq_t (by decide)) ?_
               refine oIL X8 hx hby at_548 rfl ?_
               have K1l : Keep h0 h0a [] := ((((((((((((((((Keep.refl h0 []).trans K0c all0).trans K0d (allS (Or.inr (by omega)) all0)).trans K5 all0).trans K6 (allS (Or.inr (by omega)) all0)).ext E0).trans K0 (allS (Or.inr (by omega)) all0)).trans K0b (allS (Or.inr (by omega)) all0)).trans K05 (allS (Or.inr (by omega)) (allS (Or.inr (by omega)) all0))).ext E1).trans K1 (allS (Or.inr (by omega)) all0)).trans K06 (allS (Or.inr (by omega)) all0)).trans K07 (allS (Or.inr (by omega)) (allS (Or.inr (by omega)) all0))).trans K00 all0).trans K2 all0).trans K0q all0)
               exact own_retN X8 hx (t := .boolean) Bd.notSynchronized Bd.returns (by simp) (hb hby at_550) (by decide) e0i (by decide) (by decide) (⟨rfl, N3p⟩)
             refine oIL X9 hx hby at_463 rfl ?_
             by_cases b7 : i06 = 0
             ·skip
              refine oY0 X9 hx hby (pc' := 487) at_465 (XT.i0_eq_t b7) ?_
              show own_G p e below (T5.setTop (mkF m 487 (A0 (rv o5) (iv 1) .unset .unset) [])) _
              refine oIC X9 hx hby at_487 ?_
              refine oIS X9 hx hby at_488 (l' := (A0 (rv o5) (iv 1) (iv 0) .unset)) rfl ?_
              exact J5 T5 _ X9 e5 N03 0 (Or.inr ⟨rfl, fun z => own_en I4 b7 z.1⟩)
             ·skip
              refine oN0 X9 hx hby at_465 (XT.i0_eq_f b7) ?_
              show own_G p e below (T5.setTop (mkF m 468 (A0 (rv o5) (iv 1) .unset .unset) [])) _
              refine oIL X9 hx hby at_468 rfl ?_
              by_cases b8 : i0c = 0
              ·skip
               refine oY0 X9 hx hby (pc' := 487) at_470 (XT.i0_eq_t b8) ?_
               show own_G p e below (T5.setTop (mkF m 487 (A0 (rv o5) (iv 1) .unset .unset) [])) _
               refine oIC X9 hx hby at_487 ?_
               refine oIS X9 hx hby at_488 (l' := (A0 (rv o5) (iv 1) (iv 0) .unset)) rfl ?_
               exact J5 T5 _ X9 e5 N03 0 (Or.inr ⟨rfl, fun z => own_en I6 b8 z.2.1⟩)
              ·skip
               refine oN0 X9 hx hby at_470 (XT.i0_eq_f b8) ?_
               show own_G p e below (T5.setTop (mkF m 473 (A0 (rv o5) (iv 1) .unset .unset) [])) _
               refine oIL X9 hx hby at_473 rfl ?_
               by_cases b9 : i0d = 0
               ·skip
                refine oY0 X9 hx hby (pc' := 487) at_475 (XT.i0_eq_t b9) ?_
                show own_G p e below (T5.setTop (mkF m 487 (A0 (rv o5) (iv 1) .unset .unset) [])) _
                refine oIC X9 hx hby at_487 ?_
                refine oIS X9 hx hby at_488 (l' := (A0 (rv o5) (iv 1) (iv 0) .unset)) rfl ?_
                exact J5 T5 _ X9 e5 N03 0 (Or.inr ⟨rfl, fun z => own_en I7 b9 z.2.2⟩)
               ·skip
                refine oN0 X9 hx hby at_475 (XT.i0_eq_f b9) ?_
                show own_G p e below (T5.setTop (mkF m 478 (A0 (rv o5) (iv 1) .unset .unset) [])) _
                refine oIL X9 hx hby at_478 rfl ?_
                refine oN0 X9 hx hby at_480 (XT.i0_eq_f (by decide)) ?_
                refine oIC X9 hx hby at_483 ?_
                refine oGO X9 hx hby (pc' := 488) at_484 ?_
                refine oIS X9 hx hby at_488 (l' := (A0 (rv o5) (iv 1) (iv 1) .unset)) rfl ?_
                exact J5 T5 _ X9 e5 N03 1 (Or.inl ⟨rfl, own_e0 I4 b7, own_e0 I6 b8, own_e0 I7 b9⟩)
            ·skip
             refine own_cast (g' := (mkF m 283 #[iv i5, iv i0, iv i1, iv i6, iv i2, iv i3, iv i4, iv i7, iv i9, iv i8, iv i00, iv i01, iv i02, iv 2, iv i06, iv i0c, iv i0d, iv 0, iv 0, iv i03, iv i04, iv i05, rv o1, rv o2, rv o0, rv o4, .unset, .unset, .unset, .unset, .unset, .unset] [])) (by rw [q0, q1]) ?_
             let A04 : Slot → Slot → Slot → Slot → Slot → Slot → Array Slot := fun x26 x27 x28 x29 x30 x31 => #[iv i5, iv i0, iv i1, iv i6, iv i2, iv i3, iv i4, iv i7, iv i9, iv i8, iv i00, iv i01, iv i02, iv 2, iv i06, iv i0c, iv i0d, iv 0, iv 0, iv i03, iv i04, iv i05, rv o1, rv o2, rv o0, rv o4, x26, x27, x28, x29, x30, x31]
             show own_G p e below (T0e.setTop (mkF m 283 (A04 .unset .unset .unset .unset .unset .unset) [])) _
             refine oIL X05 hx hby at_283 rfl ?_
             refine oIC X05 hx hby at_285 ?_
             refine oYI X05 hx hby (pc' := 299) at_286 (XT.ii_lt_t (by decide)) ?_
             refine oIL X05 hx hby at_299 rfl ?_
             refine oIC X05 hx hby at_301 ?_
             refine oYI X05 hx hby (pc' := 315) at_302 (XT.ii_lt_t (by decide)) ?_
             refine oIL X05 hx hby at_315 rfl ?_
             refine oAL X05 hx hby at_317 rfl rfl ?_
             refine oIN X05 hx hby at_319 rfl ?_
             refine oIN X05 hx hby at_320 rfl ?_
             show own_G p e below (T0e.setTop (mkF m 321 (A04 .unset .unset .unset .unset .unset .unset) [(.int i1), (.int i0), (.ref o0), (.int i4)])) _
             have F2g := (Exa.ext E1 F1M).keep K1
             have N0r : @Ne Nat o0 o4 := by omega
             have F64 := (Fld.ext E1 F1J).keep K1 (ninS N0r nin0)
             have y0L : @LT.lt Nat instLTNat o0 h7.size := by omega
             have F2h := (Fld.ext E1 F1L).keep K1 (ninS N0r nin0)
             have F2i := (Fld.ext E1 F1K).keep K1 (ninS N0r nin0)
             have N3q : @Ne Nat o0c o4 := by omega
             have F2j := (F1N.ext E1).keep K1 (ninS N3q nin0)
             have y0M : @LT.lt Nat instLTNat o0c h7.size := by omega
             have F65 := (Exa.ext E1 ((F0h.keep K0b).keep K05)).keep K1
             have N3r : @Ne Nat o1 o0h := by omega
             have N0s : @Ne Nat o1 o0 := by omega
             have N3s : @Ne Nat o1 o0c := by omega
             have N3t : @Ne Nat o1 o4 := by omega
             have F66 := (Fld.ext E1 ((((Fld.ext E0 ((F7.keep K5 nin0).keep K6 (ninS N3r nin0))).keep K0 (ninS N0s nin0)).keep K0b (ninS N0s nin0)).keep K05 (ninS N0s (ninS N3s nin0)))).keep K1 (ninS N3t nin0)
             have y0N : @LT.lt Nat instLTNat o1 h7.size := by omega
             have F67 := (Exa.ext E1 (F0i.keep K05)).keep K1
             have N0t : @Ne Nat o2 o0 := by omega
             have N3u : @Ne Nat o2 o0c := by omega
             have N3v : @Ne Nat o2 o4 := by omega
             have F68 := (Fld.ext E1 ((((Fld.ext E0 F08).keep K0 (ninS N0t nin0)).keep K0b (ninS N0t nin0)).keep K05 (ninS N0t (ninS N3u nin0)))).keep K1 (ninS N3v nin0)
             have y0O : @LT.lt Nat instLTNat o2 h7.size := by omega
             have O0q : Old Z n0 h7 := O9.keep K1 (allS N5 all0)
             have Z10 : n0 ≤ h7.size := by omega
             refine own_cS X05 hx hZ hown e0g (y := mN34) (hw 180) (hw 181) (hw 29) (hw 182) (by decide) (W := 0) (own_rm88 l Z a0 hw [] i4 i0 i1 i7 i8 i00 i9 i01 i02 m2 o0 o9 o00 o01 o0c o1 o2 h7 n0 Z10 O0q F2g I0 I1 I2 b0 F64 y0L F2h F2i F2j y0M F65 F66 y0N F67 F68 y0O) [(.int i4), (.ref o0), (.int i0), (.int i1)] [] hml (lenOf own_pd19 rfl) (hb hby at_321) fun T1q h0h v10 L1g X0B e20 q1a => ?_
             obtain ⟨o0e, o7, rfl, N3w, K0g, F7M, F7N, F69, F6a, F6b, F6c, F6d, F6e, F6f, F6g, F6h, F6i, F7O, F7P⟩ := q1a
             have N3x := Fr.app N0L N3w
             have z0t := K0g.1
             refine oAS X0B hx hby at_324 rfl (l' := (A04 (rv o0e) .unset .unset .unset .unset .unset)) rfl ?_
             refine oIL X0B hx hby at_326 rfl ?_
             refine oAL X0B hx hby at_328 rfl rfl ?_
             refine oIL X0B hx hby at_330 rfl ?_
             refine oIL X0B hx hby at_332 rfl ?_
             have F2k := F0j.keep K0g
             have F6j := F1O.keep K0g nin0
             have y0P : @LT.lt Nat instLTNat o4 h0h.size := by omega
             have F2l := F1P.keep K0g nin0
             have O0r : Old Z n0 h0h := O0q.keep K0g all0
             have Z11 : n0 ≤ h0h.size := by omega
             refine own_cS X0B hx hZ hown e20 (y := mN34) (hw 180) (hw 181) (hw 29) (hw 182) (by decide) (W := 0) (own_rm20 l Z a0 hw [] i03 i04 i05 o4 o9 o00 o01 h0h n0 Z11 O0r F2k I0 I1 I2 I5 F6j y0P F2l) [(.int i03), (.ref o4), (.int i04), (.int i05)] [] hml (lenOf own_pd19 rfl) (hb hby at_334) fun T1r h3 v11 L1h X1k e21 q1b => ?_
             obtain ⟨o0o, o0z, rfl, N3y, K8, F7Q, F7R, F6k, F6l, F6m, F6n, F6o, F6p, F6q, F6r, F6s, F7S, F6t, F6u⟩ := q1b
             have N3z := Fr.app N3x N3y
             have z0u := K8.1
             refine oAS X1k hx hby at_337 rfl (l' := (A04 (rv o0e) (rv o0o) .unset .unset .unset .unset)) rfl ?_
             let A3 : Slot → Slot → Slot → Slot → Array Slot := fun x28 x29 x30 x31 => #[iv i5, iv i0, iv i1, iv i6, iv i2, iv i3, iv i4, iv i7, iv i9, iv i8, iv i00, iv i01, iv i02, iv 2, iv i06, iv i0c, iv i0d, iv 0, iv 0, iv i03, iv i04, iv i05, rv o1, rv o2, rv o0, rv o4, rv o0e, rv o0o, x28, x29, x30, x31]
             refine oAL X1k hx hby at_339 rfl rfl ?_
             have F2m := F6e.keep K8 nin0
             have O2 : Old Z n0 h3 := O0r.keep K8 all0
             have Z12 : n0 ≤ h3.size := by omega
             have F5 := F69.keep K8
             refine own_cV X1k hx hZ hown e21 (y := mN35) (z := mN35) (b := o0e) (hw 313) (hw 314) (notFace_of_selects (args := #[]) (mvT hZ (hw 316))) (hw 316) (hw 315) (hw 29) (hw 317) (by decide) F5 (W := 0) (own_rm33 l Z a0 hw [] o0e o7 h3 n0 Z12 O2 F2m) [] [] hml (lenOf own_pd4 rfl) (hb hby at_341) fun T0N h18 v12 L1i X1l e22 q1c => ?_
             obtain ⟨rfl, N3A, K16⟩ := q1c
             have N3B := Fr.app N3z N3A
             have e23 := e22.trans K16
             show own_G p e below (T0N.setTop (mkF m 344 (A3 .unset .unset .unset .unset) [(.ref o7)])) _
             refine oAS X1l hx hby at_344 rfl (l' := (A3 (rv o7) .unset .unset .unset)) rfl ?_
             refine oAL X1l hx hby at_346 rfl rfl ?_
             have F2n := F6a.keep K8 nin0
             have Z13 : n0 ≤ h3.size := by omega
             refine own_cV X1l hx hZ hown e23 (y := mN36) (z := mN36) (b := o0e) (hw 318) (hw 319) (notFace_of_selects (args := #[]) (mvT hZ (hw 321))) (hw 321) (hw 320) (hw 29) (hw 322) (by decide) F5 (W := 0) (own_rm34 l Z a0 hw [] i4 o0e h3 n0 Z13 O2 F2n b0) [] [] hml (lenOf own_pd20 rfl) (hb hby at_348) fun T1s h19 v13 L1j X0X e24 q1d => ?_
             obtain ⟨rfl, N3C, K17⟩ := q1d
             have N3D := Fr.app N3B N3C
             have e25 := e24.trans K17
             refine oIL X0X hx hby at_351 rfl ?_
             refine oNI X0X hx hby at_353 (XT.ii_ne_f rfl) ?_
             refine oAL X0X hx hby at_356 rfl rfl ?_
             have F2o := F6b.keep K8 nin0
             have Z14 : n0 ≤ h3.size := by omega
             refine own_cV X0X hx hZ hown e25 (y := mN37) (z := mN37) (b := o0e) (hw 323) (hw 324) (notFace_of_selects (args := #[]) (mvT hZ (hw 326))) (hw 326) (hw 325) (hw 29) (hw 327) (by decide) F5 (W := 0) (own_rm35 l Z a0 hw [] o0e h3 n0 Z14 O2 F2o) [] [] hml (lenOf own_pd21 rfl) (hb hby at_358) fun T1t h1a v14 L1k X1m e26 q1e => ?_
             obtain ⟨rfl, N3E, K18⟩ := q1e
             have N3F := Fr.app N3D N3E
             have e27 := e26.trans K18
             refine oS (fun _ => XT.ifnonnullNo X1m.here hx rfl (hb hby at_361) rfl) ?_
             refine oAL X1m hx hby at_364 rfl rfl ?_
             have F2p := F6c.keep K8 nin0
             have Z15 : n0 ≤ h3.size := by omega
             refine own_cV X1m hx hZ hown e27 (y := mN38) (z := mN38) (b := o0e) (hw 328) (hw 329) (notFace_of_selects (args := #[]) (mvT hZ (hw 331))) (hw 331) (hw 330) (hw 29) (hw 332) (by decide) F5 (W := 0) (own_rm36 l Z a0 hw [] i0 o0e h3 n0 Z15 O2 F2p) [] [] hml (lenOf own_pd7 rfl) (hb hby at_366) fun T0O h1b v15 L1l X0Y e28 q1f => ?_
             obtain ⟨rfl, N3G, K19⟩ := q1f
             have N3H := Fr.app N3F N3G
             have e29 := e28.trans K19
             show own_G p e below (T0O.setTop (mkF m 369 (A3 (rv o7) .unset .unset .unset) [(.int i0)])) _
             refine oIN X0Y hx hby at_369 rfl ?_
             refine oNI X0Y hx hby at_370 (XT.ii_ne_f rfl) ?_
             refine oAL X0Y hx hby at_373 rfl rfl ?_
             have F2q := F6d.keep K8 nin0
             have Z16 : n0 ≤ h3.size := by omega
             refine own_cV X0Y hx hZ hown e29 (y := mN39) (z := mN39) (b := o0e) (hw 333) (hw 334) (notFace_of_selects (args := #[]) (mvT hZ (hw 336))) (hw 336) (hw 335) (hw 29) (hw 337) (by decide) F5 (W := 0) (own_rm37 l Z a0 hw [] i1 o0e h3 n0 Z16 O2 F2q) [] [] hml (lenOf own_pd7 rfl) (hb hby at_375) fun T1u h1c v16 L1m X0Z e2a q1g => ?_
             obtain ⟨rfl, N3I, K1a⟩ := q1g
             have N3J := Fr.app N3H N3I
             have e2b := e2a.trans K1a
             refine oIN X0Z hx hby at_378 rfl ?_
             refine oNI X0Z hx hby at_379 (XT.ii_ne_f rfl) ?_
             refine oAL X0Z hx hby at_382 rfl rfl ?_
             have F2r := F6h.keep K8 nin0
             have F04 := (F2h.keep K0g nin0).keep K8 nin0
             have F05 := (F2g.keep K0g).keep K8
             have Z17 : n0 ≤ h3.size := by omega
             have F06 := F6g.keep K8
             refine own_cI X0Z hx hZ hown e2b (y := mN55) (z := mN41) (b := o7) (hw 338) (hw 339) (hw 340) rfl (hw 341) (hw 342) (hw 343) (hw 344) (hw 229) (hw 218) (hw 345) (by decide) F06 (W := 0) (own_rm107 l Z a0 hw [] o7 o0 h3 n0 Z17 O2 F2r F04 F05) [] [] hml (lenOf own_pd7 rfl) (hb hby at_384) fun T0l h1d v17 L1n X0k e2c q1h => ?_
             obtain ⟨rfl, N3K, K1b⟩ := q1h
             have N3L := Fr.app N3J N3K
             have e2d := e2c.trans K1b
             refine oIL X0k hx hby at_389 rfl ?_
             refine oNI X0k hx hby at_391 (XT.ii_ne_f (by decide)) ?_
             show own_G p e below (T0l.setTop (mkF m 394 (A3 (rv o7) .unset .unset .unset) [])) _
             refine oIC X0k hx hby at_394 ?_
             refine oGO X0k hx hby (pc' := 399) at_395 ?_
             refine oIS X0k hx hby at_399 (l' := (A3 (rv o7) (iv 1) .unset .unset)) rfl ?_
             refine oIL X0k hx hby at_401 rfl ?_
             refine oN0 X0k hx hby at_403 (XT.i0_eq_f (by decide)) ?_
             refine oIL X0k hx hby at_406 rfl ?_
             refine oIC X0k hx hby at_408 ?_
             refine oNI X0k hx hby at_409 (XT.ii_lt_f (by decide)) ?_
             refine oAL X0k hx hby at_412 rfl rfl ?_
             refine oIC X0k hx hby at_414 ?_
             show own_G p e below (T0l.setTop (mkF m 415 (A3 (rv o7) (iv 1) .unset .unset) [(.int 0), (.ref o7)])) _
             have F2s := F6i.keep K8 nin0
             have F2t := (F2i.keep K0g nin0).keep K8 nin0
             have F2u := (F2j.keep K0g nin0).keep K8 nin0
             have Z18 : n0 ≤ h3.size := by omega
             refine own_cI X0k hx hZ hown e2d (y := mN76) (z := mN75) (b := o7) (hw 354) (hw 355) (hw 356) rfl (hw 357) (hw 358) (hw 359) (hw 360) (hw 229) (hw 212) (hw 361) (by decide) F06 (W := 0) (own_rm109 l Z a0 hw [] m2 o7 o0 o0c o1 o2 h3 n0 Z18 O2 F2s F04 F2t F2u F05) [(.int 0)] [] hml (lenOf own_pd33 rfl) (hb hby at_415) fun T0P h1e v18 L1o X0l e2e q1i => ?_
             obtain ⟨rfl, N3M, K1c⟩ := q1i
             have N3N := Fr.app N3L N3M
             have e2f := e2e.trans K1c
             refine oAL X0l hx hby at_420 rfl rfl ?_
             refine oS (fun _ => XT.acmpNo X0l.here hx rfl (hb hby at_422) rfl rfl rfl (XT.aa_ne_f rfl)) ?_
             refine oIC X0l hx hby at_425 ?_
             refine oGO X0l hx hby (pc' := 430) at_426 ?_
             refine oIS X0l hx hby at_430 (l' := (A3 (rv o7) (iv 1) .unset .unset)) rfl ?_
             refine oIL X0l hx hby at_432 rfl ?_
             refine oN0 X0l hx hby at_434 (XT.i0_eq_f (by decide)) ?_
             refine oIL X0l hx hby at_437 rfl ?_
             refine oIC X0l hx hby at_439 ?_
             show own_G p e below (T0P.setTop (mkF m 440 (A3 (rv o7) (iv 1) .unset .unset) [(.int 2), (.int 2)])) _
             refine oNI X0l hx hby at_440 (XT.ii_lt_f (by decide)) ?_
             refine oAL X0l hx hby at_443 rfl rfl ?_
             refine oIC X0l hx hby at_445 ?_
             have Z19 : n0 ≤ h3.size := by omega
             refine own_cI X0l hx hZ hown e2f (y := mN76) (z := mN75) (b := o7) (hw 354) (hw 355) (hw 356) rfl (hw 357) (hw 358) (hw 359) (hw 360) (hw 229) (hw 212) (hw 361) (by decide) F06 (W := 0) (own_rm114 l Z a0 hw [] m2 o7 o0 o0c o1 o2 h3 n0 Z19 O2 F2s F04 F2t F2u F05) [(.int 1)] [] hml (lenOf own_pd33 rfl) (hb hby at_446) fun T6 h1f v19 L1p X00 e2g q1j => ?_
             obtain ⟨rfl, N3O, K1d⟩ := q1j
             have N04 := Fr.app N3N N3O
             have e6 := e2g.trans K1d
             refine oAL X00 hx hby at_451 rfl rfl ?_
             refine oS (fun _ => XT.acmpNo X00.here hx rfl (hb hby at_453) rfl rfl rfl (XT.aa_ne_f rfl)) ?_
             refine oIC X00 hx hby at_456 ?_
             refine oGO X00 hx hby (pc' := 461) at_457 ?_
             refine oIS X00 hx hby at_461 (l' := (A3 (rv o7) (iv 1) .unset .unset)) rfl ?_
             have J6 : ∀ (T06 : State) (L05 : List Loc) (X10 : Stand p l e room_1 s m #[(.int i5), (.int i0), (.int i1), (.int i6), (.int i2), (.int i3)] below meth c T06 L05 19 74) (e0j : T06.heap = h3) (N0N : Fr n0 L05), own_G p e below (T06.setTop (mkF m 490 (A3 (rv o7) (iv 1) (iv 0) .unset) [])) (own_P s (own_Q1 Z i5 i0 i1 i6 i2 i3 i0f o06 o07 m1 o03 o9 o00 o01 m0 h0 n0) 56 320) := by
              intro T06 L05 X10 e0j N0N
              refine oAL X10 hx hby at_490 rfl rfl ?_
              show own_G p e below (T06.setTop (mkF m 492 (A3 (rv o7) (iv 1) (iv 0) .unset) [(.ref o0e)])) _
              refine oAL X10 hx hby at_492 rfl rfl ?_
              have N3P : @Ne Nat o0e o0o := by omega
              have F6v := F6f.keep K8 nin0
              have y0Q : @LT.lt Nat instLTNat o0e h3.size := by omega
              have y0R : @LT.lt Nat instLTNat o7 h3.size := by omega
              have y0S : @LT.lt Nat instLTNat o0 h3.size := by omega
              have F6w := F2l.keep K8 nin0
              have y0T : @LT.lt Nat instLTNat o4 h3.size := by omega
              have F6x := F2k.keep K8
              have Z1a : n0 ≤ h3.size := by omega
              refine own_cV X10 hx hZ hown e0j (y := mN56) (z := mN56) (b := o0e) (hw 380) (hw 381) (notFace_of_selects (args := #[]) (mvT hZ (hw 383))) (hw 383) (hw 382) (hw 29) (hw 384) (by decide) F5 (W := 0) (own_rm131 l Z a0 hw [] i4 i0 i1 i7 i8 i00 i9 i01 i02 i03 i04 i05 o0e o0o o7 o0 o0z o4 h3 n0 Z1a O2 F6k F5 N3P F6v y0Q F6q F6t F2n F6l F2p F6n F2q F6o F2o F6m F2m F2r y0R F04 y0S F05 F06 F6p F6s F6u F6w y0T F6x F6r) [(.ref o0o)] [] hml (lenOf own_pd28 rfl) (hb hby at_494) fun T0Q h0t v1a L1q X09 e2h q1k => ?_
              obtain ⟨rfl, N3Q, K0r⟩ := q1k
              have N3R := Fr.app N0N N3Q
              have z0v := K0r.1
              refine oIS X09 hx hby at_497 (l' := (A3 (rv o7) (iv 1) (iv 0) (iv 0))) rfl ?_
              refine oIL X09 hx hby at_499 rfl ?_
              refine oN0 X09 hx hby at_501 (XT.i0_eq_f (by decide)) ?_
              refine oIL X09 hx hby at_504 rfl ?_
              refine oIL X09 hx hby at_506 rfl ?_
              refine oNI X09 hx hby at_508 (XT.ii_ne_f (by decide)) ?_
              refine oIC X09 hx hby at_511 ?_
              refine oGO X09 hx hby (pc' := 516) at_512 ?_
              show own_G p e below (T0Q.setTop (mkF m 516 (A3 (rv o7) (iv 1) (iv 0) (iv 0)) [(.int 1)])) _
              refine oIS X09 hx hby at_516 (l' := (A3 (rv o7) (iv 1) (iv 0) (iv 0))) rfl ?_
              refine oIL X09 hx hby at_518 rfl ?_
              refine oN0 X09 hx hby at_520 (XT.i0_eq_f (by decide)) ?_
              refine oIL X09 hx hby at_523 rfl ?_
              refine oY0 X09 hx hby (pc' := 548) at_525 (XT.i0_eq_t (by decide)) ?_
              refine oIL X09 hx hby at_548 rfl ?_
              have K1m : Keep h0 h0t [] := ((((((((((((((Keep.refl h0 []).trans K0c all0).trans K0d (allS (Or.inr (by omega)) all0)).trans K5 all0).trans K6 (allS (Or.inr (by omega)) all0)).ext E0).trans K0 (allS (Or.inr (by omega)) all0)).trans K0b (allS (Or.inr (by omega)) all0)).trans K05 (allS (Or.inr (by omega)) (allS (Or.inr (by omega)) all0))).ext E1).trans K1 (allS (Or.inr (by omega)) all0)).trans K0g all0).trans K8 all0).trans K0r all0)
              exact own_retN X09 hx (t := .boolean) Bd.notSynchronized Bd.returns (by simp) (hb hby at_550) (by decide) e2h (by decide) (by decide) (⟨rfl, N3R⟩)
             refine oIL X00 hx hby at_463 rfl ?_
             by_cases b06 : i06 = 0
             ·skip
              refine oY0 X00 hx hby (pc' := 487) at_465 (XT.i0_eq_t b06) ?_
              show own_G p e below (T6.setTop (mkF m 487 (A3 (rv o7) (iv 1) .unset .unset) [])) _
              refine oIC X00 hx hby at_487 ?_
              refine oIS X00 hx hby at_488 (l' := (A3 (rv o7) (iv 1) (iv 0) .unset)) rfl ?_
              exact J6 T6 _ X00 e6 N04  
             ·skip
              refine oN0 X00 hx hby at_465 (XT.i0_eq_f b06) ?_
              show own_G p e below (T6.setTop (mkF m 468 (A3 (rv o7) (iv 1) .unset .unset) [])) _
              refine oIL X00 hx hby at_468 rfl ?_
              by_cases b07 : i0c = 0
              ·skip
               refine oY0 X00 hx hby (pc' := 487) at_470 (XT.i0_eq_t b07) ?_
               show own_G p e below (T6.setTop (mkF m 487 (A3 (rv o7) (iv 1) .unset .unset) [])) _
               refine oIC X00 hx hby at_487 ?_
               refine oIS X00 hx hby at_488 (l' := (A3 (rv o7) (iv 1) (iv 0) .unset)) rfl ?_
               exact J6 T6 _ X00 e6 N04  
              ·skip
               refine oN0 X00 hx hby at_470 (XT.i0_eq_f b07) ?_
               show own_G p e below (T6.setTop (mkF m 473 (A3 (rv o7) (iv 1) .unset .unset) [])) _
               refine oIL X00 hx hby at_473 rfl ?_
               by_cases b08 : i0d = 0
               ·skip
                refine oY0 X00 hx hby (pc' := 487) at_475 (XT.i0_eq_t b08) ?_
                show own_G p e below (T6.setTop (mkF m 487 (A3 (rv o7) (iv 1) .unset .unset) [])) _
                refine oIC X00 hx hby at_487 ?_
                refine oIS X00 hx hby at_488 (l' := (A3 (rv o7) (iv 1) (iv 0) .unset)) rfl ?_
                exact J6 T6 _ X00 e6 N04  
               ·skip
                refine oN0 X00 hx hby at_475 (XT.i0_eq_f b08) ?_
                show own_G p e below (T6.setTop (mkF m 478 (A3 (rv o7) (iv 1) .unset .unset) [])) _
                refine oIL X00 hx hby at_478 rfl ?_
                refine oY0 X00 hx hby (pc' := 487) at_480 (XT.i0_eq_t (by decide)) ?_
                refine oIC X00 hx hby at_487 ?_
                refine oIS X00 hx hby at_488 (l' := (A3 (rv o7) (iv 1) (iv 0) .unset)) rfl ?_
                exact J6 T6 _ X00 e6 N04  
          show own_G p e below (T01.setTop (mkF m 191 #[iv i5, iv i0, iv i1, iv i6, iv i2, iv i3, iv i4, iv i7, iv i9, iv i8, iv i00, iv i01, iv i02, iv i0e, iv i06, iv i0c, iv i07, iv i08, iv i09, iv i03, iv i04, .unset, .unset, .unset, .unset, .unset, .unset, .unset, .unset, .unset, .unset, .unset] [])) _
          rcases I0b with q1l | q1m
          ·skip
           refine own_cast (g' := (mkF m 191 #[iv i5, iv i0, iv i1, iv i6, iv i2, iv i3, iv i4, iv i7, iv i9, iv i8, iv i00, iv i01, iv i02, iv i0e, iv i06, iv i0c, iv 0, iv i08, iv i09, iv i03, iv i04, .unset, .unset, .unset, .unset, .unset, .unset, .unset, .unset, .unset, .unset, .unset] [])) (by rw [q1l]) ?_
           show own_G p e below (T01.setTop (mkF m 191 #[iv i5, iv i0, iv i1, iv i6, iv i2, iv i3, iv i4, iv i7, iv i9, iv i8, iv i00, iv i01, iv i02, iv i0e, iv i06, iv i0c, iv 0, iv i08, iv i09, iv i03, iv i04, .unset, .unset, .unset, .unset, .unset, .unset, .unset, .unset, .unset, .unset, .unset] [])) _
           refine oIL X0b hx hby at_191 rfl ?_
           refine oY0 X0b hx hby (pc' := 200) at_193 (XT.i0_eq_t (by decide)) ?_
           refine oIN X0b hx hby at_200 rfl ?_
           refine oIC X0b hx hby at_201 ?_
           refine oS (fun _ => XS.iadd X0b.here hx rfl (hb hby at_202) rfl) ?_
           refine oIS X0b hx hby at_203 (l' := #[iv i5, iv i0, iv i1, iv i6, iv i2, iv i3, iv i4, iv i7, iv i9, iv i8, iv i00, iv i01, iv i02, iv i0e, iv i06, iv i0c, iv 0, iv i08, iv i09, iv i03, iv i04, iv (i1 + 1), .unset, .unset, .unset, .unset, .unset, .unset, .unset, .unset, .unset, .unset]) rfl ?_
           exact J05 T01 _ X0b e04 N0c 0 (i1 + 1) (Or.inr ⟨rfl, (own_p1 _)⟩)
          ·skip
           refine own_cast (g' := (mkF m 191 #[iv i5, iv i0, iv i1, iv i6, iv i2, iv i3, iv i4, iv i7, iv i9, iv i8, iv i00, iv i01, iv i02, iv i0e, iv i06, iv i0c, iv 1, iv i08, iv i09, iv i03, iv i04, .unset, .unset, .unset, .unset, .unset, .unset, .unset, .unset, .unset, .unset, .unset] [])) (by rw [q1m]) ?_
           show own_G p e below (T01.setTop (mkF m 191 #[iv i5, iv i0, iv i1, iv i6, iv i2, iv i3, iv i4, iv i7, iv i9, iv i8, iv i00, iv i01, iv i02, iv i0e, iv i06, iv i0c, iv 1, iv i08, iv i09, iv i03, iv i04, .unset, .unset, .unset, .unset, .unset, .unset, .unset, .unset, .unset, .unset, .unset] [])) _
           refine oIL X0b hx hby at_191 rfl ?_
           refine oN0 X0b hx hby at_193 (XT.i0_eq_f (by decide)) ?_
           refine oIN X0b hx hby at_196 rfl ?_
           refine oGO X0b hx hby (pc' := 203) at_197 ?_
           refine oIS X0b hx hby at_203 (l' := #[iv i5, iv i0, iv i1, iv i6, iv i2, iv i3, iv i4, iv i7, iv i9, iv i8, iv i00, iv i01, iv i02, iv i0e, iv i06, iv i0c, iv 1, iv i08, iv i09, iv i03, iv i04, iv i1, .unset, .unset, .unset, .unset, .unset, .unset, .unset, .unset, .unset, .unset]) rfl ?_
           exact J05 T01 _ X0b e04 N0c 1 i1 (Or.inl ⟨rfl, rfl⟩)
         show own_G p e below (T00.setTop (mkF m 177 #[iv i5, iv i0, iv i1, iv i6, iv i2, iv i3, iv i4, iv i7, iv i9, iv i8, iv i00, iv i01, iv i02, iv i0e, iv i06, iv i0a, iv i07, iv i08, iv i09, iv i03, .unset, .unset, .unset, .unset, .unset, .unset, .unset, .unset, .unset, .unset, .unset, .unset] [])) _
         rcases I0a with q1n | q1o
         ·skip
          refine own_cast (g' := (mkF m 177 #[iv i5, iv i0, iv i1, iv i6, iv i2, iv i3, iv i4, iv i7, iv i9, iv i8, iv i00, iv i01, iv i02, iv i0e, iv i06, iv 0, iv i07, iv i08, iv i09, iv i03, .unset, .unset, .unset, .unset, .unset, .unset, .unset, .unset, .unset, .unset, .unset, .unset] [])) (by rw [q1n]) ?_
          show own_G p e below (T00.setTop (mkF m 177 #[iv i5, iv i0, iv i1, iv i6, iv i2, iv i3, iv i4, iv i7, iv i9, iv i8, iv i00, iv i01, iv i02, iv i0e, iv i06, iv 0, iv i07, iv i08, iv i09, iv i03, .unset, .unset, .unset, .unset, .unset, .unset, .unset, .unset, .unset, .unset, .unset, .unset] [])) _
          refine oIL X0a hx hby at_177 rfl ?_
          refine oY0 X0a hx hby (pc' := 186) at_179 (XT.i0_eq_t (by decide)) ?_
          refine oIN X0a hx hby at_186 rfl ?_
          refine oIC X0a hx hby at_187 ?_
          refine oS (fun _ => XS.iadd X0a.here hx rfl (hb hby at_188) rfl) ?_
          refine oIS X0a hx hby at_189 (l' := #[iv i5, iv i0, iv i1, iv i6, iv i2, iv i3, iv i4, iv i7, iv i9, iv i8, iv i00, iv i01, iv i02, iv i0e, iv i06, iv 0, iv i07, iv i08, iv i09, iv i03, iv (i0 + 1), .unset, .unset, .unset, .unset, .unset, .unset, .unset, .unset, .unset, .unset, .unset]) rfl ?_
          exact J04 T00 _ X0a e03 N0b 0 (i0 + 1) (Or.inr ⟨rfl, (own_p1 _)⟩)
         ·skip
          refine own_cast (g' := (mkF m 177 #[iv i5, iv i0, iv i1, iv i6, iv i2, iv i3, iv i4, iv i7, iv i9, iv i8, iv i00, iv i01, iv i02, iv i0e, iv i06, iv 1, iv i07, iv i08, iv i09, iv i03, .unset, .unset, .unset, .unset, .unset, .unset, .unset, .unset, .unset, .unset, .unset, .unset] [])) (by rw [q1o]) ?_
          show own_G p e below (T00.setTop (mkF m 177 #[iv i5, iv i0, iv i1, iv i6, iv i2, iv i3, iv i4, iv i7, iv i9, iv i8, iv i00, iv i01, iv i02, iv i0e, iv i06, iv 1, iv i07, iv i08, iv i09, iv i03, .unset, .unset, .unset, .unset, .unset, .unset, .unset, .unset, .unset, .unset, .unset, .unset] [])) _
          refine oIL X0a hx hby at_177 rfl ?_
          refine oN0 X0a hx hby at_179 (XT.i0_eq_f (by decide)) ?_
          refine oIN X0a hx hby at_182 rfl ?_
          refine oGO X0a hx hby (pc' := 189) at_183 ?_
          refine oIS X0a hx hby at_189 (l' := #[iv i5, iv i0, iv i1, iv i6, iv i2, iv i3, iv i4, iv i7, iv i9, iv i8, iv i00, iv i01, iv i02, iv i0e, iv i06, iv 1, iv i07, iv i08, iv i09, iv i03, iv i0, .unset, .unset, .unset, .unset, .unset, .unset, .unset, .unset, .unset, .unset, .unset]) rfl ?_
          exact J04 T00 _ X0a e03 N0b 1 i0 (Or.inl ⟨rfl, rfl⟩)
        show own_G p e below (T9.setTop (mkF m 160 #[iv i5, iv i0, iv i1, iv i6, iv i2, iv i3, iv i4, iv i7, iv i9, iv i8, iv i00, iv i01, iv i02, iv i0e, iv i0b, iv i0a, iv i07, iv i08, iv i09, .unset, .unset, .unset, .unset, .unset, .unset, .unset, .unset, .unset, .unset, .unset, .unset, .unset] [])) _
        rcases I09 with q1p | q1q
        ·skip
         refine own_cast (g' := (mkF m 160 #[iv i5, iv i0, iv i1, iv i6, iv i2, iv i3, iv i4, iv i7, iv i9, iv i8, iv i00, iv i01, iv i02, iv i0e, iv 0, iv i0a, iv i07, iv i08, iv i09, .unset, .unset, .unset, .unset, .unset, .unset, .unset, .unset, .unset, .unset, .unset, .unset, .unset] [])) (by rw [q1p]) ?_
         show own_G p e below (T9.setTop (mkF m 160 #[iv i5, iv i0, iv i1, iv i6, iv i2, iv i3, iv i4, iv i7, iv i9, iv i8, iv i00, iv i01, iv i02, iv i0e, iv 0, iv i0a, iv i07, iv i08, iv i09, .unset, .unset, .unset, .unset, .unset, .unset, .unset, .unset, .unset, .unset, .unset, .unset, .unset] [])) _
         refine oIL X06 hx hby at_160 rfl ?_
         refine oY0 X06 hx hby (pc' := 170) at_162 (XT.i0_eq_t (by decide)) ?_
         refine oIL X06 hx hby at_170 rfl ?_
         refine oIC X06 hx hby at_172 ?_
         refine oS (fun _ => XT.ixor X06.here hx rfl (hb hby at_173) rfl) ?_
         refine oS (fun _ => XT.i2s X06.here hx rfl (hb hby at_174) rfl) ?_
         refine oIS X06 hx hby at_175 (l' := #[iv i5, iv i0, iv i1, iv i6, iv i2, iv i3, iv i4, iv i7, iv i9, iv i8, iv i00, iv i01, iv i02, iv i0e, iv 0, iv i0a, iv i07, iv i08, iv i09, iv ((i4 ^^^ 1).toInt16.toInt32), .unset, .unset, .unset, .unset, .unset, .unset, .unset, .unset, .unset, .unset, .unset, .unset]) rfl ?_
         exact J03 T9 _ X06 e02 N0a 0 ((i4 ^^^ 1).toInt16.toInt32) (Or.inr ⟨rfl, (own_xs b0)⟩) (own_narS _)
        ·skip
         refine own_cast (g' := (mkF m 160 #[iv i5, iv i0, iv i1, iv i6, iv i2, iv i3, iv i4, iv i7, iv i9, iv i8, iv i00, iv i01, iv i02, iv i0e, iv 1, iv i0a, iv i07, iv i08, iv i09, .unset, .unset, .unset, .unset, .unset, .unset, .unset, .unset, .unset, .unset, .unset, .unset, .unset] [])) (by rw [q1q]) ?_
         show own_G p e below (T9.setTop (mkF m 160 #[iv i5, iv i0, iv i1, iv i6, iv i2, iv i3, iv i4, iv i7, iv i9, iv i8, iv i00, iv i01, iv i02, iv i0e, iv 1, iv i0a, iv i07, iv i08, iv i09, .unset, .unset, .unset, .unset, .unset, .unset, .unset, .unset, .unset, .unset, .unset, .unset, .unset] [])) _
         refine oIL X06 hx hby at_160 rfl ?_
         refine oN0 X06 hx hby at_162 (XT.i0_eq_f (by decide)) ?_
         refine oIL X06 hx hby at_165 rfl ?_
         refine oGO X06 hx hby (pc' := 175) at_167 ?_
         refine oIS X06 hx hby at_175 (l' := #[iv i5, iv i0, iv i1, iv i6, iv i2, iv i3, iv i4, iv i7, iv i9, iv i8, iv i00, iv i01, iv i02, iv i0e, iv 1, iv i0a, iv i07, iv i08, iv i09, iv i4, .unset, .unset, .unset, .unset, .unset, .unset, .unset, .unset, .unset, .unset, .unset, .unset]) rfl ?_
         exact J03 T9 _ X06 e02 N0a 1 i4 (Or.inl ⟨rfl, rfl⟩) b0
       show own_G p e below (T0.setTop (mkF m 142 #[iv i5, iv i0, iv i1, iv i6, iv i2, iv i3, iv i4, iv i7, iv i9, iv i8, iv i00, iv i01, iv i02, iv i0g, iv i0b, iv i0a, iv i07, iv i0h, .unset, .unset, .unset, .unset, .unset, .unset, .unset, .unset, .unset, .unset, .unset, .unset, .unset, .unset] [])) _
       rcases own_in3 b0h with q1r | q1s | q1t
       ·skip
        refine own_cast (g' := (mkF m 142 #[iv i5, iv i0, iv i1, iv i6, iv i2, iv i3, iv i4, iv i7, iv i9, iv i8, iv i00, iv i01, iv i02, iv 0, iv i0b, iv i0a, iv i07, iv i0h, .unset, .unset, .unset, .unset, .unset, .unset, .unset, .unset, .unset, .unset, .unset, .unset, .unset, .unset] [])) (by rw [q1r]) ?_
        show own_G p e below (T0.setTop (mkF m 142 #[iv i5, iv i0, iv i1, iv i6, iv i2, iv i3, iv i4, iv i7, iv i9, iv i8, iv i00, iv i01, iv i02, iv 0, iv i0b, iv i0a, iv i07, iv i0h, .unset, .unset, .unset, .unset, .unset, .unset, .unset, .unset, .unset, .unset, .unset, .unset, .unset, .unset] [])) _
        refine oIL X0 hx hby at_142 rfl ?_
        show own_G p e below (T0.setTop (mkF m 144 #[iv i5, iv i0, iv i1, iv i6, iv i2, iv i3, iv i4, iv i7, iv i9, iv i8, iv i00, iv i01, iv i02, iv 0, iv i0b, iv i0a, iv i07, iv i0h, .unset, .unset, .unset, .unset, .unset, .unset, .unset, .unset, .unset, .unset, .unset, .unset, .unset, .unset] [(.int i0h)])) _
        rcases I01 with q1u | q1v
        ·skip
         refine own_cast (g' := (mkF m 144 #[iv i5, iv i0, iv i1, iv i6, iv i2, iv i3, iv i4, iv i7, iv i9, iv i8, iv i00, iv i01, iv i02, iv 0, iv i0b, iv i0a, iv i07, iv 0, .unset, .unset, .unset, .unset, .unset, .unset, .unset, .unset, .unset, .unset, .unset, .unset, .unset, .unset] [(.int 0)])) (by rw [q1u]) ?_
         show own_G p e below (T0.setTop (mkF m 144 #[iv i5, iv i0, iv i1, iv i6, iv i2, iv i3, iv i4, iv i7, iv i9, iv i8, iv i00, iv i01, iv i02, iv 0, iv i0b, iv i0a, iv i07, iv 0, .unset, .unset, .unset, .unset, .unset, .unset, .unset, .unset, .unset, .unset, .unset, .unset, .unset, .unset] [(.int 0)])) _
         refine oY0 X0 hx hby (pc' := 152) at_144 (XT.i0_eq_t (by decide)) ?_
         refine oIL X0 hx hby at_152 rfl ?_
         refine oIC X0 hx hby at_154 ?_
         refine oS (fun _ => XS.iadd X0.here hx rfl (hb hby at_155) rfl) ?_
         refine oIC X0 hx hby at_156 ?_
         refine oS (fun _ => iremM X0 hx rfl (hb hby at_157) rfl (by decide)) ?_
         refine oIS X0 hx hby at_158 (l' := #[iv i5, iv i0, iv i1, iv i6, iv i2, iv i3, iv i4, iv i7, iv i9, iv i8, iv i00, iv i01, iv i02, iv 0, iv i0b, iv i0a, iv i07, iv 0, iv 1, .unset, .unset, .unset, .unset, .unset, .unset, .unset, .unset, .unset, .unset, .unset, .unset, .unset]) rfl ?_
         exact J0 T0 _ X0 e0 N4 0 0 1 (by decide)
        ·skip
         refine own_cast (g' := (mkF m 144 #[iv i5, iv i0, iv i1, iv i6, iv i2, iv i3, iv i4, iv i7, iv i9, iv i8, iv i00, iv i01, iv i02, iv 0, iv i0b, iv i0a, iv i07, iv 1, .unset, .unset, .unset, .unset, .unset, .unset, .unset, .unset, .unset, .unset, .unset, .unset, .unset, .unset] [(.int 1)])) (by rw [q1v]) ?_
         show own_G p e below (T0.setTop (mkF m 144 #[iv i5, iv i0, iv i1, iv i6, iv i2, iv i3, iv i4, iv i7, iv i9, iv i8, iv i00, iv i01, iv i02, iv 0, iv i0b, iv i0a, iv i07, iv 1, .unset, .unset, .unset, .unset, .unset, .unset, .unset, .unset, .unset, .unset, .unset, .unset, .unset, .unset] [(.int 1)])) _
         refine oN0 X0 hx hby at_144 (XT.i0_eq_f (by decide)) ?_
         refine oIL X0 hx hby at_147 rfl ?_
         refine oGO X0 hx hby (pc' := 158) at_149 ?_
         refine oIS X0 hx hby at_158 (l' := #[iv i5, iv i0, iv i1, iv i6, iv i2, iv i3, iv i4, iv i7, iv i9, iv i8, iv i00, iv i01, iv i02, iv 0, iv i0b, iv i0a, iv i07, iv 1, iv 0, .unset, .unset, .unset, .unset, .unset, .unset, .unset, .unset, .unset, .unset, .unset, .unset, .unset]) rfl ?_
         exact J0 T0 _ X0 e0 N4 0 1 0 (by decide)
       ·skip
        refine own_cast (g' := (mkF m 142 #[iv i5, iv i0, iv i1, iv i6, iv i2, iv i3, iv i4, iv i7, iv i9, iv i8, iv i00, iv i01, iv i02, iv 1, iv i0b, iv i0a, iv i07, iv i0h, .unset, .unset, .unset, .unset, .unset, .unset, .unset, .unset, .unset, .unset, .unset, .unset, .unset, .unset] [])) (by rw [q1s]) ?_
        show own_G p e below (T0.setTop (mkF m 142 #[iv i5, iv i0, iv i1, iv i6, iv i2, iv i3, iv i4, iv i7, iv i9, iv i8, iv i00, iv i01, iv i02, iv 1, iv i0b, iv i0a, iv i07, iv i0h, .unset, .unset, .unset, .unset, .unset, .unset, .unset, .unset, .unset, .unset, .unset, .unset, .unset, .unset] [])) _
        refine oIL X0 hx hby at_142 rfl ?_
        show own_G p e below (T0.setTop (mkF m 144 #[iv i5, iv i0, iv i1, iv i6, iv i2, iv i3, iv i4, iv i7, iv i9, iv i8, iv i00, iv i01, iv i02, iv 1, iv i0b, iv i0a, iv i07, iv i0h, .unset, .unset, .unset, .unset, .unset, .unset, .unset, .unset, .unset, .unset, .unset, .unset, .unset, .unset] [(.int i0h)])) _
        rcases I01 with q1w | q1x
        ·skip
         refine own_cast (g' := (mkF m 144 #[iv i5, iv i0, iv i1, iv i6, iv i2, iv i3, iv i4, iv i7, iv i9, iv i8, iv i00, iv i01, iv i02, iv 1, iv i0b, iv i0a, iv i07, iv 0, .unset, .unset, .unset, .unset, .unset, .unset, .unset, .unset, .unset, .unset, .unset, .unset, .unset, .unset] [(.int 0)])) (by rw [q1w]) ?_
         show own_G p e below (T0.setTop (mkF m 144 #[iv i5, iv i0, iv i1, iv i6, iv i2, iv i3, iv i4, iv i7, iv i9, iv i8, iv i00, iv i01, iv i02, iv 1, iv i0b, iv i0a, iv i07, iv 0, .unset, .unset, .unset, .unset, .unset, .unset, .unset, .unset, .unset, .unset, .unset, .unset, .unset, .unset] [(.int 0)])) _
         refine oY0 X0 hx hby (pc' := 152) at_144 (XT.i0_eq_t (by decide)) ?_
         refine oIL X0 hx hby at_152 rfl ?_
         refine oIC X0 hx hby at_154 ?_
         refine oS (fun _ => XS.iadd X0.here hx rfl (hb hby at_155) rfl) ?_
         refine oIC X0 hx hby at_156 ?_
         refine oS (fun _ => iremM X0 hx rfl (hb hby at_157) rfl (by decide)) ?_
         refine oIS X0 hx hby at_158 (l' := #[iv i5, iv i0, iv i1, iv i6, iv i2, iv i3, iv i4, iv i7, iv i9, iv i8, iv i00, iv i01, iv i02, iv 1, iv i0b, iv i0a, iv i07, iv 0, iv 2, .unset, .unset, .unset, .unset, .unset, .unset, .unset, .unset, .unset, .unset, .unset, .unset, .unset]) rfl ?_
         exact J0 T0 _ X0 e0 N4 1 0 2 (by decide)
        ·skip
         refine own_cast (g' := (mkF m 144 #[iv i5, iv i0, iv i1, iv i6, iv i2, iv i3, iv i4, iv i7, iv i9, iv i8, iv i00, iv i01, iv i02, iv 1, iv i0b, iv i0a, iv i07, iv 1, .unset, .unset, .unset, .unset, .unset, .unset, .unset, .unset, .unset, .unset, .unset, .unset, .unset, .unset] [(.int 1)])) (by rw [q1x]) ?_
         show own_G p e below (T0.setTop (mkF m 144 #[iv i5, iv i0, iv i1, iv i6, iv i2, iv i3, iv i4, iv i7, iv i9, iv i8, iv i00, iv i01, iv i02, iv 1, iv i0b, iv i0a, iv i07, iv 1, .unset, .unset, .unset, .unset, .unset, .unset, .unset, .unset, .unset, .unset, .unset, .unset, .unset, .unset] [(.int 1)])) _
         refine oN0 X0 hx hby at_144 (XT.i0_eq_f (by decide)) ?_
         refine oIL X0 hx hby at_147 rfl ?_
         refine oGO X0 hx hby (pc' := 158) at_149 ?_
         refine oIS X0 hx hby at_158 (l' := #[iv i5, iv i0, iv i1, iv i6, iv i2, iv i3, iv i4, iv i7, iv i9, iv i8, iv i00, iv i01, iv i02, iv 1, iv i0b, iv i0a, iv i07, iv 1, iv 1, .unset, .unset, .unset, .unset, .unset, .unset, .unset, .unset, .unset, .unset, .unset, .unset, .unset]) rfl ?_
         exact J0 T0 _ X0 e0 N4 1 1 1 (by decide)
       ·skip
        refine own_cast (g' := (mkF m 142 #[iv i5, iv i0, iv i1, iv i6, iv i2, iv i3, iv i4, iv i7, iv i9, iv i8, iv i00, iv i01, iv i02, iv 2, iv i0b, iv i0a, iv i07, iv i0h, .unset, .unset, .unset, .unset, .unset, .unset, .unset, .unset, .unset, .unset, .unset, .unset, .unset, .unset] [])) (by rw [q1t]) ?_
        show own_G p e below (T0.setTop (mkF m 142 #[iv i5, iv i0, iv i1, iv i6, iv i2, iv i3, iv i4, iv i7, iv i9, iv i8, iv i00, iv i01, iv i02, iv 2, iv i0b, iv i0a, iv i07, iv i0h, .unset, .unset, .unset, .unset, .unset, .unset, .unset, .unset, .unset, .unset, .unset, .unset, .unset, .unset] [])) _
        refine oIL X0 hx hby at_142 rfl ?_
        show own_G p e below (T0.setTop (mkF m 144 #[iv i5, iv i0, iv i1, iv i6, iv i2, iv i3, iv i4, iv i7, iv i9, iv i8, iv i00, iv i01, iv i02, iv 2, iv i0b, iv i0a, iv i07, iv i0h, .unset, .unset, .unset, .unset, .unset, .unset, .unset, .unset, .unset, .unset, .unset, .unset, .unset, .unset] [(.int i0h)])) _
        rcases I01 with q1y | q1z
        ·skip
         refine own_cast (g' := (mkF m 144 #[iv i5, iv i0, iv i1, iv i6, iv i2, iv i3, iv i4, iv i7, iv i9, iv i8, iv i00, iv i01, iv i02, iv 2, iv i0b, iv i0a, iv i07, iv 0, .unset, .unset, .unset, .unset, .unset, .unset, .unset, .unset, .unset, .unset, .unset, .unset, .unset, .unset] [(.int 0)])) (by rw [q1y]) ?_
         show own_G p e below (T0.setTop (mkF m 144 #[iv i5, iv i0, iv i1, iv i6, iv i2, iv i3, iv i4, iv i7, iv i9, iv i8, iv i00, iv i01, iv i02, iv 2, iv i0b, iv i0a, iv i07, iv 0, .unset, .unset, .unset, .unset, .unset, .unset, .unset, .unset, .unset, .unset, .unset, .unset, .unset, .unset] [(.int 0)])) _
         refine oY0 X0 hx hby (pc' := 152) at_144 (XT.i0_eq_t (by decide)) ?_
         refine oIL X0 hx hby at_152 rfl ?_
         refine oIC X0 hx hby at_154 ?_
         refine oS (fun _ => XS.iadd X0.here hx rfl (hb hby at_155) rfl) ?_
         refine oIC X0 hx hby at_156 ?_
         refine oS (fun _ => iremM X0 hx rfl (hb hby at_157) rfl (by decide)) ?_
         refine oIS X0 hx hby at_158 (l' := #[iv i5, iv i0, iv i1, iv i6, iv i2, iv i3, iv i4, iv i7, iv i9, iv i8, iv i00, iv i01, iv i02, iv 2, iv i0b, iv i0a, iv i07, iv 0, iv 0, .unset, .unset, .unset, .unset, .unset, .unset, .unset, .unset, .unset, .unset, .unset, .unset, .unset]) rfl ?_
         exact J0 T0 _ X0 e0 N4 2 0 0 (by decide)
        ·skip
         refine own_cast (g' := (mkF m 144 #[iv i5, iv i0, iv i1, iv i6, iv i2, iv i3, iv i4, iv i7, iv i9, iv i8, iv i00, iv i01, iv i02, iv 2, iv i0b, iv i0a, iv i07, iv 1, .unset, .unset, .unset, .unset, .unset, .unset, .unset, .unset, .unset, .unset, .unset, .unset, .unset, .unset] [(.int 1)])) (by rw [q1z]) ?_
         show own_G p e below (T0.setTop (mkF m 144 #[iv i5, iv i0, iv i1, iv i6, iv i2, iv i3, iv i4, iv i7, iv i9, iv i8, iv i00, iv i01, iv i02, iv 2, iv i0b, iv i0a, iv i07, iv 1, .unset, .unset, .unset, .unset, .unset, .unset, .unset, .unset, .unset, .unset, .unset, .unset, .unset, .unset] [(.int 1)])) _
         refine oN0 X0 hx hby at_144 (XT.i0_eq_f (by decide)) ?_
         refine oIL X0 hx hby at_147 rfl ?_
         refine oGO X0 hx hby (pc' := 158) at_149 ?_
         refine oIS X0 hx hby at_158 (l' := #[iv i5, iv i0, iv i1, iv i6, iv i2, iv i3, iv i4, iv i7, iv i9, iv i8, iv i00, iv i01, iv i02, iv 2, iv i0b, iv i0a, iv i07, iv 1, iv 2, .unset, .unset, .unset, .unset, .unset, .unset, .unset, .unset, .unset, .unset, .unset, .unset, .unset]) rfl ?_
         exact J0 T0 _ X0 e0 N4 2 1 2 (by decide)
      refine oIL X0e hx hby at_127 rfl ?_
      refine oS (fun _ => XS.bipush X0e.here hx rfl (hb hby at_129) ) ?_
      refine oS (fun _ => XS.iand X0e.here hx rfl (hb hby at_131) rfl) ?_
      by_cases b09 : (i3 &&& 8) = 0
      ·skip
       refine oY0 X0e hx hby (pc' := 139) at_132 (XT.i0_eq_t b09) ?_
       show own_G p e below (T04.setTop (mkF m 139 #[iv i5, iv i0, iv i1, iv i6, iv i2, iv i3, iv i4, iv i7, iv i9, iv i8, iv i00, iv i01, iv i02, iv i0g, iv i0b, iv i0a, iv i07, .unset, .unset, .unset, .unset, .unset, .unset, .unset, .unset, .unset, .unset, .unset, .unset, .unset, .unset, .unset] [])) _
       refine oIC X0e hx hby at_139 ?_
       refine oIS X0e hx hby at_140 (l' := #[iv i5, iv i0, iv i1, iv i6, iv i2, iv i3, iv i4, iv i7, iv i9, iv i8, iv i00, iv i01, iv i02, iv i0g, iv i0b, iv i0a, iv i07, iv 0, .unset, .unset, .unset, .unset, .unset, .unset, .unset, .unset, .unset, .unset, .unset, .unset, .unset, .unset]) rfl ?_
       exact J02 T04 _ X0e e01 N09 0 (by decide)
      ·skip
       refine oN0 X0e hx hby at_132 (XT.i0_eq_f b09) ?_
       show own_G p e below (T04.setTop (mkF m 135 #[iv i5, iv i0, iv i1, iv i6, iv i2, iv i3, iv i4, iv i7, iv i9, iv i8, iv i00, iv i01, iv i02, iv i0g, iv i0b, iv i0a, iv i07, .unset, .unset, .unset, .unset, .unset, .unset, .unset, .unset, .unset, .unset, .unset, .unset, .unset, .unset, .unset] [])) _
       refine oIC X0e hx hby at_135 ?_
       refine oGO X0e hx hby (pc' := 140) at_136 ?_
       refine oIS X0e hx hby at_140 (l' := #[iv i5, iv i0, iv i1, iv i6, iv i2, iv i3, iv i4, iv i7, iv i9, iv i8, iv i00, iv i01, iv i02, iv i0g, iv i0b, iv i0a, iv i07, iv 1, .unset, .unset, .unset, .unset, .unset, .unset, .unset, .unset, .unset, .unset, .unset, .unset, .unset, .unset]) rfl ?_
       exact J02 T04 _ X0e e01 N09 1 (by decide)
     refine oIL X0d hx hby at_113 rfl ?_
     refine oIC X0d hx hby at_115 ?_
     refine oS (fun _ => XS.iand X0d.here hx rfl (hb hby at_116) rfl) ?_
     by_cases b0a : (i3 &&& 4) = 0
     ·skip
      refine oY0 X0d hx hby (pc' := 124) at_117 (XT.i0_eq_t b0a) ?_
      show own_G p e below (T03.setTop (mkF m 124 #[iv i5, iv i0, iv i1, iv i6, iv i2, iv i3, iv i4, iv i7, iv i9, iv i8, iv i00, iv i01, iv i02, iv i0g, iv i0b, iv i0a, .unset, .unset, .unset, .unset, .unset, .unset, .unset, .unset, .unset, .unset, .unset, .unset, .unset, .unset, .unset, .unset] [])) _
      refine oIC X0d hx hby at_124 ?_
      refine oIS X0d hx hby at_125 (l' := #[iv i5, iv i0, iv i1, iv i6, iv i2, iv i3, iv i4, iv i7, iv i9, iv i8, iv i00, iv i01, iv i02, iv i0g, iv i0b, iv i0a, iv 0, .unset, .unset, .unset, .unset, .unset, .unset, .unset, .unset, .unset, .unset, .unset, .unset, .unset, .unset, .unset]) rfl ?_
      exact J01 T03 _ X0d e00 N08 0 (by decide)
     ·skip
      refine oN0 X0d hx hby at_117 (XT.i0_eq_f b0a) ?_
      show own_G p e below (T03.setTop (mkF m 120 #[iv i5, iv i0, iv i1, iv i6, iv i2, iv i3, iv i4, iv i7, iv i9, iv i8, iv i00, iv i01, iv i02, iv i0g, iv i0b, iv i0a, .unset, .unset, .unset, .unset, .unset, .unset, .unset, .unset, .unset, .unset, .unset, .unset, .unset, .unset, .unset, .unset] [])) _
      refine oIC X0d hx hby at_120 ?_
      refine oGO X0d hx hby (pc' := 125) at_121 ?_
      refine oIS X0d hx hby at_125 (l' := #[iv i5, iv i0, iv i1, iv i6, iv i2, iv i3, iv i4, iv i7, iv i9, iv i8, iv i00, iv i01, iv i02, iv i0g, iv i0b, iv i0a, iv 1, .unset, .unset, .unset, .unset, .unset, .unset, .unset, .unset, .unset, .unset, .unset, .unset, .unset, .unset, .unset]) rfl ?_
      exact J01 T03 _ X0d e00 N08 1 (by decide)
    refine oIL X0c hx hby at_99 rfl ?_
    refine oIC X0c hx hby at_101 ?_
    refine oS (fun _ => XS.iand X0c.here hx rfl (hb hby at_102) rfl) ?_
    by_cases b0b : (i3 &&& 2) = 0
    ·skip
     refine oY0 X0c hx hby (pc' := 110) at_103 (XT.i0_eq_t b0b) ?_
     show own_G p e below (T02.setTop (mkF m 110 #[iv i5, iv i0, iv i1, iv i6, iv i2, iv i3, iv i4, iv i7, iv i9, iv i8, iv i00, iv i01, iv i02, iv i0g, iv i0b, .unset, .unset, .unset, .unset, .unset, .unset, .unset, .unset, .unset, .unset, .unset, .unset, .unset, .unset, .unset, .unset, .unset] [])) _
     refine oIC X0c hx hby at_110 ?_
     refine oIS X0c hx hby at_111 (l' := #[iv i5, iv i0, iv i1, iv i6, iv i2, iv i3, iv i4, iv i7, iv i9, iv i8, iv i00, iv i01, iv i02, iv i0g, iv i0b, iv 0, .unset, .unset, .unset, .unset, .unset, .unset, .unset, .unset, .unset, .unset, .unset, .unset, .unset, .unset, .unset, .unset]) rfl ?_
     exact J00 T02 _ X0c e9 N07 0 (by decide)
    ·skip
     refine oN0 X0c hx hby at_103 (XT.i0_eq_f b0b) ?_
     show own_G p e below (T02.setTop (mkF m 106 #[iv i5, iv i0, iv i1, iv i6, iv i2, iv i3, iv i4, iv i7, iv i9, iv i8, iv i00, iv i01, iv i02, iv i0g, iv i0b, .unset, .unset, .unset, .unset, .unset, .unset, .unset, .unset, .unset, .unset, .unset, .unset, .unset, .unset, .unset, .unset, .unset] [])) _
     refine oIC X0c hx hby at_106 ?_
     refine oGO X0c hx hby (pc' := 111) at_107 ?_
     refine oIS X0c hx hby at_111 (l' := #[iv i5, iv i0, iv i1, iv i6, iv i2, iv i3, iv i4, iv i7, iv i9, iv i8, iv i00, iv i01, iv i02, iv i0g, iv i0b, iv 1, .unset, .unset, .unset, .unset, .unset, .unset, .unset, .unset, .unset, .unset, .unset, .unset, .unset, .unset, .unset, .unset]) rfl ?_
     exact J00 T02 _ X0c e9 N07 1 (by decide)
   refine oIL X03 hx hby at_85 rfl ?_
   refine oIC X03 hx hby at_87 ?_
   refine oS (fun _ => XS.iand X03.here hx rfl (hb hby at_88) rfl) ?_
   by_cases b0c : (i3 &&& 1) = 0
   ·skip
    refine oY0 X03 hx hby (pc' := 96) at_89 (XT.i0_eq_t b0c) ?_
    show own_G p e below (T8.setTop (mkF m 96 #[iv i5, iv i0, iv i1, iv i6, iv i2, iv i3, iv i4, iv i7, iv i9, iv i8, iv i00, iv i01, iv i02, iv i0g, .unset, .unset, .unset, .unset, .unset, .unset, .unset, .unset, .unset, .unset, .unset, .unset, .unset, .unset, .unset, .unset, .unset, .unset] [])) _
    refine oIC X03 hx hby at_96 ?_
    refine oIS X03 hx hby at_97 (l' := #[iv i5, iv i0, iv i1, iv i6, iv i2, iv i3, iv i4, iv i7, iv i9, iv i8, iv i00, iv i01, iv i02, iv i0g, iv 0, .unset, .unset, .unset, .unset, .unset, .unset, .unset, .unset, .unset, .unset, .unset, .unset, .unset, .unset, .unset, .unset, .unset]) rfl ?_
    exact J9 T8 _ X03 e8 N06 0 (by decide)
   ·skip
    refine oN0 X03 hx hby at_89 (XT.i0_eq_f b0c) ?_
    show own_G p e below (T8.setTop (mkF m 92 #[iv i5, iv i0, iv i1, iv i6, iv i2, iv i3, iv i4, iv i7, iv i9, iv i8, iv i00, iv i01, iv i02, iv i0g, .unset, .unset, .unset, .unset, .unset, .unset, .unset, .unset, .unset, .unset, .unset, .unset, .unset, .unset, .unset, .unset, .unset, .unset] [])) _
    refine oIC X03 hx hby at_92 ?_
    refine oGO X03 hx hby (pc' := 97) at_93 ?_
    refine oIS X03 hx hby at_97 (l' := #[iv i5, iv i0, iv i1, iv i6, iv i2, iv i3, iv i4, iv i7, iv i9, iv i8, iv i00, iv i01, iv i02, iv i0g, iv 1, .unset, .unset, .unset, .unset, .unset, .unset, .unset, .unset, .unset, .unset, .unset, .unset, .unset, .unset, .unset, .unset, .unset]) rfl ?_
    exact J9 T8 _ X03 e8 N06 1 (by decide)
  refine oIL X01 hx hby at_60 rfl ?_
  refine oS (fun _ => XS.bipush X01.here hx rfl (hb hby at_62) ) ?_
  refine oS (fun _ => XT.iushr X01.here hx rfl (hb hby at_64) rfl) ?_
  refine oIC X01 hx hby at_65 ?_
  refine oS (fun _ => XS.iand X01.here hx rfl (hb hby at_66) rfl) ?_
  by_cases b0d : ((XT.ushr i2 19) &&& 1) = 0
  ·skip
   refine oN0 X01 hx hby at_67 (XT.i0_ne_f b0d) ?_
   show own_G p e below (T7.setTop (mkF m 70 #[iv i5, iv i0, iv i1, iv i6, iv i2, iv i3, iv i4, iv i7, iv i9, iv i8, iv i00, iv i01, .unset, .unset, .unset, .unset, .unset, .unset, .unset, .unset, .unset, .unset, .unset, .unset, .unset, .unset, .unset, .unset, .unset, .unset, .unset, .unset] [])) _
   refine oIC X01 hx hby at_70 ?_
   refine oGO X01 hx hby (pc' := 75) at_71 ?_
   refine oIS X01 hx hby at_75 (l' := #[iv i5, iv i0, iv i1, iv i6, iv i2, iv i3, iv i4, iv i7, iv i9, iv i8, iv i00, iv i01, iv 1, .unset, .unset, .unset, .unset, .unset, .unset, .unset, .unset, .unset, .unset, .unset, .unset, .unset, .unset, .unset, .unset, .unset, .unset, .unset]) rfl ?_
   exact J8 T7 _ X01 e7 N05 1 
  ·skip
   refine oY0 X01 hx hby (pc' := 74) at_67 (XT.i0_ne_t b0d) ?_
   show own_G p e below (T7.setTop (mkF m 74 #[iv i5, iv i0, iv i1, iv i6, iv i2, iv i3, iv i4, iv i7, iv i9, iv i8, iv i00, iv i01, .unset, .unset, .unset, .unset, .unset, .unset, .unset, .unset, .unset, .unset, .unset, .unset, .unset, .unset, .unset, .unset, .unset, .unset, .unset, .unset] [])) _
   refine oIC X01 hx hby at_74 ?_
   refine oIS X01 hx hby at_75 (l' := #[iv i5, iv i0, iv i1, iv i6, iv i2, iv i3, iv i4, iv i7, iv i9, iv i8, iv i00, iv i01, iv (-1), .unset, .unset, .unset, .unset, .unset, .unset, .unset, .unset, .unset, .unset, .unset, .unset, .unset, .unset, .unset, .unset, .unset, .unset, .unset]) rfl ?_
   exact J8 T7 _ X01 e7 N05 (-1) 
 refine oIL X3 hx hby at_34 rfl ?_
 refine oS (fun _ => XS.bipush X3.here hx rfl (hb hby at_36) ) ?_
 refine oS (fun _ => XT.iushr X3.here hx rfl (hb hby at_38) rfl) ?_
 refine oIC X3 hx hby at_39 ?_
 refine oS (fun _ => XS.iand X3.here hx rfl (hb hby at_40) rfl) ?_
 by_cases b0e : ((XT.ushr i2 17) &&& 1) = 0
 ·skip
  refine oN0 X3 hx hby at_41 (XT.i0_ne_f b0e) ?_
  show own_G p e below (s₁.setTop (mkF m 44 #[iv i5, iv i0, iv i1, iv i6, iv i2, iv i3, iv i4, iv i7, iv i9, iv i8, .unset, .unset, .unset, .unset, .unset, .unset, .unset, .unset, .unset, .unset, .unset, .unset, .unset, .unset, .unset, .unset, .unset, .unset, .unset, .unset, .unset, .unset] [])) _
  refine oIC X3 hx hby at_44 ?_
  refine oGO X3 hx hby (pc' := 49) at_45 ?_
  refine oIS X3 hx hby at_49 (l' := #[iv i5, iv i0, iv i1, iv i6, iv i2, iv i3, iv i4, iv i7, iv i9, iv i8, iv 1, .unset, .unset, .unset, .unset, .unset, .unset, .unset, .unset, .unset, .unset, .unset, .unset, .unset, .unset, .unset, .unset, .unset, .unset, .unset, .unset, .unset]) rfl ?_
  exact J7 s₁ _ X3 e06 N0u 1 
 ·skip
  refine oY0 X3 hx hby (pc' := 48) at_41 (XT.i0_ne_t b0e) ?_
  show own_G p e below (s₁.setTop (mkF m 48 #[iv i5, iv i0, iv i1, iv i6, iv i2, iv i3, iv i4, iv i7, iv i9, iv i8, .unset, .unset, .unset, .unset, .unset, .unset, .unset, .unset, .unset, .unset, .unset, .unset, .unset, .unset, .unset, .unset, .unset, .unset, .unset, .unset, .unset, .unset] [])) _
  refine oIC X3 hx hby at_48 ?_
  refine oIS X3 hx hby at_49 (l' := #[iv i5, iv i0, iv i1, iv i6, iv i2, iv i3, iv i4, iv i7, iv i9, iv i8, iv (-1), .unset, .unset, .unset, .unset, .unset, .unset, .unset, .unset, .unset, .unset, .unset, .unset, .unset, .unset, .unset, .unset, .unset, .unset, .unset, .unset, .unset]) rfl ?_
  exact J7 s₁ _ X3 e06 N0u (-1) 
set_option maxRecDepth 65536 in
set_option maxHeartbeats 40000000 in
theorem comes_1 {Post : Tables → Env → Array Value → State → Outcome → State → Prop} (hpost : ∀ tb e args s v u, (limb_1_1.after args s (.returned v) u = true ∧ limb_1_2.after args s (.returned v) u = true ∧ True) → FrameEnd s (.returned v) u (Jvm.fieldLocs frame_1_writes args s ++ Jvm.arrayLocs frame_1_arrays args s ++ Jvm.staticLocs frame_1_statics s) 56 320 → Post tb e args s (.returned v) u) :
    ArmFor flags0 classFile x code maxLocals ret World_1 tables_1 room_1 Calls_1 rest_1 Pre_1 Post := by
  intro l hfl _ _ p e ha hc hk s m args below hf hA hF happ hP
  obtain ⟨hcalls, hrest, hpre⟩ := hP
  obtain ⟨-, -, -, hnamed, -, -, -, hat⟩ := (Spec.applies_iff hf).mp happ
  obtain ⟨hg, hn⟩ := and_e (Cond.before_iff.mp (show (Jvm.Cond.and given_1 narrow_1).before args s = true from hpre))
  obtain ⟨g0, gg0⟩ := and_e hg
  obtain ⟨w0, w1, w2, w3, w4, w5, rfl⟩ : ∃ w0 w1 w2 w3 w4 w5 : Value, args = #[w0, w1, w2, w3, w4, w5] := by
    have hs : args.size = 6 := by simpa [Cond.value, given_1] using g0
    obtain ⟨L⟩ := args
    match L, hs with
    | [w0, w1, w2, w3, w4, w5], _ => exact ⟨w0, w1, w2, w3, w4, w5, rfl⟩
  have hw : own_W _ s := fun n => atoms_spec (ws := Jvm.Cond.code x code maxLocals ret :: tables_1) hat _ (own_gd _ _ n)
  obtain ⟨hsets, hown0⟩ := atoms_of _ (rest_1_c_eq ▸ (show rest_1_c.before _ s = true from hrest))
  have hfit : Fit s := fun {y c} hc i hi => by
    obtain ⟨ha, rfl⟩ := Array.getElem?_eq_some_iff.mp hc
    have q := List.all_eq_true.mp ((Array.all_eq_true_iff_forall_mem.mp hF) _ (Array.getElem_mem ha)) i (List.mem_range.mpr hi)
    simpa [Array.getElem?_eq_getElem hi] using q
  obtain ⟨ga0, gg1⟩ := and_e gg0
  obtain ⟨in_1, ea0⟩ := is_v ga0
  obtain rfl : w0 = (.int in_1) := Option.some.inj ea0
  obtain ⟨ga1, gg2⟩ := and_e gg1
  obtain ⟨in_2, ea1⟩ := is_v ga1
  obtain rfl : w1 = (.int in_2) := Option.some.inj ea1
  obtain ⟨ga2, gg3⟩ := and_e gg2
  obtain ⟨in_3, ea2⟩ := is_v ga2
  obtain rfl : w2 = (.int in_3) := Option.some.inj ea2
  obtain ⟨ga3, gg4⟩ := and_e gg3
  obtain ⟨in_4, ea3⟩ := is_v ga3
  obtain rfl : w3 = (.int in_4) := Option.some.inj ea3
  obtain ⟨ga4, gg5⟩ := and_e gg4
  obtain ⟨in_5, ea4⟩ := is_v ga4
  obtain rfl : w4 = (.int in_5) := Option.some.inj ea4
  obtain ⟨in_6, ea5⟩ := is_v gg5
  obtain rfl : w5 = (.int in_6) := Option.some.inj ea5
  have c0 := hn
  obtain ⟨in_7, ev_in_7⟩ := is_v (Cond.before_iff.mp (hsets _ (List.mem_of_getElem? (i := 1) rfl)))
  obtain ⟨va_8, ev_va_8, rf_va_8⟩ := isR_v (Cond.before_iff.mp (hsets _ (List.mem_of_getElem? (i := 8) rfl)))
  obtain ⟨ob_9, ev_ob_9⟩ := exa_v (Cond.before_iff.mp (hsets _ (List.mem_of_getElem? (i := 11) rfl)))
  obtain ⟨ob_10, ev_ob_10⟩ := arr_v (Cond.before_iff.mp (hsets _ (List.mem_of_getElem? (i := 12) rfl)))
  obtain ⟨kk_11, ar_ob_10⟩ := own_arr (vs := []) (dv := .null) hfit ev_ob_10 (Cond.before_iff.mp (hsets _ (List.mem_of_getElem? (i := 12) rfl))) (Cond.before_iff.mp (hsets _ (List.mem_of_getElem? (i := 14) rfl))) (by decide) rfl (fun cl hc ha hz => trivial)
  obtain ⟨ob_12, ev_ob_12⟩ := arr_v (Cond.before_iff.mp (hsets _ (List.mem_of_getElem? (i := 19) rfl)))
  obtain ⟨kk_13, ar_ob_12⟩ := own_arr (vs := []) (dv := .null) hfit ev_ob_12 (Cond.before_iff.mp (hsets _ (List.mem_of_getElem? (i := 19) rfl))) (Cond.before_iff.mp (hsets _ (List.mem_of_getElem? (i := 21) rfl))) (by decide) rfl (fun cl hc ha hz => trivial)
  obtain ⟨ob_14, ev_ob_14⟩ := arr_v (Cond.before_iff.mp (hsets _ (List.mem_of_getElem? (i := 22) rfl)))
  obtain ⟨kk_15, ar_ob_14⟩ := own_arr (vs := []) (dv := .null) hfit ev_ob_14 (Cond.before_iff.mp (hsets _ (List.mem_of_getElem? (i := 22) rfl))) (Cond.before_iff.mp (hsets _ (List.mem_of_getElem? (i := 24) rfl))) (by decide) rfl (fun cl hc ha hz => trivial)
  obtain ⟨ob_16, mi_ob_16⟩ := own_mir (show MirrorMade s cN10 from hcalls.1)
  obtain ⟨ob_17, mi_ob_17⟩ := own_mir (show MirrorMade s cN15 from hcalls.2.1)
  obtain ⟨ob_18, mi_ob_18⟩ := own_mir (show MirrorMade s cN14 from hcalls.2.2.1)
  obtain ⟨n, o, h1, h2, h3, _, L, rfl, ⟨rfl, N⟩, hq⟩ := own_rm1 l s _ hw tables_1 in_1 in_2 in_3 in_4 in_5 in_6 in_7 ob_9 ob_10 kk_11 ob_14 ob_16 ob_17 ob_18 kk_15 s.heap s.heap.size (Nat.le_refl _) (Old.start s) (Sta.start ev_in_7 (Or.inl (hsets _ (List.mem_of_getElem? (i := 0) rfl)))) (gotF (Cond.eq_ints ev_in_7 (Term.int_eval 0)) (not_v (Cond.before_iff.mp (hsets _ (List.mem_of_getElem? (i := 2) rfl))))) (Sta.start ev_ob_9 (Or.inl (hsets _ (List.mem_of_getElem? (i := 10) rfl)))) (Fld.start ((fld_at ev_ob_9).symm.trans ev_ob_10)) ar_ob_10 (Exa.start ev_ob_9 (Cond.before_iff.mp (hsets _ (List.mem_of_getElem? (i := 11) rfl)))) (Sta.start ev_ob_14 (Or.inr ⟨(hw 123), (hsets _ (List.mem_of_getElem? (i := 18) rfl))⟩)) mi_ob_16 mi_ob_17 mi_ob_18 ar_ob_14 p e ha hc hk s m _ below hf ((Spec.applies_iff_loose hf).mp happ).1 ⟨rfl, State.Warmed39.refl s, rfl⟩ trivial
  refine ⟨n, _, h1, h2, h3, hpost _ _ _ _ _ _ ⟨Cond.after_iff.mpr rfl, Cond.after_iff.mpr (eq_i res_at (Term.int_eval (1)) rfl), trivial⟩ ⟨hq.1, hq.2.1, (hq.2.2.sift fun y hy => Or.inr (N y hy)).mono (by decide) (by decide)⟩⟩
theorem main_1_1 : Claimed_1_1 := comes_1 fun _ _ _ _ _ _ h hF => ⟨h.1, hF⟩
theorem main_1_2 : Claimed_1_2 := comes_1 fun _ _ _ _ _ _ h hF => ⟨h.2.1, hF⟩
end Jvm.Pilot.@@N@@
namespace Jvm.Pilot.@@N@@
open Jvm Jvm.ClassFile Sem Op Lib Jvm.Free Jvm.Stand Jvm.Pilot.@@N@@.Jvm.D
/-! MADE BY PROGRAM (witnessworld.py) out of the Statement's table words and the real class files: 46 classes; the members and pool entries that the words name. The judged class is class 1, her method 1. -/
namespace start1
open Jvm.ClassFile
def mi (a b c : Nat) : MethodInfo := { accessFlags := a, nameIndex := b, descriptorIndex := c, attributes := #[] }
def fi (a b c : Nat) : FieldInfo := { accessFlags := a, nameIndex := b, descriptorIndex := c, attributes := #[] }
def fd (n : String) (t : FieldType) (a s : Nat) : Field := { name := n, type := t, accessFlags := a, slot := s, constantValue := 0 }
def me (n d : String) (ps : List FieldType) (r : Option FieldType) (a : Nat) (c : Option Code) : Method := { name := n, desc := d, sig := { parameters := ps, returnType := r }, accessFlags := a, code := c }
def co (s l : Nat) (c : ByteArray) : Code := { maxStack := s, maxLocals := l, code := c, exceptionTable := #[], attributes := #[] }
def u (s : String) : CpInfo := .utf8 (stringToUtf16 s)
def gap : Nat → List CpInfo → List CpInfo
  | 0, r => r
  | n + 1, r => .unusable :: gap n r
def poolList (es : List (Nat × CpInfo)) (last : Nat) : List CpInfo := es.foldr (fun e r => gap e.1 (e.2 :: r)) (gap last [])
def pool (es : List (Nat × CpInfo)) (last : Nat) : Array CpInfo := ⟨poolList es last⟩
def fileOf (pool : Array CpInfo) (this : Nat) (attrs : Array Attribute := #[]) (ms : Array MethodInfo := #[]) (fl : Nat := 33) (sup : Nat := 0) (ifs : Array Nat := #[]) (fds : Array FieldInfo := #[]) : ClassFile where
  minorVersion := 0
  majorVersion := 65
  constantPool := pool
  accessFlags := fl
  thisClass := this
  superClass := sup
  interfaces := ifs
  fields := fds
  methods := ms
  attributes := attrs
def plain (name : String) (sup : Option ClassId) : Class where
  name := name
  kind := .ordinary
  loader := none
  accessFlags := 33
  super := sup
  interfaces := #[]
  cf := none
  fields := #[]
  methods := #[]
  instanceTypes := #[]
  staticTypes := #[]
  resolved := #[]
  callSites := []
  init := .initialized
  statics := none
  mirror := none

def pool0 : Array CpInfo := pool [(5, u "<init>"), (0, u "()V"), (1, .class_ 10), (1, u "java/lang/Object"), (0, u "getClass"), (0, u "()Ljava/lang/Class;"), (14, u "hashCode"), (0, u "()I")] 95

def k0c0 : Code := co 0 1 object_method_1_code
def k0m0 : Method := me "<init>" "()V" [] none 1 (some k0c0)
def k0m1 : Method := me "getClass" "()Ljava/lang/Class;" [] (some (.object "java/lang/Class")) 273 none
def k0m2 : Method := me "hashCode" "()I" [] (some .int) 257 none
def k0 : Class := { plain "java/lang/Object" none with
  accessFlags := 33
  interfaces := #[]
  cf := some (fileOf pool0 8 #[] #[mi 1 5 6, mi 273 11 12, mi 257 27 28] 33 0 #[] #[])
  fields := #[]
  methods := #[k0m0, k0m1, k0m2]
  instanceTypes := #[]
  staticTypes := #[]
  resolved := Array.replicate 124 none
  statics := none }

def pool1 : Array CpInfo := pool [(2, .class_ 4), (0, .nameAndType 5 6), (0, u "java/lang/Object"), (0, u "<init>"), (0, u "()V"), (2, .integer 2147483647), (0, .methodref 11 12), (0, .class_ 13), (0, .nameAndType 14 15), (0, u "java/lang/String"), (0, u "valueOf"), (0, u "(C)Ljava/lang/String;"), (0, .methodref 17 18), (0, .class_ 19), (0, .nameAndType 20 21), (0, u "com/example/doctype_in_dom/doctypeindom/definitions/ContentParticleImpl"), (0, u "name"), (0, u "(Ljava/lang/String;II)Lcom/example/doctype_in_dom/doctypeindom/definitions/ContentParticleImpl;"), (0, .class_ 23), (0, u "java/util/ArrayList"), (0, .methodref 22 3), (0, .interfaceMethodref 26 27), (0, .class_ 28), (0, .nameAndType 29 30), (0, u "java/util/List"), (0, u "add"), (0, u "(Ljava/lang/Object;)Z"), (0, .methodref 17 32), (0, .nameAndType 33 34), (0, u "group"), (0, u "(SLjava/util/List;II)Lcom/example/doctype_in_dom/doctypeindom/definitions/ContentParticleImpl;"), (0, .methodref 17 36), (0, .nameAndType 37 38), (0, u "getParticles"), (0, u "()Ljava/util/List;"), (0, .methodref 17 40), (0, .nameAndType 41 42), (0, u "getParticleType"), (0, u "()S"), (0, .methodref 17 44), (0, .nameAndType 45 46), (0, u "getName"), (0, u "()Ljava/lang/String;"), (0, .methodref 17 48), (0, .nameAndType 49 50), (0, u "getMinOccurs"), (0, u "()I"), (0, .methodref 17 52), (0, .nameAndType 53 50), (0, u "getMaxOccurs"), (0, .interfaceMethodref 26 55), (0, .nameAndType 56 50), (0, u "size"), (0, .interfaceMethodref 26 58), (0, .nameAndType 59 60), (0, u "get"), (0, u "(I)Ljava/lang/Object;"), (0, .methodref 17 62), (0, .nameAndType 63 30), (0, u "equals"), (0, .methodref 17 65), (0, .nameAndType 66 50), (0, u "hashCode"), (0, .class_ 68), (0, u "com/example/doctype_in_dom/doctypeindom/definitions/ContentParticleImplGroupPinLaw"), (2, u "law"), (0, u "(IIIIII)Z")] 3

def k1m0 : Method := me "<init>" "()V" [] none 2 none
def k1c1 : Code := co 4 32 code
def k1m1 : Method := me "law" "(IIIIII)Z" [.int, .int, .int, .int, .int, .int] (some .boolean) 9 (some k1c1)
def k1 : Class := { plain "com/example/doctype_in_dom/doctypeindom/definitions/ContentParticleImplGroupPinLaw" (some 0) with
  accessFlags := 49
  interfaces := #[]
  cf := some (fileOf pool1 67 #[] #[mi 2 5 6, mi 9 71 72] 49 2 #[] #[])
  fields := #[]
  methods := #[k1m0, k1m1]
  instanceTypes := #[]
  staticTypes := #[]
  resolved := Array.replicate 76 none
  statics := none }

def pool2 : Array CpInfo := pool [(1, .class_ 2), (0, u "java/io/Serializable"), (0, .class_ 4), (0, u "java/lang/Object")] 2

def k2 : Class := { plain "java/io/Serializable" (some 0) with
  accessFlags := 1537
  interfaces := #[]
  cf := some (fileOf pool2 1 #[] #[] 1537 3 #[] #[])
  fields := #[]
  methods := #[]
  instanceTypes := #[]
  staticTypes := #[]
  resolved := Array.replicate 7 none
  statics := none }

def pool3 : Array CpInfo := pool [(1, .class_ 2), (0, u "java/lang/Comparable"), (0, .class_ 4), (0, u "java/lang/Object")] 7

def k3 : Class := { plain "java/lang/Comparable" (some 0) with
  accessFlags := 1537
  interfaces := #[]
  cf := some (fileOf pool3 1 #[] #[] 1537 3 #[] #[])
  fields := #[]
  methods := #[]
  instanceTypes := #[]
  staticTypes := #[]
  resolved := Array.replicate 12 none
  statics := none }

def pool4 : Array CpInfo := pool [(2, .class_ 4), (1, u "java/lang/CharSequence"), (42, .class_ 48), (0, u "java/lang/CharSequence$1CodePointIterator"), (10, .class_ 60), (0, u "java/lang/CharSequence$1CharIterator"), (5, .class_ 67), (0, u "java/lang/Object")] 63

def k4 : Class := { plain "java/lang/CharSequence" (some 0) with
  accessFlags := 1537
  interfaces := #[]
  cf := some (fileOf pool4 2 #[.nestMembers #[47, 59]] #[] 1537 66 #[] #[])
  fields := #[]
  methods := #[]
  instanceTypes := #[]
  staticTypes := #[]
  resolved := Array.replicate 131 none
  statics := none }

def pool5 : Array CpInfo := pool [(1, .class_ 2), (0, u "java/lang/constant/Constable"), (0, .class_ 4), (0, u "java/lang/Object")] 6

def k5 : Class := { plain "java/lang/constant/Constable" (some 0) with
  accessFlags := 1537
  interfaces := #[]
  cf := some (fileOf pool5 1 #[] #[] 1537 3 #[] #[])
  fields := #[]
  methods := #[]
  instanceTypes := #[]
  staticTypes := #[]
  resolved := Array.replicate 11 none
  statics := none }

def pool6 : Array CpInfo := pool [(1, .class_ 2), (0, u "java/lang/constant/ConstantDesc"), (0, .class_ 4), (0, u "java/lang/Object")] 32

def k6 : Class := { plain "java/lang/constant/ConstantDesc" (some 0) with
  accessFlags := 1537
  interfaces := #[]
  cf := some (fileOf pool6 1 #[] #[] 1537 3 #[] #[])
  fields := #[]
  methods := #[]
  instanceTypes := #[]
  staticTypes := #[]
  resolved := Array.replicate 37 none
  statics := none }

def pool7 : Array CpInfo := pool [(1, .methodref 2 3), (0, .class_ 4), (0, .nameAndType 5 6), (0, u "java/lang/Object"), (0, u "<init>"), (0, u "()V"), (2, .fieldref 10 11), (0, .class_ 12), (0, .nameAndType 13 14), (0, u "java/lang/String"), (0, u "value"), (0, u "[B"), (0, .fieldref 10 16), (0, .nameAndType 17 18), (0, u "coder"), (0, u "B"), (0, .fieldref 10 20), (0, .nameAndType 21 22), (0, u "hash"), (0, u "I"), (0, .fieldref 10 24), (0, .nameAndType 25 26), (0, u "hashIsZero"), (0, u "Z"), (11, .fieldref 10 39), (0, .nameAndType 40 26), (0, u "COMPACT_STRINGS"), (12, u "toBytes"), (53, .class_ 109), (1, u "java/lang/StringLatin1"), (32, u "()Z"), (66, .methodref 10 210), (0, .nameAndType 5 211), (0, u "([BB)V"), (122, u "()I"), (34, u "(C)Z"), (122, .methodref 10 493), (0, .nameAndType 494 142), (0, u "isLatin1"), (80, .class_ 576), (0, u "java/lang/CharSequence"), (22, u "CASE_INSENSITIVE_ORDER"), (0, u "Ljava/util/Comparator;"), (27, .methodref 107 629), (0, .nameAndType 630 631), (0, u "hashCode"), (0, u "([B)I"), (150, u "valueOf"), (0, u "(C)Ljava/lang/String;"), (231, .methodref 107 1016), (0, .nameAndType 1017 369), (0, u "canEncode"), (0, .methodref 107 1019), (0, .nameAndType 53 1020), (0, u "(C)[B"), (80, u "serialPersistentFields"), (0, u "[Ljava/io/ObjectStreamField;"), (0, .class_ 1104), (0, u "java/lang/String$CaseInsensitiveComparator"), (1, .class_ 1107), (0, u "java/io/Serializable"), (0, .class_ 1109), (0, u "java/lang/Comparable"), (0, .class_ 1111), (0, u "java/lang/constant/Constable"), (0, .class_ 1113), (0, u "java/lang/constant/ConstantDesc"), (2, u "serialVersionUID"), (0, u "J"), (3, u "REPL"), (0, u "C"), (2, u "LATIN1"), (1, u "UTF16")] 323

def k7m0 : Method := me "<init>" "()V" [] none 1 none
def k7c1 : Code := co 2 2 jdk_42_method_78_code
def k7m1 : Method := me "hashCode" "()I" [] (some .int) 1 (some k7c1)
def k7c2 : Code := co 4 1 jdk_42_method_139_code
def k7m2 : Method := me "valueOf" "(C)Ljava/lang/String;" [.char] (some (.object "java/lang/String")) 9 (some k7c2)
def k7c3 : Code := co 2 3 jdk_42_method_151_code
def k7m3 : Method := me "<init>" "([BB)V" [(.array .byte), .byte] none 0 (some k7c3)
def k7c4 : Code := co 1 1 jdk_42_method_154_code
def k7m4 : Method := me "isLatin1" "()Z" [] (some .boolean) 0 (some k7c4)
def k7 : Class := { plain "java/lang/String" (some 0) with
  accessFlags := 49
  interfaces := #[2, 3, 4, 5, 6]
  cf := some (fileOf pool7 10 #[.nestMembers #[1103]] #[mi 1 5 6, mi 1 630 334, mi 9 782 783, mi 0 5 211, mi 0 494 142] 49 2 #[1106, 1108, 575, 1110, 1112] #[fi 18 13 14, fi 18 17 18, fi 2 21 22, fi 2 25 26, fi 26 1116 1117, fi 24 40 26, fi 26 1101 1102, fi 26 1121 1122, fi 25 599 600, fi 24 1125 18, fi 24 1127 18])
  fields := #[fd "value" (.array .byte) 18 0, fd "coder" .byte 18 1, fd "hash" .int 2 2, fd "hashIsZero" .boolean 2 3, fd "serialVersionUID" .long 26 0, fd "COMPACT_STRINGS" .boolean 24 1, fd "serialPersistentFields" (.array (.object "java/io/ObjectStreamField")) 26 2, fd "REPL" .char 26 3, fd "CASE_INSENSITIVE_ORDER" (.object "java/util/Comparator") 25 4, fd "LATIN1" .byte 24 5, fd "UTF16" .byte 24 6]
  methods := #[k7m0, k7m1, k7m2, k7m3, k7m4]
  instanceTypes := #[(.array .byte), .byte, .int, .boolean]
  staticTypes := #[.long, .boolean, (.array (.object "java/io/ObjectStreamField")), .char, (.object "java/util/Comparator"), .byte, .byte]
  resolved := Array.replicate 1451 none
  statics := some 0 }

def pool8 : Array CpInfo := pool [(4, .class_ 6), (1, u "java/lang/Object"), (0, u "<init>"), (0, u "()V"), (5, .class_ 16), (1, u "java/lang/StringLatin1"), (40, u "([B)I"), (32, u "canEncode"), (14, u "(C)Z"), (15, u "$assertionsDisabled"), (0, u "Z"), (98, .class_ 223), (1, u "java/lang/StringLatin1$LinesSpliterator"), (74, u "hashCode"), (81, u "toBytes"), (1, u "(C)[B"), (7, .class_ 391), (0, u "java/lang/StringLatin1$CharsSpliterator")] 3

def k8m0 : Method := me "<init>" "()V" [] none 0 none
def k8c1 : Code := co 2 1 jdk_43_method_3_code
def k8m1 : Method := me "canEncode" "(C)Z" [.char] (some .boolean) 9 (some k8c1)
def k8c2 : Code := co 5 1 jdk_43_method_21_code
def k8m2 : Method := me "hashCode" "([B)I" [(.array .byte)] (some .int) 9 (some k8c2)
def k8c3 : Code := co 4 1 jdk_43_method_46_code
def k8m3 : Method := me "toBytes" "(C)[B" [.char] (some (.array .byte)) 9 (some k8c3)
def k8 : Class := { plain "java/lang/StringLatin1" (some 0) with
  accessFlags := 48
  interfaces := #[]
  cf := some (fileOf pool8 14 #[.nestMembers #[390, 221]] #[mi 0 7 8, mi 9 90 105, mi 9 298 57, mi 9 380 382] 48 4 #[] #[fi 4120 121 122])
  fields := #[fd "$assertionsDisabled" .boolean 4120 0]
  methods := #[k8m0, k8m1, k8m2, k8m3]
  instanceTypes := #[]
  staticTypes := #[.boolean]
  resolved := Array.replicate 395 none
  statics := none }

def pool9 : Array CpInfo := pool [(1, .class_ 2), (0, u "com/example/doctype_in_dom/doctypeindom/definitions/ContentParticle"), (0, .class_ 4), (0, u "java/lang/Object"), (0, u "NAME_PARTICLE"), (0, u "S"), (2, u "SEQUENCE_PARTICLE"), (1, u "CHOICE_PARTICLE"), (1, u "UNBOUNDED"), (0, u "I")] 14

def k9 : Class := { plain "com/example/doctype_in_dom/doctypeindom/definitions/ContentParticle" (some 0) with
  accessFlags := 1537
  interfaces := #[]
  cf := some (fileOf pool9 1 #[] #[] 1537 3 #[] #[fi 25 5 6, fi 25 9 6, fi 25 11 6, fi 25 13 14])
  fields := #[fd "NAME_PARTICLE" .short 25 0, fd "SEQUENCE_PARTICLE" .short 25 1, fd "CHOICE_PARTICLE" .short 25 2, fd "UNBOUNDED" .int 25 3]
  methods := #[]
  instanceTypes := #[]
  staticTypes := #[.short, .short, .short, .int]
  resolved := Array.replicate 29 none
  statics := none }

def pool10 : Array CpInfo := pool [(1, .methodref 2 3), (0, .class_ 4), (0, .nameAndType 5 6), (0, u "java/lang/Object"), (0, u "<init>"), (0, u "()V"), (0, .fieldref 8 9), (0, .class_ 10), (0, .nameAndType 11 12), (0, u "com/example/doctype_in_dom/doctypeindom/definitions/ContentParticleImpl"), (0, u "type"), (0, u "S"), (0, .fieldref 8 14), (0, .nameAndType 15 16), (0, u "name"), (0, u "Ljava/lang/String;"), (0, .fieldref 8 18), (0, .nameAndType 19 20), (0, u "minOccurs"), (0, u "I"), (0, .fieldref 8 22), (0, .nameAndType 23 20), (0, u "maxOccurs"), (0, .fieldref 8 25), (0, .nameAndType 26 27), (0, u "particles"), (0, u "Ljava/util/List;"), (0, .methodref 29 30), (0, .class_ 31), (0, .nameAndType 32 33), (0, u "java/util/Objects"), (0, u "hashCode"), (0, u "(Ljava/lang/Object;)I"), (0, .interfaceMethodref 35 36), (0, .class_ 37), (0, .nameAndType 38 39), (0, u "java/util/List"), (0, u "iterator"), (0, u "()Ljava/util/Iterator;"), (0, .interfaceMethodref 41 42), (0, .class_ 43), (0, .nameAndType 44 45), (0, u "java/util/Iterator"), (0, u "hasNext"), (0, u "()Z"), (0, .interfaceMethodref 41 47), (0, .nameAndType 48 49), (0, u "next"), (0, u "()Ljava/lang/Object;"), (0, .class_ 51), (0, u "com/example/doctype_in_dom/doctypeindom/definitions/ContentParticle"), (0, .interfaceMethodref 50 53), (0, .nameAndType 32 54), (0, u "()I"), (0, .fieldref 8 56), (0, .nameAndType 57 20), (0, u "hash"), (0, .interfaceMethodref 35 59), (0, .nameAndType 60 61), (0, u "of"), (0, u "()Ljava/util/List;"), (0, .methodref 8 63), (0, .nameAndType 5 64), (0, u "(SLjava/lang/String;IILjava/util/List;)V"), (0, .methodref 66 67), (0, .class_ 68), (0, .nameAndType 69 70), (0, u "java/util/Collections"), (0, u "unmodifiableList"), (0, u "(Ljava/util/List;)Ljava/util/List;"), (0, .class_ 72), (0, u "java/util/ArrayDeque"), (0, .methodref 71 3), (0, .interfaceMethodref 75 76), (0, .class_ 77), (0, .nameAndType 78 79), (0, u "java/util/Deque"), (0, u "push"), (0, u "(Ljava/lang/Object;)V"), (0, .interfaceMethodref 75 81), (0, .nameAndType 82 45), (0, u "isEmpty"), (0, .interfaceMethodref 75 84), (0, .nameAndType 85 49), (0, u "pop"), (0, .methodref 8 87), (0, .nameAndType 88 89), (0, u "equalsApartFromMembers"), (0, u "(Lcom/example/doctype_in_dom/doctypeindom/definitions/ContentParticleImpl;)Z"), (0, .interfaceMethodref 35 91), (0, .nameAndType 92 54), (0, u "size"), (0, .interfaceMethodref 35 94), (0, .nameAndType 95 96), (0, u "get"), (0, u "(I)Ljava/lang/Object;"), (0, .methodref 29 98), (0, .nameAndType 99 100), (0, u "equals"), (0, u "(Ljava/lang/Object;Ljava/lang/Object;)Z"), (8, u "(Ljava/lang/String;II)Lcom/example/doctype_in_dom/doctypeindom/definitions/ContentParticleImpl;"), (0, u "group"), (0, u "(SLjava/util/List;II)Lcom/example/doctype_in_dom/doctypeindom/definitions/ContentParticleImpl;"), (1, u "getParticleType"), (0, u "()S"), (0, u "getName"), (0, u "()Ljava/lang/String;"), (0, u "getMinOccurs"), (0, u "getMaxOccurs"), (0, u "getParticles"), (1, u "(Ljava/lang/Object;)Z")] 2

def k10c0 : Code := co 3 9 prog_3_method_1_code
def k10m0 : Method := me "<init>" "(SLjava/lang/String;IILjava/util/List;)V" [.short, (.object "java/lang/String"), .int, .int, (.object "java/util/List")] none 2 (some k10c0)
def k10c1 : Code := co 7 3 prog_3_method_2_code
def k10m1 : Method := me "name" "(Ljava/lang/String;II)Lcom/example/doctype_in_dom/doctypeindom/definitions/ContentParticleImpl;" [(.object "java/lang/String"), .int, .int] (some (.object "com/example/doctype_in_dom/doctypeindom/definitions/ContentParticleImpl")) 8 (some k10c1)
def k10c2 : Code := co 7 4 prog_3_method_3_code
def k10m2 : Method := me "group" "(SLjava/util/List;II)Lcom/example/doctype_in_dom/doctypeindom/definitions/ContentParticleImpl;" [.short, (.object "java/util/List"), .int, .int] (some (.object "com/example/doctype_in_dom/doctypeindom/definitions/ContentParticleImpl")) 8 (some k10c2)
def k10c3 : Code := co 1 1 prog_3_method_4_code
def k10m3 : Method := me "getParticleType" "()S" [] (some .short) 1 (some k10c3)
def k10c4 : Code := co 1 1 prog_3_method_5_code
def k10m4 : Method := me "getName" "()Ljava/lang/String;" [] (some (.object "java/lang/String")) 1 (some k10c4)
def k10c5 : Code := co 1 1 prog_3_method_6_code
def k10m5 : Method := me "getMinOccurs" "()I" [] (some .int) 1 (some k10c5)
def k10c6 : Code := co 1 1 prog_3_method_7_code
def k10m6 : Method := me "getMaxOccurs" "()I" [] (some .int) 1 (some k10c6)
def k10c7 : Code := co 1 1 prog_3_method_8_code
def k10m7 : Method := me "getParticles" "()Ljava/util/List;" [] (some (.object "java/util/List")) 1 (some k10c7)
def k10c8 : Code := co 3 7 prog_3_method_9_code
def k10m8 : Method := me "equals" "(Ljava/lang/Object;)Z" [(.object "java/lang/Object")] (some .boolean) 1 (some k10c8)
def k10c9 : Code := co 2 2 prog_3_method_10_code
def k10m9 : Method := me "equalsApartFromMembers" "(Lcom/example/doctype_in_dom/doctypeindom/definitions/ContentParticleImpl;)Z" [(.object "com/example/doctype_in_dom/doctypeindom/definitions/ContentParticleImpl")] (some .boolean) 2 (some k10c9)
def k10c10 : Code := co 1 1 prog_3_method_11_code
def k10m10 : Method := me "hashCode" "()I" [] (some .int) 1 (some k10c10)
def k10 : Class := { plain "com/example/doctype_in_dom/doctypeindom/definitions/ContentParticleImpl" (some 0) with
  accessFlags := 48
  interfaces := #[9]
  cf := some (fileOf pool10 8 #[] #[mi 2 5 64, mi 8 15 109, mi 8 110 111, mi 1 113 114, mi 1 115 116, mi 1 117 54, mi 1 118 54, mi 1 119 61, mi 1 99 121, mi 2 88 89, mi 1 32 54] 48 2 #[50] #[fi 18 11 12, fi 18 15 16, fi 18 19 20, fi 18 23 20, fi 18 26 27, fi 18 57 20])
  fields := #[fd "type" .short 18 0, fd "name" (.object "java/lang/String") 18 1, fd "minOccurs" .int 18 2, fd "maxOccurs" .int 18 3, fd "particles" (.object "java/util/List") 18 4, fd "hash" .int 18 5]
  methods := #[k10m0, k10m1, k10m2, k10m3, k10m4, k10m5, k10m6, k10m7, k10m8, k10m9, k10m10]
  instanceTypes := #[.short, (.object "java/lang/String"), .int, .int, (.object "java/util/List"), .int]
  staticTypes := #[]
  resolved := Array.replicate 124 none
  statics := none }

def pool11 : Array CpInfo := pool [(8, .class_ 10), (1, u "java/lang/Iterable"), (24, .class_ 36), (0, u "java/lang/Object")] 25

def k11 : Class := { plain "java/lang/Iterable" (some 0) with
  accessFlags := 1537
  interfaces := #[]
  cf := some (fileOf pool11 8 #[] #[] 1537 35 #[] #[])
  fields := #[]
  methods := #[]
  instanceTypes := #[]
  staticTypes := #[]
  resolved := Array.replicate 62 none
  statics := none }

def pool12 : Array CpInfo := pool [(10, .class_ 12), (1, u "java/util/Collection"), (10, u "iterator"), (0, u "()Ljava/util/Iterator;"), (5, u "()Z"), (29, .class_ 61), (0, u "java/lang/Object"), (0, .class_ 63), (0, u "java/lang/Iterable"), (0, u "size"), (0, u "()I"), (0, u "isEmpty")] 48

def k12m0 : Method := me "size" "()I" [] (some .int) 1025 none
def k12m1 : Method := me "isEmpty" "()Z" [] (some .boolean) 1025 none
def k12m2 : Method := me "iterator" "()Ljava/util/Iterator;" [] (some (.object "java/util/Iterator")) 1025 none
def k12 : Class := { plain "java/util/Collection" (some 0) with
  accessFlags := 1537
  interfaces := #[11]
  cf := some (fileOf pool12 10 #[] #[mi 1025 64 65, mi 1025 66 30, mi 1025 23 24] 1537 60 #[62] #[])
  fields := #[]
  methods := #[k12m0, k12m1, k12m2]
  instanceTypes := #[]
  staticTypes := #[]
  resolved := Array.replicate 115 none
  statics := none }

def pool13 : Array CpInfo := pool [(8, .class_ 10), (1, u "java/util/SequencedCollection"), (15, .class_ 27), (0, u "java/lang/Object"), (0, .class_ 29), (0, u "java/util/Collection")] 27

def k13 : Class := { plain "java/util/SequencedCollection" (some 0) with
  accessFlags := 1537
  interfaces := #[12]
  cf := some (fileOf pool13 8 #[] #[] 1537 26 #[28] #[])
  fields := #[]
  methods := #[]
  instanceTypes := #[]
  staticTypes := #[]
  resolved := Array.replicate 57 none
  statics := none }

def pool14 : Array CpInfo := pool [(8, .class_ 10), (1, u "java/util/List"), (49, u "add"), (3, u "(Ljava/lang/Object;)Z"), (10, u "get"), (0, u "(I)Ljava/lang/Object;"), (2, u "size"), (0, u "()I"), (7, u "of"), (1, .fieldref 91 92), (0, .class_ 93), (0, .nameAndType 94 95), (0, u "java/util/ImmutableCollections"), (0, u "EMPTY_LIST"), (0, u "Ljava/util/ImmutableCollections$ListN;"), (7, .class_ 104), (0, u "java/lang/Object"), (14, u "()Ljava/util/List;"), (0, .class_ 121), (0, u "java/util/SequencedCollection"), (1, u "iterator"), (0, u "()Ljava/util/Iterator;")] 126

def k14m0 : Method := me "size" "()I" [] (some .int) 1025 none
def k14m1 : Method := me "iterator" "()Ljava/util/Iterator;" [] (some (.object "java/util/Iterator")) 1025 none
def k14m2 : Method := me "add" "(Ljava/lang/Object;)Z" [(.object "java/lang/Object")] (some .boolean) 1025 none
def k14m3 : Method := me "get" "(I)Ljava/lang/Object;" [.int] (some (.object "java/lang/Object")) 1025 none
def k14c4 : Code := co 1 0 jdk_40_method_36_code
def k14m4 : Method := me "of" "()Ljava/util/List;" [] (some (.object "java/util/List")) 9 (some k14c4)
def k14 : Class := { plain "java/util/List" (some 0) with
  accessFlags := 1537
  interfaces := #[13]
  cf := some (fileOf pool14 8 #[] #[mi 1025 79 80, mi 1025 123 124, mi 1025 60 64, mi 1025 75 76, mi 9 88 119] 1537 103 #[120] #[])
  fields := #[]
  methods := #[k14m0, k14m1, k14m2, k14m3, k14m4]
  instanceTypes := #[]
  staticTypes := #[]
  resolved := Array.replicate 251 none
  statics := none }

def pool15 : Array CpInfo := pool [(2, .class_ 4), (1, u "java/lang/Object"), (0, u "<init>"), (0, u "()V"), (3, .class_ 11), (0, u "java/util/ImmutableCollections$List12"), (0, .class_ 13), (0, u "java/util/ImmutableCollections$ListN"), (3, u "Z"), (29, .class_ 49), (1, u "java/util/ImmutableCollections"), (0, u "$assertionsDisabled"), (5, u "[Ljava/lang/Object;"), (5, u "EMPTY_LIST"), (0, u "Ljava/util/ImmutableCollections$ListN;"), (8, u "EMPTY_LIST_NULLS"), (22, u "SALT32L"), (0, u "J"), (2, u "REVERSE"), (6, u "archivedObjects"), (2, u "EMPTY"), (0, u "Ljava/lang/Object;"), (0, .class_ 112), (0, u "java/util/ImmutableCollections$SetN"), (5, u "EMPTY_SET"), (0, u "Ljava/util/ImmutableCollections$SetN;"), (0, .class_ 121), (0, u "java/util/ImmutableCollections$MapN"), (3, u "EMPTY_MAP"), (0, u "Ljava/util/ImmutableCollections$MapN;"), (4, u "EXPAND_FACTOR"), (0, u "I"), (36, .class_ 170), (0, u "java/util/ImmutableCollections$MapN$MapNIterator"), (0, .class_ 172), (0, u "java/util/ImmutableCollections$MapN$1"), (0, .class_ 174), (0, u "java/util/ImmutableCollections$Map1"), (0, .class_ 176), (0, u "java/util/ImmutableCollections$AbstractImmutableMap"), (0, .class_ 178), (0, u "java/util/ImmutableCollections$SetN$SetNIterator"), (0, .class_ 180), (0, u "java/util/ImmutableCollections$Set12"), (0, .class_ 182), (0, u "java/util/ImmutableCollections$Set12$1"), (0, .class_ 184), (0, u "java/util/ImmutableCollections$AbstractImmutableSet"), (0, .class_ 186), (0, u "java/util/ImmutableCollections$SubList"), (0, .class_ 188), (0, u "java/util/ImmutableCollections$ListItr"), (0, .class_ 190), (0, u "java/util/ImmutableCollections$AbstractImmutableList"), (0, .class_ 192), (0, u "java/util/ImmutableCollections$AbstractImmutableCollection"), (0, .class_ 194), (0, u "java/util/ImmutableCollections$Access"), (0, .class_ 196), (0, u "java/util/ImmutableCollections$Access$1")] 16

def k15m0 : Method := me "<init>" "()V" [] none 2 none
def k15 : Class := { plain "java/util/ImmutableCollections" (some 0) with
  accessFlags := 32
  interfaces := #[]
  cf := some (fileOf pool15 47 #[.nestMembers #[120, 169, 171, 173, 175, 111, 177, 179, 181, 183, 12, 10, 185, 187, 189, 191, 193, 195]] #[mi 2 5 6] 32 2 #[] #[fi 26 95 96, fi 26 99 17, fi 10 106 56, fi 26 109 110, fi 24 62 63, fi 24 72 63, fi 24 118 119, fi 24 125 126, fi 24 131 132, fi 4120 50 17])
  fields := #[fd "SALT32L" .long 26 0, fd "REVERSE" .boolean 26 1, fd "archivedObjects" (.array (.object "java/lang/Object")) 10 2, fd "EMPTY" (.object "java/lang/Object") 26 3, fd "EMPTY_LIST" (.object "java/util/ImmutableCollections$ListN") 24 4, fd "EMPTY_LIST_NULLS" (.object "java/util/ImmutableCollections$ListN") 24 5, fd "EMPTY_SET" (.object "java/util/ImmutableCollections$SetN") 24 6, fd "EMPTY_MAP" (.object "java/util/ImmutableCollections$MapN") 24 7, fd "EXPAND_FACTOR" .int 24 8, fd "$assertionsDisabled" .boolean 4120 9]
  methods := #[k15m0]
  instanceTypes := #[]
  staticTypes := #[.long, .boolean, (.array (.object "java/lang/Object")), (.object "java/lang/Object"), (.object "java/util/ImmutableCollections$ListN"), (.object "java/util/ImmutableCollections$ListN"), (.object "java/util/ImmutableCollections$SetN"), (.object "java/util/ImmutableCollections$MapN"), .int, .boolean]
  resolved := Array.replicate 213 none
  statics := some 1 }

def pool16 : Array CpInfo := pool [(2, .class_ 4), (1, u "java/lang/Object"), (0, u "<init>"), (0, u "()V"), (9, u "equals"), (6, u "(Ljava/lang/Object;Ljava/lang/Object;)Z"), (0, .methodref 2 25), (0, .nameAndType 26 27), (0, u "hashCode"), (0, u "()I"), (14, .class_ 44), (1, u "java/util/Objects"), (25, u "(Ljava/lang/Object;)I"), (34, .methodref 106 107), (0, .class_ 108), (0, .nameAndType 109 110), (0, u "jdk/internal/util/Preconditions"), (0, u "checkIndex"), (0, u "(IILjava/util/function/BiFunction;)I"), (60, u "(II)I")] 12

def k16m0 : Method := me "<init>" "()V" [] none 2 none
def k16c1 : Code := co 2 2 jdk_31_method_2_code
def k16m1 : Method := me "equals" "(Ljava/lang/Object;Ljava/lang/Object;)Z" [(.object "java/lang/Object"), (.object "java/lang/Object")] (some .boolean) 9 (some k16c1)
def k16c2 : Code := co 1 1 jdk_31_method_4_code
def k16m2 : Method := me "hashCode" "(Ljava/lang/Object;)I" [(.object "java/lang/Object")] (some .int) 9 (some k16c2)
def k16c3 : Code := co 3 2 jdk_31_method_17_code
def k16m3 : Method := me "checkIndex" "(II)I" [.int, .int] (some .int) 9 (some k16c3)
def k16 : Class := { plain "java/util/Objects" (some 0) with
  accessFlags := 49
  interfaces := #[]
  cf := some (fileOf pool16 42 #[] #[mi 2 5 6, mi 9 16 23, mi 9 26 70, mi 9 109 171] 49 2 #[] #[])
  fields := #[]
  methods := #[k16m0, k16m1, k16m2, k16m3]
  instanceTypes := #[]
  staticTypes := #[]
  resolved := Array.replicate 184 none
  statics := none }

def pool17 : Array CpInfo := pool [(1, .methodref 2 3), (0, .class_ 4), (0, .nameAndType 5 6), (0, u "java/lang/Object"), (0, u "<init>"), (0, u "()V"), (1, .class_ 10), (1, u "java/util/AbstractCollection"), (0, u "size"), (0, u "()I"), (64, .class_ 78), (0, u "java/util/Collection")] 81

def k17c0 : Code := co 1 1 jdk_22_method_1_code
def k17m0 : Method := me "<init>" "()V" [] none 4 (some k17c0)
def k17m1 : Method := me "size" "()I" [] (some .int) 1025 none
def k17 : Class := { plain "java/util/AbstractCollection" (some 0) with
  accessFlags := 1057
  interfaces := #[12]
  cf := some (fileOf pool17 8 #[] #[mi 4 5 6, mi 1025 11 12] 1057 2 #[77] #[])
  fields := #[]
  methods := #[k17m0, k17m1]
  instanceTypes := #[]
  staticTypes := #[]
  resolved := Array.replicate 160 none
  statics := none }

def pool18 : Array CpInfo := pool [(2, .class_ 4), (1, u "java/util/AbstractCollection"), (0, u "<init>"), (0, u "()V"), (1, .class_ 10), (1, u "java/util/ImmutableCollections"), (2, .class_ 14), (0, u "java/util/ImmutableCollections$AbstractImmutableCollection")] 41

def k18m0 : Method := me "<init>" "()V" [] none 0 none
def k18 : Class := { plain "java/util/ImmutableCollections$AbstractImmutableCollection" (some 17) with
  accessFlags := 1056
  interfaces := #[]
  cf := some (fileOf pool18 13 #[.nestHost 8] #[mi 0 5 6] 1056 2 #[] #[])
  fields := #[]
  methods := #[k18m0]
  instanceTypes := #[]
  staticTypes := #[]
  resolved := Array.replicate 56 none
  statics := none }

def pool19 : Array CpInfo := pool [(1, .class_ 2), (0, u "java/util/RandomAccess"), (0, .class_ 4), (0, u "java/lang/Object")] 2

def k19 : Class := { plain "java/util/RandomAccess" (some 0) with
  accessFlags := 1537
  interfaces := #[]
  cf := some (fileOf pool19 1 #[] #[] 1537 3 #[] #[])
  fields := #[]
  methods := #[]
  instanceTypes := #[]
  staticTypes := #[]
  resolved := Array.replicate 7 none
  statics := none }

def pool20 : Array CpInfo := pool [(2, .class_ 4), (1, u "java/util/ImmutableCollections$AbstractImmutableCollection"), (0, u "<init>"), (0, u "()V"), (1, .class_ 10), (1, u "java/util/ImmutableCollections"), (2, .methodref 14 15), (0, .class_ 16), (0, .nameAndType 17 18), (0, u "java/util/ImmutableCollections$AbstractImmutableList"), (0, u "size"), (0, u "()I"), (42, .class_ 62), (0, u "java/util/ImmutableCollections$ListItr"), (0, .methodref 61 64), (0, .nameAndType 5 65), (0, u "(Ljava/util/List;I)V"), (11, .class_ 78), (0, u "java/util/List"), (2, u "iterator"), (0, u "()Ljava/util/Iterator;"), (41, .class_ 125), (0, u "java/util/RandomAccess")] 70

def k20m0 : Method := me "<init>" "()V" [] none 0 none
def k20c1 : Code := co 4 1 jdk_46_method_10_code
def k20m1 : Method := me "iterator" "()Ljava/util/Iterator;" [] (some (.object "java/util/Iterator")) 1 (some k20c1)
def k20 : Class := { plain "java/util/ImmutableCollections$AbstractImmutableList" (some 18) with
  accessFlags := 1056
  interfaces := #[14, 19]
  cf := some (fileOf pool20 14 #[.nestHost 8] #[mi 0 5 6, mi 1 81 82] 1056 2 #[77, 124] #[])
  fields := #[]
  methods := #[k20m0, k20m1]
  instanceTypes := #[]
  staticTypes := #[]
  resolved := Array.replicate 196 none
  statics := none }

def pool21 : Array CpInfo := pool [(2, .class_ 4), (1, u "java/util/ImmutableCollections$AbstractImmutableList"), (2, .fieldref 8 9), (0, .class_ 10), (0, .nameAndType 11 12), (0, u "java/util/ImmutableCollections$ListN"), (0, u "elements"), (0, u "[Ljava/lang/Object;"), (2, u "allowNulls"), (0, u "Z"), (42, .class_ 60), (0, u "java/io/Serializable"), (16, u "size"), (0, u "()I"), (35, .class_ 115), (0, u "java/util/ImmutableCollections")] 3

def k21c0 : Code := co 1 1 jdk_45_method_3_code
def k21m0 : Method := me "size" "()I" [] (some .int) 1 (some k21c0)
def k21 : Class := { plain "java/util/ImmutableCollections$ListN" (some 20) with
  accessFlags := 48
  interfaces := #[2]
  cf := some (fileOf pool21 8 #[.nestHost 114] #[mi 1 77 78] 48 2 #[59] #[fi 18 11 12, fi 18 15 16])
  fields := #[fd "elements" (.array (.object "java/lang/Object")) 18 0, fd "allowNulls" .boolean 18 1]
  methods := #[k21m0]
  instanceTypes := #[(.array (.object "java/lang/Object")), .boolean]
  staticTypes := #[]
  resolved := Array.replicate 119 none
  statics := none }

def pool22 : Array CpInfo := pool [(16, .class_ 18), (1, u "java/util/Iterator"), (0, u "hasNext"), (0, u "()Z"), (2, u "next"), (0, u "()Ljava/lang/Object;"), (6, .class_ 32), (0, u "java/lang/Object")] 20

def k22m0 : Method := me "hasNext" "()Z" [] (some .boolean) 1025 none
def k22m1 : Method := me "next" "()Ljava/lang/Object;" [] (some (.object "java/lang/Object")) 1025 none
def k22 : Class := { plain "java/util/Iterator" (some 0) with
  accessFlags := 1537
  interfaces := #[]
  cf := some (fileOf pool22 16 #[] #[mi 1025 19 20, mi 1025 23 24] 1537 31 #[] #[])
  fields := #[]
  methods := #[k22m0, k22m1]
  instanceTypes := #[]
  staticTypes := #[]
  resolved := Array.replicate 53 none
  statics := none }

def pool23 : Array CpInfo := pool [(1, .class_ 2), (0, u "java/util/ListIterator"), (0, .class_ 4), (0, u "java/lang/Object"), (0, .class_ 6), (0, u "java/util/Iterator")] 20

def k23 : Class := { plain "java/util/ListIterator" (some 0) with
  accessFlags := 1537
  interfaces := #[22]
  cf := some (fileOf pool23 1 #[] #[] 1537 3 #[5] #[])
  fields := #[]
  methods := #[]
  instanceTypes := #[]
  staticTypes := #[]
  resolved := Array.replicate 27 none
  statics := none }

def pool24 : Array CpInfo := pool [(1, .methodref 2 3), (0, .class_ 4), (0, .nameAndType 5 6), (0, u "java/lang/Object"), (0, u "<init>"), (0, u "()V"), (0, .fieldref 8 9), (0, .class_ 10), (0, .nameAndType 11 12), (0, u "java/util/ImmutableCollections$ListItr"), (0, u "list"), (0, u "Ljava/util/List;"), (0, .fieldref 8 14), (0, .nameAndType 15 16), (0, u "size"), (0, u "I"), (0, .fieldref 8 18), (0, .nameAndType 19 16), (0, u "cursor"), (0, .fieldref 8 21), (0, .nameAndType 22 23), (0, u "isListIterator"), (0, u "Z"), (12, .class_ 38), (1, u "java/util/ImmutableCollections"), (2, .class_ 42), (0, u "java/util/ListIterator"), (4, u "(Ljava/util/List;I)V"), (11, u "hasNext"), (0, u "()Z")] 25

def k24c0 : Code := co 2 3 jdk_53_method_1_code
def k24m0 : Method := me "<init>" "(Ljava/util/List;I)V" [(.object "java/util/List"), .int] none 0 (some k24c0)
def k24c1 : Code := co 2 1 jdk_53_method_3_code
def k24m1 : Method := me "hasNext" "()Z" [] (some .boolean) 1 (some k24c1)
def k24 : Class := { plain "java/util/ImmutableCollections$ListItr" (some 0) with
  accessFlags := 48
  interfaces := #[23]
  cf := some (fileOf pool24 8 #[.nestHost 36] #[mi 0 5 47, mi 1 59 60] 48 2 #[41] #[fi 18 11 12, fi 18 15 16, fi 18 22 23, fi 2 19 16])
  fields := #[fd "list" (.object "java/util/List") 18 0, fd "size" .int 18 1, fd "isListIterator" .boolean 18 2, fd "cursor" .int 2 3]
  methods := #[k24m0, k24m1]
  instanceTypes := #[(.object "java/util/List"), .int, .boolean, .int]
  staticTypes := #[]
  resolved := Array.replicate 86 none
  statics := none }

def pool25 : Array CpInfo := pool [(1, .methodref 2 3), (0, .class_ 4), (0, .nameAndType 5 6), (0, u "java/util/AbstractCollection"), (0, u "<init>"), (0, u "()V"), (0, .fieldref 8 9), (0, .class_ 10), (0, .nameAndType 11 12), (0, u "java/util/AbstractList"), (0, u "modCount"), (0, u "I"), (64, .class_ 78), (0, u "java/util/AbstractList$Itr"), (3, .class_ 83), (0, u "java/util/AbstractList$ListItr"), (9, .class_ 94), (0, u "java/util/AbstractList$RandomAccessSubList"), (3, .class_ 99), (0, u "java/util/AbstractList$SubList"), (33, .class_ 134), (0, u "java/util/List"), (73, .class_ 209), (0, u "java/util/AbstractList$SubList$1"), (0, .class_ 211), (0, u "java/util/AbstractList$RandomAccessSpliterator")] 6

def k25c0 : Code := co 2 1 jdk_39_method_1_code
def k25m0 : Method := me "<init>" "()V" [] none 4 (some k25c0)
def k25 : Class := { plain "java/util/AbstractList" (some 17) with
  accessFlags := 1057
  interfaces := #[14]
  cf := some (fileOf pool25 8 #[.nestMembers #[93, 98, 208, 210, 82, 77]] #[mi 4 5 6] 1057 2 #[133] #[fi 132 11 12])
  fields := #[fd "modCount" .int 132 0]
  methods := #[k25m0]
  instanceTypes := #[.int]
  staticTypes := #[]
  resolved := Array.replicate 218 none
  statics := none }

def pool26 : Array CpInfo := pool [(1, .class_ 2), (0, u "java/lang/Cloneable"), (0, .class_ 4), (0, u "java/lang/Object")] 2

def k26 : Class := { plain "java/lang/Cloneable" (some 0) with
  accessFlags := 1537
  interfaces := #[]
  cf := some (fileOf pool26 1 #[] #[] 1537 3 #[] #[])
  fields := #[]
  methods := #[]
  instanceTypes := #[]
  staticTypes := #[]
  resolved := Array.replicate 7 none
  statics := none }

def pool27 : Array CpInfo := pool [(1, .methodref 2 3), (0, .class_ 4), (0, .nameAndType 5 6), (0, u "java/util/AbstractList"), (0, u "<init>"), (0, u "()V"), (0, .class_ 8), (0, u "java/lang/Object"), (0, .fieldref 10 11), (0, .class_ 12), (0, .nameAndType 13 14), (0, u "java/util/ArrayList"), (0, u "elementData"), (0, u "[Ljava/lang/Object;"), (2, u "EMPTY_ELEMENTDATA"), (21, .fieldref 10 40), (0, .nameAndType 41 14), (0, u "DEFAULTCAPACITY_EMPTY_ELEMENTDATA"), (5, u "()[Ljava/lang/Object;"), (0, .fieldref 10 49), (0, .nameAndType 50 51), (0, u "size"), (0, u "I"), (11, .fieldref 10 64), (0, .nameAndType 65 51), (0, u "modCount"), (3, .methodref 10 70), (0, .nameAndType 71 72), (0, u "grow"), (0, u "(I)[Ljava/lang/Object;"), (6, .methodref 80 81), (0, .class_ 82), (0, .nameAndType 83 84), (0, u "java/lang/Math"), (0, u "max"), (0, u "(II)I"), (11, u "(Ljava/lang/Object;)Z"), (21, .methodref 119 120), (0, .class_ 121), (0, .nameAndType 122 84), (0, u "java/util/Objects"), (0, u "checkIndex"), (0, .methodref 10 124), (0, .nameAndType 13 125), (0, u "(I)Ljava/lang/Object;"), (3, .methodref 10 130), (0, .nameAndType 71 47), (0, .methodref 10 132), (0, .nameAndType 133 134), (0, u "add"), (0, u "(Ljava/lang/Object;[Ljava/lang/Object;I)V"), (13, .class_ 149), (0, u "java/util/List"), (16, u "iterator"), (0, u "()Ljava/util/Iterator;"), (18, u "()I"), (75, .class_ 263), (0, u "java/util/ArrayList$ListItr"), (3, .class_ 268), (0, u "java/util/ArrayList$Itr"), (0, .methodref 267 270), (0, .nameAndType 5 271), (0, u "(Ljava/util/ArrayList;)V"), (4, .class_ 277), (0, u "java/util/ArrayList$SubList"), (12, .class_ 291), (0, u "java/util/ArrayList$ArrayListSpliterator"), (37, .class_ 330), (0, u "java/util/RandomAccess"), (0, .class_ 332), (0, u "java/lang/Cloneable"), (0, .class_ 334), (0, u "java/io/Serializable"), (0, u "serialVersionUID"), (0, u "J"), (3, u "DEFAULT_CAPACITY"), (40, u "get"), (118, .class_ 501), (0, u "java/util/ArrayList$SubList$2"), (0, .class_ 503), (0, u "java/util/ArrayList$SubList$1")] 5

def k27c0 : Code := co 2 1 jdk_38_method_2_code
def k27m0 : Method := me "<init>" "()V" [] none 1 (some k27c0)
def k27c1 : Code := co 4 4 jdk_38_method_6_code
def k27m1 : Method := me "grow" "(I)[Ljava/lang/Object;" [.int] (some (.array (.object "java/lang/Object"))) 2 (some k27c1)
def k27c2 : Code := co 3 1 jdk_38_method_7_code
def k27m2 : Method := me "grow" "()[Ljava/lang/Object;" [] (some (.array (.object "java/lang/Object"))) 2 (some k27c2)
def k27c3 : Code := co 1 1 jdk_38_method_8_code
def k27m3 : Method := me "size" "()I" [] (some .int) 1 (some k27c3)
def k27c4 : Code := co 2 2 jdk_38_method_18_code
def k27m4 : Method := me "elementData" "(I)Ljava/lang/Object;" [.int] (some (.object "java/lang/Object")) 0 (some k27c4)
def k27c5 : Code := co 2 2 jdk_38_method_20_code
def k27m5 : Method := me "get" "(I)Ljava/lang/Object;" [.int] (some (.object "java/lang/Object")) 1 (some k27c5)
def k27c6 : Code := co 3 4 jdk_38_method_24_code
def k27m6 : Method := me "add" "(Ljava/lang/Object;[Ljava/lang/Object;I)V" [(.object "java/lang/Object"), (.array (.object "java/lang/Object")), .int] none 2 (some k27c6)
def k27c7 : Code := co 4 2 jdk_38_method_25_code
def k27m7 : Method := me "add" "(Ljava/lang/Object;)Z" [(.object "java/lang/Object")] (some .boolean) 1 (some k27c7)
def k27c8 : Code := co 3 1 jdk_38_method_55_code
def k27m8 : Method := me "iterator" "()Ljava/util/Iterator;" [] (some (.object "java/util/Iterator")) 1 (some k27c8)
def k27 : Class := { plain "java/util/ArrayList" (some 25) with
  accessFlags := 33
  interfaces := #[14, 19, 26, 2]
  cf := some (fileOf pool27 10 #[.nestMembers #[290, 276, 500, 502, 262, 267]] #[mi 1 5 6, mi 2 71 72, mi 2 71 47, mi 1 50 186, mi 0 13 125, mi 1 381 125, mi 2 133 134, mi 1 133 96, mi 1 166 167] 33 2 #[148, 329, 331, 333] #[fi 26 335 336, fi 26 340 51, fi 26 17 14, fi 26 41 14, fi 128 13 14, fi 2 50 51])
  fields := #[fd "serialVersionUID" .long 26 0, fd "DEFAULT_CAPACITY" .int 26 1, fd "EMPTY_ELEMENTDATA" (.array (.object "java/lang/Object")) 26 2, fd "DEFAULTCAPACITY_EMPTY_ELEMENTDATA" (.array (.object "java/lang/Object")) 26 3, fd "elementData" (.array (.object "java/lang/Object")) 128 1, fd "size" .int 2 2]
  methods := #[k27m0, k27m1, k27m2, k27m3, k27m4, k27m5, k27m6, k27m7, k27m8]
  instanceTypes := #[.int, (.array (.object "java/lang/Object")), .int]
  staticTypes := #[.long, .int, (.array (.object "java/lang/Object")), (.array (.object "java/lang/Object"))]
  resolved := Array.replicate 509 none
  mirror := some 4
  statics := some 2 }

def pool28 : Array CpInfo := pool [(1, .class_ 2), (0, u "java/lang/Math"), (1, .class_ 6), (1, u "java/lang/Object"), (0, u "<init>"), (0, u "()V"), (89, .class_ 100), (1, u "java/lang/Math$RandomNumberGeneratorHolder"), (71, u "negativeZeroFloatBits"), (0, u "J"), (2, u "negativeZeroDoubleBits"), (21, u "max"), (46, u "$assertionsDisabled"), (0, u "Z"), (88, u "(II)I"), (2, u "twoToTheDoubleScaleDown"), (0, u "D"), (4, u "twoToTheDoubleScaleUp"), (9, u "E"), (3, u "PI"), (2, u "TAU"), (2, u "DEGREES_TO_RADIANS"), (0, u "RADIANS_TO_DEGREES")] 94

def k28m0 : Method := me "<init>" "()V" [] none 2 none
def k28c1 : Code := co 2 2 jdk_29_method_65_code
def k28m1 : Method := me "max" "(II)I" [.int, .int] (some .int) 9 (some k28c1)
def k28 : Class := { plain "java/lang/Math" (some 0) with
  accessFlags := 49
  interfaces := #[]
  cf := some (fileOf pool28 1 #[.nestMembers #[98]] #[mi 2 7 8, mi 9 198 335] 49 4 #[] #[fi 25 354 339, fi 25 358 339, fi 25 361 339, fi 26 364 339, fi 26 365 339, fi 26 172 173, fi 26 176 173, fi 8 344 339, fi 8 338 339, fi 4120 245 246])
  fields := #[fd "E" .double 25 0, fd "PI" .double 25 1, fd "TAU" .double 25 2, fd "DEGREES_TO_RADIANS" .double 26 3, fd "RADIANS_TO_DEGREES" .double 26 4, fd "negativeZeroFloatBits" .long 26 5, fd "negativeZeroDoubleBits" .long 26 6, fd "twoToTheDoubleScaleUp" .double 8 7, fd "twoToTheDoubleScaleDown" .double 8 8, fd "$assertionsDisabled" .boolean 4120 9]
  methods := #[k28m0, k28m1]
  instanceTypes := #[]
  staticTypes := #[.double, .double, .double, .double, .double, .long, .long, .double, .double, .boolean]
  resolved := Array.replicate 460 none
  statics := none }

def pool29 : Array CpInfo := pool [(2, .class_ 4), (1, u "java/lang/Object"), (0, u "<init>"), (0, u "()V"), (1, .class_ 10), (1, u "java/util/List"), (2, .class_ 14), (0, u "java/util/RandomAccess"), (4, .class_ 20), (0, u "java/util/Collections"), (63, u "r"), (0, u "Ljava/util/Random;"), (67, u "(Ljava/util/List;)V"), (9, .nameAndType 164 165), (0, u "getClass"), (0, u "()Ljava/lang/Class;"), (0, .class_ 167), (0, u "java/util/Collections$UnmodifiableCollection"), (6, .class_ 175), (0, u "java/util/Collections$UnmodifiableSequencedCollection"), (6, .class_ 183), (0, u "java/util/Collections$UnmodifiableSet"), (6, .class_ 191), (0, u "java/util/Collections$UnmodifiableSequencedSet"), (6, .class_ 199), (0, u "java/util/Collections$UnmodifiableSortedSet"), (6, .class_ 207), (0, u "java/util/Collections$UnmodifiableNavigableSet"), (3, .interfaceMethodref 8 163), (0, .class_ 213), (0, u "java/util/Collections$UnmodifiableList"), (0, .interfaceMethodref 8 163), (0, .class_ 216), (0, u "java/util/Collections$UnmodifiableRandomAccessList"), (0, .methodref 215 218), (0, .nameAndType 5 153), (4, .class_ 224), (0, u "java/util/Collections$UnmodifiableMap"), (6, .class_ 232), (0, u "java/util/Collections$UnmodifiableSequencedMap"), (4, .class_ 238), (0, u "java/util/Collections$UnmodifiableSortedMap"), (6, .class_ 246), (0, u "java/util/Collections$UnmodifiableNavigableMap"), (3, .class_ 251), (0, u "java/util/Collections$SynchronizedCollection"), (4, .class_ 257), (0, u "java/util/Collections$SynchronizedSet"), (4, .class_ 263), (0, u "java/util/Collections$SynchronizedSortedSet"), (1, .class_ 266), (0, u "java/util/Collections$SynchronizedNavigableSet"), (1, .class_ 269), (0, u "java/util/Collections$SynchronizedRandomAccessList"), (1, .class_ 272), (0, u "java/util/Collections$SynchronizedList"), (5, .class_ 279), (0, u "java/util/Collections$SynchronizedMap"), (1, .class_ 282), (0, u "java/util/Collections$SynchronizedSortedMap"), (1, .class_ 285), (0, u "java/util/Collections$SynchronizedNavigableMap"), (1, .class_ 288), (0, u "java/util/Collections$CheckedCollection"), (11, .class_ 301), (0, u "java/util/Collections$CheckedQueue"), (3, .class_ 306), (0, u "java/util/Collections$CheckedSet"), (3, .class_ 311), (0, u "java/util/Collections$CheckedSortedSet"), (3, .class_ 316), (0, u "java/util/Collections$CheckedNavigableSet"), (3, .class_ 321), (0, u "java/util/Collections$CheckedRandomAccessList"), (3, .class_ 326), (0, u "java/util/Collections$CheckedList"), (1, .class_ 329), (0, u "java/util/Collections$CheckedMap"), (3, .class_ 334), (0, u "java/util/Collections$CheckedSortedMap"), (3, .class_ 339), (0, u "java/util/Collections$CheckedNavigableMap"), (4, .class_ 346), (1, u "java/util/Collections$EmptyIterator"), (3, .class_ 352), (1, u "java/util/Collections$EmptyListIterator"), (2, .class_ 357), (1, u "java/util/Collections$EmptyEnumeration"), (4, u "EMPTY_SET"), (0, u "Ljava/util/Set;"), (6, u "EMPTY_LIST"), (0, u "Ljava/util/List;"), (2, u "EMPTY_MAP"), (0, u "Ljava/util/Map;"), (4, .class_ 381), (0, u "java/util/Collections$SingletonSet"), (2, .class_ 385), (0, u "java/util/Collections$1"), (1, .class_ 388), (0, u "java/util/Collections$2"), (1, .class_ 391), (0, u "java/util/Collections$SingletonList"), (1, .class_ 394), (0, u "java/util/Collections$SingletonMap"), (22, .class_ 418), (0, u "java/util/Collections$CopiesList"), (4, .class_ 425), (1, u "java/util/Collections$ReverseComparator"), (8, .class_ 435), (0, u "java/util/Collections$ReverseComparator2"), (6, .class_ 443), (0, u "java/util/Collections$3"), (25, .class_ 470), (0, u "java/util/Collections$SetFromMap"), (2, .class_ 474), (0, u "java/util/Collections$SequencedSetFromMap"), (3, .class_ 479), (0, u "java/util/Collections$AsLIFOQueue"), (11, .class_ 492), (0, u "java/util/Collections$EmptySet"), (1, .class_ 495), (0, u "java/util/Collections$EmptyList"), (1, .class_ 498), (0, u "java/util/Collections$EmptyMap"), (1, u "BINARYSEARCH_THRESHOLD"), (0, u "I"), (2, u "REVERSE_THRESHOLD"), (1, u "SHUFFLE_THRESHOLD"), (1, u "FILL_THRESHOLD"), (1, u "ROTATE_THRESHOLD"), (1, u "COPY_THRESHOLD"), (1, u "REPLACEALL_THRESHOLD"), (1, u "INDEXOFSUBLIST_THRESHOLD"), (129, u "unmodifiableList"), (0, u "(Ljava/util/List;)Ljava/util/List;"), (202, .class_ 851), (0, u "java/util/Collections$CheckedMap$CheckedEntrySet"), (0, .class_ 853), (0, u "java/util/Collections$CheckedMap$CheckedEntrySet$CheckedEntry"), (0, .class_ 855), (0, u "java/util/Collections$CheckedMap$CheckedEntrySet$1"), (0, .class_ 857), (0, u "java/util/Collections$CheckedList$1"), (0, .class_ 859), (0, u "java/util/Collections$CheckedCollection$1"), (0, .class_ 861), (0, u "java/util/Collections$UnmodifiableNavigableMap$EmptyNavigableMap"), (0, .class_ 863), (0, u "java/util/Collections$UnmodifiableMap$UnmodifiableEntrySet"), (0, .class_ 865), (0, u "java/util/Collections$UnmodifiableMap$UnmodifiableEntrySet$UnmodifiableEntry"), (0, .class_ 867), (0, u "java/util/Collections$UnmodifiableMap$UnmodifiableEntrySet$UnmodifiableEntrySetSpliterator"), (0, .class_ 869), (0, u "java/util/Collections$UnmodifiableMap$UnmodifiableEntrySet$1"), (0, .class_ 871), (0, u "java/util/Collections$UnmodifiableList$1"), (0, .class_ 873), (0, u "java/util/Collections$UnmodifiableNavigableSet$EmptyNavigableSet"), (0, .class_ 875), (0, u "java/util/Collections$UnmodifiableCollection$1")] 57

def k29m0 : Method := me "<init>" "()V" [] none 2 none
def k29c1 : Code := co 3 1 jdk_79_method_35_code
def k29m1 : Method := me "unmodifiableList" "(Ljava/util/List;)Ljava/util/List;" [(.object "java/util/List")] (some (.object "java/util/List")) 9 (some k29c1)
def k29 : Class := { plain "java/util/Collections" (some 0) with
  accessFlags := 33
  interfaces := #[]
  cf := some (fileOf pool29 19 #[.nestMembers #[478, 473, 469, 434, 423, 417, 393, 390, 380, 497, 494, 491, 355, 350, 344, 338, 333, 328, 850, 852, 854, 320, 325, 856, 315, 310, 305, 300, 287, 858, 284, 281, 278, 268, 271, 265, 262, 256, 250, 245, 860, 237, 231, 223, 862, 864, 866, 868, 215, 212, 870, 206, 872, 198, 190, 182, 174, 166, 874, 442, 387, 384]] #[mi 2 5 6, mi 9 646 647] 33 2 #[] #[fi 26 500 501, fi 26 504 501, fi 26 506 501, fi 26 508 501, fi 26 510 501, fi 26 512 501, fi 26 514 501, fi 26 516 501, fi 10 84 85, fi 25 362 363, fi 25 370 371, fi 25 374 375])
  fields := #[fd "BINARYSEARCH_THRESHOLD" .int 26 0, fd "REVERSE_THRESHOLD" .int 26 1, fd "SHUFFLE_THRESHOLD" .int 26 2, fd "FILL_THRESHOLD" .int 26 3, fd "ROTATE_THRESHOLD" .int 26 4, fd "COPY_THRESHOLD" .int 26 5, fd "REPLACEALL_THRESHOLD" .int 26 6, fd "INDEXOFSUBLIST_THRESHOLD" .int 26 7, fd "r" (.object "java/util/Random") 10 8, fd "EMPTY_SET" (.object "java/util/Set") 25 9, fd "EMPTY_LIST" (.object "java/util/List") 25 10, fd "EMPTY_MAP" (.object "java/util/Map") 25 11]
  methods := #[k29m0, k29m1]
  instanceTypes := #[]
  staticTypes := #[.int, .int, .int, .int, .int, .int, .int, .int, (.object "java/util/Random"), (.object "java/util/Set"), (.object "java/util/List"), (.object "java/util/Map")]
  resolved := Array.replicate 933 none
  statics := none }

def pool30 : Array CpInfo := pool [(1, .methodref 2 3), (0, .class_ 4), (0, .nameAndType 5 6), (0, u "java/lang/Object"), (0, u "<init>"), (0, u "()V"), (3, .fieldref 11 12), (0, .class_ 13), (0, .nameAndType 14 15), (0, u "java/util/Collections$UnmodifiableCollection"), (0, u "c"), (0, u "Ljava/util/Collection;"), (0, .interfaceMethodref 17 18), (0, .class_ 19), (0, .nameAndType 20 21), (0, u "java/util/Collection"), (0, u "size"), (0, u "()I"), (22, .class_ 45), (0, u "java/util/Collections$UnmodifiableCollection$1"), (0, .methodref 44 47), (0, .nameAndType 5 48), (0, u "(Ljava/util/Collections$UnmodifiableCollection;)V"), (22, .class_ 72), (0, u "java/io/Serializable"), (0, u "serialVersionUID"), (0, u "J"), (5, u "(Ljava/util/Collection;)V"), (19, u "iterator"), (0, u "()Ljava/util/Iterator;"), (30, .class_ 133), (0, u "java/util/Collections")] 2

def k30c0 : Code := co 2 2 jdk_119_method_1_code
def k30m0 : Method := me "<init>" "(Ljava/util/Collection;)V" [(.object "java/util/Collection")] none 0 (some k30c0)
def k30c1 : Code := co 1 1 jdk_119_method_2_code
def k30m1 : Method := me "size" "()I" [] (some .int) 1 (some k30c1)
def k30c2 : Code := co 3 1 jdk_119_method_9_code
def k30m2 : Method := me "iterator" "()Ljava/util/Iterator;" [] (some (.object "java/util/Iterator")) 1 (some k30c2)
def k30 : Class := { plain "java/util/Collections$UnmodifiableCollection" (some 0) with
  accessFlags := 32
  interfaces := #[12, 2]
  cf := some (fileOf pool30 11 #[.nestHost 132] #[mi 0 5 80, mi 1 20 21, mi 1 100 101] 32 2 #[17, 71] #[fi 26 73 74, fi 16 14 15])
  fields := #[fd "serialVersionUID" .long 26 0, fd "c" (.object "java/util/Collection") 16 0]
  methods := #[k30m0, k30m1, k30m2]
  instanceTypes := #[(.object "java/util/Collection")]
  staticTypes := #[.long]
  resolved := Array.replicate 136 none
  statics := none }

def pool31 : Array CpInfo := pool [(1, .methodref 2 3), (0, .class_ 4), (0, .nameAndType 5 6), (0, u "java/util/Collections$UnmodifiableCollection"), (0, u "<init>"), (0, u "(Ljava/util/Collection;)V"), (0, .fieldref 8 9), (0, .class_ 10), (0, .nameAndType 11 12), (0, u "java/util/Collections$UnmodifiableList"), (0, u "list"), (0, u "Ljava/util/List;"), (1, .class_ 16), (1, u "java/util/List"), (6, .interfaceMethodref 14 24), (0, .nameAndType 25 26), (0, u "get"), (0, u "(I)Ljava/lang/Object;"), (27, u "(Ljava/util/List;)V"), (5, u "serialVersionUID"), (0, u "J"), (59, .class_ 122), (0, u "java/util/Collections")] 4

def k31c0 : Code := co 2 2 jdk_120_method_1_code
def k31m0 : Method := me "<init>" "(Ljava/util/List;)V" [(.object "java/util/List")] none 0 (some k31c0)
def k31c1 : Code := co 2 2 jdk_120_method_4_code
def k31m1 : Method := me "get" "(I)Ljava/lang/Object;" [.int] (some (.object "java/lang/Object")) 1 (some k31c1)
def k31 : Class := { plain "java/util/Collections$UnmodifiableList" (some 30) with
  accessFlags := 32
  interfaces := #[14]
  cf := some (fileOf pool31 8 #[.nestHost 121] #[mi 0 5 54, mi 1 25 26] 32 2 #[14] #[fi 26 60 61, fi 16 11 12])
  fields := #[fd "serialVersionUID" .long 26 0, fd "list" (.object "java/util/List") 16 1]
  methods := #[k31m0, k31m1]
  instanceTypes := #[(.object "java/util/Collection"), (.object "java/util/List")]
  staticTypes := #[.long]
  resolved := Array.replicate 127 none
  mirror := some 5
  statics := none }

def pool32 : Array CpInfo := pool [(1, .methodref 2 3), (0, .class_ 4), (0, .nameAndType 5 6), (0, u "java/util/Collections$UnmodifiableList"), (0, u "<init>"), (0, u "(Ljava/util/List;)V"), (0, .class_ 8), (0, u "java/util/Collections$UnmodifiableRandomAccessList"), (11, .class_ 21), (0, u "java/util/RandomAccess"), (0, u "serialVersionUID"), (0, u "J"), (23, .class_ 48), (0, u "java/util/Collections")] 3

def k32c0 : Code := co 2 2 jdk_121_method_1_code
def k32m0 : Method := me "<init>" "(Ljava/util/List;)V" [(.object "java/util/List")] none 0 (some k32c0)
def k32 : Class := { plain "java/util/Collections$UnmodifiableRandomAccessList" (some 31) with
  accessFlags := 32
  interfaces := #[19]
  cf := some (fileOf pool32 7 #[.nestHost 47] #[mi 0 5 6] 32 2 #[20] #[fi 26 22 23])
  fields := #[fd "serialVersionUID" .long 26 0]
  methods := #[k32m0]
  instanceTypes := #[(.object "java/util/Collection"), (.object "java/util/List")]
  staticTypes := #[.long]
  resolved := Array.replicate 52 none
  mirror := some 6
  statics := none }

def pool33 : Array CpInfo := pool [(1, .fieldref 2 3), (0, .class_ 4), (0, .nameAndType 5 6), (0, u "java/util/Collections$UnmodifiableCollection$1"), (0, u "this$0"), (0, u "Ljava/util/Collections$UnmodifiableCollection;"), (0, .methodref 8 9), (0, .class_ 10), (0, .nameAndType 11 12), (0, u "java/lang/Object"), (0, u "<init>"), (0, u "()V"), (0, .fieldref 14 15), (0, .class_ 16), (0, .nameAndType 17 18), (0, u "java/util/Collections$UnmodifiableCollection"), (0, u "c"), (0, u "Ljava/util/Collection;"), (0, .interfaceMethodref 20 21), (0, .class_ 22), (0, .nameAndType 23 24), (0, u "java/util/Collection"), (0, u "iterator"), (0, u "()Ljava/util/Iterator;"), (0, .fieldref 2 26), (0, .nameAndType 27 28), (0, u "i"), (0, u "Ljava/util/Iterator;"), (0, .interfaceMethodref 30 31), (0, .class_ 32), (0, .nameAndType 33 34), (0, u "java/util/Iterator"), (0, u "hasNext"), (0, u "()Z"), (0, .interfaceMethodref 30 36), (0, .nameAndType 37 38), (0, u "next"), (0, u "()Ljava/lang/Object;"), (9, u "(Ljava/util/Collections$UnmodifiableCollection;)V"), (18, .class_ 68), (0, u "java/util/Collections")] 2

def k33c0 : Code := co 2 2 jdk_135_method_1_code
def k33m0 : Method := me "<init>" "(Ljava/util/Collections$UnmodifiableCollection;)V" [(.object "java/util/Collections$UnmodifiableCollection")] none 0 (some k33c0)
def k33c1 : Code := co 1 1 jdk_135_method_2_code
def k33m1 : Method := me "hasNext" "()Z" [] (some .boolean) 1 (some k33c1)
def k33c2 : Code := co 1 1 jdk_135_method_3_code
def k33m2 : Method := me "next" "()Ljava/lang/Object;" [] (some (.object "java/lang/Object")) 1 (some k33c2)
def k33 : Class := { plain "java/util/Collections$UnmodifiableCollection$1" (some 0) with
  accessFlags := 32
  interfaces := #[22]
  cf := some (fileOf pool33 2 #[.nestHost 67] #[mi 0 11 48, mi 1 33 34, mi 1 37 38] 32 8 #[30] #[fi 18 27 28, fi 4112 5 6])
  fields := #[fd "i" (.object "java/util/Iterator") 18 0, fd "this$0" (.object "java/util/Collections$UnmodifiableCollection") 4112 1]
  methods := #[k33m0, k33m1, k33m2]
  instanceTypes := #[(.object "java/util/Iterator"), (.object "java/util/Collections$UnmodifiableCollection")]
  staticTypes := #[]
  resolved := Array.replicate 71 none
  statics := none }

def pool34 : Array CpInfo := pool [(1, .fieldref 2 3), (0, .class_ 4), (0, .nameAndType 5 6), (0, u "java/util/ArrayList$Itr"), (0, u "this$0"), (0, u "Ljava/util/ArrayList;"), (0, .methodref 8 9), (0, .class_ 10), (0, .nameAndType 11 12), (0, u "java/lang/Object"), (0, u "<init>"), (0, u "()V"), (0, .fieldref 2 14), (0, .nameAndType 15 16), (0, u "lastRet"), (0, u "I"), (0, .fieldref 18 19), (0, .class_ 20), (0, .nameAndType 21 16), (0, u "java/util/ArrayList"), (0, u "modCount"), (0, .fieldref 2 23), (0, .nameAndType 24 16), (0, u "expectedModCount"), (0, .fieldref 2 26), (0, .nameAndType 27 16), (0, u "cursor"), (0, .fieldref 18 29), (0, .nameAndType 30 16), (0, u "size"), (0, .methodref 2 32), (0, .nameAndType 33 12), (0, u "checkForComodification"), (3, .fieldref 18 38), (0, .nameAndType 39 40), (0, u "elementData"), (0, u "[Ljava/lang/Object;"), (28, .class_ 70), (0, u "java/util/Iterator"), (0, u "(Ljava/util/ArrayList;)V"), (8, u "hasNext"), (0, u "()Z"), (1, u "next"), (0, u "()Ljava/lang/Object;")] 19

def k34c0 : Code := co 2 2 jdk_49_method_1_code
def k34m0 : Method := me "<init>" "(Ljava/util/ArrayList;)V" [(.object "java/util/ArrayList")] none 0 (some k34c0)
def k34c1 : Code := co 2 1 jdk_49_method_2_code
def k34m1 : Method := me "hasNext" "()Z" [] (some .boolean) 1 (some k34c1)
def k34c2 : Code := co 4 3 jdk_49_method_3_code
def k34m2 : Method := me "next" "()Ljava/lang/Object;" [] (some (.object "java/lang/Object")) 1 (some k34c2)
def k34c3 : Code := co 2 1 jdk_49_method_6_code
def k34m3 : Method := me "checkForComodification" "()V" [] none 16 (some k34c3)
def k34 : Class := { plain "java/util/ArrayList$Itr" (some 0) with
  accessFlags := 32
  interfaces := #[22]
  cf := some (fileOf pool34 2 #[.nestHost 18] #[mi 0 11 71, mi 1 80 81, mi 1 83 84, mi 16 33 12] 32 8 #[69] #[fi 0 27 16, fi 0 15 16, fi 0 24 16, fi 4112 5 6])
  fields := #[fd "cursor" .int 0 0, fd "lastRet" .int 0 1, fd "expectedModCount" .int 0 2, fd "this$0" (.object "java/util/ArrayList") 4112 3]
  methods := #[k34m0, k34m1, k34m2, k34m3]
  instanceTypes := #[.int, .int, .int, (.object "java/util/ArrayList")]
  staticTypes := #[]
  resolved := Array.replicate 104 none
  statics := none }

def pool35 : Array CpInfo := pool [(2, .class_ 4), (1, u "java/lang/Object"), (0, u "<init>"), (0, u "()V"), (17, .class_ 26), (1, u "jdk/internal/util/Preconditions"), (6, u "checkIndex"), (21, .class_ 56), (0, u "jdk/internal/util/Preconditions$4"), (57, .class_ 115), (0, u "jdk/internal/util/Preconditions$1"), (7, u "SIOOBE_FORMATTER"), (0, u "Ljava/util/function/BiFunction;"), (0, .class_ 126), (0, u "jdk/internal/util/Preconditions$2"), (3, u "AIOOBE_FORMATTER"), (0, .class_ 132), (0, u "jdk/internal/util/Preconditions$3"), (3, u "IOOBE_FORMATTER"), (41, u "(IILjava/util/function/BiFunction;)I")] 15

def k35m0 : Method := me "<init>" "()V" [] none 1 none
def k35c1 : Code := co 3 3 jdk_41_method_11_code
def k35m1 : Method := me "checkIndex" "(IILjava/util/function/BiFunction;)I" [.int, .int, (.object "java/util/function/BiFunction")] (some .int) 9 (some k35c1)
def k35 : Class := { plain "jdk/internal/util/Preconditions" (some 0) with
  accessFlags := 33
  interfaces := #[]
  cf := some (fileOf pool35 24 #[.nestMembers #[55, 131, 125, 114]] #[mi 1 5 6, mi 9 33 178] 33 2 #[] #[fi 25 123 124, fi 25 130 124, fi 25 136 124])
  fields := #[fd "SIOOBE_FORMATTER" (.object "java/util/function/BiFunction") 25 0, fd "AIOOBE_FORMATTER" (.object "java/util/function/BiFunction") 25 1, fd "IOOBE_FORMATTER" (.object "java/util/function/BiFunction") 25 2]
  methods := #[k35m0, k35m1]
  instanceTypes := #[]
  staticTypes := #[(.object "java/util/function/BiFunction"), (.object "java/util/function/BiFunction"), (.object "java/util/function/BiFunction")]
  resolved := Array.replicate 194 none
  statics := some 3 }

def pool36 : Array CpInfo := pool [(1, .class_ 2), (0, u "java/util/Queue"), (0, .class_ 4), (0, u "java/lang/Object"), (0, .class_ 6), (0, u "java/util/Collection")] 14

def k36 : Class := { plain "java/util/Queue" (some 0) with
  accessFlags := 1537
  interfaces := #[12]
  cf := some (fileOf pool36 1 #[] #[] 1537 3 #[5] #[])
  fields := #[]
  methods := #[]
  instanceTypes := #[]
  staticTypes := #[]
  resolved := Array.replicate 21 none
  statics := none }

def pool37 : Array CpInfo := pool [(8, .class_ 10), (1, u "java/util/Deque"), (2, .class_ 14), (0, u "java/lang/Object"), (0, .class_ 16), (0, u "java/util/Queue"), (0, .class_ 18), (0, u "java/util/SequencedCollection"), (1, u "(Ljava/lang/Object;)V"), (8, u "()Ljava/lang/Object;"), (19, u "push"), (0, u "pop")] 19

def k37m0 : Method := me "push" "(Ljava/lang/Object;)V" [(.object "java/lang/Object")] none 1025 none
def k37m1 : Method := me "pop" "()Ljava/lang/Object;" [] (some (.object "java/lang/Object")) 1025 none
def k37 : Class := { plain "java/util/Deque" (some 0) with
  accessFlags := 1537
  interfaces := #[36, 13]
  cf := some (fileOf pool37 8 #[] #[mi 1025 49 20, mi 1025 50 29] 1537 13 #[15, 17] #[])
  fields := #[]
  methods := #[k37m0, k37m1]
  instanceTypes := #[]
  staticTypes := #[]
  resolved := Array.replicate 70 none
  statics := none }

def pool38 : Array CpInfo := pool [(3, .fieldref 4 5), (0, .class_ 6), (0, .nameAndType 7 8), (0, u "java/util/ArrayDeque"), (0, u "elements"), (0, u "[Ljava/lang/Object;"), (4, u "(II)I"), (6, .fieldref 4 21), (0, .nameAndType 22 23), (0, u "tail"), (0, u "I"), (0, .fieldref 4 25), (0, .nameAndType 26 23), (0, u "head"), (12, u "<init>"), (2, .methodref 43 44), (0, .class_ 45), (0, .nameAndType 39 46), (0, u "java/util/AbstractCollection"), (0, u "()V"), (0, .class_ 48), (0, u "java/lang/Object"), (19, .methodref 4 69), (0, .nameAndType 70 13), (0, u "dec"), (3, .methodref 4 75), (0, .nameAndType 76 13), (0, u "inc"), (9, .methodref 4 87), (0, .nameAndType 88 89), (0, u "addFirst"), (0, u "(Ljava/lang/Object;)V"), (3, .methodref 4 94), (0, .nameAndType 95 96), (0, u "pollFirst"), (0, u "()Ljava/lang/Object;"), (6, .methodref 4 104), (0, .nameAndType 105 106), (0, u "elementAt"), (0, u "([Ljava/lang/Object;I)Ljava/lang/Object;"), (11, .methodref 4 119), (0, .nameAndType 120 96), (0, u "removeFirst"), (10, .class_ 132), (0, u "java/util/ArrayDeque$DeqIterator"), (3, .class_ 137), (0, u "java/util/ArrayDeque$DescendingIterator"), (1, .class_ 140), (0, u "java/util/ArrayDeque$DeqSpliterator"), (137, .class_ 279), (0, u "java/util/Deque"), (0, .class_ 281), (0, u "java/lang/Cloneable"), (0, .class_ 283), (0, u "java/io/Serializable"), (0, u "MAX_ARRAY_SIZE"), (1, u "serialVersionUID"), (0, u "J"), (54, u "push"), (0, u "pop"), (3, u "isEmpty"), (0, u "()Z")] 89

def k38c0 : Code := co 2 1 jdk_21_method_3_code
def k38m0 : Method := me "<init>" "()V" [] none 1 (some k38c0)
def k38c1 : Code := co 2 2 jdk_21_method_6_code
def k38m1 : Method := me "inc" "(II)I" [.int, .int] (some .int) 24 (some k38c1)
def k38c2 : Code := co 2 2 jdk_21_method_7_code
def k38m2 : Method := me "dec" "(II)I" [.int, .int] (some .int) 24 (some k38c2)
def k38c3 : Code := co 2 2 jdk_21_method_10_code
def k38m3 : Method := me "elementAt" "([Ljava/lang/Object;I)Ljava/lang/Object;" [(.array (.object "java/lang/Object")), .int] (some (.object "java/lang/Object")) 24 (some k38c3)
def k38c4 : Code := co 4 3 jdk_21_method_12_code
def k38m4 : Method := me "addFirst" "(Ljava/lang/Object;)V" [(.object "java/lang/Object")] none 1 (some k38c4)
def k38c5 : Code := co 2 2 jdk_21_method_18_code
def k38m5 : Method := me "removeFirst" "()Ljava/lang/Object;" [] (some (.object "java/lang/Object")) 1 (some k38c5)
def k38c6 : Code := co 3 4 jdk_21_method_20_code
def k38m6 : Method := me "pollFirst" "()Ljava/lang/Object;" [] (some (.object "java/lang/Object")) 1 (some k38c6)
def k38c7 : Code := co 2 2 jdk_21_method_34_code
def k38m7 : Method := me "push" "(Ljava/lang/Object;)V" [(.object "java/lang/Object")] none 1 (some k38c7)
def k38c8 : Code := co 1 1 jdk_21_method_35_code
def k38m8 : Method := me "pop" "()Ljava/lang/Object;" [] (some (.object "java/lang/Object")) 1 (some k38c8)
def k38c9 : Code := co 2 1 jdk_21_method_38_code
def k38m9 : Method := me "isEmpty" "()Z" [] (some .boolean) 1 (some k38c9)
def k38 : Class := { plain "java/util/ArrayDeque" (some 17) with
  accessFlags := 33
  interfaces := #[37, 26, 2]
  cf := some (fileOf pool38 4 #[.nestMembers #[139, 136, 131]] #[mi 1 39 46, mi 24 76 13, mi 24 70 13, mi 24 105 106, mi 1 88 89, mi 1 120 96, mi 1 95 96, mi 1 342 89, mi 1 343 96, mi 1 347 348] 33 43 #[278, 280, 282] #[fi 128 7 8, fi 128 26 23, fi 128 22 23, fi 26 284 23, fi 26 286 287])
  fields := #[fd "elements" (.array (.object "java/lang/Object")) 128 0, fd "head" .int 128 1, fd "tail" .int 128 2, fd "MAX_ARRAY_SIZE" .int 26 0, fd "serialVersionUID" .long 26 1]
  methods := #[k38m0, k38m1, k38m2, k38m3, k38m4, k38m5, k38m6, k38m7, k38m8, k38m9]
  instanceTypes := #[(.array (.object "java/lang/Object")), .int, .int]
  staticTypes := #[.int, .long]
  resolved := Array.replicate 438 none
  statics := none }

def pool39 : Array CpInfo := pool [(9, u "<init>"), (6, .class_ 18), (1, u "java/lang/Object"), (0, u "()V"), (1, .class_ 23), (1, u "jdk/internal/util/ArraysSupport"), (0, u "LOG2_ARRAY_LONG_INDEX_SCALE"), (0, u "I"), (2, u "U"), (0, u "Ljdk/internal/misc/Unsafe;"), (8, u "BIG_ENDIAN"), (0, u "Z"), (8, u "LOG2_BYTE_BIT_SIZE"), (4, u "LOG2_ARRAY_INT_INDEX_SCALE"), (54, u "JLA"), (0, u "Ljdk/internal/access/JavaLangAccess;"), (11, u "LOG2_ARRAY_BOOLEAN_INDEX_SCALE"), (9, u "LOG2_ARRAY_BYTE_INDEX_SCALE"), (5, u "LOG2_ARRAY_CHAR_INDEX_SCALE"), (5, u "LOG2_ARRAY_SHORT_INDEX_SCALE"), (18, u "LOG2_ARRAY_FLOAT_INDEX_SCALE"), (24, u "LOG2_ARRAY_DOUBLE_INDEX_SCALE"), (89, u "T_BOOLEAN"), (2, u "T_CHAR"), (1, u "T_FLOAT"), (1, u "T_DOUBLE"), (1, u "T_BYTE"), (1, u "T_SHORT"), (1, u "T_INT"), (1, u "T_LONG"), (1, u "SOFT_MAX_ARRAY_LENGTH")] 83

def k39m0 : Method := me "<init>" "()V" [] none 2 none
def k39 : Class := { plain "jdk/internal/util/ArraysSupport" (some 0) with
  accessFlags := 33
  interfaces := #[]
  cf := some (fileOf pool39 21 #[] #[mi 2 9 19] 33 16 #[] #[fi 24 28 29, fi 26 38 39, fi 25 121 25, fi 25 131 25, fi 25 137 25, fi 25 143 25, fi 25 53 25, fi 25 24 25, fi 25 162 25, fi 25 187 25, fi 26 48 25, fi 25 277 25, fi 25 280 25, fi 25 282 25, fi 25 284 25, fi 25 286 25, fi 25 288 25, fi 25 290 25, fi 25 292 25, fi 26 108 109, fi 25 294 25])
  fields := #[fd "U" (.object "jdk/internal/misc/Unsafe") 24 0, fd "BIG_ENDIAN" .boolean 26 1, fd "LOG2_ARRAY_BOOLEAN_INDEX_SCALE" .int 25 2, fd "LOG2_ARRAY_BYTE_INDEX_SCALE" .int 25 3, fd "LOG2_ARRAY_CHAR_INDEX_SCALE" .int 25 4, fd "LOG2_ARRAY_SHORT_INDEX_SCALE" .int 25 5, fd "LOG2_ARRAY_INT_INDEX_SCALE" .int 25 6, fd "LOG2_ARRAY_LONG_INDEX_SCALE" .int 25 7, fd "LOG2_ARRAY_FLOAT_INDEX_SCALE" .int 25 8, fd "LOG2_ARRAY_DOUBLE_INDEX_SCALE" .int 25 9, fd "LOG2_BYTE_BIT_SIZE" .int 26 10, fd "T_BOOLEAN" .int 25 11, fd "T_CHAR" .int 25 12, fd "T_FLOAT" .int 25 13, fd "T_DOUBLE" .int 25 14, fd "T_BYTE" .int 25 15, fd "T_SHORT" .int 25 16, fd "T_INT" .int 25 17, fd "T_LONG" .int 25 18, fd "JLA" (.object "jdk/internal/access/JavaLangAccess") 26 19, fd "SOFT_MAX_ARRAY_LENGTH" .int 25 20]
  methods := #[k39m0]
  instanceTypes := #[]
  staticTypes := #[(.object "jdk/internal/misc/Unsafe"), .boolean, .int, .int, .int, .int, .int, .int, .int, .int, .int, .int, .int, .int, .int, .int, .int, .int, .int, (.object "jdk/internal/access/JavaLangAccess"), .int]
  resolved := Array.replicate 378 none
  statics := none }

def pool40 : Array CpInfo := pool [(1, u "java/lang/Class"), (0, .class_ 1), (0, u "java/lang/Object"), (0, .class_ 3)] 0

def k40 : Class := { plain "java/lang/Class" (some 0) with
  accessFlags := 49
  interfaces := #[]
  cf := some (fileOf pool40 2 #[] #[] 49 4 #[] #[])
  fields := #[]
  methods := #[]
  instanceTypes := #[]
  staticTypes := #[]
  resolved := Array.replicate 5 none
  statics := none }

def k41 : Class := { plain "byte" none with kind := .primitive 'B', accessFlags := 0x411 }
def k42 : Class := { plain "[B" (some 0) with kind := .array 41 .byte, interfaces := #[26, 2], accessFlags := 1041 }

def k43 : Class := { plain "int" none with kind := .primitive 'I', accessFlags := 0x411 }
def k44 : Class := { plain "[I" (some 0) with kind := .array 43 .int, interfaces := #[26, 2], accessFlags := 1041 }

def k45 : Class := { plain "[Ljava/lang/Object;" (some 0) with kind := .array 0 (.object "java/lang/Object"), interfaces := #[26, 2], accessFlags := 1041 }

def heap : Heap := #[{ cls := 7, slots := #[.long 0, .int 1, .null, .int 0, .null, .int 0, .int 0], vm := .statics 7 },
  { cls := 15, slots := #[.long 0, .int 0, .null, .null, .ref 8, .null, .null, .null, .int 0, .int 0], vm := .statics 15 },
  { cls := 27, slots := #[.long 0, .int 0, .ref 9, .ref 10], vm := .statics 27 },
  { cls := 35, slots := #[.null, .null, .null], vm := .statics 35 },
  { cls := 40, slots := #[], vm := .mirror 27 },
  { cls := 40, slots := #[], vm := .mirror 31 },
  { cls := 40, slots := #[], vm := .mirror 32 },
  { cls := 45, slots := #[], vm := .none },
  { cls := 21, slots := #[.ref 7, .int 0], vm := .none },
  { cls := 45, slots := #[], vm := .none },
  { cls := 45, slots := #[], vm := .none }]
def classes : Array Class := #[k0, k1, k2, k3, k4, k5, k6, k7, k8, k9, k10, k11, k12, k13, k14, k15, k16, k17, k18, k19, k20, k21, k22, k23, k24, k25, k26, k27, k28, k29, k30, k31, k32, k33, k34, k35, k36, k37, k38, k39, k40, k41, k42, k43, k44, k45]
def interned : List (Array UInt16 × Addr) := []
def slotsUsed : Nat := 26
def theMethod : MethodId := ⟨1, 1⟩
def args0 : Array Value := #[.int 1, .int 2, .int 3, .int 4, .int 65, .int 15]
def aboutOver (below : List Frame) : State where
  vm := { classes := classes, interned := interned.toArray }
  heap := heap
  slotsUsed := slotsUsed
  threads := #[{ frames := .invoking theMethod args0 :: below }]
def below0 : List Frame := [.native { method := ⟨0, 0⟩, args := #[] }]
def about1 : State := aboutOver below0
def p0 : Program := .bare "" "" ""
def e0 : Env := launch0.env 0 0 0
theorem w_frames : about1.frames = Frame.invoking theMethod args0 :: below0 := rfl
set_option maxRecDepth 65536 in
theorem w_args : argsFit about1.vm theMethod args0 = true := by decide +kernel
set_option maxRecDepth 65536 in
theorem w_heap : heapFits about1 = true := by decide +kernel
set_option maxRecDepth 65536 in
theorem w_runnable : about1.curStatus? = some .runnable := by decide +kernel
set_option maxRecDepth 65536 in
theorem w_alone : about1.alone = true := by decide +kernel
set_option maxRecDepth 65536 in
theorem w_named : about1.methodNamed? x = some theMethod := by decide +kernel
set_option maxRecDepth 65536 in
theorem w_hears : about1.hears theMethod below0 = true := by decide +kernel
set_option maxRecDepth 65536 in
theorem w_ripe : about1.ripe theMethod args0 below0 = true := by decide +kernel
theorem w_running : about1.status = .running := rfl
set_option maxRecDepth 65536 in
theorem w_room : about1.hasRoom e0.platform room_1 = true :=
  launch0.hasRoom_least _ room_1 (by decide +kernel) (by decide +kernel) (by decide +kernel) (by decide +kernel) (by decide +kernel) (by decide +kernel)
theorem allAtoms_all (ts : List Jvm.Cond) (a : Array Jvm.Value) (st : Jvm.State) : (allAtoms ts).before a st = ts.all (fun c => c.before a st) := by
  induction ts with
  | nil => rfl
  | cons c t ih =>
    show (Jvm.Cond.and c (allAtoms t)).before a st = _
    rw [Jvm.Cond.before_and, ih, List.all_cons]
def words1 : List Jvm.Cond := Jvm.Cond.code x code maxLocals ret :: tables_1
theorem code_word {y : MethodName} {bytes : ByteArray} {mx : Nat} {rt : Option FieldType} {a : Array Value} {s : State} {m : MethodId} {meth : Method} {c : Code} (h1 : s.methodNamed? y = some m) (h2 : s.vm.method? m = some meth) (h3 : meth.code = some c) (h4 : c.code = bytes)
    (h5 : (c.maxLocals == mx && c.exceptionTable.isEmpty && decide (c.maxStack ≤ mostOperands) && decide (meth.sig.returnType = rt) && !meth.locks && decide (parseMethodDescriptor y.desc = some meth.sig)) = true) : (Jvm.Cond.code y bytes mx rt).before a s = true := by
  simp only [Bool.and_eq_true, beq_iff_eq, Bool.not_eq_true', decide_eq_true_eq] at h5
  obtain ⟨⟨⟨⟨⟨g1, g2⟩, g3⟩, g4⟩, g5⟩, g6⟩ := h5
  simp [Cond.before, Cond.holds, Cond.value, h1, h2, h3, h4, g1, g2, g3, g4, g5, g6]
def isCode : Jvm.Cond → Bool
  | .code _ _ _ _ => true
  | _ => false
theorem all_split {L : List Jvm.Cond} {P : Jvm.Cond → Bool} (h1 : L.all (fun c => isCode c || P c) = true) (h2 : ∀ c ∈ L.filter isCode, P c = true) : L.all P = true := by
  refine List.all_eq_true.mpr fun c hc => ?_
  have h := List.all_eq_true.mp h1 c hc
  rcases Bool.eq_false_or_eq_true (isCode c) with hi | hi
  · exact h2 c (List.mem_filter.mpr ⟨hc, hi⟩)
  · simpa [hi] using h
set_option maxRecDepth 65536 in
theorem w_c0 : (Jvm.Cond.code x code maxLocals ret).before args0 about1 = true := code_word (m := ⟨1, 1⟩) (meth := k1m1) (c := k1c1) (by decide +kernel) rfl rfl rfl (by decide +kernel)
set_option maxRecDepth 65536 in
abbrev cd0 : Jvm.Cond := Jvm.Cond.code ({ cls := "java/lang/String", name := "valueOf", desc := "(C)Ljava/lang/String;" } : Jvm.MethodName) jdk_42_method_139_code (1 : Nat) (Option.some (Jvm.ClassFile.FieldType.object "java/lang/String"))
theorem w_c1 : cd0.before args0 about1 = true := code_word (m := ⟨7, 2⟩) (meth := k7m2) (c := k7c2) (by decide +kernel) rfl rfl rfl (by decide +kernel)
set_option maxRecDepth 65536 in
abbrev cd1 : Jvm.Cond := Jvm.Cond.code ({ cls := "java/lang/StringLatin1", name := "canEncode", desc := "(C)Z" } : Jvm.MethodName) jdk_43_method_3_code (1 : Nat) (Option.some Jvm.ClassFile.FieldType.boolean)
theorem w_c2 : cd1.before args0 about1 = true := code_word (m := ⟨8, 1⟩) (meth := k8m1) (c := k8c1) (by decide +kernel) rfl rfl rfl (by decide +kernel)
set_option maxRecDepth 65536 in
abbrev cd2 : Jvm.Cond := Jvm.Cond.code ({ cls := "java/lang/StringLatin1", name := "toBytes", desc := "(C)[B" } : Jvm.MethodName) jdk_43_method_46_code (1 : Nat) (Option.some (Jvm.ClassFile.FieldType.array Jvm.ClassFile.FieldType.byte))
theorem w_c3 : cd2.before args0 about1 = true := code_word (m := ⟨8, 3⟩) (meth := k8m3) (c := k8c3) (by decide +kernel) rfl rfl rfl (by decide +kernel)
set_option maxRecDepth 65536 in
abbrev cd3 : Jvm.Cond := Jvm.Cond.code ({ cls := "java/lang/String", name := "<init>", desc := "([BB)V" } : Jvm.MethodName) jdk_42_method_151_code (3 : Nat) (Option.none : Option Jvm.ClassFile.FieldType)
theorem w_c4 : cd3.before args0 about1 = true := code_word (m := ⟨7, 3⟩) (meth := k7m3) (c := k7c3) (by decide +kernel) rfl rfl rfl (by decide +kernel)
set_option maxRecDepth 65536 in
abbrev cd4 : Jvm.Cond := Jvm.Cond.code ({ cls := "java/lang/Object", name := "<init>", desc := "()V" } : Jvm.MethodName) object_method_1_code (1 : Nat) (Option.none : Option Jvm.ClassFile.FieldType)
theorem w_c5 : cd4.before args0 about1 = true := code_word (m := ⟨0, 0⟩) (meth := k0m0) (c := k0c0) (by decide +kernel) rfl rfl rfl (by decide +kernel)
set_option maxRecDepth 65536 in
abbrev cd5 : Jvm.Cond := Jvm.Cond.code ({ cls := "com/example/doctype_in_dom/doctypeindom/definitions/ContentParticleImpl", name := "name", desc := "(Ljava/lang/String;II)Lcom/example/doctype_in_dom/doctypeindom/definitions/ContentParticleImpl;" } : Jvm.MethodName) prog_3_method_2_code (3 : Nat) (Option.some (Jvm.ClassFile.FieldType.object "com/example/doctype_in_dom/doctypeindom/definitions/ContentParticleImpl"))
theorem w_c6 : cd5.before args0 about1 = true := code_word (m := ⟨10, 1⟩) (meth := k10m1) (c := k10c1) (by decide +kernel) rfl rfl rfl (by decide +kernel)
set_option maxRecDepth 65536 in
abbrev cd6 : Jvm.Cond := Jvm.Cond.code ({ cls := "java/util/List", name := "of", desc := "()Ljava/util/List;" } : Jvm.MethodName) jdk_40_method_36_code (0 : Nat) (Option.some (Jvm.ClassFile.FieldType.object "java/util/List"))
theorem w_c7 : cd6.before args0 about1 = true := code_word (m := ⟨14, 4⟩) (meth := k14m4) (c := k14c4) (by decide +kernel) rfl rfl rfl (by decide +kernel)
set_option maxRecDepth 65536 in
abbrev cd7 : Jvm.Cond := Jvm.Cond.code ({ cls := "com/example/doctype_in_dom/doctypeindom/definitions/ContentParticleImpl", name := "<init>", desc := "(SLjava/lang/String;IILjava/util/List;)V" } : Jvm.MethodName) prog_3_method_1_code (9 : Nat) (Option.none : Option Jvm.ClassFile.FieldType)
theorem w_c8 : cd7.before args0 about1 = true := code_word (m := ⟨10, 0⟩) (meth := k10m0) (c := k10c0) (by decide +kernel) rfl rfl rfl (by decide +kernel)
set_option maxRecDepth 65536 in
abbrev cd8 : Jvm.Cond := Jvm.Cond.code ({ cls := "java/util/Objects", name := "hashCode", desc := "(Ljava/lang/Object;)I" } : Jvm.MethodName) jdk_31_method_4_code (1 : Nat) (Option.some Jvm.ClassFile.FieldType.int)
theorem w_c9 : cd8.before args0 about1 = true := code_word (m := ⟨16, 2⟩) (meth := k16m2) (c := k16c2) (by decide +kernel) rfl rfl rfl (by decide +kernel)
set_option maxRecDepth 65536 in
abbrev cd9 : Jvm.Cond := Jvm.Cond.code ({ cls := "java/lang/String", name := "hashCode", desc := "()I" } : Jvm.MethodName) jdk_42_method_78_code (2 : Nat) (Option.some Jvm.ClassFile.FieldType.int)
theorem w_c10 : cd9.before args0 about1 = true := code_word (m := ⟨7, 1⟩) (meth := k7m1) (c := k7c1) (by decide +kernel) rfl rfl rfl (by decide +kernel)
set_option maxRecDepth 65536 in
abbrev cd10 : Jvm.Cond := Jvm.Cond.code ({ cls := "java/lang/String", name := "isLatin1", desc := "()Z" } : Jvm.MethodName) jdk_42_method_154_code (1 : Nat) (Option.some Jvm.ClassFile.FieldType.boolean)
theorem w_c11 : cd10.before args0 about1 = true := code_word (m := ⟨7, 4⟩) (meth := k7m4) (c := k7c4) (by decide +kernel) rfl rfl rfl (by decide +kernel)
set_option maxRecDepth 65536 in
abbrev cd11 : Jvm.Cond := Jvm.Cond.code ({ cls := "java/lang/StringLatin1", name := "hashCode", desc := "([B)I" } : Jvm.MethodName) jdk_43_method_21_code (1 : Nat) (Option.some Jvm.ClassFile.FieldType.int)
theorem w_c12 : cd11.before args0 about1 = true := code_word (m := ⟨8, 2⟩) (meth := k8m2) (c := k8c2) (by decide +kernel) rfl rfl rfl (by decide +kernel)
set_option maxRecDepth 65536 in
abbrev cd12 : Jvm.Cond := Jvm.Cond.code ({ cls := "java/util/ImmutableCollections$AbstractImmutableList", name := "iterator", desc := "()Ljava/util/Iterator;" } : Jvm.MethodName) jdk_46_method_10_code (1 : Nat) (Option.some (Jvm.ClassFile.FieldType.object "java/util/Iterator"))
theorem w_c13 : cd12.before args0 about1 = true := code_word (m := ⟨20, 1⟩) (meth := k20m1) (c := k20c1) (by decide +kernel) rfl rfl rfl (by decide +kernel)
set_option maxRecDepth 65536 in
abbrev cd13 : Jvm.Cond := Jvm.Cond.code ({ cls := "java/util/ImmutableCollections$ListN", name := "size", desc := "()I" } : Jvm.MethodName) jdk_45_method_3_code (1 : Nat) (Option.some Jvm.ClassFile.FieldType.int)
theorem w_c14 : cd13.before args0 about1 = true := code_word (m := ⟨21, 0⟩) (meth := k21m0) (c := k21c0) (by decide +kernel) rfl rfl rfl (by decide +kernel)
set_option maxRecDepth 65536 in
abbrev cd14 : Jvm.Cond := Jvm.Cond.code ({ cls := "java/util/ImmutableCollections$ListItr", name := "<init>", desc := "(Ljava/util/List;I)V" } : Jvm.MethodName) jdk_53_method_1_code (3 : Nat) (Option.none : Option Jvm.ClassFile.FieldType)
theorem w_c15 : cd14.before args0 about1 = true := code_word (m := ⟨24, 0⟩) (meth := k24m0) (c := k24c0) (by decide +kernel) rfl rfl rfl (by decide +kernel)
set_option maxRecDepth 65536 in
abbrev cd15 : Jvm.Cond := Jvm.Cond.code ({ cls := "java/util/ImmutableCollections$ListItr", name := "hasNext", desc := "()Z" } : Jvm.MethodName) jdk_53_method_3_code (1 : Nat) (Option.some Jvm.ClassFile.FieldType.boolean)
theorem w_c16 : cd15.before args0 about1 = true := code_word (m := ⟨24, 1⟩) (meth := k24m1) (c := k24c1) (by decide +kernel) rfl rfl rfl (by decide +kernel)
set_option maxRecDepth 65536 in
abbrev cd16 : Jvm.Cond := Jvm.Cond.code ({ cls := "java/util/ArrayList", name := "<init>", desc := "()V" } : Jvm.MethodName) jdk_38_method_2_code (1 : Nat) (Option.none : Option Jvm.ClassFile.FieldType)
theorem w_c17 : cd16.before args0 about1 = true := code_word (m := ⟨27, 0⟩) (meth := k27m0) (c := k27c0) (by decide +kernel) rfl rfl rfl (by decide +kernel)
set_option maxRecDepth 65536 in
abbrev cd17 : Jvm.Cond := Jvm.Cond.code ({ cls := "java/util/AbstractList", name := "<init>", desc := "()V" } : Jvm.MethodName) jdk_39_method_1_code (1 : Nat) (Option.none : Option Jvm.ClassFile.FieldType)
theorem w_c18 : cd17.before args0 about1 = true := code_word (m := ⟨25, 0⟩) (meth := k25m0) (c := k25c0) (by decide +kernel) rfl rfl rfl (by decide +kernel)
set_option maxRecDepth 65536 in
abbrev cd18 : Jvm.Cond := Jvm.Cond.code ({ cls := "java/util/AbstractCollection", name := "<init>", desc := "()V" } : Jvm.MethodName) jdk_22_method_1_code (1 : Nat) (Option.none : Option Jvm.ClassFile.FieldType)
theorem w_c19 : cd18.before args0 about1 = true := code_word (m := ⟨17, 0⟩) (meth := k17m0) (c := k17c0) (by decide +kernel) rfl rfl rfl (by decide +kernel)
set_option maxRecDepth 65536 in
abbrev cd19 : Jvm.Cond := Jvm.Cond.code ({ cls := "java/util/ArrayList", name := "add", desc := "(Ljava/lang/Object;)Z" } : Jvm.MethodName) jdk_38_method_25_code (2 : Nat) (Option.some Jvm.ClassFile.FieldType.boolean)
theorem w_c20 : cd19.before args0 about1 = true := code_word (m := ⟨27, 7⟩) (meth := k27m7) (c := k27c7) (by decide +kernel) rfl rfl rfl (by decide +kernel)
set_option maxRecDepth 65536 in
abbrev cd20 : Jvm.Cond := Jvm.Cond.code ({ cls := "java/util/ArrayList", name := "add", desc := "(Ljava/lang/Object;[Ljava/lang/Object;I)V" } : Jvm.MethodName) jdk_38_method_24_code (4 : Nat) (Option.none : Option Jvm.ClassFile.FieldType)
theorem w_c21 : cd20.before args0 about1 = true := code_word (m := ⟨27, 6⟩) (meth := k27m6) (c := k27c6) (by decide +kernel) rfl rfl rfl (by decide +kernel)
set_option maxRecDepth 65536 in
abbrev cd21 : Jvm.Cond := Jvm.Cond.code ({ cls := "java/util/ArrayList", name := "grow", desc := "()[Ljava/lang/Object;" } : Jvm.MethodName) jdk_38_method_7_code (1 : Nat) (Option.some (Jvm.ClassFile.FieldType.array (Jvm.ClassFile.FieldType.object "java/lang/Object")))
theorem w_c22 : cd21.before args0 about1 = true := code_word (m := ⟨27, 2⟩) (meth := k27m2) (c := k27c2) (by decide +kernel) rfl rfl rfl (by decide +kernel)
set_option maxRecDepth 65536 in
abbrev cd22 : Jvm.Cond := Jvm.Cond.code ({ cls := "java/util/ArrayList", name := "grow", desc := "(I)[Ljava/lang/Object;" } : Jvm.MethodName) jdk_38_method_6_code (4 : Nat) (Option.some (Jvm.ClassFile.FieldType.array (Jvm.ClassFile.FieldType.object "java/lang/Object")))
theorem w_c23 : cd22.before args0 about1 = true := code_word (m := ⟨27, 1⟩) (meth := k27m1) (c := k27c1) (by decide +kernel) rfl rfl rfl (by decide +kernel)
set_option maxRecDepth 65536 in
abbrev cd23 : Jvm.Cond := Jvm.Cond.code ({ cls := "java/lang/Math", name := "max", desc := "(II)I" } : Jvm.MethodName) jdk_29_method_65_code (2 : Nat) (Option.some Jvm.ClassFile.FieldType.int)
theorem w_c24 : cd23.before args0 about1 = true := code_word (m := ⟨28, 1⟩) (meth := k28m1) (c := k28c1) (by decide +kernel) rfl rfl rfl (by decide +kernel)
set_option maxRecDepth 65536 in
abbrev cd24 : Jvm.Cond := Jvm.Cond.code ({ cls := "com/example/doctype_in_dom/doctypeindom/definitions/ContentParticleImpl", name := "group", desc := "(SLjava/util/List;II)Lcom/example/doctype_in_dom/doctypeindom/definitions/ContentParticleImpl;" } : Jvm.MethodName) prog_3_method_3_code (4 : Nat) (Option.some (Jvm.ClassFile.FieldType.object "com/example/doctype_in_dom/doctypeindom/definitions/ContentParticleImpl"))
theorem w_c25 : cd24.before args0 about1 = true := code_word (m := ⟨10, 2⟩) (meth := k10m2) (c := k10c2) (by decide +kernel) rfl rfl rfl (by decide +kernel)
set_option maxRecDepth 65536 in
abbrev cd25 : Jvm.Cond := Jvm.Cond.code ({ cls := "java/util/Collections", name := "unmodifiableList", desc := "(Ljava/util/List;)Ljava/util/List;" } : Jvm.MethodName) jdk_79_method_35_code (1 : Nat) (Option.some (Jvm.ClassFile.FieldType.object "java/util/List"))
theorem w_c26 : cd25.before args0 about1 = true := code_word (m := ⟨29, 1⟩) (meth := k29m1) (c := k29c1) (by decide +kernel) rfl rfl rfl (by decide +kernel)
set_option maxRecDepth 65536 in
abbrev cd26 : Jvm.Cond := Jvm.Cond.code ({ cls := "java/util/Collections$UnmodifiableRandomAccessList", name := "<init>", desc := "(Ljava/util/List;)V" } : Jvm.MethodName) jdk_121_method_1_code (2 : Nat) (Option.none : Option Jvm.ClassFile.FieldType)
theorem w_c27 : cd26.before args0 about1 = true := code_word (m := ⟨32, 0⟩) (meth := k32m0) (c := k32c0) (by decide +kernel) rfl rfl rfl (by decide +kernel)
set_option maxRecDepth 65536 in
abbrev cd27 : Jvm.Cond := Jvm.Cond.code ({ cls := "java/util/Collections$UnmodifiableList", name := "<init>", desc := "(Ljava/util/List;)V" } : Jvm.MethodName) jdk_120_method_1_code (2 : Nat) (Option.none : Option Jvm.ClassFile.FieldType)
theorem w_c28 : cd27.before args0 about1 = true := code_word (m := ⟨31, 0⟩) (meth := k31m0) (c := k31c0) (by decide +kernel) rfl rfl rfl (by decide +kernel)
set_option maxRecDepth 65536 in
abbrev cd28 : Jvm.Cond := Jvm.Cond.code ({ cls := "java/util/Collections$UnmodifiableCollection", name := "<init>", desc := "(Ljava/util/Collection;)V" } : Jvm.MethodName) jdk_119_method_1_code (2 : Nat) (Option.none : Option Jvm.ClassFile.FieldType)
theorem w_c29 : cd28.before args0 about1 = true := code_word (m := ⟨30, 0⟩) (meth := k30m0) (c := k30c0) (by decide +kernel) rfl rfl rfl (by decide +kernel)
set_option maxRecDepth 65536 in
abbrev cd29 : Jvm.Cond := Jvm.Cond.code ({ cls := "java/util/Collections$UnmodifiableCollection", name := "iterator", desc := "()Ljava/util/Iterator;" } : Jvm.MethodName) jdk_119_method_9_code (1 : Nat) (Option.some (Jvm.ClassFile.FieldType.object "java/util/Iterator"))
theorem w_c30 : cd29.before args0 about1 = true := code_word (m := ⟨30, 2⟩) (meth := k30m2) (c := k30c2) (by decide +kernel) rfl rfl rfl (by decide +kernel)
set_option maxRecDepth 65536 in
abbrev cd30 : Jvm.Cond := Jvm.Cond.code ({ cls := "java/util/Collections$UnmodifiableCollection$1", name := "<init>", desc := "(Ljava/util/Collections$UnmodifiableCollection;)V" } : Jvm.MethodName) jdk_135_method_1_code (2 : Nat) (Option.none : Option Jvm.ClassFile.FieldType)
theorem w_c31 : cd30.before args0 about1 = true := code_word (m := ⟨33, 0⟩) (meth := k33m0) (c := k33c0) (by decide +kernel) rfl rfl rfl (by decide +kernel)
set_option maxRecDepth 65536 in
abbrev cd31 : Jvm.Cond := Jvm.Cond.code ({ cls := "java/util/ArrayList", name := "iterator", desc := "()Ljava/util/Iterator;" } : Jvm.MethodName) jdk_38_method_55_code (1 : Nat) (Option.some (Jvm.ClassFile.FieldType.object "java/util/Iterator"))
theorem w_c32 : cd31.before args0 about1 = true := code_word (m := ⟨27, 8⟩) (meth := k27m8) (c := k27c8) (by decide +kernel) rfl rfl rfl (by decide +kernel)
set_option maxRecDepth 65536 in
abbrev cd32 : Jvm.Cond := Jvm.Cond.code ({ cls := "java/util/ArrayList$Itr", name := "<init>", desc := "(Ljava/util/ArrayList;)V" } : Jvm.MethodName) jdk_49_method_1_code (2 : Nat) (Option.none : Option Jvm.ClassFile.FieldType)
theorem w_c33 : cd32.before args0 about1 = true := code_word (m := ⟨34, 0⟩) (meth := k34m0) (c := k34c0) (by decide +kernel) rfl rfl rfl (by decide +kernel)
set_option maxRecDepth 65536 in
abbrev cd33 : Jvm.Cond := Jvm.Cond.code ({ cls := "java/util/Collections$UnmodifiableCollection$1", name := "hasNext", desc := "()Z" } : Jvm.MethodName) jdk_135_method_2_code (1 : Nat) (Option.some Jvm.ClassFile.FieldType.boolean)
theorem w_c34 : cd33.before args0 about1 = true := code_word (m := ⟨33, 1⟩) (meth := k33m1) (c := k33c1) (by decide +kernel) rfl rfl rfl (by decide +kernel)
set_option maxRecDepth 65536 in
abbrev cd34 : Jvm.Cond := Jvm.Cond.code ({ cls := "java/util/ArrayList$Itr", name := "hasNext", desc := "()Z" } : Jvm.MethodName) jdk_49_method_2_code (1 : Nat) (Option.some Jvm.ClassFile.FieldType.boolean)
theorem w_c35 : cd34.before args0 about1 = true := code_word (m := ⟨34, 1⟩) (meth := k34m1) (c := k34c1) (by decide +kernel) rfl rfl rfl (by decide +kernel)
set_option maxRecDepth 65536 in
abbrev cd35 : Jvm.Cond := Jvm.Cond.code ({ cls := "java/util/Collections$UnmodifiableCollection$1", name := "next", desc := "()Ljava/lang/Object;" } : Jvm.MethodName) jdk_135_method_3_code (1 : Nat) (Option.some (Jvm.ClassFile.FieldType.object "java/lang/Object"))
theorem w_c36 : cd35.before args0 about1 = true := code_word (m := ⟨33, 2⟩) (meth := k33m2) (c := k33c2) (by decide +kernel) rfl rfl rfl (by decide +kernel)
set_option maxRecDepth 65536 in
abbrev cd36 : Jvm.Cond := Jvm.Cond.code ({ cls := "java/util/ArrayList$Itr", name := "next", desc := "()Ljava/lang/Object;" } : Jvm.MethodName) jdk_49_method_3_code (3 : Nat) (Option.some (Jvm.ClassFile.FieldType.object "java/lang/Object"))
theorem w_c37 : cd36.before args0 about1 = true := code_word (m := ⟨34, 2⟩) (meth := k34m2) (c := k34c2) (by decide +kernel) rfl rfl rfl (by decide +kernel)
set_option maxRecDepth 65536 in
abbrev cd37 : Jvm.Cond := Jvm.Cond.code ({ cls := "java/util/ArrayList$Itr", name := "checkForComodification", desc := "()V" } : Jvm.MethodName) jdk_49_method_6_code (1 : Nat) (Option.none : Option Jvm.ClassFile.FieldType)
theorem w_c38 : cd37.before args0 about1 = true := code_word (m := ⟨34, 3⟩) (meth := k34m3) (c := k34c3) (by decide +kernel) rfl rfl rfl (by decide +kernel)
set_option maxRecDepth 65536 in
abbrev cd38 : Jvm.Cond := Jvm.Cond.code ({ cls := "com/example/doctype_in_dom/doctypeindom/definitions/ContentParticleImpl", name := "hashCode", desc := "()I" } : Jvm.MethodName) prog_3_method_11_code (1 : Nat) (Option.some Jvm.ClassFile.FieldType.int)
theorem w_c39 : cd38.before args0 about1 = true := code_word (m := ⟨10, 10⟩) (meth := k10m10) (c := k10c10) (by decide +kernel) rfl rfl rfl (by decide +kernel)
set_option maxRecDepth 65536 in
abbrev cd39 : Jvm.Cond := Jvm.Cond.code ({ cls := "com/example/doctype_in_dom/doctypeindom/definitions/ContentParticleImpl", name := "getParticles", desc := "()Ljava/util/List;" } : Jvm.MethodName) prog_3_method_8_code (1 : Nat) (Option.some (Jvm.ClassFile.FieldType.object "java/util/List"))
theorem w_c40 : cd39.before args0 about1 = true := code_word (m := ⟨10, 7⟩) (meth := k10m7) (c := k10c7) (by decide +kernel) rfl rfl rfl (by decide +kernel)
set_option maxRecDepth 65536 in
abbrev cd40 : Jvm.Cond := Jvm.Cond.code ({ cls := "com/example/doctype_in_dom/doctypeindom/definitions/ContentParticleImpl", name := "getParticleType", desc := "()S" } : Jvm.MethodName) prog_3_method_4_code (1 : Nat) (Option.some Jvm.ClassFile.FieldType.short)
theorem w_c41 : cd40.before args0 about1 = true := code_word (m := ⟨10, 3⟩) (meth := k10m3) (c := k10c3) (by decide +kernel) rfl rfl rfl (by decide +kernel)
set_option maxRecDepth 65536 in
abbrev cd41 : Jvm.Cond := Jvm.Cond.code ({ cls := "com/example/doctype_in_dom/doctypeindom/definitions/ContentParticleImpl", name := "getName", desc := "()Ljava/lang/String;" } : Jvm.MethodName) prog_3_method_5_code (1 : Nat) (Option.some (Jvm.ClassFile.FieldType.object "java/lang/String"))
theorem w_c42 : cd41.before args0 about1 = true := code_word (m := ⟨10, 4⟩) (meth := k10m4) (c := k10c4) (by decide +kernel) rfl rfl rfl (by decide +kernel)
set_option maxRecDepth 65536 in
abbrev cd42 : Jvm.Cond := Jvm.Cond.code ({ cls := "com/example/doctype_in_dom/doctypeindom/definitions/ContentParticleImpl", name := "getMinOccurs", desc := "()I" } : Jvm.MethodName) prog_3_method_6_code (1 : Nat) (Option.some Jvm.ClassFile.FieldType.int)
theorem w_c43 : cd42.before args0 about1 = true := code_word (m := ⟨10, 5⟩) (meth := k10m5) (c := k10c5) (by decide +kernel) rfl rfl rfl (by decide +kernel)
set_option maxRecDepth 65536 in
abbrev cd43 : Jvm.Cond := Jvm.Cond.code ({ cls := "com/example/doctype_in_dom/doctypeindom/definitions/ContentParticleImpl", name := "getMaxOccurs", desc := "()I" } : Jvm.MethodName) prog_3_method_7_code (1 : Nat) (Option.some Jvm.ClassFile.FieldType.int)
theorem w_c44 : cd43.before args0 about1 = true := code_word (m := ⟨10, 6⟩) (meth := k10m6) (c := k10c6) (by decide +kernel) rfl rfl rfl (by decide +kernel)
set_option maxRecDepth 65536 in
abbrev cd44 : Jvm.Cond := Jvm.Cond.code ({ cls := "java/util/Collections$UnmodifiableCollection", name := "size", desc := "()I" } : Jvm.MethodName) jdk_119_method_2_code (1 : Nat) (Option.some Jvm.ClassFile.FieldType.int)
theorem w_c45 : cd44.before args0 about1 = true := code_word (m := ⟨30, 1⟩) (meth := k30m1) (c := k30c1) (by decide +kernel) rfl rfl rfl (by decide +kernel)
set_option maxRecDepth 65536 in
abbrev cd45 : Jvm.Cond := Jvm.Cond.code ({ cls := "java/util/ArrayList", name := "size", desc := "()I" } : Jvm.MethodName) jdk_38_method_8_code (1 : Nat) (Option.some Jvm.ClassFile.FieldType.int)
theorem w_c46 : cd45.before args0 about1 = true := code_word (m := ⟨27, 3⟩) (meth := k27m3) (c := k27c3) (by decide +kernel) rfl rfl rfl (by decide +kernel)
set_option maxRecDepth 65536 in
abbrev cd46 : Jvm.Cond := Jvm.Cond.code ({ cls := "java/util/Collections$UnmodifiableList", name := "get", desc := "(I)Ljava/lang/Object;" } : Jvm.MethodName) jdk_120_method_4_code (2 : Nat) (Option.some (Jvm.ClassFile.FieldType.object "java/lang/Object"))
theorem w_c47 : cd46.before args0 about1 = true := code_word (m := ⟨31, 1⟩) (meth := k31m1) (c := k31c1) (by decide +kernel) rfl rfl rfl (by decide +kernel)
set_option maxRecDepth 65536 in
abbrev cd47 : Jvm.Cond := Jvm.Cond.code ({ cls := "java/util/ArrayList", name := "get", desc := "(I)Ljava/lang/Object;" } : Jvm.MethodName) jdk_38_method_20_code (2 : Nat) (Option.some (Jvm.ClassFile.FieldType.object "java/lang/Object"))
theorem w_c48 : cd47.before args0 about1 = true := code_word (m := ⟨27, 5⟩) (meth := k27m5) (c := k27c5) (by decide +kernel) rfl rfl rfl (by decide +kernel)
set_option maxRecDepth 65536 in
abbrev cd48 : Jvm.Cond := Jvm.Cond.code ({ cls := "java/util/Objects", name := "checkIndex", desc := "(II)I" } : Jvm.MethodName) jdk_31_method_17_code (2 : Nat) (Option.some Jvm.ClassFile.FieldType.int)
theorem w_c49 : cd48.before args0 about1 = true := code_word (m := ⟨16, 3⟩) (meth := k16m3) (c := k16c3) (by decide +kernel) rfl rfl rfl (by decide +kernel)
set_option maxRecDepth 65536 in
abbrev cd49 : Jvm.Cond := Jvm.Cond.code ({ cls := "jdk/internal/util/Preconditions", name := "checkIndex", desc := "(IILjava/util/function/BiFunction;)I" } : Jvm.MethodName) jdk_41_method_11_code (3 : Nat) (Option.some Jvm.ClassFile.FieldType.int)
theorem w_c50 : cd49.before args0 about1 = true := code_word (m := ⟨35, 1⟩) (meth := k35m1) (c := k35c1) (by decide +kernel) rfl rfl rfl (by decide +kernel)
set_option maxRecDepth 65536 in
abbrev cd50 : Jvm.Cond := Jvm.Cond.code ({ cls := "java/util/ArrayList", name := "elementData", desc := "(I)Ljava/lang/Object;" } : Jvm.MethodName) jdk_38_method_18_code (2 : Nat) (Option.some (Jvm.ClassFile.FieldType.object "java/lang/Object"))
theorem w_c51 : cd50.before args0 about1 = true := code_word (m := ⟨27, 4⟩) (meth := k27m4) (c := k27c4) (by decide +kernel) rfl rfl rfl (by decide +kernel)
set_option maxRecDepth 65536 in
abbrev cd51 : Jvm.Cond := Jvm.Cond.code ({ cls := "com/example/doctype_in_dom/doctypeindom/definitions/ContentParticleImpl", name := "equals", desc := "(Ljava/lang/Object;)Z" } : Jvm.MethodName) prog_3_method_9_code (7 : Nat) (Option.some Jvm.ClassFile.FieldType.boolean)
theorem w_c52 : cd51.before args0 about1 = true := code_word (m := ⟨10, 8⟩) (meth := k10m8) (c := k10c8) (by decide +kernel) rfl rfl rfl (by decide +kernel)
set_option maxRecDepth 65536 in
abbrev cd52 : Jvm.Cond := Jvm.Cond.code ({ cls := "java/util/ArrayDeque", name := "<init>", desc := "()V" } : Jvm.MethodName) jdk_21_method_3_code (1 : Nat) (Option.none : Option Jvm.ClassFile.FieldType)
theorem w_c53 : cd52.before args0 about1 = true := code_word (m := ⟨38, 0⟩) (meth := k38m0) (c := k38c0) (by decide +kernel) rfl rfl rfl (by decide +kernel)
set_option maxRecDepth 65536 in
abbrev cd53 : Jvm.Cond := Jvm.Cond.code ({ cls := "java/util/ArrayDeque", name := "push", desc := "(Ljava/lang/Object;)V" } : Jvm.MethodName) jdk_21_method_34_code (2 : Nat) (Option.none : Option Jvm.ClassFile.FieldType)
theorem w_c54 : cd53.before args0 about1 = true := code_word (m := ⟨38, 7⟩) (meth := k38m7) (c := k38c7) (by decide +kernel) rfl rfl rfl (by decide +kernel)
set_option maxRecDepth 65536 in
abbrev cd54 : Jvm.Cond := Jvm.Cond.code ({ cls := "java/util/ArrayDeque", name := "addFirst", desc := "(Ljava/lang/Object;)V" } : Jvm.MethodName) jdk_21_method_12_code (3 : Nat) (Option.none : Option Jvm.ClassFile.FieldType)
theorem w_c55 : cd54.before args0 about1 = true := code_word (m := ⟨38, 4⟩) (meth := k38m4) (c := k38c4) (by decide +kernel) rfl rfl rfl (by decide +kernel)
set_option maxRecDepth 65536 in
abbrev cd55 : Jvm.Cond := Jvm.Cond.code ({ cls := "java/util/ArrayDeque", name := "dec", desc := "(II)I" } : Jvm.MethodName) jdk_21_method_7_code (2 : Nat) (Option.some Jvm.ClassFile.FieldType.int)
theorem w_c56 : cd55.before args0 about1 = true := code_word (m := ⟨38, 2⟩) (meth := k38m2) (c := k38c2) (by decide +kernel) rfl rfl rfl (by decide +kernel)
set_option maxRecDepth 65536 in
abbrev cd56 : Jvm.Cond := Jvm.Cond.code ({ cls := "java/util/ArrayDeque", name := "isEmpty", desc := "()Z" } : Jvm.MethodName) jdk_21_method_38_code (1 : Nat) (Option.some Jvm.ClassFile.FieldType.boolean)
theorem w_c57 : cd56.before args0 about1 = true := code_word (m := ⟨38, 9⟩) (meth := k38m9) (c := k38c9) (by decide +kernel) rfl rfl rfl (by decide +kernel)
set_option maxRecDepth 65536 in
abbrev cd57 : Jvm.Cond := Jvm.Cond.code ({ cls := "java/util/ArrayDeque", name := "pop", desc := "()Ljava/lang/Object;" } : Jvm.MethodName) jdk_21_method_35_code (1 : Nat) (Option.some (Jvm.ClassFile.FieldType.object "java/lang/Object"))
theorem w_c58 : cd57.before args0 about1 = true := code_word (m := ⟨38, 8⟩) (meth := k38m8) (c := k38c8) (by decide +kernel) rfl rfl rfl (by decide +kernel)
set_option maxRecDepth 65536 in
abbrev cd58 : Jvm.Cond := Jvm.Cond.code ({ cls := "java/util/ArrayDeque", name := "removeFirst", desc := "()Ljava/lang/Object;" } : Jvm.MethodName) jdk_21_method_18_code (2 : Nat) (Option.some (Jvm.ClassFile.FieldType.object "java/lang/Object"))
theorem w_c59 : cd58.before args0 about1 = true := code_word (m := ⟨38, 5⟩) (meth := k38m5) (c := k38c5) (by decide +kernel) rfl rfl rfl (by decide +kernel)
set_option maxRecDepth 65536 in
abbrev cd59 : Jvm.Cond := Jvm.Cond.code ({ cls := "java/util/ArrayDeque", name := "pollFirst", desc := "()Ljava/lang/Object;" } : Jvm.MethodName) jdk_21_method_20_code (4 : Nat) (Option.some (Jvm.ClassFile.FieldType.object "java/lang/Object"))
theorem w_c60 : cd59.before args0 about1 = true := code_word (m := ⟨38, 6⟩) (meth := k38m6) (c := k38c6) (by decide +kernel) rfl rfl rfl (by decide +kernel)
set_option maxRecDepth 65536 in
abbrev cd60 : Jvm.Cond := Jvm.Cond.code ({ cls := "java/util/ArrayDeque", name := "elementAt", desc := "([Ljava/lang/Object;I)Ljava/lang/Object;" } : Jvm.MethodName) jdk_21_method_10_code (2 : Nat) (Option.some (Jvm.ClassFile.FieldType.object "java/lang/Object"))
theorem w_c61 : cd60.before args0 about1 = true := code_word (m := ⟨38, 3⟩) (meth := k38m3) (c := k38c3) (by decide +kernel) rfl rfl rfl (by decide +kernel)
set_option maxRecDepth 65536 in
abbrev cd61 : Jvm.Cond := Jvm.Cond.code ({ cls := "java/util/ArrayDeque", name := "inc", desc := "(II)I" } : Jvm.MethodName) jdk_21_method_6_code (2 : Nat) (Option.some Jvm.ClassFile.FieldType.int)
theorem w_c62 : cd61.before args0 about1 = true := code_word (m := ⟨38, 1⟩) (meth := k38m1) (c := k38c1) (by decide +kernel) rfl rfl rfl (by decide +kernel)
set_option maxRecDepth 65536 in
abbrev cd62 : Jvm.Cond := Jvm.Cond.code ({ cls := "com/example/doctype_in_dom/doctypeindom/definitions/ContentParticleImpl", name := "equalsApartFromMembers", desc := "(Lcom/example/doctype_in_dom/doctypeindom/definitions/ContentParticleImpl;)Z" } : Jvm.MethodName) prog_3_method_10_code (2 : Nat) (Option.some Jvm.ClassFile.FieldType.boolean)
theorem w_c63 : cd62.before args0 about1 = true := code_word (m := ⟨10, 9⟩) (meth := k10m9) (c := k10c9) (by decide +kernel) rfl rfl rfl (by decide +kernel)
set_option maxRecDepth 65536 in
abbrev cd63 : Jvm.Cond := Jvm.Cond.code ({ cls := "java/util/Objects", name := "equals", desc := "(Ljava/lang/Object;Ljava/lang/Object;)Z" } : Jvm.MethodName) jdk_31_method_2_code (2 : Nat) (Option.some Jvm.ClassFile.FieldType.boolean)
theorem w_c64 : cd63.before args0 about1 = true := code_word (m := ⟨16, 1⟩) (meth := k16m1) (c := k16c1) (by decide +kernel) rfl rfl rfl (by decide +kernel)
def codes1 : List Jvm.Cond := [Jvm.Cond.code x code maxLocals ret, cd0, cd1, cd2, cd3, cd4, cd5, cd6, cd7, cd8, cd9, cd10, cd11, cd12, cd13, cd14, cd15, cd16, cd17, cd18, cd19, cd20, cd21, cd22, cd23, cd24, cd25, cd26, cd27, cd28, cd29, cd30, cd31, cd32, cd33, cd34, cd35, cd36, cd37, cd38, cd39, cd40, cd41, cd42, cd43, cd44, cd45, cd46, cd47, cd48, cd49, cd50, cd51, cd52, cd53, cd54, cd55, cd56, cd57, cd58, cd59, cd60, cd61, cd62, cd63]
set_option maxRecDepth 65536 in
theorem codes_eq : words1.filter isCode = codes1 := rfl
theorem w_codes : ∀ c ∈ words1.filter isCode, c.before args0 about1 = true := by
  rw [codes_eq]
  intro c hc
  simp only [codes1, List.mem_cons, List.not_mem_nil, or_false] at hc
  rcases hc with rfl | rfl | rfl | rfl | rfl | rfl | rfl | rfl | rfl | rfl | rfl | rfl | rfl | rfl | rfl | rfl | rfl | rfl | rfl | rfl | rfl | rfl | rfl | rfl | rfl | rfl | rfl | rfl | rfl | rfl | rfl | rfl | rfl | rfl | rfl | rfl | rfl | rfl | rfl | rfl | rfl | rfl | rfl | rfl | rfl | rfl | rfl | rfl | rfl | rfl | rfl | rfl | rfl | rfl | rfl | rfl | rfl | rfl | rfl | rfl | rfl | rfl | rfl | rfl | rfl
  · exact w_c0
  · exact w_c1
  · exact w_c2
  · exact w_c3
  · exact w_c4
  · exact w_c5
  · exact w_c6
  · exact w_c7
  · exact w_c8
  · exact w_c9
  · exact w_c10
  · exact w_c11
  · exact w_c12
  · exact w_c13
  · exact w_c14
  · exact w_c15
  · exact w_c16
  · exact w_c17
  · exact w_c18
  · exact w_c19
  · exact w_c20
  · exact w_c21
  · exact w_c22
  · exact w_c23
  · exact w_c24
  · exact w_c25
  · exact w_c26
  · exact w_c27
  · exact w_c28
  · exact w_c29
  · exact w_c30
  · exact w_c31
  · exact w_c32
  · exact w_c33
  · exact w_c34
  · exact w_c35
  · exact w_c36
  · exact w_c37
  · exact w_c38
  · exact w_c39
  · exact w_c40
  · exact w_c41
  · exact w_c42
  · exact w_c43
  · exact w_c44
  · exact w_c45
  · exact w_c46
  · exact w_c47
  · exact w_c48
  · exact w_c49
  · exact w_c50
  · exact w_c51
  · exact w_c52
  · exact w_c53
  · exact w_c54
  · exact w_c55
  · exact w_c56
  · exact w_c57
  · exact w_c58
  · exact w_c59
  · exact w_c60
  · exact w_c61
  · exact w_c62
  · exact w_c63
  · exact w_c64
set_option maxRecDepth 65536 in
theorem w_t1 : (words1.take 24).all (fun c => isCode c || c.before args0 about1) = true := by decide +kernel
set_option maxRecDepth 65536 in
theorem w_t2 : ((words1.drop 24).take 24).all (fun c => isCode c || c.before args0 about1) = true := by decide +kernel
set_option maxRecDepth 65536 in
theorem w_t3 : (((words1.drop 24).drop 24).take 24).all (fun c => isCode c || c.before args0 about1) = true := by decide +kernel
set_option maxRecDepth 65536 in
theorem w_t4 : ((((words1.drop 24).drop 24).drop 24).take 24).all (fun c => isCode c || c.before args0 about1) = true := by decide +kernel
set_option maxRecDepth 65536 in
theorem w_t5 : (((((words1.drop 24).drop 24).drop 24).drop 24).take 24).all (fun c => isCode c || c.before args0 about1) = true := by decide +kernel
set_option maxRecDepth 65536 in
theorem w_t6 : ((((((words1.drop 24).drop 24).drop 24).drop 24).drop 24).take 24).all (fun c => isCode c || c.before args0 about1) = true := by decide +kernel
set_option maxRecDepth 65536 in
theorem w_t7 : (((((((words1.drop 24).drop 24).drop 24).drop 24).drop 24).drop 24).take 24).all (fun c => isCode c || c.before args0 about1) = true := by decide +kernel
set_option maxRecDepth 65536 in
theorem w_t8 : ((((((((words1.drop 24).drop 24).drop 24).drop 24).drop 24).drop 24).drop 24).take 24).all (fun c => isCode c || c.before args0 about1) = true := by decide +kernel
set_option maxRecDepth 65536 in
theorem w_t9 : (((((((((words1.drop 24).drop 24).drop 24).drop 24).drop 24).drop 24).drop 24).drop 24).take 24).all (fun c => isCode c || c.before args0 about1) = true := by decide +kernel
set_option maxRecDepth 65536 in
theorem w_t10 : ((((((((((words1.drop 24).drop 24).drop 24).drop 24).drop 24).drop 24).drop 24).drop 24).drop 24).take 24).all (fun c => isCode c || c.before args0 about1) = true := by decide +kernel
set_option maxRecDepth 65536 in
theorem w_t11 : (((((((((((words1.drop 24).drop 24).drop 24).drop 24).drop 24).drop 24).drop 24).drop 24).drop 24).drop 24).take 24).all (fun c => isCode c || c.before args0 about1) = true := by decide +kernel
set_option maxRecDepth 65536 in
theorem w_t12 : ((((((((((((words1.drop 24).drop 24).drop 24).drop 24).drop 24).drop 24).drop 24).drop 24).drop 24).drop 24).drop 24).take 24).all (fun c => isCode c || c.before args0 about1) = true := by decide +kernel
set_option maxRecDepth 65536 in
theorem w_t13 : (((((((((((((words1.drop 24).drop 24).drop 24).drop 24).drop 24).drop 24).drop 24).drop 24).drop 24).drop 24).drop 24).drop 24).take 24).all (fun c => isCode c || c.before args0 about1) = true := by decide +kernel
set_option maxRecDepth 65536 in
theorem w_t14 : ((((((((((((((words1.drop 24).drop 24).drop 24).drop 24).drop 24).drop 24).drop 24).drop 24).drop 24).drop 24).drop 24).drop 24).drop 24).take 24).all (fun c => isCode c || c.before args0 about1) = true := by decide +kernel
set_option maxRecDepth 65536 in
theorem w_t15 : (((((((((((((((words1.drop 24).drop 24).drop 24).drop 24).drop 24).drop 24).drop 24).drop 24).drop 24).drop 24).drop 24).drop 24).drop 24).drop 24).take 24).all (fun c => isCode c || c.before args0 about1) = true := by decide +kernel
set_option maxRecDepth 65536 in
theorem w_t16 : ((((((((((((((((words1.drop 24).drop 24).drop 24).drop 24).drop 24).drop 24).drop 24).drop 24).drop 24).drop 24).drop 24).drop 24).drop 24).drop 24).drop 24).take 24).all (fun c => isCode c || c.before args0 about1) = true := by decide +kernel
set_option maxRecDepth 65536 in
theorem w_t17 : (((((((((((((((((words1.drop 24).drop 24).drop 24).drop 24).drop 24).drop 24).drop 24).drop 24).drop 24).drop 24).drop 24).drop 24).drop 24).drop 24).drop 24).drop 24).take 24).all (fun c => isCode c || c.before args0 about1) = true := by decide +kernel
set_option maxRecDepth 65536 in
theorem w_t18 : ((((((((((((((((((words1.drop 24).drop 24).drop 24).drop 24).drop 24).drop 24).drop 24).drop 24).drop 24).drop 24).drop 24).drop 24).drop 24).drop 24).drop 24).drop 24).drop 24).take 24).all (fun c => isCode c || c.before args0 about1) = true := by decide +kernel
set_option maxRecDepth 65536 in
theorem w_t19 : (((((((((((((((((((words1.drop 24).drop 24).drop 24).drop 24).drop 24).drop 24).drop 24).drop 24).drop 24).drop 24).drop 24).drop 24).drop 24).drop 24).drop 24).drop 24).drop 24).drop 24).take 24).all (fun c => isCode c || c.before args0 about1) = true := by decide +kernel
set_option maxRecDepth 65536 in
theorem w_t20 : (((((((((((((((((((words1.drop 24).drop 24).drop 24).drop 24).drop 24).drop 24).drop 24).drop 24).drop 24).drop 24).drop 24).drop 24).drop 24).drop 24).drop 24).drop 24).drop 24).drop 24).drop 24).all (fun c => isCode c || c.before args0 about1) = true := by decide +kernel
theorem w_tables : (allAtoms (Jvm.Cond.code x code maxLocals ret :: tables_1)).before args0 about1 = true := by
  rw [allAtoms_all]
  show words1.all (fun c => c.before args0 about1) = true
  refine all_split ?_ w_codes
  rw [← List.take_append_drop 24 words1, List.all_append, w_t1, ← List.take_append_drop 24 (words1.drop 24), List.all_append, w_t2, ← List.take_append_drop 24 ((words1.drop 24).drop 24), List.all_append, w_t3, ← List.take_append_drop 24 (((words1.drop 24).drop 24).drop 24), List.all_append, w_t4, ← List.take_append_drop 24 ((((words1.drop 24).drop 24).drop 24).drop 24), List.all_append, w_t5, ← List.take_append_drop 24 (((((words1.drop 24).drop 24).drop 24).drop 24).drop 24), List.all_append, w_t6, ← List.take_append_drop 24 ((((((words1.drop 24).drop 24).drop 24).drop 24).drop 24).drop 24), List.all_append, w_t7, ← List.take_append_drop 24 (((((((words1.drop 24).drop 24).drop 24).drop 24).drop 24).drop 24).drop 24), List.all_append, w_t8, ← List.take_append_drop 24 ((((((((words1.drop 24).drop 24).drop 24).drop 24).drop 24).drop 24).drop 24).drop 24), List.all_append, w_t9, ← List.take_append_drop 24 (((((((((words1.drop 24).drop 24).drop 24).drop 24).drop 24).drop 24).drop 24).drop 24).drop 24), List.all_append, w_t10, ← List.take_append_drop 24 ((((((((((words1.drop 24).drop 24).drop 24).drop 24).drop 24).drop 24).drop 24).drop 24).drop 24).drop 24), List.all_append, w_t11, ← List.take_append_drop 24 (((((((((((words1.drop 24).drop 24).drop 24).drop 24).drop 24).drop 24).drop 24).drop 24).drop 24).drop 24).drop 24), List.all_append, w_t12, ← List.take_append_drop 24 ((((((((((((words1.drop 24).drop 24).drop 24).drop 24).drop 24).drop 24).drop 24).drop 24).drop 24).drop 24).drop 24).drop 24), List.all_append, w_t13, ← List.take_append_drop 24 (((((((((((((words1.drop 24).drop 24).drop 24).drop 24).drop 24).drop 24).drop 24).drop 24).drop 24).drop 24).drop 24).drop 24).drop 24), List.all_append, w_t14, ← List.take_append_drop 24 ((((((((((((((words1.drop 24).drop 24).drop 24).drop 24).drop 24).drop 24).drop 24).drop 24).drop 24).drop 24).drop 24).drop 24).drop 24).drop 24), List.all_append, w_t15, ← List.take_append_drop 24 (((((((((((((((words1.drop 24).drop 24).drop 24).drop 24).drop 24).drop 24).drop 24).drop 24).drop 24).drop 24).drop 24).drop 24).drop 24).drop 24).drop 24), List.all_append, w_t16, ← List.take_append_drop 24 ((((((((((((((((words1.drop 24).drop 24).drop 24).drop 24).drop 24).drop 24).drop 24).drop 24).drop 24).drop 24).drop 24).drop 24).drop 24).drop 24).drop 24).drop 24), List.all_append, w_t17, ← List.take_append_drop 24 (((((((((((((((((words1.drop 24).drop 24).drop 24).drop 24).drop 24).drop 24).drop 24).drop 24).drop 24).drop 24).drop 24).drop 24).drop 24).drop 24).drop 24).drop 24).drop 24), List.all_append, w_t18, ← List.take_append_drop 24 ((((((((((((((((((words1.drop 24).drop 24).drop 24).drop 24).drop 24).drop 24).drop 24).drop 24).drop 24).drop 24).drop 24).drop 24).drop 24).drop 24).drop 24).drop 24).drop 24).drop 24), List.all_append, w_t19, w_t20]
  rfl
set_option maxRecDepth 65536 in
theorem w_rest : rest_1_c.before args0 about1 = true := by decide +kernel
set_option maxRecDepth 65536 in
theorem w_case : (Jvm.Cond.and given_1 narrow_1).before args0 about1 = true := by decide +kernel
theorem w_applies : (headSpec (Jvm.Cond.code x code maxLocals ret :: tables_1) room_1).applies x e0.platform about1 = true :=
  (Spec.applies_iff w_frames).mpr ⟨w_running, w_runnable, w_alone, w_named, w_hears, w_ripe, w_room, w_tables⟩
theorem atStart : AtStart classFile x code maxLocals ret World_1 tables_1 room_1 Calls_1 rest_1 Pre_1 launch0 p0 e0 about1 theMethod args0 below0 :=
  ⟨lists_1, trivial, launch0.admits_env _ _ _, launch0.least_env, fairChoices_fair.cas, fairChoices_fair.clock, w_frames, w_args, w_heap, w_applies, ⟨⟨27, k27, 4, by decide +kernel, rfl, rfl, _, rfl, rfl⟩, ⟨⟨31, k31, 5, by decide +kernel, rfl, rfl, _, rfl, rfl⟩, ⟨⟨32, k32, 6, by decide +kernel, rfl, rfl, _, rfl, rfl⟩, trivial⟩⟩⟩, w_rest, w_case⟩
end start1
theorem witness_1 : WitnessClaimed_1 := ⟨start1.p0, start1.e0, start1.about1, start1.theMethod, start1.args0, start1.below0, start1.atStart⟩
end Jvm.Pilot.@@N@@
