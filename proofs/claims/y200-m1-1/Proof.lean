import JvmDerived
import JvmDerived.Pilot.@@N@@Statement
import JvmDerived.Pilot.@@N@@Code
set_option linter.unusedVariables false
set_option linter.unusedSimpArgs false
@@BLOCK:NumsL.lean.txt@@
namespace Jvm.Pilot.@@N@@
open Jvm Jvm.ClassFile Sem Op Lib Jvm.Free Jvm.Stand Jvm.LawKit Jvm.RoadKit Bundle Jvm.Pilot.@@N@@.Jvm.D
section Own
variable {p : Program} {l : Launch} {e : Env} {R : Room} {s : State} {m : MethodId} {args : Array Value} {below : List Frame} {meth : Method} {c : Code} {T : State} {locs : List Loc} {cells slots : Nat} {Z : State} {a0 : Array Value} {h : Heap}
/-- a walk that goes forward: from S the run comes to an end of which P holds -/
def own_G (p : Program) (e : Env) (below : List Frame) (S : State) (P : Outcome → State → Prop) : Prop :=
  ∃ s₂ o, Steps p.tables e below S s₂ ∧ s₂.status = .running ∧ Ended s₂ below o ∧ P o s₂
/-- what a body leaves -/
def own_P (s : State) (Q : Option Value → Heap → List Loc → Prop) (kc ks : Nat) (o : Outcome) (U : State) : Prop := ∃ v L, o = .returned v ∧ Q v U.heap L ∧ FrameEnd s o U L kc ks
theorem oS {S S' : State} {P : Outcome → State → Prop} (k : ∀ t, Steps p.tables e below S' t → Steps p.tables e below S t) (h : own_G p e below S' P) : own_G p e below S P := by
  obtain ⟨s2, o, h1, h2⟩ := h; exact ⟨s2, o, k _ h1, h2⟩
theorem oW {Z : State} {a0 : Array Value} (hw : ∀ d ∈ tables_1, d.before a0 Z = true) (i : Nat) {d : Jvm.Cond} (q : tables_1[i]? = some d) : d.before a0 Z = true := hw _ (List.mem_of_getElem? q)
theorem own_cast {g g' : JFrame} {P : Outcome → State → Prop} (q : g = g') (k : own_G p e below (T.setTop g') P) : own_G p e below (T.setTop g) P := q ▸ k
theorem own_leave (X : Stand p l e R s m args below meth c T locs cells slots) {g : JFrame} {v : Option Value} {Q : Option Value → Heap → List Loc → Prop} {kc ks : Nat} (hlocks : meth.locks = false) (hv : meth.sig.returnType = none → v = none)
    (k : ∀ fs, (∀ (f : JFrame) (acts : List Action), f.method = m → f.locked = none → f.entered = [] → (doReturn e (T.setTop f) acts v).1 = T.setFrames fs) → Steps p.tables e below (T.setTop g) (T.setFrames fs))
    (eT : T.heap = h) (hc : cells ≤ kc) (hs : slots ≤ ks) (hq : Q v h locs) : own_G p e below (T.setTop g) (own_P s Q kc ks) := by
  obtain ⟨fs, hr, hrun, hended, hW, hsame⟩ := X.leave (v := v) hv hlocks
  exact ⟨_, _, k fs hr, hrun, hended, _, _, rfl, by show Q v T.heap locs; rw [eT]; exact hq, ⟨_, rfl⟩, hW, hsame.mono hc hs⟩
theorem own_retN (X : Stand p l e R s m args below meth c T locs cells slots) (hx : p.tables.exec = Jvm.exec) {pc : Nat} {Ls : Array Slot} {z : Int32} {t : FieldType} {rest : List Value} {Q : Option Value → Heap → List Loc → Prop} {kc ks : Nat} (hlocks : meth.locks = false) (hret : meth.sig.returnType = some t) (ht : t = .boolean ∨ t = .byte ∨ t = .char ∨ t = .short)
    (hd : decode c.code pc = .ok (.ireturn, 1)) (hn : nar t z = z) (eT : T.heap = h) (hc : cells ≤ kc) (hs : slots ≤ ks) (hq : Q (some (.int z)) h locs) : own_G p e below (T.setTop (mkF m pc Ls (.int z :: rest))) (own_P s Q kc ks) :=
  own_leave X (v := some (.int z)) hlocks (fun q => by rw [hret] at q; cases q) (fun fs hl => retN X hx hret ht hd (by rw [hn]; exact hl)) eT hc hs hq
theorem own_retI (X : Stand p l e R s m args below meth c T locs cells slots) (hx : p.tables.exec = Jvm.exec) {pc : Nat} {Ls : Array Slot} {z : Int32} {rest : List Value} {Q : Option Value → Heap → List Loc → Prop} {kc ks : Nat} (hlocks : meth.locks = false) (hret : meth.sig.returnType = some .int)
    (hd : decode c.code pc = .ok (.ireturn, 1)) (eT : T.heap = h) (hc : cells ≤ kc) (hs : slots ≤ ks) (hq : Q (some (.int z)) h locs) : own_G p e below (T.setTop (mkF m pc Ls (.int z :: rest))) (own_P s Q kc ks) :=
  own_leave X (v := some (.int z)) hlocks (fun q => by rw [hret] at q; cases q) (fun fs hl => retOut X hx hret rfl (Or.inl ⟨rfl, Or.inl rfl, _, rfl⟩) hd hl) eT hc hs hq
theorem own_retL (X : Stand p l e R s m args below meth c T locs cells slots) (hx : p.tables.exec = Jvm.exec) {pc : Nat} {Ls : Array Slot} {z : Int64} {rest : List Value} {Q : Option Value → Heap → List Loc → Prop} {kc ks : Nat} (hlocks : meth.locks = false) (hret : meth.sig.returnType = some .long)
    (hd : decode c.code pc = .ok (.lreturn, 1)) (eT : T.heap = h) (hc : cells ≤ kc) (hs : slots ≤ ks) (hq : Q (some (.long z)) h locs) : own_G p e below (T.setTop (mkF m pc Ls (.long z :: rest))) (own_P s Q kc ks) :=
  own_leave X (v := some (.long z)) hlocks (fun q => by rw [hret] at q; cases q) (fun fs hl => retOut X hx hret rfl (Or.inr (Or.inl ⟨rfl, rfl, _, rfl⟩)) hd hl) eT hc hs hq
theorem own_narR {t : FieldType} {w : Value} (h : w.isRef = true) : narrow t w = w := by
  rcases ref_cases h with rfl | ⟨a, rfl⟩ <;> cases t <;> rfl
theorem own_retA (X : Stand p l e R s m args below meth c T locs cells slots) (hx : p.tables.exec = Jvm.exec) {pc : Nat} {Ls : Array Slot} {w : Value} {t : FieldType} {rest : List Value} {Q : Option Value → Heap → List Loc → Prop} {kc ks : Nat} (hlocks : meth.locks = false) (hret : meth.sig.returnType = some t) (ht : t.isReference = true) (hw : w.isRef = true)
    (hd : decode c.code pc = .ok (.areturn, 1)) (eT : T.heap = h) (hc : cells ≤ kc) (hs : slots ≤ ks) (hq : Q (some w) h locs) : own_G p e below (T.setTop (mkF m pc Ls (w :: rest))) (own_P s Q kc ks) :=
  own_leave X (v := some w) hlocks (fun q => by rw [hret] at q; cases q) (fun fs hl => retOut X hx hret (own_narR hw) (Or.inr (Or.inr (Or.inr (Or.inr ⟨rfl, ht, hw⟩)))) hd hl) eT hc hs hq
theorem own_retV (X : Stand p l e R s m args below meth c T locs cells slots) (hx : p.tables.exec = Jvm.exec) {pc : Nat} {Ls : Array Slot} {Q : Option Value → Heap → List Loc → Prop} {kc ks : Nat} (hlocks : meth.locks = false) (hret : meth.sig.returnType = none)
    (hd : decode c.code pc = .ok (.return_, 1)) (eT : T.heap = h) (hc : cells ≤ kc) (hs : slots ≤ ks) (hq : Q none h locs) : own_G p e below (T.setTop (mkF m pc Ls [])) (own_P s Q kc ks) :=
  own_leave X (v := none) hlocks (fun _ => rfl) (fun fs hl => X.returnOut hx hret hd hl) eT hc hs hq
abbrev own_Met (l : Launch) (Z : State) (h : Heap) (y : MethodName) (bytes : ByteArray) (maxL : Nat) (ret : Option FieldType) (ws : List Jvm.Cond) (rm : Room) (as' : Array Value) (Q : Option Value → Heap → List Loc → Prop) (kc ks : Nat) : Prop :=
  MetFree l y (head1 (Jvm.Cond.code y bytes maxL ret :: ws) rm) (fun a U => a = as' ∧ Z.Warmed39 U.vm ∧ U.heap = h) (fun _ _ _ _ _ => True) (fun _ U o U' => ∃ v L, o = .returned v ∧ Q v U'.heap L ∧ FrameEnd U o U' L kc ks)
variable {own : String} {index : Nat} {y : MethodName} {bytes : ByteArray} {maxL : Nat} {ret : Option FieldType} {rm : Room} {W : Nat} {as' : Array Value} {Q : Option Value → Heap → List Loc → Prop}
abbrev own_After (p : Program) (l : Launch) (e : Env) (R : Room) (s : State) (m : MethodId) (args : Array Value) (below : List Frame) (meth : Method) (c : Code) (T : State) (locs : List Loc) (kc ks : Nat) (g : JFrame) (rest : List Value) (Q : Option Value → Heap → List Loc → Prop) (len : Nat := 3) : Prop :=
  ∃ (T' : State) (h' : Heap) (v : Option Value) (L : List Loc), Stand p l e R s m args below meth c T' (locs ++ L) kc ks ∧ T'.heap = h' ∧ Q v h' L ∧ ∀ target, Steps p.tables e below (T'.setTop { g with pc := g.pc + len, stack := v.toList ++ rest }) target → Steps p.tables e below (T.setTop g) target
theorem own_callS (X : Stand p l e R s m args below meth c T locs cells slots) (hx : p.tables.exec = Jvm.exec) (hZ : Z.Warmed39 s.vm) (hown : s.vm.findClass own = some m.cls) (eT : T.heap = h)
    (w1 : (Jvm.Cond.methodLink own index y).before a0 Z = true) (w2 : (Jvm.Cond.static y).before a0 Z = true) (w3 : (Jvm.Cond.initialized y.cls).before a0 Z = true) (w4 : (Jvm.Cond.code y bytes maxL ret).before a0 Z = true) (hy : y.cls ≠ "java/lang/invoke/MethodHandle" ∧ y.cls ≠ "java/lang/invoke/VarHandle")
    (hM : own_Met l Z h y bytes maxL ret [] rm as' Q rm.cells rm.slots)
    (hf : rm.frames + 1 ≤ R.frames) (hl : W + (maxL + 11) + rm.locals ≤ R.locals) (hc : cells + rm.cells ≤ R.cells) (hsl : slots + rm.slots ≤ R.slots)
    {g : JFrame} (hg : g.method = m) (hsize : g.locals.size = c.maxLocals) {argsL rest : List Value} (has : argsL.toArray = as') (hlen : ∀ sig, parseMethodDescriptor y.desc = some sig → argsL.length = sig.parameters.length)
    (hstack : g.stack = argsL.reverse ++ rest) (hW : 2 * g.monitorRoom + (rest.map fun v => v.category).sum ≤ W) (hd : decode c.code g.pc = .ok (.invokestatic index, 3)) :
    own_After p l e R s m args below meth c T locs (cells + rm.cells) (slots + rm.slots) g rest Q := by
  obtain ⟨v, vm1, ⟨T', L', k', n'⟩, -, X', ⟨Lc, hQ, l1, y1, z1⟩, st⟩ := Jvm.LawKit.callS X hx (y := y) hown (mvT hZ w1) (mvT hZ w2) (mvT hZ w3) (mvT hZ w4) hy (backOf (W := W) hM hZ w4 w3 hf hl) hg hsize hlen hstack hW hd (fun _ _ => ⟨has, eT, hc, hsl⟩)
  dsimp only [Pt.U, Pt.locs, Pt.cells, Pt.slots] at X' l1 y1 z1 st hQ
  subst l1 y1 z1
  exact ⟨T', _, v, Lc, X', rfl, hQ, st⟩
theorem own_callV (X : Stand p l e R s m args below meth c T locs cells slots) (hx : p.tables.exec = Jvm.exec) (hZ : Z.Warmed39 s.vm) (hown : s.vm.findClass own = some m.cls) (eT : T.heap = h) {z : MethodName} {C : String} {b : Addr}
    (w1 : (Jvm.Cond.methodLink own index y).before a0 Z = true) (w2 : (Jvm.Cond.declares y).before a0 Z = true) (nf : NotFace s y) (w3 : (Jvm.Cond.selects C y z).before a0 Z = true) (w5 : (Jvm.Cond.instanceMethod z).before a0 Z = true) (w6 : (Jvm.Cond.initialized z.cls).before a0 Z = true) (w4 : (Jvm.Cond.code z bytes maxL ret).before a0 Z = true) (hy : y.cls ≠ "java/lang/invoke/MethodHandle" ∧ y.cls ≠ "java/lang/invoke/VarHandle")
    (E : Exa Z h b C) (hM : own_Met l Z h z bytes maxL ret [] rm as' Q rm.cells rm.slots)
    (hf : rm.frames + 1 ≤ R.frames) (hl : W + (maxL + 11) + rm.locals ≤ R.locals) (hc : cells + rm.cells ≤ R.cells) (hsl : slots + rm.slots ≤ R.slots)
    {g : JFrame} (hg : g.method = m) (hsize : g.locals.size = c.maxLocals) {argsL rest : List Value} (has : (.ref b :: argsL).toArray = as') (hlen : ∀ sig, parseMethodDescriptor y.desc = some sig → argsL.length = sig.parameters.length)
    (hstack : g.stack = argsL.reverse ++ .ref b :: rest) (hW : 2 * g.monitorRoom + (rest.map fun v => v.category).sum ≤ W) (hd : decode c.code g.pc = .ok (.invokevirtual index, 3)) :
    own_After p l e R s m args below meth c T locs (cells + rm.cells) (slots + rm.slots) g rest Q := by
  obtain ⟨cq, kq, q1, q2, q3⟩ := isOf hZ eT E
  obtain ⟨v, vm1, ⟨T', L', k', n'⟩, -, X', ⟨Lc, hQ, l1, y1, z1⟩, st⟩ := X.virtualBack hx (y := y) (z := z) hown (mvT hZ w1) (mvT hZ w2) nf (mvT hZ w3) (mvT hZ w5) hy (backOf (W := W) hM hZ w4 w6 hf hl) q1 q3 hg hsize (Steps.refl _) hlen hstack hW hd (fun _ _ => ⟨has, eT, hc, hsl⟩)
  dsimp only [Pt.U, Pt.locs, Pt.cells, Pt.slots] at X' l1 y1 z1 st hQ
  subst l1 y1 z1
  exact ⟨T', _, v, Lc, X', rfl, hQ, fun _ k => st.trans k⟩
theorem own_callU (X : Stand p l e R s m args below meth c T locs cells slots) (hx : p.tables.exec = Jvm.exec) (hZ : Z.Warmed39 s.vm) (hown : s.vm.findClass own = some m.cls) (eT : T.heap = h) {z : MethodName} {C owner : String} {b : Addr}
    (w1 : (Jvm.Cond.methodLink own index y).before a0 Z = true) (w2 : (Jvm.Cond.sameMethod y.cls owner y.name y.desc).before a0 Z = true) (w7 : (Jvm.Cond.declares ⟨owner, y.name, y.desc⟩).before a0 Z = true) (w3 : (Jvm.Cond.selects C y z).before a0 Z = true) (w5 : (Jvm.Cond.instanceMethod z).before a0 Z = true) (w6 : (Jvm.Cond.initialized z.cls).before a0 Z = true) (w4 : (Jvm.Cond.code z bytes maxL ret).before a0 Z = true) (hy : owner ≠ "java/lang/invoke/MethodHandle" ∧ owner ≠ "java/lang/invoke/VarHandle")
    (E : Exa Z h b C) (hM : own_Met l Z h z bytes maxL ret [] rm as' Q rm.cells rm.slots)
    (hf : rm.frames + 1 ≤ R.frames) (hl : W + (maxL + 11) + rm.locals ≤ R.locals) (hc : cells + rm.cells ≤ R.cells) (hsl : slots + rm.slots ≤ R.slots)
    {g : JFrame} (hg : g.method = m) (hsize : g.locals.size = c.maxLocals) {argsL rest : List Value} (has : (.ref b :: argsL).toArray = as') (hlen : ∀ sig, parseMethodDescriptor y.desc = some sig → argsL.length = sig.parameters.length)
    (hstack : g.stack = argsL.reverse ++ .ref b :: rest) (hW : 2 * g.monitorRoom + (rest.map fun v => v.category).sum ≤ W) (hd : decode c.code g.pc = .ok (.invokevirtual index, 3)) :
    own_After p l e R s m args below meth c T locs (cells + rm.cells) (slots + rm.slots) g rest Q := by
  obtain ⟨cq, kq, q1, q2, q3⟩ := isOf hZ eT E
  obtain ⟨v, vm1, ⟨T', L', k', n'⟩, -, X', ⟨Lc, hQ, l1, y1, z1⟩, st⟩ := X.virtualBackUp hx (x := y) (y := z) (owner := owner) hown (mvT hZ w1) (mvT hZ w2) (mvT hZ w7) hy (mvT hZ w3) (mvT hZ w5) (backOf (W := W) hM hZ w4 w6 hf hl) q1 q3 hg hsize (Steps.refl _) hlen hstack hW hd (fun _ _ => ⟨has, eT, hc, hsl⟩)
  dsimp only [Pt.U, Pt.locs, Pt.cells, Pt.slots] at X' l1 y1 z1 st hQ
  subst l1 y1 z1
  exact ⟨T', _, v, Lc, X', rfl, hQ, fun _ k => st.trans k⟩
theorem own_callN (X : Stand p l e R s m args below meth c T locs cells slots) (hx : p.tables.exec = Jvm.exec) (hZ : Z.Warmed39 s.vm) (hown : s.vm.findClass own = some m.cls) (eT : T.heap = h) {b : Addr} (hy1 : y.name = "<init>")
    (w1 : (Jvm.Cond.methodLink own index y).before a0 Z = true) (w5 : (Jvm.Cond.instanceMethod y).before a0 Z = true) (w6 : (Jvm.Cond.initialized y.cls).before a0 Z = true) (w4 : (Jvm.Cond.code y bytes maxL none).before a0 Z = true) (hy : y.cls ≠ "java/lang/invoke/MethodHandle" ∧ y.cls ≠ "java/lang/invoke/VarHandle")
    (hM : own_Met l Z h y bytes maxL none [] rm as' Q rm.cells rm.slots)
    (hf : rm.frames + 1 ≤ R.frames) (hl : W + (maxL + 11) + rm.locals ≤ R.locals) (hc : cells + rm.cells ≤ R.cells) (hsl : slots + rm.slots ≤ R.slots)
    {g : JFrame} (hg : g.method = m) (hsize : g.locals.size = c.maxLocals) {argsL rest : List Value} (has : (.ref b :: argsL).toArray = as') (hlen : ∀ sig, parseMethodDescriptor y.desc = some sig → argsL.length = sig.parameters.length)
    (hstack : g.stack = argsL.reverse ++ .ref b :: rest) (hW : 2 * g.monitorRoom + (rest.map fun v => v.category).sum ≤ W) (hd : decode c.code g.pc = .ok (.invokespecial index, 3)) :
    own_After p l e R s m args below meth c T locs (cells + rm.cells) (slots + rm.slots) g rest Q := by
  obtain ⟨v, vm1, ⟨T', L', k', n'⟩, -, X', ⟨Lc, hQ, l1, y1, z1⟩, st⟩ := X.specialBack hx (y := y) hy1 hown (mvT hZ w1) (mvT hZ w5) (mvT hZ w4) hy (backOf (W := W) hM hZ w4 w6 hf hl) hg hsize (Steps.refl _) hlen hstack hW hd (fun _ _ => ⟨has, eT, hc, hsl⟩)
  dsimp only [Pt.U, Pt.locs, Pt.cells, Pt.slots] at X' l1 y1 z1 st hQ
  subst l1 y1 z1
  exact ⟨T', _, v, Lc, X', rfl, hQ, fun _ k => st.trans k⟩
theorem own_callI (X : Stand p l e R s m args below meth c T locs cells slots) (hx : p.tables.exec = Jvm.exec) (hZ : Z.Warmed39 s.vm) (hown : s.vm.findClass own = some m.cls) (eT : T.heap = h) {z : MethodName} {C : String} {b : Addr} {count : Nat}
    (w1 : (Jvm.Cond.methodLink own index y).before a0 Z = true) (w2 : (Jvm.Cond.declares y).before a0 Z = true) (w7 : (Jvm.Cond.interfaceMethod y.cls y.cls y.name y.desc).before a0 Z = true) (h7 : ((Jvm.Cond.interfaceMethod y.cls y.cls y.name y.desc).onTables && (Jvm.Cond.interfaceMethod y.cls y.cls y.name y.desc).keepsFace) = true) (w3 : (Jvm.Cond.selects C y z).before a0 Z = true) (w5 : (Jvm.Cond.instanceMethod z).before a0 Z = true) (w8 : (Jvm.Cond.publicMethod z).before a0 Z = true) (w9 : (Jvm.Cond.unhidden C y.name y.desc).before a0 Z = true) (w10 : (Jvm.Cond.castable C y.cls).before a0 Z = true) (w6 : (Jvm.Cond.initialized z.cls).before a0 Z = true) (w4 : (Jvm.Cond.code z bytes maxL ret).before a0 Z = true) (hy : y.cls ≠ "java/lang/invoke/MethodHandle" ∧ y.cls ≠ "java/lang/invoke/VarHandle")
    (E : Exa Z h b C) (hM : own_Met l Z h z bytes maxL ret [] rm as' Q rm.cells rm.slots)
    (hf : rm.frames + 1 ≤ R.frames) (hl : W + (maxL + 11) + rm.locals ≤ R.locals) (hc : cells + rm.cells ≤ R.cells) (hsl : slots + rm.slots ≤ R.slots)
    {g : JFrame} (hg : g.method = m) (hsize : g.locals.size = c.maxLocals) {argsL rest : List Value} (has : (.ref b :: argsL).toArray = as') (hlen : ∀ sig, parseMethodDescriptor y.desc = some sig → argsL.length = sig.parameters.length)
    (hstack : g.stack = argsL.reverse ++ .ref b :: rest) (hW : 2 * g.monitorRoom + (rest.map fun v => v.category).sum ≤ W) (hd : decode c.code g.pc = .ok (.invokeinterface index count, 5)) :
    own_After p l e R s m args below meth c T locs (cells + rm.cells) (slots + rm.slots) g rest Q 5 := by
  obtain ⟨cq, kq, q1, q2, q3⟩ := isOf hZ eT E
  obtain ⟨v, vm1, ⟨T', L', k', n'⟩, -, X', ⟨Lc, hQ, l1, y1, z1⟩, st⟩ := X.interfaceBack hx (xi := y) (y := z) hown (mvT hZ w1) (mvT hZ w2) (mvT hZ w7 h7) (mvT hZ w3) (mvT hZ w5) (mvT hZ w8) (mvT hZ w9) (mvT hZ w10) hy (backOf (W := W) hM hZ w4 w6 hf hl) q1 q2 q3 hg hsize (Steps.refl _) hlen hstack hW hd (fun _ _ => ⟨has, eT, hc, hsl⟩)
  dsimp only [Pt.U, Pt.locs, Pt.cells, Pt.slots] at X' l1 y1 z1 st hQ
  subst l1 y1 z1
  exact ⟨T', _, v, Lc, X', rfl, hQ, fun _ k => st.trans k⟩
theorem own_callP (X : Stand p l e R s m args below meth c T locs cells slots) (hx : p.tables.exec = Jvm.exec) (hZ : Z.Warmed39 s.vm) (hown : s.vm.findClass own = some m.cls) (eT : T.heap = h) {b : Addr} {C : String}
    (w1 : (Jvm.Cond.methodLink own index y).before a0 Z = true) (w5 : (Jvm.Cond.instanceMethod y).before a0 Z = true) (w3 : (Jvm.Cond.selects y.cls y y).before a0 Z = true) (w7 : (Jvm.Cond.privateMethod y).before a0 Z = true) (w6 : (Jvm.Cond.initialized y.cls).before a0 Z = true) (w4 : (Jvm.Cond.code y bytes maxL ret).before a0 Z = true) (hy : y.cls ≠ "java/lang/invoke/MethodHandle" ∧ y.cls ≠ "java/lang/invoke/VarHandle")
    (E : Exa Z h b C) (hM : own_Met l Z h y bytes maxL ret [] rm as' Q rm.cells rm.slots)
    (hf : rm.frames + 1 ≤ R.frames) (hl : W + (maxL + 11) + rm.locals ≤ R.locals) (hc : cells + rm.cells ≤ R.cells) (hsl : slots + rm.slots ≤ R.slots)
    {g : JFrame} (hg : g.method = m) (hsize : g.locals.size = c.maxLocals) {argsL rest : List Value} (has : (.ref b :: argsL).toArray = as') (hlen : ∀ sig, parseMethodDescriptor y.desc = some sig → argsL.length = sig.parameters.length)
    (hstack : g.stack = argsL.reverse ++ .ref b :: rest) (hW : 2 * g.monitorRoom + (rest.map fun v => v.category).sum ≤ W) (hd : decode c.code g.pc = .ok (.invokevirtual index, 3)) :
    own_After p l e R s m args below meth c T locs (cells + rm.cells) (slots + rm.slots) g rest Q := by
  obtain ⟨cell, hcell, hobj⟩ := E.cell
  obtain ⟨v, vm1, ⟨T', L', k', n'⟩, -, X', ⟨Lc, hQ, l1, y1, z1⟩, st⟩ := X.privateBack hx (y := y) hown (mvT hZ w1) (mvT hZ w5) (mvT hZ w3) (Cond.privateMethod_at (mvP (args := #[]) hZ w7)) (mvT hZ w4) hy (backOf (W := W) hM hZ w4 w6 hf hl) hg hsize (Steps.refl _) (by rw [eT]; exact hcell) hobj hlen hstack hW hd (fun _ _ => ⟨has, eT, hc, hsl⟩)
  dsimp only [Pt.U, Pt.locs, Pt.cells, Pt.slots] at X' l1 y1 z1 st hQ
  subst l1 y1 z1
  exact ⟨T', _, v, Lc, X', rfl, hQ, fun _ k => st.trans k⟩
theorem own_rne {a b : Addr} (h : a ≠ b) : ¬ (Value.ref a = Value.ref b) := fun q => h (Value.ref.inj q)
def own_pl : Value → Bool
  | .int _ => true
  | .ref _ => true
  | .null => true
  | .long _ => true
  | _ => false
theorem own_eqv {args : Array Value} {f : State} {o : Option Outcome} {idx : List Nat} {t u : Term} {x y : Value} (ha : t.eval args f o idx s = some x) (hb : u.eval args f o idx s = some y) (h : (Jvm.Cond.eq t u).value args f o s idx = some true) (hk : own_pl y = true := by rfl) : x = y := by
  cases x <;> cases y <;> simp [Jvm.Cond.value, ha, hb, own_pl] at h hk ⊢ <;> first | exact h | exact h.symm
theorem own_fv {args : Array Value} {t u : Term} {O n d : String} {a : Addr} {y : Value} (ht : t.eval args s none [] s = some (.ref a)) (hu : u.eval args s none [] s = some y) (h : (Jvm.Cond.eq (.field t O n d) u).value args s none s [] = some true) (hk : own_pl y = true := by rfl) : Fld s s.heap a O n d y := by
  obtain ⟨x, y', e1, e2, -, -⟩ := cmp_v (Or.inl h)
  have q := own_eqv e1 hu h hk
  subst q
  exact Fld.start ((fld_at ht).symm.trans e1)
end Own
theorem own_bm32 {n : Int} (h1 : -2147483648 ≤ n) (h2 : n < 2147483648) : n.bmod (2 ^ 32) = n := Int.bmod_eq_of_le (by omega) (by omega)
theorem own_modlt (x : Int32) (n : Int32) (hn : 0 < n.toInt) : 0 ≤ ((x &&& 2147483647) % n).toInt ∧ ((x &&& 2147483647) % n).toInt < n.toInt := by
  have e := Jvm.Kit.i32_mask x 2147483647 (k := 31) (by decide) (by decide)
  rw [Int32.toInt_mod, e]
  have h0 : 0 ≤ x.toInt % 2 ^ 31 := Int.emod_nonneg _ (by decide)
  rw [Int.tmod_eq_emod_of_nonneg h0]
  exact ⟨Int.emod_nonneg _ (by omega), Int.emod_lt_of_pos _ hn⟩
theorem own_i32 {x : Int32} {k : Int32} (h : x.toInt = k.toInt) : x = k := Int32.toInt_inj.mp h
theorem own_in2 {x : Int32} (h : 0 ≤ x.toInt ∧ x.toInt < 2) : x = 0 ∨ x = 1 := by
  rcases (by omega : x.toInt = 0 ∨ x.toInt = 1) with q | q
  · exact .inl (own_i32 (k := 0) q)
  · exact .inr (own_i32 (k := 1) q)
theorem own_in3 {x : Int32} (h : 0 ≤ x.toInt ∧ x.toInt < 3) : x = 0 ∨ x = 1 ∨ x = 2 := by
  rcases (by omega : x.toInt = 0 ∨ x.toInt = 1 ∨ x.toInt = 2) with q | q | q
  · exact .inl (own_i32 (k := 0) q)
  · exact .inr (.inl (own_i32 (k := 1) q))
  · exact .inr (.inr (own_i32 (k := 2) q))
theorem own_in4 {x : Int32} (h : 0 ≤ x.toInt ∧ x.toInt < 4) : x = 0 ∨ x = 1 ∨ x = 2 ∨ x = 3 := by
  rcases (by omega : x.toInt = 0 ∨ x.toInt = 1 ∨ x.toInt = 2 ∨ x.toInt = 3) with q | q | q | q
  · exact .inl (own_i32 (k := 0) q)
  · exact .inr (.inl (own_i32 (k := 1) q))
  · exact .inr (.inr (.inl (own_i32 (k := 2) q)))
  · exact .inr (.inr (.inr (own_i32 (k := 3) q)))
theorem own_in5 {x : Int32} (h : 0 ≤ x.toInt ∧ x.toInt < 5) : x = 0 ∨ x = 1 ∨ x = 2 ∨ x = 3 ∨ x = 4 := by
  rcases (by omega : x.toInt = 0 ∨ x.toInt = 1 ∨ x.toInt = 2 ∨ x.toInt = 3 ∨ x.toInt = 4) with q | q | q | q | q
  · exact .inl (own_i32 (k := 0) q)
  · exact .inr (.inl (own_i32 (k := 1) q))
  · exact .inr (.inr (.inl (own_i32 (k := 2) q)))
  · exact .inr (.inr (.inr (.inl (own_i32 (k := 3) q))))
  · exact .inr (.inr (.inr (.inr (own_i32 (k := 4) q))))
theorem own_in6 {x : Int32} (h : 0 ≤ x.toInt ∧ x.toInt < 6) : x = 0 ∨ x = 1 ∨ x = 2 ∨ x = 3 ∨ x = 4 ∨ x = 5 := by
  rcases (by omega : x.toInt = 0 ∨ x.toInt = 1 ∨ x.toInt = 2 ∨ x.toInt = 3 ∨ x.toInt = 4 ∨ x.toInt = 5) with q | q | q | q | q | q
  · exact .inl (own_i32 (k := 0) q)
  · exact .inr (.inl (own_i32 (k := 1) q))
  · exact .inr (.inr (.inl (own_i32 (k := 2) q)))
  · exact .inr (.inr (.inr (.inl (own_i32 (k := 3) q))))
  · exact .inr (.inr (.inr (.inr (.inl (own_i32 (k := 4) q)))))
  · exact .inr (.inr (.inr (.inr (.inr (own_i32 (k := 5) q)))))
theorem own_in7 {x : Int32} (h : 0 ≤ x.toInt ∧ x.toInt < 7) : x = 0 ∨ x = 1 ∨ x = 2 ∨ x = 3 ∨ x = 4 ∨ x = 5 ∨ x = 6 := by
  rcases (by omega : x.toInt = 0 ∨ x.toInt = 1 ∨ x.toInt = 2 ∨ x.toInt = 3 ∨ x.toInt = 4 ∨ x.toInt = 5 ∨ x.toInt = 6) with q | q | q | q | q | q | q
  · exact .inl (own_i32 (k := 0) q)
  · exact .inr (.inl (own_i32 (k := 1) q))
  · exact .inr (.inr (.inl (own_i32 (k := 2) q)))
  · exact .inr (.inr (.inr (.inl (own_i32 (k := 3) q))))
  · exact .inr (.inr (.inr (.inr (.inl (own_i32 (k := 4) q)))))
  · exact .inr (.inr (.inr (.inr (.inr (.inl (own_i32 (k := 5) q))))))
  · exact .inr (.inr (.inr (.inr (.inr (.inr (own_i32 (k := 6) q))))))
theorem own_ef0 (m : MethodId) (x0 : Int32) : entryFrame m #[(.int x0)] maxLocals = mkF m 0 #[.val (.int x0), .unset, .unset, .unset] [] := by first | (simp [entryFrame, mkF, argsToLocals, Value.category, maxLocals]; done) | rfl
theorem own_ef1 (m : MethodId) (x0 : Int32) : entryFrame m #[(.int x0)] 1 = mkF m 0 #[.val (.int x0)] [] := by first | (simp [entryFrame, mkF, argsToLocals, Value.category]; done) | rfl
theorem dd0_0 : decode method_3_code 0 = .ok (.iload_n 0, 1) := by decide +kernel
theorem dd0_1 : decode method_3_code 1 = .ok (.ifCond .ne 7, 3) := by decide +kernel
theorem dd0_4 : decode method_3_code 4 = .ok (.getstatic 20, 3) := by decide +kernel
theorem dd0_7 : decode method_3_code 7 = .ok (.areturn, 1) := by decide +kernel
def own_Q2 (Z : State) (ob_2 : Addr) (h0 : Heap) (n0 : Nat) (v : Option Value) (h : Heap) (L : List Loc) : Prop := (v = some (.ref ob_2) ∧ Fr n0 L ∧ h = h0)
theorem own_pn0 : plainName "com/example/tuplewise/tuplewise/model/TypeIsValuePinLaw" = true := by first | (simp [plainName, overriddenIn]; done) | decide +kernel
set_option maxRecDepth 65536 in
set_option maxHeartbeats 40000000 in
theorem own_rm2 (l : Launch) (Z : State) (a0 : Array Value) (hw : ∀ d ∈ tables_1, d.before a0 Z = true) (ws : List Jvm.Cond) (ob_2 : Addr) (h0 : Heap) (n0 : Nat) (Z0 : n0 ≤ h0.size) (O0 : Old Z n0 h0) (I15 : Sta Z Z.heap "com/example/tuplewise/tuplewise/model/Type" "INT" "Lcom/example/tuplewise/tuplewise/model/Type;" (.ref ob_2)) :
    own_Met l Z h0 (⟨"com/example/tuplewise/tuplewise/model/TypeIsValuePinLaw", "pick", "(I)Lcom/example/tuplewise/tuplewise/model/Type;"⟩ : MethodName) method_3_code 1 (Option.some (FieldType.object "com/example/tuplewise/tuplewise/model/Type")) ws ({ frames := 0, cells := 0, slots := 0, locals := 0 } : Room) #[(.int 0)] (own_Q2 Z ob_2 h0 n0) 0 0 := by
  refine MetFree.of_bodySF (plainFor_of_name own_pn0) hisR ?_
  intro p e s m args below meth c s₁ Bd hml0 hP hK
  obtain ⟨rfl, hZ, hh⟩ := hP
  have hx := Bd.exec
  have hby := Bd.bytes
  have hml : c.maxLocals = 1 := hml0
  have hown : s.vm.findClass "com/example/tuplewise/tuplewise/model/TypeIsValuePinLaw" = some m.cls := findClass_of_methodNamed Bd.named
  have hnm := (name_of_methodNamed Bd.named Bd.method).1
  have X0 : Stand p l e ({ frames := 0, cells := 0, slots := 0, locals := 0 } : Room) s m #[(.int 0)] below meth c s₁ [] 0 0 := Stand.of_body Bd
  have e0 : s₁.heap = h0 := by rw [← hh, Bd.state]; rfl
  have N0 := Fr.nil n0
  show own_G p e below (s₁.setTop (entryFrame m #[(.int 0)] 1)) (own_P s (own_Q2 Z ob_2 h0 n0) 0 0)
  refine own_cast (own_ef1 m 0) ?_
  show own_G p e below (s₁.setTop (mkF m 0 #[iv 0] [])) _
  refine oS (fun _ => XS.iloadN X0.here hx rfl (hb hby dd0_0) rfl) ?_
  refine oS (fun _ => XS.ifNo X0.here hx rfl (hb hby dd0_1) rfl (XT.i0_ne_f (by decide))) ?_
  show own_G p e below (s₁.setTop (mkF m 4 #[iv 0] [])) _
  have F16 : Sta Z h0 "com/example/tuplewise/tuplewise/model/Type" "INT" "Lcom/example/tuplewise/tuplewise/model/Type;" (.ref ob_2) := Sta.ext O0.2 I15
  obtain ⟨T17, X18, e19, s20⟩ := getS X0 hx hZ hown (host := "") (oW hw 5 rfl) Via.refl e0 F16 (g := (mkF m 4 #[iv 0] [])) rfl (hb hby dd0_4)
  refine oS s20 ?_
  show own_G p e below (T17.setTop (mkF m 7 #[iv 0] [(.ref ob_2)])) _
  exact own_retA X18 hx Bd.notSynchronized Bd.returns rfl rfl (hb hby dd0_7) e19 (by decide) (by decide) (⟨rfl, N0, rfl⟩)
theorem own_pd0 : parseMethodDescriptor "(I)Lcom/example/tuplewise/tuplewise/model/Type;" = some ⟨[.int], (some (.object "com/example/tuplewise/tuplewise/model/Type"))⟩ := by decide +kernel
theorem own_ef2 (m : MethodId) (x0 : Addr) : entryFrame m #[(.ref x0)] 1 = mkF m 0 #[.val (.ref x0)] [] := by first | (simp [entryFrame, mkF, argsToLocals, Value.category]; done) | rfl
theorem dd1_0 : decode prog_33_method_7_code 0 = .ok (.aload_n 0, 1) := by decide +kernel
theorem dd1_1 : decode prog_33_method_7_code 1 = .ok (.getstatic 16, 3) := by decide +kernel
theorem dd1_4 : decode prog_33_method_7_code 4 = .ok (.if_acmp .eq 14, 3) := by decide +kernel
theorem dd1_7 : decode prog_33_method_7_code 7 = .ok (.aload_n 0, 1) := by decide +kernel
theorem dd1_8 : decode prog_33_method_7_code 8 = .ok (.getstatic 19, 3) := by decide +kernel
theorem dd1_11 : decode prog_33_method_7_code 11 = .ok (.if_acmp .eq 7, 3) := by decide +kernel
theorem dd1_14 : decode prog_33_method_7_code 14 = .ok (.iconst 1, 1) := by decide +kernel
theorem dd1_15 : decode prog_33_method_7_code 15 = .ok (.goto 4, 3) := by decide +kernel
theorem dd1_19 : decode prog_33_method_7_code 19 = .ok (.ireturn, 1) := by decide +kernel
def own_Q3 (Z : State) (ob_2 : Addr) (ob_3 : Addr) (ob_4 : Addr) (h0 : Heap) (n0 : Nat) (v : Option Value) (h : Heap) (L : List Loc) : Prop := (v = some (.int 1) ∧ Fr n0 L ∧ h = h0)
theorem own_pn1 : plainName "com/example/tuplewise/tuplewise/model/Type" = true := by first | (simp [plainName, overriddenIn]; done) | decide +kernel
set_option maxRecDepth 65536 in
set_option maxHeartbeats 40000000 in
theorem own_rm3 (l : Launch) (Z : State) (a0 : Array Value) (hw : ∀ d ∈ tables_1, d.before a0 Z = true) (ws : List Jvm.Cond) (ob_2 : Addr) (ob_3 : Addr) (ob_4 : Addr) (h0 : Heap) (n0 : Nat) (Z0 : n0 ≤ h0.size) (O0 : Old Z n0 h0) (I34 : Sta Z Z.heap "com/example/tuplewise/tuplewise/model/Type" "OBJECT" "Lcom/example/tuplewise/tuplewise/model/Type;" (.ref ob_3)) (I45 : ob_2 ≠ ob_3) (I47 : Sta Z Z.heap "com/example/tuplewise/tuplewise/model/Type" "OBJECTS" "Lcom/example/tuplewise/tuplewise/model/Type;" (.ref ob_4)) (I56 : ob_2 ≠ ob_4) :
    own_Met l Z h0 (⟨"com/example/tuplewise/tuplewise/model/Type", "isValue", "()Z"⟩ : MethodName) prog_33_method_7_code 1 (Option.some FieldType.boolean) ws ({ frames := 0, cells := 0, slots := 0, locals := 0 } : Room) #[(.ref ob_2)] (own_Q3 Z ob_2 ob_3 ob_4 h0 n0) 0 0 := by
  refine MetFree.of_bodySF (plainFor_of_name own_pn1) hisR ?_
  intro p e s m args below meth c s₁ Bd hml0 hP hK
  obtain ⟨rfl, hZ, hh⟩ := hP
  have hx := Bd.exec
  have hby := Bd.bytes
  have hml : c.maxLocals = 1 := hml0
  have hown : s.vm.findClass "com/example/tuplewise/tuplewise/model/Type" = some m.cls := findClass_of_methodNamed Bd.named
  have hnm := (name_of_methodNamed Bd.named Bd.method).1
  have X0 : Stand p l e ({ frames := 0, cells := 0, slots := 0, locals := 0 } : Room) s m #[(.ref ob_2)] below meth c s₁ [] 0 0 := Stand.of_body Bd
  have e0 : s₁.heap = h0 := by rw [← hh, Bd.state]; rfl
  have N0 := Fr.nil n0
  show own_G p e below (s₁.setTop (entryFrame m #[(.ref ob_2)] 1)) (own_P s (own_Q3 Z ob_2 ob_3 ob_4 h0 n0) 0 0)
  refine own_cast (own_ef2 m ob_2) ?_
  show own_G p e below (s₁.setTop (mkF m 0 #[rv ob_2] [])) _
  refine oS (fun _ => XS.aloadN X0.here hx rfl (hb hby dd1_0) rfl rfl) ?_
  have F35 : Sta Z h0 "com/example/tuplewise/tuplewise/model/Type" "OBJECT" "Lcom/example/tuplewise/tuplewise/model/Type;" (.ref ob_3) := Sta.ext O0.2 I34
  obtain ⟨T36, X37, e38, s39⟩ := getS X0 hx hZ hown (host := "") (oW hw 13 rfl) Via.refl e0 F35 (g := (mkF m 1 #[rv ob_2] [(.ref ob_2)])) rfl (hb hby dd1_1)
  refine oS s39 ?_
  show own_G p e below (T36.setTop (mkF m 4 #[rv ob_2] [(.ref ob_3), (.ref ob_2)])) _
  refine oS (fun _ => XT.acmpNo X37.here hx rfl (hb hby dd1_4) rfl rfl rfl (XT.aa_eq_f (own_rne I45))) ?_
  show own_G p e below (T36.setTop (mkF m 7 #[rv ob_2] [])) _
  refine oS (fun _ => XS.aloadN X37.here hx rfl (hb hby dd1_7) rfl rfl) ?_
  have F48 : Sta Z h0 "com/example/tuplewise/tuplewise/model/Type" "OBJECTS" "Lcom/example/tuplewise/tuplewise/model/Type;" (.ref ob_4) := Sta.ext O0.2 I47
  obtain ⟨T49, X50, e51, s52⟩ := getS X37 hx hZ hown (host := "") (oW hw 15 rfl) Via.refl e38 F48 (g := (mkF m 8 #[rv ob_2] [(.ref ob_2)])) rfl (hb hby dd1_8)
  refine oS s52 ?_
  show own_G p e below (T49.setTop (mkF m 11 #[rv ob_2] [(.ref ob_4), (.ref ob_2)])) _
  refine oS (fun _ => XT.acmpNo X50.here hx rfl (hb hby dd1_11) rfl rfl rfl (XT.aa_eq_f (own_rne I56))) ?_
  show own_G p e below (T49.setTop (mkF m 14 #[rv ob_2] [])) _
  refine oS (fun _ => XS.iconst X50.here hx rfl (hb hby dd1_14) ) ?_
  refine oS (fun _ => XS.goto X50.here hx rfl (pc0 := 15) (pc' := 19) rfl (hb hby dd1_15) (by decide) (by decide)) ?_
  show own_G p e below (T49.setTop (mkF m 19 #[rv ob_2] [(.int 1)])) _
  exact own_retN X50 hx (t := .boolean) Bd.notSynchronized Bd.returns (by simp) (hb hby dd1_19) (by decide) e51 (by decide) (by decide) (⟨rfl, N0, rfl⟩)
theorem own_pd1 : parseMethodDescriptor "()Z" = some ⟨[], (some .boolean)⟩ := by decide +kernel
theorem dd0_8 : decode method_3_code 8 = .ok (.iload_n 0, 1) := by decide +kernel
theorem dd0_9 : decode method_3_code 9 = .ok (.iconst 1, 1) := by decide +kernel
theorem dd0_10 : decode method_3_code 10 = .ok (.if_icmp .ne 7, 3) := by decide +kernel
theorem dd0_13 : decode method_3_code 13 = .ok (.getstatic 24, 3) := by decide +kernel
theorem dd0_16 : decode method_3_code 16 = .ok (.areturn, 1) := by decide +kernel
def own_Q4 (Z : State) (ob_7 : Addr) (h0 : Heap) (n0 : Nat) (v : Option Value) (h : Heap) (L : List Loc) : Prop := (v = some (.ref ob_7) ∧ Fr n0 L ∧ h = h0)
set_option maxRecDepth 65536 in
set_option maxHeartbeats 40000000 in
theorem own_rm4 (l : Launch) (Z : State) (a0 : Array Value) (hw : ∀ d ∈ tables_1, d.before a0 Z = true) (ws : List Jvm.Cond) (ob_7 : Addr) (h0 : Heap) (n0 : Nat) (Z0 : n0 ≤ h0.size) (O0 : Old Z n0 h0) (I72 : Sta Z Z.heap "com/example/tuplewise/tuplewise/model/Type" "DOUBLE" "Lcom/example/tuplewise/tuplewise/model/Type;" (.ref ob_7)) :
    own_Met l Z h0 (⟨"com/example/tuplewise/tuplewise/model/TypeIsValuePinLaw", "pick", "(I)Lcom/example/tuplewise/tuplewise/model/Type;"⟩ : MethodName) method_3_code 1 (Option.some (FieldType.object "com/example/tuplewise/tuplewise/model/Type")) ws ({ frames := 0, cells := 0, slots := 0, locals := 0 } : Room) #[(.int 1)] (own_Q4 Z ob_7 h0 n0) 0 0 := by
  refine MetFree.of_bodySF (plainFor_of_name own_pn0) hisR ?_
  intro p e s m args below meth c s₁ Bd hml0 hP hK
  obtain ⟨rfl, hZ, hh⟩ := hP
  have hx := Bd.exec
  have hby := Bd.bytes
  have hml : c.maxLocals = 1 := hml0
  have hown : s.vm.findClass "com/example/tuplewise/tuplewise/model/TypeIsValuePinLaw" = some m.cls := findClass_of_methodNamed Bd.named
  have hnm := (name_of_methodNamed Bd.named Bd.method).1
  have X0 : Stand p l e ({ frames := 0, cells := 0, slots := 0, locals := 0 } : Room) s m #[(.int 1)] below meth c s₁ [] 0 0 := Stand.of_body Bd
  have e0 : s₁.heap = h0 := by rw [← hh, Bd.state]; rfl
  have N0 := Fr.nil n0
  show own_G p e below (s₁.setTop (entryFrame m #[(.int 1)] 1)) (own_P s (own_Q4 Z ob_7 h0 n0) 0 0)
  refine own_cast (own_ef1 m 1) ?_
  show own_G p e below (s₁.setTop (mkF m 0 #[iv 1] [])) _
  refine oS (fun _ => XS.iloadN X0.here hx rfl (hb hby dd0_0) rfl) ?_
  refine oS (fun _ => XS.ifYes X0.here hx rfl (pc0 := 1) (pc' := 8) rfl (hb hby dd0_1) rfl (XT.i0_ne_t (by decide)) (by decide) (by decide)) ?_
  show own_G p e below (s₁.setTop (mkF m 8 #[iv 1] [])) _
  refine oS (fun _ => XS.iloadN X0.here hx rfl (hb hby dd0_8) rfl) ?_
  refine oS (fun _ => XS.iconst X0.here hx rfl (hb hby dd0_9) ) ?_
  refine oS (fun _ => XS.icmpNo X0.here hx rfl (hb hby dd0_10) rfl (XT.ii_ne_f (by decide))) ?_
  show own_G p e below (s₁.setTop (mkF m 13 #[iv 1] [])) _
  have F73 : Sta Z h0 "com/example/tuplewise/tuplewise/model/Type" "DOUBLE" "Lcom/example/tuplewise/tuplewise/model/Type;" (.ref ob_7) := Sta.ext O0.2 I72
  obtain ⟨T74, X75, e76, s77⟩ := getS X0 hx hZ hown (host := "") (oW hw 21 rfl) Via.refl e0 F73 (g := (mkF m 13 #[iv 1] [])) rfl (hb hby dd0_13)
  refine oS s77 ?_
  show own_G p e below (T74.setTop (mkF m 16 #[iv 1] [(.ref ob_7)])) _
  exact own_retA X75 hx Bd.notSynchronized Bd.returns rfl rfl (hb hby dd0_16) e76 (by decide) (by decide) (⟨rfl, N0, rfl⟩)
theorem dd0_17 : decode method_3_code 17 = .ok (.iload_n 0, 1) := by decide +kernel
theorem dd0_18 : decode method_3_code 18 = .ok (.iconst 2, 1) := by decide +kernel
theorem dd0_19 : decode method_3_code 19 = .ok (.if_icmp .ne 7, 3) := by decide +kernel
theorem dd0_22 : decode method_3_code 22 = .ok (.getstatic 27, 3) := by decide +kernel
theorem dd0_25 : decode method_3_code 25 = .ok (.areturn, 1) := by decide +kernel
def own_Q5 (Z : State) (ob_6 : Addr) (h0 : Heap) (n0 : Nat) (v : Option Value) (h : Heap) (L : List Loc) : Prop := (v = some (.ref ob_6) ∧ Fr n0 L ∧ h = h0)
set_option maxRecDepth 65536 in
set_option maxHeartbeats 40000000 in
theorem own_rm5 (l : Launch) (Z : State) (a0 : Array Value) (hw : ∀ d ∈ tables_1, d.before a0 Z = true) (ws : List Jvm.Cond) (ob_6 : Addr) (h0 : Heap) (n0 : Nat) (Z0 : n0 ≤ h0.size) (O0 : Old Z n0 h0) (I111 : Sta Z Z.heap "com/example/tuplewise/tuplewise/model/Type" "BOOLEAN" "Lcom/example/tuplewise/tuplewise/model/Type;" (.ref ob_6)) :
    own_Met l Z h0 (⟨"com/example/tuplewise/tuplewise/model/TypeIsValuePinLaw", "pick", "(I)Lcom/example/tuplewise/tuplewise/model/Type;"⟩ : MethodName) method_3_code 1 (Option.some (FieldType.object "com/example/tuplewise/tuplewise/model/Type")) ws ({ frames := 0, cells := 0, slots := 0, locals := 0 } : Room) #[(.int 2)] (own_Q5 Z ob_6 h0 n0) 0 0 := by
  refine MetFree.of_bodySF (plainFor_of_name own_pn0) hisR ?_
  intro p e s m args below meth c s₁ Bd hml0 hP hK
  obtain ⟨rfl, hZ, hh⟩ := hP
  have hx := Bd.exec
  have hby := Bd.bytes
  have hml : c.maxLocals = 1 := hml0
  have hown : s.vm.findClass "com/example/tuplewise/tuplewise/model/TypeIsValuePinLaw" = some m.cls := findClass_of_methodNamed Bd.named
  have hnm := (name_of_methodNamed Bd.named Bd.method).1
  have X0 : Stand p l e ({ frames := 0, cells := 0, slots := 0, locals := 0 } : Room) s m #[(.int 2)] below meth c s₁ [] 0 0 := Stand.of_body Bd
  have e0 : s₁.heap = h0 := by rw [← hh, Bd.state]; rfl
  have N0 := Fr.nil n0
  show own_G p e below (s₁.setTop (entryFrame m #[(.int 2)] 1)) (own_P s (own_Q5 Z ob_6 h0 n0) 0 0)
  refine own_cast (own_ef1 m 2) ?_
  show own_G p e below (s₁.setTop (mkF m 0 #[iv 2] [])) _
  refine oS (fun _ => XS.iloadN X0.here hx rfl (hb hby dd0_0) rfl) ?_
  refine oS (fun _ => XS.ifYes X0.here hx rfl (pc0 := 1) (pc' := 8) rfl (hb hby dd0_1) rfl (XT.i0_ne_t (by decide)) (by decide) (by decide)) ?_
  show own_G p e below (s₁.setTop (mkF m 8 #[iv 2] [])) _
  refine oS (fun _ => XS.iloadN X0.here hx rfl (hb hby dd0_8) rfl) ?_
  refine oS (fun _ => XS.iconst X0.here hx rfl (hb hby dd0_9) ) ?_
  refine oS (fun _ => XS.icmpYes X0.here hx rfl (pc0 := 10) (pc' := 17) rfl (hb hby dd0_10) rfl (XT.ii_ne_t (by decide)) (by decide) (by decide)) ?_
  show own_G p e below (s₁.setTop (mkF m 17 #[iv 2] [])) _
  refine oS (fun _ => XS.iloadN X0.here hx rfl (hb hby dd0_17) rfl) ?_
  refine oS (fun _ => XS.iconst X0.here hx rfl (hb hby dd0_18) ) ?_
  refine oS (fun _ => XS.icmpNo X0.here hx rfl (hb hby dd0_19) rfl (XT.ii_ne_f (by decide))) ?_
  show own_G p e below (s₁.setTop (mkF m 22 #[iv 2] [])) _
  have F112 : Sta Z h0 "com/example/tuplewise/tuplewise/model/Type" "BOOLEAN" "Lcom/example/tuplewise/tuplewise/model/Type;" (.ref ob_6) := Sta.ext O0.2 I111
  obtain ⟨T113, X114, e115, s116⟩ := getS X0 hx hZ hown (host := "") (oW hw 19 rfl) Via.refl e0 F112 (g := (mkF m 22 #[iv 2] [])) rfl (hb hby dd0_22)
  refine oS s116 ?_
  show own_G p e below (T113.setTop (mkF m 25 #[iv 2] [(.ref ob_6)])) _
  exact own_retA X114 hx Bd.notSynchronized Bd.returns rfl rfl (hb hby dd0_25) e115 (by decide) (by decide) (⟨rfl, N0, rfl⟩)
theorem dd0_26 : decode method_3_code 26 = .ok (.iload_n 0, 1) := by decide +kernel
theorem dd0_27 : decode method_3_code 27 = .ok (.iconst 3, 1) := by decide +kernel
theorem dd0_28 : decode method_3_code 28 = .ok (.if_icmp .ne 7, 3) := by decide +kernel
theorem dd0_31 : decode method_3_code 31 = .ok (.getstatic 30, 3) := by decide +kernel
theorem dd0_34 : decode method_3_code 34 = .ok (.areturn, 1) := by decide +kernel
def own_Q6 (Z : State) (ob_5 : Addr) (h0 : Heap) (n0 : Nat) (v : Option Value) (h : Heap) (L : List Loc) : Prop := (v = some (.ref ob_5) ∧ Fr n0 L ∧ h = h0)
set_option maxRecDepth 65536 in
set_option maxHeartbeats 40000000 in
theorem own_rm6 (l : Launch) (Z : State) (a0 : Array Value) (hw : ∀ d ∈ tables_1, d.before a0 Z = true) (ws : List Jvm.Cond) (ob_5 : Addr) (h0 : Heap) (n0 : Nat) (Z0 : n0 ≤ h0.size) (O0 : Old Z n0 h0) (I150 : Sta Z Z.heap "com/example/tuplewise/tuplewise/model/Type" "STRING" "Lcom/example/tuplewise/tuplewise/model/Type;" (.ref ob_5)) :
    own_Met l Z h0 (⟨"com/example/tuplewise/tuplewise/model/TypeIsValuePinLaw", "pick", "(I)Lcom/example/tuplewise/tuplewise/model/Type;"⟩ : MethodName) method_3_code 1 (Option.some (FieldType.object "com/example/tuplewise/tuplewise/model/Type")) ws ({ frames := 0, cells := 0, slots := 0, locals := 0 } : Room) #[(.int 3)] (own_Q6 Z ob_5 h0 n0) 0 0 := by
  refine MetFree.of_bodySF (plainFor_of_name own_pn0) hisR ?_
  intro p e s m args below meth c s₁ Bd hml0 hP hK
  obtain ⟨rfl, hZ, hh⟩ := hP
  have hx := Bd.exec
  have hby := Bd.bytes
  have hml : c.maxLocals = 1 := hml0
  have hown : s.vm.findClass "com/example/tuplewise/tuplewise/model/TypeIsValuePinLaw" = some m.cls := findClass_of_methodNamed Bd.named
  have hnm := (name_of_methodNamed Bd.named Bd.method).1
  have X0 : Stand p l e ({ frames := 0, cells := 0, slots := 0, locals := 0 } : Room) s m #[(.int 3)] below meth c s₁ [] 0 0 := Stand.of_body Bd
  have e0 : s₁.heap = h0 := by rw [← hh, Bd.state]; rfl
  have N0 := Fr.nil n0
  show own_G p e below (s₁.setTop (entryFrame m #[(.int 3)] 1)) (own_P s (own_Q6 Z ob_5 h0 n0) 0 0)
  refine own_cast (own_ef1 m 3) ?_
  show own_G p e below (s₁.setTop (mkF m 0 #[iv 3] [])) _
  refine oS (fun _ => XS.iloadN X0.here hx rfl (hb hby dd0_0) rfl) ?_
  refine oS (fun _ => XS.ifYes X0.here hx rfl (pc0 := 1) (pc' := 8) rfl (hb hby dd0_1) rfl (XT.i0_ne_t (by decide)) (by decide) (by decide)) ?_
  show own_G p e below (s₁.setTop (mkF m 8 #[iv 3] [])) _
  refine oS (fun _ => XS.iloadN X0.here hx rfl (hb hby dd0_8) rfl) ?_
  refine oS (fun _ => XS.iconst X0.here hx rfl (hb hby dd0_9) ) ?_
  refine oS (fun _ => XS.icmpYes X0.here hx rfl (pc0 := 10) (pc' := 17) rfl (hb hby dd0_10) rfl (XT.ii_ne_t (by decide)) (by decide) (by decide)) ?_
  show own_G p e below (s₁.setTop (mkF m 17 #[iv 3] [])) _
  refine oS (fun _ => XS.iloadN X0.here hx rfl (hb hby dd0_17) rfl) ?_
  refine oS (fun _ => XS.iconst X0.here hx rfl (hb hby dd0_18) ) ?_
  refine oS (fun _ => XS.icmpYes X0.here hx rfl (pc0 := 19) (pc' := 26) rfl (hb hby dd0_19) rfl (XT.ii_ne_t (by decide)) (by decide) (by decide)) ?_
  show own_G p e below (s₁.setTop (mkF m 26 #[iv 3] [])) _
  refine oS (fun _ => XS.iloadN X0.here hx rfl (hb hby dd0_26) rfl) ?_
  refine oS (fun _ => XS.iconst X0.here hx rfl (hb hby dd0_27) ) ?_
  refine oS (fun _ => XS.icmpNo X0.here hx rfl (hb hby dd0_28) rfl (XT.ii_ne_f (by decide))) ?_
  show own_G p e below (s₁.setTop (mkF m 31 #[iv 3] [])) _
  have F151 : Sta Z h0 "com/example/tuplewise/tuplewise/model/Type" "STRING" "Lcom/example/tuplewise/tuplewise/model/Type;" (.ref ob_5) := Sta.ext O0.2 I150
  obtain ⟨T152, X153, e154, s155⟩ := getS X0 hx hZ hown (host := "") (oW hw 17 rfl) Via.refl e0 F151 (g := (mkF m 31 #[iv 3] [])) rfl (hb hby dd0_31)
  refine oS s155 ?_
  show own_G p e below (T152.setTop (mkF m 34 #[iv 3] [(.ref ob_5)])) _
  exact own_retA X153 hx Bd.notSynchronized Bd.returns rfl rfl (hb hby dd0_34) e154 (by decide) (by decide) (⟨rfl, N0, rfl⟩)
theorem dd0_35 : decode method_3_code 35 = .ok (.iload_n 0, 1) := by decide +kernel
theorem dd0_36 : decode method_3_code 36 = .ok (.iconst 4, 1) := by decide +kernel
theorem dd0_37 : decode method_3_code 37 = .ok (.if_icmp .ne 7, 3) := by decide +kernel
theorem dd0_40 : decode method_3_code 40 = .ok (.getstatic 33, 3) := by decide +kernel
theorem dd0_43 : decode method_3_code 43 = .ok (.areturn, 1) := by decide +kernel
def own_Q7 (Z : State) (ob_3 : Addr) (h0 : Heap) (n0 : Nat) (v : Option Value) (h : Heap) (L : List Loc) : Prop := (v = some (.ref ob_3) ∧ Fr n0 L ∧ h = h0)
set_option maxRecDepth 65536 in
set_option maxHeartbeats 40000000 in
theorem own_rm7 (l : Launch) (Z : State) (a0 : Array Value) (hw : ∀ d ∈ tables_1, d.before a0 Z = true) (ws : List Jvm.Cond) (ob_3 : Addr) (h0 : Heap) (n0 : Nat) (Z0 : n0 ≤ h0.size) (O0 : Old Z n0 h0) (I188 : Sta Z Z.heap "com/example/tuplewise/tuplewise/model/Type" "OBJECT" "Lcom/example/tuplewise/tuplewise/model/Type;" (.ref ob_3)) :
    own_Met l Z h0 (⟨"com/example/tuplewise/tuplewise/model/TypeIsValuePinLaw", "pick", "(I)Lcom/example/tuplewise/tuplewise/model/Type;"⟩ : MethodName) method_3_code 1 (Option.some (FieldType.object "com/example/tuplewise/tuplewise/model/Type")) ws ({ frames := 0, cells := 0, slots := 0, locals := 0 } : Room) #[(.int 4)] (own_Q7 Z ob_3 h0 n0) 0 0 := by
  refine MetFree.of_bodySF (plainFor_of_name own_pn0) hisR ?_
  intro p e s m args below meth c s₁ Bd hml0 hP hK
  obtain ⟨rfl, hZ, hh⟩ := hP
  have hx := Bd.exec
  have hby := Bd.bytes
  have hml : c.maxLocals = 1 := hml0
  have hown : s.vm.findClass "com/example/tuplewise/tuplewise/model/TypeIsValuePinLaw" = some m.cls := findClass_of_methodNamed Bd.named
  have hnm := (name_of_methodNamed Bd.named Bd.method).1
  have X0 : Stand p l e ({ frames := 0, cells := 0, slots := 0, locals := 0 } : Room) s m #[(.int 4)] below meth c s₁ [] 0 0 := Stand.of_body Bd
  have e0 : s₁.heap = h0 := by rw [← hh, Bd.state]; rfl
  have N0 := Fr.nil n0
  show own_G p e below (s₁.setTop (entryFrame m #[(.int 4)] 1)) (own_P s (own_Q7 Z ob_3 h0 n0) 0 0)
  refine own_cast (own_ef1 m 4) ?_
  show own_G p e below (s₁.setTop (mkF m 0 #[iv 4] [])) _
  refine oS (fun _ => XS.iloadN X0.here hx rfl (hb hby dd0_0) rfl) ?_
  refine oS (fun _ => XS.ifYes X0.here hx rfl (pc0 := 1) (pc' := 8) rfl (hb hby dd0_1) rfl (XT.i0_ne_t (by decide)) (by decide) (by decide)) ?_
  show own_G p e below (s₁.setTop (mkF m 8 #[iv 4] [])) _
  refine oS (fun _ => XS.iloadN X0.here hx rfl (hb hby dd0_8) rfl) ?_
  refine oS (fun _ => XS.iconst X0.here hx rfl (hb hby dd0_9) ) ?_
  refine oS (fun _ => XS.icmpYes X0.here hx rfl (pc0 := 10) (pc' := 17) rfl (hb hby dd0_10) rfl (XT.ii_ne_t (by decide)) (by decide) (by decide)) ?_
  show own_G p e below (s₁.setTop (mkF m 17 #[iv 4] [])) _
  refine oS (fun _ => XS.iloadN X0.here hx rfl (hb hby dd0_17) rfl) ?_
  refine oS (fun _ => XS.iconst X0.here hx rfl (hb hby dd0_18) ) ?_
  refine oS (fun _ => XS.icmpYes X0.here hx rfl (pc0 := 19) (pc' := 26) rfl (hb hby dd0_19) rfl (XT.ii_ne_t (by decide)) (by decide) (by decide)) ?_
  show own_G p e below (s₁.setTop (mkF m 26 #[iv 4] [])) _
  refine oS (fun _ => XS.iloadN X0.here hx rfl (hb hby dd0_26) rfl) ?_
  refine oS (fun _ => XS.iconst X0.here hx rfl (hb hby dd0_27) ) ?_
  refine oS (fun _ => XS.icmpYes X0.here hx rfl (pc0 := 28) (pc' := 35) rfl (hb hby dd0_28) rfl (XT.ii_ne_t (by decide)) (by decide) (by decide)) ?_
  show own_G p e below (s₁.setTop (mkF m 35 #[iv 4] [])) _
  refine oS (fun _ => XS.iloadN X0.here hx rfl (hb hby dd0_35) rfl) ?_
  refine oS (fun _ => XS.iconst X0.here hx rfl (hb hby dd0_36) ) ?_
  refine oS (fun _ => XS.icmpNo X0.here hx rfl (hb hby dd0_37) rfl (XT.ii_ne_f (by decide))) ?_
  show own_G p e below (s₁.setTop (mkF m 40 #[iv 4] [])) _
  have F189 : Sta Z h0 "com/example/tuplewise/tuplewise/model/Type" "OBJECT" "Lcom/example/tuplewise/tuplewise/model/Type;" (.ref ob_3) := Sta.ext O0.2 I188
  obtain ⟨T190, X191, e192, s193⟩ := getS X0 hx hZ hown (host := "") (oW hw 24 rfl) Via.refl e0 F189 (g := (mkF m 40 #[iv 4] [])) rfl (hb hby dd0_40)
  refine oS s193 ?_
  show own_G p e below (T190.setTop (mkF m 43 #[iv 4] [(.ref ob_3)])) _
  exact own_retA X191 hx Bd.notSynchronized Bd.returns rfl rfl (hb hby dd0_43) e192 (by decide) (by decide) (⟨rfl, N0, rfl⟩)
theorem dd1_18 : decode prog_33_method_7_code 18 = .ok (.iconst 0, 1) := by decide +kernel
def own_Q8 (Z : State) (ob_3 : Addr) (h0 : Heap) (n0 : Nat) (v : Option Value) (h : Heap) (L : List Loc) : Prop := (v = some (.int 0) ∧ Fr n0 L ∧ h = h0)
set_option maxRecDepth 65536 in
set_option maxHeartbeats 40000000 in
theorem own_rm8 (l : Launch) (Z : State) (a0 : Array Value) (hw : ∀ d ∈ tables_1, d.before a0 Z = true) (ws : List Jvm.Cond) (ob_3 : Addr) (h0 : Heap) (n0 : Nat) (Z0 : n0 ≤ h0.size) (O0 : Old Z n0 h0) (I206 : Sta Z Z.heap "com/example/tuplewise/tuplewise/model/Type" "OBJECT" "Lcom/example/tuplewise/tuplewise/model/Type;" (.ref ob_3)) :
    own_Met l Z h0 (⟨"com/example/tuplewise/tuplewise/model/Type", "isValue", "()Z"⟩ : MethodName) prog_33_method_7_code 1 (Option.some FieldType.boolean) ws ({ frames := 0, cells := 0, slots := 0, locals := 0 } : Room) #[(.ref ob_3)] (own_Q8 Z ob_3 h0 n0) 0 0 := by
  refine MetFree.of_bodySF (plainFor_of_name own_pn1) hisR ?_
  intro p e s m args below meth c s₁ Bd hml0 hP hK
  obtain ⟨rfl, hZ, hh⟩ := hP
  have hx := Bd.exec
  have hby := Bd.bytes
  have hml : c.maxLocals = 1 := hml0
  have hown : s.vm.findClass "com/example/tuplewise/tuplewise/model/Type" = some m.cls := findClass_of_methodNamed Bd.named
  have hnm := (name_of_methodNamed Bd.named Bd.method).1
  have X0 : Stand p l e ({ frames := 0, cells := 0, slots := 0, locals := 0 } : Room) s m #[(.ref ob_3)] below meth c s₁ [] 0 0 := Stand.of_body Bd
  have e0 : s₁.heap = h0 := by rw [← hh, Bd.state]; rfl
  have N0 := Fr.nil n0
  show own_G p e below (s₁.setTop (entryFrame m #[(.ref ob_3)] 1)) (own_P s (own_Q8 Z ob_3 h0 n0) 0 0)
  refine own_cast (own_ef2 m ob_3) ?_
  show own_G p e below (s₁.setTop (mkF m 0 #[rv ob_3] [])) _
  refine oS (fun _ => XS.aloadN X0.here hx rfl (hb hby dd1_0) rfl rfl) ?_
  have F207 : Sta Z h0 "com/example/tuplewise/tuplewise/model/Type" "OBJECT" "Lcom/example/tuplewise/tuplewise/model/Type;" (.ref ob_3) := Sta.ext O0.2 I206
  obtain ⟨T208, X209, e210, s211⟩ := getS X0 hx hZ hown (host := "") (oW hw 13 rfl) Via.refl e0 F207 (g := (mkF m 1 #[rv ob_3] [(.ref ob_3)])) rfl (hb hby dd1_1)
  refine oS s211 ?_
  show own_G p e below (T208.setTop (mkF m 4 #[rv ob_3] [(.ref ob_3), (.ref ob_3)])) _
  refine oS (fun _ => XT.acmpYes X209.here hx rfl (pc0 := 4) (pc' := 18) rfl (hb hby dd1_4) rfl rfl rfl (XT.aa_eq_t rfl) (by decide) (by decide)) ?_
  show own_G p e below (T208.setTop (mkF m 18 #[rv ob_3] [])) _
  refine oS (fun _ => XS.iconst X209.here hx rfl (hb hby dd1_18) ) ?_
  exact own_retN X209 hx (t := .boolean) Bd.notSynchronized Bd.returns (by simp) (hb hby dd1_19) (by decide) e210 (by decide) (by decide) (⟨rfl, N0, rfl⟩)
theorem dd0_44 : decode method_3_code 44 = .ok (.getstatic 36, 3) := by decide +kernel
theorem dd0_47 : decode method_3_code 47 = .ok (.areturn, 1) := by decide +kernel
def own_Q9 (Z : State) (ob_4 : Addr) (h0 : Heap) (n0 : Nat) (v : Option Value) (h : Heap) (L : List Loc) : Prop := (v = some (.ref ob_4) ∧ Fr n0 L ∧ h = h0)
set_option maxRecDepth 65536 in
set_option maxHeartbeats 40000000 in
theorem own_rm9 (l : Launch) (Z : State) (a0 : Array Value) (hw : ∀ d ∈ tables_1, d.before a0 Z = true) (ws : List Jvm.Cond) (ob_4 : Addr) (h0 : Heap) (n0 : Nat) (Z0 : n0 ≤ h0.size) (O0 : Old Z n0 h0) (I226 : Sta Z Z.heap "com/example/tuplewise/tuplewise/model/Type" "OBJECTS" "Lcom/example/tuplewise/tuplewise/model/Type;" (.ref ob_4)) :
    own_Met l Z h0 (⟨"com/example/tuplewise/tuplewise/model/TypeIsValuePinLaw", "pick", "(I)Lcom/example/tuplewise/tuplewise/model/Type;"⟩ : MethodName) method_3_code 1 (Option.some (FieldType.object "com/example/tuplewise/tuplewise/model/Type")) ws ({ frames := 0, cells := 0, slots := 0, locals := 0 } : Room) #[(.int 5)] (own_Q9 Z ob_4 h0 n0) 0 0 := by
  refine MetFree.of_bodySF (plainFor_of_name own_pn0) hisR ?_
  intro p e s m args below meth c s₁ Bd hml0 hP hK
  obtain ⟨rfl, hZ, hh⟩ := hP
  have hx := Bd.exec
  have hby := Bd.bytes
  have hml : c.maxLocals = 1 := hml0
  have hown : s.vm.findClass "com/example/tuplewise/tuplewise/model/TypeIsValuePinLaw" = some m.cls := findClass_of_methodNamed Bd.named
  have hnm := (name_of_methodNamed Bd.named Bd.method).1
  have X0 : Stand p l e ({ frames := 0, cells := 0, slots := 0, locals := 0 } : Room) s m #[(.int 5)] below meth c s₁ [] 0 0 := Stand.of_body Bd
  have e0 : s₁.heap = h0 := by rw [← hh, Bd.state]; rfl
  have N0 := Fr.nil n0
  show own_G p e below (s₁.setTop (entryFrame m #[(.int 5)] 1)) (own_P s (own_Q9 Z ob_4 h0 n0) 0 0)
  refine own_cast (own_ef1 m 5) ?_
  show own_G p e below (s₁.setTop (mkF m 0 #[iv 5] [])) _
  refine oS (fun _ => XS.iloadN X0.here hx rfl (hb hby dd0_0) rfl) ?_
  refine oS (fun _ => XS.ifYes X0.here hx rfl (pc0 := 1) (pc' := 8) rfl (hb hby dd0_1) rfl (XT.i0_ne_t (by decide)) (by decide) (by decide)) ?_
  show own_G p e below (s₁.setTop (mkF m 8 #[iv 5] [])) _
  refine oS (fun _ => XS.iloadN X0.here hx rfl (hb hby dd0_8) rfl) ?_
  refine oS (fun _ => XS.iconst X0.here hx rfl (hb hby dd0_9) ) ?_
  refine oS (fun _ => XS.icmpYes X0.here hx rfl (pc0 := 10) (pc' := 17) rfl (hb hby dd0_10) rfl (XT.ii_ne_t (by decide)) (by decide) (by decide)) ?_
  show own_G p e below (s₁.setTop (mkF m 17 #[iv 5] [])) _
  refine oS (fun _ => XS.iloadN X0.here hx rfl (hb hby dd0_17) rfl) ?_
  refine oS (fun _ => XS.iconst X0.here hx rfl (hb hby dd0_18) ) ?_
  refine oS (fun _ => XS.icmpYes X0.here hx rfl (pc0 := 19) (pc' := 26) rfl (hb hby dd0_19) rfl (XT.ii_ne_t (by decide)) (by decide) (by decide)) ?_
  show own_G p e below (s₁.setTop (mkF m 26 #[iv 5] [])) _
  refine oS (fun _ => XS.iloadN X0.here hx rfl (hb hby dd0_26) rfl) ?_
  refine oS (fun _ => XS.iconst X0.here hx rfl (hb hby dd0_27) ) ?_
  refine oS (fun _ => XS.icmpYes X0.here hx rfl (pc0 := 28) (pc' := 35) rfl (hb hby dd0_28) rfl (XT.ii_ne_t (by decide)) (by decide) (by decide)) ?_
  show own_G p e below (s₁.setTop (mkF m 35 #[iv 5] [])) _
  refine oS (fun _ => XS.iloadN X0.here hx rfl (hb hby dd0_35) rfl) ?_
  refine oS (fun _ => XS.iconst X0.here hx rfl (hb hby dd0_36) ) ?_
  refine oS (fun _ => XS.icmpYes X0.here hx rfl (pc0 := 37) (pc' := 44) rfl (hb hby dd0_37) rfl (XT.ii_ne_t (by decide)) (by decide) (by decide)) ?_
  show own_G p e below (s₁.setTop (mkF m 44 #[iv 5] [])) _
  have F227 : Sta Z h0 "com/example/tuplewise/tuplewise/model/Type" "OBJECTS" "Lcom/example/tuplewise/tuplewise/model/Type;" (.ref ob_4) := Sta.ext O0.2 I226
  obtain ⟨T228, X229, e230, s231⟩ := getS X0 hx hZ hown (host := "") (oW hw 23 rfl) Via.refl e0 F227 (g := (mkF m 44 #[iv 5] [])) rfl (hb hby dd0_44)
  refine oS s231 ?_
  show own_G p e below (T228.setTop (mkF m 47 #[iv 5] [(.ref ob_4)])) _
  exact own_retA X229 hx Bd.notSynchronized Bd.returns rfl rfl (hb hby dd0_47) e230 (by decide) (by decide) (⟨rfl, N0, rfl⟩)
def own_Q10 (Z : State) (ob_4 : Addr) (ob_3 : Addr) (h0 : Heap) (n0 : Nat) (v : Option Value) (h : Heap) (L : List Loc) : Prop := (v = some (.int 0) ∧ Fr n0 L ∧ h = h0)
set_option maxRecDepth 65536 in
set_option maxHeartbeats 40000000 in
theorem own_rm10 (l : Launch) (Z : State) (a0 : Array Value) (hw : ∀ d ∈ tables_1, d.before a0 Z = true) (ws : List Jvm.Cond) (ob_4 : Addr) (ob_3 : Addr) (h0 : Heap) (n0 : Nat) (Z0 : n0 ≤ h0.size) (O0 : Old Z n0 h0) (I247 : Sta Z Z.heap "com/example/tuplewise/tuplewise/model/Type" "OBJECT" "Lcom/example/tuplewise/tuplewise/model/Type;" (.ref ob_3)) (I253 : ob_4 ≠ ob_3) (I254 : Sta Z Z.heap "com/example/tuplewise/tuplewise/model/Type" "OBJECTS" "Lcom/example/tuplewise/tuplewise/model/Type;" (.ref ob_4)) :
    own_Met l Z h0 (⟨"com/example/tuplewise/tuplewise/model/Type", "isValue", "()Z"⟩ : MethodName) prog_33_method_7_code 1 (Option.some FieldType.boolean) ws ({ frames := 0, cells := 0, slots := 0, locals := 0 } : Room) #[(.ref ob_4)] (own_Q10 Z ob_4 ob_3 h0 n0) 0 0 := by
  refine MetFree.of_bodySF (plainFor_of_name own_pn1) hisR ?_
  intro p e s m args below meth c s₁ Bd hml0 hP hK
  obtain ⟨rfl, hZ, hh⟩ := hP
  have hx := Bd.exec
  have hby := Bd.bytes
  have hml : c.maxLocals = 1 := hml0
  have hown : s.vm.findClass "com/example/tuplewise/tuplewise/model/Type" = some m.cls := findClass_of_methodNamed Bd.named
  have hnm := (name_of_methodNamed Bd.named Bd.method).1
  have X0 : Stand p l e ({ frames := 0, cells := 0, slots := 0, locals := 0 } : Room) s m #[(.ref ob_4)] below meth c s₁ [] 0 0 := Stand.of_body Bd
  have e0 : s₁.heap = h0 := by rw [← hh, Bd.state]; rfl
  have N0 := Fr.nil n0
  show own_G p e below (s₁.setTop (entryFrame m #[(.ref ob_4)] 1)) (own_P s (own_Q10 Z ob_4 ob_3 h0 n0) 0 0)
  refine own_cast (own_ef2 m ob_4) ?_
  show own_G p e below (s₁.setTop (mkF m 0 #[rv ob_4] [])) _
  refine oS (fun _ => XS.aloadN X0.here hx rfl (hb hby dd1_0) rfl rfl) ?_
  have F248 : Sta Z h0 "com/example/tuplewise/tuplewise/model/Type" "OBJECT" "Lcom/example/tuplewise/tuplewise/model/Type;" (.ref ob_3) := Sta.ext O0.2 I247
  obtain ⟨T249, X250, e251, s252⟩ := getS X0 hx hZ hown (host := "") (oW hw 13 rfl) Via.refl e0 F248 (g := (mkF m 1 #[rv ob_4] [(.ref ob_4)])) rfl (hb hby dd1_1)
  refine oS s252 ?_
  show own_G p e below (T249.setTop (mkF m 4 #[rv ob_4] [(.ref ob_3), (.ref ob_4)])) _
  refine oS (fun _ => XT.acmpNo X250.here hx rfl (hb hby dd1_4) rfl rfl rfl (XT.aa_eq_f (own_rne I253))) ?_
  show own_G p e below (T249.setTop (mkF m 7 #[rv ob_4] [])) _
  refine oS (fun _ => XS.aloadN X250.here hx rfl (hb hby dd1_7) rfl rfl) ?_
  have F255 : Sta Z h0 "com/example/tuplewise/tuplewise/model/Type" "OBJECTS" "Lcom/example/tuplewise/tuplewise/model/Type;" (.ref ob_4) := Sta.ext O0.2 I254
  obtain ⟨T256, X257, e258, s259⟩ := getS X250 hx hZ hown (host := "") (oW hw 15 rfl) Via.refl e251 F255 (g := (mkF m 8 #[rv ob_4] [(.ref ob_4)])) rfl (hb hby dd1_8)
  refine oS s259 ?_
  show own_G p e below (T256.setTop (mkF m 11 #[rv ob_4] [(.ref ob_4), (.ref ob_4)])) _
  refine oS (fun _ => XT.acmpYes X257.here hx rfl (pc0 := 11) (pc' := 18) rfl (hb hby dd1_11) rfl rfl rfl (XT.aa_eq_t rfl) (by decide) (by decide)) ?_
  show own_G p e below (T256.setTop (mkF m 18 #[rv ob_4] [])) _
  refine oS (fun _ => XS.iconst X257.here hx rfl (hb hby dd1_18) ) ?_
  exact own_retN X257 hx (t := .boolean) Bd.notSynchronized Bd.returns (by simp) (hb hby dd1_19) (by decide) e258 (by decide) (by decide) (⟨rfl, N0, rfl⟩)
def own_Q1 (Z : State) (in_1 : Int32) (ob_2 : Addr) (ob_3 : Addr) (ob_4 : Addr) (ob_7 : Addr) (ob_6 : Addr) (ob_5 : Addr) (h0 : Heap) (n0 : Nat) (v : Option Value) (h : Heap) (L : List Loc) : Prop := (v = some (.int 1) ∧ Fr n0 L)
set_option maxRecDepth 65536 in
set_option maxHeartbeats 40000000 in
theorem own_rm1 (l : Launch) (Z : State) (a0 : Array Value) (hw : ∀ d ∈ tables_1, d.before a0 Z = true) (ws : List Jvm.Cond) (in_1 : Int32) (ob_2 : Addr) (ob_3 : Addr) (ob_4 : Addr) (ob_7 : Addr) (ob_6 : Addr) (ob_5 : Addr) (h0 : Heap) (n0 : Nat) (Z0 : n0 ≤ h0.size) (O0 : Old Z n0 h0) (I14 : Sta Z Z.heap "com/example/tuplewise/tuplewise/model/Type" "INT" "Lcom/example/tuplewise/tuplewise/model/Type;" (.ref ob_2)) (I33 : Sta Z Z.heap "com/example/tuplewise/tuplewise/model/Type" "OBJECT" "Lcom/example/tuplewise/tuplewise/model/Type;" (.ref ob_3)) (I40 : Fld Z Z.heap ob_2 "java/lang/Enum" "ordinal" "I" (.int 0)) (I42 : Fld Z Z.heap ob_3 "java/lang/Enum" "ordinal" "I" (.int 4)) (I46 : Sta Z Z.heap "com/example/tuplewise/tuplewise/model/Type" "OBJECTS" "Lcom/example/tuplewise/tuplewise/model/Type;" (.ref ob_4)) (I53 : Fld Z Z.heap ob_4 "java/lang/Enum" "ordinal" "I" (.int 5)) (I65 : Exa Z Z.heap ob_2 "com/example/tuplewise/tuplewise/model/Type") (I71 : Sta Z Z.heap "com/example/tuplewise/tuplewise/model/Type" "DOUBLE" "Lcom/example/tuplewise/tuplewise/model/Type;" (.ref ob_7)) (I90 : Fld Z Z.heap ob_7 "java/lang/Enum" "ordinal" "I" (.int 1)) (I104 : Exa Z Z.heap ob_7 "com/example/tuplewise/tuplewise/model/Type") (I110 : Sta Z Z.heap "com/example/tuplewise/tuplewise/model/Type" "BOOLEAN" "Lcom/example/tuplewise/tuplewise/model/Type;" (.ref ob_6)) (I129 : Fld Z Z.heap ob_6 "java/lang/Enum" "ordinal" "I" (.int 2)) (I143 : Exa Z Z.heap ob_6 "com/example/tuplewise/tuplewise/model/Type") (I149 : Sta Z Z.heap "com/example/tuplewise/tuplewise/model/Type" "STRING" "Lcom/example/tuplewise/tuplewise/model/Type;" (.ref ob_5)) (I168 : Fld Z Z.heap ob_5 "java/lang/Enum" "ordinal" "I" (.int 3)) (I182 : Exa Z Z.heap ob_5 "com/example/tuplewise/tuplewise/model/Type") (I220 : Exa Z Z.heap ob_3 "com/example/tuplewise/tuplewise/model/Type") (I268 : Exa Z Z.heap ob_4 "com/example/tuplewise/tuplewise/model/Type") :
    own_Met l Z h0 x code maxLocals ret ws room_1 #[(.int in_1)] (own_Q1 Z in_1 ob_2 ob_3 ob_4 ob_7 ob_6 ob_5 h0 n0) 0 0 := by
  refine MetFree.of_bodySF (plainFor_of_name own_pn0) hisR ?_
  intro p e s m args below meth c s₁ Bd hml0 hP hK
  obtain ⟨rfl, hZ, hh⟩ := hP
  have hx := Bd.exec
  have hby := Bd.bytes
  have hml : c.maxLocals = 4 := hml0
  have hown : s.vm.findClass "com/example/tuplewise/tuplewise/model/TypeIsValuePinLaw" = some m.cls := findClass_of_methodNamed Bd.named
  have hnm := (name_of_methodNamed Bd.named Bd.method).1
  have X0 : Stand p l e room_1 s m #[(.int in_1)] below meth c s₁ [] 0 0 := Stand.of_body Bd
  have e0 : s₁.heap = h0 := by rw [← hh, Bd.state]; rfl
  have N0 := Fr.nil n0
  show own_G p e below (s₁.setTop (entryFrame m #[(.int in_1)] maxLocals)) (own_P s (own_Q1 Z in_1 ob_2 ob_3 ob_4 ob_7 ob_6 ob_5 h0 n0) 0 0)
  refine own_cast (own_ef0 m in_1) ?_
  show own_G p e below (s₁.setTop (mkF m 0 #[iv in_1, .unset, .unset, .unset] [])) _
  refine oS (fun _ => XS.iloadN X0.here hx rfl (hb hby at_0) rfl) ?_
  refine oS (fun _ => X0.ldcI hx hown (mvT hZ (oW hw 0 rfl)) rfl (hb hby at_1)) ?_
  show own_G p e below (s₁.setTop (mkF m 3 #[iv in_1, .unset, .unset, .unset] [(.int 2147483647), (.int in_1)])) _
  refine oS (fun _ => XS.iand X0.here hx rfl (hb hby at_3) rfl) ?_
  refine oS (fun _ => XS.bipush X0.here hx rfl (hb hby at_4) ) ?_
  refine oS (fun _ => iremM X0 hx rfl (hb hby at_6) rfl (by decide)) ?_
  show own_G p e below (s₁.setTop (mkF m 7 #[iv in_1, .unset, .unset, .unset] [(.int ((in_1 &&& 2147483647) % 6))])) _
  rcases own_in6 (own_modlt in_1 6 (by decide)) with q8 | q9 | q10 | q11 | q12 | q13
  · skip
    refine own_cast (g' := (mkF m 7 #[iv in_1, .unset, .unset, .unset] [(.int 0)])) (by rw [q8]) ?_
    show own_G p e below (s₁.setTop (mkF m 7 #[iv in_1, .unset, .unset, .unset] [(.int 0)])) _
    refine oS (fun _ => XS.istoreN X0.here hx rfl (hb hby at_7) rfl (l' := #[iv in_1, iv 0, .unset, .unset]) rfl) ?_
    refine oS (fun _ => XS.iloadN X0.here hx rfl (hb hby at_8) rfl) ?_
    obtain ⟨T21, h22, v23, L24, X25, e26, q27, s28⟩ := own_callS X0 hx hZ hown e0 (y := (⟨"com/example/tuplewise/tuplewise/model/TypeIsValuePinLaw", "pick", "(I)Lcom/example/tuplewise/tuplewise/model/Type;"⟩ : MethodName)) (oW hw 1 rfl) (oW hw 2 rfl) (oW hw 3 rfl) (oW hw 4 rfl) (by decide) (W := 0) (own_rm2 l Z a0 hw [] ob_2 h0 n0 Z0 O0 I14) (by decide) (by decide) (by decide) (by decide) (g := (mkF m 9 #[iv in_1, iv 0, .unset, .unset] [(.int 0)])) rfl (by rw [hml]; rfl) (argsL := [(.int 0)]) (rest := []) rfl (lenOf own_pd0 rfl) rfl (by show 2 * 0 + _ ≤ _; exact Nat.le_of_eq rfl) (hb hby at_9)
    refine oS s28 ?_
    obtain ⟨rfl, N29, K30⟩ := q27
    have N31 := Fr.app N0 N29
    have e32 := e26.trans K30
    show own_G p e below (T21.setTop (mkF m 12 #[iv in_1, iv 0, .unset, .unset] [(.ref ob_2)])) _
    refine oS (fun _ => XS.astoreN X25.here hx rfl (hb hby at_12) rfl rfl (l' := #[iv in_1, iv 0, rv ob_2, .unset]) rfl) ?_
    refine oS (fun _ => XS.iloadN X25.here hx rfl (hb hby at_13) rfl) ?_
    refine oS (fun _ => XS.iconst X25.here hx rfl (hb hby at_14) ) ?_
    refine oS (fun _ => XS.icmpNo X25.here hx rfl (hb hby at_15) rfl (XT.ii_ge_f (by decide))) ?_
    show own_G p e below (T21.setTop (mkF m 18 #[iv in_1, iv 0, rv ob_2, .unset] [])) _
    refine oS (fun _ => XS.iconst X25.here hx rfl (hb hby at_18) ) ?_
    refine oS (fun _ => XS.goto X25.here hx rfl (pc0 := 19) (pc' := 23) rfl (hb hby at_19) (by decide) (by decide)) ?_
    show own_G p e below (T21.setTop (mkF m 23 #[iv in_1, iv 0, rv ob_2, .unset] [(.int 1)])) _
    refine oS (fun _ => XS.istoreN X25.here hx rfl (hb hby at_23) rfl (l' := #[iv in_1, iv 0, rv ob_2, iv 1]) rfl) ?_
    refine oS (fun _ => XS.aloadN X25.here hx rfl (hb hby at_24) rfl rfl) ?_
    have F41 : Fld Z h0 ob_2 "java/lang/Enum" "ordinal" "I" (.int 0) := Fld.ext O0.2 I40
    have F43 : Fld Z h0 ob_3 "java/lang/Enum" "ordinal" "I" (.int 4) := Fld.ext O0.2 I42
    have N44 : ob_2 ≠ ob_3 := F41.ne F43 (by decide)
    have F54 : Fld Z h0 ob_4 "java/lang/Enum" "ordinal" "I" (.int 5) := Fld.ext O0.2 I53
    have N55 : ob_2 ≠ ob_4 := F41.ne F54 (by decide)
    have F66 : Exa Z h0 ob_2 "com/example/tuplewise/tuplewise/model/Type" := Exa.ext O0.2 I65
    obtain ⟨T57, h58, v59, L60, X61, e62, q63, s64⟩ := own_callV X25 hx hZ hown e32 (y := (⟨"com/example/tuplewise/tuplewise/model/Type", "isValue", "()Z"⟩ : MethodName)) (z := (⟨"com/example/tuplewise/tuplewise/model/Type", "isValue", "()Z"⟩ : MethodName)) (C := "com/example/tuplewise/tuplewise/model/Type") (b := ob_2) (oW hw 8 rfl) (oW hw 9 rfl) (notFace_of_selects (args := #[]) (mvT hZ (oW hw 11 rfl))) (oW hw 11 rfl) (oW hw 10 rfl) (oW hw 6 rfl) (oW hw 12 rfl) (by decide) F66 (W := 0) (own_rm3 l Z a0 hw [] ob_2 ob_3 ob_4 h0 n0 Z0 O0 I33 N44 I46 N55) (by decide) (by decide) (by decide) (by decide) (g := (mkF m 25 #[iv in_1, iv 0, rv ob_2, iv 1] [(.ref ob_2)])) rfl (by rw [hml]; rfl) (argsL := []) (rest := []) rfl (lenOf own_pd1 rfl) rfl (by show 2 * 0 + _ ≤ _; exact Nat.le_of_eq rfl) (hb hby at_25)
    refine oS s64 ?_
    obtain ⟨rfl, N67, K68⟩ := q63
    have N69 := Fr.app N31 N67
    have e70 := e62.trans K68
    show own_G p e below (T57.setTop (mkF m 28 #[iv in_1, iv 0, rv ob_2, iv 1] [(.int 1)])) _
    refine oS (fun _ => XS.iloadN X61.here hx rfl (hb hby at_28) rfl) ?_
    refine oS (fun _ => XS.icmpNo X61.here hx rfl (hb hby at_29) rfl (XT.ii_ne_f (by decide))) ?_
    show own_G p e below (T57.setTop (mkF m 32 #[iv in_1, iv 0, rv ob_2, iv 1] [])) _
    refine oS (fun _ => XS.iconst X61.here hx rfl (hb hby at_32) ) ?_
    refine oS (fun _ => XS.goto X61.here hx rfl (pc0 := 33) (pc' := 37) rfl (hb hby at_33) (by decide) (by decide)) ?_
    show own_G p e below (T57.setTop (mkF m 37 #[iv in_1, iv 0, rv ob_2, iv 1] [(.int 1)])) _
    exact own_retN X61 hx (t := .boolean) Bd.notSynchronized Bd.returns (by simp) (hb hby at_37) (by decide) e70 (by decide) (by decide) (⟨rfl, N69⟩)
  · skip
    refine own_cast (g' := (mkF m 7 #[iv in_1, .unset, .unset, .unset] [(.int 1)])) (by rw [q9]) ?_
    show own_G p e below (s₁.setTop (mkF m 7 #[iv in_1, .unset, .unset, .unset] [(.int 1)])) _
    refine oS (fun _ => XS.istoreN X0.here hx rfl (hb hby at_7) rfl (l' := #[iv in_1, iv 1, .unset, .unset]) rfl) ?_
    refine oS (fun _ => XS.iloadN X0.here hx rfl (hb hby at_8) rfl) ?_
    obtain ⟨T78, h79, v80, L81, X82, e83, q84, s85⟩ := own_callS X0 hx hZ hown e0 (y := (⟨"com/example/tuplewise/tuplewise/model/TypeIsValuePinLaw", "pick", "(I)Lcom/example/tuplewise/tuplewise/model/Type;"⟩ : MethodName)) (oW hw 1 rfl) (oW hw 2 rfl) (oW hw 3 rfl) (oW hw 4 rfl) (by decide) (W := 0) (own_rm4 l Z a0 hw [] ob_7 h0 n0 Z0 O0 I71) (by decide) (by decide) (by decide) (by decide) (g := (mkF m 9 #[iv in_1, iv 1, .unset, .unset] [(.int 1)])) rfl (by rw [hml]; rfl) (argsL := [(.int 1)]) (rest := []) rfl (lenOf own_pd0 rfl) rfl (by show 2 * 0 + _ ≤ _; exact Nat.le_of_eq rfl) (hb hby at_9)
    refine oS s85 ?_
    obtain ⟨rfl, N86, K87⟩ := q84
    have N88 := Fr.app N0 N86
    have e89 := e83.trans K87
    show own_G p e below (T78.setTop (mkF m 12 #[iv in_1, iv 1, .unset, .unset] [(.ref ob_7)])) _
    refine oS (fun _ => XS.astoreN X82.here hx rfl (hb hby at_12) rfl rfl (l' := #[iv in_1, iv 1, rv ob_7, .unset]) rfl) ?_
    refine oS (fun _ => XS.iloadN X82.here hx rfl (hb hby at_13) rfl) ?_
    refine oS (fun _ => XS.iconst X82.here hx rfl (hb hby at_14) ) ?_
    refine oS (fun _ => XS.icmpNo X82.here hx rfl (hb hby at_15) rfl (XT.ii_ge_f (by decide))) ?_
    show own_G p e below (T78.setTop (mkF m 18 #[iv in_1, iv 1, rv ob_7, .unset] [])) _
    refine oS (fun _ => XS.iconst X82.here hx rfl (hb hby at_18) ) ?_
    refine oS (fun _ => XS.goto X82.here hx rfl (pc0 := 19) (pc' := 23) rfl (hb hby at_19) (by decide) (by decide)) ?_
    show own_G p e below (T78.setTop (mkF m 23 #[iv in_1, iv 1, rv ob_7, .unset] [(.int 1)])) _
    refine oS (fun _ => XS.istoreN X82.here hx rfl (hb hby at_23) rfl (l' := #[iv in_1, iv 1, rv ob_7, iv 1]) rfl) ?_
    refine oS (fun _ => XS.aloadN X82.here hx rfl (hb hby at_24) rfl rfl) ?_
    have F91 : Fld Z h0 ob_7 "java/lang/Enum" "ordinal" "I" (.int 1) := Fld.ext O0.2 I90
    have F92 : Fld Z h0 ob_3 "java/lang/Enum" "ordinal" "I" (.int 4) := Fld.ext O0.2 I42
    have N93 : ob_7 ≠ ob_3 := F91.ne F92 (by decide)
    have F94 : Fld Z h0 ob_4 "java/lang/Enum" "ordinal" "I" (.int 5) := Fld.ext O0.2 I53
    have N95 : ob_7 ≠ ob_4 := F91.ne F94 (by decide)
    have F105 : Exa Z h0 ob_7 "com/example/tuplewise/tuplewise/model/Type" := Exa.ext O0.2 I104
    obtain ⟨T96, h97, v98, L99, X100, e101, q102, s103⟩ := own_callV X82 hx hZ hown e89 (y := (⟨"com/example/tuplewise/tuplewise/model/Type", "isValue", "()Z"⟩ : MethodName)) (z := (⟨"com/example/tuplewise/tuplewise/model/Type", "isValue", "()Z"⟩ : MethodName)) (C := "com/example/tuplewise/tuplewise/model/Type") (b := ob_7) (oW hw 8 rfl) (oW hw 9 rfl) (notFace_of_selects (args := #[]) (mvT hZ (oW hw 11 rfl))) (oW hw 11 rfl) (oW hw 10 rfl) (oW hw 6 rfl) (oW hw 12 rfl) (by decide) F105 (W := 0) (own_rm3 l Z a0 hw [] ob_7 ob_3 ob_4 h0 n0 Z0 O0 I33 N93 I46 N95) (by decide) (by decide) (by decide) (by decide) (g := (mkF m 25 #[iv in_1, iv 1, rv ob_7, iv 1] [(.ref ob_7)])) rfl (by rw [hml]; rfl) (argsL := []) (rest := []) rfl (lenOf own_pd1 rfl) rfl (by show 2 * 0 + _ ≤ _; exact Nat.le_of_eq rfl) (hb hby at_25)
    refine oS s103 ?_
    obtain ⟨rfl, N106, K107⟩ := q102
    have N108 := Fr.app N88 N106
    have e109 := e101.trans K107
    show own_G p e below (T96.setTop (mkF m 28 #[iv in_1, iv 1, rv ob_7, iv 1] [(.int 1)])) _
    refine oS (fun _ => XS.iloadN X100.here hx rfl (hb hby at_28) rfl) ?_
    refine oS (fun _ => XS.icmpNo X100.here hx rfl (hb hby at_29) rfl (XT.ii_ne_f (by decide))) ?_
    show own_G p e below (T96.setTop (mkF m 32 #[iv in_1, iv 1, rv ob_7, iv 1] [])) _
    refine oS (fun _ => XS.iconst X100.here hx rfl (hb hby at_32) ) ?_
    refine oS (fun _ => XS.goto X100.here hx rfl (pc0 := 33) (pc' := 37) rfl (hb hby at_33) (by decide) (by decide)) ?_
    show own_G p e below (T96.setTop (mkF m 37 #[iv in_1, iv 1, rv ob_7, iv 1] [(.int 1)])) _
    exact own_retN X100 hx (t := .boolean) Bd.notSynchronized Bd.returns (by simp) (hb hby at_37) (by decide) e109 (by decide) (by decide) (⟨rfl, N108⟩)
  · skip
    refine own_cast (g' := (mkF m 7 #[iv in_1, .unset, .unset, .unset] [(.int 2)])) (by rw [q10]) ?_
    show own_G p e below (s₁.setTop (mkF m 7 #[iv in_1, .unset, .unset, .unset] [(.int 2)])) _
    refine oS (fun _ => XS.istoreN X0.here hx rfl (hb hby at_7) rfl (l' := #[iv in_1, iv 2, .unset, .unset]) rfl) ?_
    refine oS (fun _ => XS.iloadN X0.here hx rfl (hb hby at_8) rfl) ?_
    obtain ⟨T117, h118, v119, L120, X121, e122, q123, s124⟩ := own_callS X0 hx hZ hown e0 (y := (⟨"com/example/tuplewise/tuplewise/model/TypeIsValuePinLaw", "pick", "(I)Lcom/example/tuplewise/tuplewise/model/Type;"⟩ : MethodName)) (oW hw 1 rfl) (oW hw 2 rfl) (oW hw 3 rfl) (oW hw 4 rfl) (by decide) (W := 0) (own_rm5 l Z a0 hw [] ob_6 h0 n0 Z0 O0 I110) (by decide) (by decide) (by decide) (by decide) (g := (mkF m 9 #[iv in_1, iv 2, .unset, .unset] [(.int 2)])) rfl (by rw [hml]; rfl) (argsL := [(.int 2)]) (rest := []) rfl (lenOf own_pd0 rfl) rfl (by show 2 * 0 + _ ≤ _; exact Nat.le_of_eq rfl) (hb hby at_9)
    refine oS s124 ?_
    obtain ⟨rfl, N125, K126⟩ := q123
    have N127 := Fr.app N0 N125
    have e128 := e122.trans K126
    show own_G p e below (T117.setTop (mkF m 12 #[iv in_1, iv 2, .unset, .unset] [(.ref ob_6)])) _
    refine oS (fun _ => XS.astoreN X121.here hx rfl (hb hby at_12) rfl rfl (l' := #[iv in_1, iv 2, rv ob_6, .unset]) rfl) ?_
    refine oS (fun _ => XS.iloadN X121.here hx rfl (hb hby at_13) rfl) ?_
    refine oS (fun _ => XS.iconst X121.here hx rfl (hb hby at_14) ) ?_
    refine oS (fun _ => XS.icmpNo X121.here hx rfl (hb hby at_15) rfl (XT.ii_ge_f (by decide))) ?_
    show own_G p e below (T117.setTop (mkF m 18 #[iv in_1, iv 2, rv ob_6, .unset] [])) _
    refine oS (fun _ => XS.iconst X121.here hx rfl (hb hby at_18) ) ?_
    refine oS (fun _ => XS.goto X121.here hx rfl (pc0 := 19) (pc' := 23) rfl (hb hby at_19) (by decide) (by decide)) ?_
    show own_G p e below (T117.setTop (mkF m 23 #[iv in_1, iv 2, rv ob_6, .unset] [(.int 1)])) _
    refine oS (fun _ => XS.istoreN X121.here hx rfl (hb hby at_23) rfl (l' := #[iv in_1, iv 2, rv ob_6, iv 1]) rfl) ?_
    refine oS (fun _ => XS.aloadN X121.here hx rfl (hb hby at_24) rfl rfl) ?_
    have F130 : Fld Z h0 ob_6 "java/lang/Enum" "ordinal" "I" (.int 2) := Fld.ext O0.2 I129
    have F131 : Fld Z h0 ob_3 "java/lang/Enum" "ordinal" "I" (.int 4) := Fld.ext O0.2 I42
    have N132 : ob_6 ≠ ob_3 := F130.ne F131 (by decide)
    have F133 : Fld Z h0 ob_4 "java/lang/Enum" "ordinal" "I" (.int 5) := Fld.ext O0.2 I53
    have N134 : ob_6 ≠ ob_4 := F130.ne F133 (by decide)
    have F144 : Exa Z h0 ob_6 "com/example/tuplewise/tuplewise/model/Type" := Exa.ext O0.2 I143
    obtain ⟨T135, h136, v137, L138, X139, e140, q141, s142⟩ := own_callV X121 hx hZ hown e128 (y := (⟨"com/example/tuplewise/tuplewise/model/Type", "isValue", "()Z"⟩ : MethodName)) (z := (⟨"com/example/tuplewise/tuplewise/model/Type", "isValue", "()Z"⟩ : MethodName)) (C := "com/example/tuplewise/tuplewise/model/Type") (b := ob_6) (oW hw 8 rfl) (oW hw 9 rfl) (notFace_of_selects (args := #[]) (mvT hZ (oW hw 11 rfl))) (oW hw 11 rfl) (oW hw 10 rfl) (oW hw 6 rfl) (oW hw 12 rfl) (by decide) F144 (W := 0) (own_rm3 l Z a0 hw [] ob_6 ob_3 ob_4 h0 n0 Z0 O0 I33 N132 I46 N134) (by decide) (by decide) (by decide) (by decide) (g := (mkF m 25 #[iv in_1, iv 2, rv ob_6, iv 1] [(.ref ob_6)])) rfl (by rw [hml]; rfl) (argsL := []) (rest := []) rfl (lenOf own_pd1 rfl) rfl (by show 2 * 0 + _ ≤ _; exact Nat.le_of_eq rfl) (hb hby at_25)
    refine oS s142 ?_
    obtain ⟨rfl, N145, K146⟩ := q141
    have N147 := Fr.app N127 N145
    have e148 := e140.trans K146
    show own_G p e below (T135.setTop (mkF m 28 #[iv in_1, iv 2, rv ob_6, iv 1] [(.int 1)])) _
    refine oS (fun _ => XS.iloadN X139.here hx rfl (hb hby at_28) rfl) ?_
    refine oS (fun _ => XS.icmpNo X139.here hx rfl (hb hby at_29) rfl (XT.ii_ne_f (by decide))) ?_
    show own_G p e below (T135.setTop (mkF m 32 #[iv in_1, iv 2, rv ob_6, iv 1] [])) _
    refine oS (fun _ => XS.iconst X139.here hx rfl (hb hby at_32) ) ?_
    refine oS (fun _ => XS.goto X139.here hx rfl (pc0 := 33) (pc' := 37) rfl (hb hby at_33) (by decide) (by decide)) ?_
    show own_G p e below (T135.setTop (mkF m 37 #[iv in_1, iv 2, rv ob_6, iv 1] [(.int 1)])) _
    exact own_retN X139 hx (t := .boolean) Bd.notSynchronized Bd.returns (by simp) (hb hby at_37) (by decide) e148 (by decide) (by decide) (⟨rfl, N147⟩)
  · skip
    refine own_cast (g' := (mkF m 7 #[iv in_1, .unset, .unset, .unset] [(.int 3)])) (by rw [q11]) ?_
    show own_G p e below (s₁.setTop (mkF m 7 #[iv in_1, .unset, .unset, .unset] [(.int 3)])) _
    refine oS (fun _ => XS.istoreN X0.here hx rfl (hb hby at_7) rfl (l' := #[iv in_1, iv 3, .unset, .unset]) rfl) ?_
    refine oS (fun _ => XS.iloadN X0.here hx rfl (hb hby at_8) rfl) ?_
    obtain ⟨T156, h157, v158, L159, X160, e161, q162, s163⟩ := own_callS X0 hx hZ hown e0 (y := (⟨"com/example/tuplewise/tuplewise/model/TypeIsValuePinLaw", "pick", "(I)Lcom/example/tuplewise/tuplewise/model/Type;"⟩ : MethodName)) (oW hw 1 rfl) (oW hw 2 rfl) (oW hw 3 rfl) (oW hw 4 rfl) (by decide) (W := 0) (own_rm6 l Z a0 hw [] ob_5 h0 n0 Z0 O0 I149) (by decide) (by decide) (by decide) (by decide) (g := (mkF m 9 #[iv in_1, iv 3, .unset, .unset] [(.int 3)])) rfl (by rw [hml]; rfl) (argsL := [(.int 3)]) (rest := []) rfl (lenOf own_pd0 rfl) rfl (by show 2 * 0 + _ ≤ _; exact Nat.le_of_eq rfl) (hb hby at_9)
    refine oS s163 ?_
    obtain ⟨rfl, N164, K165⟩ := q162
    have N166 := Fr.app N0 N164
    have e167 := e161.trans K165
    show own_G p e below (T156.setTop (mkF m 12 #[iv in_1, iv 3, .unset, .unset] [(.ref ob_5)])) _
    refine oS (fun _ => XS.astoreN X160.here hx rfl (hb hby at_12) rfl rfl (l' := #[iv in_1, iv 3, rv ob_5, .unset]) rfl) ?_
    refine oS (fun _ => XS.iloadN X160.here hx rfl (hb hby at_13) rfl) ?_
    refine oS (fun _ => XS.iconst X160.here hx rfl (hb hby at_14) ) ?_
    refine oS (fun _ => XS.icmpNo X160.here hx rfl (hb hby at_15) rfl (XT.ii_ge_f (by decide))) ?_
    show own_G p e below (T156.setTop (mkF m 18 #[iv in_1, iv 3, rv ob_5, .unset] [])) _
    refine oS (fun _ => XS.iconst X160.here hx rfl (hb hby at_18) ) ?_
    refine oS (fun _ => XS.goto X160.here hx rfl (pc0 := 19) (pc' := 23) rfl (hb hby at_19) (by decide) (by decide)) ?_
    show own_G p e below (T156.setTop (mkF m 23 #[iv in_1, iv 3, rv ob_5, .unset] [(.int 1)])) _
    refine oS (fun _ => XS.istoreN X160.here hx rfl (hb hby at_23) rfl (l' := #[iv in_1, iv 3, rv ob_5, iv 1]) rfl) ?_
    refine oS (fun _ => XS.aloadN X160.here hx rfl (hb hby at_24) rfl rfl) ?_
    have F169 : Fld Z h0 ob_5 "java/lang/Enum" "ordinal" "I" (.int 3) := Fld.ext O0.2 I168
    have F170 : Fld Z h0 ob_3 "java/lang/Enum" "ordinal" "I" (.int 4) := Fld.ext O0.2 I42
    have N171 : ob_5 ≠ ob_3 := F169.ne F170 (by decide)
    have F172 : Fld Z h0 ob_4 "java/lang/Enum" "ordinal" "I" (.int 5) := Fld.ext O0.2 I53
    have N173 : ob_5 ≠ ob_4 := F169.ne F172 (by decide)
    have F183 : Exa Z h0 ob_5 "com/example/tuplewise/tuplewise/model/Type" := Exa.ext O0.2 I182
    obtain ⟨T174, h175, v176, L177, X178, e179, q180, s181⟩ := own_callV X160 hx hZ hown e167 (y := (⟨"com/example/tuplewise/tuplewise/model/Type", "isValue", "()Z"⟩ : MethodName)) (z := (⟨"com/example/tuplewise/tuplewise/model/Type", "isValue", "()Z"⟩ : MethodName)) (C := "com/example/tuplewise/tuplewise/model/Type") (b := ob_5) (oW hw 8 rfl) (oW hw 9 rfl) (notFace_of_selects (args := #[]) (mvT hZ (oW hw 11 rfl))) (oW hw 11 rfl) (oW hw 10 rfl) (oW hw 6 rfl) (oW hw 12 rfl) (by decide) F183 (W := 0) (own_rm3 l Z a0 hw [] ob_5 ob_3 ob_4 h0 n0 Z0 O0 I33 N171 I46 N173) (by decide) (by decide) (by decide) (by decide) (g := (mkF m 25 #[iv in_1, iv 3, rv ob_5, iv 1] [(.ref ob_5)])) rfl (by rw [hml]; rfl) (argsL := []) (rest := []) rfl (lenOf own_pd1 rfl) rfl (by show 2 * 0 + _ ≤ _; exact Nat.le_of_eq rfl) (hb hby at_25)
    refine oS s181 ?_
    obtain ⟨rfl, N184, K185⟩ := q180
    have N186 := Fr.app N166 N184
    have e187 := e179.trans K185
    show own_G p e below (T174.setTop (mkF m 28 #[iv in_1, iv 3, rv ob_5, iv 1] [(.int 1)])) _
    refine oS (fun _ => XS.iloadN X178.here hx rfl (hb hby at_28) rfl) ?_
    refine oS (fun _ => XS.icmpNo X178.here hx rfl (hb hby at_29) rfl (XT.ii_ne_f (by decide))) ?_
    show own_G p e below (T174.setTop (mkF m 32 #[iv in_1, iv 3, rv ob_5, iv 1] [])) _
    refine oS (fun _ => XS.iconst X178.here hx rfl (hb hby at_32) ) ?_
    refine oS (fun _ => XS.goto X178.here hx rfl (pc0 := 33) (pc' := 37) rfl (hb hby at_33) (by decide) (by decide)) ?_
    show own_G p e below (T174.setTop (mkF m 37 #[iv in_1, iv 3, rv ob_5, iv 1] [(.int 1)])) _
    exact own_retN X178 hx (t := .boolean) Bd.notSynchronized Bd.returns (by simp) (hb hby at_37) (by decide) e187 (by decide) (by decide) (⟨rfl, N186⟩)
  · skip
    refine own_cast (g' := (mkF m 7 #[iv in_1, .unset, .unset, .unset] [(.int 4)])) (by rw [q12]) ?_
    show own_G p e below (s₁.setTop (mkF m 7 #[iv in_1, .unset, .unset, .unset] [(.int 4)])) _
    refine oS (fun _ => XS.istoreN X0.here hx rfl (hb hby at_7) rfl (l' := #[iv in_1, iv 4, .unset, .unset]) rfl) ?_
    refine oS (fun _ => XS.iloadN X0.here hx rfl (hb hby at_8) rfl) ?_
    obtain ⟨T194, h195, v196, L197, X198, e199, q200, s201⟩ := own_callS X0 hx hZ hown e0 (y := (⟨"com/example/tuplewise/tuplewise/model/TypeIsValuePinLaw", "pick", "(I)Lcom/example/tuplewise/tuplewise/model/Type;"⟩ : MethodName)) (oW hw 1 rfl) (oW hw 2 rfl) (oW hw 3 rfl) (oW hw 4 rfl) (by decide) (W := 0) (own_rm7 l Z a0 hw [] ob_3 h0 n0 Z0 O0 I33) (by decide) (by decide) (by decide) (by decide) (g := (mkF m 9 #[iv in_1, iv 4, .unset, .unset] [(.int 4)])) rfl (by rw [hml]; rfl) (argsL := [(.int 4)]) (rest := []) rfl (lenOf own_pd0 rfl) rfl (by show 2 * 0 + _ ≤ _; exact Nat.le_of_eq rfl) (hb hby at_9)
    refine oS s201 ?_
    obtain ⟨rfl, N202, K203⟩ := q200
    have N204 := Fr.app N0 N202
    have e205 := e199.trans K203
    show own_G p e below (T194.setTop (mkF m 12 #[iv in_1, iv 4, .unset, .unset] [(.ref ob_3)])) _
    refine oS (fun _ => XS.astoreN X198.here hx rfl (hb hby at_12) rfl rfl (l' := #[iv in_1, iv 4, rv ob_3, .unset]) rfl) ?_
    refine oS (fun _ => XS.iloadN X198.here hx rfl (hb hby at_13) rfl) ?_
    refine oS (fun _ => XS.iconst X198.here hx rfl (hb hby at_14) ) ?_
    refine oS (fun _ => XS.icmpYes X198.here hx rfl (pc0 := 15) (pc' := 22) rfl (hb hby at_15) rfl (XT.ii_ge_t (by decide)) (by decide) (by decide)) ?_
    show own_G p e below (T194.setTop (mkF m 22 #[iv in_1, iv 4, rv ob_3, .unset] [])) _
    refine oS (fun _ => XS.iconst X198.here hx rfl (hb hby at_22) ) ?_
    refine oS (fun _ => XS.istoreN X198.here hx rfl (hb hby at_23) rfl (l' := #[iv in_1, iv 4, rv ob_3, iv 0]) rfl) ?_
    refine oS (fun _ => XS.aloadN X198.here hx rfl (hb hby at_24) rfl rfl) ?_
    have F221 : Exa Z h0 ob_3 "com/example/tuplewise/tuplewise/model/Type" := Exa.ext O0.2 I220
    obtain ⟨T212, h213, v214, L215, X216, e217, q218, s219⟩ := own_callV X198 hx hZ hown e205 (y := (⟨"com/example/tuplewise/tuplewise/model/Type", "isValue", "()Z"⟩ : MethodName)) (z := (⟨"com/example/tuplewise/tuplewise/model/Type", "isValue", "()Z"⟩ : MethodName)) (C := "com/example/tuplewise/tuplewise/model/Type") (b := ob_3) (oW hw 8 rfl) (oW hw 9 rfl) (notFace_of_selects (args := #[]) (mvT hZ (oW hw 11 rfl))) (oW hw 11 rfl) (oW hw 10 rfl) (oW hw 6 rfl) (oW hw 12 rfl) (by decide) F221 (W := 0) (own_rm8 l Z a0 hw [] ob_3 h0 n0 Z0 O0 I33) (by decide) (by decide) (by decide) (by decide) (g := (mkF m 25 #[iv in_1, iv 4, rv ob_3, iv 0] [(.ref ob_3)])) rfl (by rw [hml]; rfl) (argsL := []) (rest := []) rfl (lenOf own_pd1 rfl) rfl (by show 2 * 0 + _ ≤ _; exact Nat.le_of_eq rfl) (hb hby at_25)
    refine oS s219 ?_
    obtain ⟨rfl, N222, K223⟩ := q218
    have N224 := Fr.app N204 N222
    have e225 := e217.trans K223
    show own_G p e below (T212.setTop (mkF m 28 #[iv in_1, iv 4, rv ob_3, iv 0] [(.int 0)])) _
    refine oS (fun _ => XS.iloadN X216.here hx rfl (hb hby at_28) rfl) ?_
    refine oS (fun _ => XS.icmpNo X216.here hx rfl (hb hby at_29) rfl (XT.ii_ne_f (by decide))) ?_
    show own_G p e below (T212.setTop (mkF m 32 #[iv in_1, iv 4, rv ob_3, iv 0] [])) _
    refine oS (fun _ => XS.iconst X216.here hx rfl (hb hby at_32) ) ?_
    refine oS (fun _ => XS.goto X216.here hx rfl (pc0 := 33) (pc' := 37) rfl (hb hby at_33) (by decide) (by decide)) ?_
    show own_G p e below (T212.setTop (mkF m 37 #[iv in_1, iv 4, rv ob_3, iv 0] [(.int 1)])) _
    exact own_retN X216 hx (t := .boolean) Bd.notSynchronized Bd.returns (by simp) (hb hby at_37) (by decide) e225 (by decide) (by decide) (⟨rfl, N224⟩)
  · skip
    refine own_cast (g' := (mkF m 7 #[iv in_1, .unset, .unset, .unset] [(.int 5)])) (by rw [q13]) ?_
    show own_G p e below (s₁.setTop (mkF m 7 #[iv in_1, .unset, .unset, .unset] [(.int 5)])) _
    refine oS (fun _ => XS.istoreN X0.here hx rfl (hb hby at_7) rfl (l' := #[iv in_1, iv 5, .unset, .unset]) rfl) ?_
    refine oS (fun _ => XS.iloadN X0.here hx rfl (hb hby at_8) rfl) ?_
    obtain ⟨T232, h233, v234, L235, X236, e237, q238, s239⟩ := own_callS X0 hx hZ hown e0 (y := (⟨"com/example/tuplewise/tuplewise/model/TypeIsValuePinLaw", "pick", "(I)Lcom/example/tuplewise/tuplewise/model/Type;"⟩ : MethodName)) (oW hw 1 rfl) (oW hw 2 rfl) (oW hw 3 rfl) (oW hw 4 rfl) (by decide) (W := 0) (own_rm9 l Z a0 hw [] ob_4 h0 n0 Z0 O0 I46) (by decide) (by decide) (by decide) (by decide) (g := (mkF m 9 #[iv in_1, iv 5, .unset, .unset] [(.int 5)])) rfl (by rw [hml]; rfl) (argsL := [(.int 5)]) (rest := []) rfl (lenOf own_pd0 rfl) rfl (by show 2 * 0 + _ ≤ _; exact Nat.le_of_eq rfl) (hb hby at_9)
    refine oS s239 ?_
    obtain ⟨rfl, N240, K241⟩ := q238
    have N242 := Fr.app N0 N240
    have e243 := e237.trans K241
    show own_G p e below (T232.setTop (mkF m 12 #[iv in_1, iv 5, .unset, .unset] [(.ref ob_4)])) _
    refine oS (fun _ => XS.astoreN X236.here hx rfl (hb hby at_12) rfl rfl (l' := #[iv in_1, iv 5, rv ob_4, .unset]) rfl) ?_
    refine oS (fun _ => XS.iloadN X236.here hx rfl (hb hby at_13) rfl) ?_
    refine oS (fun _ => XS.iconst X236.here hx rfl (hb hby at_14) ) ?_
    refine oS (fun _ => XS.icmpYes X236.here hx rfl (pc0 := 15) (pc' := 22) rfl (hb hby at_15) rfl (XT.ii_ge_t (by decide)) (by decide) (by decide)) ?_
    show own_G p e below (T232.setTop (mkF m 22 #[iv in_1, iv 5, rv ob_4, .unset] [])) _
    refine oS (fun _ => XS.iconst X236.here hx rfl (hb hby at_22) ) ?_
    refine oS (fun _ => XS.istoreN X236.here hx rfl (hb hby at_23) rfl (l' := #[iv in_1, iv 5, rv ob_4, iv 0]) rfl) ?_
    refine oS (fun _ => XS.aloadN X236.here hx rfl (hb hby at_24) rfl rfl) ?_
    have F244 : Fld Z h0 ob_4 "java/lang/Enum" "ordinal" "I" (.int 5) := Fld.ext O0.2 I53
    have F245 : Fld Z h0 ob_3 "java/lang/Enum" "ordinal" "I" (.int 4) := Fld.ext O0.2 I42
    have N246 : ob_4 ≠ ob_3 := F244.ne F245 (by decide)
    have F269 : Exa Z h0 ob_4 "com/example/tuplewise/tuplewise/model/Type" := Exa.ext O0.2 I268
    obtain ⟨T260, h261, v262, L263, X264, e265, q266, s267⟩ := own_callV X236 hx hZ hown e243 (y := (⟨"com/example/tuplewise/tuplewise/model/Type", "isValue", "()Z"⟩ : MethodName)) (z := (⟨"com/example/tuplewise/tuplewise/model/Type", "isValue", "()Z"⟩ : MethodName)) (C := "com/example/tuplewise/tuplewise/model/Type") (b := ob_4) (oW hw 8 rfl) (oW hw 9 rfl) (notFace_of_selects (args := #[]) (mvT hZ (oW hw 11 rfl))) (oW hw 11 rfl) (oW hw 10 rfl) (oW hw 6 rfl) (oW hw 12 rfl) (by decide) F269 (W := 0) (own_rm10 l Z a0 hw [] ob_4 ob_3 h0 n0 Z0 O0 I33 N246 I46) (by decide) (by decide) (by decide) (by decide) (g := (mkF m 25 #[iv in_1, iv 5, rv ob_4, iv 0] [(.ref ob_4)])) rfl (by rw [hml]; rfl) (argsL := []) (rest := []) rfl (lenOf own_pd1 rfl) rfl (by show 2 * 0 + _ ≤ _; exact Nat.le_of_eq rfl) (hb hby at_25)
    refine oS s267 ?_
    obtain ⟨rfl, N270, K271⟩ := q266
    have N272 := Fr.app N242 N270
    have e273 := e265.trans K271
    show own_G p e below (T260.setTop (mkF m 28 #[iv in_1, iv 5, rv ob_4, iv 0] [(.int 0)])) _
    refine oS (fun _ => XS.iloadN X264.here hx rfl (hb hby at_28) rfl) ?_
    refine oS (fun _ => XS.icmpNo X264.here hx rfl (hb hby at_29) rfl (XT.ii_ne_f (by decide))) ?_
    show own_G p e below (T260.setTop (mkF m 32 #[iv in_1, iv 5, rv ob_4, iv 0] [])) _
    refine oS (fun _ => XS.iconst X264.here hx rfl (hb hby at_32) ) ?_
    refine oS (fun _ => XS.goto X264.here hx rfl (pc0 := 33) (pc' := 37) rfl (hb hby at_33) (by decide) (by decide)) ?_
    show own_G p e below (T260.setTop (mkF m 37 #[iv in_1, iv 5, rv ob_4, iv 0] [(.int 1)])) _
    exact own_retN X264 hx (t := .boolean) Bd.notSynchronized Bd.returns (by simp) (hb hby at_37) (by decide) e273 (by decide) (by decide) (⟨rfl, N272⟩)
set_option maxRecDepth 65536 in
set_option maxHeartbeats 40000000 in
theorem comes_1 {Post : Tables → Env → Array Value → State → Outcome → State → Prop} (hpost : ∀ tb e args s v u, (limb_1_1.after args s (.returned v) u = true ∧ limb_1_2.after args s (.returned v) u = true ∧ True) → FrameEnd s (.returned v) u (Jvm.fieldLocs frame_1_writes args s ++ Jvm.arrayLocs frame_1_arrays args s ++ Jvm.staticLocs frame_1_statics s) 0 0 → Post tb e args s (.returned v) u) :
    ArmFor flags0 classFile x code maxLocals ret World_1 tables_1 room_1 Calls_1 rest_1 Pre_1 Post := by
  intro l hfl _ _ p e ha hc hk s m args below hf hA hF happ hP
  obtain ⟨hcalls, hrest, hpre⟩ := hP
  obtain ⟨-, -, -, hnamed, -, -, -, hat⟩ := (Spec.applies_iff hf).mp happ
  obtain ⟨hg, hn⟩ := and_e (Cond.before_iff.mp (show (Jvm.Cond.and given_1 narrow_1).before args s = true from hpre))
  obtain ⟨g0, gg0⟩ := and_e hg
  obtain ⟨w0, rfl⟩ : ∃ w0 : Value, args = #[w0] := by
    have hs : args.size = 1 := by simpa [Cond.value, given_1] using g0
    obtain ⟨L⟩ := args
    match L, hs with
    | [w0], _ => exact ⟨w0, rfl⟩
  have hw := fun d (hd : d ∈ tables_1) => atoms_spec (ws := Jvm.Cond.code x code maxLocals ret :: tables_1) hat d (List.mem_cons_of_mem _ hd)
  have hfit : Fit s := fun {y c} hc i hi => by
    obtain ⟨ha, rfl⟩ := Array.getElem?_eq_some_iff.mp hc
    have q := List.all_eq_true.mp ((Array.all_eq_true_iff_forall_mem.mp hF) _ (Array.getElem_mem ha)) i (List.mem_range.mpr hi)
    simpa [Array.getElem?_eq_getElem hi] using q
  obtain ⟨in_1, ea0⟩ := is_v gg0
  obtain rfl : w0 = (.int in_1) := Option.some.inj ea0
  obtain ⟨c0, r0⟩ := and_e hn
  obtain ⟨c1, r1⟩ := and_e r0
  obtain ⟨c2, r2⟩ := and_e r1
  obtain ⟨c3, r3⟩ := and_e r2
  obtain ⟨c4, r4⟩ := and_e r3
  obtain ⟨c5, r5⟩ := and_e r4
  obtain ⟨c6, r6⟩ := and_e r5
  obtain ⟨c7, r7⟩ := and_e r6
  obtain ⟨c8, r8⟩ := and_e r7
  obtain ⟨c9, r9⟩ := and_e r8
  obtain ⟨c10, c11⟩ := and_e r9
  obtain ⟨ob_2, ev_ob_2⟩ := exa_v c0
  obtain ⟨ob_3, ev_ob_3⟩ := exa_v c1
  obtain ⟨ob_4, ev_ob_4⟩ := exa_v c4
  obtain ⟨ob_5, ev_ob_5⟩ := exa_v c6
  obtain ⟨ob_6, ev_ob_6⟩ := exa_v c8
  obtain ⟨ob_7, ev_ob_7⟩ := exa_v c10
  obtain ⟨n, o, h1, h2, h3, _, L, rfl, ⟨rfl, N⟩, hq⟩ := own_rm1 l s _ hw tables_1 in_1 ob_2 ob_3 ob_4 ob_7 ob_6 ob_5 s.heap s.heap.size (Nat.le_refl _) (Old.start s) (Sta.start ev_ob_2 (Or.inr ⟨(oW hw 6 rfl), (oW hw 7 rfl)⟩)) (Sta.start ev_ob_3 (Or.inr ⟨(oW hw 6 rfl), (oW hw 14 rfl)⟩)) (own_fv ev_ob_2 (Term.int_eval 0) c2) (own_fv ev_ob_3 (Term.int_eval 4) c3) (Sta.start ev_ob_4 (Or.inr ⟨(oW hw 6 rfl), (oW hw 16 rfl)⟩)) (own_fv ev_ob_4 (Term.int_eval 5) c5) (Exa.start ev_ob_2 c0) (Sta.start ev_ob_7 (Or.inr ⟨(oW hw 6 rfl), (oW hw 22 rfl)⟩)) (own_fv ev_ob_7 (Term.int_eval 1) c11) (Exa.start ev_ob_7 c10) (Sta.start ev_ob_6 (Or.inr ⟨(oW hw 6 rfl), (oW hw 20 rfl)⟩)) (own_fv ev_ob_6 (Term.int_eval 2) c9) (Exa.start ev_ob_6 c8) (Sta.start ev_ob_5 (Or.inr ⟨(oW hw 6 rfl), (oW hw 18 rfl)⟩)) (own_fv ev_ob_5 (Term.int_eval 3) c7) (Exa.start ev_ob_5 c6) (Exa.start ev_ob_3 c1) (Exa.start ev_ob_4 c4) p e ha hc hk s m _ below hf ((Spec.applies_iff_loose hf).mp happ).1 ⟨rfl, State.Warmed39.refl s, rfl⟩ trivial
  refine ⟨n, _, h1, h2, h3, hpost _ _ _ _ _ _ ⟨Cond.after_iff.mpr rfl, Cond.after_iff.mpr (eq_i res_at (Term.int_eval (1)) rfl), trivial⟩ ⟨hq.1, hq.2.1, (hq.2.2.sift fun y hy => Or.inr (N y hy)).mono (by decide) (by decide)⟩⟩
theorem main_1_1 : Claimed_1_1 := comes_1 fun _ _ _ _ _ _ h hF => ⟨h.1, hF⟩
theorem main_1_2 : Claimed_1_2 := comes_1 fun _ _ _ _ _ _ h hF => ⟨h.2.1, hF⟩
end Jvm.Pilot.@@N@@
namespace Jvm.Pilot.@@N@@
open Jvm Jvm.ClassFile Sem Op Lib Jvm.Free Jvm.Stand Jvm.Pilot.@@N@@.Jvm.D
/-! MADE BY PROGRAM (witnessworld.py) out of the Statement's table words and the real class files: 12 classes; the members and pool entries that the words name. The judged class is class 1, her method 1. -/
namespace start1
open Jvm.ClassFile
def u (s : String) : CpInfo := .utf8 (stringToUtf16 s)
/-- a pool by its gaps: so many unusable entries, then the entry; so many at the end -/
def gap : Nat → List CpInfo → List CpInfo
  | 0, r => r
  | n + 1, r => .unusable :: gap n r
def poolList (es : List (Nat × CpInfo)) (last : Nat) : List CpInfo := es.foldr (fun e r => gap e.1 (e.2 :: r)) (gap last [])
def pool (es : List (Nat × CpInfo)) (last : Nat) : Array CpInfo := ⟨poolList es last⟩
def fileOf (pool : Array CpInfo) (this : Nat) (attrs : Array Attribute := #[]) (ms : Array MethodInfo := #[]) (fl : Nat := 33) (sup : Nat := 0) (ifs : Array Nat := #[]) (fds : Array FieldInfo := #[]) : ClassFile where
  minorVersion := 0
  majorVersion := 65
  constantPool := pool
  accessFlags := fl
  thisClass := this
  superClass := sup
  interfaces := ifs
  fields := fds
  methods := ms
  attributes := attrs
def plain (name : String) (sup : Option ClassId) : Class where
  name := name
  kind := .ordinary
  loader := none
  accessFlags := 33
  super := sup
  interfaces := #[]
  cf := none
  fields := #[]
  methods := #[]
  instanceTypes := #[]
  staticTypes := #[]
  resolved := #[]
  callSites := []
  init := .initialized
  statics := none
  mirror := none

def pool0 : Array CpInfo := pool [(5, u "<init>"), (0, u "()V"), (1, .class_ 10), (1, u "java/lang/Object")] 113

def k0m0 : Method := { name := "<init>", desc := "()V", sig := { parameters := [], returnType := none }, accessFlags := 1, code := none }
/-- java/lang/Object -/
def k0 : Class := { plain "java/lang/Object" none with
  accessFlags := 33
  interfaces := #[]
  cf := some (fileOf pool0 8 #[] #[{ accessFlags := 1, nameIndex := 5, descriptorIndex := 6, attributes := #[] }] 33 0 #[] #[])
  fields := #[]
  methods := #[k0m0]
  instanceTypes := #[]
  staticTypes := #[]
  resolved := Array.replicate 124 none
  statics := none }

def pool1 : Array CpInfo := pool [(2, .class_ 4), (1, u "java/lang/Object"), (0, u "<init>"), (0, u "()V"), (0, .integer 2147483647), (0, .methodref 9 10), (0, .class_ 11), (0, .nameAndType 12 13), (0, u "com/example/tuplewise/tuplewise/model/TypeIsValuePinLaw"), (0, u "pick"), (0, u "(I)Lcom/example/tuplewise/tuplewise/model/Type;"), (0, .methodref 15 16), (0, .class_ 17), (0, .nameAndType 18 19), (0, u "com/example/tuplewise/tuplewise/model/Type"), (0, u "isValue"), (0, u "()Z"), (0, .fieldref 15 21), (0, .nameAndType 22 23), (0, u "INT"), (0, u "Lcom/example/tuplewise/tuplewise/model/Type;"), (0, .fieldref 15 25), (0, .nameAndType 26 23), (0, u "DOUBLE"), (0, .fieldref 15 28), (0, .nameAndType 29 23), (0, u "BOOLEAN"), (0, .fieldref 15 31), (0, .nameAndType 32 23), (0, u "STRING"), (0, .fieldref 15 34), (0, .nameAndType 35 23), (0, u "OBJECT"), (0, .fieldref 15 37), (0, .nameAndType 38 23), (0, u "OBJECTS"), (2, u "law"), (0, u "(I)Z")] 3

def k1m0 : Method := { name := "<init>", desc := "()V", sig := { parameters := [], returnType := none }, accessFlags := 1, code := none }
def k1c1 : Code := { maxStack := 2, maxLocals := 4, code := code, exceptionTable := #[], attributes := #[] }
def k1m1 : Method := { name := "law", desc := "(I)Z", sig := { parameters := [.int], returnType := some .boolean }, accessFlags := 9, code := some k1c1 }
def k1c2 : Code := { maxStack := 2, maxLocals := 1, code := method_3_code, exceptionTable := #[], attributes := #[] }
def k1m2 : Method := { name := "pick", desc := "(I)Lcom/example/tuplewise/tuplewise/model/Type;", sig := { parameters := [.int], returnType := some (.object "com/example/tuplewise/tuplewise/model/Type") }, accessFlags := 10, code := some k1c2 }
/-- com/example/tuplewise/tuplewise/model/TypeIsValuePinLaw -/
def k1 : Class := { plain "com/example/tuplewise/tuplewise/model/TypeIsValuePinLaw" (some 0) with
  accessFlags := 49
  interfaces := #[]
  cf := some (fileOf pool1 9 #[] #[{ accessFlags := 1, nameIndex := 5, descriptorIndex := 6, attributes := #[] }, { accessFlags := 9, nameIndex := 41, descriptorIndex := 42, attributes := #[] }, { accessFlags := 10, nameIndex := 12, descriptorIndex := 13, attributes := #[] }] 49 2 #[] #[])
  fields := #[]
  methods := #[k1m0, k1m1, k1m2]
  instanceTypes := #[]
  staticTypes := #[]
  resolved := Array.replicate 46 none
  statics := none }

def pool2 : Array CpInfo := pool [(1, .class_ 2), (0, u "java/lang/constant/Constable"), (0, .class_ 4), (0, u "java/lang/Object")] 6

/-- java/lang/constant/Constable -/
def k2 : Class := { plain "java/lang/constant/Constable" (some 0) with
  accessFlags := 1537
  interfaces := #[]
  cf := some (fileOf pool2 1 #[] #[] 1537 3 #[] #[])
  fields := #[]
  methods := #[]
  instanceTypes := #[]
  staticTypes := #[]
  resolved := Array.replicate 11 none
  statics := none }

def pool3 : Array CpInfo := pool [(1, .class_ 2), (0, u "java/lang/Comparable"), (0, .class_ 4), (0, u "java/lang/Object")] 7

/-- java/lang/Comparable -/
def k3 : Class := { plain "java/lang/Comparable" (some 0) with
  accessFlags := 1537
  interfaces := #[]
  cf := some (fileOf pool3 1 #[] #[] 1537 3 #[] #[])
  fields := #[]
  methods := #[]
  instanceTypes := #[]
  staticTypes := #[]
  resolved := Array.replicate 12 none
  statics := none }

def pool4 : Array CpInfo := pool [(1, .class_ 2), (0, u "java/io/Serializable"), (0, .class_ 4), (0, u "java/lang/Object")] 2

/-- java/io/Serializable -/
def k4 : Class := { plain "java/io/Serializable" (some 0) with
  accessFlags := 1537
  interfaces := #[]
  cf := some (fileOf pool4 1 #[] #[] 1537 3 #[] #[])
  fields := #[]
  methods := #[]
  instanceTypes := #[]
  staticTypes := #[]
  resolved := Array.replicate 7 none
  statics := none }

def pool5 : Array CpInfo := pool [(2, .class_ 4), (1, u "java/lang/Enum"), (0, u "name"), (0, u "Ljava/lang/String;"), (2, u "ordinal"), (0, u "I"), (1, .class_ 14), (1, u "java/lang/Object"), (4, u "hash"), (86, .class_ 108), (1, u "java/lang/Enum$EnumDesc"), (2, .class_ 112), (0, u "java/lang/constant/Constable"), (0, .class_ 114), (0, u "java/lang/Comparable"), (0, .class_ 116), (0, u "java/io/Serializable")] 87

/-- java/lang/Enum -/
def k5 : Class := { plain "java/lang/Enum" (some 0) with
  accessFlags := 1057
  interfaces := #[2, 3, 4]
  cf := some (fileOf pool5 2 #[.nestMembers #[106]] #[] 1057 12 #[111, 113, 115] #[{ accessFlags := 18, nameIndex := 5, descriptorIndex := 6, attributes := #[] }, { accessFlags := 18, nameIndex := 9, descriptorIndex := 10, attributes := #[] }, { accessFlags := 2, nameIndex := 19, descriptorIndex := 10, attributes := #[] }])
  fields := #[{ name := "name", type := (.object "java/lang/String"), accessFlags := 18, slot := 0, constantValue := 0 }, { name := "ordinal", type := .int, accessFlags := 18, slot := 1, constantValue := 0 }, { name := "hash", type := .int, accessFlags := 2, slot := 2, constantValue := 0 }]
  methods := #[]
  instanceTypes := #[(.object "java/lang/String"), .int, .int]
  staticTypes := #[]
  resolved := Array.replicate 204 none
  statics := none }

def pool6 : Array CpInfo := pool [(1, .class_ 2), (0, u "com/example/tuplewise/tuplewise/model/Type"), (2, u "INT"), (0, u "Lcom/example/tuplewise/tuplewise/model/Type;"), (2, u "DOUBLE"), (2, u "BOOLEAN"), (2, u "STRING"), (0, .fieldref 1 17), (0, .nameAndType 18 6), (0, u "OBJECT"), (0, .fieldref 1 20), (0, .nameAndType 21 6), (0, u "OBJECTS"), (2, u "$VALUES"), (0, u "[Lcom/example/tuplewise/tuplewise/model/Type;"), (6, .class_ 34), (1, u "java/lang/Enum"), (8, u "keyword"), (0, u "Ljava/lang/String;"), (2, u "defaultValue"), (0, u "Ljava/lang/Object;"), (2, u "javaType"), (0, u "Ljava/lang/Class;"), (2, u "isValue"), (0, u "()Z")] 112

def k6c0 : Code := { maxStack := 2, maxLocals := 1, code := prog_33_method_7_code, exceptionTable := #[], attributes := #[] }
def k6m0 : Method := { name := "isValue", desc := "()Z", sig := { parameters := [], returnType := some .boolean }, accessFlags := 1, code := some k6c0 }
/-- com/example/tuplewise/tuplewise/model/Type -/
def k6 : Class := { plain "com/example/tuplewise/tuplewise/model/Type" (some 5) with
  accessFlags := 16433
  interfaces := #[]
  cf := some (fileOf pool6 1 #[] #[{ accessFlags := 1, nameIndex := 55, descriptorIndex := 56, attributes := #[] }] 16433 32 #[] #[{ accessFlags := 16409, nameIndex := 5, descriptorIndex := 6, attributes := #[] }, { accessFlags := 16409, nameIndex := 9, descriptorIndex := 6, attributes := #[] }, { accessFlags := 16409, nameIndex := 12, descriptorIndex := 6, attributes := #[] }, { accessFlags := 16409, nameIndex := 15, descriptorIndex := 6, attributes := #[] }, { accessFlags := 16409, nameIndex := 18, descriptorIndex := 6, attributes := #[] }, { accessFlags := 16409, nameIndex := 21, descriptorIndex := 6, attributes := #[] }, { accessFlags := 18, nameIndex := 43, descriptorIndex := 44, attributes := #[] }, { accessFlags := 18, nameIndex := 47, descriptorIndex := 48, attributes := #[] }, { accessFlags := 18, nameIndex := 51, descriptorIndex := 52, attributes := #[] }, { accessFlags := 4122, nameIndex := 24, descriptorIndex := 25, attributes := #[] }])
  fields := #[{ name := "INT", type := (.object "com/example/tuplewise/tuplewise/model/Type"), accessFlags := 16409, slot := 0, constantValue := 0 }, { name := "DOUBLE", type := (.object "com/example/tuplewise/tuplewise/model/Type"), accessFlags := 16409, slot := 1, constantValue := 0 }, { name := "BOOLEAN", type := (.object "com/example/tuplewise/tuplewise/model/Type"), accessFlags := 16409, slot := 2, constantValue := 0 }, { name := "STRING", type := (.object "com/example/tuplewise/tuplewise/model/Type"), accessFlags := 16409, slot := 3, constantValue := 0 }, { name := "OBJECT", type := (.object "com/example/tuplewise/tuplewise/model/Type"), accessFlags := 16409, slot := 4, constantValue := 0 }, { name := "OBJECTS", type := (.object "com/example/tuplewise/tuplewise/model/Type"), accessFlags := 16409, slot := 5, constantValue := 0 }, { name := "keyword", type := (.object "java/lang/String"), accessFlags := 18, slot := 3, constantValue := 0 }, { name := "defaultValue", type := (.object "java/lang/Object"), accessFlags := 18, slot := 4, constantValue := 0 }, { name := "javaType", type := (.object "java/lang/Class"), accessFlags := 18, slot := 5, constantValue := 0 }, { name := "$VALUES", type := (.array (.object "com/example/tuplewise/tuplewise/model/Type")), accessFlags := 4122, slot := 6, constantValue := 0 }]
  methods := #[k6m0]
  instanceTypes := #[(.object "java/lang/String"), .int, .int, (.object "java/lang/String"), (.object "java/lang/Object"), (.object "java/lang/Class")]
  staticTypes := #[(.object "com/example/tuplewise/tuplewise/model/Type"), (.object "com/example/tuplewise/tuplewise/model/Type"), (.object "com/example/tuplewise/tuplewise/model/Type"), (.object "com/example/tuplewise/tuplewise/model/Type"), (.object "com/example/tuplewise/tuplewise/model/Type"), (.object "com/example/tuplewise/tuplewise/model/Type"), (.array (.object "com/example/tuplewise/tuplewise/model/Type"))]
  resolved := Array.replicate 169 none
  statics := some 0 }

def pool7 : Array CpInfo := pool [(1, u "java/lang/Cloneable"), (0, .class_ 1), (0, u "java/lang/Object"), (0, .class_ 3)] 3

/-- java/lang/Cloneable -/
def k7 : Class := { plain "java/lang/Cloneable" (some 0) with
  accessFlags := 1537
  interfaces := #[]
  cf := some (fileOf pool7 2 #[] #[] 1537 4 #[] #[])
  fields := #[]
  methods := #[]
  instanceTypes := #[]
  staticTypes := #[]
  resolved := Array.replicate 8 none
  statics := none }

/-- the primitive byte -/
def k8 : Class := { plain "byte" none with kind := .primitive 'B', accessFlags := 0x411 }
/-- [B -/
def k9 : Class := { plain "[B" (some 0) with kind := .array 8 .byte, interfaces := #[7, 4], accessFlags := 1041 }

/-- the primitive int -/
def k10 : Class := { plain "int" none with kind := .primitive 'I', accessFlags := 0x411 }
/-- [I -/
def k11 : Class := { plain "[I" (some 0) with kind := .array 10 .int, interfaces := #[7, 4], accessFlags := 1041 }

def heap : Heap := #[{ cls := 6, slots := #[.ref 1, .ref 6, .ref 5, .ref 4, .ref 2, .ref 3, .null], vm := .statics 6 },
  { cls := 6, slots := #[.null, .int 0, .int 0, .null, .null, .null], vm := .none },
  { cls := 6, slots := #[.null, .int 4, .int 0, .null, .null, .null], vm := .none },
  { cls := 6, slots := #[.null, .int 5, .int 0, .null, .null, .null], vm := .none },
  { cls := 6, slots := #[.null, .int 3, .int 0, .null, .null, .null], vm := .none },
  { cls := 6, slots := #[.null, .int 2, .int 0, .null, .null, .null], vm := .none },
  { cls := 6, slots := #[.null, .int 1, .int 0, .null, .null, .null], vm := .none }]
def classes : Array Class := #[k0, k1, k2, k3, k4, k5, k6, k7, k8, k9, k10, k11]
def interned : List (Array UInt16 × Addr) := []
def slotsUsed : Nat := 43
def theMethod : MethodId := ⟨1, 1⟩
def args0 : Array Value := #[.int 5]
def aboutOver (below : List Frame) : State where
  vm := { classes := classes, interned := interned.toArray }
  heap := heap
  slotsUsed := slotsUsed
  threads := #[{ frames := .invoking theMethod args0 :: below }]
def below0 : List Frame := [.native { method := ⟨0, 0⟩, args := #[] }]
def about1 : State := aboutOver below0
def p0 : Program := .bare "" "" ""
def e0 : Env := launch0.env 0 0 0
theorem w_frames : about1.frames = Frame.invoking theMethod args0 :: below0 := rfl
set_option maxRecDepth 65536 in
theorem w_args : argsFit about1.vm theMethod args0 = true := by decide +kernel
set_option maxRecDepth 65536 in
theorem w_heap : heapFits about1 = true := by decide +kernel
set_option maxRecDepth 65536 in
theorem w_runnable : about1.curStatus? = some .runnable := by decide +kernel
set_option maxRecDepth 65536 in
theorem w_alone : about1.alone = true := by decide +kernel
set_option maxRecDepth 65536 in
theorem w_named : about1.methodNamed? x = some theMethod := by decide +kernel
set_option maxRecDepth 65536 in
theorem w_hears : about1.hears theMethod below0 = true := by decide +kernel
set_option maxRecDepth 65536 in
theorem w_ripe : about1.ripe theMethod args0 below0 = true := by decide +kernel
theorem w_running : about1.status = .running := rfl
set_option maxRecDepth 65536 in
theorem w_room : about1.hasRoom e0.platform room_1 = true :=
  launch0.hasRoom_least _ room_1 (by decide +kernel) (by decide +kernel) (by decide +kernel) (by decide +kernel) (by decide +kernel) (by decide +kernel)
theorem allAtoms_all (ts : List Jvm.Cond) (a : Array Jvm.Value) (st : Jvm.State) : (allAtoms ts).before a st = ts.all (fun c => c.before a st) := by
  induction ts with
  | nil => rfl
  | cons c t ih =>
    show (Jvm.Cond.and c (allAtoms t)).before a st = _
    rw [Jvm.Cond.before_and, ih, List.all_cons]
def words1 : List Jvm.Cond := Jvm.Cond.code x code maxLocals ret :: tables_1
/-- a 'code' word, met by the world's own term for the bytes: nothing is compared byte by byte -/
theorem code_word {y : MethodName} {bytes : ByteArray} {mx : Nat} {rt : Option FieldType} {a : Array Value} {s : State} {m : MethodId} {meth : Method} {c : Code} (h1 : s.methodNamed? y = some m) (h2 : s.vm.method? m = some meth) (h3 : meth.code = some c) (h4 : c.code = bytes)
    (h5 : (c.maxLocals == mx && c.exceptionTable.isEmpty && decide (c.maxStack ≤ mostOperands) && decide (meth.sig.returnType = rt) && !meth.locks && decide (parseMethodDescriptor y.desc = some meth.sig)) = true) : (Jvm.Cond.code y bytes mx rt).before a s = true := by
  simp only [Bool.and_eq_true, beq_iff_eq, Bool.not_eq_true', decide_eq_true_eq] at h5
  obtain ⟨⟨⟨⟨⟨g1, g2⟩, g3⟩, g4⟩, g5⟩, g6⟩ := h5
  simp [Cond.before, Cond.holds, Cond.value, h1, h2, h3, h4, g1, g2, g3, g4, g5, g6]
def isCode : Jvm.Cond → Bool
  | .code _ _ _ _ => true
  | _ => false
theorem all_split {L : List Jvm.Cond} {P : Jvm.Cond → Bool} (h1 : L.all (fun c => isCode c || P c) = true) (h2 : ∀ c ∈ L.filter isCode, P c = true) : L.all P = true := by
  refine List.all_eq_true.mpr fun c hc => ?_
  have h := List.all_eq_true.mp h1 c hc
  rcases Bool.eq_false_or_eq_true (isCode c) with hi | hi
  · exact h2 c (List.mem_filter.mpr ⟨hc, hi⟩)
  · simpa [hi] using h
set_option maxRecDepth 65536 in
theorem w_c0 : (Jvm.Cond.code x code maxLocals ret).before args0 about1 = true := code_word (m := ⟨1, 1⟩) (meth := k1m1) (c := k1c1) (by decide +kernel) rfl rfl rfl (by decide +kernel)
set_option maxRecDepth 65536 in
theorem w_c1 : (Jvm.Cond.code ({ cls := "com/example/tuplewise/tuplewise/model/TypeIsValuePinLaw", name := "pick", desc := "(I)Lcom/example/tuplewise/tuplewise/model/Type;" } : Jvm.MethodName) method_3_code (1 : Nat) (Option.some (Jvm.ClassFile.FieldType.object "com/example/tuplewise/tuplewise/model/Type"))).before args0 about1 = true := code_word (m := ⟨1, 2⟩) (meth := k1m2) (c := k1c2) (by decide +kernel) rfl rfl rfl (by decide +kernel)
set_option maxRecDepth 65536 in
theorem w_c2 : (Jvm.Cond.code ({ cls := "com/example/tuplewise/tuplewise/model/Type", name := "isValue", desc := "()Z" } : Jvm.MethodName) prog_33_method_7_code (1 : Nat) (Option.some Jvm.ClassFile.FieldType.boolean)).before args0 about1 = true := code_word (m := ⟨6, 0⟩) (meth := k6m0) (c := k6c0) (by decide +kernel) rfl rfl rfl (by decide +kernel)
def codes1 : List Jvm.Cond := [Jvm.Cond.code x code maxLocals ret, Jvm.Cond.code ({ cls := "com/example/tuplewise/tuplewise/model/TypeIsValuePinLaw", name := "pick", desc := "(I)Lcom/example/tuplewise/tuplewise/model/Type;" } : Jvm.MethodName) method_3_code (1 : Nat) (Option.some (Jvm.ClassFile.FieldType.object "com/example/tuplewise/tuplewise/model/Type")), Jvm.Cond.code ({ cls := "com/example/tuplewise/tuplewise/model/Type", name := "isValue", desc := "()Z" } : Jvm.MethodName) prog_33_method_7_code (1 : Nat) (Option.some Jvm.ClassFile.FieldType.boolean)]
set_option maxRecDepth 65536 in
theorem codes_eq : words1.filter isCode = codes1 := rfl
theorem w_codes : ∀ c ∈ words1.filter isCode, c.before args0 about1 = true := by
  rw [codes_eq]
  intro c hc
  simp only [codes1, List.mem_cons, List.not_mem_nil, or_false] at hc
  rcases hc with rfl | rfl | rfl
  · exact w_c0
  · exact w_c1
  · exact w_c2
set_option maxRecDepth 65536 in
theorem w_t1 : (words1.take 24).all (fun c => isCode c || c.before args0 about1) = true := by decide +kernel
set_option maxRecDepth 65536 in
theorem w_t2 : (words1.drop 24).all (fun c => isCode c || c.before args0 about1) = true := by decide +kernel
theorem w_tables : (allAtoms (Jvm.Cond.code x code maxLocals ret :: tables_1)).before args0 about1 = true := by
  rw [allAtoms_all]
  show words1.all (fun c => c.before args0 about1) = true
  refine all_split ?_ w_codes
  rw [← List.take_append_drop 24 words1, List.all_append, w_t1, w_t2]
  rfl
set_option maxRecDepth 65536 in
theorem w_case : (Jvm.Cond.and given_1 narrow_1).before args0 about1 = true := by decide +kernel
theorem w_applies : (headSpec (Jvm.Cond.code x code maxLocals ret :: tables_1) room_1).applies x e0.platform about1 = true :=
  (Spec.applies_iff w_frames).mpr ⟨w_running, w_runnable, w_alone, w_named, w_hears, w_ripe, w_room, w_tables⟩
theorem atStart : AtStart classFile x code maxLocals ret World_1 tables_1 room_1 Calls_1 rest_1 Pre_1 launch0 p0 e0 about1 theMethod args0 below0 :=
  ⟨lists_1, trivial, launch0.admits_env _ _ _, launch0.least_env, fairChoices_fair.cas, fairChoices_fair.clock, w_frames, w_args, w_heap, w_applies, trivial, trivial, w_case⟩
end start1
theorem witness_1 : WitnessClaimed_1 := ⟨start1.p0, start1.e0, start1.about1, start1.theMethod, start1.args0, start1.below0, start1.atStart⟩
end Jvm.Pilot.@@N@@
