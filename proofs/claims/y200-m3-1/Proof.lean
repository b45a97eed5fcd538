import JvmDerived
import JvmDerived.Pilot.@@N@@Statement
import JvmDerived.Pilot.@@N@@Code
set_option linter.unusedVariables false
set_option linter.unusedSimpArgs false
@@BLOCK:NumsL.lean.txt@@
namespace Jvm.Pilot.@@N@@
open Jvm Jvm.ClassFile Sem Op Lib Jvm.Free Jvm.Stand Jvm.LawKit Jvm.RoadKit Bundle Jvm.Pilot.@@N@@.Jvm.D
section Own
variable {p : Program} {l : Launch} {e : Env} {R : Room} {s : State} {m : MethodId} {args : Array Value} {below : List Frame} {meth : Method} {c : Code} {T : State} {locs : List Loc} {cells slots : Nat} {Z : State} {a0 : Array Value} {h : Heap}
/-- a walk that goes forward: from S the run comes to an end of which P holds -/
def own_G (p : Program) (e : Env) (below : List Frame) (S : State) (P : Outcome → State → Prop) : Prop :=
  ∃ s₂ o, Steps p.tables e below S s₂ ∧ s₂.status = .running ∧ Ended s₂ below o ∧ P o s₂
/-- what a body leaves -/
def own_P (s : State) (Q : Option Value → Heap → List Loc → Prop) (kc ks : Nat) (o : Outcome) (U : State) : Prop := ∃ v L, o = .returned v ∧ Q v U.heap L ∧ FrameEnd s o U L kc ks
theorem oS {S S' : State} {P : Outcome → State → Prop} (k : ∀ t, Steps p.tables e below S' t → Steps p.tables e below S t) (h : own_G p e below S' P) : own_G p e below S P := by
  obtain ⟨s2, o, h1, h2⟩ := h; exact ⟨s2, o, k _ h1, h2⟩
theorem oW {Z : State} {a0 : Array Value} (hw : ∀ d ∈ tables_1, d.before a0 Z = true) (i : Nat) {d : Jvm.Cond} (q : tables_1[i]? = some d) : d.before a0 Z = true := hw _ (List.mem_of_getElem? q)
theorem own_cast {g g' : JFrame} {P : Outcome → State → Prop} (q : g = g') (k : own_G p e below (T.setTop g') P) : own_G p e below (T.setTop g) P := q ▸ k
theorem own_leave (X : Stand p l e R s m args below meth c T locs cells slots) {g : JFrame} {v : Option Value} {Q : Option Value → Heap → List Loc → Prop} {kc ks : Nat} (hlocks : meth.locks = false) (hv : meth.sig.returnType = none → v = none)
    (k : ∀ fs, (∀ (f : JFrame) (acts : List Action), f.method = m → f.locked = none → f.entered = [] → (doReturn e (T.setTop f) acts v).1 = T.setFrames fs) → Steps p.tables e below (T.setTop g) (T.setFrames fs))
    (eT : T.heap = h) (hc : cells ≤ kc) (hs : slots ≤ ks) (hq : Q v h locs) : own_G p e below (T.setTop g) (own_P s Q kc ks) := by
  obtain ⟨fs, hr, hrun, hended, hW, hsame⟩ := X.leave (v := v) hv hlocks
  exact ⟨_, _, k fs hr, hrun, hended, _, _, rfl, by show Q v T.heap locs; rw [eT]; exact hq, ⟨_, rfl⟩, hW, hsame.mono hc hs⟩
theorem own_retN (X : Stand p l e R s m args below meth c T locs cells slots) (hx : p.tables.exec = Jvm.exec) {pc : Nat} {Ls : Array Slot} {z : Int32} {t : FieldType} {rest : List Value} {Q : Option Value → Heap → List Loc → Prop} {kc ks : Nat} (hlocks : meth.locks = false) (hret : meth.sig.returnType = some t) (ht : t = .boolean ∨ t = .byte ∨ t = .char ∨ t = .short)
    (hd : decode c.code pc = .ok (.ireturn, 1)) (hn : nar t z = z) (eT : T.heap = h) (hc : cells ≤ kc) (hs : slots ≤ ks) (hq : Q (some (.int z)) h locs) : own_G p e below (T.setTop (mkF m pc Ls (.int z :: rest))) (own_P s Q kc ks) :=
  own_leave X (v := some (.int z)) hlocks (fun q => by rw [hret] at q; cases q) (fun fs hl => retN X hx hret ht hd (by rw [hn]; exact hl)) eT hc hs hq
theorem own_retI (X : Stand p l e R s m args below meth c T locs cells slots) (hx : p.tables.exec = Jvm.exec) {pc : Nat} {Ls : Array Slot} {z : Int32} {rest : List Value} {Q : Option Value → Heap → List Loc → Prop} {kc ks : Nat} (hlocks : meth.locks = false) (hret : meth.sig.returnType = some .int)
    (hd : decode c.code pc = .ok (.ireturn, 1)) (eT : T.heap = h) (hc : cells ≤ kc) (hs : slots ≤ ks) (hq : Q (some (.int z)) h locs) : own_G p e below (T.setTop (mkF m pc Ls (.int z :: rest))) (own_P s Q kc ks) :=
  own_leave X (v := some (.int z)) hlocks (fun q => by rw [hret] at q; cases q) (fun fs hl => retOut X hx hret rfl (Or.inl ⟨rfl, Or.inl rfl, _, rfl⟩) hd hl) eT hc hs hq
theorem own_retL (X : Stand p l e R s m args below meth c T locs cells slots) (hx : p.tables.exec = Jvm.exec) {pc : Nat} {Ls : Array Slot} {z : Int64} {rest : List Value} {Q : Option Value → Heap → List Loc → Prop} {kc ks : Nat} (hlocks : meth.locks = false) (hret : meth.sig.returnType = some .long)
    (hd : decode c.code pc = .ok (.lreturn, 1)) (eT : T.heap = h) (hc : cells ≤ kc) (hs : slots ≤ ks) (hq : Q (some (.long z)) h locs) : own_G p e below (T.setTop (mkF m pc Ls (.long z :: rest))) (own_P s Q kc ks) :=
  own_leave X (v := some (.long z)) hlocks (fun q => by rw [hret] at q; cases q) (fun fs hl => retOut X hx hret rfl (Or.inr (Or.inl ⟨rfl, rfl, _, rfl⟩)) hd hl) eT hc hs hq
theorem own_narR {t : FieldType} {w : Value} (h : w.isRef = true) : narrow t w = w := by
  rcases ref_cases h with rfl | ⟨a, rfl⟩ <;> cases t <;> rfl
theorem own_retA (X : Stand p l e R s m args below meth c T locs cells slots) (hx : p.tables.exec = Jvm.exec) {pc : Nat} {Ls : Array Slot} {w : Value} {t : FieldType} {rest : List Value} {Q : Option Value → Heap → List Loc → Prop} {kc ks : Nat} (hlocks : meth.locks = false) (hret : meth.sig.returnType = some t) (ht : t.isReference = true) (hw : w.isRef = true)
    (hd : decode c.code pc = .ok (.areturn, 1)) (eT : T.heap = h) (hc : cells ≤ kc) (hs : slots ≤ ks) (hq : Q (some w) h locs) : own_G p e below (T.setTop (mkF m pc Ls (w :: rest))) (own_P s Q kc ks) :=
  own_leave X (v := some w) hlocks (fun q => by rw [hret] at q; cases q) (fun fs hl => retOut X hx hret (own_narR hw) (Or.inr (Or.inr (Or.inr (Or.inr ⟨rfl, ht, hw⟩)))) hd hl) eT hc hs hq
theorem own_retV (X : Stand p l e R s m args below meth c T locs cells slots) (hx : p.tables.exec = Jvm.exec) {pc : Nat} {Ls : Array Slot} {Q : Option Value → Heap → List Loc → Prop} {kc ks : Nat} (hlocks : meth.locks = false) (hret : meth.sig.returnType = none)
    (hd : decode c.code pc = .ok (.return_, 1)) (eT : T.heap = h) (hc : cells ≤ kc) (hs : slots ≤ ks) (hq : Q none h locs) : own_G p e below (T.setTop (mkF m pc Ls [])) (own_P s Q kc ks) :=
  own_leave X (v := none) hlocks (fun _ => rfl) (fun fs hl => X.returnOut hx hret hd hl) eT hc hs hq
abbrev own_Met (l : Launch) (Z : State) (h : Heap) (y : MethodName) (bytes : ByteArray) (maxL : Nat) (ret : Option FieldType) (ws : List Jvm.Cond) (rm : Room) (as' : Array Value) (Q : Option Value → Heap → List Loc → Prop) (kc ks : Nat) : Prop :=
  MetFree l y (head1 (Jvm.Cond.code y bytes maxL ret :: ws) rm) (fun a U => a = as' ∧ Z.Warmed39 U.vm ∧ U.heap = h) (fun _ _ _ _ _ => True) (fun _ U o U' => ∃ v L, o = .returned v ∧ Q v U'.heap L ∧ FrameEnd U o U' L kc ks)
variable {own : String} {index : Nat} {y : MethodName} {bytes : ByteArray} {maxL : Nat} {ret : Option FieldType} {rm : Room} {W : Nat} {as' : Array Value} {Q : Option Value → Heap → List Loc → Prop}
abbrev own_After (p : Program) (l : Launch) (e : Env) (R : Room) (s : State) (m : MethodId) (args : Array Value) (below : List Frame) (meth : Method) (c : Code) (T : State) (locs : List Loc) (kc ks : Nat) (g : JFrame) (rest : List Value) (Q : Option Value → Heap → List Loc → Prop) (len : Nat := 3) : Prop :=
  ∃ (T' : State) (h' : Heap) (v : Option Value) (L : List Loc), Stand p l e R s m args below meth c T' (locs ++ L) kc ks ∧ T'.heap = h' ∧ Q v h' L ∧ ∀ target, Steps p.tables e below (T'.setTop { g with pc := g.pc + len, stack := v.toList ++ rest }) target → Steps p.tables e below (T.setTop g) target
theorem own_callS (X : Stand p l e R s m args below meth c T locs cells slots) (hx : p.tables.exec = Jvm.exec) (hZ : Z.Warmed39 s.vm) (hown : s.vm.findClass own = some m.cls) (eT : T.heap = h)
    (w1 : (Jvm.Cond.methodLink own index y).before a0 Z = true) (w2 : (Jvm.Cond.static y).before a0 Z = true) (w3 : (Jvm.Cond.initialized y.cls).before a0 Z = true) (w4 : (Jvm.Cond.code y bytes maxL ret).before a0 Z = true) (hy : y.cls ≠ "java/lang/invoke/MethodHandle" ∧ y.cls ≠ "java/lang/invoke/VarHandle")
    (hM : own_Met l Z h y bytes maxL ret [] rm as' Q rm.cells rm.slots)
    (hf : rm.frames + 1 ≤ R.frames) (hl : W + (maxL + 11) + rm.locals ≤ R.locals) (hc : cells + rm.cells ≤ R.cells) (hsl : slots + rm.slots ≤ R.slots)
    {g : JFrame} (hg : g.method = m) (hsize : g.locals.size = c.maxLocals) {argsL rest : List Value} (has : argsL.toArray = as') (hlen : ∀ sig, parseMethodDescriptor y.desc = some sig → argsL.length = sig.parameters.length)
    (hstack : g.stack = argsL.reverse ++ rest) (hW : 2 * g.monitorRoom + (rest.map fun v => v.category).sum ≤ W) (hd : decode c.code g.pc = .ok (.invokestatic index, 3)) :
    own_After p l e R s m args below meth c T locs (cells + rm.cells) (slots + rm.slots) g rest Q := by
  obtain ⟨v, vm1, ⟨T', L', k', n'⟩, -, X', ⟨Lc, hQ, l1, y1, z1⟩, st⟩ := Jvm.LawKit.callS X hx (y := y) hown (mvT hZ w1) (mvT hZ w2) (mvT hZ w3) (mvT hZ w4) hy (backOf (W := W) hM hZ w4 w3 hf hl) hg hsize hlen hstack hW hd (fun _ _ => ⟨has, eT, hc, hsl⟩)
  dsimp only [Pt.U, Pt.locs, Pt.cells, Pt.slots] at X' l1 y1 z1 st hQ
  subst l1 y1 z1
  exact ⟨T', _, v, Lc, X', rfl, hQ, st⟩
theorem own_callV (X : Stand p l e R s m args below meth c T locs cells slots) (hx : p.tables.exec = Jvm.exec) (hZ : Z.Warmed39 s.vm) (hown : s.vm.findClass own = some m.cls) (eT : T.heap = h) {z : MethodName} {C : String} {b : Addr}
    (w1 : (Jvm.Cond.methodLink own index y).before a0 Z = true) (w2 : (Jvm.Cond.declares y).before a0 Z = true) (nf : NotFace s y) (w3 : (Jvm.Cond.selects C y z).before a0 Z = true) (w5 : (Jvm.Cond.instanceMethod z).before a0 Z = true) (w6 : (Jvm.Cond.initialized z.cls).before a0 Z = true) (w4 : (Jvm.Cond.code z bytes maxL ret).before a0 Z = true) (hy : y.cls ≠ "java/lang/invoke/MethodHandle" ∧ y.cls ≠ "java/lang/invoke/VarHandle")
    (E : Exa Z h b C) (hM : own_Met l Z h z bytes maxL ret [] rm as' Q rm.cells rm.slots)
    (hf : rm.frames + 1 ≤ R.frames) (hl : W + (maxL + 11) + rm.locals ≤ R.locals) (hc : cells + rm.cells ≤ R.cells) (hsl : slots + rm.slots ≤ R.slots)
    {g : JFrame} (hg : g.method = m) (hsize : g.locals.size = c.maxLocals) {argsL rest : List Value} (has : (.ref b :: argsL).toArray = as') (hlen : ∀ sig, parseMethodDescriptor y.desc = some sig → argsL.length = sig.parameters.length)
    (hstack : g.stack = argsL.reverse ++ .ref b :: rest) (hW : 2 * g.monitorRoom + (rest.map fun v => v.category).sum ≤ W) (hd : decode c.code g.pc = .ok (.invokevirtual index, 3)) :
    own_After p l e R s m args below meth c T locs (cells + rm.cells) (slots + rm.slots) g rest Q := by
  obtain ⟨cq, kq, q1, q2, q3⟩ := isOf hZ eT E
  obtain ⟨v, vm1, ⟨T', L', k', n'⟩, -, X', ⟨Lc, hQ, l1, y1, z1⟩, st⟩ := X.virtualBack hx (y := y) (z := z) hown (mvT hZ w1) (mvT hZ w2) nf (mvT hZ w3) (mvT hZ w5) hy (backOf (W := W) hM hZ w4 w6 hf hl) q1 q3 hg hsize (Steps.refl _) hlen hstack hW hd (fun _ _ => ⟨has, eT, hc, hsl⟩)
  dsimp only [Pt.U, Pt.locs, Pt.cells, Pt.slots] at X' l1 y1 z1 st hQ
  subst l1 y1 z1
  exact ⟨T', _, v, Lc, X', rfl, hQ, fun _ k => st.trans k⟩
theorem own_callU (X : Stand p l e R s m args below meth c T locs cells slots) (hx : p.tables.exec = Jvm.exec) (hZ : Z.Warmed39 s.vm) (hown : s.vm.findClass own = some m.cls) (eT : T.heap = h) {z : MethodName} {C owner : String} {b : Addr}
    (w1 : (Jvm.Cond.methodLink own index y).before a0 Z = true) (w2 : (Jvm.Cond.sameMethod y.cls owner y.name y.desc).before a0 Z = true) (w7 : (Jvm.Cond.declares ⟨owner, y.name, y.desc⟩).before a0 Z = true) (w3 : (Jvm.Cond.selects C y z).before a0 Z = true) (w5 : (Jvm.Cond.instanceMethod z).before a0 Z = true) (w6 : (Jvm.Cond.initialized z.cls).before a0 Z = true) (w4 : (Jvm.Cond.code z bytes maxL ret).before a0 Z = true) (hy : owner ≠ "java/lang/invoke/MethodHandle" ∧ owner ≠ "java/lang/invoke/VarHandle")
    (E : Exa Z h b C) (hM : own_Met l Z h z bytes maxL ret [] rm as' Q rm.cells rm.slots)
    (hf : rm.frames + 1 ≤ R.frames) (hl : W + (maxL + 11) + rm.locals ≤ R.locals) (hc : cells + rm.cells ≤ R.cells) (hsl : slots + rm.slots ≤ R.slots)
    {g : JFrame} (hg : g.method = m) (hsize : g.locals.size = c.maxLocals) {argsL rest : List Value} (has : (.ref b :: argsL).toArray = as') (hlen : ∀ sig, parseMethodDescriptor y.desc = some sig → argsL.length = sig.parameters.length)
    (hstack : g.stack = argsL.reverse ++ .ref b :: rest) (hW : 2 * g.monitorRoom + (rest.map fun v => v.category).sum ≤ W) (hd : decode c.code g.pc = .ok (.invokevirtual index, 3)) :
    own_After p l e R s m args below meth c T locs (cells + rm.cells) (slots + rm.slots) g rest Q := by
  obtain ⟨cq, kq, q1, q2, q3⟩ := isOf hZ eT E
  obtain ⟨v, vm1, ⟨T', L', k', n'⟩, -, X', ⟨Lc, hQ, l1, y1, z1⟩, st⟩ := X.virtualBackUp hx (x := y) (y := z) (owner := owner) hown (mvT hZ w1) (mvT hZ w2) (mvT hZ w7) hy (mvT hZ w3) (mvT hZ w5) (backOf (W := W) hM hZ w4 w6 hf hl) q1 q3 hg hsize (Steps.refl _) hlen hstack hW hd (fun _ _ => ⟨has, eT, hc, hsl⟩)
  dsimp only [Pt.U, Pt.locs, Pt.cells, Pt.slots] at X' l1 y1 z1 st hQ
  subst l1 y1 z1
  exact ⟨T', _, v, Lc, X', rfl, hQ, fun _ k => st.trans k⟩
theorem own_callN (X : Stand p l e R s m args below meth c T locs cells slots) (hx : p.tables.exec = Jvm.exec) (hZ : Z.Warmed39 s.vm) (hown : s.vm.findClass own = some m.cls) (eT : T.heap = h) {b : Addr} (hy1 : y.name = "<init>")
    (w1 : (Jvm.Cond.methodLink own index y).before a0 Z = true) (w5 : (Jvm.Cond.instanceMethod y).before a0 Z = true) (w6 : (Jvm.Cond.initialized y.cls).before a0 Z = true) (w4 : (Jvm.Cond.code y bytes maxL none).before a0 Z = true) (hy : y.cls ≠ "java/lang/invoke/MethodHandle" ∧ y.cls ≠ "java/lang/invoke/VarHandle")
    (hM : own_Met l Z h y bytes maxL none [] rm as' Q rm.cells rm.slots)
    (hf : rm.frames + 1 ≤ R.frames) (hl : W + (maxL + 11) + rm.locals ≤ R.locals) (hc : cells + rm.cells ≤ R.cells) (hsl : slots + rm.slots ≤ R.slots)
    {g : JFrame} (hg : g.method = m) (hsize : g.locals.size = c.maxLocals) {argsL rest : List Value} (has : (.ref b :: argsL).toArray = as') (hlen : ∀ sig, parseMethodDescriptor y.desc = some sig → argsL.length = sig.parameters.length)
    (hstack : g.stack = argsL.reverse ++ .ref b :: rest) (hW : 2 * g.monitorRoom + (rest.map fun v => v.category).sum ≤ W) (hd : decode c.code g.pc = .ok (.invokespecial index, 3)) :
    own_After p l e R s m args below meth c T locs (cells + rm.cells) (slots + rm.slots) g rest Q := by
  obtain ⟨v, vm1, ⟨T', L', k', n'⟩, -, X', ⟨Lc, hQ, l1, y1, z1⟩, st⟩ := X.specialBack hx (y := y) hy1 hown (mvT hZ w1) (mvT hZ w5) (mvT hZ w4) hy (backOf (W := W) hM hZ w4 w6 hf hl) hg hsize (Steps.refl _) hlen hstack hW hd (fun _ _ => ⟨has, eT, hc, hsl⟩)
  dsimp only [Pt.U, Pt.locs, Pt.cells, Pt.slots] at X' l1 y1 z1 st hQ
  subst l1 y1 z1
  exact ⟨T', _, v, Lc, X', rfl, hQ, fun _ k => st.trans k⟩
theorem own_callI (X : Stand p l e R s m args below meth c T locs cells slots) (hx : p.tables.exec = Jvm.exec) (hZ : Z.Warmed39 s.vm) (hown : s.vm.findClass own = some m.cls) (eT : T.heap = h) {z : MethodName} {C : String} {b : Addr} {count : Nat}
    (w1 : (Jvm.Cond.methodLink own index y).before a0 Z = true) (w2 : (Jvm.Cond.declares y).before a0 Z = true) (w7 : (Jvm.Cond.interfaceMethod y.cls y.cls y.name y.desc).before a0 Z = true) (h7 : ((Jvm.Cond.interfaceMethod y.cls y.cls y.name y.desc).onTables && (Jvm.Cond.interfaceMethod y.cls y.cls y.name y.desc).keepsFace) = true) (w3 : (Jvm.Cond.selects C y z).before a0 Z = true) (w5 : (Jvm.Cond.instanceMethod z).before a0 Z = true) (w8 : (Jvm.Cond.publicMethod z).before a0 Z = true) (w9 : (Jvm.Cond.unhidden C y.name y.desc).before a0 Z = true) (w10 : (Jvm.Cond.castable C y.cls).before a0 Z = true) (w6 : (Jvm.Cond.initialized z.cls).before a0 Z = true) (w4 : (Jvm.Cond.code z bytes maxL ret).before a0 Z = true) (hy : y.cls ≠ "java/lang/invoke/MethodHandle" ∧ y.cls ≠ "java/lang/invoke/VarHandle")
    (E : Exa Z h b C) (hM : own_Met l Z h z bytes maxL ret [] rm as' Q rm.cells rm.slots)
    (hf : rm.frames + 1 ≤ R.frames) (hl : W + (maxL + 11) + rm.locals ≤ R.locals) (hc : cells + rm.cells ≤ R.cells) (hsl : slots + rm.slots ≤ R.slots)
    {g : JFrame} (hg : g.method = m) (hsize : g.locals.size = c.maxLocals) {argsL rest : List Value} (has : (.ref b :: argsL).toArray = as') (hlen : ∀ sig, parseMethodDescriptor y.desc = some sig → argsL.length = sig.parameters.length)
    (hstack : g.stack = argsL.reverse ++ .ref b :: rest) (hW : 2 * g.monitorRoom + (rest.map fun v => v.category).sum ≤ W) (hd : decode c.code g.pc = .ok (.invokeinterface index count, 5)) :
    own_After p l e R s m args below meth c T locs (cells + rm.cells) (slots + rm.slots) g rest Q 5 := by
  obtain ⟨cq, kq, q1, q2, q3⟩ := isOf hZ eT E
  obtain ⟨v, vm1, ⟨T', L', k', n'⟩, -, X', ⟨Lc, hQ, l1, y1, z1⟩, st⟩ := X.interfaceBack hx (xi := y) (y := z) hown (mvT hZ w1) (mvT hZ w2) (mvT hZ w7 h7) (mvT hZ w3) (mvT hZ w5) (mvT hZ w8) (mvT hZ w9) (mvT hZ w10) hy (backOf (W := W) hM hZ w4 w6 hf hl) q1 q2 q3 hg hsize (Steps.refl _) hlen hstack hW hd (fun _ _ => ⟨has, eT, hc, hsl⟩)
  dsimp only [Pt.U, Pt.locs, Pt.cells, Pt.slots] at X' l1 y1 z1 st hQ
  subst l1 y1 z1
  exact ⟨T', _, v, Lc, X', rfl, hQ, fun _ k => st.trans k⟩
theorem own_callP (X : Stand p l e R s m args below meth c T locs cells slots) (hx : p.tables.exec = Jvm.exec) (hZ : Z.Warmed39 s.vm) (hown : s.vm.findClass own = some m.cls) (eT : T.heap = h) {b : Addr} {C : String}
    (w1 : (Jvm.Cond.methodLink own index y).before a0 Z = true) (w5 : (Jvm.Cond.instanceMethod y).before a0 Z = true) (w3 : (Jvm.Cond.selects y.cls y y).before a0 Z = true) (w7 : (Jvm.Cond.privateMethod y).before a0 Z = true) (w6 : (Jvm.Cond.initialized y.cls).before a0 Z = true) (w4 : (Jvm.Cond.code y bytes maxL ret).before a0 Z = true) (hy : y.cls ≠ "java/lang/invoke/MethodHandle" ∧ y.cls ≠ "java/lang/invoke/VarHandle")
    (E : Exa Z h b C) (hM : own_Met l Z h y bytes maxL ret [] rm as' Q rm.cells rm.slots)
    (hf : rm.frames + 1 ≤ R.frames) (hl : W + (maxL + 11) + rm.locals ≤ R.locals) (hc : cells + rm.cells ≤ R.cells) (hsl : slots + rm.slots ≤ R.slots)
    {g : JFrame} (hg : g.method = m) (hsize : g.locals.size = c.maxLocals) {argsL rest : List Value} (has : (.ref b :: argsL).toArray = as') (hlen : ∀ sig, parseMethodDescriptor y.desc = some sig → argsL.length = sig.parameters.length)
    (hstack : g.stack = argsL.reverse ++ .ref b :: rest) (hW : 2 * g.monitorRoom + (rest.map fun v => v.category).sum ≤ W) (hd : decode c.code g.pc = .ok (.invokevirtual index, 3)) :
    own_After p l e R s m args below meth c T locs (cells + rm.cells) (slots + rm.slots) g rest Q := by
  obtain ⟨cell, hcell, hobj⟩ := E.cell
  obtain ⟨v, vm1, ⟨T', L', k', n'⟩, -, X', ⟨Lc, hQ, l1, y1, z1⟩, st⟩ := X.privateBack hx (y := y) hown (mvT hZ w1) (mvT hZ w5) (mvT hZ w3) (Cond.privateMethod_at (mvP (args := #[]) hZ w7)) (mvT hZ w4) hy (backOf (W := W) hM hZ w4 w6 hf hl) hg hsize (Steps.refl _) (by rw [eT]; exact hcell) hobj hlen hstack hW hd (fun _ _ => ⟨has, eT, hc, hsl⟩)
  dsimp only [Pt.U, Pt.locs, Pt.cells, Pt.slots] at X' l1 y1 z1 st hQ
  subst l1 y1 z1
  exact ⟨T', _, v, Lc, X', rfl, hQ, fun _ k => st.trans k⟩
theorem own_lsw (X : Stand p l e R s m args below meth c T locs cells slots) (hx : p.tables.exec = Jvm.exec) {g : JFrame} (hg : g.method = m) {k : Int32} {rest : List Value} (hs : g.stack = .int k :: rest) {dflt : Int} {pairs : Array (Int × Int)} {len : Nat} (hd : decode c.code g.pc = .ok (.lookupswitch dflt pairs, len))
    (hsorted : (pairs.toList.zip (pairs.toList.drop 1)).all (fun (a, next) => a.1 < next.1) = true) {a off : Int} (hfind : pairs.find? (·.1 == k.toInt) = some (a, off)) {pc0 pc' : Nat} (hpc : g.pc = pc0) (ho : 0 ≤ (pc0 : Int) + off) (hp : ((pc0 : Int) + off).toNat = pc') :
    ∀ t, Steps p.tables e below (T.setTop { g with pc := pc', stack := rest }) t → Steps p.tables e below (T.setTop g) t := by
  subst hpc hp; exact fun t hr => X.lookupswitchHit hx hg hs hd hsorted hfind ho t hr
theorem own_rne {a b : Addr} (h : a ≠ b) : ¬ (Value.ref a = Value.ref b) := fun q => h (Value.ref.inj q)
def own_pl : Value → Bool
  | .int _ => true
  | .ref _ => true
  | .null => true
  | .long _ => true
  | _ => false
theorem own_eqv {args : Array Value} {f : State} {o : Option Outcome} {idx : List Nat} {t u : Term} {x y : Value} (ha : t.eval args f o idx s = some x) (hb : u.eval args f o idx s = some y) (h : (Jvm.Cond.eq t u).value args f o s idx = some true) (hk : own_pl y = true := by rfl) : x = y := by
  cases x <;> cases y <;> simp [Jvm.Cond.value, ha, hb, own_pl] at h hk ⊢ <;> first | exact h | exact h.symm
theorem own_fv {args : Array Value} {t u : Term} {O n d : String} {a : Addr} {y : Value} (ht : t.eval args s none [] s = some (.ref a)) (hu : u.eval args s none [] s = some y) (h : (Jvm.Cond.eq (.field t O n d) u).value args s none s [] = some true) (hk : own_pl y = true := by rfl) : Fld s s.heap a O n d y := by
  obtain ⟨x, y', e1, e2, -, -⟩ := cmp_v (Or.inl h)
  have q := own_eqv e1 hu h hk
  subst q
  exact Fld.start ((fld_at ht).symm.trans e1)
end Own
section OwnArr
variable {p : Program} {l : Launch} {e : Env} {R : Room} {s : State} {m : MethodId} {args : Array Value} {below : List Frame} {meth : Method} {c : Code} {T : State} {locs : List Loc} {cells slots : Nat} {Z : State} {a0 : Array Value} {h : Heap} {a : Addr} {k : ClassId} {ty : FieldType} {z j : Int32} {vs : List Value} {dv v : Value}
theorem own_newA (A : Arr Z h a (newA k ty z) ty) (q : ¬ z < 0) (hv : vs = List.replicate z.toNatClampNeg (defaultValue ty)) (hd : dv = defaultValue ty) : Arv Z h a k ty z vs dv := by
  subst hv hd; exact (Arv.new A q).pad (pad_rep [] _ _)
theorem own_newP (X : Stand p l e R s m args below meth c T locs cells slots) (hx : p.tables.exec = Jvm.exec) (hZ : Z.Warmed39 s.vm) {aty : ArrayType} (w : (Jvm.Cond.arrayClass (newarray.typeOf aty)).before a0 Z = true) (eT : T.heap = h) {nm : String} (hnm : "[" ++ (newarray.typeOf aty).toString = nm)
    {g : JFrame} (hg : g.method = m) (hd : decode c.code g.pc = .ok (.newarray aty, 2)) {n : Int32} {rest : List Value} (hs : g.stack = .int n :: rest) (hn : ¬ n < 0) {cap : Nat} (hcap : n.toNatClampNeg ≤ cap) (hb : cap * 8 ≤ 536870912) (hc : cells + 1 ≤ R.cells) (hl : slots + cap ≤ R.slots) :
    ∃ T' h' cA, Stand p l e R s m args below meth c T' locs (cells + 1) (slots + cap) ∧ T'.heap = h' ∧ Ext h h' ∧ Arr Z h' h.size (newA cA (newarray.typeOf aty) n) (newarray.typeOf aty) ∧ Exa Z h' h.size nm ∧
      ∀ target, Steps p.tables e below (T'.setTop { g with pc := g.pc + 2, stack := .ref h.size :: rest }) target → Steps p.tables e below (T.setTop g) target := by
  subst hnm eT
  obtain ⟨cA, kA, comp, h1, h2, h3, X', st⟩ := X.newarrayPrim hx (mvA hZ w) hg hd hs hn (Nat.le_trans (Nat.mul_le_mul hcap (by cases aty <;> decide : componentBytes (newarray.typeOf aty) ≤ 8)) hb) hc (by omega)
  rw [hZ.alike.findClass] at h1
  obtain ⟨kZ, z1, -⟩ := Vm.findClass_spec h1
  obtain ⟨k', z2, z3⟩ := hZ.alike.2.2 _ _ z1
  cases h2.symm.trans z2
  have hk : kZ.kind = .array comp (newarray.typeOf aty) := by rw [← h3, z3]
  have hN : (T.heap.push (newA cA (newarray.typeOf aty) n))[T.heap.size]? = some (newA cA (newarray.typeOf aty) n) := by simp
  have hE : Ext T.heap (T.heap.push (newA cA (newarray.typeOf aty) n)) := ext_of fun a q => Array.getElem?_push_lt q |>.trans (Array.getElem?_eq_getElem q).symm
  exact ⟨_, _, cA, X'.more (Nat.le_refl _) (by omega), rfl, hE, ⟨hN, ⟨by simp [newA], kZ, z1, comp, hk⟩, by simp [newA]⟩, ⟨_, kZ, hN, h1, z1, rfl, fun q => by rw [hk] at q; cases q⟩, st⟩
theorem own_len (X : Stand p l e R s m args below meth c T locs cells slots) (hx : p.tables.exec = Jvm.exec) (hZ : Z.Warmed39 s.vm) (eT : T.heap = h) (A : Arv Z h a k ty z vs dv) {g : JFrame} (hg : g.method = m) {rest : List Value} (hs : g.stack = .ref a :: rest) (hd : decode c.code g.pc = .ok (.arraylength, 1)) :
    ∀ target, Steps p.tables e below (T.setTop { g with pc := g.pc + 1, stack := .int z :: rest }) target → Steps p.tables e below (T.setTop g) target := by
  obtain ⟨cl, A1, q1, S, q3, H, G⟩ := A
  intro target hr
  refine X.arraylength hx (cell := cl) (by rw [eT]; exact A1.1) (State.isArrayOf_alike hZ.alike A1.2.1) hg hs hd target ?_
  rw [len_of S q3]; exact hr
theorem own_iaload (X : Stand p l e R s m args below meth c T locs cells slots) (hx : p.tables.exec = Jvm.exec) (hZ : Z.Warmed39 s.vm) (eT : T.heap = h) (A : Arv Z h a k .int z vs dv) (hj : ¬ j < 0 ∧ j < z) (hv : vs.getD j.toNatClampNeg dv = v) {g : JFrame} (hg : g.method = m) {rest : List Value} (hs : g.stack = .int j :: .ref a :: rest) (hd : decode c.code g.pc = .ok (.iaload, 1)) :
    ∀ target, Steps p.tables e below (T.setTop { g with pc := g.pc + 1, stack := v :: rest }) target → Steps p.tables e below (T.setTop g) target := by
  obtain ⟨cl, A1, q1, S, q3, H, G⟩ := A
  exact fun t k => X.iaload hx (by rw [eT]; exact A1.1) (State.isArrayOf_alike hZ.alike A1.2.1) A1.2.2 (inb_of S hj) (H.at (inb_of S hj) hv) hg hs hd t k
theorem own_baload (X : Stand p l e R s m args below meth c T locs cells slots) (hx : p.tables.exec = Jvm.exec) (hZ : Z.Warmed39 s.vm) (eT : T.heap = h) (A : Arv Z h a k .byte z vs dv) (hj : ¬ j < 0 ∧ j < z) (hv : vs.getD j.toNatClampNeg dv = v) {g : JFrame} (hg : g.method = m) {rest : List Value} (hs : g.stack = .int j :: .ref a :: rest) (hd : decode c.code g.pc = .ok (.baload, 1)) :
    ∀ target, Steps p.tables e below (T.setTop { g with pc := g.pc + 1, stack := v :: rest }) target → Steps p.tables e below (T.setTop g) target := by
  obtain ⟨cl, A1, q1, S, q3, H, G⟩ := A
  exact fun t k => X.baloadBytes hx (by rw [eT]; exact A1.1) (State.isArrayOf_alike hZ.alike A1.2.1) A1.2.2 (inb_of S hj) (H.at (inb_of S hj) hv) hg hs hd t k
theorem own_caload (X : Stand p l e R s m args below meth c T locs cells slots) (hx : p.tables.exec = Jvm.exec) (hZ : Z.Warmed39 s.vm) (eT : T.heap = h) (A : Arv Z h a k .char z vs dv) (hj : ¬ j < 0 ∧ j < z) (hv : vs.getD j.toNatClampNeg dv = v) {g : JFrame} (hg : g.method = m) {rest : List Value} (hs : g.stack = .int j :: .ref a :: rest) (hd : decode c.code g.pc = .ok (.caload, 1)) :
    ∀ target, Steps p.tables e below (T.setTop { g with pc := g.pc + 1, stack := v :: rest }) target → Steps p.tables e below (T.setTop g) target := by
  obtain ⟨cl, A1, q1, S, q3, H, G⟩ := A
  exact fun t k => X.caload hx (by rw [eT]; exact A1.1) (State.isArrayOf_alike hZ.alike A1.2.1) A1.2.2 (inb_of S hj) (H.at (inb_of S hj) hv) hg hs hd t k
theorem own_aaload (X : Stand p l e R s m args below meth c T locs cells slots) (hx : p.tables.exec = Jvm.exec) (hZ : Z.Warmed39 s.vm) (eT : T.heap = h) (A : Arv Z h a k ty z vs dv) (hty : ty.isReference = true) (hj : ¬ j < 0 ∧ j < z) (hv : vs.getD j.toNatClampNeg dv = v) {g : JFrame} (hg : g.method = m) {rest : List Value} (hs : g.stack = .int j :: .ref a :: rest) (hd : decode c.code g.pc = .ok (.aaload, 1)) :
    ∀ target, Steps p.tables e below (T.setTop { g with pc := g.pc + 1, stack := v :: rest }) target → Steps p.tables e below (T.setTop g) target := by
  obtain ⟨cl, A1, q1, S, q3, H, G⟩ := A
  exact fun t k => X.aaload hx (by rw [eT]; exact A1.1) (State.isArrayOf_alike hZ.alike A1.2.1) hty A1.2.2 (inb_of S hj) (H.at (inb_of S hj) hv) hg hs hd t k
theorem own_stB (X : Stand p l e R s m args below meth c T locs cells slots) (hx : p.tables.exec = Jvm.exec) (hZ : Z.Warmed39 s.vm) (eT : T.heap = h) (A : Arv Z h a k .byte z vs dv) {x x' : Int32} (i : Nat) (hn : nar .byte x = x') (hji : j.toNatClampNeg = i) (hj : ¬ j < 0 ∧ j < z) (hi : i < vs.length) {g : JFrame} (hg : g.method = m) {rest : List Value} (hs : g.stack = .int x :: .int j :: .ref a :: rest) (hd : decode c.code g.pc = .ok (.bastore, 1)) :
    ∃ T' h', Stand p l e R s m args below meth c T' (locs ++ [⟨a, i⟩]) cells slots ∧ T'.heap = h' ∧ Wr h h' a i (.int x') ∧ Arv Z h' a k .byte z (vs.set i (.int x')) dv ∧ ∀ target, Steps p.tables e below (T'.setTop { g with pc := g.pc + 1, stack := rest }) target → Steps p.tables e below (T.setTop g) target := by
  obtain ⟨cl, A1, q1, S, q3, H, G⟩ := A
  obtain ⟨T', h', X', e', W, st⟩ := stB X hx hZ eT A1 (inb_of S hj) hg hs hd
  subst hn hji
  exact ⟨T', h', X', e', W, Arv.set A1 q1 S q3 H G (fits_byte_narrow x) W _ rfl hi, st⟩
theorem own_stC (X : Stand p l e R s m args below meth c T locs cells slots) (hx : p.tables.exec = Jvm.exec) (hZ : Z.Warmed39 s.vm) (eT : T.heap = h) (A : Arv Z h a k .char z vs dv) {x x' : Int32} (i : Nat) (hn : nar .char x = x') (hji : j.toNatClampNeg = i) (hj : ¬ j < 0 ∧ j < z) (hi : i < vs.length) {g : JFrame} (hg : g.method = m) {rest : List Value} (hs : g.stack = .int x :: .int j :: .ref a :: rest) (hd : decode c.code g.pc = .ok (.castore, 1)) :
    ∃ T' h', Stand p l e R s m args below meth c T' (locs ++ [⟨a, i⟩]) cells slots ∧ T'.heap = h' ∧ Wr h h' a i (.int x') ∧ Arv Z h' a k .char z (vs.set i (.int x')) dv ∧ ∀ target, Steps p.tables e below (T'.setTop { g with pc := g.pc + 1, stack := rest }) target → Steps p.tables e below (T.setTop g) target := by
  obtain ⟨cl, A1, q1, S, q3, H, G⟩ := A
  obtain ⟨T', h', X', e', W, st⟩ := stC X hx hZ eT A1 (inb_of S hj) hg hs hd
  subst hn hji
  exact ⟨T', h', X', e', W, Arv.set A1 q1 S q3 H G (fits_nar_char x) W _ rfl hi, st⟩
theorem own_stI (X : Stand p l e R s m args below meth c T locs cells slots) (hx : p.tables.exec = Jvm.exec) (hZ : Z.Warmed39 s.vm) (eT : T.heap = h) (A : Arv Z h a k .int z vs dv) {x : Int32} (i : Nat) (hji : j.toNatClampNeg = i) (hj : ¬ j < 0 ∧ j < z) (hi : i < vs.length) {g : JFrame} (hg : g.method = m) {rest : List Value} (hs : g.stack = .int x :: .int j :: .ref a :: rest) (hd : decode c.code g.pc = .ok (.iastore, 1)) :
    ∃ T' h', Stand p l e R s m args below meth c T' (locs ++ [⟨a, i⟩]) cells slots ∧ T'.heap = h' ∧ Wr h h' a i (.int x) ∧ Arv Z h' a k .int z (vs.set i (.int x)) dv ∧ ∀ target, Steps p.tables e below (T'.setTop { g with pc := g.pc + 1, stack := rest }) target → Steps p.tables e below (T.setTop g) target := by
  obtain ⟨cl, A1, q1, S, q3, H, G⟩ := A
  obtain ⟨T', h', X', e', W, st⟩ := stI X hx hZ eT A1 (inb_of S hj) hg hs hd
  subst hji
  exact ⟨T', h', X', e', W, Arv.set A1 q1 S q3 H G rfl W _ rfl hi, st⟩
theorem own_stR (X : Stand p l e R s m args below meth c T locs cells slots) (hx : p.tables.exec = Jvm.exec) (hZ : Z.Warmed39 s.vm) (eT : T.heap = h) (A : Arv Z h a k ty z vs dv) (hty : ty.isReference = true) (i : Nat) (F : Sto Z h a v) (hf : fits ty v = true) (hji : j.toNatClampNeg = i) (hj : ¬ j < 0 ∧ j < z) (hi : i < vs.length) {g : JFrame} (hg : g.method = m) {rest : List Value} (hs : g.stack = v :: .int j :: .ref a :: rest) (hd : decode c.code g.pc = .ok (.aastore, 1)) :
    ∃ T' h', Stand p l e R s m args below meth c T' (locs ++ [⟨a, i⟩]) cells slots ∧ T'.heap = h' ∧ Wr h h' a i v ∧ Arv Z h' a k ty z (vs.set i v) dv ∧ ∀ target, Steps p.tables e below (T'.setTop { g with pc := g.pc + 1, stack := rest }) target → Steps p.tables e below (T.setTop g) target := by
  obtain ⟨cl, A1, q1, S, q3, H, G⟩ := A
  obtain ⟨T', h', X', e', W, st⟩ := stR X hx hZ eT A1 (inb_of S hj) hty F hg hs hd
  subst hji
  exact ⟨T', h', X', e', W, Arv.set A1 q1 S q3 H G hf W _ rfl hi, st⟩
theorem own_sto {C : String} {y : Addr} (A : Arv Z h a k ty z vs dv) (O : Ovr Z k C) (I : Ins Z h y C true) : Sto Z h a (.ref y) := by
  obtain ⟨cl, A1, q1, S, q3, H, G⟩ := A
  exact Sto.ofV A1 q1 O I
theorem own_narB (x : Int32) : nar .byte (x.toInt8.toInt32) = x.toInt8.toInt32 := Value.int.inj (XT.narrow_b x)
theorem own_narC (x : Int32) : nar .char (x.toUInt32.toUInt16.toUInt32.toInt32) = x.toUInt32.toUInt16.toUInt32.toInt32 := Value.int.inj (XT.narrow_c x)
theorem own_fitc {cl : Cell} (A : Arr Z h a cl ty) (H : Has cl vs dv) (G : ∀ i, i < cl.slots.size → fits ty (vs.getD i dv) = true) : FitC Z cl := fun i v hv => by
  obtain ⟨hi, q0⟩ := Array.getElem?_eq_some_iff.mp hv
  have q := G i hi
  have q2 := (H i hi).symm.trans hv
  rw [Option.some.inj q2] at q
  obtain ⟨hs, k, hk, comp, hkind⟩ := A.2.1
  simp [State.fitsSlot, State.slotType?, hk, hkind]; exact q
theorem own_clone (X : Stand p l e R s m args below meth c T locs cells slots) (hx : p.tables.exec = Jvm.exec) (hZ : Z.Warmed39 s.vm) {own ad : String} {index : Nat} (hown : s.vm.findClass own = some m.cls) (eT : T.heap = h)
    (w1 : (Jvm.Cond.methodLink own index ⟨ad, "clone", "()Ljava/lang/Object;"⟩).before a0 Z = true) (w2 : (Jvm.Cond.sameMethod ad "java/lang/Object" "clone" "()Ljava/lang/Object;").before a0 Z = true) (w3 : (Jvm.Cond.native ⟨"java/lang/Object", "clone", "()Ljava/lang/Object;"⟩).before a0 Z = true)
    (w4 : (Jvm.Cond.instanceMethod ⟨"java/lang/Object", "clone", "()Ljava/lang/Object;"⟩).before a0 Z = true) (w5 : (Jvm.Cond.selects ad ⟨ad, "clone", "()Ljava/lang/Object;"⟩ ⟨"java/lang/Object", "clone", "()Ljava/lang/Object;"⟩).before a0 Z = true) (w6 : (Jvm.Cond.castable ad "java/lang/Cloneable").before a0 Z = true)
    (A : Arv Z h a k ty z vs dv) (E : Exa Z h a ad) {g : JFrame} (hg : g.method = m) (hsize : g.locals.size = c.maxLocals) {rest : List Value} (hs : g.stack = .ref a :: rest) (hd : decode c.code g.pc = .ok (.invokevirtual index, 3))
    (hf : 1 ≤ R.frames) {W cap : Nat} (hW : 2 * g.monitorRoom + (rest.map fun v => v.category).sum ≤ W) (hl : W + 14 ≤ R.locals) (hcap : z.toNatClampNeg ≤ cap) (hc : cells + 1 ≤ R.cells) (hsl : slots + cap ≤ R.slots) :
    ∃ T' h', Stand p l e R s m args below meth c T' locs (cells + 1) (slots + cap) ∧ T'.heap = h' ∧ Ext h h' ∧ Arv Z h' h.size k ty z vs dv ∧ Exa Z h' h.size ad ∧
      ∀ target, Steps p.tables e below (T'.setTop { g with pc := g.pc + 3, stack := .ref h.size :: rest }) target → Steps p.tables e below (T.setTop g) target := by
  obtain ⟨cl, A1, q1, S, q3, H, G⟩ := A
  obtain ⟨T', h', X', e', E', A', E2, st⟩ := cloneA X hx hZ hown w1 w2 w3 w4 w5 w6 eT A1 E (own_fitc A1 H G) hg hsize hs hd hf hW hl (by rw [S]; exact hcap) hc hsl
  exact ⟨T', h', X', e', E', ⟨_, A', q1, S, q3, H, G⟩, E2, st⟩
end OwnArr
section OwnCase
variable {s : State} {args : Array Value} {t u : Term} {a : Addr} {ty : FieldType} {n j : Int32} {vs : List Value} {dv v : Value} {cl : Cell}
theorem own_ev {y : Value} (hb : u.eval args s none [] s = some y) (h : (Jvm.Cond.eq t u).value args s none s [] = some true) (hk : own_pl y = true := by rfl) : t.eval args s none [] s = some y := by
  obtain ⟨x, y', e1, e2, -, -⟩ := cmp_v (Or.inl h)
  rw [own_eqv e1 hb h hk] at e1; exact e1
theorem own_ev' {y : Value} (hb : t.eval args s none [] s = some y) (h : (Jvm.Cond.eq t u).value args s none s [] = some true) (hk : own_pl y = true := by rfl) : u.eval args s none [] s = some y := by
  obtain ⟨x, y', e1, e2, -, -⟩ := cmp_v (Or.inl h)
  cases hb.symm.trans e1
  cases y <;> cases y' <;> simp [Jvm.Cond.value, e1, e2, own_pl] at h hk ⊢ <;> simp_all
theorem own_elem (ev : t.eval args s none [] s = some (.ref a)) (hu : u.eval args s none [] s = some v) (h : (Jvm.Cond.eq (.elem t (.int j)) u).value args s none s [] = some true) (hc : s.heap[a]? = some cl) (hk : own_pl v = true := by rfl) : cl.slots[j.toNatClampNeg]? = some v := by
  have e1 := own_ev hu h hk
  obtain ⟨c', e3, e4, e5⟩ := elem_at e1 ev (Term.int_eval j)
  cases hc.symm.trans e3; exact e5
theorem own_arr (hf : Fit s) (ev : t.eval args s none [] s = some (.ref a)) (h1 : (Jvm.Cond.arrayOf t ty).value args s none s [] = some true) (h2 : (Jvm.Cond.eq (.length t) (.int n)).value args s none s [] = some true) (hn : ¬ n < 0) (hl : n.toNatClampNeg = vs.length)
    (he : ∀ cl : Cell, s.heap[a]? = some cl → s.arrayAt? a = some cl → cl.slots.size = n.toNatClampNeg → HasL cl 0 vs) : ∃ k, Arv s s.heap a k ty n vs dv := by
  obtain ⟨cl, A⟩ := Arr.start ev h1
  have e1 := own_ev (Term.int_eval n) h2
  obtain ⟨a', cl', b1, b2, b3⟩ := Term.length_spec e1
  cases ev.symm.trans b1
  have hc' := (State.arrayAt?_spec b2).1
  cases A.1.symm.trans hc'
  have hsz : cl.slots.size.toInt32 = n := (Value.int.inj b3).symm
  have hlt : cl.slots.size < 2 ^ 31 := by
    by_cases q : cl.slots.size < 2147483648
    · exact q
    · simp [Term.eval, ev, b2, q] at e1
  have hS : cl.slots.size = n.toNatClampNeg := by rw [← hsz]; simp only [Int32.toNatClampNeg, len_toInt hlt]; rfl
  exact ⟨_, Arv.start hf A hlt hsz hn hl (he cl hc' b2 hS)⟩
theorem own_allat {C nm d : String} {i : Nat} {b : Int32} (hi : j.toNatClampNeg = i) (hj : ¬ j < 0) (ev : (Term.static C nm d).eval args s none [] s = some (.ref a)) (hc : s.heap[a]? = some cl) (ha : s.arrayAt? a = some cl) (hlt : i < cl.slots.size) (hb : ¬ b ≤ j)
    (h : (Jvm.Cond.all (.static C nm d) (.or (.le (.int b) (.index 0)) (.eq (.elem (.static C nm d) (.index 0)) (.index 0)))).value args s none s [] = some true) : cl.slots[i]? = some (.int j) := by
  have h' := Cond.all_elim ev ha h i hlt
  subst hi
  have e1 : (Term.index 0).eval args s none [j.toNatClampNeg] s = some (.int j) := idx_at hj
  have e2 : (Jvm.Cond.le (.int b) (.index 0)).value args s none s [j.toNatClampNeg] = some false := by
    rw [Cond.le_ints (Term.int_eval b) e1]; simp [hb]
  rw [Cond.or_of_right e2] at h'
  obtain ⟨x, y, q1, q2, -, -⟩ := cmp_v (Or.inl h')
  have q := own_eqv q1 e1 h'
  subst q
  obtain ⟨c', e3, e4, e5⟩ := elem_at q1 (show (Term.static C nm d).eval args s none [j.toNatClampNeg] s = some (.ref a) from ev) e1
  cases hc.symm.trans e3; exact e5
end OwnCase
theorem own_bm32 {n : Int} (h1 : -2147483648 ≤ n) (h2 : n < 2147483648) : n.bmod (2 ^ 32) = n := Int.bmod_eq_of_le (by omega) (by omega)
theorem own_modlt (x : Int32) (n : Int32) (hn : 0 < n.toInt) : 0 ≤ ((x &&& 2147483647) % n).toInt ∧ ((x &&& 2147483647) % n).toInt < n.toInt := by
  have e := Jvm.Kit.i32_mask x 2147483647 (k := 31) (by decide) (by decide)
  rw [Int32.toInt_mod, e]
  have h0 : 0 ≤ x.toInt % 2 ^ 31 := Int.emod_nonneg _ (by decide)
  rw [Int.tmod_eq_emod_of_nonneg h0]
  exact ⟨Int.emod_nonneg _ (by omega), Int.emod_lt_of_pos _ hn⟩
theorem own_i32 {x : Int32} {k : Int32} (h : x.toInt = k.toInt) : x = k := Int32.toInt_inj.mp h
theorem own_in2 {x : Int32} (h : 0 ≤ x.toInt ∧ x.toInt < 2) : x = 0 ∨ x = 1 := by
  rcases (by omega : x.toInt = 0 ∨ x.toInt = 1) with q | q
  · exact .inl (own_i32 (k := 0) q)
  · exact .inr (own_i32 (k := 1) q)
theorem own_in3 {x : Int32} (h : 0 ≤ x.toInt ∧ x.toInt < 3) : x = 0 ∨ x = 1 ∨ x = 2 := by
  rcases (by omega : x.toInt = 0 ∨ x.toInt = 1 ∨ x.toInt = 2) with q | q | q
  · exact .inl (own_i32 (k := 0) q)
  · exact .inr (.inl (own_i32 (k := 1) q))
  · exact .inr (.inr (own_i32 (k := 2) q))
theorem own_in4 {x : Int32} (h : 0 ≤ x.toInt ∧ x.toInt < 4) : x = 0 ∨ x = 1 ∨ x = 2 ∨ x = 3 := by
  rcases (by omega : x.toInt = 0 ∨ x.toInt = 1 ∨ x.toInt = 2 ∨ x.toInt = 3) with q | q | q | q
  · exact .inl (own_i32 (k := 0) q)
  · exact .inr (.inl (own_i32 (k := 1) q))
  · exact .inr (.inr (.inl (own_i32 (k := 2) q)))
  · exact .inr (.inr (.inr (own_i32 (k := 3) q)))
theorem own_in5 {x : Int32} (h : 0 ≤ x.toInt ∧ x.toInt < 5) : x = 0 ∨ x = 1 ∨ x = 2 ∨ x = 3 ∨ x = 4 := by
  rcases (by omega : x.toInt = 0 ∨ x.toInt = 1 ∨ x.toInt = 2 ∨ x.toInt = 3 ∨ x.toInt = 4) with q | q | q | q | q
  · exact .inl (own_i32 (k := 0) q)
  · exact .inr (.inl (own_i32 (k := 1) q))
  · exact .inr (.inr (.inl (own_i32 (k := 2) q)))
  · exact .inr (.inr (.inr (.inl (own_i32 (k := 3) q))))
  · exact .inr (.inr (.inr (.inr (own_i32 (k := 4) q))))
theorem own_in6 {x : Int32} (h : 0 ≤ x.toInt ∧ x.toInt < 6) : x = 0 ∨ x = 1 ∨ x = 2 ∨ x = 3 ∨ x = 4 ∨ x = 5 := by
  rcases (by omega : x.toInt = 0 ∨ x.toInt = 1 ∨ x.toInt = 2 ∨ x.toInt = 3 ∨ x.toInt = 4 ∨ x.toInt = 5) with q | q | q | q | q | q
  · exact .inl (own_i32 (k := 0) q)
  · exact .inr (.inl (own_i32 (k := 1) q))
  · exact .inr (.inr (.inl (own_i32 (k := 2) q)))
  · exact .inr (.inr (.inr (.inl (own_i32 (k := 3) q))))
  · exact .inr (.inr (.inr (.inr (.inl (own_i32 (k := 4) q)))))
  · exact .inr (.inr (.inr (.inr (.inr (own_i32 (k := 5) q)))))
theorem own_in7 {x : Int32} (h : 0 ≤ x.toInt ∧ x.toInt < 7) : x = 0 ∨ x = 1 ∨ x = 2 ∨ x = 3 ∨ x = 4 ∨ x = 5 ∨ x = 6 := by
  rcases (by omega : x.toInt = 0 ∨ x.toInt = 1 ∨ x.toInt = 2 ∨ x.toInt = 3 ∨ x.toInt = 4 ∨ x.toInt = 5 ∨ x.toInt = 6) with q | q | q | q | q | q | q
  · exact .inl (own_i32 (k := 0) q)
  · exact .inr (.inl (own_i32 (k := 1) q))
  · exact .inr (.inr (.inl (own_i32 (k := 2) q)))
  · exact .inr (.inr (.inr (.inl (own_i32 (k := 3) q))))
  · exact .inr (.inr (.inr (.inr (.inl (own_i32 (k := 4) q)))))
  · exact .inr (.inr (.inr (.inr (.inr (.inl (own_i32 (k := 5) q))))))
  · exact .inr (.inr (.inr (.inr (.inr (.inr (own_i32 (k := 6) q))))))
theorem own_chr (x : Int32) : ∃ z : Int32, z = (x &&& 255).toUInt32.toUInt16.toUInt32.toInt32 ∧ ¬ (z < 0) ∧ ¬ (255 < z) ∧ nar .char z = z := by
  refine ⟨_, rfl, ?_, ?_, own_narC _⟩
  all_goals
    have e := Jvm.Kit.i32_mask x 255 (k := 8) (by decide) (by decide)
    have hb : (x &&& 255).toUInt32.toUInt16.toUInt32.toInt32 = x &&& 255 := by
      have f := fits_nar_char (x &&& 255)
      apply Int32.toInt_inj.mp
      have h1 : ((x &&& 255).toUInt32.toUInt16.toUInt32.toInt32).toInt = ((x &&& 255).toBitVec.toNat % 65536 : Nat) := by
        have hm : ((x &&& 255).toUInt32.toUInt16.toUInt32.toInt32).toBitVec.toNat = (x &&& 255).toBitVec.toNat % 65536 := by
          simp only [Int32.toBitVec_and, UInt32.toBitVec_toInt32, Int32.toBitVec_toUInt32] at *
          simp
          rw [show (255 : Nat) = 2 ^ 8 - 1 from rfl, Nat.and_two_pow_sub_one_eq_mod, Nat.and_two_pow_sub_one_eq_mod]; omega
        show ((x &&& 255).toUInt32.toUInt16.toUInt32.toInt32).toBitVec.toInt = _
        rw [BitVec.toInt_eq_toNat_cond, hm, if_pos (by omega)]
      have h2 : (x &&& 255).toBitVec.toInt = (x &&& 255).toInt := rfl
      have h3 : ((x &&& 255).toBitVec.toNat : Int) = (x &&& 255).toInt := by
        rw [← h2, BitVec.toInt_eq_toNat_cond]
        have : (x &&& 255).toBitVec.toInt = x.toInt % 2 ^ 8 := e
        rw [BitVec.toInt_eq_toNat_cond] at this
        split
        · rfl
        · rename_i hc; rw [if_neg hc] at this; have := (x &&& 255).toBitVec.isLt; omega
      rw [h1]; omega
    rw [hb, Int32.lt_iff_toInt_lt, e]
    have e0 : (0 : Int32).toInt = 0 := rfl
    have e1 : (255 : Int32).toInt = 255 := rfl
    omega

def own_All (P : Addr → Int32 → Prop) : Nat → List Addr → Prop
  | _, [] => True
  | n, a :: r => P a (Int32.ofNat n) ∧ own_All P (n + 1) r
theorem own_All_at {P : Addr → Int32 → Prop} : ∀ (as : List Addr) (n : Nat), own_All P n as → ∀ k, k < as.length → ∃ a, (as.map Value.ref).getD k .null = .ref a ∧ P a (Int32.ofNat (n + k))
  | [], _, _, _, q => nomatch q
  | a :: _, _, H, 0, _ => ⟨a, rfl, H.1⟩
  | _ :: r, n, H, k + 1, q => by
    obtain ⟨a, h1, h2⟩ := own_All_at r (n + 1) H.2 k (Nat.lt_of_succ_lt_succ q)
    refine ⟨a, ?_, ?_⟩
    · simpa using h1
    · rw [show n + (k + 1) = n + 1 + k by omega]; exact h2
theorem own_pick {P : Addr → Int32 → Prop} (as : List Addr) (H : own_All P 0 as) (i : Int32) (hi : 0 ≤ i.toInt ∧ i.toInt < 19) (hl : as.length = 19 := by rfl) : ∃ a, (as.map Value.ref).getD i.toNatClampNeg .null = .ref a ∧ P a i := by
  have e : i.toNatClampNeg = i.toInt.toNat := rfl
  obtain ⟨a, h1, h2⟩ := own_All_at as 0 H i.toNatClampNeg (by rw [hl, e]; omega)
  refine ⟨a, h1, ?_⟩
  have q : Int32.ofNat (0 + i.toNatClampNeg) = i := by
    apply Int32.toInt_inj.mp
    rw [Nat.zero_add]
    have : (Int32.ofNat i.toNatClampNeg).toInt = i.toNatClampNeg := len_toInt (by rw [e]; have := i.toInt_lt; omega)
    rw [this, e]; omega
  rw [q] at h2; exact h2
theorem own_in19 {i : Int32} (hi : 0 ≤ i.toInt ∧ i.toInt < 19) : ¬ i < 0 ∧ i < 19 := by
  rw [Int32.lt_iff_toInt_lt, Int32.lt_iff_toInt_lt]
  have e0 : (0 : Int32).toInt = 0 := rfl
  have e1 : (19 : Int32).toInt = 19 := rfl
  omega
theorem own_nm19 (x : Int32) : ∃ z : Int32, z = (x &&& 2147483647) % 19 ∧ 0 ≤ z.toInt ∧ z.toInt < 19 := ⟨_, rfl, own_modlt x 19 (by decide)⟩
theorem own_ef0 (m : MethodId) (x0 : Int32) (x1 : Int32) (x2 : Int32) (x3 : Int32) (x4 : Int32) (x5 : Int32) : entryFrame m #[(.int x0), (.int x1), (.int x2), (.int x3), (.int x4), (.int x5)] maxLocals = mkF m 0 #[.val (.int x0), .val (.int x1), .val (.int x2), .val (.int x3), .val (.int x4), .val (.int x5), .unset, .unset, .unset, .unset, .unset, .unset, .unset, .unset] [] := by first | (simp [entryFrame, mkF, argsToLocals, Value.category, maxLocals]; done) | rfl
theorem own_ef1 (m : MethodId)  : entryFrame m #[] 0 = mkF m 0 #[] [] := by first | (simp [entryFrame, mkF, argsToLocals, Value.category]; done) | rfl
theorem dd0_0 : decode method_2_code 0 = .ok (.bipush 19, 2) := by decide +kernel
theorem dd0_2 : decode method_2_code 2 = .ok (.anewarray 7, 3) := by decide +kernel
theorem dd0_5 : decode method_2_code 5 = .ok (.dup, 1) := by decide +kernel
theorem dd0_6 : decode method_2_code 6 = .ok (.iconst 0, 1) := by decide +kernel
theorem dd0_7 : decode method_2_code 7 = .ok (.getstatic 9, 3) := by decide +kernel
theorem dd0_10 : decode method_2_code 10 = .ok (.aastore, 1) := by decide +kernel
theorem dd0_11 : decode method_2_code 11 = .ok (.dup, 1) := by decide +kernel
theorem dd0_12 : decode method_2_code 12 = .ok (.iconst 1, 1) := by decide +kernel
theorem dd0_13 : decode method_2_code 13 = .ok (.getstatic 13, 3) := by decide +kernel
theorem dd0_16 : decode method_2_code 16 = .ok (.aastore, 1) := by decide +kernel
theorem dd0_17 : decode method_2_code 17 = .ok (.dup, 1) := by decide +kernel
theorem dd0_18 : decode method_2_code 18 = .ok (.iconst 2, 1) := by decide +kernel
theorem dd0_19 : decode method_2_code 19 = .ok (.getstatic 16, 3) := by decide +kernel
theorem dd0_22 : decode method_2_code 22 = .ok (.aastore, 1) := by decide +kernel
theorem dd0_23 : decode method_2_code 23 = .ok (.dup, 1) := by decide +kernel
theorem dd0_24 : decode method_2_code 24 = .ok (.iconst 3, 1) := by decide +kernel
theorem dd0_25 : decode method_2_code 25 = .ok (.getstatic 19, 3) := by decide +kernel
theorem dd0_28 : decode method_2_code 28 = .ok (.aastore, 1) := by decide +kernel
theorem dd0_29 : decode method_2_code 29 = .ok (.dup, 1) := by decide +kernel
theorem dd0_30 : decode method_2_code 30 = .ok (.iconst 4, 1) := by decide +kernel
theorem dd0_31 : decode method_2_code 31 = .ok (.getstatic 22, 3) := by decide +kernel
theorem dd0_34 : decode method_2_code 34 = .ok (.aastore, 1) := by decide +kernel
theorem dd0_35 : decode method_2_code 35 = .ok (.dup, 1) := by decide +kernel
theorem dd0_36 : decode method_2_code 36 = .ok (.iconst 5, 1) := by decide +kernel
theorem dd0_37 : decode method_2_code 37 = .ok (.getstatic 25, 3) := by decide +kernel
theorem dd0_40 : decode method_2_code 40 = .ok (.aastore, 1) := by decide +kernel
theorem dd0_41 : decode method_2_code 41 = .ok (.dup, 1) := by decide +kernel
theorem dd0_42 : decode method_2_code 42 = .ok (.bipush 6, 2) := by decide +kernel
theorem dd0_44 : decode method_2_code 44 = .ok (.getstatic 28, 3) := by decide +kernel
theorem dd0_47 : decode method_2_code 47 = .ok (.aastore, 1) := by decide +kernel
theorem dd0_48 : decode method_2_code 48 = .ok (.dup, 1) := by decide +kernel
theorem dd0_49 : decode method_2_code 49 = .ok (.bipush 7, 2) := by decide +kernel
theorem dd0_51 : decode method_2_code 51 = .ok (.getstatic 31, 3) := by decide +kernel
theorem dd0_54 : decode method_2_code 54 = .ok (.aastore, 1) := by decide +kernel
theorem dd0_55 : decode method_2_code 55 = .ok (.dup, 1) := by decide +kernel
theorem dd0_56 : decode method_2_code 56 = .ok (.bipush 8, 2) := by decide +kernel
theorem dd0_58 : decode method_2_code 58 = .ok (.getstatic 34, 3) := by decide +kernel
theorem dd0_61 : decode method_2_code 61 = .ok (.aastore, 1) := by decide +kernel
theorem dd0_62 : decode method_2_code 62 = .ok (.dup, 1) := by decide +kernel
theorem dd0_63 : decode method_2_code 63 = .ok (.bipush 9, 2) := by decide +kernel
theorem dd0_65 : decode method_2_code 65 = .ok (.getstatic 37, 3) := by decide +kernel
theorem dd0_68 : decode method_2_code 68 = .ok (.aastore, 1) := by decide +kernel
theorem dd0_69 : decode method_2_code 69 = .ok (.dup, 1) := by decide +kernel
theorem dd0_70 : decode method_2_code 70 = .ok (.bipush 10, 2) := by decide +kernel
theorem dd0_72 : decode method_2_code 72 = .ok (.getstatic 40, 3) := by decide +kernel
theorem dd0_75 : decode method_2_code 75 = .ok (.aastore, 1) := by decide +kernel
theorem dd0_76 : decode method_2_code 76 = .ok (.dup, 1) := by decide +kernel
theorem dd0_77 : decode method_2_code 77 = .ok (.bipush 11, 2) := by decide +kernel
theorem dd0_79 : decode method_2_code 79 = .ok (.getstatic 43, 3) := by decide +kernel
theorem dd0_82 : decode method_2_code 82 = .ok (.aastore, 1) := by decide +kernel
theorem dd0_83 : decode method_2_code 83 = .ok (.dup, 1) := by decide +kernel
theorem dd0_84 : decode method_2_code 84 = .ok (.bipush 12, 2) := by decide +kernel
theorem dd0_86 : decode method_2_code 86 = .ok (.getstatic 46, 3) := by decide +kernel
theorem dd0_89 : decode method_2_code 89 = .ok (.aastore, 1) := by decide +kernel
theorem dd0_90 : decode method_2_code 90 = .ok (.dup, 1) := by decide +kernel
theorem dd0_91 : decode method_2_code 91 = .ok (.bipush 13, 2) := by decide +kernel
theorem dd0_93 : decode method_2_code 93 = .ok (.getstatic 49, 3) := by decide +kernel
theorem dd0_96 : decode method_2_code 96 = .ok (.aastore, 1) := by decide +kernel
theorem dd0_97 : decode method_2_code 97 = .ok (.dup, 1) := by decide +kernel
theorem dd0_98 : decode method_2_code 98 = .ok (.bipush 14, 2) := by decide +kernel
theorem dd0_100 : decode method_2_code 100 = .ok (.getstatic 52, 3) := by decide +kernel
theorem dd0_103 : decode method_2_code 103 = .ok (.aastore, 1) := by decide +kernel
theorem dd0_104 : decode method_2_code 104 = .ok (.dup, 1) := by decide +kernel
theorem dd0_105 : decode method_2_code 105 = .ok (.bipush 15, 2) := by decide +kernel
theorem dd0_107 : decode method_2_code 107 = .ok (.getstatic 55, 3) := by decide +kernel
theorem dd0_110 : decode method_2_code 110 = .ok (.aastore, 1) := by decide +kernel
theorem dd0_111 : decode method_2_code 111 = .ok (.dup, 1) := by decide +kernel
theorem dd0_112 : decode method_2_code 112 = .ok (.bipush 16, 2) := by decide +kernel
theorem dd0_114 : decode method_2_code 114 = .ok (.getstatic 58, 3) := by decide +kernel
theorem dd0_117 : decode method_2_code 117 = .ok (.aastore, 1) := by decide +kernel
theorem dd0_118 : decode method_2_code 118 = .ok (.dup, 1) := by decide +kernel
theorem dd0_119 : decode method_2_code 119 = .ok (.bipush 17, 2) := by decide +kernel
theorem dd0_121 : decode method_2_code 121 = .ok (.getstatic 61, 3) := by decide +kernel
theorem dd0_124 : decode method_2_code 124 = .ok (.aastore, 1) := by decide +kernel
theorem dd0_125 : decode method_2_code 125 = .ok (.dup, 1) := by decide +kernel
theorem dd0_126 : decode method_2_code 126 = .ok (.bipush 18, 2) := by decide +kernel
theorem dd0_128 : decode method_2_code 128 = .ok (.getstatic 64, 3) := by decide +kernel
theorem dd0_131 : decode method_2_code 131 = .ok (.aastore, 1) := by decide +kernel
theorem dd0_132 : decode method_2_code 132 = .ok (.areturn, 1) := by decide +kernel
def own_Q2 (Z : State) (ob_9 : Nat) (ob_10 : Nat) (ob_11 : Nat) (ob_12 : Nat) (ob_13 : Nat) (ob_14 : Nat) (ob_15 : Nat) (ob_16 : Nat) (ob_17 : Nat) (ob_18 : Nat) (ob_19 : Nat) (ob_20 : Nat) (ob_21 : Nat) (ob_22 : Nat) (ob_23 : Nat) (ob_24 : Nat) (ob_25 : Nat) (ob_26 : Nat) (ob_27 : Nat) (h0 : Heap) (n0 : Nat) (v : Option Value) (h : Heap) (L : List Loc) : Prop := (∃ ob_38 : Nat, ∃ kk_37 : ClassId, v = some (.ref ob_38) ∧ Fr n0 L ∧ Keep h0 h [] ∧ h0.size ≤ ob_38 ∧ Arv Z h ob_38 kk_37 (.object "com/example/tuplewise/tuplewise/lang/Token$Kind") 19 [(.ref ob_9), (.ref ob_10), (.ref ob_11), (.ref ob_12), (.ref ob_13), (.ref ob_14), (.ref ob_15), (.ref ob_16), (.ref ob_17), (.ref ob_18), (.ref ob_19), (.ref ob_20), (.ref ob_21), (.ref ob_22), (.ref ob_23), (.ref ob_24), (.ref ob_25), (.ref ob_26), (.ref ob_27)] .null ∧ @LT.lt Nat instLTNat ob_38 h.size ∧ Ovr Z kk_37 "com/example/tuplewise/tuplewise/lang/Token$Kind")
theorem own_pn0 : plainFor (⟨"com/example/tuplewise/tuplewise/lang/TokenIsPinLaw", "kinds", "()[Lcom/example/tuplewise/tuplewise/lang/Token$Kind;"⟩ : MethodName) = true := by decide +kernel
set_option maxRecDepth 65536 in
set_option maxHeartbeats 40000000 in
theorem own_rm2 (l : Launch) (Z : State) (a0 : Array Value) (hw : ∀ d ∈ tables_1, d.before a0 Z = true) (ws : List Jvm.Cond) (ob_9 : Nat) (ob_10 : Nat) (ob_11 : Nat) (ob_12 : Nat) (ob_13 : Nat) (ob_14 : Nat) (ob_15 : Nat) (ob_16 : Nat) (ob_17 : Nat) (ob_18 : Nat) (ob_19 : Nat) (ob_20 : Nat) (ob_21 : Nat) (ob_22 : Nat) (ob_23 : Nat) (ob_24 : Nat) (ob_25 : Nat) (ob_26 : Nat) (ob_27 : Nat) (h0 : Heap) (n0 : Nat) (Z0 : n0 ≤ h0.size) (O0 : Old Z n0 h0) (I43 : Sta Z Z.heap "com/example/tuplewise/tuplewise/lang/Token$Kind" "NAME" "Lcom/example/tuplewise/tuplewise/lang/Token$Kind;" (.ref ob_9)) (I58 : Exa Z Z.heap ob_9 "com/example/tuplewise/tuplewise/lang/Token$Kind") (I65 : Sta Z Z.heap "com/example/tuplewise/tuplewise/lang/Token$Kind" "VARIABLE" "Lcom/example/tuplewise/tuplewise/lang/Token$Kind;" (.ref ob_10)) (I80 : Exa Z Z.heap ob_10 "com/example/tuplewise/tuplewise/lang/Token$Kind") (I86 : Sta Z Z.heap "com/example/tuplewise/tuplewise/lang/Token$Kind" "STRING" "Lcom/example/tuplewise/tuplewise/lang/Token$Kind;" (.ref ob_11)) (I101 : Exa Z Z.heap ob_11 "com/example/tuplewise/tuplewise/lang/Token$Kind") (I107 : Sta Z Z.heap "com/example/tuplewise/tuplewise/lang/Token$Kind" "INTEGER" "Lcom/example/tuplewise/tuplewise/lang/Token$Kind;" (.ref ob_12)) (I122 : Exa Z Z.heap ob_12 "com/example/tuplewise/tuplewise/lang/Token$Kind") (I128 : Sta Z Z.heap "com/example/tuplewise/tuplewise/lang/Token$Kind" "DECIMAL" "Lcom/example/tuplewise/tuplewise/lang/Token$Kind;" (.ref ob_13)) (I143 : Exa Z Z.heap ob_13 "com/example/tuplewise/tuplewise/lang/Token$Kind") (I149 : Sta Z Z.heap "com/example/tuplewise/tuplewise/lang/Token$Kind" "OPERATOR" "Lcom/example/tuplewise/tuplewise/lang/Token$Kind;" (.ref ob_14)) (I164 : Exa Z Z.heap ob_14 "com/example/tuplewise/tuplewise/lang/Token$Kind") (I170 : Sta Z Z.heap "com/example/tuplewise/tuplewise/lang/Token$Kind" "COMPOUND_ASSIGNMENT" "Lcom/example/tuplewise/tuplewise/lang/Token$Kind;" (.ref ob_15)) (I185 : Exa Z Z.heap ob_15 "com/example/tuplewise/tuplewise/lang/Token$Kind") (I191 : Sta Z Z.heap "com/example/tuplewise/tuplewise/lang/Token$Kind" "LEFT_BRACE" "Lcom/example/tuplewise/tuplewise/lang/Token$Kind;" (.ref ob_16)) (I206 : Exa Z Z.heap ob_16 "com/example/tuplewise/tuplewise/lang/Token$Kind") (I212 : Sta Z Z.heap "com/example/tuplewise/tuplewise/lang/Token$Kind" "RIGHT_BRACE" "Lcom/example/tuplewise/tuplewise/lang/Token$Kind;" (.ref ob_17)) (I227 : Exa Z Z.heap ob_17 "com/example/tuplewise/tuplewise/lang/Token$Kind") (I233 : Sta Z Z.heap "com/example/tuplewise/tuplewise/lang/Token$Kind" "LEFT_PAREN" "Lcom/example/tuplewise/tuplewise/lang/Token$Kind;" (.ref ob_18)) (I248 : Exa Z Z.heap ob_18 "com/example/tuplewise/tuplewise/lang/Token$Kind") (I254 : Sta Z Z.heap "com/example/tuplewise/tuplewise/lang/Token$Kind" "RIGHT_PAREN" "Lcom/example/tuplewise/tuplewise/lang/Token$Kind;" (.ref ob_19)) (I269 : Exa Z Z.heap ob_19 "com/example/tuplewise/tuplewise/lang/Token$Kind") (I275 : Sta Z Z.heap "com/example/tuplewise/tuplewise/lang/Token$Kind" "LEFT_BRACKET" "Lcom/example/tuplewise/tuplewise/lang/Token$Kind;" (.ref ob_20)) (I290 : Exa Z Z.heap ob_20 "com/example/tuplewise/tuplewise/lang/Token$Kind") (I296 : Sta Z Z.heap "com/example/tuplewise/tuplewise/lang/Token$Kind" "RIGHT_BRACKET" "Lcom/example/tuplewise/tuplewise/lang/Token$Kind;" (.ref ob_21)) (I311 : Exa Z Z.heap ob_21 "com/example/tuplewise/tuplewise/lang/Token$Kind") (I317 : Sta Z Z.heap "com/example/tuplewise/tuplewise/lang/Token$Kind" "SEMICOLON" "Lcom/example/tuplewise/tuplewise/lang/Token$Kind;" (.ref ob_22)) (I332 : Exa Z Z.heap ob_22 "com/example/tuplewise/tuplewise/lang/Token$Kind") (I338 : Sta Z Z.heap "com/example/tuplewise/tuplewise/lang/Token$Kind" "COLON" "Lcom/example/tuplewise/tuplewise/lang/Token$Kind;" (.ref ob_23)) (I353 : Exa Z Z.heap ob_23 "com/example/tuplewise/tuplewise/lang/Token$Kind") (I359 : Sta Z Z.heap "com/example/tuplewise/tuplewise/lang/Token$Kind" "COMMA" "Lcom/example/tuplewise/tuplewise/lang/Token$Kind;" (.ref ob_24)) (I374 : Exa Z Z.heap ob_24 "com/example/tuplewise/tuplewise/lang/Token$Kind") (I380 : Sta Z Z.heap "com/example/tuplewise/tuplewise/lang/Token$Kind" "DOT" "Lcom/example/tuplewise/tuplewise/lang/Token$Kind;" (.ref ob_25)) (I395 : Exa Z Z.heap ob_25 "com/example/tuplewise/tuplewise/lang/Token$Kind") (I401 : Sta Z Z.heap "com/example/tuplewise/tuplewise/lang/Token$Kind" "EQUALS" "Lcom/example/tuplewise/tuplewise/lang/Token$Kind;" (.ref ob_26)) (I416 : Exa Z Z.heap ob_26 "com/example/tuplewise/tuplewise/lang/Token$Kind") (I422 : Sta Z Z.heap "com/example/tuplewise/tuplewise/lang/Token$Kind" "END" "Lcom/example/tuplewise/tuplewise/lang/Token$Kind;" (.ref ob_27)) (I437 : Exa Z Z.heap ob_27 "com/example/tuplewise/tuplewise/lang/Token$Kind") :
    own_Met l Z h0 (⟨"com/example/tuplewise/tuplewise/lang/TokenIsPinLaw", "kinds", "()[Lcom/example/tuplewise/tuplewise/lang/Token$Kind;"⟩ : MethodName) method_2_code 0 (Option.some (FieldType.array (FieldType.object "com/example/tuplewise/tuplewise/lang/Token$Kind")) ) ws ({ frames := 0, cells := 1, slots := 19, locals := 0 } : Room) #[] (own_Q2 Z ob_9 ob_10 ob_11 ob_12 ob_13 ob_14 ob_15 ob_16 ob_17 ob_18 ob_19 ob_20 ob_21 ob_22 ob_23 ob_24 ob_25 ob_26 ob_27 h0 n0) 1 19 := by
  refine MetFree.of_bodySF own_pn0 hisR ?_
  intro p e s m args below meth c s₁ Bd hml0 hP hK
  obtain ⟨rfl, hZ, hh⟩ := hP
  have hx := Bd.exec
  have hby := Bd.bytes
  have hml : c.maxLocals = 0 := hml0
  have hown : s.vm.findClass "com/example/tuplewise/tuplewise/lang/TokenIsPinLaw" = some m.cls := findClass_of_methodNamed Bd.named
  have hnm := (name_of_methodNamed Bd.named Bd.method).1
  have X0 : Stand p l e ({ frames := 0, cells := 1, slots := 19, locals := 0 } : Room) s m #[] below meth c s₁ [] 0 0 := Stand.of_body Bd
  have e0 : s₁.heap = h0 := by rw [← hh, Bd.state]; rfl
  have N0 := Fr.nil n0
  show own_G p e below (s₁.setTop (entryFrame m #[] 0)) (own_P s (own_Q2 Z ob_9 ob_10 ob_11 ob_12 ob_13 ob_14 ob_15 ob_16 ob_17 ob_18 ob_19 ob_20 ob_21 ob_22 ob_23 ob_24 ob_25 ob_26 ob_27 h0 n0) 1 19)
  refine own_cast (own_ef1 m ) ?_
  show own_G p e below (s₁.setTop (mkF m 0 #[] [])) _
  refine oS (fun _ => XS.bipush X0.here hx rfl (hb hby dd0_0) ) ?_
  obtain ⟨T28, h29, kk_37, X30, e31, E32, A33, V34, s35⟩ := newR X0 hx hZ hown (oW hw 4 rfl) (oW hw 5 rfl) e0 (g := (mkF m 2 #[] [(.int 19)])) rfl (hb hby dd0_2) (n := 19) (rest := []) rfl (by decide) (cap := 19) (by decide) (by decide) (by decide) (by decide)
  obtain ⟨ob_38, g39⟩ : ∃ z, z = h0.size := ⟨_, rfl⟩
  rw [← g39] at A33 s35
  have F40 : Arv Z h29 ob_38 kk_37 (.object "com/example/tuplewise/tuplewise/lang/Token$Kind") 19 [.null, .null, .null, .null, .null, .null, .null, .null, .null, .null, .null, .null, .null, .null, .null, .null, .null, .null, .null] .null := own_newA A33 (by decide) rfl rfl
  have z41 := E32.1
  have y36 : @LT.lt Nat instLTNat ob_38 h29.size := F40.lt
  refine oS s35 ?_
  show own_G p e below (T28.setTop (mkF m 5 #[] [(.ref ob_38)])) _
  refine oS (fun _ => XS.dup X30.here hx rfl (hb hby dd0_5) rfl rfl) ?_
  refine oS (fun _ => XS.iconst X30.here hx rfl (hb hby dd0_6) ) ?_
  have O45 : Old Z n0 h29 := O0.ext E32
  have F44 : Sta Z h29 "com/example/tuplewise/tuplewise/lang/Token$Kind" "NAME" "Lcom/example/tuplewise/tuplewise/lang/Token$Kind;" (.ref ob_9) := Sta.ext O45.2 I43
  obtain ⟨T46, X47, e48, s49⟩ := getS X30 hx hZ hown (host := "") (oW hw 6 rfl) Via.refl e31 F44 (g := (mkF m 7 #[] [(.int 0), (.ref ob_38), (.ref ob_38)])) rfl (hb hby dd0_7)
  refine oS s49 ?_
  show own_G p e below (T46.setTop (mkF m 10 #[] [(.ref ob_9), (.int 0), (.ref ob_38), (.ref ob_38)])) _
  have F59 : Exa Z h29 ob_9 "com/example/tuplewise/tuplewise/lang/Token$Kind" := Exa.ext O45.2 I58
  obtain ⟨T50, h51, X52, e53, W54, A55, s56⟩ := own_stR X47 hx hZ e48 F40 rfl 0 (own_sto F40 V34 (Ins.self F59)) rfl rfl (by decide) (by simp) (g := (mkF m 10 #[] [(.ref ob_9), (.int 0), (.ref ob_38), (.ref ob_38)])) rfl (rest := [(.ref ob_38)]) rfl (hb hby dd0_10)
  have N61 : n0 ≤ ob_38 := by omega
  have N60 := Fr.snoc X52 N0 N61
  have z62 := W54.size
  have F63 : Arv Z h51 ob_38 kk_37 (.object "com/example/tuplewise/tuplewise/lang/Token$Kind") 19 [(.ref ob_9), .null, .null, .null, .null, .null, .null, .null, .null, .null, .null, .null, .null, .null, .null, .null, .null, .null, .null] .null := A55
  refine oS s56 ?_
  show own_G p e below (T50.setTop (mkF m 11 #[] [(.ref ob_38)])) _
  refine oS (fun _ => XS.dup X52.here hx rfl (hb hby dd0_11) rfl rfl) ?_
  refine oS (fun _ => XS.iconst X52.here hx rfl (hb hby dd0_12) ) ?_
  have O67 : Old Z n0 h51 := O45.wr W54 N61
  have F66 : Sta Z h51 "com/example/tuplewise/tuplewise/lang/Token$Kind" "VARIABLE" "Lcom/example/tuplewise/tuplewise/lang/Token$Kind;" (.ref ob_10) := Sta.ext O67.2 I65
  obtain ⟨T68, X69, e70, s71⟩ := getS X52 hx hZ hown (host := "") (oW hw 10 rfl) Via.refl e53 F66 (g := (mkF m 13 #[] [(.int 1), (.ref ob_38), (.ref ob_38)])) rfl (hb hby dd0_13)
  refine oS s71 ?_
  show own_G p e below (T68.setTop (mkF m 16 #[] [(.ref ob_10), (.int 1), (.ref ob_38), (.ref ob_38)])) _
  have F81 : Exa Z h51 ob_10 "com/example/tuplewise/tuplewise/lang/Token$Kind" := Exa.ext O67.2 I80
  obtain ⟨T72, h73, X74, e75, W76, A77, s78⟩ := own_stR X69 hx hZ e70 F63 rfl 1 (own_sto F63 V34 (Ins.self F81)) rfl rfl (by decide) (by simp) (g := (mkF m 16 #[] [(.ref ob_10), (.int 1), (.ref ob_38), (.ref ob_38)])) rfl (rest := [(.ref ob_38)]) rfl (hb hby dd0_16)
  have N82 := Fr.snoc X74 N60 N61
  have z83 := W76.size
  have F84 : Arv Z h73 ob_38 kk_37 (.object "com/example/tuplewise/tuplewise/lang/Token$Kind") 19 [(.ref ob_9), (.ref ob_10), .null, .null, .null, .null, .null, .null, .null, .null, .null, .null, .null, .null, .null, .null, .null, .null, .null] .null := A77
  refine oS s78 ?_
  show own_G p e below (T72.setTop (mkF m 17 #[] [(.ref ob_38)])) _
  refine oS (fun _ => XS.dup X74.here hx rfl (hb hby dd0_17) rfl rfl) ?_
  refine oS (fun _ => XS.iconst X74.here hx rfl (hb hby dd0_18) ) ?_
  have O88 : Old Z n0 h73 := O67.wr W76 N61
  have F87 : Sta Z h73 "com/example/tuplewise/tuplewise/lang/Token$Kind" "STRING" "Lcom/example/tuplewise/tuplewise/lang/Token$Kind;" (.ref ob_11) := Sta.ext O88.2 I86
  obtain ⟨T89, X90, e91, s92⟩ := getS X74 hx hZ hown (host := "") (oW hw 12 rfl) Via.refl e75 F87 (g := (mkF m 19 #[] [(.int 2), (.ref ob_38), (.ref ob_38)])) rfl (hb hby dd0_19)
  refine oS s92 ?_
  show own_G p e below (T89.setTop (mkF m 22 #[] [(.ref ob_11), (.int 2), (.ref ob_38), (.ref ob_38)])) _
  have F102 : Exa Z h73 ob_11 "com/example/tuplewise/tuplewise/lang/Token$Kind" := Exa.ext O88.2 I101
  obtain ⟨T93, h94, X95, e96, W97, A98, s99⟩ := own_stR X90 hx hZ e91 F84 rfl 2 (own_sto F84 V34 (Ins.self F102)) rfl rfl (by decide) (by simp) (g := (mkF m 22 #[] [(.ref ob_11), (.int 2), (.ref ob_38), (.ref ob_38)])) rfl (rest := [(.ref ob_38)]) rfl (hb hby dd0_22)
  have N103 := Fr.snoc X95 N82 N61
  have z104 := W97.size
  have F105 : Arv Z h94 ob_38 kk_37 (.object "com/example/tuplewise/tuplewise/lang/Token$Kind") 19 [(.ref ob_9), (.ref ob_10), (.ref ob_11), .null, .null, .null, .null, .null, .null, .null, .null, .null, .null, .null, .null, .null, .null, .null, .null] .null := A98
  refine oS s99 ?_
  show own_G p e below (T93.setTop (mkF m 23 #[] [(.ref ob_38)])) _
  refine oS (fun _ => XS.dup X95.here hx rfl (hb hby dd0_23) rfl rfl) ?_
  refine oS (fun _ => XS.iconst X95.here hx rfl (hb hby dd0_24) ) ?_
  have O109 : Old Z n0 h94 := O88.wr W97 N61
  have F108 : Sta Z h94 "com/example/tuplewise/tuplewise/lang/Token$Kind" "INTEGER" "Lcom/example/tuplewise/tuplewise/lang/Token$Kind;" (.ref ob_12) := Sta.ext O109.2 I107
  obtain ⟨T110, X111, e112, s113⟩ := getS X95 hx hZ hown (host := "") (oW hw 14 rfl) Via.refl e96 F108 (g := (mkF m 25 #[] [(.int 3), (.ref ob_38), (.ref ob_38)])) rfl (hb hby dd0_25)
  refine oS s113 ?_
  show own_G p e below (T110.setTop (mkF m 28 #[] [(.ref ob_12), (.int 3), (.ref ob_38), (.ref ob_38)])) _
  have F123 : Exa Z h94 ob_12 "com/example/tuplewise/tuplewise/lang/Token$Kind" := Exa.ext O109.2 I122
  obtain ⟨T114, h115, X116, e117, W118, A119, s120⟩ := own_stR X111 hx hZ e112 F105 rfl 3 (own_sto F105 V34 (Ins.self F123)) rfl rfl (by decide) (by simp) (g := (mkF m 28 #[] [(.ref ob_12), (.int 3), (.ref ob_38), (.ref ob_38)])) rfl (rest := [(.ref ob_38)]) rfl (hb hby dd0_28)
  have N124 := Fr.snoc X116 N103 N61
  have z125 := W118.size
  have F126 : Arv Z h115 ob_38 kk_37 (.object "com/example/tuplewise/tuplewise/lang/Token$Kind") 19 [(.ref ob_9), (.ref ob_10), (.ref ob_11), (.ref ob_12), .null, .null, .null, .null, .null, .null, .null, .null, .null, .null, .null, .null, .null, .null, .null] .null := A119
  refine oS s120 ?_
  show own_G p e below (T114.setTop (mkF m 29 #[] [(.ref ob_38)])) _
  refine oS (fun _ => XS.dup X116.here hx rfl (hb hby dd0_29) rfl rfl) ?_
  refine oS (fun _ => XS.iconst X116.here hx rfl (hb hby dd0_30) ) ?_
  have O130 : Old Z n0 h115 := O109.wr W118 N61
  have F129 : Sta Z h115 "com/example/tuplewise/tuplewise/lang/Token$Kind" "DECIMAL" "Lcom/example/tuplewise/tuplewise/lang/Token$Kind;" (.ref ob_13) := Sta.ext O130.2 I128
  obtain ⟨T131, X132, e133, s134⟩ := getS X116 hx hZ hown (host := "") (oW hw 16 rfl) Via.refl e117 F129 (g := (mkF m 31 #[] [(.int 4), (.ref ob_38), (.ref ob_38)])) rfl (hb hby dd0_31)
  refine oS s134 ?_
  show own_G p e below (T131.setTop (mkF m 34 #[] [(.ref ob_13), (.int 4), (.ref ob_38), (.ref ob_38)])) _
  have F144 : Exa Z h115 ob_13 "com/example/tuplewise/tuplewise/lang/Token$Kind" := Exa.ext O130.2 I143
  obtain ⟨T135, h136, X137, e138, W139, A140, s141⟩ := own_stR X132 hx hZ e133 F126 rfl 4 (own_sto F126 V34 (Ins.self F144)) rfl rfl (by decide) (by simp) (g := (mkF m 34 #[] [(.ref ob_13), (.int 4), (.ref ob_38), (.ref ob_38)])) rfl (rest := [(.ref ob_38)]) rfl (hb hby dd0_34)
  have N145 := Fr.snoc X137 N124 N61
  have z146 := W139.size
  have F147 : Arv Z h136 ob_38 kk_37 (.object "com/example/tuplewise/tuplewise/lang/Token$Kind") 19 [(.ref ob_9), (.ref ob_10), (.ref ob_11), (.ref ob_12), (.ref ob_13), .null, .null, .null, .null, .null, .null, .null, .null, .null, .null, .null, .null, .null, .null] .null := A140
  refine oS s141 ?_
  show own_G p e below (T135.setTop (mkF m 35 #[] [(.ref ob_38)])) _
  refine oS (fun _ => XS.dup X137.here hx rfl (hb hby dd0_35) rfl rfl) ?_
  refine oS (fun _ => XS.iconst X137.here hx rfl (hb hby dd0_36) ) ?_
  have O151 : Old Z n0 h136 := O130.wr W139 N61
  have F150 : Sta Z h136 "com/example/tuplewise/tuplewise/lang/Token$Kind" "OPERATOR" "Lcom/example/tuplewise/tuplewise/lang/Token$Kind;" (.ref ob_14) := Sta.ext O151.2 I149
  obtain ⟨T152, X153, e154, s155⟩ := getS X137 hx hZ hown (host := "") (oW hw 18 rfl) Via.refl e138 F150 (g := (mkF m 37 #[] [(.int 5), (.ref ob_38), (.ref ob_38)])) rfl (hb hby dd0_37)
  refine oS s155 ?_
  show own_G p e below (T152.setTop (mkF m 40 #[] [(.ref ob_14), (.int 5), (.ref ob_38), (.ref ob_38)])) _
  have F165 : Exa Z h136 ob_14 "com/example/tuplewise/tuplewise/lang/Token$Kind" := Exa.ext O151.2 I164
  obtain ⟨T156, h157, X158, e159, W160, A161, s162⟩ := own_stR X153 hx hZ e154 F147 rfl 5 (own_sto F147 V34 (Ins.self F165)) rfl rfl (by decide) (by simp) (g := (mkF m 40 #[] [(.ref ob_14), (.int 5), (.ref ob_38), (.ref ob_38)])) rfl (rest := [(.ref ob_38)]) rfl (hb hby dd0_40)
  have N166 := Fr.snoc X158 N145 N61
  have z167 := W160.size
  have F168 : Arv Z h157 ob_38 kk_37 (.object "com/example/tuplewise/tuplewise/lang/Token$Kind") 19 [(.ref ob_9), (.ref ob_10), (.ref ob_11), (.ref ob_12), (.ref ob_13), (.ref ob_14), .null, .null, .null, .null, .null, .null, .null, .null, .null, .null, .null, .null, .null] .null := A161
  refine oS s162 ?_
  show own_G p e below (T156.setTop (mkF m 41 #[] [(.ref ob_38)])) _
  refine oS (fun _ => XS.dup X158.here hx rfl (hb hby dd0_41) rfl rfl) ?_
  refine oS (fun _ => XS.bipush X158.here hx rfl (hb hby dd0_42) ) ?_
  have O172 : Old Z n0 h157 := O151.wr W160 N61
  have F171 : Sta Z h157 "com/example/tuplewise/tuplewise/lang/Token$Kind" "COMPOUND_ASSIGNMENT" "Lcom/example/tuplewise/tuplewise/lang/Token$Kind;" (.ref ob_15) := Sta.ext O172.2 I170
  obtain ⟨T173, X174, e175, s176⟩ := getS X158 hx hZ hown (host := "") (oW hw 20 rfl) Via.refl e159 F171 (g := (mkF m 44 #[] [(.int 6), (.ref ob_38), (.ref ob_38)])) rfl (hb hby dd0_44)
  refine oS s176 ?_
  show own_G p e below (T173.setTop (mkF m 47 #[] [(.ref ob_15), (.int 6), (.ref ob_38), (.ref ob_38)])) _
  have F186 : Exa Z h157 ob_15 "com/example/tuplewise/tuplewise/lang/Token$Kind" := Exa.ext O172.2 I185
  obtain ⟨T177, h178, X179, e180, W181, A182, s183⟩ := own_stR X174 hx hZ e175 F168 rfl 6 (own_sto F168 V34 (Ins.self F186)) rfl rfl (by decide) (by simp) (g := (mkF m 47 #[] [(.ref ob_15), (.int 6), (.ref ob_38), (.ref ob_38)])) rfl (rest := [(.ref ob_38)]) rfl (hb hby dd0_47)
  have N187 := Fr.snoc X179 N166 N61
  have z188 := W181.size
  have F189 : Arv Z h178 ob_38 kk_37 (.object "com/example/tuplewise/tuplewise/lang/Token$Kind") 19 [(.ref ob_9), (.ref ob_10), (.ref ob_11), (.ref ob_12), (.ref ob_13), (.ref ob_14), (.ref ob_15), .null, .null, .null, .null, .null, .null, .null, .null, .null, .null, .null, .null] .null := A182
  refine oS s183 ?_
  show own_G p e below (T177.setTop (mkF m 48 #[] [(.ref ob_38)])) _
  refine oS (fun _ => XS.dup X179.here hx rfl (hb hby dd0_48) rfl rfl) ?_
  refine oS (fun _ => XS.bipush X179.here hx rfl (hb hby dd0_49) ) ?_
  have O193 : Old Z n0 h178 := O172.wr W181 N61
  have F192 : Sta Z h178 "com/example/tuplewise/tuplewise/lang/Token$Kind" "LEFT_BRACE" "Lcom/example/tuplewise/tuplewise/lang/Token$Kind;" (.ref ob_16) := Sta.ext O193.2 I191
  obtain ⟨T194, X195, e196, s197⟩ := getS X179 hx hZ hown (host := "") (oW hw 22 rfl) Via.refl e180 F192 (g := (mkF m 51 #[] [(.int 7), (.ref ob_38), (.ref ob_38)])) rfl (hb hby dd0_51)
  refine oS s197 ?_
  show own_G p e below (T194.setTop (mkF m 54 #[] [(.ref ob_16), (.int 7), (.ref ob_38), (.ref ob_38)])) _
  have F207 : Exa Z h178 ob_16 "com/example/tuplewise/tuplewise/lang/Token$Kind" := Exa.ext O193.2 I206
  obtain ⟨T198, h199, X200, e201, W202, A203, s204⟩ := own_stR X195 hx hZ e196 F189 rfl 7 (own_sto F189 V34 (Ins.self F207)) rfl rfl (by decide) (by simp) (g := (mkF m 54 #[] [(.ref ob_16), (.int 7), (.ref ob_38), (.ref ob_38)])) rfl (rest := [(.ref ob_38)]) rfl (hb hby dd0_54)
  have N208 := Fr.snoc X200 N187 N61
  have z209 := W202.size
  have F210 : Arv Z h199 ob_38 kk_37 (.object "com/example/tuplewise/tuplewise/lang/Token$Kind") 19 [(.ref ob_9), (.ref ob_10), (.ref ob_11), (.ref ob_12), (.ref ob_13), (.ref ob_14), (.ref ob_15), (.ref ob_16), .null, .null, .null, .null, .null, .null, .null, .null, .null, .null, .null] .null := A203
  refine oS s204 ?_
  show own_G p e below (T198.setTop (mkF m 55 #[] [(.ref ob_38)])) _
  refine oS (fun _ => XS.dup X200.here hx rfl (hb hby dd0_55) rfl rfl) ?_
  refine oS (fun _ => XS.bipush X200.here hx rfl (hb hby dd0_56) ) ?_
  have O214 : Old Z n0 h199 := O193.wr W202 N61
  have F213 : Sta Z h199 "com/example/tuplewise/tuplewise/lang/Token$Kind" "RIGHT_BRACE" "Lcom/example/tuplewise/tuplewise/lang/Token$Kind;" (.ref ob_17) := Sta.ext O214.2 I212
  obtain ⟨T215, X216, e217, s218⟩ := getS X200 hx hZ hown (host := "") (oW hw 24 rfl) Via.refl e201 F213 (g := (mkF m 58 #[] [(.int 8), (.ref ob_38), (.ref ob_38)])) rfl (hb hby dd0_58)
  refine oS s218 ?_
  show own_G p e below (T215.setTop (mkF m 61 #[] [(.ref ob_17), (.int 8), (.ref ob_38), (.ref ob_38)])) _
  have F228 : Exa Z h199 ob_17 "com/example/tuplewise/tuplewise/lang/Token$Kind" := Exa.ext O214.2 I227
  obtain ⟨T219, h220, X221, e222, W223, A224, s225⟩ := own_stR X216 hx hZ e217 F210 rfl 8 (own_sto F210 V34 (Ins.self F228)) rfl rfl (by decide) (by simp) (g := (mkF m 61 #[] [(.ref ob_17), (.int 8), (.ref ob_38), (.ref ob_38)])) rfl (rest := [(.ref ob_38)]) rfl (hb hby dd0_61)
  have N229 := Fr.snoc X221 N208 N61
  have z230 := W223.size
  have F231 : Arv Z h220 ob_38 kk_37 (.object "com/example/tuplewise/tuplewise/lang/Token$Kind") 19 [(.ref ob_9), (.ref ob_10), (.ref ob_11), (.ref ob_12), (.ref ob_13), (.ref ob_14), (.ref ob_15), (.ref ob_16), (.ref ob_17), .null, .null, .null, .null, .null, .null, .null, .null, .null, .null] .null := A224
  refine oS s225 ?_
  show own_G p e below (T219.setTop (mkF m 62 #[] [(.ref ob_38)])) _
  refine oS (fun _ => XS.dup X221.here hx rfl (hb hby dd0_62) rfl rfl) ?_
  refine oS (fun _ => XS.bipush X221.here hx rfl (hb hby dd0_63) ) ?_
  have O235 : Old Z n0 h220 := O214.wr W223 N61
  have F234 : Sta Z h220 "com/example/tuplewise/tuplewise/lang/Token$Kind" "LEFT_PAREN" "Lcom/example/tuplewise/tuplewise/lang/Token$Kind;" (.ref ob_18) := Sta.ext O235.2 I233
  obtain ⟨T236, X237, e238, s239⟩ := getS X221 hx hZ hown (host := "") (oW hw 26 rfl) Via.refl e222 F234 (g := (mkF m 65 #[] [(.int 9), (.ref ob_38), (.ref ob_38)])) rfl (hb hby dd0_65)
  refine oS s239 ?_
  show own_G p e below (T236.setTop (mkF m 68 #[] [(.ref ob_18), (.int 9), (.ref ob_38), (.ref ob_38)])) _
  have F249 : Exa Z h220 ob_18 "com/example/tuplewise/tuplewise/lang/Token$Kind" := Exa.ext O235.2 I248
  obtain ⟨T240, h241, X242, e243, W244, A245, s246⟩ := own_stR X237 hx hZ e238 F231 rfl 9 (own_sto F231 V34 (Ins.self F249)) rfl rfl (by decide) (by simp) (g := (mkF m 68 #[] [(.ref ob_18), (.int 9), (.ref ob_38), (.ref ob_38)])) rfl (rest := [(.ref ob_38)]) rfl (hb hby dd0_68)
  have N250 := Fr.snoc X242 N229 N61
  have z251 := W244.size
  have F252 : Arv Z h241 ob_38 kk_37 (.object "com/example/tuplewise/tuplewise/lang/Token$Kind") 19 [(.ref ob_9), (.ref ob_10), (.ref ob_11), (.ref ob_12), (.ref ob_13), (.ref ob_14), (.ref ob_15), (.ref ob_16), (.ref ob_17), (.ref ob_18), .null, .null, .null, .null, .null, .null, .null, .null, .null] .null := A245
  refine oS s246 ?_
  show own_G p e below (T240.setTop (mkF m 69 #[] [(.ref ob_38)])) _
  refine oS (fun _ => XS.dup X242.here hx rfl (hb hby dd0_69) rfl rfl) ?_
  refine oS (fun _ => XS.bipush X242.here hx rfl (hb hby dd0_70) ) ?_
  have O256 : Old Z n0 h241 := O235.wr W244 N61
  have F255 : Sta Z h241 "com/example/tuplewise/tuplewise/lang/Token$Kind" "RIGHT_PAREN" "Lcom/example/tuplewise/tuplewise/lang/Token$Kind;" (.ref ob_19) := Sta.ext O256.2 I254
  obtain ⟨T257, X258, e259, s260⟩ := getS X242 hx hZ hown (host := "") (oW hw 28 rfl) Via.refl e243 F255 (g := (mkF m 72 #[] [(.int 10), (.ref ob_38), (.ref ob_38)])) rfl (hb hby dd0_72)
  refine oS s260 ?_
  show own_G p e below (T257.setTop (mkF m 75 #[] [(.ref ob_19), (.int 10), (.ref ob_38), (.ref ob_38)])) _
  have F270 : Exa Z h241 ob_19 "com/example/tuplewise/tuplewise/lang/Token$Kind" := Exa.ext O256.2 I269
  obtain ⟨T261, h262, X263, e264, W265, A266, s267⟩ := own_stR X258 hx hZ e259 F252 rfl 10 (own_sto F252 V34 (Ins.self F270)) rfl rfl (by decide) (by simp) (g := (mkF m 75 #[] [(.ref ob_19), (.int 10), (.ref ob_38), (.ref ob_38)])) rfl (rest := [(.ref ob_38)]) rfl (hb hby dd0_75)
  have N271 := Fr.snoc X263 N250 N61
  have z272 := W265.size
  have F273 : Arv Z h262 ob_38 kk_37 (.object "com/example/tuplewise/tuplewise/lang/Token$Kind") 19 [(.ref ob_9), (.ref ob_10), (.ref ob_11), (.ref ob_12), (.ref ob_13), (.ref ob_14), (.ref ob_15), (.ref ob_16), (.ref ob_17), (.ref ob_18), (.ref ob_19), .null, .null, .null, .null, .null, .null, .null, .null] .null := A266
  refine oS s267 ?_
  show own_G p e below (T261.setTop (mkF m 76 #[] [(.ref ob_38)])) _
  refine oS (fun _ => XS.dup X263.here hx rfl (hb hby dd0_76) rfl rfl) ?_
  refine oS (fun _ => XS.bipush X263.here hx rfl (hb hby dd0_77) ) ?_
  have O277 : Old Z n0 h262 := O256.wr W265 N61
  have F276 : Sta Z h262 "com/example/tuplewise/tuplewise/lang/Token$Kind" "LEFT_BRACKET" "Lcom/example/tuplewise/tuplewise/lang/Token$Kind;" (.ref ob_20) := Sta.ext O277.2 I275
  obtain ⟨T278, X279, e280, s281⟩ := getS X263 hx hZ hown (host := "") (oW hw 30 rfl) Via.refl e264 F276 (g := (mkF m 79 #[] [(.int 11), (.ref ob_38), (.ref ob_38)])) rfl (hb hby dd0_79)
  refine oS s281 ?_
  show own_G p e below (T278.setTop (mkF m 82 #[] [(.ref ob_20), (.int 11), (.ref ob_38), (.ref ob_38)])) _
  have F291 : Exa Z h262 ob_20 "com/example/tuplewise/tuplewise/lang/Token$Kind" := Exa.ext O277.2 I290
  obtain ⟨T282, h283, X284, e285, W286, A287, s288⟩ := own_stR X279 hx hZ e280 F273 rfl 11 (own_sto F273 V34 (Ins.self F291)) rfl rfl (by decide) (by simp) (g := (mkF m 82 #[] [(.ref ob_20), (.int 11), (.ref ob_38), (.ref ob_38)])) rfl (rest := [(.ref ob_38)]) rfl (hb hby dd0_82)
  have N292 := Fr.snoc X284 N271 N61
  have z293 := W286.size
  have F294 : Arv Z h283 ob_38 kk_37 (.object "com/example/tuplewise/tuplewise/lang/Token$Kind") 19 [(.ref ob_9), (.ref ob_10), (.ref ob_11), (.ref ob_12), (.ref ob_13), (.ref ob_14), (.ref ob_15), (.ref ob_16), (.ref ob_17), (.ref ob_18), (.ref ob_19), (.ref ob_20), .null, .null, .null, .null, .null, .null, .null] .null := A287
  refine oS s288 ?_
  show own_G p e below (T282.setTop (mkF m 83 #[] [(.ref ob_38)])) _
  refine oS (fun _ => XS.dup X284.here hx rfl (hb hby dd0_83) rfl rfl) ?_
  refine oS (fun _ => XS.bipush X284.here hx rfl (hb hby dd0_84) ) ?_
  have O298 : Old Z n0 h283 := O277.wr W286 N61
  have F297 : Sta Z h283 "com/example/tuplewise/tuplewise/lang/Token$Kind" "RIGHT_BRACKET" "Lcom/example/tuplewise/tuplewise/lang/Token$Kind;" (.ref ob_21) := Sta.ext O298.2 I296
  obtain ⟨T299, X300, e301, s302⟩ := getS X284 hx hZ hown (host := "") (oW hw 32 rfl) Via.refl e285 F297 (g := (mkF m 86 #[] [(.int 12), (.ref ob_38), (.ref ob_38)])) rfl (hb hby dd0_86)
  refine oS s302 ?_
  show own_G p e below (T299.setTop (mkF m 89 #[] [(.ref ob_21), (.int 12), (.ref ob_38), (.ref ob_38)])) _
  have F312 : Exa Z h283 ob_21 "com/example/tuplewise/tuplewise/lang/Token$Kind" := Exa.ext O298.2 I311
  obtain ⟨T303, h304, X305, e306, W307, A308, s309⟩ := own_stR X300 hx hZ e301 F294 rfl 12 (own_sto F294 V34 (Ins.self F312)) rfl rfl (by decide) (by simp) (g := (mkF m 89 #[] [(.ref ob_21), (.int 12), (.ref ob_38), (.ref ob_38)])) rfl (rest := [(.ref ob_38)]) rfl (hb hby dd0_89)
  have N313 := Fr.snoc X305 N292 N61
  have z314 := W307.size
  have F315 : Arv Z h304 ob_38 kk_37 (.object "com/example/tuplewise/tuplewise/lang/Token$Kind") 19 [(.ref ob_9), (.ref ob_10), (.ref ob_11), (.ref ob_12), (.ref ob_13), (.ref ob_14), (.ref ob_15), (.ref ob_16), (.ref ob_17), (.ref ob_18), (.ref ob_19), (.ref ob_20), (.ref ob_21), .null, .null, .null, .null, .null, .null] .null := A308
  refine oS s309 ?_
  show own_G p e below (T303.setTop (mkF m 90 #[] [(.ref ob_38)])) _
  refine oS (fun _ => XS.dup X305.here hx rfl (hb hby dd0_90) rfl rfl) ?_
  refine oS (fun _ => XS.bipush X305.here hx rfl (hb hby dd0_91) ) ?_
  have O319 : Old Z n0 h304 := O298.wr W307 N61
  have F318 : Sta Z h304 "com/example/tuplewise/tuplewise/lang/Token$Kind" "SEMICOLON" "Lcom/example/tuplewise/tuplewise/lang/Token$Kind;" (.ref ob_22) := Sta.ext O319.2 I317
  obtain ⟨T320, X321, e322, s323⟩ := getS X305 hx hZ hown (host := "") (oW hw 34 rfl) Via.refl e306 F318 (g := (mkF m 93 #[] [(.int 13), (.ref ob_38), (.ref ob_38)])) rfl (hb hby dd0_93)
  refine oS s323 ?_
  show own_G p e below (T320.setTop (mkF m 96 #[] [(.ref ob_22), (.int 13), (.ref ob_38), (.ref ob_38)])) _
  have F333 : Exa Z h304 ob_22 "com/example/tuplewise/tuplewise/lang/Token$Kind" := Exa.ext O319.2 I332
  obtain ⟨T324, h325, X326, e327, W328, A329, s330⟩ := own_stR X321 hx hZ e322 F315 rfl 13 (own_sto F315 V34 (Ins.self F333)) rfl rfl (by decide) (by simp) (g := (mkF m 96 #[] [(.ref ob_22), (.int 13), (.ref ob_38), (.ref ob_38)])) rfl (rest := [(.ref ob_38)]) rfl (hb hby dd0_96)
  have N334 := Fr.snoc X326 N313 N61
  have z335 := W328.size
  have F336 : Arv Z h325 ob_38 kk_37 (.object "com/example/tuplewise/tuplewise/lang/Token$Kind") 19 [(.ref ob_9), (.ref ob_10), (.ref ob_11), (.ref ob_12), (.ref ob_13), (.ref ob_14), (.ref ob_15), (.ref ob_16), (.ref ob_17), (.ref ob_18), (.ref ob_19), (.ref ob_20), (.ref ob_21), (.ref ob_22), .null, .null, .null, .null, .null] .null := A329
  refine oS s330 ?_
  show own_G p e below (T324.setTop (mkF m 97 #[] [(.ref ob_38)])) _
  refine oS (fun _ => XS.dup X326.here hx rfl (hb hby dd0_97) rfl rfl) ?_
  refine oS (fun _ => XS.bipush X326.here hx rfl (hb hby dd0_98) ) ?_
  have O340 : Old Z n0 h325 := O319.wr W328 N61
  have F339 : Sta Z h325 "com/example/tuplewise/tuplewise/lang/Token$Kind" "COLON" "Lcom/example/tuplewise/tuplewise/lang/Token$Kind;" (.ref ob_23) := Sta.ext O340.2 I338
  obtain ⟨T341, X342, e343, s344⟩ := getS X326 hx hZ hown (host := "") (oW hw 36 rfl) Via.refl e327 F339 (g := (mkF m 100 #[] [(.int 14), (.ref ob_38), (.ref ob_38)])) rfl (hb hby dd0_100)
  refine oS s344 ?_
  show own_G p e below (T341.setTop (mkF m 103 #[] [(.ref ob_23), (.int 14), (.ref ob_38), (.ref ob_38)])) _
  have F354 : Exa Z h325 ob_23 "com/example/tuplewise/tuplewise/lang/Token$Kind" := Exa.ext O340.2 I353
  obtain ⟨T345, h346, X347, e348, W349, A350, s351⟩ := own_stR X342 hx hZ e343 F336 rfl 14 (own_sto F336 V34 (Ins.self F354)) rfl rfl (by decide) (by simp) (g := (mkF m 103 #[] [(.ref ob_23), (.int 14), (.ref ob_38), (.ref ob_38)])) rfl (rest := [(.ref ob_38)]) rfl (hb hby dd0_103)
  have N355 := Fr.snoc X347 N334 N61
  have z356 := W349.size
  have F357 : Arv Z h346 ob_38 kk_37 (.object "com/example/tuplewise/tuplewise/lang/Token$Kind") 19 [(.ref ob_9), (.ref ob_10), (.ref ob_11), (.ref ob_12), (.ref ob_13), (.ref ob_14), (.ref ob_15), (.ref ob_16), (.ref ob_17), (.ref ob_18), (.ref ob_19), (.ref ob_20), (.ref ob_21), (.ref ob_22), (.ref ob_23), .null, .null, .null, .null] .null := A350
  refine oS s351 ?_
  show own_G p e below (T345.setTop (mkF m 104 #[] [(.ref ob_38)])) _
  refine oS (fun _ => XS.dup X347.here hx rfl (hb hby dd0_104) rfl rfl) ?_
  refine oS (fun _ => XS.bipush X347.here hx rfl (hb hby dd0_105) ) ?_
  have O361 : Old Z n0 h346 := O340.wr W349 N61
  have F360 : Sta Z h346 "com/example/tuplewise/tuplewise/lang/Token$Kind" "COMMA" "Lcom/example/tuplewise/tuplewise/lang/Token$Kind;" (.ref ob_24) := Sta.ext O361.2 I359
  obtain ⟨T362, X363, e364, s365⟩ := getS X347 hx hZ hown (host := "") (oW hw 38 rfl) Via.refl e348 F360 (g := (mkF m 107 #[] [(.int 15), (.ref ob_38), (.ref ob_38)])) rfl (hb hby dd0_107)
  refine oS s365 ?_
  show own_G p e below (T362.setTop (mkF m 110 #[] [(.ref ob_24), (.int 15), (.ref ob_38), (.ref ob_38)])) _
  have F375 : Exa Z h346 ob_24 "com/example/tuplewise/tuplewise/lang/Token$Kind" := Exa.ext O361.2 I374
  obtain ⟨T366, h367, X368, e369, W370, A371, s372⟩ := own_stR X363 hx hZ e364 F357 rfl 15 (own_sto F357 V34 (Ins.self F375)) rfl rfl (by decide) (by simp) (g := (mkF m 110 #[] [(.ref ob_24), (.int 15), (.ref ob_38), (.ref ob_38)])) rfl (rest := [(.ref ob_38)]) rfl (hb hby dd0_110)
  have N376 := Fr.snoc X368 N355 N61
  have z377 := W370.size
  have F378 : Arv Z h367 ob_38 kk_37 (.object "com/example/tuplewise/tuplewise/lang/Token$Kind") 19 [(.ref ob_9), (.ref ob_10), (.ref ob_11), (.ref ob_12), (.ref ob_13), (.ref ob_14), (.ref ob_15), (.ref ob_16), (.ref ob_17), (.ref ob_18), (.ref ob_19), (.ref ob_20), (.ref ob_21), (.ref ob_22), (.ref ob_23), (.ref ob_24), .null, .null, .null] .null := A371
  refine oS s372 ?_
  show own_G p e below (T366.setTop (mkF m 111 #[] [(.ref ob_38)])) _
  refine oS (fun _ => XS.dup X368.here hx rfl (hb hby dd0_111) rfl rfl) ?_
  refine oS (fun _ => XS.bipush X368.here hx rfl (hb hby dd0_112) ) ?_
  have O382 : Old Z n0 h367 := O361.wr W370 N61
  have F381 : Sta Z h367 "com/example/tuplewise/tuplewise/lang/Token$Kind" "DOT" "Lcom/example/tuplewise/tuplewise/lang/Token$Kind;" (.ref ob_25) := Sta.ext O382.2 I380
  obtain ⟨T383, X384, e385, s386⟩ := getS X368 hx hZ hown (host := "") (oW hw 40 rfl) Via.refl e369 F381 (g := (mkF m 114 #[] [(.int 16), (.ref ob_38), (.ref ob_38)])) rfl (hb hby dd0_114)
  refine oS s386 ?_
  show own_G p e below (T383.setTop (mkF m 117 #[] [(.ref ob_25), (.int 16), (.ref ob_38), (.ref ob_38)])) _
  have F396 : Exa Z h367 ob_25 "com/example/tuplewise/tuplewise/lang/Token$Kind" := Exa.ext O382.2 I395
  obtain ⟨T387, h388, X389, e390, W391, A392, s393⟩ := own_stR X384 hx hZ e385 F378 rfl 16 (own_sto F378 V34 (Ins.self F396)) rfl rfl (by decide) (by simp) (g := (mkF m 117 #[] [(.ref ob_25), (.int 16), (.ref ob_38), (.ref ob_38)])) rfl (rest := [(.ref ob_38)]) rfl (hb hby dd0_117)
  have N397 := Fr.snoc X389 N376 N61
  have z398 := W391.size
  have F399 : Arv Z h388 ob_38 kk_37 (.object "com/example/tuplewise/tuplewise/lang/Token$Kind") 19 [(.ref ob_9), (.ref ob_10), (.ref ob_11), (.ref ob_12), (.ref ob_13), (.ref ob_14), (.ref ob_15), (.ref ob_16), (.ref ob_17), (.ref ob_18), (.ref ob_19), (.ref ob_20), (.ref ob_21), (.ref ob_22), (.ref ob_23), (.ref ob_24), (.ref ob_25), .null, .null] .null := A392
  refine oS s393 ?_
  show own_G p e below (T387.setTop (mkF m 118 #[] [(.ref ob_38)])) _
  refine oS (fun _ => XS.dup X389.here hx rfl (hb hby dd0_118) rfl rfl) ?_
  refine oS (fun _ => XS.bipush X389.here hx rfl (hb hby dd0_119) ) ?_
  have O403 : Old Z n0 h388 := O382.wr W391 N61
  have F402 : Sta Z h388 "com/example/tuplewise/tuplewise/lang/Token$Kind" "EQUALS" "Lcom/example/tuplewise/tuplewise/lang/Token$Kind;" (.ref ob_26) := Sta.ext O403.2 I401
  obtain ⟨T404, X405, e406, s407⟩ := getS X389 hx hZ hown (host := "") (oW hw 42 rfl) Via.refl e390 F402 (g := (mkF m 121 #[] [(.int 17), (.ref ob_38), (.ref ob_38)])) rfl (hb hby dd0_121)
  refine oS s407 ?_
  show own_G p e below (T404.setTop (mkF m 124 #[] [(.ref ob_26), (.int 17), (.ref ob_38), (.ref ob_38)])) _
  have F417 : Exa Z h388 ob_26 "com/example/tuplewise/tuplewise/lang/Token$Kind" := Exa.ext O403.2 I416
  obtain ⟨T408, h409, X410, e411, W412, A413, s414⟩ := own_stR X405 hx hZ e406 F399 rfl 17 (own_sto F399 V34 (Ins.self F417)) rfl rfl (by decide) (by simp) (g := (mkF m 124 #[] [(.ref ob_26), (.int 17), (.ref ob_38), (.ref ob_38)])) rfl (rest := [(.ref ob_38)]) rfl (hb hby dd0_124)
  have N418 := Fr.snoc X410 N397 N61
  have z419 := W412.size
  have F420 : Arv Z h409 ob_38 kk_37 (.object "com/example/tuplewise/tuplewise/lang/Token$Kind") 19 [(.ref ob_9), (.ref ob_10), (.ref ob_11), (.ref ob_12), (.ref ob_13), (.ref ob_14), (.ref ob_15), (.ref ob_16), (.ref ob_17), (.ref ob_18), (.ref ob_19), (.ref ob_20), (.ref ob_21), (.ref ob_22), (.ref ob_23), (.ref ob_24), (.ref ob_25), (.ref ob_26), .null] .null := A413
  refine oS s414 ?_
  show own_G p e below (T408.setTop (mkF m 125 #[] [(.ref ob_38)])) _
  refine oS (fun _ => XS.dup X410.here hx rfl (hb hby dd0_125) rfl rfl) ?_
  refine oS (fun _ => XS.bipush X410.here hx rfl (hb hby dd0_126) ) ?_
  have O424 : Old Z n0 h409 := O403.wr W412 N61
  have F423 : Sta Z h409 "com/example/tuplewise/tuplewise/lang/Token$Kind" "END" "Lcom/example/tuplewise/tuplewise/lang/Token$Kind;" (.ref ob_27) := Sta.ext O424.2 I422
  obtain ⟨T425, X426, e427, s428⟩ := getS X410 hx hZ hown (host := "") (oW hw 44 rfl) Via.refl e411 F423 (g := (mkF m 128 #[] [(.int 18), (.ref ob_38), (.ref ob_38)])) rfl (hb hby dd0_128)
  refine oS s428 ?_
  show own_G p e below (T425.setTop (mkF m 131 #[] [(.ref ob_27), (.int 18), (.ref ob_38), (.ref ob_38)])) _
  have F438 : Exa Z h409 ob_27 "com/example/tuplewise/tuplewise/lang/Token$Kind" := Exa.ext O424.2 I437
  obtain ⟨T429, h430, X431, e432, W433, A434, s435⟩ := own_stR X426 hx hZ e427 F420 rfl 18 (own_sto F420 V34 (Ins.self F438)) rfl rfl (by decide) (by simp) (g := (mkF m 131 #[] [(.ref ob_27), (.int 18), (.ref ob_38), (.ref ob_38)])) rfl (rest := [(.ref ob_38)]) rfl (hb hby dd0_131)
  have N439 := Fr.snoc X431 N418 N61
  have z440 := W433.size
  have F441 : Arv Z h430 ob_38 kk_37 (.object "com/example/tuplewise/tuplewise/lang/Token$Kind") 19 [(.ref ob_9), (.ref ob_10), (.ref ob_11), (.ref ob_12), (.ref ob_13), (.ref ob_14), (.ref ob_15), (.ref ob_16), (.ref ob_17), (.ref ob_18), (.ref ob_19), (.ref ob_20), (.ref ob_21), (.ref ob_22), (.ref ob_23), (.ref ob_24), (.ref ob_25), (.ref ob_26), (.ref ob_27)] .null := A434
  refine oS s435 ?_
  show own_G p e below (T429.setTop (mkF m 132 #[] [(.ref ob_38)])) _
  have y442 : @LT.lt Nat instLTNat ob_38 h430.size := by omega
  have K443 : Keep h0 h430 [] := (((((((((((((((((((((Keep.refl h0 []).ext E32).wr W54 (Or.inr (by omega))).wr W76 (Or.inr (by omega))).wr W97 (Or.inr (by omega))).wr W118 (Or.inr (by omega))).wr W139 (Or.inr (by omega))).wr W160 (Or.inr (by omega))).wr W181 (Or.inr (by omega))).wr W202 (Or.inr (by omega))).wr W223 (Or.inr (by omega))).wr W244 (Or.inr (by omega))).wr W265 (Or.inr (by omega))).wr W286 (Or.inr (by omega))).wr W307 (Or.inr (by omega))).wr W328 (Or.inr (by omega))).wr W349 (Or.inr (by omega))).wr W370 (Or.inr (by omega))).wr W391 (Or.inr (by omega))).wr W412 (Or.inr (by omega))).wr W433 (Or.inr (by omega)))
  exact own_retA X431 hx Bd.notSynchronized Bd.returns rfl rfl (hb hby dd0_132) e432 (by decide) (by decide) (⟨ob_38, kk_37, rfl, N439, K443, (by omega), F441, y442, V34⟩)
theorem own_pd0 : parseMethodDescriptor "()[Lcom/example/tuplewise/tuplewise/lang/Token$Kind;" = some ⟨[], (some (.array (.object "com/example/tuplewise/tuplewise/lang/Token$Kind")))⟩ := by decide +kernel
theorem own_ef2 (m : MethodId) (x0 : Int32) : entryFrame m #[(.int x0)] 1 = mkF m 0 #[.val (.int x0)] [] := by first | (simp [entryFrame, mkF, argsToLocals, Value.category]; done) | rfl
theorem dd1_0 : decode jdk_42_method_139_code 0 = .ok (.getstatic 38, 3) := by decide +kernel
theorem dd1_3 : decode jdk_42_method_139_code 3 = .ok (.ifCond .eq 23, 3) := by decide +kernel
theorem dd1_6 : decode jdk_42_method_139_code 6 = .ok (.iload_n 0, 1) := by decide +kernel
theorem dd2_0 : decode jdk_43_method_3_code 0 = .ok (.iload_n 0, 1) := by decide +kernel
theorem dd2_1 : decode jdk_43_method_3_code 1 = .ok (.sipush 255, 3) := by decide +kernel
theorem dd2_4 : decode jdk_43_method_3_code 4 = .ok (.if_icmp .gt 7, 3) := by decide +kernel
theorem dd2_7 : decode jdk_43_method_3_code 7 = .ok (.iconst 1, 1) := by decide +kernel
theorem dd2_8 : decode jdk_43_method_3_code 8 = .ok (.goto 4, 3) := by decide +kernel
theorem dd2_12 : decode jdk_43_method_3_code 12 = .ok (.ireturn, 1) := by decide +kernel
def own_Q4 (Z : State) (in_516 : Int32) (h0 : Heap) (n0 : Nat) (v : Option Value) (h : Heap) (L : List Loc) : Prop := (v = some (.int 1) ∧ Fr n0 L ∧ h = h0)
theorem own_pn1 : plainFor (⟨"java/lang/StringLatin1", "canEncode", "(C)Z"⟩ : MethodName) = true := by decide +kernel
set_option maxRecDepth 65536 in
set_option maxHeartbeats 40000000 in
theorem own_rm4 (l : Launch) (Z : State) (a0 : Array Value) (hw : ∀ d ∈ tables_1, d.before a0 Z = true) (ws : List Jvm.Cond) (in_516 : Int32) (h0 : Heap) (n0 : Nat) (Z0 : n0 ≤ h0.size) (O0 : Old Z n0 h0) (I531 : ¬ (255 < in_516)) :
    own_Met l Z h0 (⟨"java/lang/StringLatin1", "canEncode", "(C)Z"⟩ : MethodName) jdk_43_method_3_code 1 (Option.some FieldType.boolean) ws ({ frames := 0, cells := 0, slots := 0, locals := 0 } : Room) #[(.int in_516)] (own_Q4 Z in_516 h0 n0) 0 0 := by
  refine MetFree.of_bodySF own_pn1 hisR ?_
  intro p e s m args below meth c s₁ Bd hml0 hP hK
  obtain ⟨rfl, hZ, hh⟩ := hP
  have hx := Bd.exec
  have hby := Bd.bytes
  have hml : c.maxLocals = 1 := hml0
  have hown : s.vm.findClass "java/lang/StringLatin1" = some m.cls := findClass_of_methodNamed Bd.named
  have hnm := (name_of_methodNamed Bd.named Bd.method).1
  have X0 : Stand p l e ({ frames := 0, cells := 0, slots := 0, locals := 0 } : Room) s m #[(.int in_516)] below meth c s₁ [] 0 0 := Stand.of_body Bd
  have e0 : s₁.heap = h0 := by rw [← hh, Bd.state]; rfl
  have N0 := Fr.nil n0
  show own_G p e below (s₁.setTop (entryFrame m #[(.int in_516)] 1)) (own_P s (own_Q4 Z in_516 h0 n0) 0 0)
  refine own_cast (own_ef2 m in_516) ?_
  show own_G p e below (s₁.setTop (mkF m 0 #[iv in_516] [])) _
  refine oS (fun _ => XS.iloadN X0.here hx rfl (hb hby dd2_0) rfl) ?_
  refine oS (fun _ => XS.sipush X0.here hx rfl (hb hby dd2_1) ) ?_
  refine oS (fun _ => XS.icmpNo X0.here hx rfl (hb hby dd2_4) rfl (XT.ii_gt_f I531)) ?_
  show own_G p e below (s₁.setTop (mkF m 7 #[iv in_516] [])) _
  refine oS (fun _ => XS.iconst X0.here hx rfl (hb hby dd2_7) ) ?_
  refine oS (fun _ => XS.goto X0.here hx rfl (pc0 := 8) (pc' := 12) rfl (hb hby dd2_8) (by decide) (by decide)) ?_
  show own_G p e below (s₁.setTop (mkF m 12 #[iv in_516] [(.int 1)])) _
  exact own_retN X0 hx (t := .boolean) Bd.notSynchronized Bd.returns (by simp) (hb hby dd2_12) (by decide) e0 (by decide) (by decide) (⟨rfl, N0, rfl⟩)
theorem own_pd1 : parseMethodDescriptor "(C)Z" = some ⟨[.char], (some .boolean)⟩ := by decide +kernel
theorem dd1_7 : decode jdk_42_method_139_code 7 = .ok (.invokestatic 1015, 3) := by decide +kernel
theorem dd1_10 : decode jdk_42_method_139_code 10 = .ok (.ifCond .eq 16, 3) := by decide +kernel
theorem dd1_13 : decode jdk_42_method_139_code 13 = .ok (.new 10, 3) := by decide +kernel
theorem dd1_16 : decode jdk_42_method_139_code 16 = .ok (.dup, 1) := by decide +kernel
theorem dd1_17 : decode jdk_42_method_139_code 17 = .ok (.iload_n 0, 1) := by decide +kernel
theorem dd3_0 : decode jdk_43_method_46_code 0 = .ok (.iconst 1, 1) := by decide +kernel
theorem dd3_1 : decode jdk_43_method_46_code 1 = .ok (.newarray .byte, 2) := by decide +kernel
theorem dd3_3 : decode jdk_43_method_46_code 3 = .ok (.dup, 1) := by decide +kernel
theorem dd3_4 : decode jdk_43_method_46_code 4 = .ok (.iconst 0, 1) := by decide +kernel
theorem dd3_5 : decode jdk_43_method_46_code 5 = .ok (.iload_n 0, 1) := by decide +kernel
theorem dd3_6 : decode jdk_43_method_46_code 6 = .ok (.i2b, 1) := by decide +kernel
theorem dd3_7 : decode jdk_43_method_46_code 7 = .ok (.bastore, 1) := by decide +kernel
theorem dd3_8 : decode jdk_43_method_46_code 8 = .ok (.areturn, 1) := by decide +kernel
def own_Q5 (Z : State) (in_516 : Int32) (h0 : Heap) (n0 : Nat) (v : Option Value) (h : Heap) (L : List Loc) : Prop := (∃ ob_570 : Nat, ∃ kk_568 : ClassId, v = some (.ref ob_570) ∧ Fr n0 L ∧ Keep h0 h [] ∧ h0.size ≤ ob_570 ∧ Arv Z h ob_570 kk_568 .byte 1 [(.int (in_516.toInt8.toInt32))] (.int 0) ∧ Exa Z h ob_570 "[B" ∧ @LT.lt Nat instLTNat ob_570 h.size)
theorem own_pn2 : plainFor (⟨"java/lang/StringLatin1", "toBytes", "(C)[B"⟩ : MethodName) = true := by decide +kernel
set_option maxRecDepth 65536 in
set_option maxHeartbeats 40000000 in
theorem own_rm5 (l : Launch) (Z : State) (a0 : Array Value) (hw : ∀ d ∈ tables_1, d.before a0 Z = true) (ws : List Jvm.Cond) (in_516 : Int32) (h0 : Heap) (n0 : Nat) (Z0 : n0 ≤ h0.size) (O0 : Old Z n0 h0)  :
    own_Met l Z h0 (⟨"java/lang/StringLatin1", "toBytes", "(C)[B"⟩ : MethodName) jdk_43_method_46_code 1 (Option.some (FieldType.array FieldType.byte)) ws ({ frames := 0, cells := 1, slots := 1, locals := 0 } : Room) #[(.int in_516)] (own_Q5 Z in_516 h0 n0) 1 1 := by
  refine MetFree.of_bodySF own_pn2 hisR ?_
  intro p e s m args below meth c s₁ Bd hml0 hP hK
  obtain ⟨rfl, hZ, hh⟩ := hP
  have hx := Bd.exec
  have hby := Bd.bytes
  have hml : c.maxLocals = 1 := hml0
  have hown : s.vm.findClass "java/lang/StringLatin1" = some m.cls := findClass_of_methodNamed Bd.named
  have hnm := (name_of_methodNamed Bd.named Bd.method).1
  have X0 : Stand p l e ({ frames := 0, cells := 1, slots := 1, locals := 0 } : Room) s m #[(.int in_516)] below meth c s₁ [] 0 0 := Stand.of_body Bd
  have e0 : s₁.heap = h0 := by rw [← hh, Bd.state]; rfl
  have N0 := Fr.nil n0
  show own_G p e below (s₁.setTop (entryFrame m #[(.int in_516)] 1)) (own_P s (own_Q5 Z in_516 h0 n0) 1 1)
  refine own_cast (own_ef2 m in_516) ?_
  show own_G p e below (s₁.setTop (mkF m 0 #[iv in_516] [])) _
  refine oS (fun _ => XS.iconst X0.here hx rfl (hb hby dd3_0) ) ?_
  obtain ⟨T559, h560, kk_568, X562, e563, E564, A565, B569, s566⟩ := own_newP X0 hx hZ (aty := .byte) (oW hw 62 rfl) e0 (nm := "[B") rfl (g := (mkF m 1 #[iv in_516] [(.int 1)])) rfl (hb hby dd3_1) (n := 1) (rest := []) rfl (by decide) (cap := 1) (by decide) (by decide) (by decide) (by decide)
  obtain ⟨ob_570, g571⟩ : ∃ z, z = h0.size := ⟨_, rfl⟩
  rw [← g571] at A565 B569 s566
  have F572 : Arv Z h560 ob_570 kk_568 .byte 1 [(.int 0)] (.int 0) := own_newA A565 (by decide) rfl rfl
  have z573 := E564.1
  have y567 : @LT.lt Nat instLTNat ob_570 h560.size := F572.lt
  refine oS s566 ?_
  show own_G p e below (T559.setTop (mkF m 3 #[iv in_516] [(.ref ob_570)])) _
  refine oS (fun _ => XS.dup X562.here hx rfl (hb hby dd3_3) rfl rfl) ?_
  refine oS (fun _ => XS.iconst X562.here hx rfl (hb hby dd3_4) ) ?_
  refine oS (fun _ => XS.iloadN X562.here hx rfl (hb hby dd3_5) rfl) ?_
  refine oS (fun _ => XT.i2b X562.here hx rfl (hb hby dd3_6) rfl) ?_
  show own_G p e below (T559.setTop (mkF m 7 #[iv in_516] [(.int (in_516.toInt8.toInt32)), (.int 0), (.ref ob_570), (.ref ob_570)])) _
  obtain ⟨T574, h575, X576, e577, W578, A579, s580⟩ := own_stB X562 hx hZ e563 F572 (x' := (in_516.toInt8.toInt32)) 0 (own_narB _) rfl (by decide) (by simp) (g := (mkF m 7 #[iv in_516] [(.int (in_516.toInt8.toInt32)), (.int 0), (.ref ob_570), (.ref ob_570)])) rfl (rest := [(.ref ob_570)]) rfl (hb hby dd3_7)
  have N582 : n0 ≤ ob_570 := by omega
  have N581 := Fr.snoc X576 N0 N582
  have z583 := W578.size
  have F584 : Arv Z h575 ob_570 kk_568 .byte 1 [(.int (in_516.toInt8.toInt32))] (.int 0) := A579
  refine oS s580 ?_
  show own_G p e below (T574.setTop (mkF m 8 #[iv in_516] [(.ref ob_570)])) _
  have F585 : Exa Z h575 ob_570 "[B" := Exa.wr W578 B569
  have y586 : @LT.lt Nat instLTNat ob_570 h575.size := by omega
  have K587 : Keep h0 h575 [] := (((Keep.refl h0 []).ext E564).wr W578 (Or.inr (by omega)))
  exact own_retA X576 hx Bd.notSynchronized Bd.returns rfl rfl (hb hby dd3_8) e577 (by decide) (by decide) (⟨ob_570, kk_568, rfl, N581, K587, (by omega), F584, F585, y586⟩)
theorem own_pd2 : parseMethodDescriptor "(C)[B" = some ⟨[.char], (some (.array .byte))⟩ := by decide +kernel
theorem dd1_18 : decode jdk_42_method_139_code 18 = .ok (.invokestatic 1018, 3) := by decide +kernel
theorem dd1_21 : decode jdk_42_method_139_code 21 = .ok (.iconst 0, 1) := by decide +kernel
theorem own_ef3 (m : MethodId) (x0 : Addr) (x1 : Addr) (x2 : Int32) : entryFrame m #[(.ref x0), (.ref x1), (.int x2)] 3 = mkF m 0 #[.val (.ref x0), .val (.ref x1), .val (.int x2)] [] := by first | (simp [entryFrame, mkF, argsToLocals, Value.category]; done) | rfl
theorem dd4_0 : decode jdk_42_method_151_code 0 = .ok (.aload_n 0, 1) := by decide +kernel
theorem dd4_1 : decode jdk_42_method_151_code 1 = .ok (.invokespecial 1, 3) := by decide +kernel
theorem dd4_4 : decode jdk_42_method_151_code 4 = .ok (.aload_n 0, 1) := by decide +kernel
theorem dd4_5 : decode jdk_42_method_151_code 5 = .ok (.aload_n 1, 1) := by decide +kernel
theorem dd4_6 : decode jdk_42_method_151_code 6 = .ok (.putfield 9, 3) := by decide +kernel
theorem dd4_9 : decode jdk_42_method_151_code 9 = .ok (.aload_n 0, 1) := by decide +kernel
theorem dd4_10 : decode jdk_42_method_151_code 10 = .ok (.iload_n 2, 1) := by decide +kernel
theorem dd4_11 : decode jdk_42_method_151_code 11 = .ok (.putfield 15, 3) := by decide +kernel
theorem dd4_14 : decode jdk_42_method_151_code 14 = .ok (.return_, 1) := by decide +kernel
def own_Q6 (Z : State) (ob_554 : Nat) (ob_598 : Nat) (h0 : Heap) (n0 : Nat) (v : Option Value) (h : Heap) (L : List Loc) : Prop := (v = none ∧ Fr n0 L ∧ Keep h0 h [ob_554] ∧ Fld Z h ob_554 "java/lang/String" "value" "[B" (.ref ob_598) ∧ Fld Z h ob_554 "java/lang/String" "coder" "B" (.int 0) ∧ Exa Z h ob_554 "java/lang/String")
theorem own_pn3 : plainFor (⟨"java/lang/String", "<init>", "([BB)V"⟩ : MethodName) = true := by decide +kernel
set_option maxRecDepth 65536 in
set_option maxHeartbeats 40000000 in
theorem own_rm6 (l : Launch) (Z : State) (a0 : Array Value) (hw : ∀ d ∈ tables_1, d.before a0 Z = true) (ws : List Jvm.Cond) (ob_554 : Nat) (ob_598 : Nat) (h0 : Heap) (n0 : Nat) (Z0 : n0 ≤ h0.size) (O0 : Old Z n0 h0) (I613 : Fld Z h0 ob_554 "java/lang/String" "value" "[B" .null) (I615 : Exa Z h0 ob_554 "java/lang/String") (I624 : n0 ≤ ob_554) (I628 : Fld Z h0 ob_554 "java/lang/String" "coder" "B" (.int 0)) :
    own_Met l Z h0 (⟨"java/lang/String", "<init>", "([BB)V"⟩ : MethodName) jdk_42_method_151_code 3 (Option.none : Option FieldType) ws ({ frames := 1, cells := 0, slots := 0, locals := 12 } : Room) #[(.ref ob_554), (.ref ob_598), (.int 0)] (own_Q6 Z ob_554 ob_598 h0 n0) 0 0 := by
  refine MetFree.of_bodySF own_pn3 hisR ?_
  intro p e s m args below meth c s₁ Bd hml0 hP hK
  obtain ⟨rfl, hZ, hh⟩ := hP
  have hx := Bd.exec
  have hby := Bd.bytes
  have hml : c.maxLocals = 3 := hml0
  have hown : s.vm.findClass "java/lang/String" = some m.cls := findClass_of_methodNamed Bd.named
  have hnm := (name_of_methodNamed Bd.named Bd.method).1
  have X0 : Stand p l e ({ frames := 1, cells := 0, slots := 0, locals := 12 } : Room) s m #[(.ref ob_554), (.ref ob_598), (.int 0)] below meth c s₁ [] 0 0 := Stand.of_body Bd
  have e0 : s₁.heap = h0 := by rw [← hh, Bd.state]; rfl
  have N0 := Fr.nil n0
  show own_G p e below (s₁.setTop (entryFrame m #[(.ref ob_554), (.ref ob_598), (.int 0)] 3)) (own_P s (own_Q6 Z ob_554 ob_598 h0 n0) 0 0)
  refine own_cast (own_ef3 m ob_554 ob_598 0) ?_
  show own_G p e below (s₁.setTop (mkF m 0 #[rv ob_554, rv ob_598, iv 0] [])) _
  refine oS (fun _ => XS.aloadN X0.here hx rfl (hb hby dd4_0) rfl rfl) ?_
  obtain ⟨T608, X609, e610, s611⟩ := initO X0 hx hZ hown (oW hw 67 rfl) (oW hw 68 rfl) (oW hw 69 rfl) e0 (g := (mkF m 1 #[rv ob_554, rv ob_598, iv 0] [(.ref ob_554)])) rfl (by rw [hml]; rfl) rfl (hb hby dd4_1) (by decide) (W := 0) (by show 2 * 0 + _ ≤ _; exact Nat.le_of_eq rfl) (by decide)
  refine oS s611 ?_
  show own_G p e below (T608.setTop (mkF m 4 #[rv ob_554, rv ob_598, iv 0] [])) _
  refine oS (fun _ => XS.aloadN X609.here hx rfl (hb hby dd4_4) rfl rfl) ?_
  refine oS (fun _ => XS.aloadN X609.here hx rfl (hb hby dd4_5) rfl rfl) ?_
  obtain ⟨T616, h617, X618, e619, W620, s621⟩ := putF X609 hx hZ hown (host := "") (Or.inl (oW hw 70 rfl)) Via.refl e610 I613 I615 (Or.inr ⟨(oW hw 71 rfl), rfl, hnm⟩) (oW hw 58 rfl) (ty := (.array .byte)) (by decide) rfl rfl (g := (mkF m 6 #[rv ob_554, rv ob_598, iv 0] [(.ref ob_598), (.ref ob_554)])) rfl rfl (hb hby dd4_6)
  have N622 := Fr.snoc X618 N0 I624
  have z625 := W620.size
  have F626 : Fld Z h617 ob_554 "java/lang/String" "value" "[B" (.ref ob_598) := Fld.same W620 I613
  refine oS s621 ?_
  show own_G p e below (T616.setTop (mkF m 9 #[rv ob_554, rv ob_598, iv 0] [])) _
  refine oS (fun _ => XS.aloadN X618.here hx rfl (hb hby dd4_9) rfl rfl) ?_
  refine oS (fun _ => XS.iloadN X618.here hx rfl (hb hby dd4_10) rfl) ?_
  have F629 : Fld Z h617 ob_554 "java/lang/String" "coder" "B" (.int 0) := Fld.other W620 I628 (Or.inr (slot_ne (C := "java/lang/String") (Or.inr (oW hw 73 rfl)) (Or.inr (oW hw 71 rfl)) (by decide) (t := .byte) (t' := (.array .byte)) (by decide) (by decide)))
  have F630 : Exa Z h617 ob_554 "java/lang/String" := Exa.wr W620 I615
  obtain ⟨T631, h632, X633, e634, W635, s636⟩ := putF X618 hx hZ hown (host := "") (Or.inl (oW hw 72 rfl)) Via.refl e619 F629 F630 (Or.inr ⟨(oW hw 73 rfl), rfl, hnm⟩) (oW hw 58 rfl) (ty := .byte) (by decide) (by decide) (by decide) (g := (mkF m 11 #[rv ob_554, rv ob_598, iv 0] [(.int 0), (.ref ob_554)])) rfl rfl (hb hby dd4_11)
  have N637 := Fr.snoc X633 N622 I624
  have z638 := W635.size
  have F639 : Fld Z h632 ob_554 "java/lang/String" "coder" "B" (.int 0) := Fld.same W635 F629
  refine oS s636 ?_
  show own_G p e below (T631.setTop (mkF m 14 #[rv ob_554, rv ob_598, iv 0] [])) _
  have F640 : Fld Z h632 ob_554 "java/lang/String" "value" "[B" (.ref ob_598) := Fld.other W635 F626 (Or.inr (slot_ne (C := "java/lang/String") (Or.inr (oW hw 71 rfl)) (Or.inr (oW hw 73 rfl)) (by decide) (t := (.array .byte)) (t' := .byte) (by decide) (by decide)))
  have F641 : Exa Z h632 ob_554 "java/lang/String" := Exa.wr W635 F630
  have K642 : Keep h0 h632 [ob_554] := (((Keep.refl h0 [ob_554]).wr W620 (Or.inl (by simp))).wr W635 (Or.inl (by simp)))
  exact own_retV X633 hx Bd.notSynchronized Bd.returns (hb hby dd4_14) e634 (by decide) (by decide) (⟨rfl, N637, K642, F640, F639, F641⟩)
theorem own_pd3 : parseMethodDescriptor "([BB)V" = some ⟨[(.array .byte), .byte], none⟩ := by decide +kernel
theorem dd1_22 : decode jdk_42_method_139_code 22 = .ok (.invokespecial 209, 3) := by decide +kernel
theorem dd1_25 : decode jdk_42_method_139_code 25 = .ok (.areturn, 1) := by decide +kernel
def own_Q3 (Z : State) (in_516 : Int32) (in_7 : Int32) (h0 : Heap) (n0 : Nat) (v : Option Value) (h : Heap) (L : List Loc) : Prop := (∃ ob_554 : Nat, ∃ ob_598 : Nat, ∃ kk_599 : ClassId, v = some (.ref ob_554) ∧ Fr n0 L ∧ Keep h0 h [] ∧ h0.size ≤ ob_554 ∧ ob_554 < ob_598 ∧ Exa Z h ob_554 "java/lang/String" ∧ Fld Z h ob_554 "java/lang/String" "value" "[B" (.ref ob_598) ∧ Fld Z h ob_554 "java/lang/String" "coder" "B" (.int 0) ∧ Arv Z h ob_598 kk_599 .byte 1 [(.int (in_516.toInt8.toInt32))] (.int 0) ∧ Exa Z h ob_598 "[B" ∧ @LT.lt Nat instLTNat ob_554 h.size ∧ @LT.lt Nat instLTNat ob_598 h.size)
theorem own_pn4 : plainFor (⟨"java/lang/String", "valueOf", "(C)Ljava/lang/String;"⟩ : MethodName) = true := by decide +kernel
set_option maxRecDepth 65536 in
set_option maxHeartbeats 40000000 in
theorem own_rm3 (l : Launch) (Z : State) (a0 : Array Value) (hw : ∀ d ∈ tables_1, d.before a0 Z = true) (ws : List Jvm.Cond) (in_516 : Int32) (in_7 : Int32) (h0 : Heap) (n0 : Nat) (Z0 : n0 ≤ h0.size) (O0 : Old Z n0 h0) (I522 : Sta Z Z.heap "java/lang/String" "COMPACT_STRINGS" "Z" (.int in_7)) (I529 : ¬ (in_7 = 0)) (I530 : ¬ (255 < in_516)) :
    own_Met l Z h0 (⟨"java/lang/String", "valueOf", "(C)Ljava/lang/String;"⟩ : MethodName) jdk_42_method_139_code 1 (Option.some (FieldType.object "java/lang/String")) ws ({ frames := 2, cells := 2, slots := 5, locals := 27 } : Room) #[(.int in_516)] (own_Q3 Z in_516 in_7 h0 n0) 2 5 := by
  refine MetFree.of_bodySF own_pn4 hisR ?_
  intro p e s m args below meth c s₁ Bd hml0 hP hK
  obtain ⟨rfl, hZ, hh⟩ := hP
  have hx := Bd.exec
  have hby := Bd.bytes
  have hml : c.maxLocals = 1 := hml0
  have hown : s.vm.findClass "java/lang/String" = some m.cls := findClass_of_methodNamed Bd.named
  have hnm := (name_of_methodNamed Bd.named Bd.method).1
  have X0 : Stand p l e ({ frames := 2, cells := 2, slots := 5, locals := 27 } : Room) s m #[(.int in_516)] below meth c s₁ [] 0 0 := Stand.of_body Bd
  have e0 : s₁.heap = h0 := by rw [← hh, Bd.state]; rfl
  have N0 := Fr.nil n0
  show own_G p e below (s₁.setTop (entryFrame m #[(.int in_516)] 1)) (own_P s (own_Q3 Z in_516 in_7 h0 n0) 2 5)
  refine own_cast (own_ef2 m in_516) ?_
  show own_G p e below (s₁.setTop (mkF m 0 #[iv in_516] [])) _
  have F523 : Sta Z h0 "java/lang/String" "COMPACT_STRINGS" "Z" (.int in_7) := Sta.ext O0.2 I522
  obtain ⟨T524, X525, e526, s527⟩ := getS X0 hx hZ hown (host := "") (oW hw 52 rfl) Via.refl e0 F523 (g := (mkF m 0 #[iv in_516] [])) rfl (hb hby dd1_0)
  refine oS s527 ?_
  show own_G p e below (T524.setTop (mkF m 3 #[iv in_516] [(.int in_7)])) _
  refine oS (fun _ => XS.ifNo X525.here hx rfl (hb hby dd1_3) rfl (XT.i0_eq_f I529)) ?_
  show own_G p e below (T524.setTop (mkF m 6 #[iv in_516] [])) _
  refine oS (fun _ => XS.iloadN X525.here hx rfl (hb hby dd1_6) rfl) ?_
  obtain ⟨T532, h533, v534, L535, X536, e537, q538, s539⟩ := own_callS X525 hx hZ hown e526 (y := (⟨"java/lang/StringLatin1", "canEncode", "(C)Z"⟩ : MethodName)) (oW hw 53 rfl) (oW hw 54 rfl) (oW hw 55 rfl) (oW hw 56 rfl) (by decide) (W := 0) (own_rm4 l Z a0 hw [] in_516 h0 n0 Z0 O0 I530) (by decide) (by decide) (by decide) (by decide) (g := (mkF m 7 #[iv in_516] [(.int in_516)])) rfl (by rw [hml]; rfl) (argsL := [(.int in_516)]) (rest := []) rfl (lenOf own_pd1 rfl) rfl (by show 2 * 0 + _ ≤ _; exact Nat.le_of_eq rfl) (hb hby dd1_7)
  refine oS s539 ?_
  obtain ⟨rfl, N540, K541⟩ := q538
  have N542 := Fr.app N0 N540
  have e543 := e537.trans K541
  show own_G p e below (T532.setTop (mkF m 10 #[iv in_516] [(.int 1)])) _
  refine oS (fun _ => XS.ifNo X536.here hx rfl (hb hby dd1_10) rfl (XT.i0_eq_f (by decide))) ?_
  show own_G p e below (T532.setTop (mkF m 13 #[iv in_516] [])) _
  obtain ⟨T544, h545, X546, e547, E548, A549, D550, U553, s551⟩ := newO X536 hx hZ hown (oW hw 57 rfl) (oW hw 58 rfl) (oW hw 50 rfl) e543 (g := (mkF m 13 #[iv in_516] [])) rfl (hb hby dd1_13) (by decide) (by decide)
  obtain ⟨ob_554, g555⟩ : ∃ z, z = h0.size := ⟨_, rfl⟩
  rw [← g555] at A549 D550 U553 s551
  have z556 := E548.1
  have y552 : @LT.lt Nat instLTNat ob_554 h545.size := A549.lt
  refine oS s551 ?_
  have F557 : Fld Z h545 ob_554 "java/lang/String" "value" "[B" .null := D550 (Or.inr (oW hw 71 rfl)) (ty := (.array .byte)) (by decide)
  have F558 : Fld Z h545 ob_554 "java/lang/String" "coder" "B" (.int 0) := D550 (Or.inr (oW hw 73 rfl)) (ty := .byte) (by decide)
  show own_G p e below (T544.setTop (mkF m 16 #[iv in_516] [(.ref ob_554)])) _
  refine oS (fun _ => XS.dup X546.here hx rfl (hb hby dd1_16) rfl rfl) ?_
  refine oS (fun _ => XS.iloadN X546.here hx rfl (hb hby dd1_17) rfl) ?_
  have O588 : Old Z n0 h545 := O0.ext E548
  have Z589 : n0 ≤ h545.size := by omega
  obtain ⟨T590, h591, v592, L593, X594, e595, q596, s597⟩ := own_callS X546 hx hZ hown e547 (y := (⟨"java/lang/StringLatin1", "toBytes", "(C)[B"⟩ : MethodName)) (oW hw 59 rfl) (oW hw 60 rfl) (oW hw 55 rfl) (oW hw 61 rfl) (by decide) (W := 2) (own_rm5 l Z a0 hw [] in_516 h545 n0 Z589 O588 ) (by decide) (by decide) (by decide) (by decide) (g := (mkF m 18 #[iv in_516] [(.int in_516), (.ref ob_554), (.ref ob_554)])) rfl (by rw [hml]; rfl) (argsL := [(.int in_516)]) (rest := [(.ref ob_554), (.ref ob_554)]) rfl (lenOf own_pd2 rfl) rfl (by show 2 * 0 + _ ≤ _; exact Nat.le_of_eq rfl) (hb hby dd1_18)
  refine oS s597 ?_
  obtain ⟨ob_598, kk_599, rfl, N600, K601, F602, F603, F604, F605⟩ := q596
  have N606 := Fr.app N542 N600
  have z607 := K601.1
  show own_G p e below (T590.setTop (mkF m 21 #[iv in_516] [(.ref ob_598), (.ref ob_554), (.ref ob_554)])) _
  refine oS (fun _ => XS.iconst X594.here hx rfl (hb hby dd1_21) ) ?_
  have F612 : Fld Z h591 ob_554 "java/lang/String" "value" "[B" .null := F557.keep K601 nin0
  have F614 : Exa Z h591 ob_554 "java/lang/String" := A549.keep K601
  have N623 : n0 ≤ ob_554 := by omega
  have F627 : Fld Z h591 ob_554 "java/lang/String" "coder" "B" (.int 0) := F558.keep K601 nin0
  have O643 : Old Z n0 h591 := O588.keep K601 all0
  have Z644 : n0 ≤ h591.size := by omega
  obtain ⟨T645, h646, v647, L648, X649, e650, q651, s652⟩ := own_callN X594 hx hZ hown e595 (y := (⟨"java/lang/String", "<init>", "([BB)V"⟩ : MethodName)) (b := ob_554) rfl (oW hw 63 rfl) (oW hw 64 rfl) (oW hw 50 rfl) (oW hw 66 rfl) (by decide) (W := 1) (own_rm6 l Z a0 hw [] ob_554 ob_598 h591 n0 Z644 O643 F612 F614 N623 F627) (by decide) (by decide) (by decide) (by decide) (g := (mkF m 22 #[iv in_516] [(.int 0), (.ref ob_598), (.ref ob_554), (.ref ob_554)])) rfl (by rw [hml]; rfl) (argsL := [(.ref ob_598), (.int 0)]) (rest := [(.ref ob_554)]) rfl (lenOf own_pd3 rfl) rfl (by show 2 * 0 + _ ≤ _; exact Nat.le_of_eq rfl) (hb hby dd1_22)
  refine oS s652 ?_
  obtain ⟨rfl, N653, K654, F655, F656, F657⟩ := q651
  have N658 := Fr.app N606 N653
  have z659 := K654.1
  show own_G p e below (T645.setTop (mkF m 25 #[iv in_516] [(.ref ob_554)])) _
  have N660 : @Ne Nat ob_598 ob_554 := by omega
  have F661 : Arv Z h646 ob_598 kk_599 .byte 1 [(.int (in_516.toInt8.toInt32))] (.int 0) := F603.keep K654 (ninS N660 nin0)
  have F662 : Exa Z h646 ob_598 "[B" := F604.keep K654
  have y663 : @LT.lt Nat instLTNat ob_554 h646.size := by omega
  have y664 : @LT.lt Nat instLTNat ob_598 h646.size := by omega
  have K665 : Keep h0 h646 [] := ((((Keep.refl h0 []).ext E548).trans K601 all0).trans K654 (allS (Or.inr (by omega)) all0))
  exact own_retA X649 hx Bd.notSynchronized Bd.returns rfl rfl (hb hby dd1_25) e650 (by decide) (by decide) (⟨ob_554, ob_598, kk_599, rfl, N658, K665, (by omega), (by omega), F657, F655, F656, F661, F662, y663, y664⟩)
theorem own_pd4 : parseMethodDescriptor "(C)Ljava/lang/String;" = some ⟨[.char], (some (.object "java/lang/String"))⟩ := by decide +kernel
theorem own_ef4 (m : MethodId) (x0 : Addr) (x1 : Addr) (x2 : Addr) (x3 : Int32) (x4 : Int32) : entryFrame m #[(.ref x0), (.ref x1), (.ref x2), (.int x3), (.int x4)] 5 = mkF m 0 #[.val (.ref x0), .val (.ref x1), .val (.ref x2), .val (.int x3), .val (.int x4)] [] := by first | (simp [entryFrame, mkF, argsToLocals, Value.category]; done) | rfl
theorem dd5_0 : decode prog_19_method_1_code 0 = .ok (.aload_n 0, 1) := by decide +kernel
theorem own_ef5 (m : MethodId) (x0 : Addr) : entryFrame m #[(.ref x0)] 1 = mkF m 0 #[.val (.ref x0)] [] := by first | (simp [entryFrame, mkF, argsToLocals, Value.category]; done) | rfl
theorem dd6_0 : decode jdk_30_method_1_code 0 = .ok (.aload_n 0, 1) := by decide +kernel
theorem dd6_1 : decode jdk_30_method_1_code 1 = .ok (.invokespecial 1, 3) := by decide +kernel
theorem dd6_4 : decode jdk_30_method_1_code 4 = .ok (.return_, 1) := by decide +kernel
def own_Q8 (Z : State) (ob_705 : Nat) (h0 : Heap) (n0 : Nat) (v : Option Value) (h : Heap) (L : List Loc) : Prop := (v = none ∧ Fr n0 L ∧ h = h0)
theorem own_pn5 : plainFor (⟨"java/lang/Record", "<init>", "()V"⟩ : MethodName) = true := by decide +kernel
set_option maxRecDepth 65536 in
set_option maxHeartbeats 40000000 in
theorem own_rm8 (l : Launch) (Z : State) (a0 : Array Value) (hw : ∀ d ∈ tables_1, d.before a0 Z = true) (ws : List Jvm.Cond) (ob_705 : Nat) (h0 : Heap) (n0 : Nat) (Z0 : n0 ≤ h0.size) (O0 : Old Z n0 h0)  :
    own_Met l Z h0 (⟨"java/lang/Record", "<init>", "()V"⟩ : MethodName) jdk_30_method_1_code 1 (Option.none : Option FieldType) ws ({ frames := 1, cells := 0, slots := 0, locals := 12 } : Room) #[(.ref ob_705)] (own_Q8 Z ob_705 h0 n0) 0 0 := by
  refine MetFree.of_bodySF own_pn5 hisR ?_
  intro p e s m args below meth c s₁ Bd hml0 hP hK
  obtain ⟨rfl, hZ, hh⟩ := hP
  have hx := Bd.exec
  have hby := Bd.bytes
  have hml : c.maxLocals = 1 := hml0
  have hown : s.vm.findClass "java/lang/Record" = some m.cls := findClass_of_methodNamed Bd.named
  have hnm := (name_of_methodNamed Bd.named Bd.method).1
  have X0 : Stand p l e ({ frames := 1, cells := 0, slots := 0, locals := 12 } : Room) s m #[(.ref ob_705)] below meth c s₁ [] 0 0 := Stand.of_body Bd
  have e0 : s₁.heap = h0 := by rw [← hh, Bd.state]; rfl
  have N0 := Fr.nil n0
  show own_G p e below (s₁.setTop (entryFrame m #[(.ref ob_705)] 1)) (own_P s (own_Q8 Z ob_705 h0 n0) 0 0)
  refine own_cast (own_ef5 m ob_705) ?_
  show own_G p e below (s₁.setTop (mkF m 0 #[rv ob_705] [])) _
  refine oS (fun _ => XS.aloadN X0.here hx rfl (hb hby dd6_0) rfl rfl) ?_
  obtain ⟨T740, X741, e742, s743⟩ := initO X0 hx hZ hown (oW hw 85 rfl) (oW hw 68 rfl) (oW hw 69 rfl) e0 (g := (mkF m 1 #[rv ob_705] [(.ref ob_705)])) rfl (by rw [hml]; rfl) rfl (hb hby dd6_1) (by decide) (W := 0) (by show 2 * 0 + _ ≤ _; exact Nat.le_of_eq rfl) (by decide)
  refine oS s743 ?_
  show own_G p e below (T740.setTop (mkF m 4 #[rv ob_705] [])) _
  exact own_retV X741 hx Bd.notSynchronized Bd.returns (hb hby dd6_4) e742 (by decide) (by decide) (⟨rfl, N0, rfl⟩)
theorem own_pd5 : parseMethodDescriptor "()V" = some ⟨[], none⟩ := by decide +kernel
theorem dd5_1 : decode prog_19_method_1_code 1 = .ok (.invokespecial 1, 3) := by decide +kernel
theorem dd5_4 : decode prog_19_method_1_code 4 = .ok (.aload_n 0, 1) := by decide +kernel
theorem dd5_5 : decode prog_19_method_1_code 5 = .ok (.aload_n 1, 1) := by decide +kernel
theorem dd5_6 : decode prog_19_method_1_code 6 = .ok (.putfield 7, 3) := by decide +kernel
theorem dd5_9 : decode prog_19_method_1_code 9 = .ok (.aload_n 0, 1) := by decide +kernel
theorem dd5_10 : decode prog_19_method_1_code 10 = .ok (.aload_n 2, 1) := by decide +kernel
theorem dd5_11 : decode prog_19_method_1_code 11 = .ok (.putfield 13, 3) := by decide +kernel
theorem dd5_14 : decode prog_19_method_1_code 14 = .ok (.aload_n 0, 1) := by decide +kernel
theorem dd5_15 : decode prog_19_method_1_code 15 = .ok (.iload_n 3, 1) := by decide +kernel
theorem dd5_16 : decode prog_19_method_1_code 16 = .ok (.putfield 17, 3) := by decide +kernel
theorem dd5_19 : decode prog_19_method_1_code 19 = .ok (.aload_n 0, 1) := by decide +kernel
theorem dd5_20 : decode prog_19_method_1_code 20 = .ok (.iload 4, 2) := by decide +kernel
theorem dd5_22 : decode prog_19_method_1_code 22 = .ok (.putfield 21, 3) := by decide +kernel
theorem dd5_25 : decode prog_19_method_1_code 25 = .ok (.return_, 1) := by decide +kernel
def own_Q7 (Z : State) (ob_705 : Nat) (ob_737 : Nat) (ob_679 : Nat) (in_4 : Int32) (in_5 : Int32) (h0 : Heap) (n0 : Nat) (v : Option Value) (h : Heap) (L : List Loc) : Prop := (v = none ∧ Fr n0 L ∧ Keep h0 h [ob_705] ∧ Fld Z h ob_705 "com/example/tuplewise/tuplewise/lang/Token" "kind" "Lcom/example/tuplewise/tuplewise/lang/Token$Kind;" (.ref ob_737) ∧ Fld Z h ob_705 "com/example/tuplewise/tuplewise/lang/Token" "text" "Ljava/lang/String;" (.ref ob_679) ∧ Exa Z h ob_705 "com/example/tuplewise/tuplewise/lang/Token" ∧ Fld Z h ob_705 "com/example/tuplewise/tuplewise/lang/Token" "line" "I" (.int in_4) ∧ Fld Z h ob_705 "com/example/tuplewise/tuplewise/lang/Token" "column" "I" (.int in_5))
theorem own_pn6 : plainFor (⟨"com/example/tuplewise/tuplewise/lang/Token", "<init>", "(Lcom/example/tuplewise/tuplewise/lang/Token$Kind;Ljava/lang/String;II)V"⟩ : MethodName) = true := by decide +kernel
set_option maxRecDepth 65536 in
set_option maxHeartbeats 40000000 in
theorem own_rm7 (l : Launch) (Z : State) (a0 : Array Value) (hw : ∀ d ∈ tables_1, d.before a0 Z = true) (ws : List Jvm.Cond) (ob_705 : Nat) (ob_737 : Nat) (ob_679 : Nat) (in_4 : Int32) (in_5 : Int32) (h0 : Heap) (n0 : Nat) (Z0 : n0 ≤ h0.size) (O0 : Old Z n0 h0) (I756 : Fld Z h0 ob_705 "com/example/tuplewise/tuplewise/lang/Token" "kind" "Lcom/example/tuplewise/tuplewise/lang/Token$Kind;" .null) (I757 : Exa Z h0 ob_705 "com/example/tuplewise/tuplewise/lang/Token") (I766 : n0 ≤ ob_705) (I769 : Fld Z h0 ob_705 "com/example/tuplewise/tuplewise/lang/Token" "text" "Ljava/lang/String;" .null) (I781 : Fld Z h0 ob_705 "com/example/tuplewise/tuplewise/lang/Token" "line" "I" (.int 0)) (I794 : Fld Z h0 ob_705 "com/example/tuplewise/tuplewise/lang/Token" "column" "I" (.int 0)) :
    own_Met l Z h0 (⟨"com/example/tuplewise/tuplewise/lang/Token", "<init>", "(Lcom/example/tuplewise/tuplewise/lang/Token$Kind;Ljava/lang/String;II)V"⟩ : MethodName) prog_19_method_1_code 5 (Option.none : Option FieldType) ws ({ frames := 2, cells := 0, slots := 0, locals := 24 } : Room) #[(.ref ob_705), (.ref ob_737), (.ref ob_679), (.int in_4), (.int in_5)] (own_Q7 Z ob_705 ob_737 ob_679 in_4 in_5 h0 n0) 0 0 := by
  refine MetFree.of_bodySF own_pn6 hisR ?_
  intro p e s m args below meth c s₁ Bd hml0 hP hK
  obtain ⟨rfl, hZ, hh⟩ := hP
  have hx := Bd.exec
  have hby := Bd.bytes
  have hml : c.maxLocals = 5 := hml0
  have hown : s.vm.findClass "com/example/tuplewise/tuplewise/lang/Token" = some m.cls := findClass_of_methodNamed Bd.named
  have hnm := (name_of_methodNamed Bd.named Bd.method).1
  have X0 : Stand p l e ({ frames := 2, cells := 0, slots := 0, locals := 24 } : Room) s m #[(.ref ob_705), (.ref ob_737), (.ref ob_679), (.int in_4), (.int in_5)] below meth c s₁ [] 0 0 := Stand.of_body Bd
  have e0 : s₁.heap = h0 := by rw [← hh, Bd.state]; rfl
  have N0 := Fr.nil n0
  show own_G p e below (s₁.setTop (entryFrame m #[(.ref ob_705), (.ref ob_737), (.ref ob_679), (.int in_4), (.int in_5)] 5)) (own_P s (own_Q7 Z ob_705 ob_737 ob_679 in_4 in_5 h0 n0) 0 0)
  refine own_cast (own_ef4 m ob_705 ob_737 ob_679 in_4 in_5) ?_
  show own_G p e below (s₁.setTop (mkF m 0 #[rv ob_705, rv ob_737, rv ob_679, iv in_4, iv in_5] [])) _
  refine oS (fun _ => XS.aloadN X0.here hx rfl (hb hby dd5_0) rfl rfl) ?_
  obtain ⟨T744, h745, v746, L747, X748, e749, q750, s751⟩ := own_callN X0 hx hZ hown e0 (y := (⟨"java/lang/Record", "<init>", "()V"⟩ : MethodName)) (b := ob_705) rfl (oW hw 80 rfl) (oW hw 81 rfl) (oW hw 83 rfl) (oW hw 84 rfl) (by decide) (W := 0) (own_rm8 l Z a0 hw [] ob_705 h0 n0 Z0 O0 ) (by decide) (by decide) (by decide) (by decide) (g := (mkF m 1 #[rv ob_705, rv ob_737, rv ob_679, iv in_4, iv in_5] [(.ref ob_705)])) rfl (by rw [hml]; rfl) (argsL := []) (rest := []) rfl (lenOf own_pd5 rfl) rfl (by show 2 * 0 + _ ≤ _; exact Nat.le_of_eq rfl) (hb hby dd5_1)
  refine oS s751 ?_
  obtain ⟨rfl, N752, K753⟩ := q750
  have N754 := Fr.app N0 N752
  have e755 := e749.trans K753
  show own_G p e below (T744.setTop (mkF m 4 #[rv ob_705, rv ob_737, rv ob_679, iv in_4, iv in_5] [])) _
  refine oS (fun _ => XS.aloadN X748.here hx rfl (hb hby dd5_4) rfl rfl) ?_
  refine oS (fun _ => XS.aloadN X748.here hx rfl (hb hby dd5_5) rfl rfl) ?_
  obtain ⟨T758, h759, X760, e761, W762, s763⟩ := putF X748 hx hZ hown (host := "") (Or.inl (oW hw 86 rfl)) Via.refl e755 I756 I757 (Or.inr ⟨(oW hw 87 rfl), rfl, hnm⟩) (oW hw 75 rfl) (ty := (.object "com/example/tuplewise/tuplewise/lang/Token$Kind")) (by decide) rfl rfl (g := (mkF m 6 #[rv ob_705, rv ob_737, rv ob_679, iv in_4, iv in_5] [(.ref ob_737), (.ref ob_705)])) rfl rfl (hb hby dd5_6)
  have N764 := Fr.snoc X760 N754 I766
  have z767 := W762.size
  have F768 : Fld Z h759 ob_705 "com/example/tuplewise/tuplewise/lang/Token" "kind" "Lcom/example/tuplewise/tuplewise/lang/Token$Kind;" (.ref ob_737) := Fld.same W762 I756
  refine oS s763 ?_
  show own_G p e below (T758.setTop (mkF m 9 #[rv ob_705, rv ob_737, rv ob_679, iv in_4, iv in_5] [])) _
  refine oS (fun _ => XS.aloadN X760.here hx rfl (hb hby dd5_9) rfl rfl) ?_
  refine oS (fun _ => XS.aloadN X760.here hx rfl (hb hby dd5_10) rfl rfl) ?_
  have F770 : Fld Z h759 ob_705 "com/example/tuplewise/tuplewise/lang/Token" "text" "Ljava/lang/String;" .null := Fld.other W762 I769 (Or.inr (slot_ne (C := "com/example/tuplewise/tuplewise/lang/Token") (Or.inr (oW hw 89 rfl)) (Or.inr (oW hw 87 rfl)) (by decide) (t := (.object "java/lang/String")) (t' := (.object "com/example/tuplewise/tuplewise/lang/Token$Kind")) (by decide) (by decide)))
  have F771 : Exa Z h759 ob_705 "com/example/tuplewise/tuplewise/lang/Token" := Exa.wr W762 I757
  obtain ⟨T772, h773, X774, e775, W776, s777⟩ := putF X760 hx hZ hown (host := "") (Or.inl (oW hw 88 rfl)) Via.refl e761 F770 F771 (Or.inr ⟨(oW hw 89 rfl), rfl, hnm⟩) (oW hw 75 rfl) (ty := (.object "java/lang/String")) (by decide) rfl rfl (g := (mkF m 11 #[rv ob_705, rv ob_737, rv ob_679, iv in_4, iv in_5] [(.ref ob_679), (.ref ob_705)])) rfl rfl (hb hby dd5_11)
  have N778 := Fr.snoc X774 N764 I766
  have z779 := W776.size
  have F780 : Fld Z h773 ob_705 "com/example/tuplewise/tuplewise/lang/Token" "text" "Ljava/lang/String;" (.ref ob_679) := Fld.same W776 F770
  refine oS s777 ?_
  show own_G p e below (T772.setTop (mkF m 14 #[rv ob_705, rv ob_737, rv ob_679, iv in_4, iv in_5] [])) _
  refine oS (fun _ => XS.aloadN X774.here hx rfl (hb hby dd5_14) rfl rfl) ?_
  refine oS (fun _ => XS.iloadN X774.here hx rfl (hb hby dd5_15) rfl) ?_
  have F782 : Fld Z h759 ob_705 "com/example/tuplewise/tuplewise/lang/Token" "line" "I" (.int 0) := Fld.other W762 I781 (Or.inr (slot_ne (C := "com/example/tuplewise/tuplewise/lang/Token") (Or.inr (oW hw 91 rfl)) (Or.inr (oW hw 87 rfl)) (by decide) (t := .int) (t' := (.object "com/example/tuplewise/tuplewise/lang/Token$Kind")) (by decide) (by decide)))
  have F783 : Fld Z h773 ob_705 "com/example/tuplewise/tuplewise/lang/Token" "line" "I" (.int 0) := Fld.other W776 F782 (Or.inr (slot_ne (C := "com/example/tuplewise/tuplewise/lang/Token") (Or.inr (oW hw 91 rfl)) (Or.inr (oW hw 89 rfl)) (by decide) (t := .int) (t' := (.object "java/lang/String")) (by decide) (by decide)))
  have F784 : Exa Z h773 ob_705 "com/example/tuplewise/tuplewise/lang/Token" := Exa.wr W776 F771
  obtain ⟨T785, h786, X787, e788, W789, s790⟩ := putF X774 hx hZ hown (host := "") (Or.inl (oW hw 90 rfl)) Via.refl e775 F783 F784 (Or.inr ⟨(oW hw 91 rfl), rfl, hnm⟩) (oW hw 75 rfl) (ty := .int) (by decide) rfl rfl (g := (mkF m 16 #[rv ob_705, rv ob_737, rv ob_679, iv in_4, iv in_5] [(.int in_4), (.ref ob_705)])) rfl rfl (hb hby dd5_16)
  have N791 := Fr.snoc X787 N778 I766
  have z792 := W789.size
  have F793 : Fld Z h786 ob_705 "com/example/tuplewise/tuplewise/lang/Token" "line" "I" (.int in_4) := Fld.same W789 F783
  refine oS s790 ?_
  show own_G p e below (T785.setTop (mkF m 19 #[rv ob_705, rv ob_737, rv ob_679, iv in_4, iv in_5] [])) _
  refine oS (fun _ => XS.aloadN X787.here hx rfl (hb hby dd5_19) rfl rfl) ?_
  refine oS (fun _ => XS.iload X787.here hx rfl (hb hby dd5_20) rfl) ?_
  have F795 : Fld Z h759 ob_705 "com/example/tuplewise/tuplewise/lang/Token" "column" "I" (.int 0) := Fld.other W762 I794 (Or.inr (slot_ne (C := "com/example/tuplewise/tuplewise/lang/Token") (Or.inr (oW hw 93 rfl)) (Or.inr (oW hw 87 rfl)) (by decide) (t := .int) (t' := (.object "com/example/tuplewise/tuplewise/lang/Token$Kind")) (by decide) (by decide)))
  have F796 : Fld Z h773 ob_705 "com/example/tuplewise/tuplewise/lang/Token" "column" "I" (.int 0) := Fld.other W776 F795 (Or.inr (slot_ne (C := "com/example/tuplewise/tuplewise/lang/Token") (Or.inr (oW hw 93 rfl)) (Or.inr (oW hw 89 rfl)) (by decide) (t := .int) (t' := (.object "java/lang/String")) (by decide) (by decide)))
  have F797 : Fld Z h786 ob_705 "com/example/tuplewise/tuplewise/lang/Token" "column" "I" (.int 0) := Fld.other W789 F796 (Or.inr (slot_ne (C := "com/example/tuplewise/tuplewise/lang/Token") (Or.inr (oW hw 93 rfl)) (Or.inr (oW hw 91 rfl)) (by decide) (t := .int) (t' := .int) (by decide) (by decide)))
  have F798 : Exa Z h786 ob_705 "com/example/tuplewise/tuplewise/lang/Token" := Exa.wr W789 F784
  obtain ⟨T799, h800, X801, e802, W803, s804⟩ := putF X787 hx hZ hown (host := "") (Or.inl (oW hw 92 rfl)) Via.refl e788 F797 F798 (Or.inr ⟨(oW hw 93 rfl), rfl, hnm⟩) (oW hw 75 rfl) (ty := .int) (by decide) rfl rfl (g := (mkF m 22 #[rv ob_705, rv ob_737, rv ob_679, iv in_4, iv in_5] [(.int in_5), (.ref ob_705)])) rfl rfl (hb hby dd5_22)
  have N805 := Fr.snoc X801 N791 I766
  have z806 := W803.size
  have F807 : Fld Z h800 ob_705 "com/example/tuplewise/tuplewise/lang/Token" "column" "I" (.int in_5) := Fld.same W803 F797
  refine oS s804 ?_
  show own_G p e below (T799.setTop (mkF m 25 #[rv ob_705, rv ob_737, rv ob_679, iv in_4, iv in_5] [])) _
  have F808 : Fld Z h773 ob_705 "com/example/tuplewise/tuplewise/lang/Token" "kind" "Lcom/example/tuplewise/tuplewise/lang/Token$Kind;" (.ref ob_737) := Fld.other W776 F768 (Or.inr (slot_ne (C := "com/example/tuplewise/tuplewise/lang/Token") (Or.inr (oW hw 87 rfl)) (Or.inr (oW hw 89 rfl)) (by decide) (t := (.object "com/example/tuplewise/tuplewise/lang/Token$Kind")) (t' := (.object "java/lang/String")) (by decide) (by decide)))
  have F809 : Fld Z h786 ob_705 "com/example/tuplewise/tuplewise/lang/Token" "kind" "Lcom/example/tuplewise/tuplewise/lang/Token$Kind;" (.ref ob_737) := Fld.other W789 F808 (Or.inr (slot_ne (C := "com/example/tuplewise/tuplewise/lang/Token") (Or.inr (oW hw 87 rfl)) (Or.inr (oW hw 91 rfl)) (by decide) (t := (.object "com/example/tuplewise/tuplewise/lang/Token$Kind")) (t' := .int) (by decide) (by decide)))
  have F810 : Fld Z h800 ob_705 "com/example/tuplewise/tuplewise/lang/Token" "kind" "Lcom/example/tuplewise/tuplewise/lang/Token$Kind;" (.ref ob_737) := Fld.other W803 F809 (Or.inr (slot_ne (C := "com/example/tuplewise/tuplewise/lang/Token") (Or.inr (oW hw 87 rfl)) (Or.inr (oW hw 93 rfl)) (by decide) (t := (.object "com/example/tuplewise/tuplewise/lang/Token$Kind")) (t' := .int) (by decide) (by decide)))
  have F811 : Fld Z h786 ob_705 "com/example/tuplewise/tuplewise/lang/Token" "text" "Ljava/lang/String;" (.ref ob_679) := Fld.other W789 F780 (Or.inr (slot_ne (C := "com/example/tuplewise/tuplewise/lang/Token") (Or.inr (oW hw 89 rfl)) (Or.inr (oW hw 91 rfl)) (by decide) (t := (.object "java/lang/String")) (t' := .int) (by decide) (by decide)))
  have F812 : Fld Z h800 ob_705 "com/example/tuplewise/tuplewise/lang/Token" "text" "Ljava/lang/String;" (.ref ob_679) := Fld.other W803 F811 (Or.inr (slot_ne (C := "com/example/tuplewise/tuplewise/lang/Token") (Or.inr (oW hw 89 rfl)) (Or.inr (oW hw 93 rfl)) (by decide) (t := (.object "java/lang/String")) (t' := .int) (by decide) (by decide)))
  have F813 : Exa Z h800 ob_705 "com/example/tuplewise/tuplewise/lang/Token" := Exa.wr W803 F798
  have F814 : Fld Z h800 ob_705 "com/example/tuplewise/tuplewise/lang/Token" "line" "I" (.int in_4) := Fld.other W803 F793 (Or.inr (slot_ne (C := "com/example/tuplewise/tuplewise/lang/Token") (Or.inr (oW hw 91 rfl)) (Or.inr (oW hw 93 rfl)) (by decide) (t := .int) (t' := .int) (by decide) (by decide)))
  have K815 : Keep h0 h800 [ob_705] := (((((Keep.refl h0 [ob_705]).wr W762 (Or.inl (by simp))).wr W776 (Or.inl (by simp))).wr W789 (Or.inl (by simp))).wr W803 (Or.inl (by simp)))
  exact own_retV X801 hx Bd.notSynchronized Bd.returns (hb hby dd5_25) e802 (by decide) (by decide) (⟨rfl, N805, K815, F810, F812, F813, F814, F807⟩)
theorem own_pd6 : parseMethodDescriptor "(Lcom/example/tuplewise/tuplewise/lang/Token$Kind;Ljava/lang/String;II)V" = some ⟨[(.object "com/example/tuplewise/tuplewise/lang/Token$Kind"), (.object "java/lang/String"), .int, .int], none⟩ := by decide +kernel
theorem own_ef6 (m : MethodId) (x0 : Addr) (x1 : Addr) : entryFrame m #[(.ref x0), (.ref x1)] 2 = mkF m 0 #[.val (.ref x0), .val (.ref x1)] [] := by first | (simp [entryFrame, mkF, argsToLocals, Value.category]; done) | rfl
theorem dd7_0 : decode prog_19_method_2_code 0 = .ok (.aload_n 0, 1) := by decide +kernel
theorem dd7_1 : decode prog_19_method_2_code 1 = .ok (.getfield 7, 3) := by decide +kernel
theorem dd7_4 : decode prog_19_method_2_code 4 = .ok (.aload_n 1, 1) := by decide +kernel
theorem dd7_5 : decode prog_19_method_2_code 5 = .ok (.if_acmp .ne 7, 3) := by decide +kernel
theorem dd7_8 : decode prog_19_method_2_code 8 = .ok (.iconst 1, 1) := by decide +kernel
theorem dd7_9 : decode prog_19_method_2_code 9 = .ok (.goto 4, 3) := by decide +kernel
theorem dd7_13 : decode prog_19_method_2_code 13 = .ok (.ireturn, 1) := by decide +kernel
def own_Q9 (Z : State) (ob_705 : Nat) (ob_737 : Nat) (h0 : Heap) (n0 : Nat) (v : Option Value) (h : Heap) (L : List Loc) : Prop := (v = some (.int 1) ∧ Fr n0 L ∧ h = h0)
theorem own_pn7 : plainFor (⟨"com/example/tuplewise/tuplewise/lang/Token", "is", "(Lcom/example/tuplewise/tuplewise/lang/Token$Kind;)Z"⟩ : MethodName) = true := by decide +kernel
set_option maxRecDepth 65536 in
set_option maxHeartbeats 40000000 in
theorem own_rm9 (l : Launch) (Z : State) (a0 : Array Value) (hw : ∀ d ∈ tables_1, d.before a0 Z = true) (ws : List Jvm.Cond) (ob_705 : Nat) (ob_737 : Nat) (h0 : Heap) (n0 : Nat) (Z0 : n0 ≤ h0.size) (O0 : Old Z n0 h0) (I840 : Fld Z h0 ob_705 "com/example/tuplewise/tuplewise/lang/Token" "kind" "Lcom/example/tuplewise/tuplewise/lang/Token$Kind;" (.ref ob_737)) :
    own_Met l Z h0 (⟨"com/example/tuplewise/tuplewise/lang/Token", "is", "(Lcom/example/tuplewise/tuplewise/lang/Token$Kind;)Z"⟩ : MethodName) prog_19_method_2_code 2 (Option.some FieldType.boolean) ws ({ frames := 0, cells := 0, slots := 0, locals := 0 } : Room) #[(.ref ob_705), (.ref ob_737)] (own_Q9 Z ob_705 ob_737 h0 n0) 0 0 := by
  refine MetFree.of_bodySF own_pn7 hisR ?_
  intro p e s m args below meth c s₁ Bd hml0 hP hK
  obtain ⟨rfl, hZ, hh⟩ := hP
  have hx := Bd.exec
  have hby := Bd.bytes
  have hml : c.maxLocals = 2 := hml0
  have hown : s.vm.findClass "com/example/tuplewise/tuplewise/lang/Token" = some m.cls := findClass_of_methodNamed Bd.named
  have hnm := (name_of_methodNamed Bd.named Bd.method).1
  have X0 : Stand p l e ({ frames := 0, cells := 0, slots := 0, locals := 0 } : Room) s m #[(.ref ob_705), (.ref ob_737)] below meth c s₁ [] 0 0 := Stand.of_body Bd
  have e0 : s₁.heap = h0 := by rw [← hh, Bd.state]; rfl
  have N0 := Fr.nil n0
  show own_G p e below (s₁.setTop (entryFrame m #[(.ref ob_705), (.ref ob_737)] 2)) (own_P s (own_Q9 Z ob_705 ob_737 h0 n0) 0 0)
  refine own_cast (own_ef6 m ob_705 ob_737) ?_
  show own_G p e below (s₁.setTop (mkF m 0 #[rv ob_705, rv ob_737] [])) _
  refine oS (fun _ => XS.aloadN X0.here hx rfl (hb hby dd7_0) rfl rfl) ?_
  obtain ⟨T841, X842, e843, s844⟩ := getF X0 hx hZ hown (host := "") (Or.inl (oW hw 86 rfl)) Via.refl e0 I840 (g := (mkF m 1 #[rv ob_705, rv ob_737] [(.ref ob_705)])) rfl rfl (hb hby dd7_1)
  refine oS s844 ?_
  show own_G p e below (T841.setTop (mkF m 4 #[rv ob_705, rv ob_737] [(.ref ob_737)])) _
  refine oS (fun _ => XS.aloadN X842.here hx rfl (hb hby dd7_4) rfl rfl) ?_
  refine oS (fun _ => XT.acmpNo X842.here hx rfl (hb hby dd7_5) rfl rfl rfl (XT.aa_ne_f rfl)) ?_
  show own_G p e below (T841.setTop (mkF m 8 #[rv ob_705, rv ob_737] [])) _
  refine oS (fun _ => XS.iconst X842.here hx rfl (hb hby dd7_8) ) ?_
  refine oS (fun _ => XS.goto X842.here hx rfl (pc0 := 9) (pc' := 13) rfl (hb hby dd7_9) (by decide) (by decide)) ?_
  show own_G p e below (T841.setTop (mkF m 13 #[rv ob_705, rv ob_737] [(.int 1)])) _
  exact own_retN X842 hx (t := .boolean) Bd.notSynchronized Bd.returns (by simp) (hb hby dd7_13) (by decide) e843 (by decide) (by decide) (⟨rfl, N0, rfl⟩)
theorem own_pd7 : parseMethodDescriptor "(Lcom/example/tuplewise/tuplewise/lang/Token$Kind;)Z" = some ⟨[(.object "com/example/tuplewise/tuplewise/lang/Token$Kind")], (some .boolean)⟩ := by decide +kernel
theorem dd7_12 : decode prog_19_method_2_code 12 = .ok (.iconst 0, 1) := by decide +kernel
def own_Q10 (Z : State) (ob_705 : Nat) (ob_862 : Nat) (ob_737 : Nat) (h0 : Heap) (n0 : Nat) (v : Option Value) (h : Heap) (L : List Loc) : Prop := (v = some (.int 0) ∧ Fr n0 L ∧ h = h0)
set_option maxRecDepth 65536 in
set_option maxHeartbeats 40000000 in
theorem own_rm10 (l : Launch) (Z : State) (a0 : Array Value) (hw : ∀ d ∈ tables_1, d.before a0 Z = true) (ws : List Jvm.Cond) (ob_705 : Nat) (ob_862 : Nat) (ob_737 : Nat) (h0 : Heap) (n0 : Nat) (Z0 : n0 ≤ h0.size) (O0 : Old Z n0 h0) (I866 : Fld Z h0 ob_705 "com/example/tuplewise/tuplewise/lang/Token" "kind" "Lcom/example/tuplewise/tuplewise/lang/Token$Kind;" (.ref ob_737)) (I871 : @Ne Nat ob_737 ob_862) :
    own_Met l Z h0 (⟨"com/example/tuplewise/tuplewise/lang/Token", "is", "(Lcom/example/tuplewise/tuplewise/lang/Token$Kind;)Z"⟩ : MethodName) prog_19_method_2_code 2 (Option.some FieldType.boolean) ws ({ frames := 0, cells := 0, slots := 0, locals := 0 } : Room) #[(.ref ob_705), (.ref ob_862)] (own_Q10 Z ob_705 ob_862 ob_737 h0 n0) 0 0 := by
  refine MetFree.of_bodySF own_pn7 hisR ?_
  intro p e s m args below meth c s₁ Bd hml0 hP hK
  obtain ⟨rfl, hZ, hh⟩ := hP
  have hx := Bd.exec
  have hby := Bd.bytes
  have hml : c.maxLocals = 2 := hml0
  have hown : s.vm.findClass "com/example/tuplewise/tuplewise/lang/Token" = some m.cls := findClass_of_methodNamed Bd.named
  have hnm := (name_of_methodNamed Bd.named Bd.method).1
  have X0 : Stand p l e ({ frames := 0, cells := 0, slots := 0, locals := 0 } : Room) s m #[(.ref ob_705), (.ref ob_862)] below meth c s₁ [] 0 0 := Stand.of_body Bd
  have e0 : s₁.heap = h0 := by rw [← hh, Bd.state]; rfl
  have N0 := Fr.nil n0
  show own_G p e below (s₁.setTop (entryFrame m #[(.ref ob_705), (.ref ob_862)] 2)) (own_P s (own_Q10 Z ob_705 ob_862 ob_737 h0 n0) 0 0)
  refine own_cast (own_ef6 m ob_705 ob_862) ?_
  show own_G p e below (s₁.setTop (mkF m 0 #[rv ob_705, rv ob_862] [])) _
  refine oS (fun _ => XS.aloadN X0.here hx rfl (hb hby dd7_0) rfl rfl) ?_
  obtain ⟨T867, X868, e869, s870⟩ := getF X0 hx hZ hown (host := "") (Or.inl (oW hw 86 rfl)) Via.refl e0 I866 (g := (mkF m 1 #[rv ob_705, rv ob_862] [(.ref ob_705)])) rfl rfl (hb hby dd7_1)
  refine oS s870 ?_
  show own_G p e below (T867.setTop (mkF m 4 #[rv ob_705, rv ob_862] [(.ref ob_737)])) _
  refine oS (fun _ => XS.aloadN X868.here hx rfl (hb hby dd7_4) rfl rfl) ?_
  refine oS (fun _ => XT.acmpYes X868.here hx rfl (pc0 := 5) (pc' := 12) rfl (hb hby dd7_5) rfl rfl rfl (XT.aa_ne_t (own_rne I871)) (by decide) (by decide)) ?_
  show own_G p e below (T867.setTop (mkF m 12 #[rv ob_705, rv ob_862] [])) _
  refine oS (fun _ => XS.iconst X868.here hx rfl (hb hby dd7_12) ) ?_
  exact own_retN X868 hx (t := .boolean) Bd.notSynchronized Bd.returns (by simp) (hb hby dd7_13) (by decide) e869 (by decide) (by decide) (⟨rfl, N0, rfl⟩)
theorem own_ef7 (m : MethodId) (x0 : Addr) : entryFrame m #[(.ref x0), .null] 2 = mkF m 0 #[.val (.ref x0), .val .null] [] := by first | (simp [entryFrame, mkF, argsToLocals, Value.category]; done) | rfl
def own_Q11 (Z : State) (ob_705 : Nat) (ob_737 : Nat) (h0 : Heap) (n0 : Nat) (v : Option Value) (h : Heap) (L : List Loc) : Prop := (v = some (.int 0) ∧ Fr n0 L ∧ h = h0)
set_option maxRecDepth 65536 in
set_option maxHeartbeats 40000000 in
theorem own_rm11 (l : Launch) (Z : State) (a0 : Array Value) (hw : ∀ d ∈ tables_1, d.before a0 Z = true) (ws : List Jvm.Cond) (ob_705 : Nat) (ob_737 : Nat) (h0 : Heap) (n0 : Nat) (Z0 : n0 ≤ h0.size) (O0 : Old Z n0 h0) (I887 : Fld Z h0 ob_705 "com/example/tuplewise/tuplewise/lang/Token" "kind" "Lcom/example/tuplewise/tuplewise/lang/Token$Kind;" (.ref ob_737)) :
    own_Met l Z h0 (⟨"com/example/tuplewise/tuplewise/lang/Token", "is", "(Lcom/example/tuplewise/tuplewise/lang/Token$Kind;)Z"⟩ : MethodName) prog_19_method_2_code 2 (Option.some FieldType.boolean) ws ({ frames := 0, cells := 0, slots := 0, locals := 0 } : Room) #[(.ref ob_705), .null] (own_Q11 Z ob_705 ob_737 h0 n0) 0 0 := by
  refine MetFree.of_bodySF own_pn7 hisR ?_
  intro p e s m args below meth c s₁ Bd hml0 hP hK
  obtain ⟨rfl, hZ, hh⟩ := hP
  have hx := Bd.exec
  have hby := Bd.bytes
  have hml : c.maxLocals = 2 := hml0
  have hown : s.vm.findClass "com/example/tuplewise/tuplewise/lang/Token" = some m.cls := findClass_of_methodNamed Bd.named
  have hnm := (name_of_methodNamed Bd.named Bd.method).1
  have X0 : Stand p l e ({ frames := 0, cells := 0, slots := 0, locals := 0 } : Room) s m #[(.ref ob_705), .null] below meth c s₁ [] 0 0 := Stand.of_body Bd
  have e0 : s₁.heap = h0 := by rw [← hh, Bd.state]; rfl
  have N0 := Fr.nil n0
  show own_G p e below (s₁.setTop (entryFrame m #[(.ref ob_705), .null] 2)) (own_P s (own_Q11 Z ob_705 ob_737 h0 n0) 0 0)
  refine own_cast (own_ef7 m ob_705) ?_
  show own_G p e below (s₁.setTop (mkF m 0 #[rv ob_705, .val .null] [])) _
  refine oS (fun _ => XS.aloadN X0.here hx rfl (hb hby dd7_0) rfl rfl) ?_
  obtain ⟨T888, X889, e890, s891⟩ := getF X0 hx hZ hown (host := "") (Or.inl (oW hw 86 rfl)) Via.refl e0 I887 (g := (mkF m 1 #[rv ob_705, .val .null] [(.ref ob_705)])) rfl rfl (hb hby dd7_1)
  refine oS s891 ?_
  show own_G p e below (T888.setTop (mkF m 4 #[rv ob_705, .val .null] [(.ref ob_737)])) _
  refine oS (fun _ => XS.aloadN X889.here hx rfl (hb hby dd7_4) rfl rfl) ?_
  refine oS (fun _ => XT.acmpYes X889.here hx rfl (pc0 := 5) (pc' := 12) rfl (hb hby dd7_5) rfl rfl rfl (XT.aa_ne_t (fun q => by cases q)) (by decide) (by decide)) ?_
  show own_G p e below (T888.setTop (mkF m 12 #[rv ob_705, .val .null] [])) _
  refine oS (fun _ => XS.iconst X889.here hx rfl (hb hby dd7_12) ) ?_
  exact own_retN X889 hx (t := .boolean) Bd.notSynchronized Bd.returns (by simp) (hb hby dd7_13) (by decide) e890 (by decide) (by decide) (⟨rfl, N0, rfl⟩)
theorem dd8_0 : decode jdk_42_method_3_code 0 = .ok (.aload_n 0, 1) := by decide +kernel
theorem dd8_1 : decode jdk_42_method_3_code 1 = .ok (.aload_n 1, 1) := by decide +kernel
theorem dd8_2 : decode jdk_42_method_3_code 2 = .ok (.iconst 0, 1) := by decide +kernel
theorem dd8_3 : decode jdk_42_method_3_code 3 = .ok (.aload_n 1, 1) := by decide +kernel
theorem dd8_4 : decode jdk_42_method_3_code 4 = .ok (.arraylength, 1) := by decide +kernel
theorem dd8_5 : decode jdk_42_method_3_code 5 = .ok (.aconst_null, 1) := by decide +kernel
theorem own_ef8 (m : MethodId) (x0 : Addr) (x1 : Addr) (x2 : Int32) (x3 : Int32) : entryFrame m #[(.ref x0), (.ref x1), (.int x2), (.int x3), .null] 6 = mkF m 0 #[.val (.ref x0), .val (.ref x1), .val (.int x2), .val (.int x3), .val .null, .unset] [] := by first | (simp [entryFrame, mkF, argsToLocals, Value.category]; done) | rfl
theorem dd9_0 : decode jdk_42_method_149_code 0 = .ok (.aload_n 0, 1) := by decide +kernel
theorem dd9_1 : decode jdk_42_method_149_code 1 = .ok (.invokespecial 1, 3) := by decide +kernel
theorem dd9_4 : decode jdk_42_method_149_code 4 = .ok (.iload_n 3, 1) := by decide +kernel
theorem dd9_5 : decode jdk_42_method_149_code 5 = .ok (.ifCond .ne 22, 3) := by decide +kernel
theorem dd9_27 : decode jdk_42_method_149_code 27 = .ok (.getstatic 38, 3) := by decide +kernel
theorem dd9_30 : decode jdk_42_method_149_code 30 = .ok (.ifCond .eq 28, 3) := by decide +kernel
theorem dd9_33 : decode jdk_42_method_149_code 33 = .ok (.aload_n 1, 1) := by decide +kernel
theorem dd9_34 : decode jdk_42_method_149_code 34 = .ok (.iload_n 2, 1) := by decide +kernel
theorem dd9_35 : decode jdk_42_method_149_code 35 = .ok (.iload_n 3, 1) := by decide +kernel
theorem own_ef9 (m : MethodId) (x0 : Addr) (x1 : Int32) (x2 : Int32) : entryFrame m #[(.ref x0), (.int x1), (.int x2)] 6 = mkF m 0 #[.val (.ref x0), .val (.int x1), .val (.int x2), .unset, .unset, .unset] [] := by first | (simp [entryFrame, mkF, argsToLocals, Value.category]; done) | rfl
theorem dd10_0 : decode jdk_52_method_16_code 0 = .ok (.iload_n 2, 1) := by decide +kernel
theorem dd10_1 : decode jdk_52_method_16_code 1 = .ok (.newarray .byte, 2) := by decide +kernel
theorem dd10_3 : decode jdk_52_method_16_code 3 = .ok (.astore_n 3, 1) := by decide +kernel
theorem dd10_4 : decode jdk_52_method_16_code 4 = .ok (.aload_n 0, 1) := by decide +kernel
theorem dd10_5 : decode jdk_52_method_16_code 5 = .ok (.iload_n 1, 1) := by decide +kernel
theorem dd10_6 : decode jdk_52_method_16_code 6 = .ok (.aload_n 3, 1) := by decide +kernel
theorem dd10_7 : decode jdk_52_method_16_code 7 = .ok (.iconst 0, 1) := by decide +kernel
theorem dd10_8 : decode jdk_52_method_16_code 8 = .ok (.iload_n 2, 1) := by decide +kernel
theorem own_ef10 (m : MethodId) (x0 : Addr) (x1 : Int32) (x2 : Addr) (x3 : Int32) (x4 : Int32) : entryFrame m #[(.ref x0), (.int x1), (.ref x2), (.int x3), (.int x4)] 7 = mkF m 0 #[.val (.ref x0), .val (.int x1), .val (.ref x2), .val (.int x3), .val (.int x4), .unset, .unset] [] := by first | (simp [entryFrame, mkF, argsToLocals, Value.category]; done) | rfl
theorem dd11_0 : decode jdk_52_method_21_code 0 = .ok (.iconst 0, 1) := by decide +kernel
theorem dd11_1 : decode jdk_52_method_21_code 1 = .ok (.istore 5, 2) := by decide +kernel
theorem dd11_3 : decode jdk_52_method_21_code 3 = .ok (.iload 5, 2) := by decide +kernel
theorem dd11_5 : decode jdk_52_method_21_code 5 = .ok (.iload 4, 2) := by decide +kernel
theorem dd11_7 : decode jdk_52_method_21_code 7 = .ok (.if_icmp .ge 37, 3) := by decide +kernel
theorem dd11_10 : decode jdk_52_method_21_code 10 = .ok (.aload_n 0, 1) := by decide +kernel
theorem dd11_11 : decode jdk_52_method_21_code 11 = .ok (.iload_n 1, 1) := by decide +kernel
theorem dd11_12 : decode jdk_52_method_21_code 12 = .ok (.caload, 1) := by decide +kernel
theorem dd11_13 : decode jdk_52_method_21_code 13 = .ok (.istore 6, 2) := by decide +kernel
theorem dd11_15 : decode jdk_52_method_21_code 15 = .ok (.iload 6, 2) := by decide +kernel
theorem dd11_17 : decode jdk_52_method_21_code 17 = .ok (.sipush 255, 3) := by decide +kernel
theorem dd11_20 : decode jdk_52_method_21_code 20 = .ok (.if_icmp .le 6, 3) := by decide +kernel
theorem dd11_26 : decode jdk_52_method_21_code 26 = .ok (.aload_n 2, 1) := by decide +kernel
theorem dd11_27 : decode jdk_52_method_21_code 27 = .ok (.iload_n 3, 1) := by decide +kernel
theorem dd11_28 : decode jdk_52_method_21_code 28 = .ok (.iload 6, 2) := by decide +kernel
theorem dd11_30 : decode jdk_52_method_21_code 30 = .ok (.i2b, 1) := by decide +kernel
theorem dd11_31 : decode jdk_52_method_21_code 31 = .ok (.bastore, 1) := by decide +kernel
theorem dd11_32 : decode jdk_52_method_21_code 32 = .ok (.iinc 1 1, 3) := by decide +kernel
theorem dd11_35 : decode jdk_52_method_21_code 35 = .ok (.iinc 3 1, 3) := by decide +kernel
theorem dd11_38 : decode jdk_52_method_21_code 38 = .ok (.iinc 5 1, 3) := by decide +kernel
theorem dd11_41 : decode jdk_52_method_21_code 41 = .ok (.goto (-38), 3) := by decide +kernel
theorem dd11_44 : decode jdk_52_method_21_code 44 = .ok (.iload 4, 2) := by decide +kernel
theorem dd11_46 : decode jdk_52_method_21_code 46 = .ok (.ireturn, 1) := by decide +kernel
def own_Q15 (Z : State) (ob_480 : Nat) (ob_948 : Nat) (kk_478 : ClassId) (in_484 : Int32) (in_500 : Int32) (kk_946 : ClassId) (h0 : Heap) (n0 : Nat) (v : Option Value) (h : Heap) (L : List Loc) : Prop := (v = some (.int 2) ∧ Fr n0 L ∧ Keep h0 h [ob_948] ∧ Arv Z h ob_948 kk_946 .byte 2 [(.int (in_484.toInt8.toInt32)), (.int (in_500.toInt8.toInt32))] (.int 0) ∧ Exa Z h ob_948 "[B")
theorem own_pn8 : plainFor (⟨"java/lang/StringUTF16", "compress", "([CI[BII)I"⟩ : MethodName) = true := by decide +kernel
set_option maxRecDepth 65536 in
set_option maxHeartbeats 40000000 in
theorem own_rm15 (l : Launch) (Z : State) (a0 : Array Value) (hw : ∀ d ∈ tables_1, d.before a0 Z = true) (ws : List Jvm.Cond) (ob_480 : Nat) (ob_948 : Nat) (kk_478 : ClassId) (in_484 : Int32) (in_500 : Int32) (kk_946 : ClassId) (h0 : Heap) (n0 : Nat) (Z0 : n0 ≤ h0.size) (O0 : Old Z n0 h0) (I955 : Arv Z h0 ob_480 kk_478 .char 2 [(.int in_484), (.int in_500)] (.int 0)) (I959 : ¬ (255 < in_484)) (I960 : Arv Z h0 ob_948 kk_946 .byte 2 [(.int 0), (.int 0)] (.int 0)) (I970 : n0 ≤ ob_948) (I980 : @Ne Nat ob_480 ob_948) (I985 : ¬ (255 < in_500)) (I996 : Exa Z h0 ob_948 "[B") :
    own_Met l Z h0 (⟨"java/lang/StringUTF16", "compress", "([CI[BII)I"⟩ : MethodName) jdk_52_method_21_code 7 (Option.some FieldType.int) ws ({ frames := 0, cells := 0, slots := 0, locals := 0 } : Room) #[(.ref ob_480), (.int 0), (.ref ob_948), (.int 0), (.int 2)] (own_Q15 Z ob_480 ob_948 kk_478 in_484 in_500 kk_946 h0 n0) 0 0 := by
  refine MetFree.of_bodySF own_pn8 hisR ?_
  intro p e s m args below meth c s₁ Bd hml0 hP hK
  obtain ⟨rfl, hZ, hh⟩ := hP
  have hx := Bd.exec
  have hby := Bd.bytes
  have hml : c.maxLocals = 7 := hml0
  have hown : s.vm.findClass "java/lang/StringUTF16" = some m.cls := findClass_of_methodNamed Bd.named
  have hnm := (name_of_methodNamed Bd.named Bd.method).1
  have X0 : Stand p l e ({ frames := 0, cells := 0, slots := 0, locals := 0 } : Room) s m #[(.ref ob_480), (.int 0), (.ref ob_948), (.int 0), (.int 2)] below meth c s₁ [] 0 0 := Stand.of_body Bd
  have e0 : s₁.heap = h0 := by rw [← hh, Bd.state]; rfl
  have N0 := Fr.nil n0
  show own_G p e below (s₁.setTop (entryFrame m #[(.ref ob_480), (.int 0), (.ref ob_948), (.int 0), (.int 2)] 7)) (own_P s (own_Q15 Z ob_480 ob_948 kk_478 in_484 in_500 kk_946 h0 n0) 0 0)
  refine own_cast (own_ef10 m ob_480 0 ob_948 0 2) ?_
  show own_G p e below (s₁.setTop (mkF m 0 #[rv ob_480, iv 0, rv ob_948, iv 0, iv 2, .unset, .unset] [])) _
  refine oS (fun _ => XS.iconst X0.here hx rfl (hb hby dd11_0) ) ?_
  refine oS (fun _ => XS.istore X0.here hx rfl (hb hby dd11_1) rfl (l' := #[rv ob_480, iv 0, rv ob_948, iv 0, iv 2, iv 0, .unset]) rfl) ?_
  refine oS (fun _ => XS.iload X0.here hx rfl (hb hby dd11_3) rfl) ?_
  refine oS (fun _ => XS.iload X0.here hx rfl (hb hby dd11_5) rfl) ?_
  show own_G p e below (s₁.setTop (mkF m 7 #[rv ob_480, iv 0, rv ob_948, iv 0, iv 2, iv 0, .unset] [(.int 2), (.int 0)])) _
  refine oS (fun _ => XS.icmpNo X0.here hx rfl (hb hby dd11_7) rfl (XT.ii_ge_f (by decide))) ?_
  show own_G p e below (s₁.setTop (mkF m 10 #[rv ob_480, iv 0, rv ob_948, iv 0, iv 2, iv 0, .unset] [])) _
  refine oS (fun _ => XS.aloadN X0.here hx rfl (hb hby dd11_10) rfl rfl) ?_
  refine oS (fun _ => XS.iloadN X0.here hx rfl (hb hby dd11_11) rfl) ?_
  refine oS (own_caload X0 hx hZ e0 I955 (by decide) (v := (.int in_484)) rfl rfl rfl (hb hby dd11_12)) ?_
  show own_G p e below (s₁.setTop (mkF m 13 #[rv ob_480, iv 0, rv ob_948, iv 0, iv 2, iv 0, .unset] [(.int in_484)])) _
  refine oS (fun _ => XS.istore X0.here hx rfl (hb hby dd11_13) rfl (l' := #[rv ob_480, iv 0, rv ob_948, iv 0, iv 2, iv 0, iv in_484]) rfl) ?_
  refine oS (fun _ => XS.iload X0.here hx rfl (hb hby dd11_15) rfl) ?_
  refine oS (fun _ => XS.sipush X0.here hx rfl (hb hby dd11_17) ) ?_
  refine oS (fun _ => XS.icmpYes X0.here hx rfl (pc0 := 20) (pc' := 26) rfl (hb hby dd11_20) rfl (XT.ii_le_t I959) (by decide) (by decide)) ?_
  show own_G p e below (s₁.setTop (mkF m 26 #[rv ob_480, iv 0, rv ob_948, iv 0, iv 2, iv 0, iv in_484] [])) _
  refine oS (fun _ => XS.aloadN X0.here hx rfl (hb hby dd11_26) rfl rfl) ?_
  refine oS (fun _ => XS.iloadN X0.here hx rfl (hb hby dd11_27) rfl) ?_
  refine oS (fun _ => XS.iload X0.here hx rfl (hb hby dd11_28) rfl) ?_
  refine oS (fun _ => XT.i2b X0.here hx rfl (hb hby dd11_30) rfl) ?_
  show own_G p e below (s₁.setTop (mkF m 31 #[rv ob_480, iv 0, rv ob_948, iv 0, iv 2, iv 0, iv in_484] [(.int (in_484.toInt8.toInt32)), (.int 0), (.ref ob_948)])) _
  obtain ⟨T961, h962, X963, e964, W965, A966, s967⟩ := own_stB X0 hx hZ e0 I960 (x' := (in_484.toInt8.toInt32)) 0 (own_narB _) rfl (by decide) (by simp) (g := (mkF m 31 #[rv ob_480, iv 0, rv ob_948, iv 0, iv 2, iv 0, iv in_484] [(.int (in_484.toInt8.toInt32)), (.int 0), (.ref ob_948)])) rfl (rest := []) rfl (hb hby dd11_31)
  have N968 := Fr.snoc X963 N0 I970
  have z971 := W965.size
  have F972 : Arv Z h962 ob_948 kk_946 .byte 2 [(.int (in_484.toInt8.toInt32)), (.int 0)] (.int 0) := A966
  refine oS s967 ?_
  show own_G p e below (T961.setTop (mkF m 32 #[rv ob_480, iv 0, rv ob_948, iv 0, iv 2, iv 0, iv in_484] [])) _
  refine oS (fun _ => XS.iinc X963.here hx rfl (hb hby dd11_32) rfl (l' := #[rv ob_480, iv 1, rv ob_948, iv 0, iv 2, iv 0, iv in_484]) rfl) ?_
  show own_G p e below (T961.setTop (mkF m 35 #[rv ob_480, iv 1, rv ob_948, iv 0, iv 2, iv 0, iv in_484] [])) _
  refine oS (fun _ => XS.iinc X963.here hx rfl (hb hby dd11_35) rfl (l' := #[rv ob_480, iv 1, rv ob_948, iv 1, iv 2, iv 0, iv in_484]) rfl) ?_
  show own_G p e below (T961.setTop (mkF m 38 #[rv ob_480, iv 1, rv ob_948, iv 1, iv 2, iv 0, iv in_484] [])) _
  refine oS (fun _ => XS.iinc X963.here hx rfl (hb hby dd11_38) rfl (l' := #[rv ob_480, iv 1, rv ob_948, iv 1, iv 2, iv 1, iv in_484]) rfl) ?_
  show own_G p e below (T961.setTop (mkF m 41 #[rv ob_480, iv 1, rv ob_948, iv 1, iv 2, iv 1, iv in_484] [])) _
  refine oS (fun _ => XS.goto X963.here hx rfl (pc0 := 41) (pc' := 3) rfl (hb hby dd11_41) (by decide) (by decide)) ?_
  show own_G p e below (T961.setTop (mkF m 3 #[rv ob_480, iv 1, rv ob_948, iv 1, iv 2, iv 1, iv in_484] [])) _
  refine oS (fun _ => XS.iload X963.here hx rfl (hb hby dd11_3) rfl) ?_
  refine oS (fun _ => XS.iload X963.here hx rfl (hb hby dd11_5) rfl) ?_
  refine oS (fun _ => XS.icmpNo X963.here hx rfl (hb hby dd11_7) rfl (XT.ii_ge_f (by decide))) ?_
  show own_G p e below (T961.setTop (mkF m 10 #[rv ob_480, iv 1, rv ob_948, iv 1, iv 2, iv 1, iv in_484] [])) _
  refine oS (fun _ => XS.aloadN X963.here hx rfl (hb hby dd11_10) rfl rfl) ?_
  refine oS (fun _ => XS.iloadN X963.here hx rfl (hb hby dd11_11) rfl) ?_
  have F981 : Arv Z h962 ob_480 kk_478 .char 2 [(.int in_484), (.int in_500)] (.int 0) := I955.other W965 I980
  refine oS (own_caload X963 hx hZ e964 F981 (by decide) (v := (.int in_500)) rfl rfl rfl (hb hby dd11_12)) ?_
  show own_G p e below (T961.setTop (mkF m 13 #[rv ob_480, iv 1, rv ob_948, iv 1, iv 2, iv 1, iv in_484] [(.int in_500)])) _
  refine oS (fun _ => XS.istore X963.here hx rfl (hb hby dd11_13) rfl (l' := #[rv ob_480, iv 1, rv ob_948, iv 1, iv 2, iv 1, iv in_500]) rfl) ?_
  refine oS (fun _ => XS.iload X963.here hx rfl (hb hby dd11_15) rfl) ?_
  refine oS (fun _ => XS.sipush X963.here hx rfl (hb hby dd11_17) ) ?_
  refine oS (fun _ => XS.icmpYes X963.here hx rfl (pc0 := 20) (pc' := 26) rfl (hb hby dd11_20) rfl (XT.ii_le_t I985) (by decide) (by decide)) ?_
  show own_G p e below (T961.setTop (mkF m 26 #[rv ob_480, iv 1, rv ob_948, iv 1, iv 2, iv 1, iv in_500] [])) _
  refine oS (fun _ => XS.aloadN X963.here hx rfl (hb hby dd11_26) rfl rfl) ?_
  refine oS (fun _ => XS.iloadN X963.here hx rfl (hb hby dd11_27) rfl) ?_
  refine oS (fun _ => XS.iload X963.here hx rfl (hb hby dd11_28) rfl) ?_
  refine oS (fun _ => XT.i2b X963.here hx rfl (hb hby dd11_30) rfl) ?_
  show own_G p e below (T961.setTop (mkF m 31 #[rv ob_480, iv 1, rv ob_948, iv 1, iv 2, iv 1, iv in_500] [(.int (in_500.toInt8.toInt32)), (.int 1), (.ref ob_948)])) _
  obtain ⟨T986, h987, X988, e989, W990, A991, s992⟩ := own_stB X963 hx hZ e964 F972 (x' := (in_500.toInt8.toInt32)) 1 (own_narB _) rfl (by decide) (by simp) (g := (mkF m 31 #[rv ob_480, iv 1, rv ob_948, iv 1, iv 2, iv 1, iv in_500] [(.int (in_500.toInt8.toInt32)), (.int 1), (.ref ob_948)])) rfl (rest := []) rfl (hb hby dd11_31)
  have N993 := Fr.snoc X988 N968 I970
  have z994 := W990.size
  have F995 : Arv Z h987 ob_948 kk_946 .byte 2 [(.int (in_484.toInt8.toInt32)), (.int (in_500.toInt8.toInt32))] (.int 0) := A991
  refine oS s992 ?_
  show own_G p e below (T986.setTop (mkF m 32 #[rv ob_480, iv 1, rv ob_948, iv 1, iv 2, iv 1, iv in_500] [])) _
  refine oS (fun _ => XS.iinc X988.here hx rfl (hb hby dd11_32) rfl (l' := #[rv ob_480, iv 2, rv ob_948, iv 1, iv 2, iv 1, iv in_500]) rfl) ?_
  show own_G p e below (T986.setTop (mkF m 35 #[rv ob_480, iv 2, rv ob_948, iv 1, iv 2, iv 1, iv in_500] [])) _
  refine oS (fun _ => XS.iinc X988.here hx rfl (hb hby dd11_35) rfl (l' := #[rv ob_480, iv 2, rv ob_948, iv 2, iv 2, iv 1, iv in_500]) rfl) ?_
  show own_G p e below (T986.setTop (mkF m 38 #[rv ob_480, iv 2, rv ob_948, iv 2, iv 2, iv 1, iv in_500] [])) _
  refine oS (fun _ => XS.iinc X988.here hx rfl (hb hby dd11_38) rfl (l' := #[rv ob_480, iv 2, rv ob_948, iv 2, iv 2, iv 2, iv in_500]) rfl) ?_
  show own_G p e below (T986.setTop (mkF m 41 #[rv ob_480, iv 2, rv ob_948, iv 2, iv 2, iv 2, iv in_500] [])) _
  refine oS (fun _ => XS.goto X988.here hx rfl (pc0 := 41) (pc' := 3) rfl (hb hby dd11_41) (by decide) (by decide)) ?_
  show own_G p e below (T986.setTop (mkF m 3 #[rv ob_480, iv 2, rv ob_948, iv 2, iv 2, iv 2, iv in_500] [])) _
  refine oS (fun _ => XS.iload X988.here hx rfl (hb hby dd11_3) rfl) ?_
  refine oS (fun _ => XS.iload X988.here hx rfl (hb hby dd11_5) rfl) ?_
  refine oS (fun _ => XS.icmpYes X988.here hx rfl (pc0 := 7) (pc' := 44) rfl (hb hby dd11_7) rfl (XT.ii_ge_t (by decide)) (by decide) (by decide)) ?_
  show own_G p e below (T986.setTop (mkF m 44 #[rv ob_480, iv 2, rv ob_948, iv 2, iv 2, iv 2, iv in_500] [])) _
  refine oS (fun _ => XS.iload X988.here hx rfl (hb hby dd11_44) rfl) ?_
  have F997 : Exa Z h962 ob_948 "[B" := Exa.wr W965 I996
  have F998 : Exa Z h987 ob_948 "[B" := Exa.wr W990 F997
  have K999 : Keep h0 h987 [ob_948] := (((Keep.refl h0 [ob_948]).wr W965 (Or.inl (by simp))).wr W990 (Or.inl (by simp)))
  exact own_retI X988 hx Bd.notSynchronized Bd.returns (hb hby dd11_46) e989 (by decide) (by decide) (⟨rfl, N993, K999, F995, F998⟩)
theorem own_pd8 : parseMethodDescriptor "([CI[BII)I" = some ⟨[(.array .char), .int, (.array .byte), .int, .int], (some .int)⟩ := by decide +kernel
theorem dd10_9 : decode jdk_52_method_16_code 9 = .ok (.invokestatic 115, 3) := by decide +kernel
theorem dd10_12 : decode jdk_52_method_16_code 12 = .ok (.istore 4, 2) := by decide +kernel
theorem dd10_14 : decode jdk_52_method_16_code 14 = .ok (.iload 4, 2) := by decide +kernel
theorem dd10_16 : decode jdk_52_method_16_code 16 = .ok (.iload_n 2, 1) := by decide +kernel
theorem dd10_17 : decode jdk_52_method_16_code 17 = .ok (.if_icmp .eq 40, 3) := by decide +kernel
theorem dd10_57 : decode jdk_52_method_16_code 57 = .ok (.aload_n 3, 1) := by decide +kernel
theorem dd10_58 : decode jdk_52_method_16_code 58 = .ok (.areturn, 1) := by decide +kernel
def own_Q14 (Z : State) (ob_480 : Nat) (kk_478 : ClassId) (in_484 : Int32) (in_500 : Int32) (h0 : Heap) (n0 : Nat) (v : Option Value) (h : Heap) (L : List Loc) : Prop := (∃ ob_948 : Nat, ∃ kk_946 : ClassId, v = some (.ref ob_948) ∧ Fr n0 L ∧ Keep h0 h [] ∧ h0.size ≤ ob_948 ∧ Arv Z h ob_948 kk_946 .byte 2 [(.int (in_484.toInt8.toInt32)), (.int (in_500.toInt8.toInt32))] (.int 0) ∧ Exa Z h ob_948 "[B" ∧ @LT.lt Nat instLTNat ob_948 h.size)
theorem own_pn9 : plainFor (⟨"java/lang/StringUTF16", "compress", "([CII)[B"⟩ : MethodName) = true := by decide +kernel
set_option maxRecDepth 65536 in
set_option maxHeartbeats 40000000 in
theorem own_rm14 (l : Launch) (Z : State) (a0 : Array Value) (hw : ∀ d ∈ tables_1, d.before a0 Z = true) (ws : List Jvm.Cond) (ob_480 : Nat) (kk_478 : ClassId) (in_484 : Int32) (in_500 : Int32) (h0 : Heap) (n0 : Nat) (Z0 : n0 ≤ h0.size) (O0 : Old Z n0 h0) (I953 : Arv Z h0 ob_480 kk_478 .char 2 [(.int in_484), (.int in_500)] (.int 0)) (I958 : ¬ (255 < in_484)) (I978 : @LT.lt Nat instLTNat ob_480 h0.size) (I984 : ¬ (255 < in_500)) :
    own_Met l Z h0 (⟨"java/lang/StringUTF16", "compress", "([CII)[B"⟩ : MethodName) jdk_52_method_16_code 6 (Option.some (FieldType.array FieldType.byte)) ws ({ frames := 1, cells := 1, slots := 2, locals := 18 } : Room) #[(.ref ob_480), (.int 0), (.int 2)] (own_Q14 Z ob_480 kk_478 in_484 in_500 h0 n0) 1 2 := by
  refine MetFree.of_bodySF own_pn9 hisR ?_
  intro p e s m args below meth c s₁ Bd hml0 hP hK
  obtain ⟨rfl, hZ, hh⟩ := hP
  have hx := Bd.exec
  have hby := Bd.bytes
  have hml : c.maxLocals = 6 := hml0
  have hown : s.vm.findClass "java/lang/StringUTF16" = some m.cls := findClass_of_methodNamed Bd.named
  have hnm := (name_of_methodNamed Bd.named Bd.method).1
  have X0 : Stand p l e ({ frames := 1, cells := 1, slots := 2, locals := 18 } : Room) s m #[(.ref ob_480), (.int 0), (.int 2)] below meth c s₁ [] 0 0 := Stand.of_body Bd
  have e0 : s₁.heap = h0 := by rw [← hh, Bd.state]; rfl
  have N0 := Fr.nil n0
  show own_G p e below (s₁.setTop (entryFrame m #[(.ref ob_480), (.int 0), (.int 2)] 6)) (own_P s (own_Q14 Z ob_480 kk_478 in_484 in_500 h0 n0) 1 2)
  refine own_cast (own_ef9 m ob_480 0 2) ?_
  show own_G p e below (s₁.setTop (mkF m 0 #[rv ob_480, iv 0, iv 2, .unset, .unset, .unset] [])) _
  refine oS (fun _ => XS.iloadN X0.here hx rfl (hb hby dd10_0) rfl) ?_
  obtain ⟨T937, h938, kk_946, X940, e941, E942, A943, B947, s944⟩ := own_newP X0 hx hZ (aty := .byte) (oW hw 62 rfl) e0 (nm := "[B") rfl (g := (mkF m 1 #[rv ob_480, iv 0, iv 2, .unset, .unset, .unset] [(.int 2)])) rfl (hb hby dd10_1) (n := 2) (rest := []) rfl (by decide) (cap := 2) (by decide) (by decide) (by decide) (by decide)
  obtain ⟨ob_948, g949⟩ : ∃ z, z = h0.size := ⟨_, rfl⟩
  rw [← g949] at A943 B947 s944
  have F950 : Arv Z h938 ob_948 kk_946 .byte 2 [(.int 0), (.int 0)] (.int 0) := own_newA A943 (by decide) rfl rfl
  have z951 := E942.1
  have y945 : @LT.lt Nat instLTNat ob_948 h938.size := F950.lt
  refine oS s944 ?_
  show own_G p e below (T937.setTop (mkF m 3 #[rv ob_480, iv 0, iv 2, .unset, .unset, .unset] [(.ref ob_948)])) _
  refine oS (fun _ => XS.astoreN X940.here hx rfl (hb hby dd10_3) rfl rfl (l' := #[rv ob_480, iv 0, iv 2, rv ob_948, .unset, .unset]) rfl) ?_
  refine oS (fun _ => XS.aloadN X940.here hx rfl (hb hby dd10_4) rfl rfl) ?_
  refine oS (fun _ => XS.iloadN X940.here hx rfl (hb hby dd10_5) rfl) ?_
  refine oS (fun _ => XS.aloadN X940.here hx rfl (hb hby dd10_6) rfl rfl) ?_
  show own_G p e below (T937.setTop (mkF m 7 #[rv ob_480, iv 0, iv 2, rv ob_948, .unset, .unset] [(.ref ob_948), (.int 0), (.ref ob_480)])) _
  refine oS (fun _ => XS.iconst X940.here hx rfl (hb hby dd10_7) ) ?_
  refine oS (fun _ => XS.iloadN X940.here hx rfl (hb hby dd10_8) rfl) ?_
  have F954 : Arv Z h938 ob_480 kk_478 .char 2 [(.int in_484), (.int in_500)] (.int 0) := I953.ext E942
  have N969 : n0 ≤ ob_948 := by omega
  have N979 : @Ne Nat ob_480 ob_948 := by omega
  have O1000 : Old Z n0 h938 := O0.ext E942
  have Z1001 : n0 ≤ h938.size := by omega
  obtain ⟨T1002, h1003, v1004, L1005, X1006, e1007, q1008, s1009⟩ := own_callS X940 hx hZ hown e941 (y := (⟨"java/lang/StringUTF16", "compress", "([CI[BII)I"⟩ : MethodName)) (oW hw 110 rfl) (oW hw 111 rfl) (oW hw 108 rfl) (oW hw 112 rfl) (by decide) (W := 0) (own_rm15 l Z a0 hw [] ob_480 ob_948 kk_478 in_484 in_500 kk_946 h938 n0 Z1001 O1000 F954 I958 F950 N969 N979 I984 B947) (by decide) (by decide) (by decide) (by decide) (g := (mkF m 9 #[rv ob_480, iv 0, iv 2, rv ob_948, .unset, .unset] [(.int 2), (.int 0), (.ref ob_948), (.int 0), (.ref ob_480)])) rfl (by rw [hml]; rfl) (argsL := [(.ref ob_480), (.int 0), (.ref ob_948), (.int 0), (.int 2)]) (rest := []) rfl (lenOf own_pd8 rfl) rfl (by show 2 * 0 + _ ≤ _; exact Nat.le_of_eq rfl) (hb hby dd10_9)
  refine oS s1009 ?_
  obtain ⟨rfl, N1010, K1011, F1012, F1013⟩ := q1008
  have N1014 := Fr.app N0 N1010
  have z1015 := K1011.1
  show own_G p e below (T1002.setTop (mkF m 12 #[rv ob_480, iv 0, iv 2, rv ob_948, .unset, .unset] [(.int 2)])) _
  refine oS (fun _ => XS.istore X1006.here hx rfl (hb hby dd10_12) rfl (l' := #[rv ob_480, iv 0, iv 2, rv ob_948, iv 2, .unset]) rfl) ?_
  refine oS (fun _ => XS.iload X1006.here hx rfl (hb hby dd10_14) rfl) ?_
  refine oS (fun _ => XS.iloadN X1006.here hx rfl (hb hby dd10_16) rfl) ?_
  refine oS (fun _ => XS.icmpYes X1006.here hx rfl (pc0 := 17) (pc' := 57) rfl (hb hby dd10_17) rfl (XT.ii_eq_t (by decide)) (by decide) (by decide)) ?_
  show own_G p e below (T1002.setTop (mkF m 57 #[rv ob_480, iv 0, iv 2, rv ob_948, iv 2, .unset] [])) _
  refine oS (fun _ => XS.aloadN X1006.here hx rfl (hb hby dd10_57) rfl rfl) ?_
  have y1016 : @LT.lt Nat instLTNat ob_948 h1003.size := by omega
  have K1017 : Keep h0 h1003 [] := (((Keep.refl h0 []).ext E942).trans K1011 (allS (Or.inr (by omega)) all0))
  exact own_retA X1006 hx Bd.notSynchronized Bd.returns rfl rfl (hb hby dd10_58) e1007 (by decide) (by decide) (⟨ob_948, kk_946, rfl, N1014, K1017, (by omega), F1012, F1013, y1016⟩)
theorem own_pd9 : parseMethodDescriptor "([CII)[B" = some ⟨[(.array .char), .int, .int], (some (.array .byte))⟩ := by decide +kernel
theorem dd9_36 : decode jdk_42_method_149_code 36 = .ok (.invokestatic 177, 3) := by decide +kernel
theorem dd9_39 : decode jdk_42_method_149_code 39 = .ok (.astore 5, 2) := by decide +kernel
theorem dd9_41 : decode jdk_42_method_149_code 41 = .ok (.aload_n 0, 1) := by decide +kernel
theorem dd9_42 : decode jdk_42_method_149_code 42 = .ok (.aload 5, 2) := by decide +kernel
theorem dd9_44 : decode jdk_42_method_149_code 44 = .ok (.iload_n 3, 1) := by decide +kernel
theorem own_ef11 (m : MethodId) (x0 : Addr) (x1 : Int32) : entryFrame m #[(.ref x0), (.int x1)] 2 = mkF m 0 #[.val (.ref x0), .val (.int x1)] [] := by first | (simp [entryFrame, mkF, argsToLocals, Value.category]; done) | rfl
theorem dd12_0 : decode jdk_52_method_15_code 0 = .ok (.iload_n 1, 1) := by decide +kernel
theorem dd12_1 : decode jdk_52_method_15_code 1 = .ok (.aload_n 0, 1) := by decide +kernel
theorem dd12_2 : decode jdk_52_method_15_code 2 = .ok (.arraylength, 1) := by decide +kernel
theorem dd12_3 : decode jdk_52_method_15_code 3 = .ok (.isub, 1) := by decide +kernel
theorem dd12_4 : decode jdk_52_method_15_code 4 = .ok (.bipush 31, 2) := by decide +kernel
theorem dd12_6 : decode jdk_52_method_15_code 6 = .ok (.iushr, 1) := by decide +kernel
theorem dd12_7 : decode jdk_52_method_15_code 7 = .ok (.i2b, 1) := by decide +kernel
theorem dd12_8 : decode jdk_52_method_15_code 8 = .ok (.ireturn, 1) := by decide +kernel
def own_Q16 (Z : State) (ob_1026 : Nat) (kk_1027 : ClassId) (in_484 : Int32) (in_500 : Int32) (h0 : Heap) (n0 : Nat) (v : Option Value) (h : Heap) (L : List Loc) : Prop := (v = some (.int 0) ∧ Fr n0 L ∧ h = h0)
theorem own_pn10 : plainFor (⟨"java/lang/StringUTF16", "coderFromArrayLen", "([BI)B"⟩ : MethodName) = true := by decide +kernel
set_option maxRecDepth 65536 in
set_option maxHeartbeats 40000000 in
theorem own_rm16 (l : Launch) (Z : State) (a0 : Array Value) (hw : ∀ d ∈ tables_1, d.before a0 Z = true) (ws : List Jvm.Cond) (ob_1026 : Nat) (kk_1027 : ClassId) (in_484 : Int32) (in_500 : Int32) (h0 : Heap) (n0 : Nat) (Z0 : n0 ≤ h0.size) (O0 : Old Z n0 h0) (I1036 : Arv Z h0 ob_1026 kk_1027 .byte 2 [(.int (in_484.toInt8.toInt32)), (.int (in_500.toInt8.toInt32))] (.int 0)) :
    own_Met l Z h0 (⟨"java/lang/StringUTF16", "coderFromArrayLen", "([BI)B"⟩ : MethodName) jdk_52_method_15_code 2 (Option.some FieldType.byte) ws ({ frames := 0, cells := 0, slots := 0, locals := 0 } : Room) #[(.ref ob_1026), (.int 2)] (own_Q16 Z ob_1026 kk_1027 in_484 in_500 h0 n0) 0 0 := by
  refine MetFree.of_bodySF own_pn10 hisR ?_
  intro p e s m args below meth c s₁ Bd hml0 hP hK
  obtain ⟨rfl, hZ, hh⟩ := hP
  have hx := Bd.exec
  have hby := Bd.bytes
  have hml : c.maxLocals = 2 := hml0
  have hown : s.vm.findClass "java/lang/StringUTF16" = some m.cls := findClass_of_methodNamed Bd.named
  have hnm := (name_of_methodNamed Bd.named Bd.method).1
  have X0 : Stand p l e ({ frames := 0, cells := 0, slots := 0, locals := 0 } : Room) s m #[(.ref ob_1026), (.int 2)] below meth c s₁ [] 0 0 := Stand.of_body Bd
  have e0 : s₁.heap = h0 := by rw [← hh, Bd.state]; rfl
  have N0 := Fr.nil n0
  show own_G p e below (s₁.setTop (entryFrame m #[(.ref ob_1026), (.int 2)] 2)) (own_P s (own_Q16 Z ob_1026 kk_1027 in_484 in_500 h0 n0) 0 0)
  refine own_cast (own_ef11 m ob_1026 2) ?_
  show own_G p e below (s₁.setTop (mkF m 0 #[rv ob_1026, iv 2] [])) _
  refine oS (fun _ => XS.iloadN X0.here hx rfl (hb hby dd12_0) rfl) ?_
  refine oS (fun _ => XS.aloadN X0.here hx rfl (hb hby dd12_1) rfl rfl) ?_
  refine oS (own_len X0 hx hZ e0 I1036 rfl rfl (hb hby dd12_2)) ?_
  show own_G p e below (s₁.setTop (mkF m 3 #[rv ob_1026, iv 2] [(.int 2), (.int 2)])) _
  refine oS (fun _ => XS.isub X0.here hx rfl (hb hby dd12_3) rfl) ?_
  refine oS (fun _ => XS.bipush X0.here hx rfl (hb hby dd12_4) ) ?_
  refine oS (fun _ => XT.iushr X0.here hx rfl (hb hby dd12_6) rfl) ?_
  refine oS (fun _ => XT.i2b X0.here hx rfl (hb hby dd12_7) rfl) ?_
  show own_G p e below (s₁.setTop (mkF m 8 #[rv ob_1026, iv 2] [(.int 0)])) _
  exact own_retN X0 hx (t := .byte) Bd.notSynchronized Bd.returns (by simp) (hb hby dd12_8) (by decide) e0 (by decide) (by decide) (⟨rfl, N0, rfl⟩)
theorem own_pd10 : parseMethodDescriptor "([BI)B" = some ⟨[(.array .byte), .int], (some .byte)⟩ := by decide +kernel
theorem dd9_45 : decode jdk_42_method_149_code 45 = .ok (.invokestatic 47, 3) := by decide +kernel
theorem dd9_48 : decode jdk_42_method_149_code 48 = .ok (.putfield 15, 3) := by decide +kernel
theorem dd9_51 : decode jdk_42_method_149_code 51 = .ok (.aload_n 0, 1) := by decide +kernel
theorem dd9_52 : decode jdk_42_method_149_code 52 = .ok (.aload 5, 2) := by decide +kernel
theorem dd9_54 : decode jdk_42_method_149_code 54 = .ok (.putfield 9, 3) := by decide +kernel
theorem dd9_57 : decode jdk_42_method_149_code 57 = .ok (.return_, 1) := by decide +kernel
def own_Q13 (Z : State) (ob_917 : Nat) (ob_480 : Nat) (in_7 : Int32) (kk_478 : ClassId) (in_484 : Int32) (in_500 : Int32) (h0 : Heap) (n0 : Nat) (v : Option Value) (h : Heap) (L : List Loc) : Prop := (∃ ob_1026 : Nat, ∃ kk_1027 : ClassId, v = none ∧ Fr n0 L ∧ Keep h0 h [ob_917] ∧ h0.size ≤ ob_1026 ∧ Fld Z h ob_917 "java/lang/String" "coder" "B" (.int 0) ∧ Exa Z h ob_917 "java/lang/String" ∧ Fld Z h ob_917 "java/lang/String" "value" "[B" (.ref ob_1026) ∧ Arv Z h ob_1026 kk_1027 .byte 2 [(.int (in_484.toInt8.toInt32)), (.int (in_500.toInt8.toInt32))] (.int 0) ∧ Exa Z h ob_1026 "[B" ∧ @LT.lt Nat instLTNat ob_1026 h.size)
theorem own_pn11 : plainFor (⟨"java/lang/String", "<init>", "([CIILjava/lang/Void;)V"⟩ : MethodName) = true := by decide +kernel
set_option maxRecDepth 65536 in
set_option maxHeartbeats 40000000 in
theorem own_rm13 (l : Launch) (Z : State) (a0 : Array Value) (hw : ∀ d ∈ tables_1, d.before a0 Z = true) (ws : List Jvm.Cond) (ob_917 : Nat) (ob_480 : Nat) (in_7 : Int32) (kk_478 : ClassId) (in_484 : Int32) (in_500 : Int32) (h0 : Heap) (n0 : Nat) (Z0 : n0 ≤ h0.size) (O0 : Old Z n0 h0) (I929 : Sta Z Z.heap "java/lang/String" "COMPACT_STRINGS" "Z" (.int in_7)) (I936 : ¬ (in_7 = 0)) (I952 : Arv Z h0 ob_480 kk_478 .char 2 [(.int in_484), (.int in_500)] (.int 0)) (I957 : ¬ (255 < in_484)) (I976 : @LT.lt Nat instLTNat ob_480 h0.size) (I983 : ¬ (255 < in_500)) (I1052 : Fld Z h0 ob_917 "java/lang/String" "coder" "B" (.int 0)) (I1055 : Exa Z h0 ob_917 "java/lang/String") (I1066 : n0 ≤ ob_917) (I1070 : Fld Z h0 ob_917 "java/lang/String" "value" "[B" .null) (I1088 : @LT.lt Nat instLTNat ob_917 h0.size) :
    own_Met l Z h0 (⟨"java/lang/String", "<init>", "([CIILjava/lang/Void;)V"⟩ : MethodName) jdk_42_method_149_code 6 (Option.none : Option FieldType) ws ({ frames := 2, cells := 1, slots := 2, locals := 35 } : Room) #[(.ref ob_917), (.ref ob_480), (.int 0), (.int 2), .null] (own_Q13 Z ob_917 ob_480 in_7 kk_478 in_484 in_500 h0 n0) 1 2 := by
  refine MetFree.of_bodySF own_pn11 hisR ?_
  intro p e s m args below meth c s₁ Bd hml0 hP hK
  obtain ⟨rfl, hZ, hh⟩ := hP
  have hx := Bd.exec
  have hby := Bd.bytes
  have hml : c.maxLocals = 6 := hml0
  have hown : s.vm.findClass "java/lang/String" = some m.cls := findClass_of_methodNamed Bd.named
  have hnm := (name_of_methodNamed Bd.named Bd.method).1
  have X0 : Stand p l e ({ frames := 2, cells := 1, slots := 2, locals := 35 } : Room) s m #[(.ref ob_917), (.ref ob_480), (.int 0), (.int 2), .null] below meth c s₁ [] 0 0 := Stand.of_body Bd
  have e0 : s₁.heap = h0 := by rw [← hh, Bd.state]; rfl
  have N0 := Fr.nil n0
  show own_G p e below (s₁.setTop (entryFrame m #[(.ref ob_917), (.ref ob_480), (.int 0), (.int 2), .null] 6)) (own_P s (own_Q13 Z ob_917 ob_480 in_7 kk_478 in_484 in_500 h0 n0) 1 2)
  refine own_cast (own_ef8 m ob_917 ob_480 0 2) ?_
  show own_G p e below (s₁.setTop (mkF m 0 #[rv ob_917, rv ob_480, iv 0, iv 2, .val .null, .unset] [])) _
  refine oS (fun _ => XS.aloadN X0.here hx rfl (hb hby dd9_0) rfl rfl) ?_
  obtain ⟨T924, X925, e926, s927⟩ := initO X0 hx hZ hown (oW hw 67 rfl) (oW hw 68 rfl) (oW hw 69 rfl) e0 (g := (mkF m 1 #[rv ob_917, rv ob_480, iv 0, iv 2, .val .null, .unset] [(.ref ob_917)])) rfl (by rw [hml]; rfl) rfl (hb hby dd9_1) (by decide) (W := 0) (by show 2 * 0 + _ ≤ _; exact Nat.le_of_eq rfl) (by decide)
  refine oS s927 ?_
  show own_G p e below (T924.setTop (mkF m 4 #[rv ob_917, rv ob_480, iv 0, iv 2, .val .null, .unset] [])) _
  refine oS (fun _ => XS.iloadN X925.here hx rfl (hb hby dd9_4) rfl) ?_
  refine oS (fun _ => XS.ifYes X925.here hx rfl (pc0 := 5) (pc' := 27) rfl (hb hby dd9_5) rfl (XT.i0_ne_t (by decide)) (by decide) (by decide)) ?_
  show own_G p e below (T924.setTop (mkF m 27 #[rv ob_917, rv ob_480, iv 0, iv 2, .val .null, .unset] [])) _
  have F930 : Sta Z h0 "java/lang/String" "COMPACT_STRINGS" "Z" (.int in_7) := Sta.ext O0.2 I929
  obtain ⟨T931, X932, e933, s934⟩ := getS X925 hx hZ hown (host := "") (oW hw 52 rfl) Via.refl e926 F930 (g := (mkF m 27 #[rv ob_917, rv ob_480, iv 0, iv 2, .val .null, .unset] [])) rfl (hb hby dd9_27)
  refine oS s934 ?_
  show own_G p e below (T931.setTop (mkF m 30 #[rv ob_917, rv ob_480, iv 0, iv 2, .val .null, .unset] [(.int in_7)])) _
  refine oS (fun _ => XS.ifNo X932.here hx rfl (hb hby dd9_30) rfl (XT.i0_eq_f I936)) ?_
  show own_G p e below (T931.setTop (mkF m 33 #[rv ob_917, rv ob_480, iv 0, iv 2, .val .null, .unset] [])) _
  refine oS (fun _ => XS.aloadN X932.here hx rfl (hb hby dd9_33) rfl rfl) ?_
  refine oS (fun _ => XS.iloadN X932.here hx rfl (hb hby dd9_34) rfl) ?_
  refine oS (fun _ => XS.iloadN X932.here hx rfl (hb hby dd9_35) rfl) ?_
  have y977 : @LT.lt Nat instLTNat ob_480 h0.size := by omega
  obtain ⟨T1018, h1019, v1020, L1021, X1022, e1023, q1024, s1025⟩ := own_callS X932 hx hZ hown e933 (y := (⟨"java/lang/StringUTF16", "compress", "([CII)[B"⟩ : MethodName)) (oW hw 106 rfl) (oW hw 107 rfl) (oW hw 108 rfl) (oW hw 109 rfl) (by decide) (W := 0) (own_rm14 l Z a0 hw [] ob_480 kk_478 in_484 in_500 h0 n0 Z0 O0 I952 I957 y977 I983) (by decide) (by decide) (by decide) (by decide) (g := (mkF m 36 #[rv ob_917, rv ob_480, iv 0, iv 2, .val .null, .unset] [(.int 2), (.int 0), (.ref ob_480)])) rfl (by rw [hml]; rfl) (argsL := [(.ref ob_480), (.int 0), (.int 2)]) (rest := []) rfl (lenOf own_pd9 rfl) rfl (by show 2 * 0 + _ ≤ _; exact Nat.le_of_eq rfl) (hb hby dd9_36)
  refine oS s1025 ?_
  obtain ⟨ob_1026, kk_1027, rfl, N1028, K1029, F1030, F1031, F1032, F1033⟩ := q1024
  have N1034 := Fr.app N0 N1028
  have z1035 := K1029.1
  show own_G p e below (T1018.setTop (mkF m 39 #[rv ob_917, rv ob_480, iv 0, iv 2, .val .null, .unset] [(.ref ob_1026)])) _
  refine oS (fun _ => XS.astore X1022.here hx rfl (hb hby dd9_39) rfl rfl (l' := #[rv ob_917, rv ob_480, iv 0, iv 2, .val .null, rv ob_1026]) rfl) ?_
  refine oS (fun _ => XS.aloadN X1022.here hx rfl (hb hby dd9_41) rfl rfl) ?_
  refine oS (fun _ => XS.aload X1022.here hx rfl (hb hby dd9_42) rfl rfl) ?_
  refine oS (fun _ => XS.iloadN X1022.here hx rfl (hb hby dd9_44) rfl) ?_
  show own_G p e below (T1018.setTop (mkF m 45 #[rv ob_917, rv ob_480, iv 0, iv 2, .val .null, rv ob_1026] [(.int 2), (.ref ob_1026), (.ref ob_917)])) _
  have O1037 : Old Z n0 h1019 := O0.keep K1029 all0
  have Z1038 : n0 ≤ h1019.size := by omega
  obtain ⟨T1039, h1040, v1041, L1042, X1043, e1044, q1045, s1046⟩ := own_callS X1022 hx hZ hown e1023 (y := (⟨"java/lang/StringUTF16", "coderFromArrayLen", "([BI)B"⟩ : MethodName)) (oW hw 113 rfl) (oW hw 114 rfl) (oW hw 108 rfl) (oW hw 115 rfl) (by decide) (W := 1) (own_rm16 l Z a0 hw [] ob_1026 kk_1027 in_484 in_500 h1019 n0 Z1038 O1037 F1031) (by decide) (by decide) (by decide) (by decide) (g := (mkF m 45 #[rv ob_917, rv ob_480, iv 0, iv 2, .val .null, rv ob_1026] [(.int 2), (.ref ob_1026), (.ref ob_917)])) rfl (by rw [hml]; rfl) (argsL := [(.ref ob_1026), (.int 2)]) (rest := [(.ref ob_917)]) rfl (lenOf own_pd10 rfl) rfl (by show 2 * 0 + _ ≤ _; exact Nat.le_of_eq rfl) (hb hby dd9_45)
  refine oS s1046 ?_
  obtain ⟨rfl, N1047, K1048⟩ := q1045
  have N1049 := Fr.app N1034 N1047
  have e1050 := e1044.trans K1048
  show own_G p e below (T1039.setTop (mkF m 48 #[rv ob_917, rv ob_480, iv 0, iv 2, .val .null, rv ob_1026] [(.int 0), (.ref ob_917)])) _
  have F1053 : Fld Z h1019 ob_917 "java/lang/String" "coder" "B" (.int 0) := I1052.keep K1029 nin0
  have F1056 : Exa Z h1019 ob_917 "java/lang/String" := I1055.keep K1029
  obtain ⟨T1057, h1058, X1059, e1060, W1061, s1062⟩ := putF X1043 hx hZ hown (host := "") (Or.inl (oW hw 72 rfl)) Via.refl e1050 F1053 F1056 (Or.inr ⟨(oW hw 73 rfl), rfl, hnm⟩) (oW hw 58 rfl) (ty := .byte) (by decide) (by decide) (by decide) (g := (mkF m 48 #[rv ob_917, rv ob_480, iv 0, iv 2, .val .null, rv ob_1026] [(.int 0), (.ref ob_917)])) rfl rfl (hb hby dd9_48)
  have N1063 := Fr.snoc X1059 N1049 I1066
  have z1067 := W1061.size
  have F1068 : Fld Z h1058 ob_917 "java/lang/String" "coder" "B" (.int 0) := Fld.same W1061 F1053
  refine oS s1062 ?_
  show own_G p e below (T1057.setTop (mkF m 51 #[rv ob_917, rv ob_480, iv 0, iv 2, .val .null, rv ob_1026] [])) _
  refine oS (fun _ => XS.aloadN X1059.here hx rfl (hb hby dd9_51) rfl rfl) ?_
  refine oS (fun _ => XS.aload X1059.here hx rfl (hb hby dd9_52) rfl rfl) ?_
  have F1071 : Fld Z h1019 ob_917 "java/lang/String" "value" "[B" .null := I1070.keep K1029 nin0
  have F1072 : Fld Z h1058 ob_917 "java/lang/String" "value" "[B" .null := Fld.other W1061 F1071 (Or.inr (slot_ne (C := "java/lang/String") (Or.inr (oW hw 71 rfl)) (Or.inr (oW hw 73 rfl)) (by decide) (t := (.array .byte)) (t' := .byte) (by decide) (by decide)))
  have F1073 : Exa Z h1058 ob_917 "java/lang/String" := Exa.wr W1061 F1056
  obtain ⟨T1074, h1075, X1076, e1077, W1078, s1079⟩ := putF X1059 hx hZ hown (host := "") (Or.inl (oW hw 70 rfl)) Via.refl e1060 F1072 F1073 (Or.inr ⟨(oW hw 71 rfl), rfl, hnm⟩) (oW hw 58 rfl) (ty := (.array .byte)) (by decide) rfl rfl (g := (mkF m 54 #[rv ob_917, rv ob_480, iv 0, iv 2, .val .null, rv ob_1026] [(.ref ob_1026), (.ref ob_917)])) rfl rfl (hb hby dd9_54)
  have N1080 := Fr.snoc X1076 N1063 I1066
  have z1081 := W1078.size
  have F1082 : Fld Z h1075 ob_917 "java/lang/String" "value" "[B" (.ref ob_1026) := Fld.same W1078 F1072
  refine oS s1079 ?_
  show own_G p e below (T1074.setTop (mkF m 57 #[rv ob_917, rv ob_480, iv 0, iv 2, .val .null, rv ob_1026] [])) _
  have F1083 : Fld Z h1075 ob_917 "java/lang/String" "coder" "B" (.int 0) := Fld.other W1078 F1068 (Or.inr (slot_ne (C := "java/lang/String") (Or.inr (oW hw 73 rfl)) (Or.inr (oW hw 71 rfl)) (by decide) (t := .byte) (t' := (.array .byte)) (by decide) (by decide)))
  have F1084 : Exa Z h1075 ob_917 "java/lang/String" := Exa.wr W1078 F1073
  have N1089 : @Ne Nat ob_1026 ob_917 := by omega
  have F1090 : Arv Z h1058 ob_1026 kk_1027 .byte 2 [(.int (in_484.toInt8.toInt32)), (.int (in_500.toInt8.toInt32))] (.int 0) := F1031.other W1061 N1089
  have F1091 : Arv Z h1075 ob_1026 kk_1027 .byte 2 [(.int (in_484.toInt8.toInt32)), (.int (in_500.toInt8.toInt32))] (.int 0) := F1090.other W1078 N1089
  have F1092 : Exa Z h1058 ob_1026 "[B" := Exa.wr W1061 F1032
  have F1093 : Exa Z h1075 ob_1026 "[B" := Exa.wr W1078 F1092
  have y1094 : @LT.lt Nat instLTNat ob_1026 h1075.size := by omega
  have K1095 : Keep h0 h1075 [ob_917] := ((((Keep.refl h0 [ob_917]).trans K1029 all0).wr W1061 (Or.inl (by simp))).wr W1078 (Or.inl (by simp)))
  exact own_retV X1076 hx Bd.notSynchronized Bd.returns (hb hby dd9_57) e1077 (by decide) (by decide) (⟨ob_1026, kk_1027, rfl, N1080, K1095, (by omega), F1083, F1084, F1082, F1091, F1093, y1094⟩)
theorem own_pd11 : parseMethodDescriptor "([CIILjava/lang/Void;)V" = some ⟨[(.array .char), .int, .int, (.object "java/lang/Void")], none⟩ := by decide +kernel
theorem dd8_6 : decode jdk_42_method_3_code 6 = .ok (.invokespecial 27, 3) := by decide +kernel
theorem dd8_9 : decode jdk_42_method_3_code 9 = .ok (.return_, 1) := by decide +kernel
def own_Q12 (Z : State) (ob_917 : Nat) (ob_480 : Nat) (kk_478 : ClassId) (in_484 : Int32) (in_500 : Int32) (in_7 : Int32) (h0 : Heap) (n0 : Nat) (v : Option Value) (h : Heap) (L : List Loc) : Prop := (∃ ob_1104 : Nat, ∃ kk_1105 : ClassId, v = none ∧ Fr n0 L ∧ Keep h0 h [ob_917] ∧ h0.size ≤ ob_1104 ∧ Fld Z h ob_917 "java/lang/String" "coder" "B" (.int 0) ∧ Exa Z h ob_917 "java/lang/String" ∧ Fld Z h ob_917 "java/lang/String" "value" "[B" (.ref ob_1104) ∧ Arv Z h ob_1104 kk_1105 .byte 2 [(.int (in_484.toInt8.toInt32)), (.int (in_500.toInt8.toInt32))] (.int 0) ∧ Exa Z h ob_1104 "[B" ∧ @LT.lt Nat instLTNat ob_1104 h.size)
theorem own_pn12 : plainFor (⟨"java/lang/String", "<init>", "([C)V"⟩ : MethodName) = true := by decide +kernel
set_option maxRecDepth 65536 in
set_option maxHeartbeats 40000000 in
theorem own_rm12 (l : Launch) (Z : State) (a0 : Array Value) (hw : ∀ d ∈ tables_1, d.before a0 Z = true) (ws : List Jvm.Cond) (ob_917 : Nat) (ob_480 : Nat) (kk_478 : ClassId) (in_484 : Int32) (in_500 : Int32) (in_7 : Int32) (h0 : Heap) (n0 : Nat) (Z0 : n0 ≤ h0.size) (O0 : Old Z n0 h0) (I923 : Arv Z h0 ob_480 kk_478 .char 2 [(.int in_484), (.int in_500)] (.int 0)) (I928 : Sta Z Z.heap "java/lang/String" "COMPACT_STRINGS" "Z" (.int in_7)) (I935 : ¬ (in_7 = 0)) (I956 : ¬ (255 < in_484)) (I974 : @LT.lt Nat instLTNat ob_480 h0.size) (I982 : ¬ (255 < in_500)) (I1051 : Fld Z h0 ob_917 "java/lang/String" "coder" "B" (.int 0)) (I1054 : Exa Z h0 ob_917 "java/lang/String") (I1065 : n0 ≤ ob_917) (I1069 : Fld Z h0 ob_917 "java/lang/String" "value" "[B" .null) (I1086 : @LT.lt Nat instLTNat ob_917 h0.size) :
    own_Met l Z h0 (⟨"java/lang/String", "<init>", "([C)V"⟩ : MethodName) jdk_42_method_3_code 2 (Option.none : Option FieldType) ws ({ frames := 3, cells := 1, slots := 2, locals := 52 } : Room) #[(.ref ob_917), (.ref ob_480)] (own_Q12 Z ob_917 ob_480 kk_478 in_484 in_500 in_7 h0 n0) 1 2 := by
  refine MetFree.of_bodySF own_pn12 hisR ?_
  intro p e s m args below meth c s₁ Bd hml0 hP hK
  obtain ⟨rfl, hZ, hh⟩ := hP
  have hx := Bd.exec
  have hby := Bd.bytes
  have hml : c.maxLocals = 2 := hml0
  have hown : s.vm.findClass "java/lang/String" = some m.cls := findClass_of_methodNamed Bd.named
  have hnm := (name_of_methodNamed Bd.named Bd.method).1
  have X0 : Stand p l e ({ frames := 3, cells := 1, slots := 2, locals := 52 } : Room) s m #[(.ref ob_917), (.ref ob_480)] below meth c s₁ [] 0 0 := Stand.of_body Bd
  have e0 : s₁.heap = h0 := by rw [← hh, Bd.state]; rfl
  have N0 := Fr.nil n0
  show own_G p e below (s₁.setTop (entryFrame m #[(.ref ob_917), (.ref ob_480)] 2)) (own_P s (own_Q12 Z ob_917 ob_480 kk_478 in_484 in_500 in_7 h0 n0) 1 2)
  refine own_cast (own_ef6 m ob_917 ob_480) ?_
  show own_G p e below (s₁.setTop (mkF m 0 #[rv ob_917, rv ob_480] [])) _
  refine oS (fun _ => XS.aloadN X0.here hx rfl (hb hby dd8_0) rfl rfl) ?_
  refine oS (fun _ => XS.aloadN X0.here hx rfl (hb hby dd8_1) rfl rfl) ?_
  refine oS (fun _ => XS.iconst X0.here hx rfl (hb hby dd8_2) ) ?_
  refine oS (fun _ => XS.aloadN X0.here hx rfl (hb hby dd8_3) rfl rfl) ?_
  show own_G p e below (s₁.setTop (mkF m 4 #[rv ob_917, rv ob_480] [(.ref ob_480), (.int 0), (.ref ob_480), (.ref ob_917)])) _
  refine oS (own_len X0 hx hZ e0 I923 rfl rfl (hb hby dd8_4)) ?_
  show own_G p e below (s₁.setTop (mkF m 5 #[rv ob_917, rv ob_480] [(.int 2), (.int 0), (.ref ob_480), (.ref ob_917)])) _
  refine oS (fun _ => XS.aconstNull X0.here hx rfl (hb hby dd8_5) ) ?_
  have y975 : @LT.lt Nat instLTNat ob_480 h0.size := by omega
  have y1087 : @LT.lt Nat instLTNat ob_917 h0.size := by omega
  obtain ⟨T1096, h1097, v1098, L1099, X1100, e1101, q1102, s1103⟩ := own_callN X0 hx hZ hown e0 (y := (⟨"java/lang/String", "<init>", "([CIILjava/lang/Void;)V"⟩ : MethodName)) (b := ob_917) rfl (oW hw 103 rfl) (oW hw 104 rfl) (oW hw 50 rfl) (oW hw 105 rfl) (by decide) (W := 0) (own_rm13 l Z a0 hw [] ob_917 ob_480 in_7 kk_478 in_484 in_500 h0 n0 Z0 O0 I928 I935 I923 I956 y975 I982 I1051 I1054 I1065 I1069 y1087) (by decide) (by decide) (by decide) (by decide) (g := (mkF m 6 #[rv ob_917, rv ob_480] [.null, (.int 2), (.int 0), (.ref ob_480), (.ref ob_917)])) rfl (by rw [hml]; rfl) (argsL := [(.ref ob_480), (.int 0), (.int 2), .null]) (rest := []) rfl (lenOf own_pd11 rfl) rfl (by show 2 * 0 + _ ≤ _; exact Nat.le_of_eq rfl) (hb hby dd8_6)
  refine oS s1103 ?_
  obtain ⟨ob_1104, kk_1105, rfl, N1106, K1107, F1108, F1109, F1110, F1111, F1112, F1113, F1114⟩ := q1102
  have N1115 := Fr.app N0 N1106
  have z1116 := K1107.1
  show own_G p e below (T1096.setTop (mkF m 9 #[rv ob_917, rv ob_480] [])) _
  have y1117 : @LT.lt Nat instLTNat ob_1104 h1097.size := by omega
  have K1118 : Keep h0 h1097 [ob_917] := ((Keep.refl h0 [ob_917]).trans K1107 (allS (Or.inl (by simp)) all0))
  exact own_retV X1100 hx Bd.notSynchronized Bd.returns (hb hby dd8_9) e1101 (by decide) (by decide) (⟨ob_1104, kk_1105, rfl, N1115, K1118, (by omega), F1109, F1110, F1111, F1112, F1113, y1117⟩)
theorem own_pd12 : parseMethodDescriptor "([C)V" = some ⟨[(.array .char)], none⟩ := by decide +kernel
def own_Q1 (Z : State) (in_1 : Int32) (in_2 : Int32) (in_3 : Int32) (in_4 : Int32) (in_5 : Int32) (in_6 : Int32) (ob_9 : Nat) (ob_10 : Nat) (ob_11 : Nat) (ob_12 : Nat) (ob_13 : Nat) (ob_14 : Nat) (ob_15 : Nat) (ob_16 : Nat) (ob_17 : Nat) (ob_18 : Nat) (ob_19 : Nat) (ob_20 : Nat) (ob_21 : Nat) (ob_22 : Nat) (ob_23 : Nat) (ob_24 : Nat) (ob_25 : Nat) (ob_26 : Nat) (ob_27 : Nat) (in_7 : Int32) (h0 : Heap) (n0 : Nat) (v : Option Value) (h : Heap) (L : List Loc) : Prop := (v = some (.int 1) ∧ Fr n0 L)
theorem own_pn13 : plainFor x = true := by decide +kernel
set_option maxRecDepth 65536 in
set_option maxHeartbeats 40000000 in
theorem own_rm1 (l : Launch) (Z : State) (a0 : Array Value) (hw : ∀ d ∈ tables_1, d.before a0 Z = true) (ws : List Jvm.Cond) (in_1 : Int32) (in_2 : Int32) (in_3 : Int32) (in_4 : Int32) (in_5 : Int32) (in_6 : Int32) (ob_9 : Nat) (ob_10 : Nat) (ob_11 : Nat) (ob_12 : Nat) (ob_13 : Nat) (ob_14 : Nat) (ob_15 : Nat) (ob_16 : Nat) (ob_17 : Nat) (ob_18 : Nat) (ob_19 : Nat) (ob_20 : Nat) (ob_21 : Nat) (ob_22 : Nat) (ob_23 : Nat) (ob_24 : Nat) (ob_25 : Nat) (ob_26 : Nat) (ob_27 : Nat) (in_7 : Int32) (h0 : Heap) (n0 : Nat) (Z0 : n0 ≤ h0.size) (O0 : Old Z n0 h0) (I42 : Sta Z Z.heap "com/example/tuplewise/tuplewise/lang/Token$Kind" "NAME" "Lcom/example/tuplewise/tuplewise/lang/Token$Kind;" (.ref ob_9)) (I57 : Exa Z Z.heap ob_9 "com/example/tuplewise/tuplewise/lang/Token$Kind") (I64 : Sta Z Z.heap "com/example/tuplewise/tuplewise/lang/Token$Kind" "VARIABLE" "Lcom/example/tuplewise/tuplewise/lang/Token$Kind;" (.ref ob_10)) (I79 : Exa Z Z.heap ob_10 "com/example/tuplewise/tuplewise/lang/Token$Kind") (I85 : Sta Z Z.heap "com/example/tuplewise/tuplewise/lang/Token$Kind" "STRING" "Lcom/example/tuplewise/tuplewise/lang/Token$Kind;" (.ref ob_11)) (I100 : Exa Z Z.heap ob_11 "com/example/tuplewise/tuplewise/lang/Token$Kind") (I106 : Sta Z Z.heap "com/example/tuplewise/tuplewise/lang/Token$Kind" "INTEGER" "Lcom/example/tuplewise/tuplewise/lang/Token$Kind;" (.ref ob_12)) (I121 : Exa Z Z.heap ob_12 "com/example/tuplewise/tuplewise/lang/Token$Kind") (I127 : Sta Z Z.heap "com/example/tuplewise/tuplewise/lang/Token$Kind" "DECIMAL" "Lcom/example/tuplewise/tuplewise/lang/Token$Kind;" (.ref ob_13)) (I142 : Exa Z Z.heap ob_13 "com/example/tuplewise/tuplewise/lang/Token$Kind") (I148 : Sta Z Z.heap "com/example/tuplewise/tuplewise/lang/Token$Kind" "OPERATOR" "Lcom/example/tuplewise/tuplewise/lang/Token$Kind;" (.ref ob_14)) (I163 : Exa Z Z.heap ob_14 "com/example/tuplewise/tuplewise/lang/Token$Kind") (I169 : Sta Z Z.heap "com/example/tuplewise/tuplewise/lang/Token$Kind" "COMPOUND_ASSIGNMENT" "Lcom/example/tuplewise/tuplewise/lang/Token$Kind;" (.ref ob_15)) (I184 : Exa Z Z.heap ob_15 "com/example/tuplewise/tuplewise/lang/Token$Kind") (I190 : Sta Z Z.heap "com/example/tuplewise/tuplewise/lang/Token$Kind" "LEFT_BRACE" "Lcom/example/tuplewise/tuplewise/lang/Token$Kind;" (.ref ob_16)) (I205 : Exa Z Z.heap ob_16 "com/example/tuplewise/tuplewise/lang/Token$Kind") (I211 : Sta Z Z.heap "com/example/tuplewise/tuplewise/lang/Token$Kind" "RIGHT_BRACE" "Lcom/example/tuplewise/tuplewise/lang/Token$Kind;" (.ref ob_17)) (I226 : Exa Z Z.heap ob_17 "com/example/tuplewise/tuplewise/lang/Token$Kind") (I232 : Sta Z Z.heap "com/example/tuplewise/tuplewise/lang/Token$Kind" "LEFT_PAREN" "Lcom/example/tuplewise/tuplewise/lang/Token$Kind;" (.ref ob_18)) (I247 : Exa Z Z.heap ob_18 "com/example/tuplewise/tuplewise/lang/Token$Kind") (I253 : Sta Z Z.heap "com/example/tuplewise/tuplewise/lang/Token$Kind" "RIGHT_PAREN" "Lcom/example/tuplewise/tuplewise/lang/Token$Kind;" (.ref ob_19)) (I268 : Exa Z Z.heap ob_19 "com/example/tuplewise/tuplewise/lang/Token$Kind") (I274 : Sta Z Z.heap "com/example/tuplewise/tuplewise/lang/Token$Kind" "LEFT_BRACKET" "Lcom/example/tuplewise/tuplewise/lang/Token$Kind;" (.ref ob_20)) (I289 : Exa Z Z.heap ob_20 "com/example/tuplewise/tuplewise/lang/Token$Kind") (I295 : Sta Z Z.heap "com/example/tuplewise/tuplewise/lang/Token$Kind" "RIGHT_BRACKET" "Lcom/example/tuplewise/tuplewise/lang/Token$Kind;" (.ref ob_21)) (I310 : Exa Z Z.heap ob_21 "com/example/tuplewise/tuplewise/lang/Token$Kind") (I316 : Sta Z Z.heap "com/example/tuplewise/tuplewise/lang/Token$Kind" "SEMICOLON" "Lcom/example/tuplewise/tuplewise/lang/Token$Kind;" (.ref ob_22)) (I331 : Exa Z Z.heap ob_22 "com/example/tuplewise/tuplewise/lang/Token$Kind") (I337 : Sta Z Z.heap "com/example/tuplewise/tuplewise/lang/Token$Kind" "COLON" "Lcom/example/tuplewise/tuplewise/lang/Token$Kind;" (.ref ob_23)) (I352 : Exa Z Z.heap ob_23 "com/example/tuplewise/tuplewise/lang/Token$Kind") (I358 : Sta Z Z.heap "com/example/tuplewise/tuplewise/lang/Token$Kind" "COMMA" "Lcom/example/tuplewise/tuplewise/lang/Token$Kind;" (.ref ob_24)) (I373 : Exa Z Z.heap ob_24 "com/example/tuplewise/tuplewise/lang/Token$Kind") (I379 : Sta Z Z.heap "com/example/tuplewise/tuplewise/lang/Token$Kind" "DOT" "Lcom/example/tuplewise/tuplewise/lang/Token$Kind;" (.ref ob_25)) (I394 : Exa Z Z.heap ob_25 "com/example/tuplewise/tuplewise/lang/Token$Kind") (I400 : Sta Z Z.heap "com/example/tuplewise/tuplewise/lang/Token$Kind" "EQUALS" "Lcom/example/tuplewise/tuplewise/lang/Token$Kind;" (.ref ob_26)) (I415 : Exa Z Z.heap ob_26 "com/example/tuplewise/tuplewise/lang/Token$Kind") (I421 : Sta Z Z.heap "com/example/tuplewise/tuplewise/lang/Token$Kind" "END" "Lcom/example/tuplewise/tuplewise/lang/Token$Kind;" (.ref ob_27)) (I436 : Exa Z Z.heap ob_27 "com/example/tuplewise/tuplewise/lang/Token$Kind") (I521 : Sta Z Z.heap "java/lang/String" "COMPACT_STRINGS" "Z" (.int in_7)) (I528 : ¬ (in_7 = 0)) (I718 : Fld Z Z.heap ob_9 "java/lang/Enum" "ordinal" "I" (.int 0)) (I719 : Fld Z Z.heap ob_10 "java/lang/Enum" "ordinal" "I" (.int 1)) (I720 : Fld Z Z.heap ob_11 "java/lang/Enum" "ordinal" "I" (.int 2)) (I721 : Fld Z Z.heap ob_12 "java/lang/Enum" "ordinal" "I" (.int 3)) (I722 : Fld Z Z.heap ob_13 "java/lang/Enum" "ordinal" "I" (.int 4)) (I723 : Fld Z Z.heap ob_14 "java/lang/Enum" "ordinal" "I" (.int 5)) (I724 : Fld Z Z.heap ob_15 "java/lang/Enum" "ordinal" "I" (.int 6)) (I725 : Fld Z Z.heap ob_16 "java/lang/Enum" "ordinal" "I" (.int 7)) (I726 : Fld Z Z.heap ob_17 "java/lang/Enum" "ordinal" "I" (.int 8)) (I727 : Fld Z Z.heap ob_18 "java/lang/Enum" "ordinal" "I" (.int 9)) (I728 : Fld Z Z.heap ob_19 "java/lang/Enum" "ordinal" "I" (.int 10)) (I729 : Fld Z Z.heap ob_20 "java/lang/Enum" "ordinal" "I" (.int 11)) (I730 : Fld Z Z.heap ob_21 "java/lang/Enum" "ordinal" "I" (.int 12)) (I731 : Fld Z Z.heap ob_22 "java/lang/Enum" "ordinal" "I" (.int 13)) (I732 : Fld Z Z.heap ob_23 "java/lang/Enum" "ordinal" "I" (.int 14)) (I733 : Fld Z Z.heap ob_24 "java/lang/Enum" "ordinal" "I" (.int 15)) (I734 : Fld Z Z.heap ob_25 "java/lang/Enum" "ordinal" "I" (.int 16)) (I735 : Fld Z Z.heap ob_26 "java/lang/Enum" "ordinal" "I" (.int 17)) (I736 : Fld Z Z.heap ob_27 "java/lang/Enum" "ordinal" "I" (.int 18)) :
    own_Met l Z h0 x code maxLocals ret ws room_1 #[(.int in_1), (.int in_2), (.int in_3), (.int in_4), (.int in_5), (.int in_6)] (own_Q1 Z in_1 in_2 in_3 in_4 in_5 in_6 ob_9 ob_10 ob_11 ob_12 ob_13 ob_14 ob_15 ob_16 ob_17 ob_18 ob_19 ob_20 ob_21 ob_22 ob_23 ob_24 ob_25 ob_26 ob_27 in_7 h0 n0) 24 128 := by
  refine MetFree.of_bodySF own_pn13 hisR ?_
  intro p e s m args below meth c s₁ Bd hml0 hP hK
  obtain ⟨rfl, hZ, hh⟩ := hP
  have hx := Bd.exec
  have hby := Bd.bytes
  have hml : c.maxLocals = 14 := hml0
  have hown : s.vm.findClass "com/example/tuplewise/tuplewise/lang/TokenIsPinLaw" = some m.cls := findClass_of_methodNamed Bd.named
  have hnm := (name_of_methodNamed Bd.named Bd.method).1
  have X0 : Stand p l e room_1 s m #[(.int in_1), (.int in_2), (.int in_3), (.int in_4), (.int in_5), (.int in_6)] below meth c s₁ [] 0 0 := Stand.of_body Bd
  have e0 : s₁.heap = h0 := by rw [← hh, Bd.state]; rfl
  have N0 := Fr.nil n0
  show own_G p e below (s₁.setTop (entryFrame m #[(.int in_1), (.int in_2), (.int in_3), (.int in_4), (.int in_5), (.int in_6)] maxLocals)) (own_P s (own_Q1 Z in_1 in_2 in_3 in_4 in_5 in_6 ob_9 ob_10 ob_11 ob_12 ob_13 ob_14 ob_15 ob_16 ob_17 ob_18 ob_19 ob_20 ob_21 ob_22 ob_23 ob_24 ob_25 ob_26 ob_27 in_7 h0 n0) 24 128)
  refine own_cast (own_ef0 m in_1 in_2 in_3 in_4 in_5 in_6) ?_
  show own_G p e below (s₁.setTop (mkF m 0 #[iv in_1, iv in_2, iv in_3, iv in_4, iv in_5, iv in_6, .unset, .unset, .unset, .unset, .unset, .unset, .unset, .unset] [])) _
  obtain ⟨T444, h445, v446, L447, X448, e449, q450, s451⟩ := own_callS X0 hx hZ hown e0 (y := (⟨"com/example/tuplewise/tuplewise/lang/TokenIsPinLaw", "kinds", "()[Lcom/example/tuplewise/tuplewise/lang/Token$Kind;"⟩ : MethodName)) (oW hw 0 rfl) (oW hw 1 rfl) (oW hw 2 rfl) (oW hw 3 rfl) (by decide) (W := 0) (own_rm2 l Z a0 hw [] ob_9 ob_10 ob_11 ob_12 ob_13 ob_14 ob_15 ob_16 ob_17 ob_18 ob_19 ob_20 ob_21 ob_22 ob_23 ob_24 ob_25 ob_26 ob_27 h0 n0 Z0 O0 I42 I57 I64 I79 I85 I100 I106 I121 I127 I142 I148 I163 I169 I184 I190 I205 I211 I226 I232 I247 I253 I268 I274 I289 I295 I310 I316 I331 I337 I352 I358 I373 I379 I394 I400 I415 I421 I436) (by decide) (by decide) (by decide) (by decide) (g := (mkF m 0 #[iv in_1, iv in_2, iv in_3, iv in_4, iv in_5, iv in_6, .unset, .unset, .unset, .unset, .unset, .unset, .unset, .unset] [])) rfl (by rw [hml]; rfl) (argsL := []) (rest := []) rfl (lenOf own_pd0 rfl) rfl (by show 2 * 0 + _ ≤ _; exact Nat.le_of_eq rfl) (hb hby at_0)
  refine oS s451 ?_
  obtain ⟨ob_452, kk_453, rfl, N454, K455, F456, F457, F458, F459⟩ := q450
  have N460 := Fr.app N0 N454
  have z461 := K455.1
  show own_G p e below (T444.setTop (mkF m 3 #[iv in_1, iv in_2, iv in_3, iv in_4, iv in_5, iv in_6, .unset, .unset, .unset, .unset, .unset, .unset, .unset, .unset] [(.ref ob_452)])) _
  refine oS (fun _ => XS.astore X448.here hx rfl (hb hby at_3) rfl rfl (l' := #[iv in_1, iv in_2, iv in_3, iv in_4, iv in_5, iv in_6, rv ob_452, .unset, .unset, .unset, .unset, .unset, .unset, .unset]) rfl) ?_
  refine oS (fun _ => XS.iloadN X448.here hx rfl (hb hby at_5) rfl) ?_
  refine oS (fun _ => X448.ldcI hx hown (mvT hZ (oW hw 46 rfl)) rfl (hb hby at_6)) ?_
  show own_G p e below (T444.setTop (mkF m 8 #[iv in_1, iv in_2, iv in_3, iv in_4, iv in_5, iv in_6, rv ob_452, .unset, .unset, .unset, .unset, .unset, .unset, .unset] [(.int 2147483647), (.int in_1)])) _
  refine oS (fun _ => XS.iand X448.here hx rfl (hb hby at_8) rfl) ?_
  refine oS (fun _ => XS.bipush X448.here hx rfl (hb hby at_9) ) ?_
  refine oS (fun _ => iremM X448 hx rfl (hb hby at_11) rfl (by decide)) ?_
  show own_G p e below (T444.setTop (mkF m 12 #[iv in_1, iv in_2, iv in_3, iv in_4, iv in_5, iv in_6, rv ob_452, .unset, .unset, .unset, .unset, .unset, .unset, .unset] [(.int ((in_1 &&& 2147483647) % 19))])) _
  obtain ⟨in_462, q463, b464⟩ := own_nm19 in_1
  refine own_cast (g' := (mkF m 12 #[iv in_1, iv in_2, iv in_3, iv in_4, iv in_5, iv in_6, rv ob_452, .unset, .unset, .unset, .unset, .unset, .unset, .unset] [(.int in_462)])) (by rw [q463]) ?_
  refine oS (fun _ => XS.istore X448.here hx rfl (hb hby at_12) rfl (l' := #[iv in_1, iv in_2, iv in_3, iv in_4, iv in_5, iv in_6, rv ob_452, iv in_462, .unset, .unset, .unset, .unset, .unset, .unset]) rfl) ?_
  refine oS (fun _ => XS.iload X448.here hx rfl (hb hby at_14) rfl) ?_
  refine oS (fun _ => XS.iconst X448.here hx rfl (hb hby at_16) ) ?_
  refine oS (fun _ => XS.iand X448.here hx rfl (hb hby at_17) rfl) ?_
  show own_G p e below (T444.setTop (mkF m 18 #[iv in_1, iv in_2, iv in_3, iv in_4, iv in_5, iv in_6, rv ob_452, iv in_462, .unset, .unset, .unset, .unset, .unset, .unset] [(.int (in_6 &&& 1))])) _
  by_cases b465 : (in_6 &&& 1) = 0
  · skip
    refine oS (fun _ => XS.ifYes X448.here hx rfl (pc0 := 18) (pc' := 26) rfl (hb hby at_18) rfl (XT.i0_eq_t b465) (by decide) (by decide)) ?_
    show own_G p e below (T444.setTop (mkF m 26 #[iv in_1, iv in_2, iv in_3, iv in_4, iv in_5, iv in_6, rv ob_452, iv in_462, .unset, .unset, .unset, .unset, .unset, .unset] [])) _
    refine oS (fun _ => XS.iloadN X448.here hx rfl (hb hby at_26) rfl) ?_
    refine oS (fun _ => X448.ldcI hx hown (mvT hZ (oW hw 46 rfl)) rfl (hb hby at_27)) ?_
    show own_G p e below (T444.setTop (mkF m 29 #[iv in_1, iv in_2, iv in_3, iv in_4, iv in_5, iv in_6, rv ob_452, iv in_462, .unset, .unset, .unset, .unset, .unset, .unset] [(.int 2147483647), (.int in_2)])) _
    refine oS (fun _ => XS.iand X448.here hx rfl (hb hby at_29) rfl) ?_
    refine oS (fun _ => XS.bipush X448.here hx rfl (hb hby at_30) ) ?_
    refine oS (fun _ => iremM X448 hx rfl (hb hby at_32) rfl (by decide)) ?_
    show own_G p e below (T444.setTop (mkF m 33 #[iv in_1, iv in_2, iv in_3, iv in_4, iv in_5, iv in_6, rv ob_452, iv in_462, .unset, .unset, .unset, .unset, .unset, .unset] [(.int ((in_2 &&& 2147483647) % 19))])) _
    obtain ⟨in_466, q467, b468⟩ := own_nm19 in_2
    refine own_cast (g' := (mkF m 33 #[iv in_1, iv in_2, iv in_3, iv in_4, iv in_5, iv in_6, rv ob_452, iv in_462, .unset, .unset, .unset, .unset, .unset, .unset] [(.int in_466)])) (by rw [q467]) ?_
    refine oS (fun _ => XS.istore X448.here hx rfl (hb hby at_33) rfl (l' := #[iv in_1, iv in_2, iv in_3, iv in_4, iv in_5, iv in_6, rv ob_452, iv in_462, iv in_466, .unset, .unset, .unset, .unset, .unset]) rfl) ?_
    refine oS (fun _ => XS.iconst X448.here hx rfl (hb hby at_35) ) ?_
    obtain ⟨T469, h470, kk_478, X472, e473, E474, A475, B479, s476⟩ := own_newP X448 hx hZ (aty := .char) (oW hw 47 rfl) e449 (nm := "[C") rfl (g := (mkF m 36 #[iv in_1, iv in_2, iv in_3, iv in_4, iv in_5, iv in_6, rv ob_452, iv in_462, iv in_466, .unset, .unset, .unset, .unset, .unset] [(.int 2)])) rfl (hb hby at_36) (n := 2) (rest := []) rfl (by decide) (cap := 2) (by decide) (by decide) (by decide) (by decide)
    obtain ⟨ob_480, g481⟩ : ∃ z, z = h445.size := ⟨_, rfl⟩
    rw [← g481] at A475 B479 s476
    have F482 : Arv Z h470 ob_480 kk_478 .char 2 [(.int 0), (.int 0)] (.int 0) := own_newA A475 (by decide) rfl rfl
    have z483 := E474.1
    have y477 : @LT.lt Nat instLTNat ob_480 h470.size := F482.lt
    refine oS s476 ?_
    show own_G p e below (T469.setTop (mkF m 38 #[iv in_1, iv in_2, iv in_3, iv in_4, iv in_5, iv in_6, rv ob_452, iv in_462, iv in_466, .unset, .unset, .unset, .unset, .unset] [(.ref ob_480)])) _
    refine oS (fun _ => XS.dup X472.here hx rfl (hb hby at_38) rfl rfl) ?_
    refine oS (fun _ => XS.iconst X472.here hx rfl (hb hby at_39) ) ?_
    refine oS (fun _ => XS.iloadN X472.here hx rfl (hb hby at_40) rfl) ?_
    refine oS (fun _ => XS.sipush X472.here hx rfl (hb hby at_41) ) ?_
    show own_G p e below (T469.setTop (mkF m 44 #[iv in_1, iv in_2, iv in_3, iv in_4, iv in_5, iv in_6, rv ob_452, iv in_462, iv in_466, .unset, .unset, .unset, .unset, .unset] [(.int 255), (.int in_3), (.int 0), (.ref ob_480), (.ref ob_480)])) _
    refine oS (fun _ => XS.iand X472.here hx rfl (hb hby at_44) rfl) ?_
    refine oS (fun _ => XT.i2c X472.here hx rfl (hb hby at_45) rfl) ?_
    show own_G p e below (T469.setTop (mkF m 46 #[iv in_1, iv in_2, iv in_3, iv in_4, iv in_5, iv in_6, rv ob_452, iv in_462, iv in_466, .unset, .unset, .unset, .unset, .unset] [(.int ((in_3 &&& 255).toUInt32.toUInt16.toUInt32.toInt32)), (.int 0), (.ref ob_480), (.ref ob_480)])) _
    obtain ⟨in_484, q485, b486, b487, b488⟩ := own_chr in_3
    refine own_cast (g' := (mkF m 46 #[iv in_1, iv in_2, iv in_3, iv in_4, iv in_5, iv in_6, rv ob_452, iv in_462, iv in_466, .unset, .unset, .unset, .unset, .unset] [(.int in_484), (.int 0), (.ref ob_480), (.ref ob_480)])) (by rw [q485]) ?_
    obtain ⟨T489, h490, X491, e492, W493, A494, s495⟩ := own_stC X472 hx hZ e473 F482 (x' := in_484) 0 b488 rfl (by decide) (by simp) (g := (mkF m 46 #[iv in_1, iv in_2, iv in_3, iv in_4, iv in_5, iv in_6, rv ob_452, iv in_462, iv in_466, .unset, .unset, .unset, .unset, .unset] [(.int in_484), (.int 0), (.ref ob_480), (.ref ob_480)])) rfl (rest := [(.ref ob_480)]) rfl (hb hby at_46)
    have N497 : n0 ≤ ob_480 := by omega
    have N496 := Fr.snoc X491 N460 N497
    have z498 := W493.size
    have F499 : Arv Z h490 ob_480 kk_478 .char 2 [(.int in_484), (.int 0)] (.int 0) := A494
    refine oS s495 ?_
    show own_G p e below (T489.setTop (mkF m 47 #[iv in_1, iv in_2, iv in_3, iv in_4, iv in_5, iv in_6, rv ob_452, iv in_462, iv in_466, .unset, .unset, .unset, .unset, .unset] [(.ref ob_480)])) _
    refine oS (fun _ => XS.dup X491.here hx rfl (hb hby at_47) rfl rfl) ?_
    refine oS (fun _ => XS.iconst X491.here hx rfl (hb hby at_48) ) ?_
    refine oS (fun _ => XS.iloadN X491.here hx rfl (hb hby at_49) rfl) ?_
    refine oS (fun _ => XS.bipush X491.here hx rfl (hb hby at_50) ) ?_
    show own_G p e below (T489.setTop (mkF m 52 #[iv in_1, iv in_2, iv in_3, iv in_4, iv in_5, iv in_6, rv ob_452, iv in_462, iv in_466, .unset, .unset, .unset, .unset, .unset] [(.int 8), (.int in_3), (.int 1), (.ref ob_480), (.ref ob_480)])) _
    refine oS (fun _ => XT.iushr X491.here hx rfl (hb hby at_52) rfl) ?_
    refine oS (fun _ => XS.sipush X491.here hx rfl (hb hby at_53) ) ?_
    refine oS (fun _ => XS.iand X491.here hx rfl (hb hby at_56) rfl) ?_
    refine oS (fun _ => XT.i2c X491.here hx rfl (hb hby at_57) rfl) ?_
    show own_G p e below (T489.setTop (mkF m 58 #[iv in_1, iv in_2, iv in_3, iv in_4, iv in_5, iv in_6, rv ob_452, iv in_462, iv in_466, .unset, .unset, .unset, .unset, .unset] [(.int (((XT.ushr in_3 8) &&& 255).toUInt32.toUInt16.toUInt32.toInt32)), (.int 1), (.ref ob_480), (.ref ob_480)])) _
    obtain ⟨in_500, q501, b502, b503, b504⟩ := own_chr (XT.ushr in_3 8)
    refine own_cast (g' := (mkF m 58 #[iv in_1, iv in_2, iv in_3, iv in_4, iv in_5, iv in_6, rv ob_452, iv in_462, iv in_466, .unset, .unset, .unset, .unset, .unset] [(.int in_500), (.int 1), (.ref ob_480), (.ref ob_480)])) (by rw [q501]) ?_
    obtain ⟨T505, h506, X507, e508, W509, A510, s511⟩ := own_stC X491 hx hZ e492 F499 (x' := in_500) 1 b504 rfl (by decide) (by simp) (g := (mkF m 58 #[iv in_1, iv in_2, iv in_3, iv in_4, iv in_5, iv in_6, rv ob_452, iv in_462, iv in_466, .unset, .unset, .unset, .unset, .unset] [(.int in_500), (.int 1), (.ref ob_480), (.ref ob_480)])) rfl (rest := [(.ref ob_480)]) rfl (hb hby at_58)
    have N512 := Fr.snoc X507 N496 N497
    have z513 := W509.size
    have F514 : Arv Z h506 ob_480 kk_478 .char 2 [(.int in_484), (.int in_500)] (.int 0) := A510
    refine oS s511 ?_
    show own_G p e below (T505.setTop (mkF m 59 #[iv in_1, iv in_2, iv in_3, iv in_4, iv in_5, iv in_6, rv ob_452, iv in_462, iv in_466, .unset, .unset, .unset, .unset, .unset] [(.ref ob_480)])) _
    refine oS (fun _ => XS.astore X507.here hx rfl (hb hby at_59) rfl rfl (l' := #[iv in_1, iv in_2, iv in_3, iv in_4, iv in_5, iv in_6, rv ob_452, iv in_462, iv in_466, rv ob_480, .unset, .unset, .unset, .unset]) rfl) ?_
    refine oS (fun _ => XS.iload X507.here hx rfl (hb hby at_61) rfl) ?_
    refine oS (fun _ => XS.iconst X507.here hx rfl (hb hby at_63) ) ?_
    refine oS (fun _ => XS.iand X507.here hx rfl (hb hby at_64) rfl) ?_
    show own_G p e below (T505.setTop (mkF m 65 #[iv in_1, iv in_2, iv in_3, iv in_4, iv in_5, iv in_6, rv ob_452, iv in_462, iv in_466, rv ob_480, .unset, .unset, .unset, .unset] [(.int (in_6 &&& 4))])) _
    by_cases b515 : (in_6 &&& 4) = 0
    · skip
      refine oS (fun _ => XS.ifYes X507.here hx rfl (pc0 := 65) (pc' := 80) rfl (hb hby at_65) rfl (XT.i0_eq_t b515) (by decide) (by decide)) ?_
      show own_G p e below (T505.setTop (mkF m 80 #[iv in_1, iv in_2, iv in_3, iv in_4, iv in_5, iv in_6, rv ob_452, iv in_462, iv in_466, rv ob_480, .unset, .unset, .unset, .unset] [])) _
      refine oS (fun _ => XS.iloadN X507.here hx rfl (hb hby at_80) rfl) ?_
      refine oS (fun _ => XS.sipush X507.here hx rfl (hb hby at_81) ) ?_
      refine oS (fun _ => XS.iand X507.here hx rfl (hb hby at_84) rfl) ?_
      refine oS (fun _ => XT.i2c X507.here hx rfl (hb hby at_85) rfl) ?_
      show own_G p e below (T505.setTop (mkF m 86 #[iv in_1, iv in_2, iv in_3, iv in_4, iv in_5, iv in_6, rv ob_452, iv in_462, iv in_466, rv ob_480, .unset, .unset, .unset, .unset] [(.int ((in_3 &&& 255).toUInt32.toUInt16.toUInt32.toInt32))])) _
      obtain ⟨in_516, q517, b518, b519, b520⟩ := own_chr in_3
      refine own_cast (g' := (mkF m 86 #[iv in_1, iv in_2, iv in_3, iv in_4, iv in_5, iv in_6, rv ob_452, iv in_462, iv in_466, rv ob_480, .unset, .unset, .unset, .unset] [(.int in_516)])) (by rw [q517]) ?_
      have O666 : Old Z n0 h445 := O0.keep K455 all0
      have O667 : Old Z n0 h470 := O666.ext E474
      have O668 : Old Z n0 h490 := O667.wr W493 N497
      have O669 : Old Z n0 h506 := O668.wr W509 N497
      have Z670 : n0 ≤ h506.size := by omega
      obtain ⟨T671, h672, v673, L674, X675, e676, q677, s678⟩ := own_callS X507 hx hZ hown e508 (y := (⟨"java/lang/String", "valueOf", "(C)Ljava/lang/String;"⟩ : MethodName)) (oW hw 48 rfl) (oW hw 49 rfl) (oW hw 50 rfl) (oW hw 51 rfl) (by decide) (W := 0) (own_rm3 l Z a0 hw [] in_516 in_7 h506 n0 Z670 O669 I521 I528 b519) (by decide) (by decide) (by decide) (by decide) (g := (mkF m 86 #[iv in_1, iv in_2, iv in_3, iv in_4, iv in_5, iv in_6, rv ob_452, iv in_462, iv in_466, rv ob_480, .unset, .unset, .unset, .unset] [(.int in_516)])) rfl (by rw [hml]; rfl) (argsL := [(.int in_516)]) (rest := []) rfl (lenOf own_pd4 rfl) rfl (by show 2 * 0 + _ ≤ _; exact Nat.le_of_eq rfl) (hb hby at_86)
      refine oS s678 ?_
      obtain ⟨ob_679, ob_680, kk_681, rfl, N682, K683, F684, F685, F686, F687, F688, F689, F690, F691, F692⟩ := q677
      have N693 := Fr.app N512 N682
      have z694 := K683.1
      show own_G p e below (T671.setTop (mkF m 89 #[iv in_1, iv in_2, iv in_3, iv in_4, iv in_5, iv in_6, rv ob_452, iv in_462, iv in_466, rv ob_480, .unset, .unset, .unset, .unset] [(.ref ob_679)])) _
      refine oS (fun _ => XS.astore X675.here hx rfl (hb hby at_89) rfl rfl (l' := #[iv in_1, iv in_2, iv in_3, iv in_4, iv in_5, iv in_6, rv ob_452, iv in_462, iv in_466, rv ob_480, rv ob_679, .unset, .unset, .unset]) rfl) ?_
      obtain ⟨T695, h696, X697, e698, E699, A700, D701, U704, s702⟩ := newO X675 hx hZ hown (oW hw 74 rfl) (oW hw 75 rfl) (oW hw 76 rfl) e676 (g := (mkF m 91 #[iv in_1, iv in_2, iv in_3, iv in_4, iv in_5, iv in_6, rv ob_452, iv in_462, iv in_466, rv ob_480, rv ob_679, .unset, .unset, .unset] [])) rfl (hb hby at_91) (by decide) (by decide)
      obtain ⟨ob_705, g706⟩ : ∃ z, z = h672.size := ⟨_, rfl⟩
      rw [← g706] at A700 D701 U704 s702
      have z707 := E699.1
      have y703 : @LT.lt Nat instLTNat ob_705 h696.size := A700.lt
      refine oS s702 ?_
      have F708 : Fld Z h696 ob_705 "com/example/tuplewise/tuplewise/lang/Token" "kind" "Lcom/example/tuplewise/tuplewise/lang/Token$Kind;" .null := D701 (Or.inr (oW hw 87 rfl)) (ty := (.object "com/example/tuplewise/tuplewise/lang/Token$Kind")) (by decide)
      have F709 : Fld Z h696 ob_705 "com/example/tuplewise/tuplewise/lang/Token" "text" "Ljava/lang/String;" .null := D701 (Or.inr (oW hw 89 rfl)) (ty := (.object "java/lang/String")) (by decide)
      have F710 : Fld Z h696 ob_705 "com/example/tuplewise/tuplewise/lang/Token" "line" "I" (.int 0) := D701 (Or.inr (oW hw 91 rfl)) (ty := .int) (by decide)
      have F711 : Fld Z h696 ob_705 "com/example/tuplewise/tuplewise/lang/Token" "column" "I" (.int 0) := D701 (Or.inr (oW hw 93 rfl)) (ty := .int) (by decide)
      show own_G p e below (T695.setTop (mkF m 94 #[iv in_1, iv in_2, iv in_3, iv in_4, iv in_5, iv in_6, rv ob_452, iv in_462, iv in_466, rv ob_480, rv ob_679, .unset, .unset, .unset] [(.ref ob_705)])) _
      refine oS (fun _ => XS.dup X697.here hx rfl (hb hby at_94) rfl rfl) ?_
      refine oS (fun _ => XS.aload X697.here hx rfl (hb hby at_95) rfl rfl) ?_
      refine oS (fun _ => XS.iload X697.here hx rfl (hb hby at_97) rfl) ?_
      have F712 : Arv Z h470 ob_452 kk_453 (.object "com/example/tuplewise/tuplewise/lang/Token$Kind") 19 [(.ref ob_9), (.ref ob_10), (.ref ob_11), (.ref ob_12), (.ref ob_13), (.ref ob_14), (.ref ob_15), (.ref ob_16), (.ref ob_17), (.ref ob_18), (.ref ob_19), (.ref ob_20), (.ref ob_21), (.ref ob_22), (.ref ob_23), (.ref ob_24), (.ref ob_25), (.ref ob_26), (.ref ob_27)] .null := F457.ext E474
      have N713 : @Ne Nat ob_452 ob_480 := by omega
      have F714 : Arv Z h490 ob_452 kk_453 (.object "com/example/tuplewise/tuplewise/lang/Token$Kind") 19 [(.ref ob_9), (.ref ob_10), (.ref ob_11), (.ref ob_12), (.ref ob_13), (.ref ob_14), (.ref ob_15), (.ref ob_16), (.ref ob_17), (.ref ob_18), (.ref ob_19), (.ref ob_20), (.ref ob_21), (.ref ob_22), (.ref ob_23), (.ref ob_24), (.ref ob_25), (.ref ob_26), (.ref ob_27)] .null := F712.other W493 N713
      have F715 : Arv Z h506 ob_452 kk_453 (.object "com/example/tuplewise/tuplewise/lang/Token$Kind") 19 [(.ref ob_9), (.ref ob_10), (.ref ob_11), (.ref ob_12), (.ref ob_13), (.ref ob_14), (.ref ob_15), (.ref ob_16), (.ref ob_17), (.ref ob_18), (.ref ob_19), (.ref ob_20), (.ref ob_21), (.ref ob_22), (.ref ob_23), (.ref ob_24), (.ref ob_25), (.ref ob_26), (.ref ob_27)] .null := F714.other W509 N713
      have F716 : Arv Z h672 ob_452 kk_453 (.object "com/example/tuplewise/tuplewise/lang/Token$Kind") 19 [(.ref ob_9), (.ref ob_10), (.ref ob_11), (.ref ob_12), (.ref ob_13), (.ref ob_14), (.ref ob_15), (.ref ob_16), (.ref ob_17), (.ref ob_18), (.ref ob_19), (.ref ob_20), (.ref ob_21), (.ref ob_22), (.ref ob_23), (.ref ob_24), (.ref ob_25), (.ref ob_26), (.ref ob_27)] .null := F715.keep K683 nin0
      have F717 : Arv Z h696 ob_452 kk_453 (.object "com/example/tuplewise/tuplewise/lang/Token$Kind") 19 [(.ref ob_9), (.ref ob_10), (.ref ob_11), (.ref ob_12), (.ref ob_13), (.ref ob_14), (.ref ob_15), (.ref ob_16), (.ref ob_17), (.ref ob_18), (.ref ob_19), (.ref ob_20), (.ref ob_21), (.ref ob_22), (.ref ob_23), (.ref ob_24), (.ref ob_25), (.ref ob_26), (.ref ob_27)] .null := F716.ext E699
      obtain ⟨ob_737, F738, F739⟩ := own_pick (P := fun a z => Fld Z Z.heap a "java/lang/Enum" "ordinal" "I" (.int z)) [ob_9, ob_10, ob_11, ob_12, ob_13, ob_14, ob_15, ob_16, ob_17, ob_18, ob_19, ob_20, ob_21, ob_22, ob_23, ob_24, ob_25, ob_26, ob_27] ⟨I718, I719, I720, I721, I722, I723, I724, I725, I726, I727, I728, I729, I730, I731, I732, I733, I734, I735, I736, trivial⟩ in_462 b464
      refine oS (own_aaload X697 hx hZ e698 F717 rfl (own_in19 b464) F738 rfl rfl (hb hby at_99)) ?_
      show own_G p e below (T695.setTop (mkF m 100 #[iv in_1, iv in_2, iv in_3, iv in_4, iv in_5, iv in_6, rv ob_452, iv in_462, iv in_466, rv ob_480, rv ob_679, .unset, .unset, .unset] [(.ref ob_737), (.ref ob_705), (.ref ob_705)])) _
      refine oS (fun _ => XS.aload X697.here hx rfl (hb hby at_100) rfl rfl) ?_
      refine oS (fun _ => XS.iloadN X697.here hx rfl (hb hby at_102) rfl) ?_
      refine oS (fun _ => XS.iload X697.here hx rfl (hb hby at_103) rfl) ?_
      have N765 : n0 ≤ ob_705 := by omega
      have O816 : Old Z n0 h672 := O669.keep K683 all0
      have O817 : Old Z n0 h696 := O816.ext E699
      have Z818 : n0 ≤ h696.size := by omega
      obtain ⟨T819, h820, v821, L822, X823, e824, q825, s826⟩ := own_callN X697 hx hZ hown e698 (y := (⟨"com/example/tuplewise/tuplewise/lang/Token", "<init>", "(Lcom/example/tuplewise/tuplewise/lang/Token$Kind;Ljava/lang/String;II)V"⟩ : MethodName)) (b := ob_705) rfl (oW hw 77 rfl) (oW hw 78 rfl) (oW hw 76 rfl) (oW hw 79 rfl) (by decide) (W := 1) (own_rm7 l Z a0 hw [] ob_705 ob_737 ob_679 in_4 in_5 h696 n0 Z818 O817 F708 A700 N765 F709 F710 F711) (by decide) (by decide) (by decide) (by decide) (g := (mkF m 105 #[iv in_1, iv in_2, iv in_3, iv in_4, iv in_5, iv in_6, rv ob_452, iv in_462, iv in_466, rv ob_480, rv ob_679, .unset, .unset, .unset] [(.int in_5), (.int in_4), (.ref ob_679), (.ref ob_737), (.ref ob_705), (.ref ob_705)])) rfl (by rw [hml]; rfl) (argsL := [(.ref ob_737), (.ref ob_679), (.int in_4), (.int in_5)]) (rest := [(.ref ob_705)]) rfl (lenOf own_pd6 rfl) rfl (by show 2 * 0 + _ ≤ _; exact Nat.le_of_eq rfl) (hb hby at_105)
      refine oS s826 ?_
      obtain ⟨rfl, N827, K828, F829, F830, F831, F832, F833⟩ := q825
      have N834 := Fr.app N693 N827
      have z835 := K828.1
      show own_G p e below (T819.setTop (mkF m 108 #[iv in_1, iv in_2, iv in_3, iv in_4, iv in_5, iv in_6, rv ob_452, iv in_462, iv in_466, rv ob_480, rv ob_679, .unset, .unset, .unset] [(.ref ob_705)])) _
      refine oS (fun _ => XS.astore X823.here hx rfl (hb hby at_108) rfl rfl (l' := #[iv in_1, iv in_2, iv in_3, iv in_4, iv in_5, iv in_6, rv ob_452, iv in_462, iv in_466, rv ob_480, rv ob_679, rv ob_705, .unset, .unset]) rfl) ?_
      refine oS (fun _ => XS.iload X823.here hx rfl (hb hby at_110) rfl) ?_
      refine oS (fun _ => XS.iconst X823.here hx rfl (hb hby at_112) ) ?_
      refine oS (fun _ => XS.iand X823.here hx rfl (hb hby at_113) rfl) ?_
      show own_G p e below (T819.setTop (mkF m 114 #[iv in_1, iv in_2, iv in_3, iv in_4, iv in_5, iv in_6, rv ob_452, iv in_462, iv in_466, rv ob_480, rv ob_679, rv ob_705, .unset, .unset] [(.int (in_6 &&& 2))])) _
      by_cases b836 : (in_6 &&& 2) = 0
      · skip
        refine oS (fun _ => XS.ifYes X823.here hx rfl (pc0 := 114) (pc' := 132) rfl (hb hby at_114) rfl (XT.i0_eq_t b836) (by decide) (by decide)) ?_
        show own_G p e below (T819.setTop (mkF m 132 #[iv in_1, iv in_2, iv in_3, iv in_4, iv in_5, iv in_6, rv ob_452, iv in_462, iv in_466, rv ob_480, rv ob_679, rv ob_705, .unset, .unset] [])) _
        by_cases b837 : in_462 = in_466
        · skip
          refine own_cast (g' := (mkF m 132 #[iv in_1, iv in_2, iv in_3, iv in_4, iv in_5, iv in_6, rv ob_452, iv in_462, iv in_462, rv ob_480, rv ob_679, rv ob_705, .unset, .unset] [])) (by rw [b837]) ?_
          show own_G p e below (T819.setTop (mkF m 132 #[iv in_1, iv in_2, iv in_3, iv in_4, iv in_5, iv in_6, rv ob_452, iv in_462, iv in_462, rv ob_480, rv ob_679, rv ob_705, .unset, .unset] [])) _
          refine oS (fun _ => XS.aload X823.here hx rfl (hb hby at_132) rfl rfl) ?_
          refine oS (fun _ => XS.aload X823.here hx rfl (hb hby at_134) rfl rfl) ?_
          refine oS (fun _ => XS.iload X823.here hx rfl (hb hby at_136) rfl) ?_
          have N838 : @Ne Nat ob_452 ob_705 := by omega
          have F839 : Arv Z h820 ob_452 kk_453 (.object "com/example/tuplewise/tuplewise/lang/Token$Kind") 19 [(.ref ob_9), (.ref ob_10), (.ref ob_11), (.ref ob_12), (.ref ob_13), (.ref ob_14), (.ref ob_15), (.ref ob_16), (.ref ob_17), (.ref ob_18), (.ref ob_19), (.ref ob_20), (.ref ob_21), (.ref ob_22), (.ref ob_23), (.ref ob_24), (.ref ob_25), (.ref ob_26), (.ref ob_27)] .null := F717.keep K828 (ninS N838 nin0)
          refine oS (own_aaload X823 hx hZ e824 F839 rfl (own_in19 b464) F738 rfl rfl (hb hby at_138)) ?_
          show own_G p e below (T819.setTop (mkF m 139 #[iv in_1, iv in_2, iv in_3, iv in_4, iv in_5, iv in_6, rv ob_452, iv in_462, iv in_462, rv ob_480, rv ob_679, rv ob_705, .unset, .unset] [(.ref ob_737), (.ref ob_705)])) _
          have O845 : Old Z n0 h820 := O817.keep K828 (allS N765 all0)
          have Z846 : n0 ≤ h820.size := by omega
          obtain ⟨T847, h848, v849, L850, X851, e852, q853, s854⟩ := own_callV X823 hx hZ hown e824 (y := (⟨"com/example/tuplewise/tuplewise/lang/Token", "is", "(Lcom/example/tuplewise/tuplewise/lang/Token$Kind;)Z"⟩ : MethodName)) (z := (⟨"com/example/tuplewise/tuplewise/lang/Token", "is", "(Lcom/example/tuplewise/tuplewise/lang/Token$Kind;)Z"⟩ : MethodName)) (C := "com/example/tuplewise/tuplewise/lang/Token") (b := ob_705) (oW hw 94 rfl) (oW hw 95 rfl) (notFace_of_selects (args := #[]) (mvT hZ (oW hw 97 rfl))) (oW hw 97 rfl) (oW hw 96 rfl) (oW hw 76 rfl) (oW hw 98 rfl) (by decide) F831 (W := 0) (own_rm9 l Z a0 hw [] ob_705 ob_737 h820 n0 Z846 O845 F829) (by decide) (by decide) (by decide) (by decide) (g := (mkF m 139 #[iv in_1, iv in_2, iv in_3, iv in_4, iv in_5, iv in_6, rv ob_452, iv in_462, iv in_462, rv ob_480, rv ob_679, rv ob_705, .unset, .unset] [(.ref ob_737), (.ref ob_705)])) rfl (by rw [hml]; rfl) (argsL := [(.ref ob_737)]) (rest := []) rfl (lenOf own_pd7 rfl) rfl (by show 2 * 0 + _ ≤ _; exact Nat.le_of_eq rfl) (hb hby at_139)
          refine oS s854 ?_
          obtain ⟨rfl, N855, K856⟩ := q853
          have N857 := Fr.app N834 N855
          have e858 := e852.trans K856
          show own_G p e below (T847.setTop (mkF m 142 #[iv in_1, iv in_2, iv in_3, iv in_4, iv in_5, iv in_6, rv ob_452, iv in_462, iv in_462, rv ob_480, rv ob_679, rv ob_705, .unset, .unset] [(.int 1)])) _
          refine oS (fun _ => XS.istore X851.here hx rfl (hb hby at_142) rfl (l' := #[iv in_1, iv in_2, iv in_3, iv in_4, iv in_5, iv in_6, rv ob_452, iv in_462, iv in_462, rv ob_480, rv ob_679, rv ob_705, iv 1, .unset]) rfl) ?_
          refine oS (fun _ => XS.iload X851.here hx rfl (hb hby at_144) rfl) ?_
          refine oS (fun _ => XS.iload X851.here hx rfl (hb hby at_146) rfl) ?_
          refine oS (fun _ => XS.icmpNo X851.here hx rfl (hb hby at_148) rfl (XT.ii_ne_f rfl)) ?_
          show own_G p e below (T847.setTop (mkF m 151 #[iv in_1, iv in_2, iv in_3, iv in_4, iv in_5, iv in_6, rv ob_452, iv in_462, iv in_462, rv ob_480, rv ob_679, rv ob_705, iv 1, .unset] [])) _
          refine oS (fun _ => XS.iconst X851.here hx rfl (hb hby at_151) ) ?_
          refine oS (fun _ => XS.goto X851.here hx rfl (pc0 := 152) (pc' := 156) rfl (hb hby at_152) (by decide) (by decide)) ?_
          show own_G p e below (T847.setTop (mkF m 156 #[iv in_1, iv in_2, iv in_3, iv in_4, iv in_5, iv in_6, rv ob_452, iv in_462, iv in_462, rv ob_480, rv ob_679, rv ob_705, iv 1, .unset] [(.int 1)])) _
          refine oS (fun _ => XS.istore X851.here hx rfl (hb hby at_156) rfl (l' := #[iv in_1, iv in_2, iv in_3, iv in_4, iv in_5, iv in_6, rv ob_452, iv in_462, iv in_462, rv ob_480, rv ob_679, rv ob_705, iv 1, iv 1]) rfl) ?_
          refine oS (fun _ => XS.iload X851.here hx rfl (hb hby at_158) rfl) ?_
          refine oS (fun _ => XS.iload X851.here hx rfl (hb hby at_160) rfl) ?_
          refine oS (fun _ => XS.icmpNo X851.here hx rfl (hb hby at_162) rfl (XT.ii_ne_f (by decide))) ?_
          show own_G p e below (T847.setTop (mkF m 165 #[iv in_1, iv in_2, iv in_3, iv in_4, iv in_5, iv in_6, rv ob_452, iv in_462, iv in_462, rv ob_480, rv ob_679, rv ob_705, iv 1, iv 1] [])) _
          refine oS (fun _ => XS.iconst X851.here hx rfl (hb hby at_165) ) ?_
          refine oS (fun _ => XS.goto X851.here hx rfl (pc0 := 166) (pc' := 170) rfl (hb hby at_166) (by decide) (by decide)) ?_
          show own_G p e below (T847.setTop (mkF m 170 #[iv in_1, iv in_2, iv in_3, iv in_4, iv in_5, iv in_6, rv ob_452, iv in_462, iv in_462, rv ob_480, rv ob_679, rv ob_705, iv 1, iv 1] [(.int 1)])) _
          have K859 : Keep h0 h820 [] := ((((((((Keep.refl h0 []).trans K455 all0).ext E474).wr W493 (Or.inr (by omega))).wr W509 (Or.inr (by omega))).trans K683 all0).ext E699).trans K828 (allS (Or.inr (by omega)) all0))
          exact own_retN X851 hx (t := .boolean) Bd.notSynchronized Bd.returns (by simp) (hb hby at_170) (by decide) e858 (by decide) (by decide) (⟨rfl, N857⟩)
        · skip
          refine oS (fun _ => XS.aload X823.here hx rfl (hb hby at_132) rfl rfl) ?_
          show own_G p e below (T819.setTop (mkF m 134 #[iv in_1, iv in_2, iv in_3, iv in_4, iv in_5, iv in_6, rv ob_452, iv in_462, iv in_466, rv ob_480, rv ob_679, rv ob_705, .unset, .unset] [(.ref ob_705)])) _
          refine oS (fun _ => XS.aload X823.here hx rfl (hb hby at_134) rfl rfl) ?_
          refine oS (fun _ => XS.iload X823.here hx rfl (hb hby at_136) rfl) ?_
          have N860 : @Ne Nat ob_452 ob_705 := by omega
          have F861 : Arv Z h820 ob_452 kk_453 (.object "com/example/tuplewise/tuplewise/lang/Token$Kind") 19 [(.ref ob_9), (.ref ob_10), (.ref ob_11), (.ref ob_12), (.ref ob_13), (.ref ob_14), (.ref ob_15), (.ref ob_16), (.ref ob_17), (.ref ob_18), (.ref ob_19), (.ref ob_20), (.ref ob_21), (.ref ob_22), (.ref ob_23), (.ref ob_24), (.ref ob_25), (.ref ob_26), (.ref ob_27)] .null := F717.keep K828 (ninS N860 nin0)
          obtain ⟨ob_862, F863, F864⟩ := own_pick (P := fun a z => Fld Z Z.heap a "java/lang/Enum" "ordinal" "I" (.int z)) [ob_9, ob_10, ob_11, ob_12, ob_13, ob_14, ob_15, ob_16, ob_17, ob_18, ob_19, ob_20, ob_21, ob_22, ob_23, ob_24, ob_25, ob_26, ob_27] ⟨I718, I719, I720, I721, I722, I723, I724, I725, I726, I727, I728, I729, I730, I731, I732, I733, I734, I735, I736, trivial⟩ in_466 b468
          have N865 : ob_737 ≠ ob_862 := Fld.ne F739 F864 (fun q => b837 (Value.int.inj q))
          refine oS (own_aaload X823 hx hZ e824 F861 rfl (own_in19 b468) F863 rfl rfl (hb hby at_138)) ?_
          show own_G p e below (T819.setTop (mkF m 139 #[iv in_1, iv in_2, iv in_3, iv in_4, iv in_5, iv in_6, rv ob_452, iv in_462, iv in_466, rv ob_480, rv ob_679, rv ob_705, .unset, .unset] [(.ref ob_862), (.ref ob_705)])) _
          have O872 : Old Z n0 h820 := O817.keep K828 (allS N765 all0)
          have Z873 : n0 ≤ h820.size := by omega
          obtain ⟨T874, h875, v876, L877, X878, e879, q880, s881⟩ := own_callV X823 hx hZ hown e824 (y := (⟨"com/example/tuplewise/tuplewise/lang/Token", "is", "(Lcom/example/tuplewise/tuplewise/lang/Token$Kind;)Z"⟩ : MethodName)) (z := (⟨"com/example/tuplewise/tuplewise/lang/Token", "is", "(Lcom/example/tuplewise/tuplewise/lang/Token$Kind;)Z"⟩ : MethodName)) (C := "com/example/tuplewise/tuplewise/lang/Token") (b := ob_705) (oW hw 94 rfl) (oW hw 95 rfl) (notFace_of_selects (args := #[]) (mvT hZ (oW hw 97 rfl))) (oW hw 97 rfl) (oW hw 96 rfl) (oW hw 76 rfl) (oW hw 98 rfl) (by decide) F831 (W := 0) (own_rm10 l Z a0 hw [] ob_705 ob_862 ob_737 h820 n0 Z873 O872 F829 N865) (by decide) (by decide) (by decide) (by decide) (g := (mkF m 139 #[iv in_1, iv in_2, iv in_3, iv in_4, iv in_5, iv in_6, rv ob_452, iv in_462, iv in_466, rv ob_480, rv ob_679, rv ob_705, .unset, .unset] [(.ref ob_862), (.ref ob_705)])) rfl (by rw [hml]; rfl) (argsL := [(.ref ob_862)]) (rest := []) rfl (lenOf own_pd7 rfl) rfl (by show 2 * 0 + _ ≤ _; exact Nat.le_of_eq rfl) (hb hby at_139)
          refine oS s881 ?_
          obtain ⟨rfl, N882, K883⟩ := q880
          have N884 := Fr.app N834 N882
          have e885 := e879.trans K883
          show own_G p e below (T874.setTop (mkF m 142 #[iv in_1, iv in_2, iv in_3, iv in_4, iv in_5, iv in_6, rv ob_452, iv in_462, iv in_466, rv ob_480, rv ob_679, rv ob_705, .unset, .unset] [(.int 0)])) _
          refine oS (fun _ => XS.istore X878.here hx rfl (hb hby at_142) rfl (l' := #[iv in_1, iv in_2, iv in_3, iv in_4, iv in_5, iv in_6, rv ob_452, iv in_462, iv in_466, rv ob_480, rv ob_679, rv ob_705, iv 0, .unset]) rfl) ?_
          refine oS (fun _ => XS.iload X878.here hx rfl (hb hby at_144) rfl) ?_
          refine oS (fun _ => XS.iload X878.here hx rfl (hb hby at_146) rfl) ?_
          refine oS (fun _ => XS.icmpYes X878.here hx rfl (pc0 := 148) (pc' := 155) rfl (hb hby at_148) rfl (XT.ii_ne_t b837) (by decide) (by decide)) ?_
          show own_G p e below (T874.setTop (mkF m 155 #[iv in_1, iv in_2, iv in_3, iv in_4, iv in_5, iv in_6, rv ob_452, iv in_462, iv in_466, rv ob_480, rv ob_679, rv ob_705, iv 0, .unset] [])) _
          refine oS (fun _ => XS.iconst X878.here hx rfl (hb hby at_155) ) ?_
          refine oS (fun _ => XS.istore X878.here hx rfl (hb hby at_156) rfl (l' := #[iv in_1, iv in_2, iv in_3, iv in_4, iv in_5, iv in_6, rv ob_452, iv in_462, iv in_466, rv ob_480, rv ob_679, rv ob_705, iv 0, iv 0]) rfl) ?_
          refine oS (fun _ => XS.iload X878.here hx rfl (hb hby at_158) rfl) ?_
          refine oS (fun _ => XS.iload X878.here hx rfl (hb hby at_160) rfl) ?_
          show own_G p e below (T874.setTop (mkF m 162 #[iv in_1, iv in_2, iv in_3, iv in_4, iv in_5, iv in_6, rv ob_452, iv in_462, iv in_466, rv ob_480, rv ob_679, rv ob_705, iv 0, iv 0] [(.int 0), (.int 0)])) _
          refine oS (fun _ => XS.icmpNo X878.here hx rfl (hb hby at_162) rfl (XT.ii_ne_f (by decide))) ?_
          show own_G p e below (T874.setTop (mkF m 165 #[iv in_1, iv in_2, iv in_3, iv in_4, iv in_5, iv in_6, rv ob_452, iv in_462, iv in_466, rv ob_480, rv ob_679, rv ob_705, iv 0, iv 0] [])) _
          refine oS (fun _ => XS.iconst X878.here hx rfl (hb hby at_165) ) ?_
          refine oS (fun _ => XS.goto X878.here hx rfl (pc0 := 166) (pc' := 170) rfl (hb hby at_166) (by decide) (by decide)) ?_
          show own_G p e below (T874.setTop (mkF m 170 #[iv in_1, iv in_2, iv in_3, iv in_4, iv in_5, iv in_6, rv ob_452, iv in_462, iv in_466, rv ob_480, rv ob_679, rv ob_705, iv 0, iv 0] [(.int 1)])) _
          have K886 : Keep h0 h820 [] := ((((((((Keep.refl h0 []).trans K455 all0).ext E474).wr W493 (Or.inr (by omega))).wr W509 (Or.inr (by omega))).trans K683 all0).ext E699).trans K828 (allS (Or.inr (by omega)) all0))
          exact own_retN X878 hx (t := .boolean) Bd.notSynchronized Bd.returns (by simp) (hb hby at_170) (by decide) e885 (by decide) (by decide) (⟨rfl, N884⟩)
      · skip
        refine oS (fun _ => XS.ifNo X823.here hx rfl (hb hby at_114) rfl (XT.i0_eq_f b836)) ?_
        show own_G p e below (T819.setTop (mkF m 117 #[iv in_1, iv in_2, iv in_3, iv in_4, iv in_5, iv in_6, rv ob_452, iv in_462, iv in_466, rv ob_480, rv ob_679, rv ob_705, .unset, .unset] [])) _
        refine oS (fun _ => XS.aload X823.here hx rfl (hb hby at_117) rfl rfl) ?_
        refine oS (fun _ => XS.aconstNull X823.here hx rfl (hb hby at_119) ) ?_
        have O892 : Old Z n0 h820 := O817.keep K828 (allS N765 all0)
        have Z893 : n0 ≤ h820.size := by omega
        obtain ⟨T894, h895, v896, L897, X898, e899, q900, s901⟩ := own_callV X823 hx hZ hown e824 (y := (⟨"com/example/tuplewise/tuplewise/lang/Token", "is", "(Lcom/example/tuplewise/tuplewise/lang/Token$Kind;)Z"⟩ : MethodName)) (z := (⟨"com/example/tuplewise/tuplewise/lang/Token", "is", "(Lcom/example/tuplewise/tuplewise/lang/Token$Kind;)Z"⟩ : MethodName)) (C := "com/example/tuplewise/tuplewise/lang/Token") (b := ob_705) (oW hw 94 rfl) (oW hw 95 rfl) (notFace_of_selects (args := #[]) (mvT hZ (oW hw 97 rfl))) (oW hw 97 rfl) (oW hw 96 rfl) (oW hw 76 rfl) (oW hw 98 rfl) (by decide) F831 (W := 0) (own_rm11 l Z a0 hw [] ob_705 ob_737 h820 n0 Z893 O892 F829) (by decide) (by decide) (by decide) (by decide) (g := (mkF m 120 #[iv in_1, iv in_2, iv in_3, iv in_4, iv in_5, iv in_6, rv ob_452, iv in_462, iv in_466, rv ob_480, rv ob_679, rv ob_705, .unset, .unset] [.null, (.ref ob_705)])) rfl (by rw [hml]; rfl) (argsL := [.null]) (rest := []) rfl (lenOf own_pd7 rfl) rfl (by show 2 * 0 + _ ≤ _; exact Nat.le_of_eq rfl) (hb hby at_120)
        refine oS s901 ?_
        obtain ⟨rfl, N902, K903⟩ := q900
        have N904 := Fr.app N834 N902
        have e905 := e899.trans K903
        show own_G p e below (T894.setTop (mkF m 123 #[iv in_1, iv in_2, iv in_3, iv in_4, iv in_5, iv in_6, rv ob_452, iv in_462, iv in_466, rv ob_480, rv ob_679, rv ob_705, .unset, .unset] [(.int 0)])) _
        refine oS (fun _ => XS.ifNo X898.here hx rfl (hb hby at_123) rfl (XT.i0_ne_f (by decide))) ?_
        show own_G p e below (T894.setTop (mkF m 126 #[iv in_1, iv in_2, iv in_3, iv in_4, iv in_5, iv in_6, rv ob_452, iv in_462, iv in_466, rv ob_480, rv ob_679, rv ob_705, .unset, .unset] [])) _
        refine oS (fun _ => XS.iconst X898.here hx rfl (hb hby at_126) ) ?_
        refine oS (fun _ => XS.goto X898.here hx rfl (pc0 := 127) (pc' := 131) rfl (hb hby at_127) (by decide) (by decide)) ?_
        show own_G p e below (T894.setTop (mkF m 131 #[iv in_1, iv in_2, iv in_3, iv in_4, iv in_5, iv in_6, rv ob_452, iv in_462, iv in_466, rv ob_480, rv ob_679, rv ob_705, .unset, .unset] [(.int 1)])) _
        have K906 : Keep h0 h820 [] := ((((((((Keep.refl h0 []).trans K455 all0).ext E474).wr W493 (Or.inr (by omega))).wr W509 (Or.inr (by omega))).trans K683 all0).ext E699).trans K828 (allS (Or.inr (by omega)) all0))
        exact own_retN X898 hx (t := .boolean) Bd.notSynchronized Bd.returns (by simp) (hb hby at_131) (by decide) e905 (by decide) (by decide) (⟨rfl, N904⟩)
    · skip
      refine oS (fun _ => XS.ifNo X507.here hx rfl (hb hby at_65) rfl (XT.i0_eq_f b515)) ?_
      show own_G p e below (T505.setTop (mkF m 68 #[iv in_1, iv in_2, iv in_3, iv in_4, iv in_5, iv in_6, rv ob_452, iv in_462, iv in_466, rv ob_480, .unset, .unset, .unset, .unset] [])) _
      obtain ⟨T907, h908, X909, e910, E911, A912, D913, U916, s914⟩ := newO X507 hx hZ hown (oW hw 99 rfl) (oW hw 58 rfl) (oW hw 50 rfl) e508 (g := (mkF m 68 #[iv in_1, iv in_2, iv in_3, iv in_4, iv in_5, iv in_6, rv ob_452, iv in_462, iv in_466, rv ob_480, .unset, .unset, .unset, .unset] [])) rfl (hb hby at_68) (by decide) (by decide)
      obtain ⟨ob_917, g918⟩ : ∃ z, z = h506.size := ⟨_, rfl⟩
      rw [← g918] at A912 D913 U916 s914
      have z919 := E911.1
      have y915 : @LT.lt Nat instLTNat ob_917 h908.size := A912.lt
      refine oS s914 ?_
      have F920 : Fld Z h908 ob_917 "java/lang/String" "value" "[B" .null := D913 (Or.inr (oW hw 71 rfl)) (ty := (.array .byte)) (by decide)
      have F921 : Fld Z h908 ob_917 "java/lang/String" "coder" "B" (.int 0) := D913 (Or.inr (oW hw 73 rfl)) (ty := .byte) (by decide)
      show own_G p e below (T907.setTop (mkF m 71 #[iv in_1, iv in_2, iv in_3, iv in_4, iv in_5, iv in_6, rv ob_452, iv in_462, iv in_466, rv ob_480, .unset, .unset, .unset, .unset] [(.ref ob_917)])) _
      refine oS (fun _ => XS.dup X909.here hx rfl (hb hby at_71) rfl rfl) ?_
      refine oS (fun _ => XS.aload X909.here hx rfl (hb hby at_72) rfl rfl) ?_
      have F922 : Arv Z h908 ob_480 kk_478 .char 2 [(.int in_484), (.int in_500)] (.int 0) := F514.ext E911
      have y973 : @LT.lt Nat instLTNat ob_480 h908.size := by omega
      have N1064 : n0 ≤ ob_917 := by omega
      have y1085 : @LT.lt Nat instLTNat ob_917 h908.size := by omega
      have O1119 : Old Z n0 h445 := O0.keep K455 all0
      have O1120 : Old Z n0 h470 := O1119.ext E474
      have O1121 : Old Z n0 h490 := O1120.wr W493 N497
      have O1122 : Old Z n0 h506 := O1121.wr W509 N497
      have O1123 : Old Z n0 h908 := O1122.ext E911
      have Z1124 : n0 ≤ h908.size := by omega
      obtain ⟨T1125, h1126, v1127, L1128, X1129, e1130, q1131, s1132⟩ := own_callN X909 hx hZ hown e910 (y := (⟨"java/lang/String", "<init>", "([C)V"⟩ : MethodName)) (b := ob_917) rfl (oW hw 100 rfl) (oW hw 101 rfl) (oW hw 50 rfl) (oW hw 102 rfl) (by decide) (W := 1) (own_rm12 l Z a0 hw [] ob_917 ob_480 kk_478 in_484 in_500 in_7 h908 n0 Z1124 O1123 F922 I521 I528 b487 y973 b503 F921 A912 N1064 F920 y1085) (by decide) (by decide) (by decide) (by decide) (g := (mkF m 74 #[iv in_1, iv in_2, iv in_3, iv in_4, iv in_5, iv in_6, rv ob_452, iv in_462, iv in_466, rv ob_480, .unset, .unset, .unset, .unset] [(.ref ob_480), (.ref ob_917), (.ref ob_917)])) rfl (by rw [hml]; rfl) (argsL := [(.ref ob_480)]) (rest := [(.ref ob_917)]) rfl (lenOf own_pd12 rfl) rfl (by show 2 * 0 + _ ≤ _; exact Nat.le_of_eq rfl) (hb hby at_74)
      refine oS s1132 ?_
      obtain ⟨ob_1133, kk_1134, rfl, N1135, K1136, F1137, F1138, F1139, F1140, F1141, F1142, F1143⟩ := q1131
      have N1144 := Fr.app N512 N1135
      have z1145 := K1136.1
      show own_G p e below (T1125.setTop (mkF m 77 #[iv in_1, iv in_2, iv in_3, iv in_4, iv in_5, iv in_6, rv ob_452, iv in_462, iv in_466, rv ob_480, .unset, .unset, .unset, .unset] [(.ref ob_917)])) _
      refine oS (fun _ => XS.goto X1129.here hx rfl (pc0 := 77) (pc' := 89) rfl (hb hby at_77) (by decide) (by decide)) ?_
      show own_G p e below (T1125.setTop (mkF m 89 #[iv in_1, iv in_2, iv in_3, iv in_4, iv in_5, iv in_6, rv ob_452, iv in_462, iv in_466, rv ob_480, .unset, .unset, .unset, .unset] [(.ref ob_917)])) _
      refine oS (fun _ => XS.astore X1129.here hx rfl (hb hby at_89) rfl rfl (l' := #[iv in_1, iv in_2, iv in_3, iv in_4, iv in_5, iv in_6, rv ob_452, iv in_462, iv in_466, rv ob_480, rv ob_917, .unset, .unset, .unset]) rfl) ?_
      obtain ⟨T1146, h1147, X1148, e1149, E1150, A1151, D1152, U1155, s1153⟩ := newO X1129 hx hZ hown (oW hw 74 rfl) (oW hw 75 rfl) (oW hw 76 rfl) e1130 (g := (mkF m 91 #[iv in_1, iv in_2, iv in_3, iv in_4, iv in_5, iv in_6, rv ob_452, iv in_462, iv in_466, rv ob_480, rv ob_917, .unset, .unset, .unset] [])) rfl (hb hby at_91) (by decide) (by decide)
      obtain ⟨ob_1156, g1157⟩ : ∃ z, z = h1126.size := ⟨_, rfl⟩
      rw [← g1157] at A1151 D1152 U1155 s1153
      have z1158 := E1150.1
      have y1154 : @LT.lt Nat instLTNat ob_1156 h1147.size := A1151.lt
      refine oS s1153 ?_
      have F1159 : Fld Z h1147 ob_1156 "com/example/tuplewise/tuplewise/lang/Token" "kind" "Lcom/example/tuplewise/tuplewise/lang/Token$Kind;" .null := D1152 (Or.inr (oW hw 87 rfl)) (ty := (.object "com/example/tuplewise/tuplewise/lang/Token$Kind")) (by decide)
      have F1160 : Fld Z h1147 ob_1156 "com/example/tuplewise/tuplewise/lang/Token" "text" "Ljava/lang/String;" .null := D1152 (Or.inr (oW hw 89 rfl)) (ty := (.object "java/lang/String")) (by decide)
      have F1161 : Fld Z h1147 ob_1156 "com/example/tuplewise/tuplewise/lang/Token" "line" "I" (.int 0) := D1152 (Or.inr (oW hw 91 rfl)) (ty := .int) (by decide)
      have F1162 : Fld Z h1147 ob_1156 "com/example/tuplewise/tuplewise/lang/Token" "column" "I" (.int 0) := D1152 (Or.inr (oW hw 93 rfl)) (ty := .int) (by decide)
      show own_G p e below (T1146.setTop (mkF m 94 #[iv in_1, iv in_2, iv in_3, iv in_4, iv in_5, iv in_6, rv ob_452, iv in_462, iv in_466, rv ob_480, rv ob_917, .unset, .unset, .unset] [(.ref ob_1156)])) _
      refine oS (fun _ => XS.dup X1148.here hx rfl (hb hby at_94) rfl rfl) ?_
      refine oS (fun _ => XS.aload X1148.here hx rfl (hb hby at_95) rfl rfl) ?_
      refine oS (fun _ => XS.iload X1148.here hx rfl (hb hby at_97) rfl) ?_
      have F1163 : Arv Z h470 ob_452 kk_453 (.object "com/example/tuplewise/tuplewise/lang/Token$Kind") 19 [(.ref ob_9), (.ref ob_10), (.ref ob_11), (.ref ob_12), (.ref ob_13), (.ref ob_14), (.ref ob_15), (.ref ob_16), (.ref ob_17), (.ref ob_18), (.ref ob_19), (.ref ob_20), (.ref ob_21), (.ref ob_22), (.ref ob_23), (.ref ob_24), (.ref ob_25), (.ref ob_26), (.ref ob_27)] .null := F457.ext E474
      have N1164 : @Ne Nat ob_452 ob_480 := by omega
      have F1165 : Arv Z h490 ob_452 kk_453 (.object "com/example/tuplewise/tuplewise/lang/Token$Kind") 19 [(.ref ob_9), (.ref ob_10), (.ref ob_11), (.ref ob_12), (.ref ob_13), (.ref ob_14), (.ref ob_15), (.ref ob_16), (.ref ob_17), (.ref ob_18), (.ref ob_19), (.ref ob_20), (.ref ob_21), (.ref ob_22), (.ref ob_23), (.ref ob_24), (.ref ob_25), (.ref ob_26), (.ref ob_27)] .null := F1163.other W493 N1164
      have F1166 : Arv Z h506 ob_452 kk_453 (.object "com/example/tuplewise/tuplewise/lang/Token$Kind") 19 [(.ref ob_9), (.ref ob_10), (.ref ob_11), (.ref ob_12), (.ref ob_13), (.ref ob_14), (.ref ob_15), (.ref ob_16), (.ref ob_17), (.ref ob_18), (.ref ob_19), (.ref ob_20), (.ref ob_21), (.ref ob_22), (.ref ob_23), (.ref ob_24), (.ref ob_25), (.ref ob_26), (.ref ob_27)] .null := F1165.other W509 N1164
      have F1167 : Arv Z h908 ob_452 kk_453 (.object "com/example/tuplewise/tuplewise/lang/Token$Kind") 19 [(.ref ob_9), (.ref ob_10), (.ref ob_11), (.ref ob_12), (.ref ob_13), (.ref ob_14), (.ref ob_15), (.ref ob_16), (.ref ob_17), (.ref ob_18), (.ref ob_19), (.ref ob_20), (.ref ob_21), (.ref ob_22), (.ref ob_23), (.ref ob_24), (.ref ob_25), (.ref ob_26), (.ref ob_27)] .null := F1166.ext E911
      have N1168 : @Ne Nat ob_452 ob_917 := by omega
      have F1169 : Arv Z h1126 ob_452 kk_453 (.object "com/example/tuplewise/tuplewise/lang/Token$Kind") 19 [(.ref ob_9), (.ref ob_10), (.ref ob_11), (.ref ob_12), (.ref ob_13), (.ref ob_14), (.ref ob_15), (.ref ob_16), (.ref ob_17), (.ref ob_18), (.ref ob_19), (.ref ob_20), (.ref ob_21), (.ref ob_22), (.ref ob_23), (.ref ob_24), (.ref ob_25), (.ref ob_26), (.ref ob_27)] .null := F1167.keep K1136 (ninS N1168 nin0)
      have F1170 : Arv Z h1147 ob_452 kk_453 (.object "com/example/tuplewise/tuplewise/lang/Token$Kind") 19 [(.ref ob_9), (.ref ob_10), (.ref ob_11), (.ref ob_12), (.ref ob_13), (.ref ob_14), (.ref ob_15), (.ref ob_16), (.ref ob_17), (.ref ob_18), (.ref ob_19), (.ref ob_20), (.ref ob_21), (.ref ob_22), (.ref ob_23), (.ref ob_24), (.ref ob_25), (.ref ob_26), (.ref ob_27)] .null := F1169.ext E1150
      obtain ⟨ob_1171, F1172, F1173⟩ := own_pick (P := fun a z => Fld Z Z.heap a "java/lang/Enum" "ordinal" "I" (.int z)) [ob_9, ob_10, ob_11, ob_12, ob_13, ob_14, ob_15, ob_16, ob_17, ob_18, ob_19, ob_20, ob_21, ob_22, ob_23, ob_24, ob_25, ob_26, ob_27] ⟨I718, I719, I720, I721, I722, I723, I724, I725, I726, I727, I728, I729, I730, I731, I732, I733, I734, I735, I736, trivial⟩ in_462 b464
      refine oS (own_aaload X1148 hx hZ e1149 F1170 rfl (own_in19 b464) F1172 rfl rfl (hb hby at_99)) ?_
      show own_G p e below (T1146.setTop (mkF m 100 #[iv in_1, iv in_2, iv in_3, iv in_4, iv in_5, iv in_6, rv ob_452, iv in_462, iv in_466, rv ob_480, rv ob_917, .unset, .unset, .unset] [(.ref ob_1171), (.ref ob_1156), (.ref ob_1156)])) _
      refine oS (fun _ => XS.aload X1148.here hx rfl (hb hby at_100) rfl rfl) ?_
      refine oS (fun _ => XS.iloadN X1148.here hx rfl (hb hby at_102) rfl) ?_
      refine oS (fun _ => XS.iload X1148.here hx rfl (hb hby at_103) rfl) ?_
      have N1174 : n0 ≤ ob_1156 := by omega
      have O1175 : Old Z n0 h1126 := O1123.keep K1136 (allS N1064 all0)
      have O1176 : Old Z n0 h1147 := O1175.ext E1150
      have Z1177 : n0 ≤ h1147.size := by omega
      obtain ⟨T1178, h1179, v1180, L1181, X1182, e1183, q1184, s1185⟩ := own_callN X1148 hx hZ hown e1149 (y := (⟨"com/example/tuplewise/tuplewise/lang/Token", "<init>", "(Lcom/example/tuplewise/tuplewise/lang/Token$Kind;Ljava/lang/String;II)V"⟩ : MethodName)) (b := ob_1156) rfl (oW hw 77 rfl) (oW hw 78 rfl) (oW hw 76 rfl) (oW hw 79 rfl) (by decide) (W := 1) (own_rm7 l Z a0 hw [] ob_1156 ob_1171 ob_917 in_4 in_5 h1147 n0 Z1177 O1176 F1159 A1151 N1174 F1160 F1161 F1162) (by decide) (by decide) (by decide) (by decide) (g := (mkF m 105 #[iv in_1, iv in_2, iv in_3, iv in_4, iv in_5, iv in_6, rv ob_452, iv in_462, iv in_466, rv ob_480, rv ob_917, .unset, .unset, .unset] [(.int in_5), (.int in_4), (.ref ob_917), (.ref ob_1171), (.ref ob_1156), (.ref ob_1156)])) rfl (by rw [hml]; rfl) (argsL := [(.ref ob_1171), (.ref ob_917), (.int in_4), (.int in_5)]) (rest := [(.ref ob_1156)]) rfl (lenOf own_pd6 rfl) rfl (by show 2 * 0 + _ ≤ _; exact Nat.le_of_eq rfl) (hb hby at_105)
      refine oS s1185 ?_
      obtain ⟨rfl, N1186, K1187, F1188, F1189, F1190, F1191, F1192⟩ := q1184
      have N1193 := Fr.app N1144 N1186
      have z1194 := K1187.1
      show own_G p e below (T1178.setTop (mkF m 108 #[iv in_1, iv in_2, iv in_3, iv in_4, iv in_5, iv in_6, rv ob_452, iv in_462, iv in_466, rv ob_480, rv ob_917, .unset, .unset, .unset] [(.ref ob_1156)])) _
      refine oS (fun _ => XS.astore X1182.here hx rfl (hb hby at_108) rfl rfl (l' := #[iv in_1, iv in_2, iv in_3, iv in_4, iv in_5, iv in_6, rv ob_452, iv in_462, iv in_466, rv ob_480, rv ob_917, rv ob_1156, .unset, .unset]) rfl) ?_
      refine oS (fun _ => XS.iload X1182.here hx rfl (hb hby at_110) rfl) ?_
      refine oS (fun _ => XS.iconst X1182.here hx rfl (hb hby at_112) ) ?_
      refine oS (fun _ => XS.iand X1182.here hx rfl (hb hby at_113) rfl) ?_
      show own_G p e below (T1178.setTop (mkF m 114 #[iv in_1, iv in_2, iv in_3, iv in_4, iv in_5, iv in_6, rv ob_452, iv in_462, iv in_466, rv ob_480, rv ob_917, rv ob_1156, .unset, .unset] [(.int (in_6 &&& 2))])) _
      by_cases b1195 : (in_6 &&& 2) = 0
      · skip
        refine oS (fun _ => XS.ifYes X1182.here hx rfl (pc0 := 114) (pc' := 132) rfl (hb hby at_114) rfl (XT.i0_eq_t b1195) (by decide) (by decide)) ?_
        show own_G p e below (T1178.setTop (mkF m 132 #[iv in_1, iv in_2, iv in_3, iv in_4, iv in_5, iv in_6, rv ob_452, iv in_462, iv in_466, rv ob_480, rv ob_917, rv ob_1156, .unset, .unset] [])) _
        by_cases b1196 : in_462 = in_466
        · skip
          refine own_cast (g' := (mkF m 132 #[iv in_1, iv in_2, iv in_3, iv in_4, iv in_5, iv in_6, rv ob_452, iv in_462, iv in_462, rv ob_480, rv ob_917, rv ob_1156, .unset, .unset] [])) (by rw [b1196]) ?_
          show own_G p e below (T1178.setTop (mkF m 132 #[iv in_1, iv in_2, iv in_3, iv in_4, iv in_5, iv in_6, rv ob_452, iv in_462, iv in_462, rv ob_480, rv ob_917, rv ob_1156, .unset, .unset] [])) _
          refine oS (fun _ => XS.aload X1182.here hx rfl (hb hby at_132) rfl rfl) ?_
          refine oS (fun _ => XS.aload X1182.here hx rfl (hb hby at_134) rfl rfl) ?_
          refine oS (fun _ => XS.iload X1182.here hx rfl (hb hby at_136) rfl) ?_
          have N1197 : @Ne Nat ob_452 ob_1156 := by omega
          have F1198 : Arv Z h1179 ob_452 kk_453 (.object "com/example/tuplewise/tuplewise/lang/Token$Kind") 19 [(.ref ob_9), (.ref ob_10), (.ref ob_11), (.ref ob_12), (.ref ob_13), (.ref ob_14), (.ref ob_15), (.ref ob_16), (.ref ob_17), (.ref ob_18), (.ref ob_19), (.ref ob_20), (.ref ob_21), (.ref ob_22), (.ref ob_23), (.ref ob_24), (.ref ob_25), (.ref ob_26), (.ref ob_27)] .null := F1170.keep K1187 (ninS N1197 nin0)
          refine oS (own_aaload X1182 hx hZ e1183 F1198 rfl (own_in19 b464) F1172 rfl rfl (hb hby at_138)) ?_
          show own_G p e below (T1178.setTop (mkF m 139 #[iv in_1, iv in_2, iv in_3, iv in_4, iv in_5, iv in_6, rv ob_452, iv in_462, iv in_462, rv ob_480, rv ob_917, rv ob_1156, .unset, .unset] [(.ref ob_1171), (.ref ob_1156)])) _
          have O1199 : Old Z n0 h1179 := O1176.keep K1187 (allS N1174 all0)
          have Z1200 : n0 ≤ h1179.size := by omega
          obtain ⟨T1201, h1202, v1203, L1204, X1205, e1206, q1207, s1208⟩ := own_callV X1182 hx hZ hown e1183 (y := (⟨"com/example/tuplewise/tuplewise/lang/Token", "is", "(Lcom/example/tuplewise/tuplewise/lang/Token$Kind;)Z"⟩ : MethodName)) (z := (⟨"com/example/tuplewise/tuplewise/lang/Token", "is", "(Lcom/example/tuplewise/tuplewise/lang/Token$Kind;)Z"⟩ : MethodName)) (C := "com/example/tuplewise/tuplewise/lang/Token") (b := ob_1156) (oW hw 94 rfl) (oW hw 95 rfl) (notFace_of_selects (args := #[]) (mvT hZ (oW hw 97 rfl))) (oW hw 97 rfl) (oW hw 96 rfl) (oW hw 76 rfl) (oW hw 98 rfl) (by decide) F1190 (W := 0) (own_rm9 l Z a0 hw [] ob_1156 ob_1171 h1179 n0 Z1200 O1199 F1188) (by decide) (by decide) (by decide) (by decide) (g := (mkF m 139 #[iv in_1, iv in_2, iv in_3, iv in_4, iv in_5, iv in_6, rv ob_452, iv in_462, iv in_462, rv ob_480, rv ob_917, rv ob_1156, .unset, .unset] [(.ref ob_1171), (.ref ob_1156)])) rfl (by rw [hml]; rfl) (argsL := [(.ref ob_1171)]) (rest := []) rfl (lenOf own_pd7 rfl) rfl (by show 2 * 0 + _ ≤ _; exact Nat.le_of_eq rfl) (hb hby at_139)
          refine oS s1208 ?_
          obtain ⟨rfl, N1209, K1210⟩ := q1207
          have N1211 := Fr.app N1193 N1209
          have e1212 := e1206.trans K1210
          show own_G p e below (T1201.setTop (mkF m 142 #[iv in_1, iv in_2, iv in_3, iv in_4, iv in_5, iv in_6, rv ob_452, iv in_462, iv in_462, rv ob_480, rv ob_917, rv ob_1156, .unset, .unset] [(.int 1)])) _
          refine oS (fun _ => XS.istore X1205.here hx rfl (hb hby at_142) rfl (l' := #[iv in_1, iv in_2, iv in_3, iv in_4, iv in_5, iv in_6, rv ob_452, iv in_462, iv in_462, rv ob_480, rv ob_917, rv ob_1156, iv 1, .unset]) rfl) ?_
          refine oS (fun _ => XS.iload X1205.here hx rfl (hb hby at_144) rfl) ?_
          refine oS (fun _ => XS.iload X1205.here hx rfl (hb hby at_146) rfl) ?_
          refine oS (fun _ => XS.icmpNo X1205.here hx rfl (hb hby at_148) rfl (XT.ii_ne_f rfl)) ?_
          show own_G p e below (T1201.setTop (mkF m 151 #[iv in_1, iv in_2, iv in_3, iv in_4, iv in_5, iv in_6, rv ob_452, iv in_462, iv in_462, rv ob_480, rv ob_917, rv ob_1156, iv 1, .unset] [])) _
          refine oS (fun _ => XS.iconst X1205.here hx rfl (hb hby at_151) ) ?_
          refine oS (fun _ => XS.goto X1205.here hx rfl (pc0 := 152) (pc' := 156) rfl (hb hby at_152) (by decide) (by decide)) ?_
          show own_G p e below (T1201.setTop (mkF m 156 #[iv in_1, iv in_2, iv in_3, iv in_4, iv in_5, iv in_6, rv ob_452, iv in_462, iv in_462, rv ob_480, rv ob_917, rv ob_1156, iv 1, .unset] [(.int 1)])) _
          refine oS (fun _ => XS.istore X1205.here hx rfl (hb hby at_156) rfl (l' := #[iv in_1, iv in_2, iv in_3, iv in_4, iv in_5, iv in_6, rv ob_452, iv in_462, iv in_462, rv ob_480, rv ob_917, rv ob_1156, iv 1, iv 1]) rfl) ?_
          refine oS (fun _ => XS.iload X1205.here hx rfl (hb hby at_158) rfl) ?_
          refine oS (fun _ => XS.iload X1205.here hx rfl (hb hby at_160) rfl) ?_
          refine oS (fun _ => XS.icmpNo X1205.here hx rfl (hb hby at_162) rfl (XT.ii_ne_f (by decide))) ?_
          show own_G p e below (T1201.setTop (mkF m 165 #[iv in_1, iv in_2, iv in_3, iv in_4, iv in_5, iv in_6, rv ob_452, iv in_462, iv in_462, rv ob_480, rv ob_917, rv ob_1156, iv 1, iv 1] [])) _
          refine oS (fun _ => XS.iconst X1205.here hx rfl (hb hby at_165) ) ?_
          refine oS (fun _ => XS.goto X1205.here hx rfl (pc0 := 166) (pc' := 170) rfl (hb hby at_166) (by decide) (by decide)) ?_
          show own_G p e below (T1201.setTop (mkF m 170 #[iv in_1, iv in_2, iv in_3, iv in_4, iv in_5, iv in_6, rv ob_452, iv in_462, iv in_462, rv ob_480, rv ob_917, rv ob_1156, iv 1, iv 1] [(.int 1)])) _
          have K1213 : Keep h0 h1179 [] := (((((((((Keep.refl h0 []).trans K455 all0).ext E474).wr W493 (Or.inr (by omega))).wr W509 (Or.inr (by omega))).ext E911).trans K1136 (allS (Or.inr (by omega)) all0)).ext E1150).trans K1187 (allS (Or.inr (by omega)) all0))
          exact own_retN X1205 hx (t := .boolean) Bd.notSynchronized Bd.returns (by simp) (hb hby at_170) (by decide) e1212 (by decide) (by decide) (⟨rfl, N1211⟩)
        · skip
          refine oS (fun _ => XS.aload X1182.here hx rfl (hb hby at_132) rfl rfl) ?_
          show own_G p e below (T1178.setTop (mkF m 134 #[iv in_1, iv in_2, iv in_3, iv in_4, iv in_5, iv in_6, rv ob_452, iv in_462, iv in_466, rv ob_480, rv ob_917, rv ob_1156, .unset, .unset] [(.ref ob_1156)])) _
          refine oS (fun _ => XS.aload X1182.here hx rfl (hb hby at_134) rfl rfl) ?_
          refine oS (fun _ => XS.iload X1182.here hx rfl (hb hby at_136) rfl) ?_
          have N1214 : @Ne Nat ob_452 ob_1156 := by omega
          have F1215 : Arv Z h1179 ob_452 kk_453 (.object "com/example/tuplewise/tuplewise/lang/Token$Kind") 19 [(.ref ob_9), (.ref ob_10), (.ref ob_11), (.ref ob_12), (.ref ob_13), (.ref ob_14), (.ref ob_15), (.ref ob_16), (.ref ob_17), (.ref ob_18), (.ref ob_19), (.ref ob_20), (.ref ob_21), (.ref ob_22), (.ref ob_23), (.ref ob_24), (.ref ob_25), (.ref ob_26), (.ref ob_27)] .null := F1170.keep K1187 (ninS N1214 nin0)
          obtain ⟨ob_1216, F1217, F1218⟩ := own_pick (P := fun a z => Fld Z Z.heap a "java/lang/Enum" "ordinal" "I" (.int z)) [ob_9, ob_10, ob_11, ob_12, ob_13, ob_14, ob_15, ob_16, ob_17, ob_18, ob_19, ob_20, ob_21, ob_22, ob_23, ob_24, ob_25, ob_26, ob_27] ⟨I718, I719, I720, I721, I722, I723, I724, I725, I726, I727, I728, I729, I730, I731, I732, I733, I734, I735, I736, trivial⟩ in_466 b468
          have N1219 : ob_1171 ≠ ob_1216 := Fld.ne F1173 F1218 (fun q => b1196 (Value.int.inj q))
          refine oS (own_aaload X1182 hx hZ e1183 F1215 rfl (own_in19 b468) F1217 rfl rfl (hb hby at_138)) ?_
          show own_G p e below (T1178.setTop (mkF m 139 #[iv in_1, iv in_2, iv in_3, iv in_4, iv in_5, iv in_6, rv ob_452, iv in_462, iv in_466, rv ob_480, rv ob_917, rv ob_1156, .unset, .unset] [(.ref ob_1216), (.ref ob_1156)])) _
          have O1220 : Old Z n0 h1179 := O1176.keep K1187 (allS N1174 all0)
          have Z1221 : n0 ≤ h1179.size := by omega
          obtain ⟨T1222, h1223, v1224, L1225, X1226, e1227, q1228, s1229⟩ := own_callV X1182 hx hZ hown e1183 (y := (⟨"com/example/tuplewise/tuplewise/lang/Token", "is", "(Lcom/example/tuplewise/tuplewise/lang/Token$Kind;)Z"⟩ : MethodName)) (z := (⟨"com/example/tuplewise/tuplewise/lang/Token", "is", "(Lcom/example/tuplewise/tuplewise/lang/Token$Kind;)Z"⟩ : MethodName)) (C := "com/example/tuplewise/tuplewise/lang/Token") (b := ob_1156) (oW hw 94 rfl) (oW hw 95 rfl) (notFace_of_selects (args := #[]) (mvT hZ (oW hw 97 rfl))) (oW hw 97 rfl) (oW hw 96 rfl) (oW hw 76 rfl) (oW hw 98 rfl) (by decide) F1190 (W := 0) (own_rm10 l Z a0 hw [] ob_1156 ob_1216 ob_1171 h1179 n0 Z1221 O1220 F1188 N1219) (by decide) (by decide) (by decide) (by decide) (g := (mkF m 139 #[iv in_1, iv in_2, iv in_3, iv in_4, iv in_5, iv in_6, rv ob_452, iv in_462, iv in_466, rv ob_480, rv ob_917, rv ob_1156, .unset, .unset] [(.ref ob_1216), (.ref ob_1156)])) rfl (by rw [hml]; rfl) (argsL := [(.ref ob_1216)]) (rest := []) rfl (lenOf own_pd7 rfl) rfl (by show 2 * 0 + _ ≤ _; exact Nat.le_of_eq rfl) (hb hby at_139)
          refine oS s1229 ?_
          obtain ⟨rfl, N1230, K1231⟩ := q1228
          have N1232 := Fr.app N1193 N1230
          have e1233 := e1227.trans K1231
          show own_G p e below (T1222.setTop (mkF m 142 #[iv in_1, iv in_2, iv in_3, iv in_4, iv in_5, iv in_6, rv ob_452, iv in_462, iv in_466, rv ob_480, rv ob_917, rv ob_1156, .unset, .unset] [(.int 0)])) _
          refine oS (fun _ => XS.istore X1226.here hx rfl (hb hby at_142) rfl (l' := #[iv in_1, iv in_2, iv in_3, iv in_4, iv in_5, iv in_6, rv ob_452, iv in_462, iv in_466, rv ob_480, rv ob_917, rv ob_1156, iv 0, .unset]) rfl) ?_
          refine oS (fun _ => XS.iload X1226.here hx rfl (hb hby at_144) rfl) ?_
          refine oS (fun _ => XS.iload X1226.here hx rfl (hb hby at_146) rfl) ?_
          refine oS (fun _ => XS.icmpYes X1226.here hx rfl (pc0 := 148) (pc' := 155) rfl (hb hby at_148) rfl (XT.ii_ne_t b1196) (by decide) (by decide)) ?_
          show own_G p e below (T1222.setTop (mkF m 155 #[iv in_1, iv in_2, iv in_3, iv in_4, iv in_5, iv in_6, rv ob_452, iv in_462, iv in_466, rv ob_480, rv ob_917, rv ob_1156, iv 0, .unset] [])) _
          refine oS (fun _ => XS.iconst X1226.here hx rfl (hb hby at_155) ) ?_
          refine oS (fun _ => XS.istore X1226.here hx rfl (hb hby at_156) rfl (l' := #[iv in_1, iv in_2, iv in_3, iv in_4, iv in_5, iv in_6, rv ob_452, iv in_462, iv in_466, rv ob_480, rv ob_917, rv ob_1156, iv 0, iv 0]) rfl) ?_
          refine oS (fun _ => XS.iload X1226.here hx rfl (hb hby at_158) rfl) ?_
          refine oS (fun _ => XS.iload X1226.here hx rfl (hb hby at_160) rfl) ?_
          show own_G p e below (T1222.setTop (mkF m 162 #[iv in_1, iv in_2, iv in_3, iv in_4, iv in_5, iv in_6, rv ob_452, iv in_462, iv in_466, rv ob_480, rv ob_917, rv ob_1156, iv 0, iv 0] [(.int 0), (.int 0)])) _
          refine oS (fun _ => XS.icmpNo X1226.here hx rfl (hb hby at_162) rfl (XT.ii_ne_f (by decide))) ?_
          show own_G p e below (T1222.setTop (mkF m 165 #[iv in_1, iv in_2, iv in_3, iv in_4, iv in_5, iv in_6, rv ob_452, iv in_462, iv in_466, rv ob_480, rv ob_917, rv ob_1156, iv 0, iv 0] [])) _
          refine oS (fun _ => XS.iconst X1226.here hx rfl (hb hby at_165) ) ?_
          refine oS (fun _ => XS.goto X1226.here hx rfl (pc0 := 166) (pc' := 170) rfl (hb hby at_166) (by decide) (by decide)) ?_
          show own_G p e below (T1222.setTop (mkF m 170 #[iv in_1, iv in_2, iv in_3, iv in_4, iv in_5, iv in_6, rv ob_452, iv in_462, iv in_466, rv ob_480, rv ob_917, rv ob_1156, iv 0, iv 0] [(.int 1)])) _
          have K1234 : Keep h0 h1179 [] := (((((((((Keep.refl h0 []).trans K455 all0).ext E474).wr W493 (Or.inr (by omega))).wr W509 (Or.inr (by omega))).ext E911).trans K1136 (allS (Or.inr (by omega)) all0)).ext E1150).trans K1187 (allS (Or.inr (by omega)) all0))
          exact own_retN X1226 hx (t := .boolean) Bd.notSynchronized Bd.returns (by simp) (hb hby at_170) (by decide) e1233 (by decide) (by decide) (⟨rfl, N1232⟩)
      · skip
        refine oS (fun _ => XS.ifNo X1182.here hx rfl (hb hby at_114) rfl (XT.i0_eq_f b1195)) ?_
        show own_G p e below (T1178.setTop (mkF m 117 #[iv in_1, iv in_2, iv in_3, iv in_4, iv in_5, iv in_6, rv ob_452, iv in_462, iv in_466, rv ob_480, rv ob_917, rv ob_1156, .unset, .unset] [])) _
        refine oS (fun _ => XS.aload X1182.here hx rfl (hb hby at_117) rfl rfl) ?_
        refine oS (fun _ => XS.aconstNull X1182.here hx rfl (hb hby at_119) ) ?_
        have O1235 : Old Z n0 h1179 := O1176.keep K1187 (allS N1174 all0)
        have Z1236 : n0 ≤ h1179.size := by omega
        obtain ⟨T1237, h1238, v1239, L1240, X1241, e1242, q1243, s1244⟩ := own_callV X1182 hx hZ hown e1183 (y := (⟨"com/example/tuplewise/tuplewise/lang/Token", "is", "(Lcom/example/tuplewise/tuplewise/lang/Token$Kind;)Z"⟩ : MethodName)) (z := (⟨"com/example/tuplewise/tuplewise/lang/Token", "is", "(Lcom/example/tuplewise/tuplewise/lang/Token$Kind;)Z"⟩ : MethodName)) (C := "com/example/tuplewise/tuplewise/lang/Token") (b := ob_1156) (oW hw 94 rfl) (oW hw 95 rfl) (notFace_of_selects (args := #[]) (mvT hZ (oW hw 97 rfl))) (oW hw 97 rfl) (oW hw 96 rfl) (oW hw 76 rfl) (oW hw 98 rfl) (by decide) F1190 (W := 0) (own_rm11 l Z a0 hw [] ob_1156 ob_1171 h1179 n0 Z1236 O1235 F1188) (by decide) (by decide) (by decide) (by decide) (g := (mkF m 120 #[iv in_1, iv in_2, iv in_3, iv in_4, iv in_5, iv in_6, rv ob_452, iv in_462, iv in_466, rv ob_480, rv ob_917, rv ob_1156, .unset, .unset] [.null, (.ref ob_1156)])) rfl (by rw [hml]; rfl) (argsL := [.null]) (rest := []) rfl (lenOf own_pd7 rfl) rfl (by show 2 * 0 + _ ≤ _; exact Nat.le_of_eq rfl) (hb hby at_120)
        refine oS s1244 ?_
        obtain ⟨rfl, N1245, K1246⟩ := q1243
        have N1247 := Fr.app N1193 N1245
        have e1248 := e1242.trans K1246
        show own_G p e below (T1237.setTop (mkF m 123 #[iv in_1, iv in_2, iv in_3, iv in_4, iv in_5, iv in_6, rv ob_452, iv in_462, iv in_466, rv ob_480, rv ob_917, rv ob_1156, .unset, .unset] [(.int 0)])) _
        refine oS (fun _ => XS.ifNo X1241.here hx rfl (hb hby at_123) rfl (XT.i0_ne_f (by decide))) ?_
        show own_G p e below (T1237.setTop (mkF m 126 #[iv in_1, iv in_2, iv in_3, iv in_4, iv in_5, iv in_6, rv ob_452, iv in_462, iv in_466, rv ob_480, rv ob_917, rv ob_1156, .unset, .unset] [])) _
        refine oS (fun _ => XS.iconst X1241.here hx rfl (hb hby at_126) ) ?_
        refine oS (fun _ => XS.goto X1241.here hx rfl (pc0 := 127) (pc' := 131) rfl (hb hby at_127) (by decide) (by decide)) ?_
        show own_G p e below (T1237.setTop (mkF m 131 #[iv in_1, iv in_2, iv in_3, iv in_4, iv in_5, iv in_6, rv ob_452, iv in_462, iv in_466, rv ob_480, rv ob_917, rv ob_1156, .unset, .unset] [(.int 1)])) _
        have K1249 : Keep h0 h1179 [] := (((((((((Keep.refl h0 []).trans K455 all0).ext E474).wr W493 (Or.inr (by omega))).wr W509 (Or.inr (by omega))).ext E911).trans K1136 (allS (Or.inr (by omega)) all0)).ext E1150).trans K1187 (allS (Or.inr (by omega)) all0))
        exact own_retN X1241 hx (t := .boolean) Bd.notSynchronized Bd.returns (by simp) (hb hby at_131) (by decide) e1248 (by decide) (by decide) (⟨rfl, N1247⟩)
  · skip
    refine oS (fun _ => XS.ifNo X448.here hx rfl (hb hby at_18) rfl (XT.i0_eq_f b465)) ?_
    show own_G p e below (T444.setTop (mkF m 21 #[iv in_1, iv in_2, iv in_3, iv in_4, iv in_5, iv in_6, rv ob_452, iv in_462, .unset, .unset, .unset, .unset, .unset, .unset] [])) _
    refine oS (fun _ => XS.iload X448.here hx rfl (hb hby at_21) rfl) ?_
    refine oS (fun _ => XS.goto X448.here hx rfl (pc0 := 23) (pc' := 33) rfl (hb hby at_23) (by decide) (by decide)) ?_
    show own_G p e below (T444.setTop (mkF m 33 #[iv in_1, iv in_2, iv in_3, iv in_4, iv in_5, iv in_6, rv ob_452, iv in_462, .unset, .unset, .unset, .unset, .unset, .unset] [(.int in_462)])) _
    refine oS (fun _ => XS.istore X448.here hx rfl (hb hby at_33) rfl (l' := #[iv in_1, iv in_2, iv in_3, iv in_4, iv in_5, iv in_6, rv ob_452, iv in_462, iv in_462, .unset, .unset, .unset, .unset, .unset]) rfl) ?_
    refine oS (fun _ => XS.iconst X448.here hx rfl (hb hby at_35) ) ?_
    obtain ⟨T1250, h1251, kk_1259, X1253, e1254, E1255, A1256, B1260, s1257⟩ := own_newP X448 hx hZ (aty := .char) (oW hw 47 rfl) e449 (nm := "[C") rfl (g := (mkF m 36 #[iv in_1, iv in_2, iv in_3, iv in_4, iv in_5, iv in_6, rv ob_452, iv in_462, iv in_462, .unset, .unset, .unset, .unset, .unset] [(.int 2)])) rfl (hb hby at_36) (n := 2) (rest := []) rfl (by decide) (cap := 2) (by decide) (by decide) (by decide) (by decide)
    obtain ⟨ob_1261, g1262⟩ : ∃ z, z = h445.size := ⟨_, rfl⟩
    rw [← g1262] at A1256 B1260 s1257
    have F1263 : Arv Z h1251 ob_1261 kk_1259 .char 2 [(.int 0), (.int 0)] (.int 0) := own_newA A1256 (by decide) rfl rfl
    have z1264 := E1255.1
    have y1258 : @LT.lt Nat instLTNat ob_1261 h1251.size := F1263.lt
    refine oS s1257 ?_
    show own_G p e below (T1250.setTop (mkF m 38 #[iv in_1, iv in_2, iv in_3, iv in_4, iv in_5, iv in_6, rv ob_452, iv in_462, iv in_462, .unset, .unset, .unset, .unset, .unset] [(.ref ob_1261)])) _
    refine oS (fun _ => XS.dup X1253.here hx rfl (hb hby at_38) rfl rfl) ?_
    refine oS (fun _ => XS.iconst X1253.here hx rfl (hb hby at_39) ) ?_
    refine oS (fun _ => XS.iloadN X1253.here hx rfl (hb hby at_40) rfl) ?_
    refine oS (fun _ => XS.sipush X1253.here hx rfl (hb hby at_41) ) ?_
    show own_G p e below (T1250.setTop (mkF m 44 #[iv in_1, iv in_2, iv in_3, iv in_4, iv in_5, iv in_6, rv ob_452, iv in_462, iv in_462, .unset, .unset, .unset, .unset, .unset] [(.int 255), (.int in_3), (.int 0), (.ref ob_1261), (.ref ob_1261)])) _
    refine oS (fun _ => XS.iand X1253.here hx rfl (hb hby at_44) rfl) ?_
    refine oS (fun _ => XT.i2c X1253.here hx rfl (hb hby at_45) rfl) ?_
    show own_G p e below (T1250.setTop (mkF m 46 #[iv in_1, iv in_2, iv in_3, iv in_4, iv in_5, iv in_6, rv ob_452, iv in_462, iv in_462, .unset, .unset, .unset, .unset, .unset] [(.int ((in_3 &&& 255).toUInt32.toUInt16.toUInt32.toInt32)), (.int 0), (.ref ob_1261), (.ref ob_1261)])) _
    obtain ⟨in_1265, q1266, b1267, b1268, b1269⟩ := own_chr in_3
    refine own_cast (g' := (mkF m 46 #[iv in_1, iv in_2, iv in_3, iv in_4, iv in_5, iv in_6, rv ob_452, iv in_462, iv in_462, .unset, .unset, .unset, .unset, .unset] [(.int in_1265), (.int 0), (.ref ob_1261), (.ref ob_1261)])) (by rw [q1266]) ?_
    obtain ⟨T1270, h1271, X1272, e1273, W1274, A1275, s1276⟩ := own_stC X1253 hx hZ e1254 F1263 (x' := in_1265) 0 b1269 rfl (by decide) (by simp) (g := (mkF m 46 #[iv in_1, iv in_2, iv in_3, iv in_4, iv in_5, iv in_6, rv ob_452, iv in_462, iv in_462, .unset, .unset, .unset, .unset, .unset] [(.int in_1265), (.int 0), (.ref ob_1261), (.ref ob_1261)])) rfl (rest := [(.ref ob_1261)]) rfl (hb hby at_46)
    have N1278 : n0 ≤ ob_1261 := by omega
    have N1277 := Fr.snoc X1272 N460 N1278
    have z1279 := W1274.size
    have F1280 : Arv Z h1271 ob_1261 kk_1259 .char 2 [(.int in_1265), (.int 0)] (.int 0) := A1275
    refine oS s1276 ?_
    show own_G p e below (T1270.setTop (mkF m 47 #[iv in_1, iv in_2, iv in_3, iv in_4, iv in_5, iv in_6, rv ob_452, iv in_462, iv in_462, .unset, .unset, .unset, .unset, .unset] [(.ref ob_1261)])) _
    refine oS (fun _ => XS.dup X1272.here hx rfl (hb hby at_47) rfl rfl) ?_
    refine oS (fun _ => XS.iconst X1272.here hx rfl (hb hby at_48) ) ?_
    refine oS (fun _ => XS.iloadN X1272.here hx rfl (hb hby at_49) rfl) ?_
    refine oS (fun _ => XS.bipush X1272.here hx rfl (hb hby at_50) ) ?_
    show own_G p e below (T1270.setTop (mkF m 52 #[iv in_1, iv in_2, iv in_3, iv in_4, iv in_5, iv in_6, rv ob_452, iv in_462, iv in_462, .unset, .unset, .unset, .unset, .unset] [(.int 8), (.int in_3), (.int 1), (.ref ob_1261), (.ref ob_1261)])) _
    refine oS (fun _ => XT.iushr X1272.here hx rfl (hb hby at_52) rfl) ?_
    refine oS (fun _ => XS.sipush X1272.here hx rfl (hb hby at_53) ) ?_
    refine oS (fun _ => XS.iand X1272.here hx rfl (hb hby at_56) rfl) ?_
    refine oS (fun _ => XT.i2c X1272.here hx rfl (hb hby at_57) rfl) ?_
    show own_G p e below (T1270.setTop (mkF m 58 #[iv in_1, iv in_2, iv in_3, iv in_4, iv in_5, iv in_6, rv ob_452, iv in_462, iv in_462, .unset, .unset, .unset, .unset, .unset] [(.int (((XT.ushr in_3 8) &&& 255).toUInt32.toUInt16.toUInt32.toInt32)), (.int 1), (.ref ob_1261), (.ref ob_1261)])) _
    obtain ⟨in_1281, q1282, b1283, b1284, b1285⟩ := own_chr (XT.ushr in_3 8)
    refine own_cast (g' := (mkF m 58 #[iv in_1, iv in_2, iv in_3, iv in_4, iv in_5, iv in_6, rv ob_452, iv in_462, iv in_462, .unset, .unset, .unset, .unset, .unset] [(.int in_1281), (.int 1), (.ref ob_1261), (.ref ob_1261)])) (by rw [q1282]) ?_
    obtain ⟨T1286, h1287, X1288, e1289, W1290, A1291, s1292⟩ := own_stC X1272 hx hZ e1273 F1280 (x' := in_1281) 1 b1285 rfl (by decide) (by simp) (g := (mkF m 58 #[iv in_1, iv in_2, iv in_3, iv in_4, iv in_5, iv in_6, rv ob_452, iv in_462, iv in_462, .unset, .unset, .unset, .unset, .unset] [(.int in_1281), (.int 1), (.ref ob_1261), (.ref ob_1261)])) rfl (rest := [(.ref ob_1261)]) rfl (hb hby at_58)
    have N1293 := Fr.snoc X1288 N1277 N1278
    have z1294 := W1290.size
    have F1295 : Arv Z h1287 ob_1261 kk_1259 .char 2 [(.int in_1265), (.int in_1281)] (.int 0) := A1291
    refine oS s1292 ?_
    show own_G p e below (T1286.setTop (mkF m 59 #[iv in_1, iv in_2, iv in_3, iv in_4, iv in_5, iv in_6, rv ob_452, iv in_462, iv in_462, .unset, .unset, .unset, .unset, .unset] [(.ref ob_1261)])) _
    refine oS (fun _ => XS.astore X1288.here hx rfl (hb hby at_59) rfl rfl (l' := #[iv in_1, iv in_2, iv in_3, iv in_4, iv in_5, iv in_6, rv ob_452, iv in_462, iv in_462, rv ob_1261, .unset, .unset, .unset, .unset]) rfl) ?_
    refine oS (fun _ => XS.iload X1288.here hx rfl (hb hby at_61) rfl) ?_
    refine oS (fun _ => XS.iconst X1288.here hx rfl (hb hby at_63) ) ?_
    refine oS (fun _ => XS.iand X1288.here hx rfl (hb hby at_64) rfl) ?_
    show own_G p e below (T1286.setTop (mkF m 65 #[iv in_1, iv in_2, iv in_3, iv in_4, iv in_5, iv in_6, rv ob_452, iv in_462, iv in_462, rv ob_1261, .unset, .unset, .unset, .unset] [(.int (in_6 &&& 4))])) _
    by_cases b1296 : (in_6 &&& 4) = 0
    · skip
      refine oS (fun _ => XS.ifYes X1288.here hx rfl (pc0 := 65) (pc' := 80) rfl (hb hby at_65) rfl (XT.i0_eq_t b1296) (by decide) (by decide)) ?_
      show own_G p e below (T1286.setTop (mkF m 80 #[iv in_1, iv in_2, iv in_3, iv in_4, iv in_5, iv in_6, rv ob_452, iv in_462, iv in_462, rv ob_1261, .unset, .unset, .unset, .unset] [])) _
      refine oS (fun _ => XS.iloadN X1288.here hx rfl (hb hby at_80) rfl) ?_
      refine oS (fun _ => XS.sipush X1288.here hx rfl (hb hby at_81) ) ?_
      refine oS (fun _ => XS.iand X1288.here hx rfl (hb hby at_84) rfl) ?_
      refine oS (fun _ => XT.i2c X1288.here hx rfl (hb hby at_85) rfl) ?_
      show own_G p e below (T1286.setTop (mkF m 86 #[iv in_1, iv in_2, iv in_3, iv in_4, iv in_5, iv in_6, rv ob_452, iv in_462, iv in_462, rv ob_1261, .unset, .unset, .unset, .unset] [(.int ((in_3 &&& 255).toUInt32.toUInt16.toUInt32.toInt32))])) _
      obtain ⟨in_1297, q1298, b1299, b1300, b1301⟩ := own_chr in_3
      refine own_cast (g' := (mkF m 86 #[iv in_1, iv in_2, iv in_3, iv in_4, iv in_5, iv in_6, rv ob_452, iv in_462, iv in_462, rv ob_1261, .unset, .unset, .unset, .unset] [(.int in_1297)])) (by rw [q1298]) ?_
      have O1302 : Old Z n0 h445 := O0.keep K455 all0
      have O1303 : Old Z n0 h1251 := O1302.ext E1255
      have O1304 : Old Z n0 h1271 := O1303.wr W1274 N1278
      have O1305 : Old Z n0 h1287 := O1304.wr W1290 N1278
      have Z1306 : n0 ≤ h1287.size := by omega
      obtain ⟨T1307, h1308, v1309, L1310, X1311, e1312, q1313, s1314⟩ := own_callS X1288 hx hZ hown e1289 (y := (⟨"java/lang/String", "valueOf", "(C)Ljava/lang/String;"⟩ : MethodName)) (oW hw 48 rfl) (oW hw 49 rfl) (oW hw 50 rfl) (oW hw 51 rfl) (by decide) (W := 0) (own_rm3 l Z a0 hw [] in_1297 in_7 h1287 n0 Z1306 O1305 I521 I528 b1300) (by decide) (by decide) (by decide) (by decide) (g := (mkF m 86 #[iv in_1, iv in_2, iv in_3, iv in_4, iv in_5, iv in_6, rv ob_452, iv in_462, iv in_462, rv ob_1261, .unset, .unset, .unset, .unset] [(.int in_1297)])) rfl (by rw [hml]; rfl) (argsL := [(.int in_1297)]) (rest := []) rfl (lenOf own_pd4 rfl) rfl (by show 2 * 0 + _ ≤ _; exact Nat.le_of_eq rfl) (hb hby at_86)
      refine oS s1314 ?_
      obtain ⟨ob_1315, ob_1316, kk_1317, rfl, N1318, K1319, F1320, F1321, F1322, F1323, F1324, F1325, F1326, F1327, F1328⟩ := q1313
      have N1329 := Fr.app N1293 N1318
      have z1330 := K1319.1
      show own_G p e below (T1307.setTop (mkF m 89 #[iv in_1, iv in_2, iv in_3, iv in_4, iv in_5, iv in_6, rv ob_452, iv in_462, iv in_462, rv ob_1261, .unset, .unset, .unset, .unset] [(.ref ob_1315)])) _
      refine oS (fun _ => XS.astore X1311.here hx rfl (hb hby at_89) rfl rfl (l' := #[iv in_1, iv in_2, iv in_3, iv in_4, iv in_5, iv in_6, rv ob_452, iv in_462, iv in_462, rv ob_1261, rv ob_1315, .unset, .unset, .unset]) rfl) ?_
      obtain ⟨T1331, h1332, X1333, e1334, E1335, A1336, D1337, U1340, s1338⟩ := newO X1311 hx hZ hown (oW hw 74 rfl) (oW hw 75 rfl) (oW hw 76 rfl) e1312 (g := (mkF m 91 #[iv in_1, iv in_2, iv in_3, iv in_4, iv in_5, iv in_6, rv ob_452, iv in_462, iv in_462, rv ob_1261, rv ob_1315, .unset, .unset, .unset] [])) rfl (hb hby at_91) (by decide) (by decide)
      obtain ⟨ob_1341, g1342⟩ : ∃ z, z = h1308.size := ⟨_, rfl⟩
      rw [← g1342] at A1336 D1337 U1340 s1338
      have z1343 := E1335.1
      have y1339 : @LT.lt Nat instLTNat ob_1341 h1332.size := A1336.lt
      refine oS s1338 ?_
      have F1344 : Fld Z h1332 ob_1341 "com/example/tuplewise/tuplewise/lang/Token" "kind" "Lcom/example/tuplewise/tuplewise/lang/Token$Kind;" .null := D1337 (Or.inr (oW hw 87 rfl)) (ty := (.object "com/example/tuplewise/tuplewise/lang/Token$Kind")) (by decide)
      have F1345 : Fld Z h1332 ob_1341 "com/example/tuplewise/tuplewise/lang/Token" "text" "Ljava/lang/String;" .null := D1337 (Or.inr (oW hw 89 rfl)) (ty := (.object "java/lang/String")) (by decide)
      have F1346 : Fld Z h1332 ob_1341 "com/example/tuplewise/tuplewise/lang/Token" "line" "I" (.int 0) := D1337 (Or.inr (oW hw 91 rfl)) (ty := .int) (by decide)
      have F1347 : Fld Z h1332 ob_1341 "com/example/tuplewise/tuplewise/lang/Token" "column" "I" (.int 0) := D1337 (Or.inr (oW hw 93 rfl)) (ty := .int) (by decide)
      show own_G p e below (T1331.setTop (mkF m 94 #[iv in_1, iv in_2, iv in_3, iv in_4, iv in_5, iv in_6, rv ob_452, iv in_462, iv in_462, rv ob_1261, rv ob_1315, .unset, .unset, .unset] [(.ref ob_1341)])) _
      refine oS (fun _ => XS.dup X1333.here hx rfl (hb hby at_94) rfl rfl) ?_
      refine oS (fun _ => XS.aload X1333.here hx rfl (hb hby at_95) rfl rfl) ?_
      refine oS (fun _ => XS.iload X1333.here hx rfl (hb hby at_97) rfl) ?_
      have F1348 : Arv Z h1251 ob_452 kk_453 (.object "com/example/tuplewise/tuplewise/lang/Token$Kind") 19 [(.ref ob_9), (.ref ob_10), (.ref ob_11), (.ref ob_12), (.ref ob_13), (.ref ob_14), (.ref ob_15), (.ref ob_16), (.ref ob_17), (.ref ob_18), (.ref ob_19), (.ref ob_20), (.ref ob_21), (.ref ob_22), (.ref ob_23), (.ref ob_24), (.ref ob_25), (.ref ob_26), (.ref ob_27)] .null := F457.ext E1255
      have N1349 : @Ne Nat ob_452 ob_1261 := by omega
      have F1350 : Arv Z h1271 ob_452 kk_453 (.object "com/example/tuplewise/tuplewise/lang/Token$Kind") 19 [(.ref ob_9), (.ref ob_10), (.ref ob_11), (.ref ob_12), (.ref ob_13), (.ref ob_14), (.ref ob_15), (.ref ob_16), (.ref ob_17), (.ref ob_18), (.ref ob_19), (.ref ob_20), (.ref ob_21), (.ref ob_22), (.ref ob_23), (.ref ob_24), (.ref ob_25), (.ref ob_26), (.ref ob_27)] .null := F1348.other W1274 N1349
      have F1351 : Arv Z h1287 ob_452 kk_453 (.object "com/example/tuplewise/tuplewise/lang/Token$Kind") 19 [(.ref ob_9), (.ref ob_10), (.ref ob_11), (.ref ob_12), (.ref ob_13), (.ref ob_14), (.ref ob_15), (.ref ob_16), (.ref ob_17), (.ref ob_18), (.ref ob_19), (.ref ob_20), (.ref ob_21), (.ref ob_22), (.ref ob_23), (.ref ob_24), (.ref ob_25), (.ref ob_26), (.ref ob_27)] .null := F1350.other W1290 N1349
      have F1352 : Arv Z h1308 ob_452 kk_453 (.object "com/example/tuplewise/tuplewise/lang/Token$Kind") 19 [(.ref ob_9), (.ref ob_10), (.ref ob_11), (.ref ob_12), (.ref ob_13), (.ref ob_14), (.ref ob_15), (.ref ob_16), (.ref ob_17), (.ref ob_18), (.ref ob_19), (.ref ob_20), (.ref ob_21), (.ref ob_22), (.ref ob_23), (.ref ob_24), (.ref ob_25), (.ref ob_26), (.ref ob_27)] .null := F1351.keep K1319 nin0
      have F1353 : Arv Z h1332 ob_452 kk_453 (.object "com/example/tuplewise/tuplewise/lang/Token$Kind") 19 [(.ref ob_9), (.ref ob_10), (.ref ob_11), (.ref ob_12), (.ref ob_13), (.ref ob_14), (.ref ob_15), (.ref ob_16), (.ref ob_17), (.ref ob_18), (.ref ob_19), (.ref ob_20), (.ref ob_21), (.ref ob_22), (.ref ob_23), (.ref ob_24), (.ref ob_25), (.ref ob_26), (.ref ob_27)] .null := F1352.ext E1335
      obtain ⟨ob_1354, F1355, F1356⟩ := own_pick (P := fun a z => Fld Z Z.heap a "java/lang/Enum" "ordinal" "I" (.int z)) [ob_9, ob_10, ob_11, ob_12, ob_13, ob_14, ob_15, ob_16, ob_17, ob_18, ob_19, ob_20, ob_21, ob_22, ob_23, ob_24, ob_25, ob_26, ob_27] ⟨I718, I719, I720, I721, I722, I723, I724, I725, I726, I727, I728, I729, I730, I731, I732, I733, I734, I735, I736, trivial⟩ in_462 b464
      refine oS (own_aaload X1333 hx hZ e1334 F1353 rfl (own_in19 b464) F1355 rfl rfl (hb hby at_99)) ?_
      show own_G p e below (T1331.setTop (mkF m 100 #[iv in_1, iv in_2, iv in_3, iv in_4, iv in_5, iv in_6, rv ob_452, iv in_462, iv in_462, rv ob_1261, rv ob_1315, .unset, .unset, .unset] [(.ref ob_1354), (.ref ob_1341), (.ref ob_1341)])) _
      refine oS (fun _ => XS.aload X1333.here hx rfl (hb hby at_100) rfl rfl) ?_
      refine oS (fun _ => XS.iloadN X1333.here hx rfl (hb hby at_102) rfl) ?_
      refine oS (fun _ => XS.iload X1333.here hx rfl (hb hby at_103) rfl) ?_
      have N1357 : n0 ≤ ob_1341 := by omega
      have O1358 : Old Z n0 h1308 := O1305.keep K1319 all0
      have O1359 : Old Z n0 h1332 := O1358.ext E1335
      have Z1360 : n0 ≤ h1332.size := by omega
      obtain ⟨T1361, h1362, v1363, L1364, X1365, e1366, q1367, s1368⟩ := own_callN X1333 hx hZ hown e1334 (y := (⟨"com/example/tuplewise/tuplewise/lang/Token", "<init>", "(Lcom/example/tuplewise/tuplewise/lang/Token$Kind;Ljava/lang/String;II)V"⟩ : MethodName)) (b := ob_1341) rfl (oW hw 77 rfl) (oW hw 78 rfl) (oW hw 76 rfl) (oW hw 79 rfl) (by decide) (W := 1) (own_rm7 l Z a0 hw [] ob_1341 ob_1354 ob_1315 in_4 in_5 h1332 n0 Z1360 O1359 F1344 A1336 N1357 F1345 F1346 F1347) (by decide) (by decide) (by decide) (by decide) (g := (mkF m 105 #[iv in_1, iv in_2, iv in_3, iv in_4, iv in_5, iv in_6, rv ob_452, iv in_462, iv in_462, rv ob_1261, rv ob_1315, .unset, .unset, .unset] [(.int in_5), (.int in_4), (.ref ob_1315), (.ref ob_1354), (.ref ob_1341), (.ref ob_1341)])) rfl (by rw [hml]; rfl) (argsL := [(.ref ob_1354), (.ref ob_1315), (.int in_4), (.int in_5)]) (rest := [(.ref ob_1341)]) rfl (lenOf own_pd6 rfl) rfl (by show 2 * 0 + _ ≤ _; exact Nat.le_of_eq rfl) (hb hby at_105)
      refine oS s1368 ?_
      obtain ⟨rfl, N1369, K1370, F1371, F1372, F1373, F1374, F1375⟩ := q1367
      have N1376 := Fr.app N1329 N1369
      have z1377 := K1370.1
      show own_G p e below (T1361.setTop (mkF m 108 #[iv in_1, iv in_2, iv in_3, iv in_4, iv in_5, iv in_6, rv ob_452, iv in_462, iv in_462, rv ob_1261, rv ob_1315, .unset, .unset, .unset] [(.ref ob_1341)])) _
      refine oS (fun _ => XS.astore X1365.here hx rfl (hb hby at_108) rfl rfl (l' := #[iv in_1, iv in_2, iv in_3, iv in_4, iv in_5, iv in_6, rv ob_452, iv in_462, iv in_462, rv ob_1261, rv ob_1315, rv ob_1341, .unset, .unset]) rfl) ?_
      refine oS (fun _ => XS.iload X1365.here hx rfl (hb hby at_110) rfl) ?_
      refine oS (fun _ => XS.iconst X1365.here hx rfl (hb hby at_112) ) ?_
      refine oS (fun _ => XS.iand X1365.here hx rfl (hb hby at_113) rfl) ?_
      show own_G p e below (T1361.setTop (mkF m 114 #[iv in_1, iv in_2, iv in_3, iv in_4, iv in_5, iv in_6, rv ob_452, iv in_462, iv in_462, rv ob_1261, rv ob_1315, rv ob_1341, .unset, .unset] [(.int (in_6 &&& 2))])) _
      by_cases b1378 : (in_6 &&& 2) = 0
      · skip
        refine oS (fun _ => XS.ifYes X1365.here hx rfl (pc0 := 114) (pc' := 132) rfl (hb hby at_114) rfl (XT.i0_eq_t b1378) (by decide) (by decide)) ?_
        show own_G p e below (T1361.setTop (mkF m 132 #[iv in_1, iv in_2, iv in_3, iv in_4, iv in_5, iv in_6, rv ob_452, iv in_462, iv in_462, rv ob_1261, rv ob_1315, rv ob_1341, .unset, .unset] [])) _
        refine oS (fun _ => XS.aload X1365.here hx rfl (hb hby at_132) rfl rfl) ?_
        refine oS (fun _ => XS.aload X1365.here hx rfl (hb hby at_134) rfl rfl) ?_
        refine oS (fun _ => XS.iload X1365.here hx rfl (hb hby at_136) rfl) ?_
        have N1379 : @Ne Nat ob_452 ob_1341 := by omega
        have F1380 : Arv Z h1362 ob_452 kk_453 (.object "com/example/tuplewise/tuplewise/lang/Token$Kind") 19 [(.ref ob_9), (.ref ob_10), (.ref ob_11), (.ref ob_12), (.ref ob_13), (.ref ob_14), (.ref ob_15), (.ref ob_16), (.ref ob_17), (.ref ob_18), (.ref ob_19), (.ref ob_20), (.ref ob_21), (.ref ob_22), (.ref ob_23), (.ref ob_24), (.ref ob_25), (.ref ob_26), (.ref ob_27)] .null := F1353.keep K1370 (ninS N1379 nin0)
        refine oS (own_aaload X1365 hx hZ e1366 F1380 rfl (own_in19 b464) F1355 rfl rfl (hb hby at_138)) ?_
        show own_G p e below (T1361.setTop (mkF m 139 #[iv in_1, iv in_2, iv in_3, iv in_4, iv in_5, iv in_6, rv ob_452, iv in_462, iv in_462, rv ob_1261, rv ob_1315, rv ob_1341, .unset, .unset] [(.ref ob_1354), (.ref ob_1341)])) _
        have O1381 : Old Z n0 h1362 := O1359.keep K1370 (allS N1357 all0)
        have Z1382 : n0 ≤ h1362.size := by omega
        obtain ⟨T1383, h1384, v1385, L1386, X1387, e1388, q1389, s1390⟩ := own_callV X1365 hx hZ hown e1366 (y := (⟨"com/example/tuplewise/tuplewise/lang/Token", "is", "(Lcom/example/tuplewise/tuplewise/lang/Token$Kind;)Z"⟩ : MethodName)) (z := (⟨"com/example/tuplewise/tuplewise/lang/Token", "is", "(Lcom/example/tuplewise/tuplewise/lang/Token$Kind;)Z"⟩ : MethodName)) (C := "com/example/tuplewise/tuplewise/lang/Token") (b := ob_1341) (oW hw 94 rfl) (oW hw 95 rfl) (notFace_of_selects (args := #[]) (mvT hZ (oW hw 97 rfl))) (oW hw 97 rfl) (oW hw 96 rfl) (oW hw 76 rfl) (oW hw 98 rfl) (by decide) F1373 (W := 0) (own_rm9 l Z a0 hw [] ob_1341 ob_1354 h1362 n0 Z1382 O1381 F1371) (by decide) (by decide) (by decide) (by decide) (g := (mkF m 139 #[iv in_1, iv in_2, iv in_3, iv in_4, iv in_5, iv in_6, rv ob_452, iv in_462, iv in_462, rv ob_1261, rv ob_1315, rv ob_1341, .unset, .unset] [(.ref ob_1354), (.ref ob_1341)])) rfl (by rw [hml]; rfl) (argsL := [(.ref ob_1354)]) (rest := []) rfl (lenOf own_pd7 rfl) rfl (by show 2 * 0 + _ ≤ _; exact Nat.le_of_eq rfl) (hb hby at_139)
        refine oS s1390 ?_
        obtain ⟨rfl, N1391, K1392⟩ := q1389
        have N1393 := Fr.app N1376 N1391
        have e1394 := e1388.trans K1392
        show own_G p e below (T1383.setTop (mkF m 142 #[iv in_1, iv in_2, iv in_3, iv in_4, iv in_5, iv in_6, rv ob_452, iv in_462, iv in_462, rv ob_1261, rv ob_1315, rv ob_1341, .unset, .unset] [(.int 1)])) _
        refine oS (fun _ => XS.istore X1387.here hx rfl (hb hby at_142) rfl (l' := #[iv in_1, iv in_2, iv in_3, iv in_4, iv in_5, iv in_6, rv ob_452, iv in_462, iv in_462, rv ob_1261, rv ob_1315, rv ob_1341, iv 1, .unset]) rfl) ?_
        refine oS (fun _ => XS.iload X1387.here hx rfl (hb hby at_144) rfl) ?_
        refine oS (fun _ => XS.iload X1387.here hx rfl (hb hby at_146) rfl) ?_
        refine oS (fun _ => XS.icmpNo X1387.here hx rfl (hb hby at_148) rfl (XT.ii_ne_f rfl)) ?_
        show own_G p e below (T1383.setTop (mkF m 151 #[iv in_1, iv in_2, iv in_3, iv in_4, iv in_5, iv in_6, rv ob_452, iv in_462, iv in_462, rv ob_1261, rv ob_1315, rv ob_1341, iv 1, .unset] [])) _
        refine oS (fun _ => XS.iconst X1387.here hx rfl (hb hby at_151) ) ?_
        refine oS (fun _ => XS.goto X1387.here hx rfl (pc0 := 152) (pc' := 156) rfl (hb hby at_152) (by decide) (by decide)) ?_
        show own_G p e below (T1383.setTop (mkF m 156 #[iv in_1, iv in_2, iv in_3, iv in_4, iv in_5, iv in_6, rv ob_452, iv in_462, iv in_462, rv ob_1261, rv ob_1315, rv ob_1341, iv 1, .unset] [(.int 1)])) _
        refine oS (fun _ => XS.istore X1387.here hx rfl (hb hby at_156) rfl (l' := #[iv in_1, iv in_2, iv in_3, iv in_4, iv in_5, iv in_6, rv ob_452, iv in_462, iv in_462, rv ob_1261, rv ob_1315, rv ob_1341, iv 1, iv 1]) rfl) ?_
        refine oS (fun _ => XS.iload X1387.here hx rfl (hb hby at_158) rfl) ?_
        refine oS (fun _ => XS.iload X1387.here hx rfl (hb hby at_160) rfl) ?_
        refine oS (fun _ => XS.icmpNo X1387.here hx rfl (hb hby at_162) rfl (XT.ii_ne_f (by decide))) ?_
        show own_G p e below (T1383.setTop (mkF m 165 #[iv in_1, iv in_2, iv in_3, iv in_4, iv in_5, iv in_6, rv ob_452, iv in_462, iv in_462, rv ob_1261, rv ob_1315, rv ob_1341, iv 1, iv 1] [])) _
        refine oS (fun _ => XS.iconst X1387.here hx rfl (hb hby at_165) ) ?_
        refine oS (fun _ => XS.goto X1387.here hx rfl (pc0 := 166) (pc' := 170) rfl (hb hby at_166) (by decide) (by decide)) ?_
        show own_G p e below (T1383.setTop (mkF m 170 #[iv in_1, iv in_2, iv in_3, iv in_4, iv in_5, iv in_6, rv ob_452, iv in_462, iv in_462, rv ob_1261, rv ob_1315, rv ob_1341, iv 1, iv 1] [(.int 1)])) _
        have K1395 : Keep h0 h1362 [] := ((((((((Keep.refl h0 []).trans K455 all0).ext E1255).wr W1274 (Or.inr (by omega))).wr W1290 (Or.inr (by omega))).trans K1319 all0).ext E1335).trans K1370 (allS (Or.inr (by omega)) all0))
        exact own_retN X1387 hx (t := .boolean) Bd.notSynchronized Bd.returns (by simp) (hb hby at_170) (by decide) e1394 (by decide) (by decide) (⟨rfl, N1393⟩)
      · skip
        refine oS (fun _ => XS.ifNo X1365.here hx rfl (hb hby at_114) rfl (XT.i0_eq_f b1378)) ?_
        show own_G p e below (T1361.setTop (mkF m 117 #[iv in_1, iv in_2, iv in_3, iv in_4, iv in_5, iv in_6, rv ob_452, iv in_462, iv in_462, rv ob_1261, rv ob_1315, rv ob_1341, .unset, .unset] [])) _
        refine oS (fun _ => XS.aload X1365.here hx rfl (hb hby at_117) rfl rfl) ?_
        refine oS (fun _ => XS.aconstNull X1365.here hx rfl (hb hby at_119) ) ?_
        have O1396 : Old Z n0 h1362 := O1359.keep K1370 (allS N1357 all0)
        have Z1397 : n0 ≤ h1362.size := by omega
        obtain ⟨T1398, h1399, v1400, L1401, X1402, e1403, q1404, s1405⟩ := own_callV X1365 hx hZ hown e1366 (y := (⟨"com/example/tuplewise/tuplewise/lang/Token", "is", "(Lcom/example/tuplewise/tuplewise/lang/Token$Kind;)Z"⟩ : MethodName)) (z := (⟨"com/example/tuplewise/tuplewise/lang/Token", "is", "(Lcom/example/tuplewise/tuplewise/lang/Token$Kind;)Z"⟩ : MethodName)) (C := "com/example/tuplewise/tuplewise/lang/Token") (b := ob_1341) (oW hw 94 rfl) (oW hw 95 rfl) (notFace_of_selects (args := #[]) (mvT hZ (oW hw 97 rfl))) (oW hw 97 rfl) (oW hw 96 rfl) (oW hw 76 rfl) (oW hw 98 rfl) (by decide) F1373 (W := 0) (own_rm11 l Z a0 hw [] ob_1341 ob_1354 h1362 n0 Z1397 O1396 F1371) (by decide) (by decide) (by decide) (by decide) (g := (mkF m 120 #[iv in_1, iv in_2, iv in_3, iv in_4, iv in_5, iv in_6, rv ob_452, iv in_462, iv in_462, rv ob_1261, rv ob_1315, rv ob_1341, .unset, .unset] [.null, (.ref ob_1341)])) rfl (by rw [hml]; rfl) (argsL := [.null]) (rest := []) rfl (lenOf own_pd7 rfl) rfl (by show 2 * 0 + _ ≤ _; exact Nat.le_of_eq rfl) (hb hby at_120)
        refine oS s1405 ?_
        obtain ⟨rfl, N1406, K1407⟩ := q1404
        have N1408 := Fr.app N1376 N1406
        have e1409 := e1403.trans K1407
        show own_G p e below (T1398.setTop (mkF m 123 #[iv in_1, iv in_2, iv in_3, iv in_4, iv in_5, iv in_6, rv ob_452, iv in_462, iv in_462, rv ob_1261, rv ob_1315, rv ob_1341, .unset, .unset] [(.int 0)])) _
        refine oS (fun _ => XS.ifNo X1402.here hx rfl (hb hby at_123) rfl (XT.i0_ne_f (by decide))) ?_
        show own_G p e below (T1398.setTop (mkF m 126 #[iv in_1, iv in_2, iv in_3, iv in_4, iv in_5, iv in_6, rv ob_452, iv in_462, iv in_462, rv ob_1261, rv ob_1315, rv ob_1341, .unset, .unset] [])) _
        refine oS (fun _ => XS.iconst X1402.here hx rfl (hb hby at_126) ) ?_
        refine oS (fun _ => XS.goto X1402.here hx rfl (pc0 := 127) (pc' := 131) rfl (hb hby at_127) (by decide) (by decide)) ?_
        show own_G p e below (T1398.setTop (mkF m 131 #[iv in_1, iv in_2, iv in_3, iv in_4, iv in_5, iv in_6, rv ob_452, iv in_462, iv in_462, rv ob_1261, rv ob_1315, rv ob_1341, .unset, .unset] [(.int 1)])) _
        have K1410 : Keep h0 h1362 [] := ((((((((Keep.refl h0 []).trans K455 all0).ext E1255).wr W1274 (Or.inr (by omega))).wr W1290 (Or.inr (by omega))).trans K1319 all0).ext E1335).trans K1370 (allS (Or.inr (by omega)) all0))
        exact own_retN X1402 hx (t := .boolean) Bd.notSynchronized Bd.returns (by simp) (hb hby at_131) (by decide) e1409 (by decide) (by decide) (⟨rfl, N1408⟩)
    · skip
      refine oS (fun _ => XS.ifNo X1288.here hx rfl (hb hby at_65) rfl (XT.i0_eq_f b1296)) ?_
      show own_G p e below (T1286.setTop (mkF m 68 #[iv in_1, iv in_2, iv in_3, iv in_4, iv in_5, iv in_6, rv ob_452, iv in_462, iv in_462, rv ob_1261, .unset, .unset, .unset, .unset] [])) _
      obtain ⟨T1411, h1412, X1413, e1414, E1415, A1416, D1417, U1420, s1418⟩ := newO X1288 hx hZ hown (oW hw 99 rfl) (oW hw 58 rfl) (oW hw 50 rfl) e1289 (g := (mkF m 68 #[iv in_1, iv in_2, iv in_3, iv in_4, iv in_5, iv in_6, rv ob_452, iv in_462, iv in_462, rv ob_1261, .unset, .unset, .unset, .unset] [])) rfl (hb hby at_68) (by decide) (by decide)
      obtain ⟨ob_1421, g1422⟩ : ∃ z, z = h1287.size := ⟨_, rfl⟩
      rw [← g1422] at A1416 D1417 U1420 s1418
      have z1423 := E1415.1
      have y1419 : @LT.lt Nat instLTNat ob_1421 h1412.size := A1416.lt
      refine oS s1418 ?_
      have F1424 : Fld Z h1412 ob_1421 "java/lang/String" "value" "[B" .null := D1417 (Or.inr (oW hw 71 rfl)) (ty := (.array .byte)) (by decide)
      have F1425 : Fld Z h1412 ob_1421 "java/lang/String" "coder" "B" (.int 0) := D1417 (Or.inr (oW hw 73 rfl)) (ty := .byte) (by decide)
      show own_G p e below (T1411.setTop (mkF m 71 #[iv in_1, iv in_2, iv in_3, iv in_4, iv in_5, iv in_6, rv ob_452, iv in_462, iv in_462, rv ob_1261, .unset, .unset, .unset, .unset] [(.ref ob_1421)])) _
      refine oS (fun _ => XS.dup X1413.here hx rfl (hb hby at_71) rfl rfl) ?_
      refine oS (fun _ => XS.aload X1413.here hx rfl (hb hby at_72) rfl rfl) ?_
      have F1426 : Arv Z h1412 ob_1261 kk_1259 .char 2 [(.int in_1265), (.int in_1281)] (.int 0) := F1295.ext E1415
      have y1427 : @LT.lt Nat instLTNat ob_1261 h1412.size := by omega
      have N1428 : n0 ≤ ob_1421 := by omega
      have y1429 : @LT.lt Nat instLTNat ob_1421 h1412.size := by omega
      have O1430 : Old Z n0 h445 := O0.keep K455 all0
      have O1431 : Old Z n0 h1251 := O1430.ext E1255
      have O1432 : Old Z n0 h1271 := O1431.wr W1274 N1278
      have O1433 : Old Z n0 h1287 := O1432.wr W1290 N1278
      have O1434 : Old Z n0 h1412 := O1433.ext E1415
      have Z1435 : n0 ≤ h1412.size := by omega
      obtain ⟨T1436, h1437, v1438, L1439, X1440, e1441, q1442, s1443⟩ := own_callN X1413 hx hZ hown e1414 (y := (⟨"java/lang/String", "<init>", "([C)V"⟩ : MethodName)) (b := ob_1421) rfl (oW hw 100 rfl) (oW hw 101 rfl) (oW hw 50 rfl) (oW hw 102 rfl) (by decide) (W := 1) (own_rm12 l Z a0 hw [] ob_1421 ob_1261 kk_1259 in_1265 in_1281 in_7 h1412 n0 Z1435 O1434 F1426 I521 I528 b1268 y1427 b1284 F1425 A1416 N1428 F1424 y1429) (by decide) (by decide) (by decide) (by decide) (g := (mkF m 74 #[iv in_1, iv in_2, iv in_3, iv in_4, iv in_5, iv in_6, rv ob_452, iv in_462, iv in_462, rv ob_1261, .unset, .unset, .unset, .unset] [(.ref ob_1261), (.ref ob_1421), (.ref ob_1421)])) rfl (by rw [hml]; rfl) (argsL := [(.ref ob_1261)]) (rest := [(.ref ob_1421)]) rfl (lenOf own_pd12 rfl) rfl (by show 2 * 0 + _ ≤ _; exact Nat.le_of_eq rfl) (hb hby at_74)
      refine oS s1443 ?_
      obtain ⟨ob_1444, kk_1445, rfl, N1446, K1447, F1448, F1449, F1450, F1451, F1452, F1453, F1454⟩ := q1442
      have N1455 := Fr.app N1293 N1446
      have z1456 := K1447.1
      show own_G p e below (T1436.setTop (mkF m 77 #[iv in_1, iv in_2, iv in_3, iv in_4, iv in_5, iv in_6, rv ob_452, iv in_462, iv in_462, rv ob_1261, .unset, .unset, .unset, .unset] [(.ref ob_1421)])) _
      refine oS (fun _ => XS.goto X1440.here hx rfl (pc0 := 77) (pc' := 89) rfl (hb hby at_77) (by decide) (by decide)) ?_
      show own_G p e below (T1436.setTop (mkF m 89 #[iv in_1, iv in_2, iv in_3, iv in_4, iv in_5, iv in_6, rv ob_452, iv in_462, iv in_462, rv ob_1261, .unset, .unset, .unset, .unset] [(.ref ob_1421)])) _
      refine oS (fun _ => XS.astore X1440.here hx rfl (hb hby at_89) rfl rfl (l' := #[iv in_1, iv in_2, iv in_3, iv in_4, iv in_5, iv in_6, rv ob_452, iv in_462, iv in_462, rv ob_1261, rv ob_1421, .unset, .unset, .unset]) rfl) ?_
      obtain ⟨T1457, h1458, X1459, e1460, E1461, A1462, D1463, U1466, s1464⟩ := newO X1440 hx hZ hown (oW hw 74 rfl) (oW hw 75 rfl) (oW hw 76 rfl) e1441 (g := (mkF m 91 #[iv in_1, iv in_2, iv in_3, iv in_4, iv in_5, iv in_6, rv ob_452, iv in_462, iv in_462, rv ob_1261, rv ob_1421, .unset, .unset, .unset] [])) rfl (hb hby at_91) (by decide) (by decide)
      obtain ⟨ob_1467, g1468⟩ : ∃ z, z = h1437.size := ⟨_, rfl⟩
      rw [← g1468] at A1462 D1463 U1466 s1464
      have z1469 := E1461.1
      have y1465 : @LT.lt Nat instLTNat ob_1467 h1458.size := A1462.lt
      refine oS s1464 ?_
      have F1470 : Fld Z h1458 ob_1467 "com/example/tuplewise/tuplewise/lang/Token" "kind" "Lcom/example/tuplewise/tuplewise/lang/Token$Kind;" .null := D1463 (Or.inr (oW hw 87 rfl)) (ty := (.object "com/example/tuplewise/tuplewise/lang/Token$Kind")) (by decide)
      have F1471 : Fld Z h1458 ob_1467 "com/example/tuplewise/tuplewise/lang/Token" "text" "Ljava/lang/String;" .null := D1463 (Or.inr (oW hw 89 rfl)) (ty := (.object "java/lang/String")) (by decide)
      have F1472 : Fld Z h1458 ob_1467 "com/example/tuplewise/tuplewise/lang/Token" "line" "I" (.int 0) := D1463 (Or.inr (oW hw 91 rfl)) (ty := .int) (by decide)
      have F1473 : Fld Z h1458 ob_1467 "com/example/tuplewise/tuplewise/lang/Token" "column" "I" (.int 0) := D1463 (Or.inr (oW hw 93 rfl)) (ty := .int) (by decide)
      show own_G p e below (T1457.setTop (mkF m 94 #[iv in_1, iv in_2, iv in_3, iv in_4, iv in_5, iv in_6, rv ob_452, iv in_462, iv in_462, rv ob_1261, rv ob_1421, .unset, .unset, .unset] [(.ref ob_1467)])) _
      refine oS (fun _ => XS.dup X1459.here hx rfl (hb hby at_94) rfl rfl) ?_
      refine oS (fun _ => XS.aload X1459.here hx rfl (hb hby at_95) rfl rfl) ?_
      refine oS (fun _ => XS.iload X1459.here hx rfl (hb hby at_97) rfl) ?_
      have F1474 : Arv Z h1251 ob_452 kk_453 (.object "com/example/tuplewise/tuplewise/lang/Token$Kind") 19 [(.ref ob_9), (.ref ob_10), (.ref ob_11), (.ref ob_12), (.ref ob_13), (.ref ob_14), (.ref ob_15), (.ref ob_16), (.ref ob_17), (.ref ob_18), (.ref ob_19), (.ref ob_20), (.ref ob_21), (.ref ob_22), (.ref ob_23), (.ref ob_24), (.ref ob_25), (.ref ob_26), (.ref ob_27)] .null := F457.ext E1255
      have N1475 : @Ne Nat ob_452 ob_1261 := by omega
      have F1476 : Arv Z h1271 ob_452 kk_453 (.object "com/example/tuplewise/tuplewise/lang/Token$Kind") 19 [(.ref ob_9), (.ref ob_10), (.ref ob_11), (.ref ob_12), (.ref ob_13), (.ref ob_14), (.ref ob_15), (.ref ob_16), (.ref ob_17), (.ref ob_18), (.ref ob_19), (.ref ob_20), (.ref ob_21), (.ref ob_22), (.ref ob_23), (.ref ob_24), (.ref ob_25), (.ref ob_26), (.ref ob_27)] .null := F1474.other W1274 N1475
      have F1477 : Arv Z h1287 ob_452 kk_453 (.object "com/example/tuplewise/tuplewise/lang/Token$Kind") 19 [(.ref ob_9), (.ref ob_10), (.ref ob_11), (.ref ob_12), (.ref ob_13), (.ref ob_14), (.ref ob_15), (.ref ob_16), (.ref ob_17), (.ref ob_18), (.ref ob_19), (.ref ob_20), (.ref ob_21), (.ref ob_22), (.ref ob_23), (.ref ob_24), (.ref ob_25), (.ref ob_26), (.ref ob_27)] .null := F1476.other W1290 N1475
      have F1478 : Arv Z h1412 ob_452 kk_453 (.object "com/example/tuplewise/tuplewise/lang/Token$Kind") 19 [(.ref ob_9), (.ref ob_10), (.ref ob_11), (.ref ob_12), (.ref ob_13), (.ref ob_14), (.ref ob_15), (.ref ob_16), (.ref ob_17), (.ref ob_18), (.ref ob_19), (.ref ob_20), (.ref ob_21), (.ref ob_22), (.ref ob_23), (.ref ob_24), (.ref ob_25), (.ref ob_26), (.ref ob_27)] .null := F1477.ext E1415
      have N1479 : @Ne Nat ob_452 ob_1421 := by omega
      have F1480 : Arv Z h1437 ob_452 kk_453 (.object "com/example/tuplewise/tuplewise/lang/Token$Kind") 19 [(.ref ob_9), (.ref ob_10), (.ref ob_11), (.ref ob_12), (.ref ob_13), (.ref ob_14), (.ref ob_15), (.ref ob_16), (.ref ob_17), (.ref ob_18), (.ref ob_19), (.ref ob_20), (.ref ob_21), (.ref ob_22), (.ref ob_23), (.ref ob_24), (.ref ob_25), (.ref ob_26), (.ref ob_27)] .null := F1478.keep K1447 (ninS N1479 nin0)
      have F1481 : Arv Z h1458 ob_452 kk_453 (.object "com/example/tuplewise/tuplewise/lang/Token$Kind") 19 [(.ref ob_9), (.ref ob_10), (.ref ob_11), (.ref ob_12), (.ref ob_13), (.ref ob_14), (.ref ob_15), (.ref ob_16), (.ref ob_17), (.ref ob_18), (.ref ob_19), (.ref ob_20), (.ref ob_21), (.ref ob_22), (.ref ob_23), (.ref ob_24), (.ref ob_25), (.ref ob_26), (.ref ob_27)] .null := F1480.ext E1461
      obtain ⟨ob_1482, F1483, F1484⟩ := own_pick (P := fun a z => Fld Z Z.heap a "java/lang/Enum" "ordinal" "I" (.int z)) [ob_9, ob_10, ob_11, ob_12, ob_13, ob_14, ob_15, ob_16, ob_17, ob_18, ob_19, ob_20, ob_21, ob_22, ob_23, ob_24, ob_25, ob_26, ob_27] ⟨I718, I719, I720, I721, I722, I723, I724, I725, I726, I727, I728, I729, I730, I731, I732, I733, I734, I735, I736, trivial⟩ in_462 b464
      refine oS (own_aaload X1459 hx hZ e1460 F1481 rfl (own_in19 b464) F1483 rfl rfl (hb hby at_99)) ?_
      show own_G p e below (T1457.setTop (mkF m 100 #[iv in_1, iv in_2, iv in_3, iv in_4, iv in_5, iv in_6, rv ob_452, iv in_462, iv in_462, rv ob_1261, rv ob_1421, .unset, .unset, .unset] [(.ref ob_1482), (.ref ob_1467), (.ref ob_1467)])) _
      refine oS (fun _ => XS.aload X1459.here hx rfl (hb hby at_100) rfl rfl) ?_
      refine oS (fun _ => XS.iloadN X1459.here hx rfl (hb hby at_102) rfl) ?_
      refine oS (fun _ => XS.iload X1459.here hx rfl (hb hby at_103) rfl) ?_
      have N1485 : n0 ≤ ob_1467 := by omega
      have O1486 : Old Z n0 h1437 := O1434.keep K1447 (allS N1428 all0)
      have O1487 : Old Z n0 h1458 := O1486.ext E1461
      have Z1488 : n0 ≤ h1458.size := by omega
      obtain ⟨T1489, h1490, v1491, L1492, X1493, e1494, q1495, s1496⟩ := own_callN X1459 hx hZ hown e1460 (y := (⟨"com/example/tuplewise/tuplewise/lang/Token", "<init>", "(Lcom/example/tuplewise/tuplewise/lang/Token$Kind;Ljava/lang/String;II)V"⟩ : MethodName)) (b := ob_1467) rfl (oW hw 77 rfl) (oW hw 78 rfl) (oW hw 76 rfl) (oW hw 79 rfl) (by decide) (W := 1) (own_rm7 l Z a0 hw [] ob_1467 ob_1482 ob_1421 in_4 in_5 h1458 n0 Z1488 O1487 F1470 A1462 N1485 F1471 F1472 F1473) (by decide) (by decide) (by decide) (by decide) (g := (mkF m 105 #[iv in_1, iv in_2, iv in_3, iv in_4, iv in_5, iv in_6, rv ob_452, iv in_462, iv in_462, rv ob_1261, rv ob_1421, .unset, .unset, .unset] [(.int in_5), (.int in_4), (.ref ob_1421), (.ref ob_1482), (.ref ob_1467), (.ref ob_1467)])) rfl (by rw [hml]; rfl) (argsL := [(.ref ob_1482), (.ref ob_1421), (.int in_4), (.int in_5)]) (rest := [(.ref ob_1467)]) rfl (lenOf own_pd6 rfl) rfl (by show 2 * 0 + _ ≤ _; exact Nat.le_of_eq rfl) (hb hby at_105)
      refine oS s1496 ?_
      obtain ⟨rfl, N1497, K1498, F1499, F1500, F1501, F1502, F1503⟩ := q1495
      have N1504 := Fr.app N1455 N1497
      have z1505 := K1498.1
      show own_G p e below (T1489.setTop (mkF m 108 #[iv in_1, iv in_2, iv in_3, iv in_4, iv in_5, iv in_6, rv ob_452, iv in_462, iv in_462, rv ob_1261, rv ob_1421, .unset, .unset, .unset] [(.ref ob_1467)])) _
      refine oS (fun _ => XS.astore X1493.here hx rfl (hb hby at_108) rfl rfl (l' := #[iv in_1, iv in_2, iv in_3, iv in_4, iv in_5, iv in_6, rv ob_452, iv in_462, iv in_462, rv ob_1261, rv ob_1421, rv ob_1467, .unset, .unset]) rfl) ?_
      refine oS (fun _ => XS.iload X1493.here hx rfl (hb hby at_110) rfl) ?_
      refine oS (fun _ => XS.iconst X1493.here hx rfl (hb hby at_112) ) ?_
      refine oS (fun _ => XS.iand X1493.here hx rfl (hb hby at_113) rfl) ?_
      show own_G p e below (T1489.setTop (mkF m 114 #[iv in_1, iv in_2, iv in_3, iv in_4, iv in_5, iv in_6, rv ob_452, iv in_462, iv in_462, rv ob_1261, rv ob_1421, rv ob_1467, .unset, .unset] [(.int (in_6 &&& 2))])) _
      by_cases b1506 : (in_6 &&& 2) = 0
      · skip
        refine oS (fun _ => XS.ifYes X1493.here hx rfl (pc0 := 114) (pc' := 132) rfl (hb hby at_114) rfl (XT.i0_eq_t b1506) (by decide) (by decide)) ?_
        show own_G p e below (T1489.setTop (mkF m 132 #[iv in_1, iv in_2, iv in_3, iv in_4, iv in_5, iv in_6, rv ob_452, iv in_462, iv in_462, rv ob_1261, rv ob_1421, rv ob_1467, .unset, .unset] [])) _
        refine oS (fun _ => XS.aload X1493.here hx rfl (hb hby at_132) rfl rfl) ?_
        refine oS (fun _ => XS.aload X1493.here hx rfl (hb hby at_134) rfl rfl) ?_
        refine oS (fun _ => XS.iload X1493.here hx rfl (hb hby at_136) rfl) ?_
        have N1507 : @Ne Nat ob_452 ob_1467 := by omega
        have F1508 : Arv Z h1490 ob_452 kk_453 (.object "com/example/tuplewise/tuplewise/lang/Token$Kind") 19 [(.ref ob_9), (.ref ob_10), (.ref ob_11), (.ref ob_12), (.ref ob_13), (.ref ob_14), (.ref ob_15), (.ref ob_16), (.ref ob_17), (.ref ob_18), (.ref ob_19), (.ref ob_20), (.ref ob_21), (.ref ob_22), (.ref ob_23), (.ref ob_24), (.ref ob_25), (.ref ob_26), (.ref ob_27)] .null := F1481.keep K1498 (ninS N1507 nin0)
        refine oS (own_aaload X1493 hx hZ e1494 F1508 rfl (own_in19 b464) F1483 rfl rfl (hb hby at_138)) ?_
        show own_G p e below (T1489.setTop (mkF m 139 #[iv in_1, iv in_2, iv in_3, iv in_4, iv in_5, iv in_6, rv ob_452, iv in_462, iv in_462, rv ob_1261, rv ob_1421, rv ob_1467, .unset, .unset] [(.ref ob_1482), (.ref ob_1467)])) _
        have O1509 : Old Z n0 h1490 := O1487.keep K1498 (allS N1485 all0)
        have Z1510 : n0 ≤ h1490.size := by omega
        obtain ⟨T1511, h1512, v1513, L1514, X1515, e1516, q1517, s1518⟩ := own_callV X1493 hx hZ hown e1494 (y := (⟨"com/example/tuplewise/tuplewise/lang/Token", "is", "(Lcom/example/tuplewise/tuplewise/lang/Token$Kind;)Z"⟩ : MethodName)) (z := (⟨"com/example/tuplewise/tuplewise/lang/Token", "is", "(Lcom/example/tuplewise/tuplewise/lang/Token$Kind;)Z"⟩ : MethodName)) (C := "com/example/tuplewise/tuplewise/lang/Token") (b := ob_1467) (oW hw 94 rfl) (oW hw 95 rfl) (notFace_of_selects (args := #[]) (mvT hZ (oW hw 97 rfl))) (oW hw 97 rfl) (oW hw 96 rfl) (oW hw 76 rfl) (oW hw 98 rfl) (by decide) F1501 (W := 0) (own_rm9 l Z a0 hw [] ob_1467 ob_1482 h1490 n0 Z1510 O1509 F1499) (by decide) (by decide) (by decide) (by decide) (g := (mkF m 139 #[iv in_1, iv in_2, iv in_3, iv in_4, iv in_5, iv in_6, rv ob_452, iv in_462, iv in_462, rv ob_1261, rv ob_1421, rv ob_1467, .unset, .unset] [(.ref ob_1482), (.ref ob_1467)])) rfl (by rw [hml]; rfl) (argsL := [(.ref ob_1482)]) (rest := []) rfl (lenOf own_pd7 rfl) rfl (by show 2 * 0 + _ ≤ _; exact Nat.le_of_eq rfl) (hb hby at_139)
        refine oS s1518 ?_
        obtain ⟨rfl, N1519, K1520⟩ := q1517
        have N1521 := Fr.app N1504 N1519
        have e1522 := e1516.trans K1520
        show own_G p e below (T1511.setTop (mkF m 142 #[iv in_1, iv in_2, iv in_3, iv in_4, iv in_5, iv in_6, rv ob_452, iv in_462, iv in_462, rv ob_1261, rv ob_1421, rv ob_1467, .unset, .unset] [(.int 1)])) _
        refine oS (fun _ => XS.istore X1515.here hx rfl (hb hby at_142) rfl (l' := #[iv in_1, iv in_2, iv in_3, iv in_4, iv in_5, iv in_6, rv ob_452, iv in_462, iv in_462, rv ob_1261, rv ob_1421, rv ob_1467, iv 1, .unset]) rfl) ?_
        refine oS (fun _ => XS.iload X1515.here hx rfl (hb hby at_144) rfl) ?_
        refine oS (fun _ => XS.iload X1515.here hx rfl (hb hby at_146) rfl) ?_
        refine oS (fun _ => XS.icmpNo X1515.here hx rfl (hb hby at_148) rfl (XT.ii_ne_f rfl)) ?_
        show own_G p e below (T1511.setTop (mkF m 151 #[iv in_1, iv in_2, iv in_3, iv in_4, iv in_5, iv in_6, rv ob_452, iv in_462, iv in_462, rv ob_1261, rv ob_1421, rv ob_1467, iv 1, .unset] [])) _
        refine oS (fun _ => XS.iconst X1515.here hx rfl (hb hby at_151) ) ?_
        refine oS (fun _ => XS.goto X1515.here hx rfl (pc0 := 152) (pc' := 156) rfl (hb hby at_152) (by decide) (by decide)) ?_
        show own_G p e below (T1511.setTop (mkF m 156 #[iv in_1, iv in_2, iv in_3, iv in_4, iv in_5, iv in_6, rv ob_452, iv in_462, iv in_462, rv ob_1261, rv ob_1421, rv ob_1467, iv 1, .unset] [(.int 1)])) _
        refine oS (fun _ => XS.istore X1515.here hx rfl (hb hby at_156) rfl (l' := #[iv in_1, iv in_2, iv in_3, iv in_4, iv in_5, iv in_6, rv ob_452, iv in_462, iv in_462, rv ob_1261, rv ob_1421, rv ob_1467, iv 1, iv 1]) rfl) ?_
        refine oS (fun _ => XS.iload X1515.here hx rfl (hb hby at_158) rfl) ?_
        refine oS (fun _ => XS.iload X1515.here hx rfl (hb hby at_160) rfl) ?_
        refine oS (fun _ => XS.icmpNo X1515.here hx rfl (hb hby at_162) rfl (XT.ii_ne_f (by decide))) ?_
        show own_G p e below (T1511.setTop (mkF m 165 #[iv in_1, iv in_2, iv in_3, iv in_4, iv in_5, iv in_6, rv ob_452, iv in_462, iv in_462, rv ob_1261, rv ob_1421, rv ob_1467, iv 1, iv 1] [])) _
        refine oS (fun _ => XS.iconst X1515.here hx rfl (hb hby at_165) ) ?_
        refine oS (fun _ => XS.goto X1515.here hx rfl (pc0 := 166) (pc' := 170) rfl (hb hby at_166) (by decide) (by decide)) ?_
        show own_G p e below (T1511.setTop (mkF m 170 #[iv in_1, iv in_2, iv in_3, iv in_4, iv in_5, iv in_6, rv ob_452, iv in_462, iv in_462, rv ob_1261, rv ob_1421, rv ob_1467, iv 1, iv 1] [(.int 1)])) _
        have K1523 : Keep h0 h1490 [] := (((((((((Keep.refl h0 []).trans K455 all0).ext E1255).wr W1274 (Or.inr (by omega))).wr W1290 (Or.inr (by omega))).ext E1415).trans K1447 (allS (Or.inr (by omega)) all0)).ext E1461).trans K1498 (allS (Or.inr (by omega)) all0))
        exact own_retN X1515 hx (t := .boolean) Bd.notSynchronized Bd.returns (by simp) (hb hby at_170) (by decide) e1522 (by decide) (by decide) (⟨rfl, N1521⟩)
      · skip
        refine oS (fun _ => XS.ifNo X1493.here hx rfl (hb hby at_114) rfl (XT.i0_eq_f b1506)) ?_
        show own_G p e below (T1489.setTop (mkF m 117 #[iv in_1, iv in_2, iv in_3, iv in_4, iv in_5, iv in_6, rv ob_452, iv in_462, iv in_462, rv ob_1261, rv ob_1421, rv ob_1467, .unset, .unset] [])) _
        refine oS (fun _ => XS.aload X1493.here hx rfl (hb hby at_117) rfl rfl) ?_
        refine oS (fun _ => XS.aconstNull X1493.here hx rfl (hb hby at_119) ) ?_
        have O1524 : Old Z n0 h1490 := O1487.keep K1498 (allS N1485 all0)
        have Z1525 : n0 ≤ h1490.size := by omega
        obtain ⟨T1526, h1527, v1528, L1529, X1530, e1531, q1532, s1533⟩ := own_callV X1493 hx hZ hown e1494 (y := (⟨"com/example/tuplewise/tuplewise/lang/Token", "is", "(Lcom/example/tuplewise/tuplewise/lang/Token$Kind;)Z"⟩ : MethodName)) (z := (⟨"com/example/tuplewise/tuplewise/lang/Token", "is", "(Lcom/example/tuplewise/tuplewise/lang/Token$Kind;)Z"⟩ : MethodName)) (C := "com/example/tuplewise/tuplewise/lang/Token") (b := ob_1467) (oW hw 94 rfl) (oW hw 95 rfl) (notFace_of_selects (args := #[]) (mvT hZ (oW hw 97 rfl))) (oW hw 97 rfl) (oW hw 96 rfl) (oW hw 76 rfl) (oW hw 98 rfl) (by decide) F1501 (W := 0) (own_rm11 l Z a0 hw [] ob_1467 ob_1482 h1490 n0 Z1525 O1524 F1499) (by decide) (by decide) (by decide) (by decide) (g := (mkF m 120 #[iv in_1, iv in_2, iv in_3, iv in_4, iv in_5, iv in_6, rv ob_452, iv in_462, iv in_462, rv ob_1261, rv ob_1421, rv ob_1467, .unset, .unset] [.null, (.ref ob_1467)])) rfl (by rw [hml]; rfl) (argsL := [.null]) (rest := []) rfl (lenOf own_pd7 rfl) rfl (by show 2 * 0 + _ ≤ _; exact Nat.le_of_eq rfl) (hb hby at_120)
        refine oS s1533 ?_
        obtain ⟨rfl, N1534, K1535⟩ := q1532
        have N1536 := Fr.app N1504 N1534
        have e1537 := e1531.trans K1535
        show own_G p e below (T1526.setTop (mkF m 123 #[iv in_1, iv in_2, iv in_3, iv in_4, iv in_5, iv in_6, rv ob_452, iv in_462, iv in_462, rv ob_1261, rv ob_1421, rv ob_1467, .unset, .unset] [(.int 0)])) _
        refine oS (fun _ => XS.ifNo X1530.here hx rfl (hb hby at_123) rfl (XT.i0_ne_f (by decide))) ?_
        show own_G p e below (T1526.setTop (mkF m 126 #[iv in_1, iv in_2, iv in_3, iv in_4, iv in_5, iv in_6, rv ob_452, iv in_462, iv in_462, rv ob_1261, rv ob_1421, rv ob_1467, .unset, .unset] [])) _
        refine oS (fun _ => XS.iconst X1530.here hx rfl (hb hby at_126) ) ?_
        refine oS (fun _ => XS.goto X1530.here hx rfl (pc0 := 127) (pc' := 131) rfl (hb hby at_127) (by decide) (by decide)) ?_
        show own_G p e below (T1526.setTop (mkF m 131 #[iv in_1, iv in_2, iv in_3, iv in_4, iv in_5, iv in_6, rv ob_452, iv in_462, iv in_462, rv ob_1261, rv ob_1421, rv ob_1467, .unset, .unset] [(.int 1)])) _
        have K1538 : Keep h0 h1490 [] := (((((((((Keep.refl h0 []).trans K455 all0).ext E1255).wr W1274 (Or.inr (by omega))).wr W1290 (Or.inr (by omega))).ext E1415).trans K1447 (allS (Or.inr (by omega)) all0)).ext E1461).trans K1498 (allS (Or.inr (by omega)) all0))
        exact own_retN X1530 hx (t := .boolean) Bd.notSynchronized Bd.returns (by simp) (hb hby at_131) (by decide) e1537 (by decide) (by decide) (⟨rfl, N1536⟩)
set_option maxRecDepth 65536 in
set_option maxHeartbeats 40000000 in
theorem comes_1 {Post : Tables → Env → Array Value → State → Outcome → State → Prop} (hpost : ∀ tb e args s v u, (limb_1_1.after args s (.returned v) u = true ∧ limb_1_2.after args s (.returned v) u = true ∧ True) → FrameEnd s (.returned v) u (Jvm.fieldLocs frame_1_writes args s ++ Jvm.arrayLocs frame_1_arrays args s ++ Jvm.staticLocs frame_1_statics s) 24 128 → Post tb e args s (.returned v) u) :
    ArmFor flags0 classFile x code maxLocals ret World_1 tables_1 room_1 Calls_1 rest_1 Pre_1 Post := by
  intro l hfl _ _ p e ha hc hk s m args below hf hA hF happ hP
  obtain ⟨hcalls, hrest, hpre⟩ := hP
  obtain ⟨-, -, -, hnamed, -, -, -, hat⟩ := (Spec.applies_iff hf).mp happ
  obtain ⟨hg, hn⟩ := and_e (Cond.before_iff.mp (show (Jvm.Cond.and given_1 narrow_1).before args s = true from hpre))
  obtain ⟨g0, gg0⟩ := and_e hg
  obtain ⟨w0, w1, w2, w3, w4, w5, rfl⟩ : ∃ w0 w1 w2 w3 w4 w5 : Value, args = #[w0, w1, w2, w3, w4, w5] := by
    have hs : args.size = 6 := by simpa [Cond.value, given_1] using g0
    obtain ⟨L⟩ := args
    match L, hs with
    | [w0, w1, w2, w3, w4, w5], _ => exact ⟨w0, w1, w2, w3, w4, w5, rfl⟩
  have hw := fun d (hd : d ∈ tables_1) => atoms_spec (ws := Jvm.Cond.code x code maxLocals ret :: tables_1) hat d (List.mem_cons_of_mem _ hd)
  obtain ⟨hsets, hown0⟩ := atoms_of _ (rest_1_c_eq ▸ (show rest_1_c.before _ s = true from hrest))
  have hfit : Fit s := fun {y c} hc i hi => by
    obtain ⟨ha, rfl⟩ := Array.getElem?_eq_some_iff.mp hc
    have q := List.all_eq_true.mp ((Array.all_eq_true_iff_forall_mem.mp hF) _ (Array.getElem_mem ha)) i (List.mem_range.mpr hi)
    simpa [Array.getElem?_eq_getElem hi] using q
  obtain ⟨ga0, gg1⟩ := and_e gg0
  obtain ⟨in_1, ea0⟩ := is_v ga0
  obtain rfl : w0 = (.int in_1) := Option.some.inj ea0
  obtain ⟨ga1, gg2⟩ := and_e gg1
  obtain ⟨in_2, ea1⟩ := is_v ga1
  obtain rfl : w1 = (.int in_2) := Option.some.inj ea1
  obtain ⟨ga2, gg3⟩ := and_e gg2
  obtain ⟨in_3, ea2⟩ := is_v ga2
  obtain rfl : w2 = (.int in_3) := Option.some.inj ea2
  obtain ⟨ga3, gg4⟩ := and_e gg3
  obtain ⟨in_4, ea3⟩ := is_v ga3
  obtain rfl : w3 = (.int in_4) := Option.some.inj ea3
  obtain ⟨ga4, gg5⟩ := and_e gg4
  obtain ⟨in_5, ea4⟩ := is_v ga4
  obtain rfl : w4 = (.int in_5) := Option.some.inj ea4
  obtain ⟨in_6, ea5⟩ := is_v gg5
  obtain rfl : w5 = (.int in_6) := Option.some.inj ea5
  obtain ⟨c0, r0⟩ := and_e hn
  obtain ⟨c1, r1⟩ := and_e r0
  obtain ⟨c2, r2⟩ := and_e r1
  obtain ⟨c3, r3⟩ := and_e r2
  obtain ⟨c4, r4⟩ := and_e r3
  obtain ⟨c5, r5⟩ := and_e r4
  obtain ⟨c6, r6⟩ := and_e r5
  obtain ⟨c7, r7⟩ := and_e r6
  obtain ⟨c8, r8⟩ := and_e r7
  obtain ⟨c9, r9⟩ := and_e r8
  obtain ⟨c10, r10⟩ := and_e r9
  obtain ⟨c11, r11⟩ := and_e r10
  obtain ⟨c12, r12⟩ := and_e r11
  obtain ⟨c13, r13⟩ := and_e r12
  obtain ⟨c14, r14⟩ := and_e r13
  obtain ⟨c15, r15⟩ := and_e r14
  obtain ⟨c16, r16⟩ := and_e r15
  obtain ⟨c17, r17⟩ := and_e r16
  obtain ⟨c18, r18⟩ := and_e r17
  obtain ⟨c19, r19⟩ := and_e r18
  obtain ⟨c20, r20⟩ := and_e r19
  obtain ⟨c21, r21⟩ := and_e r20
  obtain ⟨c22, r22⟩ := and_e r21
  obtain ⟨c23, r23⟩ := and_e r22
  obtain ⟨c24, r24⟩ := and_e r23
  obtain ⟨c25, r25⟩ := and_e r24
  obtain ⟨c26, r26⟩ := and_e r25
  obtain ⟨c27, r27⟩ := and_e r26
  obtain ⟨c28, r28⟩ := and_e r27
  obtain ⟨c29, r29⟩ := and_e r28
  obtain ⟨c30, r30⟩ := and_e r29
  obtain ⟨c31, r31⟩ := and_e r30
  obtain ⟨c32, r32⟩ := and_e r31
  obtain ⟨c33, r33⟩ := and_e r32
  obtain ⟨c34, r34⟩ := and_e r33
  obtain ⟨c35, r35⟩ := and_e r34
  obtain ⟨c36, c37⟩ := and_e r35
  obtain ⟨in_7, ev_in_7⟩ := is_v (Cond.before_iff.mp (hsets _ (List.mem_of_getElem? (i := 1) rfl)))
  obtain ⟨va_8, ev_va_8, rf_va_8⟩ := isR_v (Cond.before_iff.mp (hsets _ (List.mem_of_getElem? (i := 8) rfl)))
  obtain ⟨ob_9, ev_ob_9⟩ := exa_v c0
  obtain ⟨ob_10, ev_ob_10⟩ := exa_v c1
  obtain ⟨ob_11, ev_ob_11⟩ := exa_v c2
  obtain ⟨ob_12, ev_ob_12⟩ := exa_v c3
  obtain ⟨ob_13, ev_ob_13⟩ := exa_v c4
  obtain ⟨ob_14, ev_ob_14⟩ := exa_v c5
  obtain ⟨ob_15, ev_ob_15⟩ := exa_v c6
  obtain ⟨ob_16, ev_ob_16⟩ := exa_v c7
  obtain ⟨ob_17, ev_ob_17⟩ := exa_v c8
  obtain ⟨ob_18, ev_ob_18⟩ := exa_v c9
  obtain ⟨ob_19, ev_ob_19⟩ := exa_v c10
  obtain ⟨ob_20, ev_ob_20⟩ := exa_v c11
  obtain ⟨ob_21, ev_ob_21⟩ := exa_v c12
  obtain ⟨ob_22, ev_ob_22⟩ := exa_v c13
  obtain ⟨ob_23, ev_ob_23⟩ := exa_v c14
  obtain ⟨ob_24, ev_ob_24⟩ := exa_v c15
  obtain ⟨ob_25, ev_ob_25⟩ := exa_v c16
  obtain ⟨ob_26, ev_ob_26⟩ := exa_v c17
  obtain ⟨ob_27, ev_ob_27⟩ := exa_v c18
  obtain ⟨n, o, h1, h2, h3, _, L, rfl, ⟨rfl, N⟩, hq⟩ := own_rm1 l s _ hw tables_1 in_1 in_2 in_3 in_4 in_5 in_6 ob_9 ob_10 ob_11 ob_12 ob_13 ob_14 ob_15 ob_16 ob_17 ob_18 ob_19 ob_20 ob_21 ob_22 ob_23 ob_24 ob_25 ob_26 ob_27 in_7 s.heap s.heap.size (Nat.le_refl _) (Old.start s) (Sta.start ev_ob_9 (Or.inr ⟨(oW hw 7 rfl), (oW hw 8 rfl)⟩)) (Exa.start ev_ob_9 c0) (Sta.start ev_ob_10 (Or.inr ⟨(oW hw 7 rfl), (oW hw 11 rfl)⟩)) (Exa.start ev_ob_10 c1) (Sta.start ev_ob_11 (Or.inr ⟨(oW hw 7 rfl), (oW hw 13 rfl)⟩)) (Exa.start ev_ob_11 c2) (Sta.start ev_ob_12 (Or.inr ⟨(oW hw 7 rfl), (oW hw 15 rfl)⟩)) (Exa.start ev_ob_12 c3) (Sta.start ev_ob_13 (Or.inr ⟨(oW hw 7 rfl), (oW hw 17 rfl)⟩)) (Exa.start ev_ob_13 c4) (Sta.start ev_ob_14 (Or.inr ⟨(oW hw 7 rfl), (oW hw 19 rfl)⟩)) (Exa.start ev_ob_14 c5) (Sta.start ev_ob_15 (Or.inr ⟨(oW hw 7 rfl), (oW hw 21 rfl)⟩)) (Exa.start ev_ob_15 c6) (Sta.start ev_ob_16 (Or.inr ⟨(oW hw 7 rfl), (oW hw 23 rfl)⟩)) (Exa.start ev_ob_16 c7) (Sta.start ev_ob_17 (Or.inr ⟨(oW hw 7 rfl), (oW hw 25 rfl)⟩)) (Exa.start ev_ob_17 c8) (Sta.start ev_ob_18 (Or.inr ⟨(oW hw 7 rfl), (oW hw 27 rfl)⟩)) (Exa.start ev_ob_18 c9) (Sta.start ev_ob_19 (Or.inr ⟨(oW hw 7 rfl), (oW hw 29 rfl)⟩)) (Exa.start ev_ob_19 c10) (Sta.start ev_ob_20 (Or.inr ⟨(oW hw 7 rfl), (oW hw 31 rfl)⟩)) (Exa.start ev_ob_20 c11) (Sta.start ev_ob_21 (Or.inr ⟨(oW hw 7 rfl), (oW hw 33 rfl)⟩)) (Exa.start ev_ob_21 c12) (Sta.start ev_ob_22 (Or.inr ⟨(oW hw 7 rfl), (oW hw 35 rfl)⟩)) (Exa.start ev_ob_22 c13) (Sta.start ev_ob_23 (Or.inr ⟨(oW hw 7 rfl), (oW hw 37 rfl)⟩)) (Exa.start ev_ob_23 c14) (Sta.start ev_ob_24 (Or.inr ⟨(oW hw 7 rfl), (oW hw 39 rfl)⟩)) (Exa.start ev_ob_24 c15) (Sta.start ev_ob_25 (Or.inr ⟨(oW hw 7 rfl), (oW hw 41 rfl)⟩)) (Exa.start ev_ob_25 c16) (Sta.start ev_ob_26 (Or.inr ⟨(oW hw 7 rfl), (oW hw 43 rfl)⟩)) (Exa.start ev_ob_26 c17) (Sta.start ev_ob_27 (Or.inr ⟨(oW hw 7 rfl), (oW hw 45 rfl)⟩)) (Exa.start ev_ob_27 c18) (Sta.start ev_in_7 (Or.inl (hsets _ (List.mem_of_getElem? (i := 0) rfl)))) (gotF (Cond.eq_ints ev_in_7 (Term.int_eval 0)) (not_v (Cond.before_iff.mp (hsets _ (List.mem_of_getElem? (i := 2) rfl))))) (own_fv ev_ob_9 (Term.int_eval 0) c21) (own_fv ev_ob_10 (Term.int_eval 1) c27) (own_fv ev_ob_11 (Term.int_eval 2) c20) (own_fv ev_ob_12 (Term.int_eval 3) c35) (own_fv ev_ob_13 (Term.int_eval 4) c24) (own_fv ev_ob_14 (Term.int_eval 5) c22) (own_fv ev_ob_15 (Term.int_eval 6) c26) (own_fv ev_ob_16 (Term.int_eval 7) c33) (own_fv ev_ob_17 (Term.int_eval 8) c19) (own_fv ev_ob_18 (Term.int_eval 9) c34) (own_fv ev_ob_19 (Term.int_eval 10) c32) (own_fv ev_ob_20 (Term.int_eval 11) c31) (own_fv ev_ob_21 (Term.int_eval 12) c29) (own_fv ev_ob_22 (Term.int_eval 13) c25) (own_fv ev_ob_23 (Term.int_eval 14) c23) (own_fv ev_ob_24 (Term.int_eval 15) c28) (own_fv ev_ob_25 (Term.int_eval 16) c37) (own_fv ev_ob_26 (Term.int_eval 17) c36) (own_fv ev_ob_27 (Term.int_eval 18) c30) p e ha hc hk s m _ below hf ((Spec.applies_iff_loose hf).mp happ).1 ⟨rfl, State.Warmed39.refl s, rfl⟩ trivial
  refine ⟨n, _, h1, h2, h3, hpost _ _ _ _ _ _ ⟨Cond.after_iff.mpr rfl, Cond.after_iff.mpr (eq_i res_at (Term.int_eval (1)) rfl), trivial⟩ ⟨hq.1, hq.2.1, (hq.2.2.sift fun y hy => Or.inr (N y hy)).mono (by decide) (by decide)⟩⟩
theorem main_1_1 : Claimed_1_1 := comes_1 fun _ _ _ _ _ _ h hF => ⟨h.1, hF⟩
theorem main_1_2 : Claimed_1_2 := comes_1 fun _ _ _ _ _ _ h hF => ⟨h.2.1, hF⟩
end Jvm.Pilot.@@N@@
namespace Jvm.Pilot.@@N@@
open Jvm Jvm.ClassFile Sem Op Lib Jvm.Free Jvm.Stand Jvm.Pilot.@@N@@.Jvm.D
/-! MADE BY PROGRAM (witnessworld.py) out of the Statement's table words and the real class files: 24 classes; the members and pool entries that the words name. The judged class is class 1, her method 2. -/
namespace start1
open Jvm.ClassFile
def u (s : String) : CpInfo := .utf8 (stringToUtf16 s)
/-- a pool by its gaps: so many unusable entries, then the entry; so many at the end -/
def gap : Nat → List CpInfo → List CpInfo
  | 0, r => r
  | n + 1, r => .unusable :: gap n r
def poolList (es : List (Nat × CpInfo)) (last : Nat) : List CpInfo := es.foldr (fun e r => gap e.1 (e.2 :: r)) (gap last [])
def pool (es : List (Nat × CpInfo)) (last : Nat) : Array CpInfo := ⟨poolList es last⟩
def fileOf (pool : Array CpInfo) (this : Nat) (attrs : Array Attribute := #[]) (ms : Array MethodInfo := #[]) (fl : Nat := 33) (sup : Nat := 0) (ifs : Array Nat := #[]) (fds : Array FieldInfo := #[]) : ClassFile where
  minorVersion := 0
  majorVersion := 65
  constantPool := pool
  accessFlags := fl
  thisClass := this
  superClass := sup
  interfaces := ifs
  fields := fds
  methods := ms
  attributes := attrs
def plain (name : String) (sup : Option ClassId) : Class where
  name := name
  kind := .ordinary
  loader := none
  accessFlags := 33
  super := sup
  interfaces := #[]
  cf := none
  fields := #[]
  methods := #[]
  instanceTypes := #[]
  staticTypes := #[]
  resolved := #[]
  callSites := []
  init := .initialized
  statics := none
  mirror := none

def pool0 : Array CpInfo := pool [(5, u "<init>"), (0, u "()V"), (1, .class_ 10), (1, u "java/lang/Object")] 113

def k0c0 : Code := { maxStack := 0, maxLocals := 1, code := object_method_1_code, exceptionTable := #[], attributes := #[] }
def k0m0 : Method := { name := "<init>", desc := "()V", sig := { parameters := [], returnType := none }, accessFlags := 1, code := some k0c0 }
/-- java/lang/Object -/
def k0 : Class := { plain "java/lang/Object" none with
  accessFlags := 33
  interfaces := #[]
  cf := some (fileOf pool0 8 #[] #[{ accessFlags := 1, nameIndex := 5, descriptorIndex := 6, attributes := #[] }] 33 0 #[] #[])
  fields := #[]
  methods := #[k0m0]
  instanceTypes := #[]
  staticTypes := #[]
  resolved := Array.replicate 124 none
  statics := none }

def pool1 : Array CpInfo := pool [(2, .class_ 4), (1, u "java/lang/Object"), (0, u "<init>"), (0, u "()V"), (0, .class_ 8), (0, u "com/example/tuplewise/tuplewise/lang/Token$Kind"), (0, .fieldref 7 10), (0, .nameAndType 11 12), (0, u "NAME"), (0, u "Lcom/example/tuplewise/tuplewise/lang/Token$Kind;"), (0, .fieldref 7 14), (0, .nameAndType 15 12), (0, u "VARIABLE"), (0, .fieldref 7 17), (0, .nameAndType 18 12), (0, u "STRING"), (0, .fieldref 7 20), (0, .nameAndType 21 12), (0, u "INTEGER"), (0, .fieldref 7 23), (0, .nameAndType 24 12), (0, u "DECIMAL"), (0, .fieldref 7 26), (0, .nameAndType 27 12), (0, u "OPERATOR"), (0, .fieldref 7 29), (0, .nameAndType 30 12), (0, u "COMPOUND_ASSIGNMENT"), (0, .fieldref 7 32), (0, .nameAndType 33 12), (0, u "LEFT_BRACE"), (0, .fieldref 7 35), (0, .nameAndType 36 12), (0, u "RIGHT_BRACE"), (0, .fieldref 7 38), (0, .nameAndType 39 12), (0, u "LEFT_PAREN"), (0, .fieldref 7 41), (0, .nameAndType 42 12), (0, u "RIGHT_PAREN"), (0, .fieldref 7 44), (0, .nameAndType 45 12), (0, u "LEFT_BRACKET"), (0, .fieldref 7 47), (0, .nameAndType 48 12), (0, u "RIGHT_BRACKET"), (0, .fieldref 7 50), (0, .nameAndType 51 12), (0, u "SEMICOLON"), (0, .fieldref 7 53), (0, .nameAndType 54 12), (0, u "COLON"), (0, .fieldref 7 56), (0, .nameAndType 57 12), (0, u "COMMA"), (0, .fieldref 7 59), (0, .nameAndType 60 12), (0, u "DOT"), (0, .fieldref 7 62), (0, .nameAndType 63 12), (0, u "EQUALS"), (0, .fieldref 7 65), (0, .nameAndType 66 12), (0, u "END"), (0, .methodref 68 69), (0, .class_ 70), (0, .nameAndType 71 72), (0, u "com/example/tuplewise/tuplewise/lang/TokenIsPinLaw"), (0, u "kinds"), (0, u "()[Lcom/example/tuplewise/tuplewise/lang/Token$Kind;"), (0, .integer 2147483647), (0, .class_ 75), (0, u "java/lang/String"), (0, .methodref 74 77), (0, .nameAndType 5 78), (0, u "([C)V"), (0, .methodref 74 80), (0, .nameAndType 81 82), (0, u "valueOf"), (0, u "(C)Ljava/lang/String;"), (0, .class_ 84), (0, u "com/example/tuplewise/tuplewise/lang/Token"), (0, .methodref 83 86), (0, .nameAndType 5 87), (0, u "(Lcom/example/tuplewise/tuplewise/lang/Token$Kind;Ljava/lang/String;II)V"), (0, .methodref 83 89), (0, .nameAndType 90 91), (0, u "is"), (0, u "(Lcom/example/tuplewise/tuplewise/lang/Token$Kind;)Z"), (2, u "law"), (0, u "(IIIIII)Z")] 9

def k1m0 : Method := { name := "<init>", desc := "()V", sig := { parameters := [], returnType := none }, accessFlags := 1, code := none }
def k1c1 : Code := { maxStack := 4, maxLocals := 0, code := method_2_code, exceptionTable := #[], attributes := #[] }
def k1m1 : Method := { name := "kinds", desc := "()[Lcom/example/tuplewise/tuplewise/lang/Token$Kind;", sig := { parameters := [], returnType := some (.array (.object "com/example/tuplewise/tuplewise/lang/Token$Kind")) }, accessFlags := 10, code := some k1c1 }
def k1c2 : Code := { maxStack := 6, maxLocals := 14, code := code, exceptionTable := #[], attributes := #[] }
def k1m2 : Method := { name := "law", desc := "(IIIIII)Z", sig := { parameters := [.int, .int, .int, .int, .int, .int], returnType := some .boolean }, accessFlags := 9, code := some k1c2 }
/-- com/example/tuplewise/tuplewise/lang/TokenIsPinLaw -/
def k1 : Class := { plain "com/example/tuplewise/tuplewise/lang/TokenIsPinLaw" (some 0) with
  accessFlags := 49
  interfaces := #[]
  cf := some (fileOf pool1 68 #[] #[{ accessFlags := 1, nameIndex := 5, descriptorIndex := 6, attributes := #[] }, { accessFlags := 10, nameIndex := 71, descriptorIndex := 72, attributes := #[] }, { accessFlags := 9, nameIndex := 94, descriptorIndex := 95, attributes := #[] }] 49 2 #[] #[])
  fields := #[]
  methods := #[k1m0, k1m1, k1m2]
  instanceTypes := #[]
  staticTypes := #[]
  resolved := Array.replicate 105 none
  statics := none }

def pool2 : Array CpInfo := pool [(1, .class_ 2), (0, u "java/lang/constant/Constable"), (0, .class_ 4), (0, u "java/lang/Object")] 6

/-- java/lang/constant/Constable -/
def k2 : Class := { plain "java/lang/constant/Constable" (some 0) with
  accessFlags := 1537
  interfaces := #[]
  cf := some (fileOf pool2 1 #[] #[] 1537 3 #[] #[])
  fields := #[]
  methods := #[]
  instanceTypes := #[]
  staticTypes := #[]
  resolved := Array.replicate 11 none
  statics := none }

def pool3 : Array CpInfo := pool [(1, .class_ 2), (0, u "java/lang/Comparable"), (0, .class_ 4), (0, u "java/lang/Object")] 7

/-- java/lang/Comparable -/
def k3 : Class := { plain "java/lang/Comparable" (some 0) with
  accessFlags := 1537
  interfaces := #[]
  cf := some (fileOf pool3 1 #[] #[] 1537 3 #[] #[])
  fields := #[]
  methods := #[]
  instanceTypes := #[]
  staticTypes := #[]
  resolved := Array.replicate 12 none
  statics := none }

def pool4 : Array CpInfo := pool [(1, .class_ 2), (0, u "java/io/Serializable"), (0, .class_ 4), (0, u "java/lang/Object")] 2

/-- java/io/Serializable -/
def k4 : Class := { plain "java/io/Serializable" (some 0) with
  accessFlags := 1537
  interfaces := #[]
  cf := some (fileOf pool4 1 #[] #[] 1537 3 #[] #[])
  fields := #[]
  methods := #[]
  instanceTypes := #[]
  staticTypes := #[]
  resolved := Array.replicate 7 none
  statics := none }

def pool5 : Array CpInfo := pool [(2, .class_ 4), (1, u "java/lang/Enum"), (0, u "name"), (0, u "Ljava/lang/String;"), (2, u "ordinal"), (0, u "I"), (1, .class_ 14), (1, u "java/lang/Object"), (4, u "hash"), (86, .class_ 108), (1, u "java/lang/Enum$EnumDesc"), (2, .class_ 112), (0, u "java/lang/constant/Constable"), (0, .class_ 114), (0, u "java/lang/Comparable"), (0, .class_ 116), (0, u "java/io/Serializable")] 87

/-- java/lang/Enum -/
def k5 : Class := { plain "java/lang/Enum" (some 0) with
  accessFlags := 1057
  interfaces := #[2, 3, 4]
  cf := some (fileOf pool5 2 #[.nestMembers #[106]] #[] 1057 12 #[111, 113, 115] #[{ accessFlags := 18, nameIndex := 5, descriptorIndex := 6, attributes := #[] }, { accessFlags := 18, nameIndex := 9, descriptorIndex := 10, attributes := #[] }, { accessFlags := 2, nameIndex := 19, descriptorIndex := 10, attributes := #[] }])
  fields := #[{ name := "name", type := (.object "java/lang/String"), accessFlags := 18, slot := 0, constantValue := 0 }, { name := "ordinal", type := .int, accessFlags := 18, slot := 1, constantValue := 0 }, { name := "hash", type := .int, accessFlags := 2, slot := 2, constantValue := 0 }]
  methods := #[]
  instanceTypes := #[(.object "java/lang/String"), .int, .int]
  staticTypes := #[]
  resolved := Array.replicate 204 none
  statics := none }

def pool6 : Array CpInfo := pool [(1, .class_ 2), (0, u "com/example/tuplewise/tuplewise/lang/Token$Kind"), (2, u "NAME"), (0, u "Lcom/example/tuplewise/tuplewise/lang/Token$Kind;"), (2, u "VARIABLE"), (2, u "STRING"), (2, u "INTEGER"), (2, u "DECIMAL"), (2, u "OPERATOR"), (2, u "COMPOUND_ASSIGNMENT"), (2, u "LEFT_BRACE"), (2, u "RIGHT_BRACE"), (2, u "LEFT_PAREN"), (2, u "RIGHT_PAREN"), (2, u "LEFT_BRACKET"), (2, u "RIGHT_BRACKET"), (2, u "SEMICOLON"), (2, u "COLON"), (2, u "COMMA"), (2, u "DOT"), (2, u "EQUALS"), (2, u "END"), (2, u "$VALUES"), (0, u "[Lcom/example/tuplewise/tuplewise/lang/Token$Kind;"), (6, .class_ 73), (1, u "java/lang/Enum"), (42, .class_ 117), (0, u "com/example/tuplewise/tuplewise/lang/Token")] 2

/-- com/example/tuplewise/tuplewise/lang/Token$Kind -/
def k6 : Class := { plain "com/example/tuplewise/tuplewise/lang/Token$Kind" (some 5) with
  accessFlags := 16432
  interfaces := #[]
  cf := some (fileOf pool6 1 #[.nestHost 116] #[] 16432 71 #[] #[{ accessFlags := 16409, nameIndex := 5, descriptorIndex := 6, attributes := #[] }, { accessFlags := 16409, nameIndex := 9, descriptorIndex := 6, attributes := #[] }, { accessFlags := 16409, nameIndex := 12, descriptorIndex := 6, attributes := #[] }, { accessFlags := 16409, nameIndex := 15, descriptorIndex := 6, attributes := #[] }, { accessFlags := 16409, nameIndex := 18, descriptorIndex := 6, attributes := #[] }, { accessFlags := 16409, nameIndex := 21, descriptorIndex := 6, attributes := #[] }, { accessFlags := 16409, nameIndex := 24, descriptorIndex := 6, attributes := #[] }, { accessFlags := 16409, nameIndex := 27, descriptorIndex := 6, attributes := #[] }, { accessFlags := 16409, nameIndex := 30, descriptorIndex := 6, attributes := #[] }, { accessFlags := 16409, nameIndex := 33, descriptorIndex := 6, attributes := #[] }, { accessFlags := 16409, nameIndex := 36, descriptorIndex := 6, attributes := #[] }, { accessFlags := 16409, nameIndex := 39, descriptorIndex := 6, attributes := #[] }, { accessFlags := 16409, nameIndex := 42, descriptorIndex := 6, attributes := #[] }, { accessFlags := 16409, nameIndex := 45, descriptorIndex := 6, attributes := #[] }, { accessFlags := 16409, nameIndex := 48, descriptorIndex := 6, attributes := #[] }, { accessFlags := 16409, nameIndex := 51, descriptorIndex := 6, attributes := #[] }, { accessFlags := 16409, nameIndex := 54, descriptorIndex := 6, attributes := #[] }, { accessFlags := 16409, nameIndex := 57, descriptorIndex := 6, attributes := #[] }, { accessFlags := 16409, nameIndex := 60, descriptorIndex := 6, attributes := #[] }, { accessFlags := 4122, nameIndex := 63, descriptorIndex := 64, attributes := #[] }])
  fields := #[{ name := "NAME", type := (.object "com/example/tuplewise/tuplewise/lang/Token$Kind"), accessFlags := 16409, slot := 0, constantValue := 0 }, { name := "VARIABLE", type := (.object "com/example/tuplewise/tuplewise/lang/Token$Kind"), accessFlags := 16409, slot := 1, constantValue := 0 }, { name := "STRING", type := (.object "com/example/tuplewise/tuplewise/lang/Token$Kind"), accessFlags := 16409, slot := 2, constantValue := 0 }, { name := "INTEGER", type := (.object "com/example/tuplewise/tuplewise/lang/Token$Kind"), accessFlags := 16409, slot := 3, constantValue := 0 }, { name := "DECIMAL", type := (.object "com/example/tuplewise/tuplewise/lang/Token$Kind"), accessFlags := 16409, slot := 4, constantValue := 0 }, { name := "OPERATOR", type := (.object "com/example/tuplewise/tuplewise/lang/Token$Kind"), accessFlags := 16409, slot := 5, constantValue := 0 }, { name := "COMPOUND_ASSIGNMENT", type := (.object "com/example/tuplewise/tuplewise/lang/Token$Kind"), accessFlags := 16409, slot := 6, constantValue := 0 }, { name := "LEFT_BRACE", type := (.object "com/example/tuplewise/tuplewise/lang/Token$Kind"), accessFlags := 16409, slot := 7, constantValue := 0 }, { name := "RIGHT_BRACE", type := (.object "com/example/tuplewise/tuplewise/lang/Token$Kind"), accessFlags := 16409, slot := 8, constantValue := 0 }, { name := "LEFT_PAREN", type := (.object "com/example/tuplewise/tuplewise/lang/Token$Kind"), accessFlags := 16409, slot := 9, constantValue := 0 }, { name := "RIGHT_PAREN", type := (.object "com/example/tuplewise/tuplewise/lang/Token$Kind"), accessFlags := 16409, slot := 10, constantValue := 0 }, { name := "LEFT_BRACKET", type := (.object "com/example/tuplewise/tuplewise/lang/Token$Kind"), accessFlags := 16409, slot := 11, constantValue := 0 }, { name := "RIGHT_BRACKET", type := (.object "com/example/tuplewise/tuplewise/lang/Token$Kind"), accessFlags := 16409, slot := 12, constantValue := 0 }, { name := "SEMICOLON", type := (.object "com/example/tuplewise/tuplewise/lang/Token$Kind"), accessFlags := 16409, slot := 13, constantValue := 0 }, { name := "COLON", type := (.object "com/example/tuplewise/tuplewise/lang/Token$Kind"), accessFlags := 16409, slot := 14, constantValue := 0 }, { name := "COMMA", type := (.object "com/example/tuplewise/tuplewise/lang/Token$Kind"), accessFlags := 16409, slot := 15, constantValue := 0 }, { name := "DOT", type := (.object "com/example/tuplewise/tuplewise/lang/Token$Kind"), accessFlags := 16409, slot := 16, constantValue := 0 }, { name := "EQUALS", type := (.object "com/example/tuplewise/tuplewise/lang/Token$Kind"), accessFlags := 16409, slot := 17, constantValue := 0 }, { name := "END", type := (.object "com/example/tuplewise/tuplewise/lang/Token$Kind"), accessFlags := 16409, slot := 18, constantValue := 0 }, { name := "$VALUES", type := (.array (.object "com/example/tuplewise/tuplewise/lang/Token$Kind")), accessFlags := 4122, slot := 19, constantValue := 0 }]
  methods := #[]
  instanceTypes := #[(.object "java/lang/String"), .int, .int]
  staticTypes := #[(.object "com/example/tuplewise/tuplewise/lang/Token$Kind"), (.object "com/example/tuplewise/tuplewise/lang/Token$Kind"), (.object "com/example/tuplewise/tuplewise/lang/Token$Kind"), (.object "com/example/tuplewise/tuplewise/lang/Token$Kind"), (.object "com/example/tuplewise/tuplewise/lang/Token$Kind"), (.object "com/example/tuplewise/tuplewise/lang/Token$Kind"), (.object "com/example/tuplewise/tuplewise/lang/Token$Kind"), (.object "com/example/tuplewise/tuplewise/lang/Token$Kind"), (.object "com/example/tuplewise/tuplewise/lang/Token$Kind"), (.object "com/example/tuplewise/tuplewise/lang/Token$Kind"), (.object "com/example/tuplewise/tuplewise/lang/Token$Kind"), (.object "com/example/tuplewise/tuplewise/lang/Token$Kind"), (.object "com/example/tuplewise/tuplewise/lang/Token$Kind"), (.object "com/example/tuplewise/tuplewise/lang/Token$Kind"), (.object "com/example/tuplewise/tuplewise/lang/Token$Kind"), (.object "com/example/tuplewise/tuplewise/lang/Token$Kind"), (.object "com/example/tuplewise/tuplewise/lang/Token$Kind"), (.object "com/example/tuplewise/tuplewise/lang/Token$Kind"), (.object "com/example/tuplewise/tuplewise/lang/Token$Kind"), (.array (.object "com/example/tuplewise/tuplewise/lang/Token$Kind"))]
  resolved := Array.replicate 120 none
  statics := some 0 }

def pool7 : Array CpInfo := pool [(2, .class_ 4), (1, u "java/lang/CharSequence"), (42, .class_ 48), (0, u "java/lang/CharSequence$1CodePointIterator"), (10, .class_ 60), (0, u "java/lang/CharSequence$1CharIterator"), (5, .class_ 67), (0, u "java/lang/Object")] 63

/-- java/lang/CharSequence -/
def k7 : Class := { plain "java/lang/CharSequence" (some 0) with
  accessFlags := 1537
  interfaces := #[]
  cf := some (fileOf pool7 2 #[.nestMembers #[47, 59]] #[] 1537 66 #[] #[])
  fields := #[]
  methods := #[]
  instanceTypes := #[]
  staticTypes := #[]
  resolved := Array.replicate 131 none
  statics := none }

def pool8 : Array CpInfo := pool [(1, .class_ 2), (0, u "java/lang/constant/ConstantDesc"), (0, .class_ 4), (0, u "java/lang/Object")] 32

/-- java/lang/constant/ConstantDesc -/
def k8 : Class := { plain "java/lang/constant/ConstantDesc" (some 0) with
  accessFlags := 1537
  interfaces := #[]
  cf := some (fileOf pool8 1 #[] #[] 1537 3 #[] #[])
  fields := #[]
  methods := #[]
  instanceTypes := #[]
  staticTypes := #[]
  resolved := Array.replicate 37 none
  statics := none }

def pool9 : Array CpInfo := pool [(1, .methodref 2 3), (0, .class_ 4), (0, .nameAndType 5 6), (0, u "java/lang/Object"), (0, u "<init>"), (0, u "()V"), (2, .fieldref 10 11), (0, .class_ 12), (0, .nameAndType 13 14), (0, u "java/lang/String"), (0, u "value"), (0, u "[B"), (0, .fieldref 10 16), (0, .nameAndType 17 18), (0, u "coder"), (0, u "B"), (2, u "hash"), (0, u "I"), (2, u "hashIsZero"), (0, u "Z"), (0, .methodref 10 28), (0, .nameAndType 5 29), (0, u "([CIILjava/lang/Void;)V"), (8, .fieldref 10 39), (0, .nameAndType 40 26), (0, u "COMPACT_STRINGS"), (1, .class_ 44), (1, u "java/lang/StringUTF16"), (0, u "compress"), (1, .methodref 42 48), (0, .nameAndType 49 50), (0, u "coderFromArrayLen"), (0, u "([BI)B"), (2, u "toBytes"), (53, .class_ 109), (1, u "java/lang/StringLatin1"), (67, .methodref 42 178), (0, .nameAndType 45 179), (0, u "([CII)[B"), (29, .methodref 10 210), (0, .nameAndType 5 211), (0, u "([BB)V"), (157, u "(C)Z"), (205, .class_ 576), (0, u "java/lang/CharSequence"), (22, u "CASE_INSENSITIVE_ORDER"), (0, u "Ljava/util/Comparator;"), (181, u "valueOf"), (0, u "(C)Ljava/lang/String;"), (226, u "([C)V"), (4, .methodref 107 1016), (0, .nameAndType 1017 369), (0, u "canEncode"), (0, .methodref 107 1019), (0, .nameAndType 53 1020), (0, u "(C)[B"), (80, u "serialPersistentFields"), (0, u "[Ljava/io/ObjectStreamField;"), (0, .class_ 1104), (0, u "java/lang/String$CaseInsensitiveComparator"), (1, .class_ 1107), (0, u "java/io/Serializable"), (0, .class_ 1109), (0, u "java/lang/Comparable"), (0, .class_ 1111), (0, u "java/lang/constant/Constable"), (0, .class_ 1113), (0, u "java/lang/constant/ConstantDesc"), (2, u "serialVersionUID"), (0, u "J"), (3, u "REPL"), (0, u "C"), (2, u "LATIN1"), (1, u "UTF16")] 323

def k9m0 : Method := { name := "<init>", desc := "()V", sig := { parameters := [], returnType := none }, accessFlags := 1, code := none }
def k9c1 : Code := { maxStack := 5, maxLocals := 2, code := jdk_42_method_3_code, exceptionTable := #[], attributes := #[] }
def k9m1 : Method := { name := "<init>", desc := "([C)V", sig := { parameters := [(.array .char)], returnType := none }, accessFlags := 1, code := some k9c1 }
def k9c2 : Code := { maxStack := 4, maxLocals := 1, code := jdk_42_method_139_code, exceptionTable := #[], attributes := #[] }
def k9m2 : Method := { name := "valueOf", desc := "(C)Ljava/lang/String;", sig := { parameters := [.char], returnType := some (.object "java/lang/String") }, accessFlags := 9, code := some k9c2 }
def k9c3 : Code := { maxStack := 4, maxLocals := 6, code := jdk_42_method_149_code, exceptionTable := #[], attributes := #[] }
def k9m3 : Method := { name := "<init>", desc := "([CIILjava/lang/Void;)V", sig := { parameters := [(.array .char), .int, .int, (.object "java/lang/Void")], returnType := none }, accessFlags := 2, code := some k9c3 }
def k9c4 : Code := { maxStack := 2, maxLocals := 3, code := jdk_42_method_151_code, exceptionTable := #[], attributes := #[] }
def k9m4 : Method := { name := "<init>", desc := "([BB)V", sig := { parameters := [(.array .byte), .byte], returnType := none }, accessFlags := 0, code := some k9c4 }
/-- java/lang/String -/
def k9 : Class := { plain "java/lang/String" (some 0) with
  accessFlags := 49
  interfaces := #[4, 3, 7, 2, 8]
  cf := some (fileOf pool9 10 #[.nestMembers #[1103]] #[{ accessFlags := 1, nameIndex := 5, descriptorIndex := 6, attributes := #[] }, { accessFlags := 1, nameIndex := 5, descriptorIndex := 1010, attributes := #[] }, { accessFlags := 9, nameIndex := 782, descriptorIndex := 783, attributes := #[] }, { accessFlags := 2, nameIndex := 5, descriptorIndex := 29, attributes := #[] }, { accessFlags := 0, nameIndex := 5, descriptorIndex := 211, attributes := #[] }] 49 2 #[1106, 1108, 575, 1110, 1112] #[{ accessFlags := 18, nameIndex := 13, descriptorIndex := 14, attributes := #[] }, { accessFlags := 18, nameIndex := 17, descriptorIndex := 18, attributes := #[] }, { accessFlags := 2, nameIndex := 21, descriptorIndex := 22, attributes := #[] }, { accessFlags := 2, nameIndex := 25, descriptorIndex := 26, attributes := #[] }, { accessFlags := 26, nameIndex := 1116, descriptorIndex := 1117, attributes := #[] }, { accessFlags := 24, nameIndex := 40, descriptorIndex := 26, attributes := #[] }, { accessFlags := 26, nameIndex := 1101, descriptorIndex := 1102, attributes := #[] }, { accessFlags := 26, nameIndex := 1121, descriptorIndex := 1122, attributes := #[] }, { accessFlags := 25, nameIndex := 599, descriptorIndex := 600, attributes := #[] }, { accessFlags := 24, nameIndex := 1125, descriptorIndex := 18, attributes := #[] }, { accessFlags := 24, nameIndex := 1127, descriptorIndex := 18, attributes := #[] }])
  fields := #[{ name := "value", type := (.array .byte), accessFlags := 18, slot := 0, constantValue := 0 }, { name := "coder", type := .byte, accessFlags := 18, slot := 1, constantValue := 0 }, { name := "hash", type := .int, accessFlags := 2, slot := 2, constantValue := 0 }, { name := "hashIsZero", type := .boolean, accessFlags := 2, slot := 3, constantValue := 0 }, { name := "serialVersionUID", type := .long, accessFlags := 26, slot := 0, constantValue := 0 }, { name := "COMPACT_STRINGS", type := .boolean, accessFlags := 24, slot := 1, constantValue := 0 }, { name := "serialPersistentFields", type := (.array (.object "java/io/ObjectStreamField")), accessFlags := 26, slot := 2, constantValue := 0 }, { name := "REPL", type := .char, accessFlags := 26, slot := 3, constantValue := 0 }, { name := "CASE_INSENSITIVE_ORDER", type := (.object "java/util/Comparator"), accessFlags := 25, slot := 4, constantValue := 0 }, { name := "LATIN1", type := .byte, accessFlags := 24, slot := 5, constantValue := 0 }, { name := "UTF16", type := .byte, accessFlags := 24, slot := 6, constantValue := 0 }]
  methods := #[k9m0, k9m1, k9m2, k9m3, k9m4]
  instanceTypes := #[(.array .byte), .byte, .int, .boolean]
  staticTypes := #[.long, .boolean, (.array (.object "java/io/ObjectStreamField")), .char, (.object "java/util/Comparator"), .byte, .byte]
  resolved := Array.replicate 1451 none
  statics := some 1 }

def pool10 : Array CpInfo := pool [(4, .class_ 6), (1, u "java/lang/Object"), (0, u "<init>"), (0, u "()V"), (5, .class_ 16), (1, u "java/lang/StringLatin1"), (73, u "canEncode"), (14, u "(C)Z"), (15, u "$assertionsDisabled"), (0, u "Z"), (98, .class_ 223), (1, u "java/lang/StringLatin1$LinesSpliterator"), (156, u "toBytes"), (1, u "(C)[B"), (7, .class_ 391), (0, u "java/lang/StringLatin1$CharsSpliterator")] 3

def k10m0 : Method := { name := "<init>", desc := "()V", sig := { parameters := [], returnType := none }, accessFlags := 0, code := none }
def k10c1 : Code := { maxStack := 2, maxLocals := 1, code := jdk_43_method_3_code, exceptionTable := #[], attributes := #[] }
def k10m1 : Method := { name := "canEncode", desc := "(C)Z", sig := { parameters := [.char], returnType := some .boolean }, accessFlags := 9, code := some k10c1 }
def k10c2 : Code := { maxStack := 4, maxLocals := 1, code := jdk_43_method_46_code, exceptionTable := #[], attributes := #[] }
def k10m2 : Method := { name := "toBytes", desc := "(C)[B", sig := { parameters := [.char], returnType := some (.array .byte) }, accessFlags := 9, code := some k10c2 }
/-- java/lang/StringLatin1 -/
def k10 : Class := { plain "java/lang/StringLatin1" (some 0) with
  accessFlags := 48
  interfaces := #[]
  cf := some (fileOf pool10 14 #[.nestMembers #[390, 221]] #[{ accessFlags := 0, nameIndex := 7, descriptorIndex := 8, attributes := #[] }, { accessFlags := 9, nameIndex := 90, descriptorIndex := 105, attributes := #[] }, { accessFlags := 9, nameIndex := 380, descriptorIndex := 382, attributes := #[] }] 48 4 #[] #[{ accessFlags := 4120, nameIndex := 121, descriptorIndex := 122, attributes := #[] }])
  fields := #[{ name := "$assertionsDisabled", type := .boolean, accessFlags := 4120, slot := 0, constantValue := 0 }]
  methods := #[k10m0, k10m1, k10m2]
  instanceTypes := #[]
  staticTypes := #[.boolean]
  resolved := Array.replicate 395 none
  statics := none }

def pool11 : Array CpInfo := pool [(1, .methodref 2 3), (0, .class_ 4), (0, .nameAndType 5 6), (0, u "java/lang/Object"), (0, u "<init>"), (0, u "()V"), (0, .class_ 8), (0, u "java/lang/Record")] 13

def k11c0 : Code := { maxStack := 1, maxLocals := 1, code := jdk_30_method_1_code, exceptionTable := #[], attributes := #[] }
def k11m0 : Method := { name := "<init>", desc := "()V", sig := { parameters := [], returnType := none }, accessFlags := 4, code := some k11c0 }
/-- java/lang/Record -/
def k11 : Class := { plain "java/lang/Record" (some 0) with
  accessFlags := 1057
  interfaces := #[]
  cf := some (fileOf pool11 7 #[] #[{ accessFlags := 4, nameIndex := 5, descriptorIndex := 6, attributes := #[] }] 1057 2 #[] #[])
  fields := #[]
  methods := #[k11m0]
  instanceTypes := #[]
  staticTypes := #[]
  resolved := Array.replicate 22 none
  statics := none }

def pool12 : Array CpInfo := pool [(1, .methodref 2 3), (0, .class_ 4), (0, .nameAndType 5 6), (0, u "java/lang/Record"), (0, u "<init>"), (0, u "()V"), (0, .fieldref 8 9), (0, .class_ 10), (0, .nameAndType 11 12), (0, u "com/example/tuplewise/tuplewise/lang/Token"), (0, u "kind"), (0, u "Lcom/example/tuplewise/tuplewise/lang/Token$Kind;"), (0, .fieldref 8 14), (0, .nameAndType 15 16), (0, u "text"), (0, u "Ljava/lang/String;"), (0, .fieldref 8 18), (0, .nameAndType 19 20), (0, u "line"), (0, u "I"), (0, .fieldref 8 22), (0, .nameAndType 23 20), (0, u "column"), (1, .class_ 27), (1, u "com/example/tuplewise/tuplewise/lang/Token$Kind"), (30, u "(Lcom/example/tuplewise/tuplewise/lang/Token$Kind;Ljava/lang/String;II)V"), (3, u "is"), (0, u "(Lcom/example/tuplewise/tuplewise/lang/Token$Kind;)Z")] 39

def k12c0 : Code := { maxStack := 2, maxLocals := 5, code := prog_19_method_1_code, exceptionTable := #[], attributes := #[] }
def k12m0 : Method := { name := "<init>", desc := "(Lcom/example/tuplewise/tuplewise/lang/Token$Kind;Ljava/lang/String;II)V", sig := { parameters := [(.object "com/example/tuplewise/tuplewise/lang/Token$Kind"), (.object "java/lang/String"), .int, .int], returnType := none }, accessFlags := 0, code := some k12c0 }
def k12c1 : Code := { maxStack := 2, maxLocals := 2, code := prog_19_method_2_code, exceptionTable := #[], attributes := #[] }
def k12m1 : Method := { name := "is", desc := "(Lcom/example/tuplewise/tuplewise/lang/Token$Kind;)Z", sig := { parameters := [(.object "com/example/tuplewise/tuplewise/lang/Token$Kind")], returnType := some .boolean }, accessFlags := 0, code := some k12c1 }
/-- com/example/tuplewise/tuplewise/lang/Token -/
def k12 : Class := { plain "com/example/tuplewise/tuplewise/lang/Token" (some 11) with
  accessFlags := 48
  interfaces := #[]
  cf := some (fileOf pool12 8 #[.nestMembers #[25]] #[{ accessFlags := 0, nameIndex := 5, descriptorIndex := 58, attributes := #[] }, { accessFlags := 0, nameIndex := 62, descriptorIndex := 63, attributes := #[] }] 48 2 #[] #[{ accessFlags := 18, nameIndex := 11, descriptorIndex := 12, attributes := #[] }, { accessFlags := 18, nameIndex := 15, descriptorIndex := 16, attributes := #[] }, { accessFlags := 18, nameIndex := 19, descriptorIndex := 20, attributes := #[] }, { accessFlags := 18, nameIndex := 23, descriptorIndex := 20, attributes := #[] }])
  fields := #[{ name := "kind", type := (.object "com/example/tuplewise/tuplewise/lang/Token$Kind"), accessFlags := 18, slot := 0, constantValue := 0 }, { name := "text", type := (.object "java/lang/String"), accessFlags := 18, slot := 1, constantValue := 0 }, { name := "line", type := .int, accessFlags := 18, slot := 2, constantValue := 0 }, { name := "column", type := .int, accessFlags := 18, slot := 3, constantValue := 0 }]
  methods := #[k12m0, k12m1]
  instanceTypes := #[(.object "com/example/tuplewise/tuplewise/lang/Token$Kind"), (.object "java/lang/String"), .int, .int]
  staticTypes := #[]
  resolved := Array.replicate 103 none
  statics := none }

def pool13 : Array CpInfo := pool [(6, .class_ 8), (1, u "java/lang/Object"), (0, u "<init>"), (0, u "()V"), (1, .class_ 14), (1, u "java/lang/StringUTF16"), (31, u "$assertionsDisabled"), (0, u "Z"), (13, u "HI_BYTE_SHIFT"), (0, u "I"), (2, u "LO_BYTE_SHIFT"), (49, .methodref 12 116), (0, .nameAndType 117 118), (0, u "compress"), (0, u "([CI[BII)I"), (3, u "([CII)[B"), (138, u "coderFromArrayLen"), (0, u "([BI)B"), (106, .class_ 371), (1, u "java/lang/StringUTF16$LinesSpliterator"), (58, u "MAX_LENGTH"), (196, .class_ 628), (0, u "java/lang/StringUTF16$CodePointsSpliterator"), (0, .class_ 630), (0, u "java/lang/StringUTF16$CharsSpliterator")] 4

def k13m0 : Method := { name := "<init>", desc := "()V", sig := { parameters := [], returnType := none }, accessFlags := 0, code := none }
def k13c1 : Code := { maxStack := 2, maxLocals := 2, code := jdk_52_method_15_code, exceptionTable := #[], attributes := #[] }
def k13m1 : Method := { name := "coderFromArrayLen", desc := "([BI)B", sig := { parameters := [(.array .byte), .int], returnType := some .byte }, accessFlags := 8, code := some k13c1 }
def k13c2 : Code := { maxStack := 5, maxLocals := 6, code := jdk_52_method_16_code, exceptionTable := #[], attributes := #[] }
def k13m2 : Method := { name := "compress", desc := "([CII)[B", sig := { parameters := [(.array .char), .int, .int], returnType := some (.array .byte) }, accessFlags := 9, code := some k13c2 }
def k13c3 : Code := { maxStack := 3, maxLocals := 7, code := jdk_52_method_21_code, exceptionTable := #[], attributes := #[] }
def k13m3 : Method := { name := "compress", desc := "([CI[BII)I", sig := { parameters := [(.array .char), .int, (.array .byte), .int, .int], returnType := some .int }, accessFlags := 9, code := some k13c3 }
/-- java/lang/StringUTF16 -/
def k13 : Class := { plain "java/lang/StringUTF16" (some 0) with
  accessFlags := 48
  interfaces := #[]
  cf := some (fileOf pool13 12 #[.nestMembers #[627, 629, 369]] #[{ accessFlags := 0, nameIndex := 9, descriptorIndex := 10, attributes := #[] }, { accessFlags := 8, nameIndex := 261, descriptorIndex := 262, attributes := #[] }, { accessFlags := 9, nameIndex := 117, descriptorIndex := 122, attributes := #[] }, { accessFlags := 9, nameIndex := 117, descriptorIndex := 118, attributes := #[] }] 48 6 #[] #[{ accessFlags := 26, nameIndex := 61, descriptorIndex := 62, attributes := #[] }, { accessFlags := 26, nameIndex := 65, descriptorIndex := 62, attributes := #[] }, { accessFlags := 24, nameIndex := 430, descriptorIndex := 62, attributes := #[] }, { accessFlags := 4120, nameIndex := 46, descriptorIndex := 47, attributes := #[] }])
  fields := #[{ name := "HI_BYTE_SHIFT", type := .int, accessFlags := 26, slot := 0, constantValue := 0 }, { name := "LO_BYTE_SHIFT", type := .int, accessFlags := 26, slot := 1, constantValue := 0 }, { name := "MAX_LENGTH", type := .int, accessFlags := 24, slot := 2, constantValue := 0 }, { name := "$assertionsDisabled", type := .boolean, accessFlags := 4120, slot := 3, constantValue := 0 }]
  methods := #[k13m0, k13m1, k13m2, k13m3]
  instanceTypes := #[]
  staticTypes := #[.int, .int, .int, .boolean]
  resolved := Array.replicate 635 none
  statics := none }

def pool14 : Array CpInfo := pool [(2, .class_ 4), (1, u "java/lang/Object"), (0, u "<init>"), (0, u "()V"), (17, .class_ 26), (1, u "jdk/internal/util/Preconditions"), (28, .class_ 56), (0, u "jdk/internal/util/Preconditions$4"), (57, .class_ 115), (0, u "jdk/internal/util/Preconditions$1"), (7, u "SIOOBE_FORMATTER"), (0, u "Ljava/util/function/BiFunction;"), (0, .class_ 126), (0, u "jdk/internal/util/Preconditions$2"), (3, u "AIOOBE_FORMATTER"), (0, .class_ 132), (0, u "jdk/internal/util/Preconditions$3"), (3, u "IOOBE_FORMATTER")] 57

def k14m0 : Method := { name := "<init>", desc := "()V", sig := { parameters := [], returnType := none }, accessFlags := 1, code := none }
/-- jdk/internal/util/Preconditions -/
def k14 : Class := { plain "jdk/internal/util/Preconditions" (some 0) with
  accessFlags := 33
  interfaces := #[]
  cf := some (fileOf pool14 24 #[.nestMembers #[55, 131, 125, 114]] #[{ accessFlags := 1, nameIndex := 5, descriptorIndex := 6, attributes := #[] }] 33 2 #[] #[{ accessFlags := 25, nameIndex := 123, descriptorIndex := 124, attributes := #[] }, { accessFlags := 25, nameIndex := 130, descriptorIndex := 124, attributes := #[] }, { accessFlags := 25, nameIndex := 136, descriptorIndex := 124, attributes := #[] }])
  fields := #[{ name := "SIOOBE_FORMATTER", type := (.object "java/util/function/BiFunction"), accessFlags := 25, slot := 0, constantValue := 0 }, { name := "AIOOBE_FORMATTER", type := (.object "java/util/function/BiFunction"), accessFlags := 25, slot := 1, constantValue := 0 }, { name := "IOOBE_FORMATTER", type := (.object "java/util/function/BiFunction"), accessFlags := 25, slot := 2, constantValue := 0 }]
  methods := #[k14m0]
  instanceTypes := #[]
  staticTypes := #[(.object "java/util/function/BiFunction"), (.object "java/util/function/BiFunction"), (.object "java/util/function/BiFunction")]
  resolved := Array.replicate 194 none
  statics := some 2 }

def pool15 : Array CpInfo := pool [(9, u "<init>"), (6, .class_ 18), (1, u "java/lang/Object"), (0, u "()V"), (1, .class_ 23), (1, u "jdk/internal/util/ArraysSupport"), (0, u "LOG2_ARRAY_LONG_INDEX_SCALE"), (0, u "I"), (2, u "U"), (0, u "Ljdk/internal/misc/Unsafe;"), (8, u "BIG_ENDIAN"), (0, u "Z"), (8, u "LOG2_BYTE_BIT_SIZE"), (4, u "LOG2_ARRAY_INT_INDEX_SCALE"), (54, u "JLA"), (0, u "Ljdk/internal/access/JavaLangAccess;"), (11, u "LOG2_ARRAY_BOOLEAN_INDEX_SCALE"), (9, u "LOG2_ARRAY_BYTE_INDEX_SCALE"), (5, u "LOG2_ARRAY_CHAR_INDEX_SCALE"), (5, u "LOG2_ARRAY_SHORT_INDEX_SCALE"), (18, u "LOG2_ARRAY_FLOAT_INDEX_SCALE"), (24, u "LOG2_ARRAY_DOUBLE_INDEX_SCALE"), (89, u "T_BOOLEAN"), (2, u "T_CHAR"), (1, u "T_FLOAT"), (1, u "T_DOUBLE"), (1, u "T_BYTE"), (1, u "T_SHORT"), (1, u "T_INT"), (1, u "T_LONG"), (1, u "SOFT_MAX_ARRAY_LENGTH")] 83

def k15m0 : Method := { name := "<init>", desc := "()V", sig := { parameters := [], returnType := none }, accessFlags := 2, code := none }
/-- jdk/internal/util/ArraysSupport -/
def k15 : Class := { plain "jdk/internal/util/ArraysSupport" (some 0) with
  accessFlags := 33
  interfaces := #[]
  cf := some (fileOf pool15 21 #[] #[{ accessFlags := 2, nameIndex := 9, descriptorIndex := 19, attributes := #[] }] 33 16 #[] #[{ accessFlags := 24, nameIndex := 28, descriptorIndex := 29, attributes := #[] }, { accessFlags := 26, nameIndex := 38, descriptorIndex := 39, attributes := #[] }, { accessFlags := 25, nameIndex := 121, descriptorIndex := 25, attributes := #[] }, { accessFlags := 25, nameIndex := 131, descriptorIndex := 25, attributes := #[] }, { accessFlags := 25, nameIndex := 137, descriptorIndex := 25, attributes := #[] }, { accessFlags := 25, nameIndex := 143, descriptorIndex := 25, attributes := #[] }, { accessFlags := 25, nameIndex := 53, descriptorIndex := 25, attributes := #[] }, { accessFlags := 25, nameIndex := 24, descriptorIndex := 25, attributes := #[] }, { accessFlags := 25, nameIndex := 162, descriptorIndex := 25, attributes := #[] }, { accessFlags := 25, nameIndex := 187, descriptorIndex := 25, attributes := #[] }, { accessFlags := 26, nameIndex := 48, descriptorIndex := 25, attributes := #[] }, { accessFlags := 25, nameIndex := 277, descriptorIndex := 25, attributes := #[] }, { accessFlags := 25, nameIndex := 280, descriptorIndex := 25, attributes := #[] }, { accessFlags := 25, nameIndex := 282, descriptorIndex := 25, attributes := #[] }, { accessFlags := 25, nameIndex := 284, descriptorIndex := 25, attributes := #[] }, { accessFlags := 25, nameIndex := 286, descriptorIndex := 25, attributes := #[] }, { accessFlags := 25, nameIndex := 288, descriptorIndex := 25, attributes := #[] }, { accessFlags := 25, nameIndex := 290, descriptorIndex := 25, attributes := #[] }, { accessFlags := 25, nameIndex := 292, descriptorIndex := 25, attributes := #[] }, { accessFlags := 26, nameIndex := 108, descriptorIndex := 109, attributes := #[] }, { accessFlags := 25, nameIndex := 294, descriptorIndex := 25, attributes := #[] }])
  fields := #[{ name := "U", type := (.object "jdk/internal/misc/Unsafe"), accessFlags := 24, slot := 0, constantValue := 0 }, { name := "BIG_ENDIAN", type := .boolean, accessFlags := 26, slot := 1, constantValue := 0 }, { name := "LOG2_ARRAY_BOOLEAN_INDEX_SCALE", type := .int, accessFlags := 25, slot := 2, constantValue := 0 }, { name := "LOG2_ARRAY_BYTE_INDEX_SCALE", type := .int, accessFlags := 25, slot := 3, constantValue := 0 }, { name := "LOG2_ARRAY_CHAR_INDEX_SCALE", type := .int, accessFlags := 25, slot := 4, constantValue := 0 }, { name := "LOG2_ARRAY_SHORT_INDEX_SCALE", type := .int, accessFlags := 25, slot := 5, constantValue := 0 }, { name := "LOG2_ARRAY_INT_INDEX_SCALE", type := .int, accessFlags := 25, slot := 6, constantValue := 0 }, { name := "LOG2_ARRAY_LONG_INDEX_SCALE", type := .int, accessFlags := 25, slot := 7, constantValue := 0 }, { name := "LOG2_ARRAY_FLOAT_INDEX_SCALE", type := .int, accessFlags := 25, slot := 8, constantValue := 0 }, { name := "LOG2_ARRAY_DOUBLE_INDEX_SCALE", type := .int, accessFlags := 25, slot := 9, constantValue := 0 }, { name := "LOG2_BYTE_BIT_SIZE", type := .int, accessFlags := 26, slot := 10, constantValue := 0 }, { name := "T_BOOLEAN", type := .int, accessFlags := 25, slot := 11, constantValue := 0 }, { name := "T_CHAR", type := .int, accessFlags := 25, slot := 12, constantValue := 0 }, { name := "T_FLOAT", type := .int, accessFlags := 25, slot := 13, constantValue := 0 }, { name := "T_DOUBLE", type := .int, accessFlags := 25, slot := 14, constantValue := 0 }, { name := "T_BYTE", type := .int, accessFlags := 25, slot := 15, constantValue := 0 }, { name := "T_SHORT", type := .int, accessFlags := 25, slot := 16, constantValue := 0 }, { name := "T_INT", type := .int, accessFlags := 25, slot := 17, constantValue := 0 }, { name := "T_LONG", type := .int, accessFlags := 25, slot := 18, constantValue := 0 }, { name := "JLA", type := (.object "jdk/internal/access/JavaLangAccess"), accessFlags := 26, slot := 19, constantValue := 0 }, { name := "SOFT_MAX_ARRAY_LENGTH", type := .int, accessFlags := 25, slot := 20, constantValue := 0 }]
  methods := #[k15m0]
  instanceTypes := #[]
  staticTypes := #[(.object "jdk/internal/misc/Unsafe"), .boolean, .int, .int, .int, .int, .int, .int, .int, .int, .int, .int, .int, .int, .int, .int, .int, .int, .int, (.object "jdk/internal/access/JavaLangAccess"), .int]
  resolved := Array.replicate 378 none
  statics := none }

def pool16 : Array CpInfo := pool [(1, u "java/lang/Cloneable"), (0, .class_ 1), (0, u "java/lang/Object"), (0, .class_ 3)] 3

/-- java/lang/Cloneable -/
def k16 : Class := { plain "java/lang/Cloneable" (some 0) with
  accessFlags := 1537
  interfaces := #[]
  cf := some (fileOf pool16 2 #[] #[] 1537 4 #[] #[])
  fields := #[]
  methods := #[]
  instanceTypes := #[]
  staticTypes := #[]
  resolved := Array.replicate 8 none
  statics := none }

/-- the primitive byte -/
def k17 : Class := { plain "byte" none with kind := .primitive 'B', accessFlags := 0x411 }
/-- [B -/
def k18 : Class := { plain "[B" (some 0) with kind := .array 17 .byte, interfaces := #[16, 4], accessFlags := 1041 }

/-- the primitive char -/
def k19 : Class := { plain "char" none with kind := .primitive 'C', accessFlags := 0x411 }
/-- [C -/
def k20 : Class := { plain "[C" (some 0) with kind := .array 19 .char, interfaces := #[16, 4], accessFlags := 1041 }

/-- the primitive int -/
def k21 : Class := { plain "int" none with kind := .primitive 'I', accessFlags := 0x411 }
/-- [I -/
def k22 : Class := { plain "[I" (some 0) with kind := .array 21 .int, interfaces := #[16, 4], accessFlags := 1041 }

/-- [Lcom/example/tuplewise/tuplewise/lang/Token$Kind; -/
def k23 : Class := { plain "[Lcom/example/tuplewise/tuplewise/lang/Token$Kind;" (some 0) with kind := .array 6 (.object "com/example/tuplewise/tuplewise/lang/Token$Kind"), interfaces := #[16, 4], accessFlags := 1041 }

def heap : Heap := #[{ cls := 6, slots := #[.ref 3, .ref 4, .ref 5, .ref 6, .ref 7, .ref 8, .ref 9, .ref 10, .ref 11, .ref 12, .ref 13, .ref 14, .ref 15, .ref 16, .ref 17, .ref 18, .ref 19, .ref 20, .ref 21, .null], vm := .statics 6 },
  { cls := 9, slots := #[.long 0, .int 1, .null, .int 0, .null, .int 0, .int 0], vm := .statics 9 },
  { cls := 14, slots := #[.null, .null, .null], vm := .statics 14 },
  { cls := 6, slots := #[.null, .int 0, .int 0], vm := .none },
  { cls := 6, slots := #[.null, .int 1, .int 0], vm := .none },
  { cls := 6, slots := #[.null, .int 2, .int 0], vm := .none },
  { cls := 6, slots := #[.null, .int 3, .int 0], vm := .none },
  { cls := 6, slots := #[.null, .int 4, .int 0], vm := .none },
  { cls := 6, slots := #[.null, .int 5, .int 0], vm := .none },
  { cls := 6, slots := #[.null, .int 6, .int 0], vm := .none },
  { cls := 6, slots := #[.null, .int 7, .int 0], vm := .none },
  { cls := 6, slots := #[.null, .int 8, .int 0], vm := .none },
  { cls := 6, slots := #[.null, .int 9, .int 0], vm := .none },
  { cls := 6, slots := #[.null, .int 10, .int 0], vm := .none },
  { cls := 6, slots := #[.null, .int 11, .int 0], vm := .none },
  { cls := 6, slots := #[.null, .int 12, .int 0], vm := .none },
  { cls := 6, slots := #[.null, .int 13, .int 0], vm := .none },
  { cls := 6, slots := #[.null, .int 14, .int 0], vm := .none },
  { cls := 6, slots := #[.null, .int 15, .int 0], vm := .none },
  { cls := 6, slots := #[.null, .int 16, .int 0], vm := .none },
  { cls := 6, slots := #[.null, .int 17, .int 0], vm := .none },
  { cls := 6, slots := #[.null, .int 18, .int 0], vm := .none }]
def classes : Array Class := #[k0, k1, k2, k3, k4, k5, k6, k7, k8, k9, k10, k11, k12, k13, k14, k15, k16, k17, k18, k19, k20, k21, k22, k23]
def interned : List (Array UInt16 × Addr) := []
def slotsUsed : Nat := 87
def theMethod : MethodId := ⟨1, 2⟩
def args0 : Array Value := #[.int 5, .int 6, .int 7, .int 8, .int 9, .int 4]
def aboutOver (below : List Frame) : State where
  vm := { classes := classes, interned := interned.toArray }
  heap := heap
  slotsUsed := slotsUsed
  threads := #[{ frames := .invoking theMethod args0 :: below }]
def below0 : List Frame := [.native { method := ⟨0, 0⟩, args := #[] }]
def about1 : State := aboutOver below0
def p0 : Program := .bare "" "" ""
def e0 : Env := launch0.env 0 0 0
theorem w_frames : about1.frames = Frame.invoking theMethod args0 :: below0 := rfl
set_option maxRecDepth 65536 in
theorem w_args : argsFit about1.vm theMethod args0 = true := by decide +kernel
set_option maxRecDepth 65536 in
theorem w_heap : heapFits about1 = true := by decide +kernel
set_option maxRecDepth 65536 in
theorem w_runnable : about1.curStatus? = some .runnable := by decide +kernel
set_option maxRecDepth 65536 in
theorem w_alone : about1.alone = true := by decide +kernel
set_option maxRecDepth 65536 in
theorem w_named : about1.methodNamed? x = some theMethod := by decide +kernel
set_option maxRecDepth 65536 in
theorem w_hears : about1.hears theMethod below0 = true := by decide +kernel
set_option maxRecDepth 65536 in
theorem w_ripe : about1.ripe theMethod args0 below0 = true := by decide +kernel
theorem w_running : about1.status = .running := rfl
set_option maxRecDepth 65536 in
theorem w_room : about1.hasRoom e0.platform room_1 = true :=
  launch0.hasRoom_least _ room_1 (by decide +kernel) (by decide +kernel) (by decide +kernel) (by decide +kernel) (by decide +kernel) (by decide +kernel)
theorem allAtoms_all (ts : List Jvm.Cond) (a : Array Jvm.Value) (st : Jvm.State) : (allAtoms ts).before a st = ts.all (fun c => c.before a st) := by
  induction ts with
  | nil => rfl
  | cons c t ih =>
    show (Jvm.Cond.and c (allAtoms t)).before a st = _
    rw [Jvm.Cond.before_and, ih, List.all_cons]
def words1 : List Jvm.Cond := Jvm.Cond.code x code maxLocals ret :: tables_1
/-- a 'code' word, met by the world's own term for the bytes: nothing is compared byte by byte -/
theorem code_word {y : MethodName} {bytes : ByteArray} {mx : Nat} {rt : Option FieldType} {a : Array Value} {s : State} {m : MethodId} {meth : Method} {c : Code} (h1 : s.methodNamed? y = some m) (h2 : s.vm.method? m = some meth) (h3 : meth.code = some c) (h4 : c.code = bytes)
    (h5 : (c.maxLocals == mx && c.exceptionTable.isEmpty && decide (c.maxStack ≤ mostOperands) && decide (meth.sig.returnType = rt) && !meth.locks && decide (parseMethodDescriptor y.desc = some meth.sig)) = true) : (Jvm.Cond.code y bytes mx rt).before a s = true := by
  simp only [Bool.and_eq_true, beq_iff_eq, Bool.not_eq_true', decide_eq_true_eq] at h5
  obtain ⟨⟨⟨⟨⟨g1, g2⟩, g3⟩, g4⟩, g5⟩, g6⟩ := h5
  simp [Cond.before, Cond.holds, Cond.value, h1, h2, h3, h4, g1, g2, g3, g4, g5, g6]
def isCode : Jvm.Cond → Bool
  | .code _ _ _ _ => true
  | _ => false
theorem all_split {L : List Jvm.Cond} {P : Jvm.Cond → Bool} (h1 : L.all (fun c => isCode c || P c) = true) (h2 : ∀ c ∈ L.filter isCode, P c = true) : L.all P = true := by
  refine List.all_eq_true.mpr fun c hc => ?_
  have h := List.all_eq_true.mp h1 c hc
  rcases Bool.eq_false_or_eq_true (isCode c) with hi | hi
  · exact h2 c (List.mem_filter.mpr ⟨hc, hi⟩)
  · simpa [hi] using h
set_option maxRecDepth 65536 in
theorem w_c0 : (Jvm.Cond.code x code maxLocals ret).before args0 about1 = true := code_word (m := ⟨1, 2⟩) (meth := k1m2) (c := k1c2) (by decide +kernel) rfl rfl rfl (by decide +kernel)
set_option maxRecDepth 65536 in
theorem w_c1 : (Jvm.Cond.code ({ cls := "com/example/tuplewise/tuplewise/lang/TokenIsPinLaw", name := "kinds", desc := "()[Lcom/example/tuplewise/tuplewise/lang/Token$Kind;" } : Jvm.MethodName) method_2_code (0 : Nat) (Option.some (Jvm.ClassFile.FieldType.array (Jvm.ClassFile.FieldType.object "com/example/tuplewise/tuplewise/lang/Token$Kind")))).before args0 about1 = true := code_word (m := ⟨1, 1⟩) (meth := k1m1) (c := k1c1) (by decide +kernel) rfl rfl rfl (by decide +kernel)
set_option maxRecDepth 65536 in
theorem w_c2 : (Jvm.Cond.code ({ cls := "java/lang/String", name := "valueOf", desc := "(C)Ljava/lang/String;" } : Jvm.MethodName) jdk_42_method_139_code (1 : Nat) (Option.some (Jvm.ClassFile.FieldType.object "java/lang/String"))).before args0 about1 = true := code_word (m := ⟨9, 2⟩) (meth := k9m2) (c := k9c2) (by decide +kernel) rfl rfl rfl (by decide +kernel)
set_option maxRecDepth 65536 in
theorem w_c3 : (Jvm.Cond.code ({ cls := "java/lang/StringLatin1", name := "canEncode", desc := "(C)Z" } : Jvm.MethodName) jdk_43_method_3_code (1 : Nat) (Option.some Jvm.ClassFile.FieldType.boolean)).before args0 about1 = true := code_word (m := ⟨10, 1⟩) (meth := k10m1) (c := k10c1) (by decide +kernel) rfl rfl rfl (by decide +kernel)
set_option maxRecDepth 65536 in
theorem w_c4 : (Jvm.Cond.code ({ cls := "java/lang/StringLatin1", name := "toBytes", desc := "(C)[B" } : Jvm.MethodName) jdk_43_method_46_code (1 : Nat) (Option.some (Jvm.ClassFile.FieldType.array Jvm.ClassFile.FieldType.byte))).before args0 about1 = true := code_word (m := ⟨10, 2⟩) (meth := k10m2) (c := k10c2) (by decide +kernel) rfl rfl rfl (by decide +kernel)
set_option maxRecDepth 65536 in
theorem w_c5 : (Jvm.Cond.code ({ cls := "java/lang/String", name := "<init>", desc := "([BB)V" } : Jvm.MethodName) jdk_42_method_151_code (3 : Nat) (Option.none : Option Jvm.ClassFile.FieldType)).before args0 about1 = true := code_word (m := ⟨9, 4⟩) (meth := k9m4) (c := k9c4) (by decide +kernel) rfl rfl rfl (by decide +kernel)
set_option maxRecDepth 65536 in
theorem w_c6 : (Jvm.Cond.code ({ cls := "java/lang/Object", name := "<init>", desc := "()V" } : Jvm.MethodName) object_method_1_code (1 : Nat) (Option.none : Option Jvm.ClassFile.FieldType)).before args0 about1 = true := code_word (m := ⟨0, 0⟩) (meth := k0m0) (c := k0c0) (by decide +kernel) rfl rfl rfl (by decide +kernel)
set_option maxRecDepth 65536 in
theorem w_c7 : (Jvm.Cond.code ({ cls := "com/example/tuplewise/tuplewise/lang/Token", name := "<init>", desc := "(Lcom/example/tuplewise/tuplewise/lang/Token$Kind;Ljava/lang/String;II)V" } : Jvm.MethodName) prog_19_method_1_code (5 : Nat) (Option.none : Option Jvm.ClassFile.FieldType)).before args0 about1 = true := code_word (m := ⟨12, 0⟩) (meth := k12m0) (c := k12c0) (by decide +kernel) rfl rfl rfl (by decide +kernel)
set_option maxRecDepth 65536 in
theorem w_c8 : (Jvm.Cond.code ({ cls := "java/lang/Record", name := "<init>", desc := "()V" } : Jvm.MethodName) jdk_30_method_1_code (1 : Nat) (Option.none : Option Jvm.ClassFile.FieldType)).before args0 about1 = true := code_word (m := ⟨11, 0⟩) (meth := k11m0) (c := k11c0) (by decide +kernel) rfl rfl rfl (by decide +kernel)
set_option maxRecDepth 65536 in
theorem w_c9 : (Jvm.Cond.code ({ cls := "com/example/tuplewise/tuplewise/lang/Token", name := "is", desc := "(Lcom/example/tuplewise/tuplewise/lang/Token$Kind;)Z" } : Jvm.MethodName) prog_19_method_2_code (2 : Nat) (Option.some Jvm.ClassFile.FieldType.boolean)).before args0 about1 = true := code_word (m := ⟨12, 1⟩) (meth := k12m1) (c := k12c1) (by decide +kernel) rfl rfl rfl (by decide +kernel)
set_option maxRecDepth 65536 in
theorem w_c10 : (Jvm.Cond.code ({ cls := "java/lang/String", name := "<init>", desc := "([C)V" } : Jvm.MethodName) jdk_42_method_3_code (2 : Nat) (Option.none : Option Jvm.ClassFile.FieldType)).before args0 about1 = true := code_word (m := ⟨9, 1⟩) (meth := k9m1) (c := k9c1) (by decide +kernel) rfl rfl rfl (by decide +kernel)
set_option maxRecDepth 65536 in
theorem w_c11 : (Jvm.Cond.code ({ cls := "java/lang/String", name := "<init>", desc := "([CIILjava/lang/Void;)V" } : Jvm.MethodName) jdk_42_method_149_code (6 : Nat) (Option.none : Option Jvm.ClassFile.FieldType)).before args0 about1 = true := code_word (m := ⟨9, 3⟩) (meth := k9m3) (c := k9c3) (by decide +kernel) rfl rfl rfl (by decide +kernel)
set_option maxRecDepth 65536 in
theorem w_c12 : (Jvm.Cond.code ({ cls := "java/lang/StringUTF16", name := "compress", desc := "([CII)[B" } : Jvm.MethodName) jdk_52_method_16_code (6 : Nat) (Option.some (Jvm.ClassFile.FieldType.array Jvm.ClassFile.FieldType.byte))).before args0 about1 = true := code_word (m := ⟨13, 2⟩) (meth := k13m2) (c := k13c2) (by decide +kernel) rfl rfl rfl (by decide +kernel)
set_option maxRecDepth 65536 in
theorem w_c13 : (Jvm.Cond.code ({ cls := "java/lang/StringUTF16", name := "compress", desc := "([CI[BII)I" } : Jvm.MethodName) jdk_52_method_21_code (7 : Nat) (Option.some Jvm.ClassFile.FieldType.int)).before args0 about1 = true := code_word (m := ⟨13, 3⟩) (meth := k13m3) (c := k13c3) (by decide +kernel) rfl rfl rfl (by decide +kernel)
set_option maxRecDepth 65536 in
theorem w_c14 : (Jvm.Cond.code ({ cls := "java/lang/StringUTF16", name := "coderFromArrayLen", desc := "([BI)B" } : Jvm.MethodName) jdk_52_method_15_code (2 : Nat) (Option.some Jvm.ClassFile.FieldType.byte)).before args0 about1 = true := code_word (m := ⟨13, 1⟩) (meth := k13m1) (c := k13c1) (by decide +kernel) rfl rfl rfl (by decide +kernel)
def codes1 : List Jvm.Cond := [Jvm.Cond.code x code maxLocals ret, Jvm.Cond.code ({ cls := "com/example/tuplewise/tuplewise/lang/TokenIsPinLaw", name := "kinds", desc := "()[Lcom/example/tuplewise/tuplewise/lang/Token$Kind;" } : Jvm.MethodName) method_2_code (0 : Nat) (Option.some (Jvm.ClassFile.FieldType.array (Jvm.ClassFile.FieldType.object "com/example/tuplewise/tuplewise/lang/Token$Kind"))), Jvm.Cond.code ({ cls := "java/lang/String", name := "valueOf", desc := "(C)Ljava/lang/String;" } : Jvm.MethodName) jdk_42_method_139_code (1 : Nat) (Option.some (Jvm.ClassFile.FieldType.object "java/lang/String")), Jvm.Cond.code ({ cls := "java/lang/StringLatin1", name := "canEncode", desc := "(C)Z" } : Jvm.MethodName) jdk_43_method_3_code (1 : Nat) (Option.some Jvm.ClassFile.FieldType.boolean), Jvm.Cond.code ({ cls := "java/lang/StringLatin1", name := "toBytes", desc := "(C)[B" } : Jvm.MethodName) jdk_43_method_46_code (1 : Nat) (Option.some (Jvm.ClassFile.FieldType.array Jvm.ClassFile.FieldType.byte)), Jvm.Cond.code ({ cls := "java/lang/String", name := "<init>", desc := "([BB)V" } : Jvm.MethodName) jdk_42_method_151_code (3 : Nat) (Option.none : Option Jvm.ClassFile.FieldType), Jvm.Cond.code ({ cls := "java/lang/Object", name := "<init>", desc := "()V" } : Jvm.MethodName) object_method_1_code (1 : Nat) (Option.none : Option Jvm.ClassFile.FieldType), Jvm.Cond.code ({ cls := "com/example/tuplewise/tuplewise/lang/Token", name := "<init>", desc := "(Lcom/example/tuplewise/tuplewise/lang/Token$Kind;Ljava/lang/String;II)V" } : Jvm.MethodName) prog_19_method_1_code (5 : Nat) (Option.none : Option Jvm.ClassFile.FieldType), Jvm.Cond.code ({ cls := "java/lang/Record", name := "<init>", desc := "()V" } : Jvm.MethodName) jdk_30_method_1_code (1 : Nat) (Option.none : Option Jvm.ClassFile.FieldType), Jvm.Cond.code ({ cls := "com/example/tuplewise/tuplewise/lang/Token", name := "is", desc := "(Lcom/example/tuplewise/tuplewise/lang/Token$Kind;)Z" } : Jvm.MethodName) prog_19_method_2_code (2 : Nat) (Option.some Jvm.ClassFile.FieldType.boolean), Jvm.Cond.code ({ cls := "java/lang/String", name := "<init>", desc := "([C)V" } : Jvm.MethodName) jdk_42_method_3_code (2 : Nat) (Option.none : Option Jvm.ClassFile.FieldType), Jvm.Cond.code ({ cls := "java/lang/String", name := "<init>", desc := "([CIILjava/lang/Void;)V" } : Jvm.MethodName) jdk_42_method_149_code (6 : Nat) (Option.none : Option Jvm.ClassFile.FieldType), Jvm.Cond.code ({ cls := "java/lang/StringUTF16", name := "compress", desc := "([CII)[B" } : Jvm.MethodName) jdk_52_method_16_code (6 : Nat) (Option.some (Jvm.ClassFile.FieldType.array Jvm.ClassFile.FieldType.byte)), Jvm.Cond.code ({ cls := "java/lang/StringUTF16", name := "compress", desc := "([CI[BII)I" } : Jvm.MethodName) jdk_52_method_21_code (7 : Nat) (Option.some Jvm.ClassFile.FieldType.int), Jvm.Cond.code ({ cls := "java/lang/StringUTF16", name := "coderFromArrayLen", desc := "([BI)B" } : Jvm.MethodName) jdk_52_method_15_code (2 : Nat) (Option.some Jvm.ClassFile.FieldType.byte)]
set_option maxRecDepth 65536 in
theorem codes_eq : words1.filter isCode = codes1 := rfl
theorem w_codes : ∀ c ∈ words1.filter isCode, c.before args0 about1 = true := by
  rw [codes_eq]
  intro c hc
  simp only [codes1, List.mem_cons, List.not_mem_nil, or_false] at hc
  rcases hc with rfl | rfl | rfl | rfl | rfl | rfl | rfl | rfl | rfl | rfl | rfl | rfl | rfl | rfl | rfl
  · exact w_c0
  · exact w_c1
  · exact w_c2
  · exact w_c3
  · exact w_c4
  · exact w_c5
  · exact w_c6
  · exact w_c7
  · exact w_c8
  · exact w_c9
  · exact w_c10
  · exact w_c11
  · exact w_c12
  · exact w_c13
  · exact w_c14
set_option maxRecDepth 65536 in
theorem w_t1 : (words1.take 24).all (fun c => isCode c || c.before args0 about1) = true := by decide +kernel
set_option maxRecDepth 65536 in
theorem w_t2 : ((words1.drop 24).take 24).all (fun c => isCode c || c.before args0 about1) = true := by decide +kernel
set_option maxRecDepth 65536 in
theorem w_t3 : (((words1.drop 24).drop 24).take 24).all (fun c => isCode c || c.before args0 about1) = true := by decide +kernel
set_option maxRecDepth 65536 in
theorem w_t4 : ((((words1.drop 24).drop 24).drop 24).take 24).all (fun c => isCode c || c.before args0 about1) = true := by decide +kernel
set_option maxRecDepth 65536 in
theorem w_t5 : ((((words1.drop 24).drop 24).drop 24).drop 24).all (fun c => isCode c || c.before args0 about1) = true := by decide +kernel
theorem w_tables : (allAtoms (Jvm.Cond.code x code maxLocals ret :: tables_1)).before args0 about1 = true := by
  rw [allAtoms_all]
  show words1.all (fun c => c.before args0 about1) = true
  refine all_split ?_ w_codes
  rw [← List.take_append_drop 24 words1, List.all_append, w_t1, ← List.take_append_drop 24 (words1.drop 24), List.all_append, w_t2, ← List.take_append_drop 24 ((words1.drop 24).drop 24), List.all_append, w_t3, ← List.take_append_drop 24 (((words1.drop 24).drop 24).drop 24), List.all_append, w_t4, w_t5]
  rfl
set_option maxRecDepth 65536 in
theorem w_rest : rest_1_c.before args0 about1 = true := by decide +kernel
set_option maxRecDepth 65536 in
theorem w_case : (Jvm.Cond.and given_1 narrow_1).before args0 about1 = true := by decide +kernel
theorem w_applies : (headSpec (Jvm.Cond.code x code maxLocals ret :: tables_1) room_1).applies x e0.platform about1 = true :=
  (Spec.applies_iff w_frames).mpr ⟨w_running, w_runnable, w_alone, w_named, w_hears, w_ripe, w_room, w_tables⟩
theorem atStart : AtStart classFile x code maxLocals ret World_1 tables_1 room_1 Calls_1 rest_1 Pre_1 launch0 p0 e0 about1 theMethod args0 below0 :=
  ⟨lists_1, trivial, launch0.admits_env _ _ _, launch0.least_env, fairChoices_fair.cas, fairChoices_fair.clock, w_frames, w_args, w_heap, w_applies, trivial, w_rest, w_case⟩
end start1
theorem witness_1 : WitnessClaimed_1 := ⟨start1.p0, start1.e0, start1.about1, start1.theMethod, start1.args0, start1.below0, start1.atStart⟩
end Jvm.Pilot.@@N@@
