import JvmDerived
import JvmDerived.Pilot.@@N@@Statement
import JvmDerived.Pilot.@@N@@Code
set_option linter.unusedVariables false
set_option linter.unusedSimpArgs false
@@BLOCK:NumsL.lean.txt@@
namespace Jvm.Pilot.@@N@@
open Jvm Jvm.ClassFile Sem Op Lib Jvm.Free Jvm.Stand Jvm.LawKit Jvm.RoadKit Bundle Jvm.Pilot.@@N@@.Jvm.D
section Own
variable {p : Program} {l : Launch} {e : Env} {R : Room} {s : State} {m : MethodId} {args : Array Value} {below : List Frame} {meth : Method} {c : Code} {T : State} {locs : List Loc} {cells slots : Nat} {Z : State} {a0 : Array Value} {h : Heap}
/-- a walk that goes forward: from S the run comes to an end of which P holds -/
def own_G (p : Program) (e : Env) (below : List Frame) (S : State) (P : Outcome → State → Prop) : Prop :=
  ∃ s₂ o, Steps p.tables e below S s₂ ∧ s₂.status = .running ∧ Ended s₂ below o ∧ P o s₂
/-- what a body leaves -/
def own_P (s : State) (Q : Option Value → Heap → List Loc → Prop) (kc ks : Nat) (o : Outcome) (U : State) : Prop := ∃ v L, o = .returned v ∧ Q v U.heap L ∧ FrameEnd s o U L kc ks
theorem oS {S S' : State} {P : Outcome → State → Prop} (k : ∀ t, Steps p.tables e below S' t → Steps p.tables e below S t) (h : own_G p e below S' P) : own_G p e below S P := by
  obtain ⟨s2, o, h1, h2⟩ := h; exact ⟨s2, o, k _ h1, h2⟩
theorem oW {Z : State} {a0 : Array Value} (hw : ∀ d ∈ tables_1, d.before a0 Z = true) (i : Nat) {d : Jvm.Cond} (q : tables_1[i]? = some d) : d.before a0 Z = true := hw _ (List.mem_of_getElem? q)
theorem own_cast {g g' : JFrame} {P : Outcome → State → Prop} (q : g = g') (k : own_G p e below (T.setTop g') P) : own_G p e below (T.setTop g) P := q ▸ k
theorem own_leave (X : Stand p l e R s m args below meth c T locs cells slots) {g : JFrame} {v : Option Value} {Q : Option Value → Heap → List Loc → Prop} {kc ks : Nat} (hlocks : meth.locks = false) (hv : meth.sig.returnType = none → v = none)
    (k : ∀ fs, (∀ (f : JFrame) (acts : List Action), f.method = m → f.locked = none → f.entered = [] → (doReturn e (T.setTop f) acts v).1 = T.setFrames fs) → Steps p.tables e below (T.setTop g) (T.setFrames fs))
    (eT : T.heap = h) (hc : cells ≤ kc) (hs : slots ≤ ks) (hq : Q v h locs) : own_G p e below (T.setTop g) (own_P s Q kc ks) := by
  obtain ⟨fs, hr, hrun, hended, hW, hsame⟩ := X.leave (v := v) hv hlocks
  exact ⟨_, _, k fs hr, hrun, hended, _, _, rfl, by show Q v T.heap locs; rw [eT]; exact hq, ⟨_, rfl⟩, hW, hsame.mono hc hs⟩
theorem own_retN (X : Stand p l e R s m args below meth c T locs cells slots) (hx : p.tables.exec = Jvm.exec) {pc : Nat} {Ls : Array Slot} {z : Int32} {t : FieldType} {rest : List Value} {Q : Option Value → Heap → List Loc → Prop} {kc ks : Nat} (hlocks : meth.locks = false) (hret : meth.sig.returnType = some t) (ht : t = .boolean ∨ t = .byte ∨ t = .char ∨ t = .short)
    (hd : decode c.code pc = .ok (.ireturn, 1)) (hn : nar t z = z) (eT : T.heap = h) (hc : cells ≤ kc) (hs : slots ≤ ks) (hq : Q (some (.int z)) h locs) : own_G p e below (T.setTop (mkF m pc Ls (.int z :: rest))) (own_P s Q kc ks) :=
  own_leave X (v := some (.int z)) hlocks (fun q => by rw [hret] at q; cases q) (fun fs hl => retN X hx hret ht hd (by rw [hn]; exact hl)) eT hc hs hq
theorem own_retI (X : Stand p l e R s m args below meth c T locs cells slots) (hx : p.tables.exec = Jvm.exec) {pc : Nat} {Ls : Array Slot} {z : Int32} {rest : List Value} {Q : Option Value → Heap → List Loc → Prop} {kc ks : Nat} (hlocks : meth.locks = false) (hret : meth.sig.returnType = some .int)
    (hd : decode c.code pc = .ok (.ireturn, 1)) (eT : T.heap = h) (hc : cells ≤ kc) (hs : slots ≤ ks) (hq : Q (some (.int z)) h locs) : own_G p e below (T.setTop (mkF m pc Ls (.int z :: rest))) (own_P s Q kc ks) :=
  own_leave X (v := some (.int z)) hlocks (fun q => by rw [hret] at q; cases q) (fun fs hl => retOut X hx hret rfl (Or.inl ⟨rfl, Or.inl rfl, _, rfl⟩) hd hl) eT hc hs hq
theorem own_retL (X : Stand p l e R s m args below meth c T locs cells slots) (hx : p.tables.exec = Jvm.exec) {pc : Nat} {Ls : Array Slot} {z : Int64} {rest : List Value} {Q : Option Value → Heap → List Loc → Prop} {kc ks : Nat} (hlocks : meth.locks = false) (hret : meth.sig.returnType = some .long)
    (hd : decode c.code pc = .ok (.lreturn, 1)) (eT : T.heap = h) (hc : cells ≤ kc) (hs : slots ≤ ks) (hq : Q (some (.long z)) h locs) : own_G p e below (T.setTop (mkF m pc Ls (.long z :: rest))) (own_P s Q kc ks) :=
  own_leave X (v := some (.long z)) hlocks (fun q => by rw [hret] at q; cases q) (fun fs hl => retOut X hx hret rfl (Or.inr (Or.inl ⟨rfl, rfl, _, rfl⟩)) hd hl) eT hc hs hq
theorem own_narR {t : FieldType} {w : Value} (h : w.isRef = true) : narrow t w = w := by
  rcases ref_cases h with rfl | ⟨a, rfl⟩ <;> cases t <;> rfl
theorem own_retA (X : Stand p l e R s m args below meth c T locs cells slots) (hx : p.tables.exec = Jvm.exec) {pc : Nat} {Ls : Array Slot} {w : Value} {t : FieldType} {rest : List Value} {Q : Option Value → Heap → List Loc → Prop} {kc ks : Nat} (hlocks : meth.locks = false) (hret : meth.sig.returnType = some t) (ht : t.isReference = true) (hw : w.isRef = true)
    (hd : decode c.code pc = .ok (.areturn, 1)) (eT : T.heap = h) (hc : cells ≤ kc) (hs : slots ≤ ks) (hq : Q (some w) h locs) : own_G p e below (T.setTop (mkF m pc Ls (w :: rest))) (own_P s Q kc ks) :=
  own_leave X (v := some w) hlocks (fun q => by rw [hret] at q; cases q) (fun fs hl => retOut X hx hret (own_narR hw) (Or.inr (Or.inr (Or.inr (Or.inr ⟨rfl, ht, hw⟩)))) hd hl) eT hc hs hq
theorem own_retV (X : Stand p l e R s m args below meth c T locs cells slots) (hx : p.tables.exec = Jvm.exec) {pc : Nat} {Ls : Array Slot} {Q : Option Value → Heap → List Loc → Prop} {kc ks : Nat} (hlocks : meth.locks = false) (hret : meth.sig.returnType = none)
    (hd : decode c.code pc = .ok (.return_, 1)) (eT : T.heap = h) (hc : cells ≤ kc) (hs : slots ≤ ks) (hq : Q none h locs) : own_G p e below (T.setTop (mkF m pc Ls [])) (own_P s Q kc ks) :=
  own_leave X (v := none) hlocks (fun _ => rfl) (fun fs hl => X.returnOut hx hret hd hl) eT hc hs hq
abbrev own_Met (l : Launch) (Z : State) (h : Heap) (y : MethodName) (bytes : ByteArray) (maxL : Nat) (ret : Option FieldType) (ws : List Jvm.Cond) (rm : Room) (as' : Array Value) (Q : Option Value → Heap → List Loc → Prop) (kc ks : Nat) : Prop :=
  MetFree l y (head1 (Jvm.Cond.code y bytes maxL ret :: ws) rm) (fun a U => a = as' ∧ Z.Warmed39 U.vm ∧ U.heap = h) (fun _ _ _ _ _ => True) (fun _ U o U' => ∃ v L, o = .returned v ∧ Q v U'.heap L ∧ FrameEnd U o U' L kc ks)
variable {own : String} {index : Nat} {y : MethodName} {bytes : ByteArray} {maxL : Nat} {ret : Option FieldType} {rm : Room} {W : Nat} {as' : Array Value} {Q : Option Value → Heap → List Loc → Prop}
abbrev own_After (p : Program) (l : Launch) (e : Env) (R : Room) (s : State) (m : MethodId) (args : Array Value) (below : List Frame) (meth : Method) (c : Code) (T : State) (locs : List Loc) (kc ks : Nat) (g : JFrame) (rest : List Value) (Q : Option Value → Heap → List Loc → Prop) (len : Nat := 3) : Prop :=
  ∃ (T' : State) (h' : Heap) (v : Option Value) (L : List Loc), Stand p l e R s m args below meth c T' (locs ++ L) kc ks ∧ T'.heap = h' ∧ Q v h' L ∧ ∀ target, Steps p.tables e below (T'.setTop { g with pc := g.pc + len, stack := v.toList ++ rest }) target → Steps p.tables e below (T.setTop g) target
theorem own_callS (X : Stand p l e R s m args below meth c T locs cells slots) (hx : p.tables.exec = Jvm.exec) (hZ : Z.Warmed39 s.vm) (hown : s.vm.findClass own = some m.cls) (eT : T.heap = h)
    (w1 : (Jvm.Cond.methodLink own index y).before a0 Z = true) (w2 : (Jvm.Cond.static y).before a0 Z = true) (w3 : (Jvm.Cond.initialized y.cls).before a0 Z = true) (w4 : (Jvm.Cond.code y bytes maxL ret).before a0 Z = true) (hy : y.cls ≠ "java/lang/invoke/MethodHandle" ∧ y.cls ≠ "java/lang/invoke/VarHandle")
    (hM : own_Met l Z h y bytes maxL ret [] rm as' Q rm.cells rm.slots)
    (hf : rm.frames + 1 ≤ R.frames) (hl : W + (maxL + 11) + rm.locals ≤ R.locals) (hc : cells + rm.cells ≤ R.cells) (hsl : slots + rm.slots ≤ R.slots)
    {g : JFrame} (hg : g.method = m) (hsize : g.locals.size = c.maxLocals) {argsL rest : List Value} (has : argsL.toArray = as') (hlen : ∀ sig, parseMethodDescriptor y.desc = some sig → argsL.length = sig.parameters.length)
    (hstack : g.stack = argsL.reverse ++ rest) (hW : 2 * g.monitorRoom + (rest.map fun v => v.category).sum ≤ W) (hd : decode c.code g.pc = .ok (.invokestatic index, 3)) :
    own_After p l e R s m args below meth c T locs (cells + rm.cells) (slots + rm.slots) g rest Q := by
  obtain ⟨v, vm1, ⟨T', L', k', n'⟩, -, X', ⟨Lc, hQ, l1, y1, z1⟩, st⟩ := Jvm.LawKit.callS X hx (y := y) hown (mvT hZ w1) (mvT hZ w2) (mvT hZ w3) (mvT hZ w4) hy (backOf (W := W) hM hZ w4 w3 hf hl) hg hsize hlen hstack hW hd (fun _ _ => ⟨has, eT, hc, hsl⟩)
  dsimp only [Pt.U, Pt.locs, Pt.cells, Pt.slots] at X' l1 y1 z1 st hQ
  subst l1 y1 z1
  exact ⟨T', _, v, Lc, X', rfl, hQ, st⟩
theorem own_callV (X : Stand p l e R s m args below meth c T locs cells slots) (hx : p.tables.exec = Jvm.exec) (hZ : Z.Warmed39 s.vm) (hown : s.vm.findClass own = some m.cls) (eT : T.heap = h) {z : MethodName} {C : String} {b : Addr}
    (w1 : (Jvm.Cond.methodLink own index y).before a0 Z = true) (w2 : (Jvm.Cond.declares y).before a0 Z = true) (nf : NotFace s y) (w3 : (Jvm.Cond.selects C y z).before a0 Z = true) (w5 : (Jvm.Cond.instanceMethod z).before a0 Z = true) (w6 : (Jvm.Cond.initialized z.cls).before a0 Z = true) (w4 : (Jvm.Cond.code z bytes maxL ret).before a0 Z = true) (hy : y.cls ≠ "java/lang/invoke/MethodHandle" ∧ y.cls ≠ "java/lang/invoke/VarHandle")
    (E : Exa Z h b C) (hM : own_Met l Z h z bytes maxL ret [] rm as' Q rm.cells rm.slots)
    (hf : rm.frames + 1 ≤ R.frames) (hl : W + (maxL + 11) + rm.locals ≤ R.locals) (hc : cells + rm.cells ≤ R.cells) (hsl : slots + rm.slots ≤ R.slots)
    {g : JFrame} (hg : g.method = m) (hsize : g.locals.size = c.maxLocals) {argsL rest : List Value} (has : (.ref b :: argsL).toArray = as') (hlen : ∀ sig, parseMethodDescriptor y.desc = some sig → argsL.length = sig.parameters.length)
    (hstack : g.stack = argsL.reverse ++ .ref b :: rest) (hW : 2 * g.monitorRoom + (rest.map fun v => v.category).sum ≤ W) (hd : decode c.code g.pc = .ok (.invokevirtual index, 3)) :
    own_After p l e R s m args below meth c T locs (cells + rm.cells) (slots + rm.slots) g rest Q := by
  obtain ⟨cq, kq, q1, q2, q3⟩ := isOf hZ eT E
  obtain ⟨v, vm1, ⟨T', L', k', n'⟩, -, X', ⟨Lc, hQ, l1, y1, z1⟩, st⟩ := X.virtualBack hx (y := y) (z := z) hown (mvT hZ w1) (mvT hZ w2) nf (mvT hZ w3) (mvT hZ w5) hy (backOf (W := W) hM hZ w4 w6 hf hl) q1 q3 hg hsize (Steps.refl _) hlen hstack hW hd (fun _ _ => ⟨has, eT, hc, hsl⟩)
  dsimp only [Pt.U, Pt.locs, Pt.cells, Pt.slots] at X' l1 y1 z1 st hQ
  subst l1 y1 z1
  exact ⟨T', _, v, Lc, X', rfl, hQ, fun _ k => st.trans k⟩
theorem own_callU (X : Stand p l e R s m args below meth c T locs cells slots) (hx : p.tables.exec = Jvm.exec) (hZ : Z.Warmed39 s.vm) (hown : s.vm.findClass own = some m.cls) (eT : T.heap = h) {z : MethodName} {C owner : String} {b : Addr}
    (w1 : (Jvm.Cond.methodLink own index y).before a0 Z = true) (w2 : (Jvm.Cond.sameMethod y.cls owner y.name y.desc).before a0 Z = true) (w7 : (Jvm.Cond.declares ⟨owner, y.name, y.desc⟩).before a0 Z = true) (w3 : (Jvm.Cond.selects C y z).before a0 Z = true) (w5 : (Jvm.Cond.instanceMethod z).before a0 Z = true) (w6 : (Jvm.Cond.initialized z.cls).before a0 Z = true) (w4 : (Jvm.Cond.code z bytes maxL ret).before a0 Z = true) (hy : owner ≠ "java/lang/invoke/MethodHandle" ∧ owner ≠ "java/lang/invoke/VarHandle")
    (E : Exa Z h b C) (hM : own_Met l Z h z bytes maxL ret [] rm as' Q rm.cells rm.slots)
    (hf : rm.frames + 1 ≤ R.frames) (hl : W + (maxL + 11) + rm.locals ≤ R.locals) (hc : cells + rm.cells ≤ R.cells) (hsl : slots + rm.slots ≤ R.slots)
    {g : JFrame} (hg : g.method = m) (hsize : g.locals.size = c.maxLocals) {argsL rest : List Value} (has : (.ref b :: argsL).toArray = as') (hlen : ∀ sig, parseMethodDescriptor y.desc = some sig → argsL.length = sig.parameters.length)
    (hstack : g.stack = argsL.reverse ++ .ref b :: rest) (hW : 2 * g.monitorRoom + (rest.map fun v => v.category).sum ≤ W) (hd : decode c.code g.pc = .ok (.invokevirtual index, 3)) :
    own_After p l e R s m args below meth c T locs (cells + rm.cells) (slots + rm.slots) g rest Q := by
  obtain ⟨cq, kq, q1, q2, q3⟩ := isOf hZ eT E
  obtain ⟨v, vm1, ⟨T', L', k', n'⟩, -, X', ⟨Lc, hQ, l1, y1, z1⟩, st⟩ := X.virtualBackUp hx (x := y) (y := z) (owner := owner) hown (mvT hZ w1) (mvT hZ w2) (mvT hZ w7) hy (mvT hZ w3) (mvT hZ w5) (backOf (W := W) hM hZ w4 w6 hf hl) q1 q3 hg hsize (Steps.refl _) hlen hstack hW hd (fun _ _ => ⟨has, eT, hc, hsl⟩)
  dsimp only [Pt.U, Pt.locs, Pt.cells, Pt.slots] at X' l1 y1 z1 st hQ
  subst l1 y1 z1
  exact ⟨T', _, v, Lc, X', rfl, hQ, fun _ k => st.trans k⟩
theorem own_callN (X : Stand p l e R s m args below meth c T locs cells slots) (hx : p.tables.exec = Jvm.exec) (hZ : Z.Warmed39 s.vm) (hown : s.vm.findClass own = some m.cls) (eT : T.heap = h) {b : Addr} (hy1 : y.name = "<init>")
    (w1 : (Jvm.Cond.methodLink own index y).before a0 Z = true) (w5 : (Jvm.Cond.instanceMethod y).before a0 Z = true) (w6 : (Jvm.Cond.initialized y.cls).before a0 Z = true) (w4 : (Jvm.Cond.code y bytes maxL none).before a0 Z = true) (hy : y.cls ≠ "java/lang/invoke/MethodHandle" ∧ y.cls ≠ "java/lang/invoke/VarHandle")
    (hM : own_Met l Z h y bytes maxL none [] rm as' Q rm.cells rm.slots)
    (hf : rm.frames + 1 ≤ R.frames) (hl : W + (maxL + 11) + rm.locals ≤ R.locals) (hc : cells + rm.cells ≤ R.cells) (hsl : slots + rm.slots ≤ R.slots)
    {g : JFrame} (hg : g.method = m) (hsize : g.locals.size = c.maxLocals) {argsL rest : List Value} (has : (.ref b :: argsL).toArray = as') (hlen : ∀ sig, parseMethodDescriptor y.desc = some sig → argsL.length = sig.parameters.length)
    (hstack : g.stack = argsL.reverse ++ .ref b :: rest) (hW : 2 * g.monitorRoom + (rest.map fun v => v.category).sum ≤ W) (hd : decode c.code g.pc = .ok (.invokespecial index, 3)) :
    own_After p l e R s m args below meth c T locs (cells + rm.cells) (slots + rm.slots) g rest Q := by
  obtain ⟨v, vm1, ⟨T', L', k', n'⟩, -, X', ⟨Lc, hQ, l1, y1, z1⟩, st⟩ := X.specialBack hx (y := y) hy1 hown (mvT hZ w1) (mvT hZ w5) (mvT hZ w4) hy (backOf (W := W) hM hZ w4 w6 hf hl) hg hsize (Steps.refl _) hlen hstack hW hd (fun _ _ => ⟨has, eT, hc, hsl⟩)
  dsimp only [Pt.U, Pt.locs, Pt.cells, Pt.slots] at X' l1 y1 z1 st hQ
  subst l1 y1 z1
  exact ⟨T', _, v, Lc, X', rfl, hQ, fun _ k => st.trans k⟩
theorem own_callI (X : Stand p l e R s m args below meth c T locs cells slots) (hx : p.tables.exec = Jvm.exec) (hZ : Z.Warmed39 s.vm) (hown : s.vm.findClass own = some m.cls) (eT : T.heap = h) {z : MethodName} {C : String} {b : Addr} {count : Nat}
    (w1 : (Jvm.Cond.methodLink own index y).before a0 Z = true) (w2 : (Jvm.Cond.declares y).before a0 Z = true) (w7 : (Jvm.Cond.interfaceMethod y.cls y.cls y.name y.desc).before a0 Z = true) (h7 : ((Jvm.Cond.interfaceMethod y.cls y.cls y.name y.desc).onTables && (Jvm.Cond.interfaceMethod y.cls y.cls y.name y.desc).keepsFace) = true) (w3 : (Jvm.Cond.selects C y z).before a0 Z = true) (w5 : (Jvm.Cond.instanceMethod z).before a0 Z = true) (w8 : (Jvm.Cond.publicMethod z).before a0 Z = true) (w9 : (Jvm.Cond.unhidden C y.name y.desc).before a0 Z = true) (w10 : (Jvm.Cond.castable C y.cls).before a0 Z = true) (w6 : (Jvm.Cond.initialized z.cls).before a0 Z = true) (w4 : (Jvm.Cond.code z bytes maxL ret).before a0 Z = true) (hy : y.cls ≠ "java/lang/invoke/MethodHandle" ∧ y.cls ≠ "java/lang/invoke/VarHandle")
    (E : Exa Z h b C) (hM : own_Met l Z h z bytes maxL ret [] rm as' Q rm.cells rm.slots)
    (hf : rm.frames + 1 ≤ R.frames) (hl : W + (maxL + 11) + rm.locals ≤ R.locals) (hc : cells + rm.cells ≤ R.cells) (hsl : slots + rm.slots ≤ R.slots)
    {g : JFrame} (hg : g.method = m) (hsize : g.locals.size = c.maxLocals) {argsL rest : List Value} (has : (.ref b :: argsL).toArray = as') (hlen : ∀ sig, parseMethodDescriptor y.desc = some sig → argsL.length = sig.parameters.length)
    (hstack : g.stack = argsL.reverse ++ .ref b :: rest) (hW : 2 * g.monitorRoom + (rest.map fun v => v.category).sum ≤ W) (hd : decode c.code g.pc = .ok (.invokeinterface index count, 5)) :
    own_After p l e R s m args below meth c T locs (cells + rm.cells) (slots + rm.slots) g rest Q 5 := by
  obtain ⟨cq, kq, q1, q2, q3⟩ := isOf hZ eT E
  obtain ⟨v, vm1, ⟨T', L', k', n'⟩, -, X', ⟨Lc, hQ, l1, y1, z1⟩, st⟩ := X.interfaceBack hx (xi := y) (y := z) hown (mvT hZ w1) (mvT hZ w2) (mvT hZ w7 h7) (mvT hZ w3) (mvT hZ w5) (mvT hZ w8) (mvT hZ w9) (mvT hZ w10) hy (backOf (W := W) hM hZ w4 w6 hf hl) q1 q2 q3 hg hsize (Steps.refl _) hlen hstack hW hd (fun _ _ => ⟨has, eT, hc, hsl⟩)
  dsimp only [Pt.U, Pt.locs, Pt.cells, Pt.slots] at X' l1 y1 z1 st hQ
  subst l1 y1 z1
  exact ⟨T', _, v, Lc, X', rfl, hQ, fun _ k => st.trans k⟩
theorem own_callP (X : Stand p l e R s m args below meth c T locs cells slots) (hx : p.tables.exec = Jvm.exec) (hZ : Z.Warmed39 s.vm) (hown : s.vm.findClass own = some m.cls) (eT : T.heap = h) {b : Addr} {C : String}
    (w1 : (Jvm.Cond.methodLink own index y).before a0 Z = true) (w5 : (Jvm.Cond.instanceMethod y).before a0 Z = true) (w3 : (Jvm.Cond.selects y.cls y y).before a0 Z = true) (w7 : (Jvm.Cond.privateMethod y).before a0 Z = true) (w6 : (Jvm.Cond.initialized y.cls).before a0 Z = true) (w4 : (Jvm.Cond.code y bytes maxL ret).before a0 Z = true) (hy : y.cls ≠ "java/lang/invoke/MethodHandle" ∧ y.cls ≠ "java/lang/invoke/VarHandle")
    (E : Exa Z h b C) (hM : own_Met l Z h y bytes maxL ret [] rm as' Q rm.cells rm.slots)
    (hf : rm.frames + 1 ≤ R.frames) (hl : W + (maxL + 11) + rm.locals ≤ R.locals) (hc : cells + rm.cells ≤ R.cells) (hsl : slots + rm.slots ≤ R.slots)
    {g : JFrame} (hg : g.method = m) (hsize : g.locals.size = c.maxLocals) {argsL rest : List Value} (has : (.ref b :: argsL).toArray = as') (hlen : ∀ sig, parseMethodDescriptor y.desc = some sig → argsL.length = sig.parameters.length)
    (hstack : g.stack = argsL.reverse ++ .ref b :: rest) (hW : 2 * g.monitorRoom + (rest.map fun v => v.category).sum ≤ W) (hd : decode c.code g.pc = .ok (.invokevirtual index, 3)) :
    own_After p l e R s m args below meth c T locs (cells + rm.cells) (slots + rm.slots) g rest Q := by
  obtain ⟨cell, hcell, hobj⟩ := E.cell
  obtain ⟨v, vm1, ⟨T', L', k', n'⟩, -, X', ⟨Lc, hQ, l1, y1, z1⟩, st⟩ := X.privateBack hx (y := y) hown (mvT hZ w1) (mvT hZ w5) (mvT hZ w3) (Cond.privateMethod_at (mvP (args := #[]) hZ w7)) (mvT hZ w4) hy (backOf (W := W) hM hZ w4 w6 hf hl) hg hsize (Steps.refl _) (by rw [eT]; exact hcell) hobj hlen hstack hW hd (fun _ _ => ⟨has, eT, hc, hsl⟩)
  dsimp only [Pt.U, Pt.locs, Pt.cells, Pt.slots] at X' l1 y1 z1 st hQ
  subst l1 y1 z1
  exact ⟨T', _, v, Lc, X', rfl, hQ, fun _ k => st.trans k⟩
theorem own_rne {a b : Addr} (h : a ≠ b) : ¬ (Value.ref a = Value.ref b) := fun q => h (Value.ref.inj q)
def own_pl : Value → Bool
  | .int _ => true
  | .ref _ => true
  | .null => true
  | .long _ => true
  | _ => false
theorem own_eqv {args : Array Value} {f : State} {o : Option Outcome} {idx : List Nat} {t u : Term} {x y : Value} (ha : t.eval args f o idx s = some x) (hb : u.eval args f o idx s = some y) (h : (Jvm.Cond.eq t u).value args f o s idx = some true) (hk : own_pl y = true := by rfl) : x = y := by
  cases x <;> cases y <;> simp [Jvm.Cond.value, ha, hb, own_pl] at h hk ⊢ <;> first | exact h | exact h.symm
theorem own_fv {args : Array Value} {t u : Term} {O n d : String} {a : Addr} {y : Value} (ht : t.eval args s none [] s = some (.ref a)) (hu : u.eval args s none [] s = some y) (h : (Jvm.Cond.eq (.field t O n d) u).value args s none s [] = some true) (hk : own_pl y = true := by rfl) : Fld s s.heap a O n d y := by
  obtain ⟨x, y', e1, e2, -, -⟩ := cmp_v (Or.inl h)
  have q := own_eqv e1 hu h hk
  subst q
  exact Fld.start ((fld_at ht).symm.trans e1)
end Own
theorem own_bm32 {n : Int} (h1 : -2147483648 ≤ n) (h2 : n < 2147483648) : n.bmod (2 ^ 32) = n := Int.bmod_eq_of_le (by omega) (by omega)
theorem own_modlt (x : Int32) (n : Int32) (hn : 0 < n.toInt) : 0 ≤ ((x &&& 2147483647) % n).toInt ∧ ((x &&& 2147483647) % n).toInt < n.toInt := by
  have e := Jvm.Kit.i32_mask x 2147483647 (k := 31) (by decide) (by decide)
  rw [Int32.toInt_mod, e]
  have h0 : 0 ≤ x.toInt % 2 ^ 31 := Int.emod_nonneg _ (by decide)
  rw [Int.tmod_eq_emod_of_nonneg h0]
  exact ⟨Int.emod_nonneg _ (by omega), Int.emod_lt_of_pos _ hn⟩
theorem own_i32 {x : Int32} {k : Int32} (h : x.toInt = k.toInt) : x = k := Int32.toInt_inj.mp h
theorem own_in2 {x : Int32} (h : 0 ≤ x.toInt ∧ x.toInt < 2) : x = 0 ∨ x = 1 := by
  rcases (by omega : x.toInt = 0 ∨ x.toInt = 1) with q | q
  · exact .inl (own_i32 (k := 0) q)
  · exact .inr (own_i32 (k := 1) q)
theorem own_in3 {x : Int32} (h : 0 ≤ x.toInt ∧ x.toInt < 3) : x = 0 ∨ x = 1 ∨ x = 2 := by
  rcases (by omega : x.toInt = 0 ∨ x.toInt = 1 ∨ x.toInt = 2) with q | q | q
  · exact .inl (own_i32 (k := 0) q)
  · exact .inr (.inl (own_i32 (k := 1) q))
  · exact .inr (.inr (own_i32 (k := 2) q))
theorem own_in4 {x : Int32} (h : 0 ≤ x.toInt ∧ x.toInt < 4) : x = 0 ∨ x = 1 ∨ x = 2 ∨ x = 3 := by
  rcases (by omega : x.toInt = 0 ∨ x.toInt = 1 ∨ x.toInt = 2 ∨ x.toInt = 3) with q | q | q | q
  · exact .inl (own_i32 (k := 0) q)
  · exact .inr (.inl (own_i32 (k := 1) q))
  · exact .inr (.inr (.inl (own_i32 (k := 2) q)))
  · exact .inr (.inr (.inr (own_i32 (k := 3) q)))
theorem own_in5 {x : Int32} (h : 0 ≤ x.toInt ∧ x.toInt < 5) : x = 0 ∨ x = 1 ∨ x = 2 ∨ x = 3 ∨ x = 4 := by
  rcases (by omega : x.toInt = 0 ∨ x.toInt = 1 ∨ x.toInt = 2 ∨ x.toInt = 3 ∨ x.toInt = 4) with q | q | q | q | q
  · exact .inl (own_i32 (k := 0) q)
  · exact .inr (.inl (own_i32 (k := 1) q))
  · exact .inr (.inr (.inl (own_i32 (k := 2) q)))
  · exact .inr (.inr (.inr (.inl (own_i32 (k := 3) q))))
  · exact .inr (.inr (.inr (.inr (own_i32 (k := 4) q))))
theorem own_in6 {x : Int32} (h : 0 ≤ x.toInt ∧ x.toInt < 6) : x = 0 ∨ x = 1 ∨ x = 2 ∨ x = 3 ∨ x = 4 ∨ x = 5 := by
  rcases (by omega : x.toInt = 0 ∨ x.toInt = 1 ∨ x.toInt = 2 ∨ x.toInt = 3 ∨ x.toInt = 4 ∨ x.toInt = 5) with q | q | q | q | q | q
  · exact .inl (own_i32 (k := 0) q)
  · exact .inr (.inl (own_i32 (k := 1) q))
  · exact .inr (.inr (.inl (own_i32 (k := 2) q)))
  · exact .inr (.inr (.inr (.inl (own_i32 (k := 3) q))))
  · exact .inr (.inr (.inr (.inr (.inl (own_i32 (k := 4) q)))))
  · exact .inr (.inr (.inr (.inr (.inr (own_i32 (k := 5) q)))))
theorem own_in7 {x : Int32} (h : 0 ≤ x.toInt ∧ x.toInt < 7) : x = 0 ∨ x = 1 ∨ x = 2 ∨ x = 3 ∨ x = 4 ∨ x = 5 ∨ x = 6 := by
  rcases (by omega : x.toInt = 0 ∨ x.toInt = 1 ∨ x.toInt = 2 ∨ x.toInt = 3 ∨ x.toInt = 4 ∨ x.toInt = 5 ∨ x.toInt = 6) with q | q | q | q | q | q | q
  · exact .inl (own_i32 (k := 0) q)
  · exact .inr (.inl (own_i32 (k := 1) q))
  · exact .inr (.inr (.inl (own_i32 (k := 2) q)))
  · exact .inr (.inr (.inr (.inl (own_i32 (k := 3) q))))
  · exact .inr (.inr (.inr (.inr (.inl (own_i32 (k := 4) q)))))
  · exact .inr (.inr (.inr (.inr (.inr (.inl (own_i32 (k := 5) q))))))
  · exact .inr (.inr (.inr (.inr (.inr (.inr (own_i32 (k := 6) q))))))
theorem own_ef0 (m : MethodId) (x0 : Int32) : entryFrame m #[(.int x0)] maxLocals = mkF m 0 #[.val (.int x0), .unset, .unset, .unset] [] := by first | (simp [entryFrame, mkF, argsToLocals, Value.category, maxLocals]; done) | rfl
theorem own_ef1 (m : MethodId) (x0 : Addr) : entryFrame m #[(.ref x0)] 1 = mkF m 0 #[.val (.ref x0)] [] := by first | (simp [entryFrame, mkF, argsToLocals, Value.category]; done) | rfl
theorem dd0_0 : decode prog_34_method_5_code 0 = .ok (.aload_n 0, 1) := by decide +kernel
theorem dd0_1 : decode prog_34_method_5_code 1 = .ok (.getstatic 3, 3) := by decide +kernel
theorem dd0_4 : decode prog_34_method_5_code 4 = .ok (.if_acmp .eq 7, 3) := by decide +kernel
theorem dd0_11 : decode prog_34_method_5_code 11 = .ok (.iconst 0, 1) := by decide +kernel
theorem dd0_12 : decode prog_34_method_5_code 12 = .ok (.ireturn, 1) := by decide +kernel
def own_Q2 (Z : State) (ob_2 : Addr) (h0 : Heap) (n0 : Nat) (v : Option Value) (h : Heap) (L : List Loc) : Prop := (v = some (.int 0) ∧ Fr n0 L ∧ h = h0)
theorem own_pn0 : plainName "com/example/vestibule/vestibule/core/Role" = true := by first | (simp [plainName, overriddenIn]; done) | decide +kernel
set_option maxRecDepth 65536 in
set_option maxHeartbeats 40000000 in
theorem own_rm2 (l : Launch) (Z : State) (a0 : Array Value) (hw : ∀ d ∈ tables_1, d.before a0 Z = true) (ws : List Jvm.Cond) (ob_2 : Addr) (h0 : Heap) (n0 : Nat) (Z0 : n0 ≤ h0.size) (O0 : Old Z n0 h0) (I14 : Sta Z Z.heap "com/example/vestibule/vestibule/core/Role" "DEPOSITOR" "Lcom/example/vestibule/vestibule/core/Role;" (.ref ob_2)) :
    own_Met l Z h0 (⟨"com/example/vestibule/vestibule/core/Role", "curates", "()Z"⟩ : MethodName) prog_34_method_5_code 1 (Option.some FieldType.boolean) ws ({ frames := 0, cells := 0, slots := 0, locals := 0 } : Room) #[(.ref ob_2)] (own_Q2 Z ob_2 h0 n0) 0 0 := by
  refine MetFree.of_bodySF (plainFor_of_name own_pn0) hisR ?_
  intro p e s m args below meth c s₁ Bd hml0 hP hK
  obtain ⟨rfl, hZ, hh⟩ := hP
  have hx := Bd.exec
  have hby := Bd.bytes
  have hml : c.maxLocals = 1 := hml0
  have hown : s.vm.findClass "com/example/vestibule/vestibule/core/Role" = some m.cls := findClass_of_methodNamed Bd.named
  have hnm := (name_of_methodNamed Bd.named Bd.method).1
  have X0 : Stand p l e ({ frames := 0, cells := 0, slots := 0, locals := 0 } : Room) s m #[(.ref ob_2)] below meth c s₁ [] 0 0 := Stand.of_body Bd
  have e0 : s₁.heap = h0 := by rw [← hh, Bd.state]; rfl
  have N0 := Fr.nil n0
  show own_G p e below (s₁.setTop (entryFrame m #[(.ref ob_2)] 1)) (own_P s (own_Q2 Z ob_2 h0 n0) 0 0)
  refine own_cast (own_ef1 m ob_2) ?_
  show own_G p e below (s₁.setTop (mkF m 0 #[rv ob_2] [])) _
  refine oS (fun _ => XS.aloadN X0.here hx rfl (hb hby dd0_0) rfl rfl) ?_
  have F15 : Sta Z h0 "com/example/vestibule/vestibule/core/Role" "DEPOSITOR" "Lcom/example/vestibule/vestibule/core/Role;" (.ref ob_2) := Sta.ext O0.2 I14
  obtain ⟨T16, X17, e18, s19⟩ := getS X0 hx hZ hown (host := "") (oW hw 9 rfl) Via.refl e0 F15 (g := (mkF m 1 #[rv ob_2] [(.ref ob_2)])) rfl (hb hby dd0_1)
  refine oS s19 ?_
  show own_G p e below (T16.setTop (mkF m 4 #[rv ob_2] [(.ref ob_2), (.ref ob_2)])) _
  refine oS (fun _ => XT.acmpYes X17.here hx rfl (pc0 := 4) (pc' := 11) rfl (hb hby dd0_4) rfl rfl rfl (XT.aa_eq_t rfl) (by decide) (by decide)) ?_
  show own_G p e below (T16.setTop (mkF m 11 #[rv ob_2] [])) _
  refine oS (fun _ => XS.iconst X17.here hx rfl (hb hby dd0_11) ) ?_
  exact own_retN X17 hx (t := .boolean) Bd.notSynchronized Bd.returns (by simp) (hb hby dd0_12) (by decide) e18 (by decide) (by decide) (⟨rfl, N0, rfl⟩)
theorem own_pd0 : parseMethodDescriptor "()Z" = some ⟨[], (some .boolean)⟩ := by decide +kernel
theorem dd0_7 : decode prog_34_method_5_code 7 = .ok (.iconst 1, 1) := by decide +kernel
theorem dd0_8 : decode prog_34_method_5_code 8 = .ok (.goto 4, 3) := by decide +kernel
def own_Q3 (Z : State) (ob_4 : Addr) (ob_2 : Addr) (h0 : Heap) (n0 : Nat) (v : Option Value) (h : Heap) (L : List Loc) : Prop := (v = some (.int 1) ∧ Fr n0 L ∧ h = h0)
set_option maxRecDepth 65536 in
set_option maxHeartbeats 40000000 in
theorem own_rm3 (l : Launch) (Z : State) (a0 : Array Value) (hw : ∀ d ∈ tables_1, d.before a0 Z = true) (ws : List Jvm.Cond) (ob_4 : Addr) (ob_2 : Addr) (h0 : Heap) (n0 : Nat) (Z0 : n0 ≤ h0.size) (O0 : Old Z n0 h0) (I40 : Sta Z Z.heap "com/example/vestibule/vestibule/core/Role" "DEPOSITOR" "Lcom/example/vestibule/vestibule/core/Role;" (.ref ob_2)) (I51 : ob_4 ≠ ob_2) :
    own_Met l Z h0 (⟨"com/example/vestibule/vestibule/core/Role", "curates", "()Z"⟩ : MethodName) prog_34_method_5_code 1 (Option.some FieldType.boolean) ws ({ frames := 0, cells := 0, slots := 0, locals := 0 } : Room) #[(.ref ob_4)] (own_Q3 Z ob_4 ob_2 h0 n0) 0 0 := by
  refine MetFree.of_bodySF (plainFor_of_name own_pn0) hisR ?_
  intro p e s m args below meth c s₁ Bd hml0 hP hK
  obtain ⟨rfl, hZ, hh⟩ := hP
  have hx := Bd.exec
  have hby := Bd.bytes
  have hml : c.maxLocals = 1 := hml0
  have hown : s.vm.findClass "com/example/vestibule/vestibule/core/Role" = some m.cls := findClass_of_methodNamed Bd.named
  have hnm := (name_of_methodNamed Bd.named Bd.method).1
  have X0 : Stand p l e ({ frames := 0, cells := 0, slots := 0, locals := 0 } : Room) s m #[(.ref ob_4)] below meth c s₁ [] 0 0 := Stand.of_body Bd
  have e0 : s₁.heap = h0 := by rw [← hh, Bd.state]; rfl
  have N0 := Fr.nil n0
  show own_G p e below (s₁.setTop (entryFrame m #[(.ref ob_4)] 1)) (own_P s (own_Q3 Z ob_4 ob_2 h0 n0) 0 0)
  refine own_cast (own_ef1 m ob_4) ?_
  show own_G p e below (s₁.setTop (mkF m 0 #[rv ob_4] [])) _
  refine oS (fun _ => XS.aloadN X0.here hx rfl (hb hby dd0_0) rfl rfl) ?_
  have F41 : Sta Z h0 "com/example/vestibule/vestibule/core/Role" "DEPOSITOR" "Lcom/example/vestibule/vestibule/core/Role;" (.ref ob_2) := Sta.ext O0.2 I40
  obtain ⟨T42, X43, e44, s45⟩ := getS X0 hx hZ hown (host := "") (oW hw 9 rfl) Via.refl e0 F41 (g := (mkF m 1 #[rv ob_4] [(.ref ob_4)])) rfl (hb hby dd0_1)
  refine oS s45 ?_
  show own_G p e below (T42.setTop (mkF m 4 #[rv ob_4] [(.ref ob_2), (.ref ob_4)])) _
  refine oS (fun _ => XT.acmpNo X43.here hx rfl (hb hby dd0_4) rfl rfl rfl (XT.aa_eq_f (own_rne I51))) ?_
  show own_G p e below (T42.setTop (mkF m 7 #[rv ob_4] [])) _
  refine oS (fun _ => XS.iconst X43.here hx rfl (hb hby dd0_7) ) ?_
  refine oS (fun _ => XS.goto X43.here hx rfl (pc0 := 8) (pc' := 12) rfl (hb hby dd0_8) (by decide) (by decide)) ?_
  show own_G p e below (T42.setTop (mkF m 12 #[rv ob_4] [(.int 1)])) _
  exact own_retN X43 hx (t := .boolean) Bd.notSynchronized Bd.returns (by simp) (hb hby dd0_12) (by decide) e44 (by decide) (by decide) (⟨rfl, N0, rfl⟩)
def own_Q1 (Z : State) (in_1 : Int32) (ob_2 : Addr) (ob_4 : Addr) (ob_3 : Addr) (h0 : Heap) (n0 : Nat) (v : Option Value) (h : Heap) (L : List Loc) : Prop := (v = some (.int 1) ∧ Fr n0 L)
theorem own_pn1 : plainName "com/example/vestibule/vestibule/core/RoleCuratesPinLaw" = true := by first | (simp [plainName, overriddenIn]; done) | decide +kernel
set_option maxRecDepth 65536 in
set_option maxHeartbeats 40000000 in
theorem own_rm1 (l : Launch) (Z : State) (a0 : Array Value) (hw : ∀ d ∈ tables_1, d.before a0 Z = true) (ws : List Jvm.Cond) (in_1 : Int32) (ob_2 : Addr) (ob_4 : Addr) (ob_3 : Addr) (h0 : Heap) (n0 : Nat) (Z0 : n0 ≤ h0.size) (O0 : Old Z n0 h0) (I8 : Sta Z Z.heap "com/example/vestibule/vestibule/core/Role" "DEPOSITOR" "Lcom/example/vestibule/vestibule/core/Role;" (.ref ob_2)) (I28 : Exa Z Z.heap ob_2 "com/example/vestibule/vestibule/core/Role") (I34 : Sta Z Z.heap "com/example/vestibule/vestibule/core/Role" "CURATOR" "Lcom/example/vestibule/vestibule/core/Role;" (.ref ob_4)) (I46 : Fld Z Z.heap ob_4 "java/lang/Enum" "ordinal" "I" (.int 1)) (I48 : Fld Z Z.heap ob_2 "java/lang/Enum" "ordinal" "I" (.int 0)) (I60 : Exa Z Z.heap ob_4 "com/example/vestibule/vestibule/core/Role") (I66 : Sta Z Z.heap "com/example/vestibule/vestibule/core/Role" "ADMIN" "Lcom/example/vestibule/vestibule/core/Role;" (.ref ob_3)) (I72 : Fld Z Z.heap ob_3 "java/lang/Enum" "ordinal" "I" (.int 2)) (I84 : Exa Z Z.heap ob_3 "com/example/vestibule/vestibule/core/Role") :
    own_Met l Z h0 x code maxLocals ret ws room_1 #[(.int in_1)] (own_Q1 Z in_1 ob_2 ob_4 ob_3 h0 n0) 0 0 := by
  refine MetFree.of_bodySF (plainFor_of_name own_pn1) hisR ?_
  intro p e s m args below meth c s₁ Bd hml0 hP hK
  obtain ⟨rfl, hZ, hh⟩ := hP
  have hx := Bd.exec
  have hby := Bd.bytes
  have hml : c.maxLocals = 4 := hml0
  have hown : s.vm.findClass "com/example/vestibule/vestibule/core/RoleCuratesPinLaw" = some m.cls := findClass_of_methodNamed Bd.named
  have hnm := (name_of_methodNamed Bd.named Bd.method).1
  have X0 : Stand p l e room_1 s m #[(.int in_1)] below meth c s₁ [] 0 0 := Stand.of_body Bd
  have e0 : s₁.heap = h0 := by rw [← hh, Bd.state]; rfl
  have N0 := Fr.nil n0
  show own_G p e below (s₁.setTop (entryFrame m #[(.int in_1)] maxLocals)) (own_P s (own_Q1 Z in_1 ob_2 ob_4 ob_3 h0 n0) 0 0)
  refine own_cast (own_ef0 m in_1) ?_
  show own_G p e below (s₁.setTop (mkF m 0 #[iv in_1, .unset, .unset, .unset] [])) _
  refine oS (fun _ => XS.iloadN X0.here hx rfl (hb hby at_0) rfl) ?_
  refine oS (fun _ => X0.ldcI hx hown (mvT hZ (oW hw 0 rfl)) rfl (hb hby at_1)) ?_
  show own_G p e below (s₁.setTop (mkF m 3 #[iv in_1, .unset, .unset, .unset] [(.int 2147483647), (.int in_1)])) _
  refine oS (fun _ => XS.iand X0.here hx rfl (hb hby at_3) rfl) ?_
  refine oS (fun _ => XS.iconst X0.here hx rfl (hb hby at_4) ) ?_
  refine oS (fun _ => iremM X0 hx rfl (hb hby at_5) rfl (by decide)) ?_
  show own_G p e below (s₁.setTop (mkF m 6 #[iv in_1, .unset, .unset, .unset] [(.int ((in_1 &&& 2147483647) % 3))])) _
  rcases own_in3 (own_modlt in_1 3 (by decide)) with q5 | q6 | q7
  · skip
    refine own_cast (g' := (mkF m 6 #[iv in_1, .unset, .unset, .unset] [(.int 0)])) (by rw [q5]) ?_
    show own_G p e below (s₁.setTop (mkF m 6 #[iv in_1, .unset, .unset, .unset] [(.int 0)])) _
    refine oS (fun _ => XS.istoreN X0.here hx rfl (hb hby at_6) rfl (l' := #[iv in_1, iv 0, .unset, .unset]) rfl) ?_
    refine oS (fun _ => XS.iloadN X0.here hx rfl (hb hby at_7) rfl) ?_
    refine oS (fun _ => XS.ifNo X0.here hx rfl (hb hby at_8) rfl (XT.i0_ne_f (by decide))) ?_
    show own_G p e below (s₁.setTop (mkF m 11 #[iv in_1, iv 0, .unset, .unset] [])) _
    have F9 : Sta Z h0 "com/example/vestibule/vestibule/core/Role" "DEPOSITOR" "Lcom/example/vestibule/vestibule/core/Role;" (.ref ob_2) := Sta.ext O0.2 I8
    obtain ⟨T10, X11, e12, s13⟩ := getS X0 hx hZ hown (host := "") (oW hw 1 rfl) Via.refl e0 F9 (g := (mkF m 11 #[iv in_1, iv 0, .unset, .unset] [])) rfl (hb hby at_11)
    refine oS s13 ?_
    show own_G p e below (T10.setTop (mkF m 14 #[iv in_1, iv 0, .unset, .unset] [(.ref ob_2)])) _
    refine oS (fun _ => XS.astoreN X11.here hx rfl (hb hby at_14) rfl rfl (l' := #[iv in_1, iv 0, rv ob_2, .unset]) rfl) ?_
    refine oS (fun _ => XS.goto X11.here hx rfl (pc0 := 15) (pc' := 34) rfl (hb hby at_15) (by decide) (by decide)) ?_
    show own_G p e below (T10.setTop (mkF m 34 #[iv in_1, iv 0, rv ob_2, .unset] [])) _
    refine oS (fun _ => XS.iloadN X11.here hx rfl (hb hby at_34) rfl) ?_
    refine oS (fun _ => XS.ifNo X11.here hx rfl (hb hby at_35) rfl (XT.i0_ne_f (by decide))) ?_
    show own_G p e below (T10.setTop (mkF m 38 #[iv in_1, iv 0, rv ob_2, .unset] [])) _
    refine oS (fun _ => XS.iconst X11.here hx rfl (hb hby at_38) ) ?_
    refine oS (fun _ => XS.istoreN X11.here hx rfl (hb hby at_39) rfl (l' := #[iv in_1, iv 0, rv ob_2, iv 0]) rfl) ?_
    refine oS (fun _ => XS.goto X11.here hx rfl (pc0 := 40) (pc' := 55) rfl (hb hby at_40) (by decide) (by decide)) ?_
    show own_G p e below (T10.setTop (mkF m 55 #[iv in_1, iv 0, rv ob_2, iv 0] [])) _
    refine oS (fun _ => XS.aloadN X11.here hx rfl (hb hby at_55) rfl rfl) ?_
    have F29 : Exa Z h0 ob_2 "com/example/vestibule/vestibule/core/Role" := Exa.ext O0.2 I28
    obtain ⟨T20, h21, v22, L23, X24, e25, q26, s27⟩ := own_callV X11 hx hZ hown e12 (y := (⟨"com/example/vestibule/vestibule/core/Role", "curates", "()Z"⟩ : MethodName)) (z := (⟨"com/example/vestibule/vestibule/core/Role", "curates", "()Z"⟩ : MethodName)) (C := "com/example/vestibule/vestibule/core/Role") (b := ob_2) (oW hw 4 rfl) (oW hw 5 rfl) (notFace_of_selects (args := #[]) (mvT hZ (oW hw 7 rfl))) (oW hw 7 rfl) (oW hw 6 rfl) (oW hw 2 rfl) (oW hw 8 rfl) (by decide) F29 (W := 0) (own_rm2 l Z a0 hw [] ob_2 h0 n0 Z0 O0 I8) (by decide) (by decide) (by decide) (by decide) (g := (mkF m 56 #[iv in_1, iv 0, rv ob_2, iv 0] [(.ref ob_2)])) rfl (by rw [hml]; rfl) (argsL := []) (rest := []) rfl (lenOf own_pd0 rfl) rfl (by show 2 * 0 + _ ≤ _; exact Nat.le_of_eq rfl) (hb hby at_56)
    refine oS s27 ?_
    obtain ⟨rfl, N30, K31⟩ := q26
    have N32 := Fr.app N0 N30
    have e33 := e25.trans K31
    show own_G p e below (T20.setTop (mkF m 59 #[iv in_1, iv 0, rv ob_2, iv 0] [(.int 0)])) _
    refine oS (fun _ => XS.iloadN X24.here hx rfl (hb hby at_59) rfl) ?_
    refine oS (fun _ => XS.icmpNo X24.here hx rfl (hb hby at_60) rfl (XT.ii_ne_f (by decide))) ?_
    show own_G p e below (T20.setTop (mkF m 63 #[iv in_1, iv 0, rv ob_2, iv 0] [])) _
    refine oS (fun _ => XS.iconst X24.here hx rfl (hb hby at_63) ) ?_
    refine oS (fun _ => XS.goto X24.here hx rfl (pc0 := 64) (pc' := 68) rfl (hb hby at_64) (by decide) (by decide)) ?_
    show own_G p e below (T20.setTop (mkF m 68 #[iv in_1, iv 0, rv ob_2, iv 0] [(.int 1)])) _
    exact own_retN X24 hx (t := .boolean) Bd.notSynchronized Bd.returns (by simp) (hb hby at_68) (by decide) e33 (by decide) (by decide) (⟨rfl, N32⟩)
  · skip
    refine own_cast (g' := (mkF m 6 #[iv in_1, .unset, .unset, .unset] [(.int 1)])) (by rw [q6]) ?_
    show own_G p e below (s₁.setTop (mkF m 6 #[iv in_1, .unset, .unset, .unset] [(.int 1)])) _
    refine oS (fun _ => XS.istoreN X0.here hx rfl (hb hby at_6) rfl (l' := #[iv in_1, iv 1, .unset, .unset]) rfl) ?_
    refine oS (fun _ => XS.iloadN X0.here hx rfl (hb hby at_7) rfl) ?_
    refine oS (fun _ => XS.ifYes X0.here hx rfl (pc0 := 8) (pc' := 18) rfl (hb hby at_8) rfl (XT.i0_ne_t (by decide)) (by decide) (by decide)) ?_
    show own_G p e below (s₁.setTop (mkF m 18 #[iv in_1, iv 1, .unset, .unset] [])) _
    refine oS (fun _ => XS.iloadN X0.here hx rfl (hb hby at_18) rfl) ?_
    refine oS (fun _ => XS.iconst X0.here hx rfl (hb hby at_19) ) ?_
    refine oS (fun _ => XS.icmpNo X0.here hx rfl (hb hby at_20) rfl (XT.ii_ne_f (by decide))) ?_
    show own_G p e below (s₁.setTop (mkF m 23 #[iv in_1, iv 1, .unset, .unset] [])) _
    have F35 : Sta Z h0 "com/example/vestibule/vestibule/core/Role" "CURATOR" "Lcom/example/vestibule/vestibule/core/Role;" (.ref ob_4) := Sta.ext O0.2 I34
    obtain ⟨T36, X37, e38, s39⟩ := getS X0 hx hZ hown (host := "") (oW hw 12 rfl) Via.refl e0 F35 (g := (mkF m 23 #[iv in_1, iv 1, .unset, .unset] [])) rfl (hb hby at_23)
    refine oS s39 ?_
    show own_G p e below (T36.setTop (mkF m 26 #[iv in_1, iv 1, .unset, .unset] [(.ref ob_4)])) _
    refine oS (fun _ => XS.astoreN X37.here hx rfl (hb hby at_26) rfl rfl (l' := #[iv in_1, iv 1, rv ob_4, .unset]) rfl) ?_
    refine oS (fun _ => XS.goto X37.here hx rfl (pc0 := 27) (pc' := 34) rfl (hb hby at_27) (by decide) (by decide)) ?_
    show own_G p e below (T36.setTop (mkF m 34 #[iv in_1, iv 1, rv ob_4, .unset] [])) _
    refine oS (fun _ => XS.iloadN X37.here hx rfl (hb hby at_34) rfl) ?_
    refine oS (fun _ => XS.ifYes X37.here hx rfl (pc0 := 35) (pc' := 43) rfl (hb hby at_35) rfl (XT.i0_ne_t (by decide)) (by decide) (by decide)) ?_
    show own_G p e below (T36.setTop (mkF m 43 #[iv in_1, iv 1, rv ob_4, .unset] [])) _
    refine oS (fun _ => XS.iloadN X37.here hx rfl (hb hby at_43) rfl) ?_
    refine oS (fun _ => XS.iconst X37.here hx rfl (hb hby at_44) ) ?_
    refine oS (fun _ => XS.icmpNo X37.here hx rfl (hb hby at_45) rfl (XT.ii_ne_f (by decide))) ?_
    show own_G p e below (T36.setTop (mkF m 48 #[iv in_1, iv 1, rv ob_4, .unset] [])) _
    refine oS (fun _ => XS.iconst X37.here hx rfl (hb hby at_48) ) ?_
    refine oS (fun _ => XS.istoreN X37.here hx rfl (hb hby at_49) rfl (l' := #[iv in_1, iv 1, rv ob_4, iv 1]) rfl) ?_
    refine oS (fun _ => XS.goto X37.here hx rfl (pc0 := 50) (pc' := 55) rfl (hb hby at_50) (by decide) (by decide)) ?_
    show own_G p e below (T36.setTop (mkF m 55 #[iv in_1, iv 1, rv ob_4, iv 1] [])) _
    refine oS (fun _ => XS.aloadN X37.here hx rfl (hb hby at_55) rfl rfl) ?_
    have F47 : Fld Z h0 ob_4 "java/lang/Enum" "ordinal" "I" (.int 1) := Fld.ext O0.2 I46
    have F49 : Fld Z h0 ob_2 "java/lang/Enum" "ordinal" "I" (.int 0) := Fld.ext O0.2 I48
    have N50 : ob_4 ≠ ob_2 := F47.ne F49 (by decide)
    have F61 : Exa Z h0 ob_4 "com/example/vestibule/vestibule/core/Role" := Exa.ext O0.2 I60
    obtain ⟨T52, h53, v54, L55, X56, e57, q58, s59⟩ := own_callV X37 hx hZ hown e38 (y := (⟨"com/example/vestibule/vestibule/core/Role", "curates", "()Z"⟩ : MethodName)) (z := (⟨"com/example/vestibule/vestibule/core/Role", "curates", "()Z"⟩ : MethodName)) (C := "com/example/vestibule/vestibule/core/Role") (b := ob_4) (oW hw 4 rfl) (oW hw 5 rfl) (notFace_of_selects (args := #[]) (mvT hZ (oW hw 7 rfl))) (oW hw 7 rfl) (oW hw 6 rfl) (oW hw 2 rfl) (oW hw 8 rfl) (by decide) F61 (W := 0) (own_rm3 l Z a0 hw [] ob_4 ob_2 h0 n0 Z0 O0 I8 N50) (by decide) (by decide) (by decide) (by decide) (g := (mkF m 56 #[iv in_1, iv 1, rv ob_4, iv 1] [(.ref ob_4)])) rfl (by rw [hml]; rfl) (argsL := []) (rest := []) rfl (lenOf own_pd0 rfl) rfl (by show 2 * 0 + _ ≤ _; exact Nat.le_of_eq rfl) (hb hby at_56)
    refine oS s59 ?_
    obtain ⟨rfl, N62, K63⟩ := q58
    have N64 := Fr.app N0 N62
    have e65 := e57.trans K63
    show own_G p e below (T52.setTop (mkF m 59 #[iv in_1, iv 1, rv ob_4, iv 1] [(.int 1)])) _
    refine oS (fun _ => XS.iloadN X56.here hx rfl (hb hby at_59) rfl) ?_
    refine oS (fun _ => XS.icmpNo X56.here hx rfl (hb hby at_60) rfl (XT.ii_ne_f (by decide))) ?_
    show own_G p e below (T52.setTop (mkF m 63 #[iv in_1, iv 1, rv ob_4, iv 1] [])) _
    refine oS (fun _ => XS.iconst X56.here hx rfl (hb hby at_63) ) ?_
    refine oS (fun _ => XS.goto X56.here hx rfl (pc0 := 64) (pc' := 68) rfl (hb hby at_64) (by decide) (by decide)) ?_
    show own_G p e below (T52.setTop (mkF m 68 #[iv in_1, iv 1, rv ob_4, iv 1] [(.int 1)])) _
    exact own_retN X56 hx (t := .boolean) Bd.notSynchronized Bd.returns (by simp) (hb hby at_68) (by decide) e65 (by decide) (by decide) (⟨rfl, N64⟩)
  · skip
    refine own_cast (g' := (mkF m 6 #[iv in_1, .unset, .unset, .unset] [(.int 2)])) (by rw [q7]) ?_
    show own_G p e below (s₁.setTop (mkF m 6 #[iv in_1, .unset, .unset, .unset] [(.int 2)])) _
    refine oS (fun _ => XS.istoreN X0.here hx rfl (hb hby at_6) rfl (l' := #[iv in_1, iv 2, .unset, .unset]) rfl) ?_
    refine oS (fun _ => XS.iloadN X0.here hx rfl (hb hby at_7) rfl) ?_
    refine oS (fun _ => XS.ifYes X0.here hx rfl (pc0 := 8) (pc' := 18) rfl (hb hby at_8) rfl (XT.i0_ne_t (by decide)) (by decide) (by decide)) ?_
    show own_G p e below (s₁.setTop (mkF m 18 #[iv in_1, iv 2, .unset, .unset] [])) _
    refine oS (fun _ => XS.iloadN X0.here hx rfl (hb hby at_18) rfl) ?_
    refine oS (fun _ => XS.iconst X0.here hx rfl (hb hby at_19) ) ?_
    refine oS (fun _ => XS.icmpYes X0.here hx rfl (pc0 := 20) (pc' := 30) rfl (hb hby at_20) rfl (XT.ii_ne_t (by decide)) (by decide) (by decide)) ?_
    show own_G p e below (s₁.setTop (mkF m 30 #[iv in_1, iv 2, .unset, .unset] [])) _
    have F67 : Sta Z h0 "com/example/vestibule/vestibule/core/Role" "ADMIN" "Lcom/example/vestibule/vestibule/core/Role;" (.ref ob_3) := Sta.ext O0.2 I66
    obtain ⟨T68, X69, e70, s71⟩ := getS X0 hx hZ hown (host := "") (oW hw 10 rfl) Via.refl e0 F67 (g := (mkF m 30 #[iv in_1, iv 2, .unset, .unset] [])) rfl (hb hby at_30)
    refine oS s71 ?_
    show own_G p e below (T68.setTop (mkF m 33 #[iv in_1, iv 2, .unset, .unset] [(.ref ob_3)])) _
    refine oS (fun _ => XS.astoreN X69.here hx rfl (hb hby at_33) rfl rfl (l' := #[iv in_1, iv 2, rv ob_3, .unset]) rfl) ?_
    refine oS (fun _ => XS.iloadN X69.here hx rfl (hb hby at_34) rfl) ?_
    refine oS (fun _ => XS.ifYes X69.here hx rfl (pc0 := 35) (pc' := 43) rfl (hb hby at_35) rfl (XT.i0_ne_t (by decide)) (by decide) (by decide)) ?_
    show own_G p e below (T68.setTop (mkF m 43 #[iv in_1, iv 2, rv ob_3, .unset] [])) _
    refine oS (fun _ => XS.iloadN X69.here hx rfl (hb hby at_43) rfl) ?_
    refine oS (fun _ => XS.iconst X69.here hx rfl (hb hby at_44) ) ?_
    refine oS (fun _ => XS.icmpYes X69.here hx rfl (pc0 := 45) (pc' := 53) rfl (hb hby at_45) rfl (XT.ii_ne_t (by decide)) (by decide) (by decide)) ?_
    show own_G p e below (T68.setTop (mkF m 53 #[iv in_1, iv 2, rv ob_3, .unset] [])) _
    refine oS (fun _ => XS.iconst X69.here hx rfl (hb hby at_53) ) ?_
    refine oS (fun _ => XS.istoreN X69.here hx rfl (hb hby at_54) rfl (l' := #[iv in_1, iv 2, rv ob_3, iv 1]) rfl) ?_
    refine oS (fun _ => XS.aloadN X69.here hx rfl (hb hby at_55) rfl rfl) ?_
    have F73 : Fld Z h0 ob_3 "java/lang/Enum" "ordinal" "I" (.int 2) := Fld.ext O0.2 I72
    have F74 : Fld Z h0 ob_2 "java/lang/Enum" "ordinal" "I" (.int 0) := Fld.ext O0.2 I48
    have N75 : ob_3 ≠ ob_2 := F73.ne F74 (by decide)
    have F85 : Exa Z h0 ob_3 "com/example/vestibule/vestibule/core/Role" := Exa.ext O0.2 I84
    obtain ⟨T76, h77, v78, L79, X80, e81, q82, s83⟩ := own_callV X69 hx hZ hown e70 (y := (⟨"com/example/vestibule/vestibule/core/Role", "curates", "()Z"⟩ : MethodName)) (z := (⟨"com/example/vestibule/vestibule/core/Role", "curates", "()Z"⟩ : MethodName)) (C := "com/example/vestibule/vestibule/core/Role") (b := ob_3) (oW hw 4 rfl) (oW hw 5 rfl) (notFace_of_selects (args := #[]) (mvT hZ (oW hw 7 rfl))) (oW hw 7 rfl) (oW hw 6 rfl) (oW hw 2 rfl) (oW hw 8 rfl) (by decide) F85 (W := 0) (own_rm3 l Z a0 hw [] ob_3 ob_2 h0 n0 Z0 O0 I8 N75) (by decide) (by decide) (by decide) (by decide) (g := (mkF m 56 #[iv in_1, iv 2, rv ob_3, iv 1] [(.ref ob_3)])) rfl (by rw [hml]; rfl) (argsL := []) (rest := []) rfl (lenOf own_pd0 rfl) rfl (by show 2 * 0 + _ ≤ _; exact Nat.le_of_eq rfl) (hb hby at_56)
    refine oS s83 ?_
    obtain ⟨rfl, N86, K87⟩ := q82
    have N88 := Fr.app N0 N86
    have e89 := e81.trans K87
    show own_G p e below (T76.setTop (mkF m 59 #[iv in_1, iv 2, rv ob_3, iv 1] [(.int 1)])) _
    refine oS (fun _ => XS.iloadN X80.here hx rfl (hb hby at_59) rfl) ?_
    refine oS (fun _ => XS.icmpNo X80.here hx rfl (hb hby at_60) rfl (XT.ii_ne_f (by decide))) ?_
    show own_G p e below (T76.setTop (mkF m 63 #[iv in_1, iv 2, rv ob_3, iv 1] [])) _
    refine oS (fun _ => XS.iconst X80.here hx rfl (hb hby at_63) ) ?_
    refine oS (fun _ => XS.goto X80.here hx rfl (pc0 := 64) (pc' := 68) rfl (hb hby at_64) (by decide) (by decide)) ?_
    show own_G p e below (T76.setTop (mkF m 68 #[iv in_1, iv 2, rv ob_3, iv 1] [(.int 1)])) _
    exact own_retN X80 hx (t := .boolean) Bd.notSynchronized Bd.returns (by simp) (hb hby at_68) (by decide) e89 (by decide) (by decide) (⟨rfl, N88⟩)
set_option maxRecDepth 65536 in
set_option maxHeartbeats 40000000 in
theorem comes_1 {Post : Tables → Env → Array Value → State → Outcome → State → Prop} (hpost : ∀ tb e args s v u, (limb_1_1.after args s (.returned v) u = true ∧ limb_1_2.after args s (.returned v) u = true ∧ True) → FrameEnd s (.returned v) u (Jvm.fieldLocs frame_1_writes args s ++ Jvm.arrayLocs frame_1_arrays args s ++ Jvm.staticLocs frame_1_statics s) 0 0 → Post tb e args s (.returned v) u) :
    ArmFor flags0 classFile x code maxLocals ret World_1 tables_1 room_1 Calls_1 rest_1 Pre_1 Post := by
  intro l hfl _ _ p e ha hc hk s m args below hf hA hF happ hP
  obtain ⟨hcalls, hrest, hpre⟩ := hP
  obtain ⟨-, -, -, hnamed, -, -, -, hat⟩ := (Spec.applies_iff hf).mp happ
  obtain ⟨hg, hn⟩ := and_e (Cond.before_iff.mp (show (Jvm.Cond.and given_1 narrow_1).before args s = true from hpre))
  obtain ⟨g0, gg0⟩ := and_e hg
  obtain ⟨w0, rfl⟩ : ∃ w0 : Value, args = #[w0] := by
    have hs : args.size = 1 := by simpa [Cond.value, given_1] using g0
    obtain ⟨L⟩ := args
    match L, hs with
    | [w0], _ => exact ⟨w0, rfl⟩
  have hw := fun d (hd : d ∈ tables_1) => atoms_spec (ws := Jvm.Cond.code x code maxLocals ret :: tables_1) hat d (List.mem_cons_of_mem _ hd)
  have hfit : Fit s := fun {y c} hc i hi => by
    obtain ⟨ha, rfl⟩ := Array.getElem?_eq_some_iff.mp hc
    have q := List.all_eq_true.mp ((Array.all_eq_true_iff_forall_mem.mp hF) _ (Array.getElem_mem ha)) i (List.mem_range.mpr hi)
    simpa [Array.getElem?_eq_getElem hi] using q
  obtain ⟨in_1, ea0⟩ := is_v gg0
  obtain rfl : w0 = (.int in_1) := Option.some.inj ea0
  obtain ⟨c0, r0⟩ := and_e hn
  obtain ⟨c1, r1⟩ := and_e r0
  obtain ⟨c2, r2⟩ := and_e r1
  obtain ⟨c3, r3⟩ := and_e r2
  obtain ⟨c4, c5⟩ := and_e r3
  obtain ⟨ob_2, ev_ob_2⟩ := exa_v c0
  obtain ⟨ob_3, ev_ob_3⟩ := exa_v c1
  obtain ⟨ob_4, ev_ob_4⟩ := exa_v c4
  obtain ⟨n, o, h1, h2, h3, _, L, rfl, ⟨rfl, N⟩, hq⟩ := own_rm1 l s _ hw tables_1 in_1 ob_2 ob_4 ob_3 s.heap s.heap.size (Nat.le_refl _) (Old.start s) (Sta.start ev_ob_2 (Or.inr ⟨(oW hw 2 rfl), (oW hw 3 rfl)⟩)) (Exa.start ev_ob_2 c0) (Sta.start ev_ob_4 (Or.inr ⟨(oW hw 2 rfl), (oW hw 13 rfl)⟩)) (own_fv ev_ob_4 (Term.int_eval 1) c5) (own_fv ev_ob_2 (Term.int_eval 0) c3) (Exa.start ev_ob_4 c4) (Sta.start ev_ob_3 (Or.inr ⟨(oW hw 2 rfl), (oW hw 11 rfl)⟩)) (own_fv ev_ob_3 (Term.int_eval 2) c2) (Exa.start ev_ob_3 c1) p e ha hc hk s m _ below hf ((Spec.applies_iff_loose hf).mp happ).1 ⟨rfl, State.Warmed39.refl s, rfl⟩ trivial
  refine ⟨n, _, h1, h2, h3, hpost _ _ _ _ _ _ ⟨Cond.after_iff.mpr rfl, Cond.after_iff.mpr (eq_i res_at (Term.int_eval (1)) rfl), trivial⟩ ⟨hq.1, hq.2.1, (hq.2.2.sift fun y hy => Or.inr (N y hy)).mono (by decide) (by decide)⟩⟩
theorem main_1_1 : Claimed_1_1 := comes_1 fun _ _ _ _ _ _ h hF => ⟨h.1, hF⟩
theorem main_1_2 : Claimed_1_2 := comes_1 fun _ _ _ _ _ _ h hF => ⟨h.2.1, hF⟩
end Jvm.Pilot.@@N@@
namespace Jvm.Pilot.@@N@@
open Jvm Jvm.ClassFile Sem Op Lib Jvm.Free Jvm.Stand Jvm.Pilot.@@N@@.Jvm.D
/-! MADE BY PROGRAM (witnessworld.py) out of the Statement's table words and the real class files: 12 classes; the members and pool entries that the words name. The judged class is class 1, her method 1. -/
namespace start1
open Jvm.ClassFile
def u (s : String) : CpInfo := .utf8 (stringToUtf16 s)
/-- a pool by its gaps: so many unusable entries, then the entry; so many at the end -/
def gap : Nat → List CpInfo → List CpInfo
  | 0, r => r
  | n + 1, r => .unusable :: gap n r
def poolList (es : List (Nat × CpInfo)) (last : Nat) : List CpInfo := es.foldr (fun e r => gap e.1 (e.2 :: r)) (gap last [])
def pool (es : List (Nat × CpInfo)) (last : Nat) : Array CpInfo := ⟨poolList es last⟩
def fileOf (pool : Array CpInfo) (this : Nat) (attrs : Array Attribute := #[]) (ms : Array MethodInfo := #[]) (fl : Nat := 33) (sup : Nat := 0) (ifs : Array Nat := #[]) (fds : Array FieldInfo := #[]) : ClassFile where
  minorVersion := 0
  majorVersion := 65
  constantPool := pool
  accessFlags := fl
  thisClass := this
  superClass := sup
  interfaces := ifs
  fields := fds
  methods := ms
  attributes := attrs
def plain (name : String) (sup : Option ClassId) : Class where
  name := name
  kind := .ordinary
  loader := none
  accessFlags := 33
  super := sup
  interfaces := #[]
  cf := none
  fields := #[]
  methods := #[]
  instanceTypes := #[]
  staticTypes := #[]
  resolved := #[]
  callSites := []
  init := .initialized
  statics := none
  mirror := none

def pool0 : Array CpInfo := pool [(5, u "<init>"), (0, u "()V"), (1, .class_ 10), (1, u "java/lang/Object")] 113

def k0m0 : Method := { name := "<init>", desc := "()V", sig := { parameters := [], returnType := none }, accessFlags := 1, code := none }
/-- java/lang/Object -/
def k0 : Class := { plain "java/lang/Object" none with
  accessFlags := 33
  interfaces := #[]
  cf := some (fileOf pool0 8 #[] #[{ accessFlags := 1, nameIndex := 5, descriptorIndex := 6, attributes := #[] }] 33 0 #[] #[])
  fields := #[]
  methods := #[k0m0]
  instanceTypes := #[]
  staticTypes := #[]
  resolved := Array.replicate 124 none
  statics := none }

def pool1 : Array CpInfo := pool [(2, .class_ 4), (1, u "java/lang/Object"), (0, u "<init>"), (0, u "()V"), (0, .integer 2147483647), (0, .fieldref 9 10), (0, .class_ 11), (0, .nameAndType 12 13), (0, u "com/example/vestibule/vestibule/core/Role"), (0, u "DEPOSITOR"), (0, u "Lcom/example/vestibule/vestibule/core/Role;"), (0, .fieldref 9 15), (0, .nameAndType 16 13), (0, u "CURATOR"), (0, .fieldref 9 18), (0, .nameAndType 19 13), (0, u "ADMIN"), (0, .methodref 9 21), (0, .nameAndType 22 23), (0, u "curates"), (0, u "()Z"), (0, .class_ 25), (0, u "com/example/vestibule/vestibule/core/RoleCuratesPinLaw"), (2, u "law"), (0, u "(I)Z")] 3

def k1m0 : Method := { name := "<init>", desc := "()V", sig := { parameters := [], returnType := none }, accessFlags := 1, code := none }
def k1c1 : Code := { maxStack := 2, maxLocals := 4, code := code, exceptionTable := #[], attributes := #[] }
def k1m1 : Method := { name := "law", desc := "(I)Z", sig := { parameters := [.int], returnType := some .boolean }, accessFlags := 9, code := some k1c1 }
/-- com/example/vestibule/vestibule/core/RoleCuratesPinLaw -/
def k1 : Class := { plain "com/example/vestibule/vestibule/core/RoleCuratesPinLaw" (some 0) with
  accessFlags := 49
  interfaces := #[]
  cf := some (fileOf pool1 24 #[] #[{ accessFlags := 1, nameIndex := 5, descriptorIndex := 6, attributes := #[] }, { accessFlags := 9, nameIndex := 28, descriptorIndex := 29, attributes := #[] }] 49 2 #[] #[])
  fields := #[]
  methods := #[k1m0, k1m1]
  instanceTypes := #[]
  staticTypes := #[]
  resolved := Array.replicate 33 none
  statics := none }

def pool2 : Array CpInfo := pool [(1, .class_ 2), (0, u "java/lang/constant/Constable"), (0, .class_ 4), (0, u "java/lang/Object")] 6

/-- java/lang/constant/Constable -/
def k2 : Class := { plain "java/lang/constant/Constable" (some 0) with
  accessFlags := 1537
  interfaces := #[]
  cf := some (fileOf pool2 1 #[] #[] 1537 3 #[] #[])
  fields := #[]
  methods := #[]
  instanceTypes := #[]
  staticTypes := #[]
  resolved := Array.replicate 11 none
  statics := none }

def pool3 : Array CpInfo := pool [(1, .class_ 2), (0, u "java/lang/Comparable"), (0, .class_ 4), (0, u "java/lang/Object")] 7

/-- java/lang/Comparable -/
def k3 : Class := { plain "java/lang/Comparable" (some 0) with
  accessFlags := 1537
  interfaces := #[]
  cf := some (fileOf pool3 1 #[] #[] 1537 3 #[] #[])
  fields := #[]
  methods := #[]
  instanceTypes := #[]
  staticTypes := #[]
  resolved := Array.replicate 12 none
  statics := none }

def pool4 : Array CpInfo := pool [(1, .class_ 2), (0, u "java/io/Serializable"), (0, .class_ 4), (0, u "java/lang/Object")] 2

/-- java/io/Serializable -/
def k4 : Class := { plain "java/io/Serializable" (some 0) with
  accessFlags := 1537
  interfaces := #[]
  cf := some (fileOf pool4 1 #[] #[] 1537 3 #[] #[])
  fields := #[]
  methods := #[]
  instanceTypes := #[]
  staticTypes := #[]
  resolved := Array.replicate 7 none
  statics := none }

def pool5 : Array CpInfo := pool [(2, .class_ 4), (1, u "java/lang/Enum"), (0, u "name"), (0, u "Ljava/lang/String;"), (2, u "ordinal"), (0, u "I"), (1, .class_ 14), (1, u "java/lang/Object"), (4, u "hash"), (86, .class_ 108), (1, u "java/lang/Enum$EnumDesc"), (2, .class_ 112), (0, u "java/lang/constant/Constable"), (0, .class_ 114), (0, u "java/lang/Comparable"), (0, .class_ 116), (0, u "java/io/Serializable")] 87

/-- java/lang/Enum -/
def k5 : Class := { plain "java/lang/Enum" (some 0) with
  accessFlags := 1057
  interfaces := #[2, 3, 4]
  cf := some (fileOf pool5 2 #[.nestMembers #[106]] #[] 1057 12 #[111, 113, 115] #[{ accessFlags := 18, nameIndex := 5, descriptorIndex := 6, attributes := #[] }, { accessFlags := 18, nameIndex := 9, descriptorIndex := 10, attributes := #[] }, { accessFlags := 2, nameIndex := 19, descriptorIndex := 10, attributes := #[] }])
  fields := #[{ name := "name", type := (.object "java/lang/String"), accessFlags := 18, slot := 0, constantValue := 0 }, { name := "ordinal", type := .int, accessFlags := 18, slot := 1, constantValue := 0 }, { name := "hash", type := .int, accessFlags := 2, slot := 2, constantValue := 0 }]
  methods := #[]
  instanceTypes := #[(.object "java/lang/String"), .int, .int]
  staticTypes := #[]
  resolved := Array.replicate 204 none
  statics := none }

def pool6 : Array CpInfo := pool [(1, .class_ 2), (0, u "com/example/vestibule/vestibule/core/Role"), (0, .fieldref 1 4), (0, .nameAndType 5 6), (0, u "DEPOSITOR"), (0, u "Lcom/example/vestibule/vestibule/core/Role;"), (2, u "CURATOR"), (2, u "ADMIN"), (2, u "$VALUES"), (0, u "[Lcom/example/vestibule/vestibule/core/Role;"), (6, .class_ 25), (1, u "java/lang/Enum"), (8, u "key"), (0, u "Ljava/lang/String;"), (42, u "curates"), (0, u "()Z")] 9

def k6c0 : Code := { maxStack := 2, maxLocals := 1, code := prog_34_method_5_code, exceptionTable := #[], attributes := #[] }
def k6m0 : Method := { name := "curates", desc := "()Z", sig := { parameters := [], returnType := some .boolean }, accessFlags := 1, code := some k6c0 }
/-- com/example/vestibule/vestibule/core/Role -/
def k6 : Class := { plain "com/example/vestibule/vestibule/core/Role" (some 5) with
  accessFlags := 16433
  interfaces := #[]
  cf := some (fileOf pool6 1 #[] #[{ accessFlags := 1, nameIndex := 78, descriptorIndex := 79, attributes := #[] }] 16433 23 #[] #[{ accessFlags := 16409, nameIndex := 5, descriptorIndex := 6, attributes := #[] }, { accessFlags := 16409, nameIndex := 9, descriptorIndex := 6, attributes := #[] }, { accessFlags := 16409, nameIndex := 12, descriptorIndex := 6, attributes := #[] }, { accessFlags := 18, nameIndex := 34, descriptorIndex := 35, attributes := #[] }, { accessFlags := 4122, nameIndex := 15, descriptorIndex := 16, attributes := #[] }])
  fields := #[{ name := "DEPOSITOR", type := (.object "com/example/vestibule/vestibule/core/Role"), accessFlags := 16409, slot := 0, constantValue := 0 }, { name := "CURATOR", type := (.object "com/example/vestibule/vestibule/core/Role"), accessFlags := 16409, slot := 1, constantValue := 0 }, { name := "ADMIN", type := (.object "com/example/vestibule/vestibule/core/Role"), accessFlags := 16409, slot := 2, constantValue := 0 }, { name := "key", type := (.object "java/lang/String"), accessFlags := 18, slot := 3, constantValue := 0 }, { name := "$VALUES", type := (.array (.object "com/example/vestibule/vestibule/core/Role")), accessFlags := 4122, slot := 3, constantValue := 0 }]
  methods := #[k6m0]
  instanceTypes := #[(.object "java/lang/String"), .int, .int, (.object "java/lang/String")]
  staticTypes := #[(.object "com/example/vestibule/vestibule/core/Role"), (.object "com/example/vestibule/vestibule/core/Role"), (.object "com/example/vestibule/vestibule/core/Role"), (.array (.object "com/example/vestibule/vestibule/core/Role"))]
  resolved := Array.replicate 89 none
  statics := some 0 }

def pool7 : Array CpInfo := pool [(1, u "java/lang/Cloneable"), (0, .class_ 1), (0, u "java/lang/Object"), (0, .class_ 3)] 3

/-- java/lang/Cloneable -/
def k7 : Class := { plain "java/lang/Cloneable" (some 0) with
  accessFlags := 1537
  interfaces := #[]
  cf := some (fileOf pool7 2 #[] #[] 1537 4 #[] #[])
  fields := #[]
  methods := #[]
  instanceTypes := #[]
  staticTypes := #[]
  resolved := Array.replicate 8 none
  statics := none }

/-- the primitive byte -/
def k8 : Class := { plain "byte" none with kind := .primitive 'B', accessFlags := 0x411 }
/-- [B -/
def k9 : Class := { plain "[B" (some 0) with kind := .array 8 .byte, interfaces := #[7, 4], accessFlags := 1041 }

/-- the primitive int -/
def k10 : Class := { plain "int" none with kind := .primitive 'I', accessFlags := 0x411 }
/-- [I -/
def k11 : Class := { plain "[I" (some 0) with kind := .array 10 .int, interfaces := #[7, 4], accessFlags := 1041 }

def heap : Heap := #[{ cls := 6, slots := #[.ref 1, .ref 3, .ref 2, .null], vm := .statics 6 },
  { cls := 6, slots := #[.null, .int 0, .int 0, .null], vm := .none },
  { cls := 6, slots := #[.null, .int 2, .int 0, .null], vm := .none },
  { cls := 6, slots := #[.null, .int 1, .int 0, .null], vm := .none }]
def classes : Array Class := #[k0, k1, k2, k3, k4, k5, k6, k7, k8, k9, k10, k11]
def interned : List (Array UInt16 × Addr) := []
def slotsUsed : Nat := 16
def theMethod : MethodId := ⟨1, 1⟩
def args0 : Array Value := #[.int 5]
def aboutOver (below : List Frame) : State where
  vm := { classes := classes, interned := interned.toArray }
  heap := heap
  slotsUsed := slotsUsed
  threads := #[{ frames := .invoking theMethod args0 :: below }]
def below0 : List Frame := [.native { method := ⟨0, 0⟩, args := #[] }]
def about1 : State := aboutOver below0
def p0 : Program := .bare "" "" ""
def e0 : Env := launch0.env 0 0 0
theorem w_frames : about1.frames = Frame.invoking theMethod args0 :: below0 := rfl
set_option maxRecDepth 65536 in
theorem w_args : argsFit about1.vm theMethod args0 = true := by decide +kernel
set_option maxRecDepth 65536 in
theorem w_heap : heapFits about1 = true := by decide +kernel
set_option maxRecDepth 65536 in
theorem w_runnable : about1.curStatus? = some .runnable := by decide +kernel
set_option maxRecDepth 65536 in
theorem w_alone : about1.alone = true := by decide +kernel
set_option maxRecDepth 65536 in
theorem w_named : about1.methodNamed? x = some theMethod := by decide +kernel
set_option maxRecDepth 65536 in
theorem w_hears : about1.hears theMethod below0 = true := by decide +kernel
set_option maxRecDepth 65536 in
theorem w_ripe : about1.ripe theMethod args0 below0 = true := by decide +kernel
theorem w_running : about1.status = .running := rfl
set_option maxRecDepth 65536 in
theorem w_room : about1.hasRoom e0.platform room_1 = true :=
  launch0.hasRoom_least _ room_1 (by decide +kernel) (by decide +kernel) (by decide +kernel) (by decide +kernel) (by decide +kernel) (by decide +kernel)
theorem allAtoms_all (ts : List Jvm.Cond) (a : Array Jvm.Value) (st : Jvm.State) : (allAtoms ts).before a st = ts.all (fun c => c.before a st) := by
  induction ts with
  | nil => rfl
  | cons c t ih =>
    show (Jvm.Cond.and c (allAtoms t)).before a st = _
    rw [Jvm.Cond.before_and, ih, List.all_cons]
def words1 : List Jvm.Cond := Jvm.Cond.code x code maxLocals ret :: tables_1
/-- a 'code' word, met by the world's own term for the bytes: nothing is compared byte by byte -/
theorem code_word {y : MethodName} {bytes : ByteArray} {mx : Nat} {rt : Option FieldType} {a : Array Value} {s : State} {m : MethodId} {meth : Method} {c : Code} (h1 : s.methodNamed? y = some m) (h2 : s.vm.method? m = some meth) (h3 : meth.code = some c) (h4 : c.code = bytes)
    (h5 : (c.maxLocals == mx && c.exceptionTable.isEmpty && decide (c.maxStack ≤ mostOperands) && decide (meth.sig.returnType = rt) && !meth.locks && decide (parseMethodDescriptor y.desc = some meth.sig)) = true) : (Jvm.Cond.code y bytes mx rt).before a s = true := by
  simp only [Bool.and_eq_true, beq_iff_eq, Bool.not_eq_true', decide_eq_true_eq] at h5
  obtain ⟨⟨⟨⟨⟨g1, g2⟩, g3⟩, g4⟩, g5⟩, g6⟩ := h5
  simp [Cond.before, Cond.holds, Cond.value, h1, h2, h3, h4, g1, g2, g3, g4, g5, g6]
def isCode : Jvm.Cond → Bool
  | .code _ _ _ _ => true
  | _ => false
theorem all_split {L : List Jvm.Cond} {P : Jvm.Cond → Bool} (h1 : L.all (fun c => isCode c || P c) = true) (h2 : ∀ c ∈ L.filter isCode, P c = true) : L.all P = true := by
  refine List.all_eq_true.mpr fun c hc => ?_
  have h := List.all_eq_true.mp h1 c hc
  rcases Bool.eq_false_or_eq_true (isCode c) with hi | hi
  · exact h2 c (List.mem_filter.mpr ⟨hc, hi⟩)
  · simpa [hi] using h
set_option maxRecDepth 65536 in
theorem w_c0 : (Jvm.Cond.code x code maxLocals ret).before args0 about1 = true := code_word (m := ⟨1, 1⟩) (meth := k1m1) (c := k1c1) (by decide +kernel) rfl rfl rfl (by decide +kernel)
set_option maxRecDepth 65536 in
theorem w_c1 : (Jvm.Cond.code ({ cls := "com/example/vestibule/vestibule/core/Role", name := "curates", desc := "()Z" } : Jvm.MethodName) prog_34_method_5_code (1 : Nat) (Option.some Jvm.ClassFile.FieldType.boolean)).before args0 about1 = true := code_word (m := ⟨6, 0⟩) (meth := k6m0) (c := k6c0) (by decide +kernel) rfl rfl rfl (by decide +kernel)
def codes1 : List Jvm.Cond := [Jvm.Cond.code x code maxLocals ret, Jvm.Cond.code ({ cls := "com/example/vestibule/vestibule/core/Role", name := "curates", desc := "()Z" } : Jvm.MethodName) prog_34_method_5_code (1 : Nat) (Option.some Jvm.ClassFile.FieldType.boolean)]
set_option maxRecDepth 65536 in
theorem codes_eq : words1.filter isCode = codes1 := rfl
theorem w_codes : ∀ c ∈ words1.filter isCode, c.before args0 about1 = true := by
  rw [codes_eq]
  intro c hc
  simp only [codes1, List.mem_cons, List.not_mem_nil, or_false] at hc
  rcases hc with rfl | rfl
  · exact w_c0
  · exact w_c1
set_option maxRecDepth 65536 in
theorem w_t1 : words1.all (fun c => isCode c || c.before args0 about1) = true := by decide +kernel
theorem w_tables : (allAtoms (Jvm.Cond.code x code maxLocals ret :: tables_1)).before args0 about1 = true := by
  rw [allAtoms_all]
  show words1.all (fun c => c.before args0 about1) = true
  refine all_split ?_ w_codes
  rw [w_t1]
set_option maxRecDepth 65536 in
theorem w_case : (Jvm.Cond.and given_1 narrow_1).before args0 about1 = true := by decide +kernel
theorem w_applies : (headSpec (Jvm.Cond.code x code maxLocals ret :: tables_1) room_1).applies x e0.platform about1 = true :=
  (Spec.applies_iff w_frames).mpr ⟨w_running, w_runnable, w_alone, w_named, w_hears, w_ripe, w_room, w_tables⟩
theorem atStart : AtStart classFile x code maxLocals ret World_1 tables_1 room_1 Calls_1 rest_1 Pre_1 launch0 p0 e0 about1 theMethod args0 below0 :=
  ⟨lists_1, trivial, launch0.admits_env _ _ _, launch0.least_env, fairChoices_fair.cas, fairChoices_fair.clock, w_frames, w_args, w_heap, w_applies, trivial, trivial, w_case⟩
end start1
theorem witness_1 : WitnessClaimed_1 := ⟨start1.p0, start1.e0, start1.about1, start1.theMethod, start1.args0, start1.below0, start1.atStart⟩
end Jvm.Pilot.@@N@@
