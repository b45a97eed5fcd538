import JvmDerived
import JvmDerived.Pilot.@@N@@Statement
import JvmDerived.Pilot.@@N@@Code
set_option linter.unusedVariables false
set_option linter.unusedSimpArgs false
@@BLOCK:NumsL.lean.txt@@
namespace Jvm.Pilot.@@N@@
open Jvm Jvm.ClassFile Sem Op Lib Jvm.Free Jvm.Stand Jvm.LawKit Jvm.RoadKit Bundle Jvm.Pilot.@@N@@.Jvm.D
section Own
variable {p : Program} {l : Launch} {e : Env} {R : Room} {s : State} {m : MethodId} {args : Array Value} {below : List Frame} {meth : Method} {c : Code} {T : State} {locs : List Loc} {cells slots : Nat} {Z : State} {a0 : Array Value} {h : Heap}
/-- a walk that goes forward: from S the run comes to an end of which P holds -/
def own_G (p : Program) (e : Env) (below : List Frame) (S : State) (P : Outcome → State → Prop) : Prop :=
  ∃ s₂ o, Steps p.tables e below S s₂ ∧ s₂.status = .running ∧ Ended s₂ below o ∧ P o s₂
/-- what a body leaves -/
def own_P (s : State) (Q : Option Value → Heap → List Loc → Prop) (kc ks : Nat) (o : Outcome) (U : State) : Prop := ∃ v L, o = .returned v ∧ Q v U.heap L ∧ FrameEnd s o U L kc ks
theorem oS {S S' : State} {P : Outcome → State → Prop} (k : ∀ t, Steps p.tables e below S' t → Steps p.tables e below S t) (h : own_G p e below S' P) : own_G p e below S P := by
  obtain ⟨s2, o, h1, h2⟩ := h; exact ⟨s2, o, k _ h1, h2⟩
theorem oW {Z : State} {a0 : Array Value} (hw : ∀ d ∈ tables_1, d.before a0 Z = true) (i : Nat) {d : Jvm.Cond} (q : tables_1[i]? = some d) : d.before a0 Z = true := hw _ (List.mem_of_getElem? q)
theorem own_cast {g g' : JFrame} {P : Outcome → State → Prop} (q : g = g') (k : own_G p e below (T.setTop g') P) : own_G p e below (T.setTop g) P := q ▸ k
theorem own_leave (X : Stand p l e R s m args below meth c T locs cells slots) {g : JFrame} {v : Option Value} {Q : Option Value → Heap → List Loc → Prop} {kc ks : Nat} (hlocks : meth.locks = false) (hv : meth.sig.returnType = none → v = none)
    (k : ∀ fs, (∀ (f : JFrame) (acts : List Action), f.method = m → f.locked = none → f.entered = [] → (doReturn e (T.setTop f) acts v).1 = T.setFrames fs) → Steps p.tables e below (T.setTop g) (T.setFrames fs))
    (eT : T.heap = h) (hc : cells ≤ kc) (hs : slots ≤ ks) (hq : Q v h locs) : own_G p e below (T.setTop g) (own_P s Q kc ks) := by
  obtain ⟨fs, hr, hrun, hended, hW, hsame⟩ := X.leave (v := v) hv hlocks
  exact ⟨_, _, k fs hr, hrun, hended, _, _, rfl, by show Q v T.heap locs; rw [eT]; exact hq, ⟨_, rfl⟩, hW, hsame.mono hc hs⟩
theorem own_retN (X : Stand p l e R s m args below meth c T locs cells slots) (hx : p.tables.exec = Jvm.exec) {pc : Nat} {Ls : Array Slot} {z : Int32} {t : FieldType} {rest : List Value} {Q : Option Value → Heap → List Loc → Prop} {kc ks : Nat} (hlocks : meth.locks = false) (hret : meth.sig.returnType = some t) (ht : t = .boolean ∨ t = .byte ∨ t = .char ∨ t = .short)
    (hd : decode c.code pc = .ok (.ireturn, 1)) (hn : nar t z = z) (eT : T.heap = h) (hc : cells ≤ kc) (hs : slots ≤ ks) (hq : Q (some (.int z)) h locs) : own_G p e below (T.setTop (mkF m pc Ls (.int z :: rest))) (own_P s Q kc ks) :=
  own_leave X (v := some (.int z)) hlocks (fun q => by rw [hret] at q; cases q) (fun fs hl => retN X hx hret ht hd (by rw [hn]; exact hl)) eT hc hs hq
theorem own_retI (X : Stand p l e R s m args below meth c T locs cells slots) (hx : p.tables.exec = Jvm.exec) {pc : Nat} {Ls : Array Slot} {z : Int32} {rest : List Value} {Q : Option Value → Heap → List Loc → Prop} {kc ks : Nat} (hlocks : meth.locks = false) (hret : meth.sig.returnType = some .int)
    (hd : decode c.code pc = .ok (.ireturn, 1)) (eT : T.heap = h) (hc : cells ≤ kc) (hs : slots ≤ ks) (hq : Q (some (.int z)) h locs) : own_G p e below (T.setTop (mkF m pc Ls (.int z :: rest))) (own_P s Q kc ks) :=
  own_leave X (v := some (.int z)) hlocks (fun q => by rw [hret] at q; cases q) (fun fs hl => retOut X hx hret rfl (Or.inl ⟨rfl, Or.inl rfl, _, rfl⟩) hd hl) eT hc hs hq
theorem own_retL (X : Stand p l e R s m args below meth c T locs cells slots) (hx : p.tables.exec = Jvm.exec) {pc : Nat} {Ls : Array Slot} {z : Int64} {rest : List Value} {Q : Option Value → Heap → List Loc → Prop} {kc ks : Nat} (hlocks : meth.locks = false) (hret : meth.sig.returnType = some .long)
    (hd : decode c.code pc = .ok (.lreturn, 1)) (eT : T.heap = h) (hc : cells ≤ kc) (hs : slots ≤ ks) (hq : Q (some (.long z)) h locs) : own_G p e below (T.setTop (mkF m pc Ls (.long z :: rest))) (own_P s Q kc ks) :=
  own_leave X (v := some (.long z)) hlocks (fun q => by rw [hret] at q; cases q) (fun fs hl => retOut X hx hret rfl (Or.inr (Or.inl ⟨rfl, rfl, _, rfl⟩)) hd hl) eT hc hs hq
theorem own_narR {t : FieldType} {w : Value} (h : w.isRef = true) : narrow t w = w := by
  rcases ref_cases h with rfl | ⟨a, rfl⟩ <;> cases t <;> rfl
theorem own_retA (X : Stand p l e R s m args below meth c T locs cells slots) (hx : p.tables.exec = Jvm.exec) {pc : Nat} {Ls : Array Slot} {w : Value} {t : FieldType} {rest : List Value} {Q : Option Value → Heap → List Loc → Prop} {kc ks : Nat} (hlocks : meth.locks = false) (hret : meth.sig.returnType = some t) (ht : t.isReference = true) (hw : w.isRef = true)
    (hd : decode c.code pc = .ok (.areturn, 1)) (eT : T.heap = h) (hc : cells ≤ kc) (hs : slots ≤ ks) (hq : Q (some w) h locs) : own_G p e below (T.setTop (mkF m pc Ls (w :: rest))) (own_P s Q kc ks) :=
  own_leave X (v := some w) hlocks (fun q => by rw [hret] at q; cases q) (fun fs hl => retOut X hx hret (own_narR hw) (Or.inr (Or.inr (Or.inr (Or.inr ⟨rfl, ht, hw⟩)))) hd hl) eT hc hs hq
theorem own_retV (X : Stand p l e R s m args below meth c T locs cells slots) (hx : p.tables.exec = Jvm.exec) {pc : Nat} {Ls : Array Slot} {Q : Option Value → Heap → List Loc → Prop} {kc ks : Nat} (hlocks : meth.locks = false) (hret : meth.sig.returnType = none)
    (hd : decode c.code pc = .ok (.return_, 1)) (eT : T.heap = h) (hc : cells ≤ kc) (hs : slots ≤ ks) (hq : Q none h locs) : own_G p e below (T.setTop (mkF m pc Ls [])) (own_P s Q kc ks) :=
  own_leave X (v := none) hlocks (fun _ => rfl) (fun fs hl => X.returnOut hx hret hd hl) eT hc hs hq
abbrev own_Met (l : Launch) (Z : State) (h : Heap) (y : MethodName) (bytes : ByteArray) (maxL : Nat) (ret : Option FieldType) (ws : List Jvm.Cond) (rm : Room) (as' : Array Value) (Q : Option Value → Heap → List Loc → Prop) (kc ks : Nat) : Prop :=
  MetFree l y (head1 (Jvm.Cond.code y bytes maxL ret :: ws) rm) (fun a U => a = as' ∧ Z.Warmed39 U.vm ∧ U.heap = h) (fun _ _ _ _ _ => True) (fun _ U o U' => ∃ v L, o = .returned v ∧ Q v U'.heap L ∧ FrameEnd U o U' L kc ks)
variable {own : String} {index : Nat} {y : MethodName} {bytes : ByteArray} {maxL : Nat} {ret : Option FieldType} {rm : Room} {W : Nat} {as' : Array Value} {Q : Option Value → Heap → List Loc → Prop}
abbrev own_After (p : Program) (l : Launch) (e : Env) (R : Room) (s : State) (m : MethodId) (args : Array Value) (below : List Frame) (meth : Method) (c : Code) (T : State) (locs : List Loc) (kc ks : Nat) (g : JFrame) (rest : List Value) (Q : Option Value → Heap → List Loc → Prop) (len : Nat := 3) : Prop :=
  ∃ (T' : State) (h' : Heap) (v : Option Value) (L : List Loc), Stand p l e R s m args below meth c T' (locs ++ L) kc ks ∧ T'.heap = h' ∧ Q v h' L ∧ ∀ target, Steps p.tables e below (T'.setTop { g with pc := g.pc + len, stack := v.toList ++ rest }) target → Steps p.tables e below (T.setTop g) target
theorem own_callS (X : Stand p l e R s m args below meth c T locs cells slots) (hx : p.tables.exec = Jvm.exec) (hZ : Z.Warmed39 s.vm) (hown : s.vm.findClass own = some m.cls) (eT : T.heap = h)
    (w1 : (Jvm.Cond.methodLink own index y).before a0 Z = true) (w2 : (Jvm.Cond.static y).before a0 Z = true) (w3 : (Jvm.Cond.initialized y.cls).before a0 Z = true) (w4 : (Jvm.Cond.code y bytes maxL ret).before a0 Z = true) (hy : y.cls ≠ "java/lang/invoke/MethodHandle" ∧ y.cls ≠ "java/lang/invoke/VarHandle")
    (hM : own_Met l Z h y bytes maxL ret [] rm as' Q rm.cells rm.slots)
    (hf : rm.frames + 1 ≤ R.frames) (hl : W + (maxL + 11) + rm.locals ≤ R.locals) (hc : cells + rm.cells ≤ R.cells) (hsl : slots + rm.slots ≤ R.slots)
    {g : JFrame} (hg : g.method = m) (hsize : g.locals.size = c.maxLocals) {argsL rest : List Value} (has : argsL.toArray = as') (hlen : ∀ sig, parseMethodDescriptor y.desc = some sig → argsL.length = sig.parameters.length)
    (hstack : g.stack = argsL.reverse ++ rest) (hW : 2 * g.monitorRoom + (rest.map fun v => v.category).sum ≤ W) (hd : decode c.code g.pc = .ok (.invokestatic index, 3)) :
    own_After p l e R s m args below meth c T locs (cells + rm.cells) (slots + rm.slots) g rest Q := by
  obtain ⟨v, vm1, ⟨T', L', k', n'⟩, -, X', ⟨Lc, hQ, l1, y1, z1⟩, st⟩ := Jvm.LawKit.callS X hx (y := y) hown (mvT hZ w1) (mvT hZ w2) (mvT hZ w3) (mvT hZ w4) hy (backOf (W := W) hM hZ w4 w3 hf hl) hg hsize hlen hstack hW hd (fun _ _ => ⟨has, eT, hc, hsl⟩)
  dsimp only [Pt.U, Pt.locs, Pt.cells, Pt.slots] at X' l1 y1 z1 st hQ
  subst l1 y1 z1
  exact ⟨T', _, v, Lc, X', rfl, hQ, st⟩
theorem own_callV (X : Stand p l e R s m args below meth c T locs cells slots) (hx : p.tables.exec = Jvm.exec) (hZ : Z.Warmed39 s.vm) (hown : s.vm.findClass own = some m.cls) (eT : T.heap = h) {z : MethodName} {C : String} {b : Addr}
    (w1 : (Jvm.Cond.methodLink own index y).before a0 Z = true) (w2 : (Jvm.Cond.declares y).before a0 Z = true) (nf : NotFace s y) (w3 : (Jvm.Cond.selects C y z).before a0 Z = true) (w5 : (Jvm.Cond.instanceMethod z).before a0 Z = true) (w6 : (Jvm.Cond.initialized z.cls).before a0 Z = true) (w4 : (Jvm.Cond.code z bytes maxL ret).before a0 Z = true) (hy : y.cls ≠ "java/lang/invoke/MethodHandle" ∧ y.cls ≠ "java/lang/invoke/VarHandle")
    (E : Exa Z h b C) (hM : own_Met l Z h z bytes maxL ret [] rm as' Q rm.cells rm.slots)
    (hf : rm.frames + 1 ≤ R.frames) (hl : W + (maxL + 11) + rm.locals ≤ R.locals) (hc : cells + rm.cells ≤ R.cells) (hsl : slots + rm.slots ≤ R.slots)
    {g : JFrame} (hg : g.method = m) (hsize : g.locals.size = c.maxLocals) {argsL rest : List Value} (has : (.ref b :: argsL).toArray = as') (hlen : ∀ sig, parseMethodDescriptor y.desc = some sig → argsL.length = sig.parameters.length)
    (hstack : g.stack = argsL.reverse ++ .ref b :: rest) (hW : 2 * g.monitorRoom + (rest.map fun v => v.category).sum ≤ W) (hd : decode c.code g.pc = .ok (.invokevirtual index, 3)) :
    own_After p l e R s m args below meth c T locs (cells + rm.cells) (slots + rm.slots) g rest Q := by
  obtain ⟨cq, kq, q1, q2, q3⟩ := isOf hZ eT E
  obtain ⟨v, vm1, ⟨T', L', k', n'⟩, -, X', ⟨Lc, hQ, l1, y1, z1⟩, st⟩ := X.virtualBack hx (y := y) (z := z) hown (mvT hZ w1) (mvT hZ w2) nf (mvT hZ w3) (mvT hZ w5) hy (backOf (W := W) hM hZ w4 w6 hf hl) q1 q3 hg hsize (Steps.refl _) hlen hstack hW hd (fun _ _ => ⟨has, eT, hc, hsl⟩)
  dsimp only [Pt.U, Pt.locs, Pt.cells, Pt.slots] at X' l1 y1 z1 st hQ
  subst l1 y1 z1
  exact ⟨T', _, v, Lc, X', rfl, hQ, fun _ k => st.trans k⟩
theorem own_callU (X : Stand p l e R s m args below meth c T locs cells slots) (hx : p.tables.exec = Jvm.exec) (hZ : Z.Warmed39 s.vm) (hown : s.vm.findClass own = some m.cls) (eT : T.heap = h) {z : MethodName} {C owner : String} {b : Addr}
    (w1 : (Jvm.Cond.methodLink own index y).before a0 Z = true) (w2 : (Jvm.Cond.sameMethod y.cls owner y.name y.desc).before a0 Z = true) (w7 : (Jvm.Cond.declares ⟨owner, y.name, y.desc⟩).before a0 Z = true) (w3 : (Jvm.Cond.selects C y z).before a0 Z = true) (w5 : (Jvm.Cond.instanceMethod z).before a0 Z = true) (w6 : (Jvm.Cond.initialized z.cls).before a0 Z = true) (w4 : (Jvm.Cond.code z bytes maxL ret).before a0 Z = true) (hy : owner ≠ "java/lang/invoke/MethodHandle" ∧ owner ≠ "java/lang/invoke/VarHandle")
    (E : Exa Z h b C) (hM : own_Met l Z h z bytes maxL ret [] rm as' Q rm.cells rm.slots)
    (hf : rm.frames + 1 ≤ R.frames) (hl : W + (maxL + 11) + rm.locals ≤ R.locals) (hc : cells + rm.cells ≤ R.cells) (hsl : slots + rm.slots ≤ R.slots)
    {g : JFrame} (hg : g.method = m) (hsize : g.locals.size = c.maxLocals) {argsL rest : List Value} (has : (.ref b :: argsL).toArray = as') (hlen : ∀ sig, parseMethodDescriptor y.desc = some sig → argsL.length = sig.parameters.length)
    (hstack : g.stack = argsL.reverse ++ .ref b :: rest) (hW : 2 * g.monitorRoom + (rest.map fun v => v.category).sum ≤ W) (hd : decode c.code g.pc = .ok (.invokevirtual index, 3)) :
    own_After p l e R s m args below meth c T locs (cells + rm.cells) (slots + rm.slots) g rest Q := by
  obtain ⟨cq, kq, q1, q2, q3⟩ := isOf hZ eT E
  obtain ⟨v, vm1, ⟨T', L', k', n'⟩, -, X', ⟨Lc, hQ, l1, y1, z1⟩, st⟩ := X.virtualBackUp hx (x := y) (y := z) (owner := owner) hown (mvT hZ w1) (mvT hZ w2) (mvT hZ w7) hy (mvT hZ w3) (mvT hZ w5) (backOf (W := W) hM hZ w4 w6 hf hl) q1 q3 hg hsize (Steps.refl _) hlen hstack hW hd (fun _ _ => ⟨has, eT, hc, hsl⟩)
  dsimp only [Pt.U, Pt.locs, Pt.cells, Pt.slots] at X' l1 y1 z1 st hQ
  subst l1 y1 z1
  exact ⟨T', _, v, Lc, X', rfl, hQ, fun _ k => st.trans k⟩
theorem own_callN (X : Stand p l e R s m args below meth c T locs cells slots) (hx : p.tables.exec = Jvm.exec) (hZ : Z.Warmed39 s.vm) (hown : s.vm.findClass own = some m.cls) (eT : T.heap = h) {b : Addr} (hy1 : y.name = "<init>")
    (w1 : (Jvm.Cond.methodLink own index y).before a0 Z = true) (w5 : (Jvm.Cond.instanceMethod y).before a0 Z = true) (w6 : (Jvm.Cond.initialized y.cls).before a0 Z = true) (w4 : (Jvm.Cond.code y bytes maxL none).before a0 Z = true) (hy : y.cls ≠ "java/lang/invoke/MethodHandle" ∧ y.cls ≠ "java/lang/invoke/VarHandle")
    (hM : own_Met l Z h y bytes maxL none [] rm as' Q rm.cells rm.slots)
    (hf : rm.frames + 1 ≤ R.frames) (hl : W + (maxL + 11) + rm.locals ≤ R.locals) (hc : cells + rm.cells ≤ R.cells) (hsl : slots + rm.slots ≤ R.slots)
    {g : JFrame} (hg : g.method = m) (hsize : g.locals.size = c.maxLocals) {argsL rest : List Value} (has : (.ref b :: argsL).toArray = as') (hlen : ∀ sig, parseMethodDescriptor y.desc = some sig → argsL.length = sig.parameters.length)
    (hstack : g.stack = argsL.reverse ++ .ref b :: rest) (hW : 2 * g.monitorRoom + (rest.map fun v => v.category).sum ≤ W) (hd : decode c.code g.pc = .ok (.invokespecial index, 3)) :
    own_After p l e R s m args below meth c T locs (cells + rm.cells) (slots + rm.slots) g rest Q := by
  obtain ⟨v, vm1, ⟨T', L', k', n'⟩, -, X', ⟨Lc, hQ, l1, y1, z1⟩, st⟩ := X.specialBack hx (y := y) hy1 hown (mvT hZ w1) (mvT hZ w5) (mvT hZ w4) hy (backOf (W := W) hM hZ w4 w6 hf hl) hg hsize (Steps.refl _) hlen hstack hW hd (fun _ _ => ⟨has, eT, hc, hsl⟩)
  dsimp only [Pt.U, Pt.locs, Pt.cells, Pt.slots] at X' l1 y1 z1 st hQ
  subst l1 y1 z1
  exact ⟨T', _, v, Lc, X', rfl, hQ, fun _ k => st.trans k⟩
theorem own_callI (X : Stand p l e R s m args below meth c T locs cells slots) (hx : p.tables.exec = Jvm.exec) (hZ : Z.Warmed39 s.vm) (hown : s.vm.findClass own = some m.cls) (eT : T.heap = h) {z : MethodName} {C : String} {b : Addr} {count : Nat}
    (w1 : (Jvm.Cond.methodLink own index y).before a0 Z = true) (w2 : (Jvm.Cond.declares y).before a0 Z = true) (w7 : (Jvm.Cond.interfaceMethod y.cls y.cls y.name y.desc).before a0 Z = true) (h7 : ((Jvm.Cond.interfaceMethod y.cls y.cls y.name y.desc).onTables && (Jvm.Cond.interfaceMethod y.cls y.cls y.name y.desc).keepsFace) = true) (w3 : (Jvm.Cond.selects C y z).before a0 Z = true) (w5 : (Jvm.Cond.instanceMethod z).before a0 Z = true) (w8 : (Jvm.Cond.publicMethod z).before a0 Z = true) (w9 : (Jvm.Cond.unhidden C y.name y.desc).before a0 Z = true) (w10 : (Jvm.Cond.castable C y.cls).before a0 Z = true) (w6 : (Jvm.Cond.initialized z.cls).before a0 Z = true) (w4 : (Jvm.Cond.code z bytes maxL ret).before a0 Z = true) (hy : y.cls ≠ "java/lang/invoke/MethodHandle" ∧ y.cls ≠ "java/lang/invoke/VarHandle")
    (E : Exa Z h b C) (hM : own_Met l Z h z bytes maxL ret [] rm as' Q rm.cells rm.slots)
    (hf : rm.frames + 1 ≤ R.frames) (hl : W + (maxL + 11) + rm.locals ≤ R.locals) (hc : cells + rm.cells ≤ R.cells) (hsl : slots + rm.slots ≤ R.slots)
    {g : JFrame} (hg : g.method = m) (hsize : g.locals.size = c.maxLocals) {argsL rest : List Value} (has : (.ref b :: argsL).toArray = as') (hlen : ∀ sig, parseMethodDescriptor y.desc = some sig → argsL.length = sig.parameters.length)
    (hstack : g.stack = argsL.reverse ++ .ref b :: rest) (hW : 2 * g.monitorRoom + (rest.map fun v => v.category).sum ≤ W) (hd : decode c.code g.pc = .ok (.invokeinterface index count, 5)) :
    own_After p l e R s m args below meth c T locs (cells + rm.cells) (slots + rm.slots) g rest Q 5 := by
  obtain ⟨cq, kq, q1, q2, q3⟩ := isOf hZ eT E
  obtain ⟨v, vm1, ⟨T', L', k', n'⟩, -, X', ⟨Lc, hQ, l1, y1, z1⟩, st⟩ := X.interfaceBack hx (xi := y) (y := z) hown (mvT hZ w1) (mvT hZ w2) (mvT hZ w7 h7) (mvT hZ w3) (mvT hZ w5) (mvT hZ w8) (mvT hZ w9) (mvT hZ w10) hy (backOf (W := W) hM hZ w4 w6 hf hl) q1 q2 q3 hg hsize (Steps.refl _) hlen hstack hW hd (fun _ _ => ⟨has, eT, hc, hsl⟩)
  dsimp only [Pt.U, Pt.locs, Pt.cells, Pt.slots] at X' l1 y1 z1 st hQ
  subst l1 y1 z1
  exact ⟨T', _, v, Lc, X', rfl, hQ, fun _ k => st.trans k⟩
theorem own_callP (X : Stand p l e R s m args below meth c T locs cells slots) (hx : p.tables.exec = Jvm.exec) (hZ : Z.Warmed39 s.vm) (hown : s.vm.findClass own = some m.cls) (eT : T.heap = h) {b : Addr} {C : String}
    (w1 : (Jvm.Cond.methodLink own index y).before a0 Z = true) (w5 : (Jvm.Cond.instanceMethod y).before a0 Z = true) (w3 : (Jvm.Cond.selects y.cls y y).before a0 Z = true) (w7 : (Jvm.Cond.privateMethod y).before a0 Z = true) (w6 : (Jvm.Cond.initialized y.cls).before a0 Z = true) (w4 : (Jvm.Cond.code y bytes maxL ret).before a0 Z = true) (hy : y.cls ≠ "java/lang/invoke/MethodHandle" ∧ y.cls ≠ "java/lang/invoke/VarHandle")
    (E : Exa Z h b C) (hM : own_Met l Z h y bytes maxL ret [] rm as' Q rm.cells rm.slots)
    (hf : rm.frames + 1 ≤ R.frames) (hl : W + (maxL + 11) + rm.locals ≤ R.locals) (hc : cells + rm.cells ≤ R.cells) (hsl : slots + rm.slots ≤ R.slots)
    {g : JFrame} (hg : g.method = m) (hsize : g.locals.size = c.maxLocals) {argsL rest : List Value} (has : (.ref b :: argsL).toArray = as') (hlen : ∀ sig, parseMethodDescriptor y.desc = some sig → argsL.length = sig.parameters.length)
    (hstack : g.stack = argsL.reverse ++ .ref b :: rest) (hW : 2 * g.monitorRoom + (rest.map fun v => v.category).sum ≤ W) (hd : decode c.code g.pc = .ok (.invokevirtual index, 3)) :
    own_After p l e R s m args below meth c T locs (cells + rm.cells) (slots + rm.slots) g rest Q := by
  obtain ⟨cell, hcell, hobj⟩ := E.cell
  obtain ⟨v, vm1, ⟨T', L', k', n'⟩, -, X', ⟨Lc, hQ, l1, y1, z1⟩, st⟩ := X.privateBack hx (y := y) hown (mvT hZ w1) (mvT hZ w5) (mvT hZ w3) (Cond.privateMethod_at (mvP (args := #[]) hZ w7)) (mvT hZ w4) hy (backOf (W := W) hM hZ w4 w6 hf hl) hg hsize (Steps.refl _) (by rw [eT]; exact hcell) hobj hlen hstack hW hd (fun _ _ => ⟨has, eT, hc, hsl⟩)
  dsimp only [Pt.U, Pt.locs, Pt.cells, Pt.slots] at X' l1 y1 z1 st hQ
  subst l1 y1 z1
  exact ⟨T', _, v, Lc, X', rfl, hQ, fun _ k => st.trans k⟩
theorem own_lsw (X : Stand p l e R s m args below meth c T locs cells slots) (hx : p.tables.exec = Jvm.exec) {g : JFrame} (hg : g.method = m) {k : Int32} {rest : List Value} (hs : g.stack = .int k :: rest) {dflt : Int} {pairs : Array (Int × Int)} {len : Nat} (hd : decode c.code g.pc = .ok (.lookupswitch dflt pairs, len))
    (hsorted : (pairs.toList.zip (pairs.toList.drop 1)).all (fun (a, next) => a.1 < next.1) = true) {a off : Int} (hfind : pairs.find? (·.1 == k.toInt) = some (a, off)) {pc0 pc' : Nat} (hpc : g.pc = pc0) (ho : 0 ≤ (pc0 : Int) + off) (hp : ((pc0 : Int) + off).toNat = pc') :
    ∀ t, Steps p.tables e below (T.setTop { g with pc := pc', stack := rest }) t → Steps p.tables e below (T.setTop g) t := by
  subst hpc hp; exact fun t hr => X.lookupswitchHit hx hg hs hd hsorted hfind ho t hr
theorem own_rne {a b : Addr} (h : a ≠ b) : ¬ (Value.ref a = Value.ref b) := fun q => h (Value.ref.inj q)
def own_pl : Value → Bool
  | .int _ => true
  | .ref _ => true
  | .null => true
  | .long _ => true
  | _ => false
theorem own_eqv {args : Array Value} {f : State} {o : Option Outcome} {idx : List Nat} {t u : Term} {x y : Value} (ha : t.eval args f o idx s = some x) (hb : u.eval args f o idx s = some y) (h : (Jvm.Cond.eq t u).value args f o s idx = some true) (hk : own_pl y = true := by rfl) : x = y := by
  cases x <;> cases y <;> simp [Jvm.Cond.value, ha, hb, own_pl] at h hk ⊢ <;> first | exact h | exact h.symm
theorem own_fv {args : Array Value} {t u : Term} {O n d : String} {a : Addr} {y : Value} (ht : t.eval args s none [] s = some (.ref a)) (hu : u.eval args s none [] s = some y) (h : (Jvm.Cond.eq (.field t O n d) u).value args s none s [] = some true) (hk : own_pl y = true := by rfl) : Fld s s.heap a O n d y := by
  obtain ⟨x, y', e1, e2, -, -⟩ := cmp_v (Or.inl h)
  have q := own_eqv e1 hu h hk
  subst q
  exact Fld.start ((fld_at ht).symm.trans e1)
end Own
section OwnArr
variable {p : Program} {l : Launch} {e : Env} {R : Room} {s : State} {m : MethodId} {args : Array Value} {below : List Frame} {meth : Method} {c : Code} {T : State} {locs : List Loc} {cells slots : Nat} {Z : State} {a0 : Array Value} {h : Heap} {a : Addr} {k : ClassId} {ty : FieldType} {z j : Int32} {vs : List Value} {dv v : Value}
theorem own_newA (A : Arr Z h a (newA k ty z) ty) (q : ¬ z < 0) (hv : vs = List.replicate z.toNatClampNeg (defaultValue ty)) (hd : dv = defaultValue ty) : Arv Z h a k ty z vs dv := by
  subst hv hd; exact (Arv.new A q).pad (pad_rep [] _ _)
theorem own_newP (X : Stand p l e R s m args below meth c T locs cells slots) (hx : p.tables.exec = Jvm.exec) (hZ : Z.Warmed39 s.vm) {aty : ArrayType} (w : (Jvm.Cond.arrayClass (newarray.typeOf aty)).before a0 Z = true) (eT : T.heap = h) {nm : String} (hnm : "[" ++ (newarray.typeOf aty).toString = nm)
    {g : JFrame} (hg : g.method = m) (hd : decode c.code g.pc = .ok (.newarray aty, 2)) {n : Int32} {rest : List Value} (hs : g.stack = .int n :: rest) (hn : ¬ n < 0) {cap : Nat} (hcap : n.toNatClampNeg ≤ cap) (hb : cap * 8 ≤ 536870912) (hc : cells + 1 ≤ R.cells) (hl : slots + cap ≤ R.slots) :
    ∃ T' h' cA, Stand p l e R s m args below meth c T' locs (cells + 1) (slots + cap) ∧ T'.heap = h' ∧ Ext h h' ∧ Arr Z h' h.size (newA cA (newarray.typeOf aty) n) (newarray.typeOf aty) ∧ Exa Z h' h.size nm ∧
      ∀ target, Steps p.tables e below (T'.setTop { g with pc := g.pc + 2, stack := .ref h.size :: rest }) target → Steps p.tables e below (T.setTop g) target := by
  subst hnm eT
  obtain ⟨cA, kA, comp, h1, h2, h3, X', st⟩ := X.newarrayPrim hx (mvA hZ w) hg hd hs hn (Nat.le_trans (Nat.mul_le_mul hcap (by cases aty <;> decide : componentBytes (newarray.typeOf aty) ≤ 8)) hb) hc (by omega)
  rw [hZ.alike.findClass] at h1
  obtain ⟨kZ, z1, -⟩ := Vm.findClass_spec h1
  obtain ⟨k', z2, z3⟩ := hZ.alike.2.2 _ _ z1
  cases h2.symm.trans z2
  have hk : kZ.kind = .array comp (newarray.typeOf aty) := by rw [← h3, z3]
  have hN : (T.heap.push (newA cA (newarray.typeOf aty) n))[T.heap.size]? = some (newA cA (newarray.typeOf aty) n) := by simp
  have hE : Ext T.heap (T.heap.push (newA cA (newarray.typeOf aty) n)) := ext_of fun a q => Array.getElem?_push_lt q |>.trans (Array.getElem?_eq_getElem q).symm
  exact ⟨_, _, cA, X'.more (Nat.le_refl _) (by omega), rfl, hE, ⟨hN, ⟨by simp [newA], kZ, z1, comp, hk⟩, by simp [newA]⟩, ⟨_, kZ, hN, h1, z1, rfl, fun q => by rw [hk] at q; cases q⟩, st⟩
theorem own_len (X : Stand p l e R s m args below meth c T locs cells slots) (hx : p.tables.exec = Jvm.exec) (hZ : Z.Warmed39 s.vm) (eT : T.heap = h) (A : Arv Z h a k ty z vs dv) {g : JFrame} (hg : g.method = m) {rest : List Value} (hs : g.stack = .ref a :: rest) (hd : decode c.code g.pc = .ok (.arraylength, 1)) :
    ∀ target, Steps p.tables e below (T.setTop { g with pc := g.pc + 1, stack := .int z :: rest }) target → Steps p.tables e below (T.setTop g) target := by
  obtain ⟨cl, A1, q1, S, q3, H, G⟩ := A
  intro target hr
  refine X.arraylength hx (cell := cl) (by rw [eT]; exact A1.1) (State.isArrayOf_alike hZ.alike A1.2.1) hg hs hd target ?_
  rw [len_of S q3]; exact hr
theorem own_iaload (X : Stand p l e R s m args below meth c T locs cells slots) (hx : p.tables.exec = Jvm.exec) (hZ : Z.Warmed39 s.vm) (eT : T.heap = h) (A : Arv Z h a k .int z vs dv) (hj : ¬ j < 0 ∧ j < z) (hv : vs.getD j.toNatClampNeg dv = v) {g : JFrame} (hg : g.method = m) {rest : List Value} (hs : g.stack = .int j :: .ref a :: rest) (hd : decode c.code g.pc = .ok (.iaload, 1)) :
    ∀ target, Steps p.tables e below (T.setTop { g with pc := g.pc + 1, stack := v :: rest }) target → Steps p.tables e below (T.setTop g) target := by
  obtain ⟨cl, A1, q1, S, q3, H, G⟩ := A
  exact fun t k => X.iaload hx (by rw [eT]; exact A1.1) (State.isArrayOf_alike hZ.alike A1.2.1) A1.2.2 (inb_of S hj) (H.at (inb_of S hj) hv) hg hs hd t k
theorem own_baload (X : Stand p l e R s m args below meth c T locs cells slots) (hx : p.tables.exec = Jvm.exec) (hZ : Z.Warmed39 s.vm) (eT : T.heap = h) (A : Arv Z h a k .byte z vs dv) (hj : ¬ j < 0 ∧ j < z) (hv : vs.getD j.toNatClampNeg dv = v) {g : JFrame} (hg : g.method = m) {rest : List Value} (hs : g.stack = .int j :: .ref a :: rest) (hd : decode c.code g.pc = .ok (.baload, 1)) :
    ∀ target, Steps p.tables e below (T.setTop { g with pc := g.pc + 1, stack := v :: rest }) target → Steps p.tables e below (T.setTop g) target := by
  obtain ⟨cl, A1, q1, S, q3, H, G⟩ := A
  exact fun t k => X.baloadBytes hx (by rw [eT]; exact A1.1) (State.isArrayOf_alike hZ.alike A1.2.1) A1.2.2 (inb_of S hj) (H.at (inb_of S hj) hv) hg hs hd t k
theorem own_caload (X : Stand p l e R s m args below meth c T locs cells slots) (hx : p.tables.exec = Jvm.exec) (hZ : Z.Warmed39 s.vm) (eT : T.heap = h) (A : Arv Z h a k .char z vs dv) (hj : ¬ j < 0 ∧ j < z) (hv : vs.getD j.toNatClampNeg dv = v) {g : JFrame} (hg : g.method = m) {rest : List Value} (hs : g.stack = .int j :: .ref a :: rest) (hd : decode c.code g.pc = .ok (.caload, 1)) :
    ∀ target, Steps p.tables e below (T.setTop { g with pc := g.pc + 1, stack := v :: rest }) target → Steps p.tables e below (T.setTop g) target := by
  obtain ⟨cl, A1, q1, S, q3, H, G⟩ := A
  exact fun t k => X.caload hx (by rw [eT]; exact A1.1) (State.isArrayOf_alike hZ.alike A1.2.1) A1.2.2 (inb_of S hj) (H.at (inb_of S hj) hv) hg hs hd t k
theorem own_aaload (X : Stand p l e R s m args below meth c T locs cells slots) (hx : p.tables.exec = Jvm.exec) (hZ : Z.Warmed39 s.vm) (eT : T.heap = h) (A : Arv Z h a k ty z vs dv) (hty : ty.isReference = true) (hj : ¬ j < 0 ∧ j < z) (hv : vs.getD j.toNatClampNeg dv = v) {g : JFrame} (hg : g.method = m) {rest : List Value} (hs : g.stack = .int j :: .ref a :: rest) (hd : decode c.code g.pc = .ok (.aaload, 1)) :
    ∀ target, Steps p.tables e below (T.setTop { g with pc := g.pc + 1, stack := v :: rest }) target → Steps p.tables e below (T.setTop g) target := by
  obtain ⟨cl, A1, q1, S, q3, H, G⟩ := A
  exact fun t k => X.aaload hx (by rw [eT]; exact A1.1) (State.isArrayOf_alike hZ.alike A1.2.1) hty A1.2.2 (inb_of S hj) (H.at (inb_of S hj) hv) hg hs hd t k
theorem own_stB (X : Stand p l e R s m args below meth c T locs cells slots) (hx : p.tables.exec = Jvm.exec) (hZ : Z.Warmed39 s.vm) (eT : T.heap = h) (A : Arv Z h a k .byte z vs dv) {x x' : Int32} (i : Nat) (hn : nar .byte x = x') (hji : j.toNatClampNeg = i) (hj : ¬ j < 0 ∧ j < z) (hi : i < vs.length) {g : JFrame} (hg : g.method = m) {rest : List Value} (hs : g.stack = .int x :: .int j :: .ref a :: rest) (hd : decode c.code g.pc = .ok (.bastore, 1)) :
    ∃ T' h', Stand p l e R s m args below meth c T' (locs ++ [⟨a, i⟩]) cells slots ∧ T'.heap = h' ∧ Wr h h' a i (.int x') ∧ Arv Z h' a k .byte z (vs.set i (.int x')) dv ∧ ∀ target, Steps p.tables e below (T'.setTop { g with pc := g.pc + 1, stack := rest }) target → Steps p.tables e below (T.setTop g) target := by
  obtain ⟨cl, A1, q1, S, q3, H, G⟩ := A
  obtain ⟨T', h', X', e', W, st⟩ := stB X hx hZ eT A1 (inb_of S hj) hg hs hd
  subst hn hji
  exact ⟨T', h', X', e', W, Arv.set A1 q1 S q3 H G (fits_byte_narrow x) W _ rfl hi, st⟩
theorem own_stC (X : Stand p l e R s m args below meth c T locs cells slots) (hx : p.tables.exec = Jvm.exec) (hZ : Z.Warmed39 s.vm) (eT : T.heap = h) (A : Arv Z h a k .char z vs dv) {x x' : Int32} (i : Nat) (hn : nar .char x = x') (hji : j.toNatClampNeg = i) (hj : ¬ j < 0 ∧ j < z) (hi : i < vs.length) {g : JFrame} (hg : g.method = m) {rest : List Value} (hs : g.stack = .int x :: .int j :: .ref a :: rest) (hd : decode c.code g.pc = .ok (.castore, 1)) :
    ∃ T' h', Stand p l e R s m args below meth c T' (locs ++ [⟨a, i⟩]) cells slots ∧ T'.heap = h' ∧ Wr h h' a i (.int x') ∧ Arv Z h' a k .char z (vs.set i (.int x')) dv ∧ ∀ target, Steps p.tables e below (T'.setTop { g with pc := g.pc + 1, stack := rest }) target → Steps p.tables e below (T.setTop g) target := by
  obtain ⟨cl, A1, q1, S, q3, H, G⟩ := A
  obtain ⟨T', h', X', e', W, st⟩ := stC X hx hZ eT A1 (inb_of S hj) hg hs hd
  subst hn hji
  exact ⟨T', h', X', e', W, Arv.set A1 q1 S q3 H G (fits_nar_char x) W _ rfl hi, st⟩
theorem own_stI (X : Stand p l e R s m args below meth c T locs cells slots) (hx : p.tables.exec = Jvm.exec) (hZ : Z.Warmed39 s.vm) (eT : T.heap = h) (A : Arv Z h a k .int z vs dv) {x : Int32} (i : Nat) (hji : j.toNatClampNeg = i) (hj : ¬ j < 0 ∧ j < z) (hi : i < vs.length) {g : JFrame} (hg : g.method = m) {rest : List Value} (hs : g.stack = .int x :: .int j :: .ref a :: rest) (hd : decode c.code g.pc = .ok (.iastore, 1)) :
    ∃ T' h', Stand p l e R s m args below meth c T' (locs ++ [⟨a, i⟩]) cells slots ∧ T'.heap = h' ∧ Wr h h' a i (.int x) ∧ Arv Z h' a k .int z (vs.set i (.int x)) dv ∧ ∀ target, Steps p.tables e below (T'.setTop { g with pc := g.pc + 1, stack := rest }) target → Steps p.tables e below (T.setTop g) target := by
  obtain ⟨cl, A1, q1, S, q3, H, G⟩ := A
  obtain ⟨T', h', X', e', W, st⟩ := stI X hx hZ eT A1 (inb_of S hj) hg hs hd
  subst hji
  exact ⟨T', h', X', e', W, Arv.set A1 q1 S q3 H G rfl W _ rfl hi, st⟩
theorem own_stR (X : Stand p l e R s m args below meth c T locs cells slots) (hx : p.tables.exec = Jvm.exec) (hZ : Z.Warmed39 s.vm) (eT : T.heap = h) (A : Arv Z h a k ty z vs dv) (hty : ty.isReference = true) (i : Nat) (F : Sto Z h a v) (hf : fits ty v = true) (hji : j.toNatClampNeg = i) (hj : ¬ j < 0 ∧ j < z) (hi : i < vs.length) {g : JFrame} (hg : g.method = m) {rest : List Value} (hs : g.stack = v :: .int j :: .ref a :: rest) (hd : decode c.code g.pc = .ok (.aastore, 1)) :
    ∃ T' h', Stand p l e R s m args below meth c T' (locs ++ [⟨a, i⟩]) cells slots ∧ T'.heap = h' ∧ Wr h h' a i v ∧ Arv Z h' a k ty z (vs.set i v) dv ∧ ∀ target, Steps p.tables e below (T'.setTop { g with pc := g.pc + 1, stack := rest }) target → Steps p.tables e below (T.setTop g) target := by
  obtain ⟨cl, A1, q1, S, q3, H, G⟩ := A
  obtain ⟨T', h', X', e', W, st⟩ := stR X hx hZ eT A1 (inb_of S hj) hty F hg hs hd
  subst hji
  exact ⟨T', h', X', e', W, Arv.set A1 q1 S q3 H G hf W _ rfl hi, st⟩
theorem own_sto {C : String} {y : Addr} (A : Arv Z h a k ty z vs dv) (O : Ovr Z k C) (I : Ins Z h y C true) : Sto Z h a (.ref y) := by
  obtain ⟨cl, A1, q1, S, q3, H, G⟩ := A
  exact Sto.ofV A1 q1 O I
theorem own_narB (x : Int32) : nar .byte (x.toInt8.toInt32) = x.toInt8.toInt32 := Value.int.inj (XT.narrow_b x)
theorem own_narC (x : Int32) : nar .char (x.toUInt32.toUInt16.toUInt32.toInt32) = x.toUInt32.toUInt16.toUInt32.toInt32 := Value.int.inj (XT.narrow_c x)
theorem own_fitc {cl : Cell} (A : Arr Z h a cl ty) (H : Has cl vs dv) (G : ∀ i, i < cl.slots.size → fits ty (vs.getD i dv) = true) : FitC Z cl := fun i v hv => by
  obtain ⟨hi, q0⟩ := Array.getElem?_eq_some_iff.mp hv
  have q := G i hi
  have q2 := (H i hi).symm.trans hv
  rw [Option.some.inj q2] at q
  obtain ⟨hs, k, hk, comp, hkind⟩ := A.2.1
  simp [State.fitsSlot, State.slotType?, hk, hkind]; exact q
theorem own_clone (X : Stand p l e R s m args below meth c T locs cells slots) (hx : p.tables.exec = Jvm.exec) (hZ : Z.Warmed39 s.vm) {own ad : String} {index : Nat} (hown : s.vm.findClass own = some m.cls) (eT : T.heap = h)
    (w1 : (Jvm.Cond.methodLink own index ⟨ad, "clone", "()Ljava/lang/Object;"⟩).before a0 Z = true) (w2 : (Jvm.Cond.sameMethod ad "java/lang/Object" "clone" "()Ljava/lang/Object;").before a0 Z = true) (w3 : (Jvm.Cond.native ⟨"java/lang/Object", "clone", "()Ljava/lang/Object;"⟩).before a0 Z = true)
    (w4 : (Jvm.Cond.instanceMethod ⟨"java/lang/Object", "clone", "()Ljava/lang/Object;"⟩).before a0 Z = true) (w5 : (Jvm.Cond.selects ad ⟨ad, "clone", "()Ljava/lang/Object;"⟩ ⟨"java/lang/Object", "clone", "()Ljava/lang/Object;"⟩).before a0 Z = true) (w6 : (Jvm.Cond.castable ad "java/lang/Cloneable").before a0 Z = true)
    (A : Arv Z h a k ty z vs dv) (E : Exa Z h a ad) {g : JFrame} (hg : g.method = m) (hsize : g.locals.size = c.maxLocals) {rest : List Value} (hs : g.stack = .ref a :: rest) (hd : decode c.code g.pc = .ok (.invokevirtual index, 3))
    (hf : 1 ≤ R.frames) {W cap : Nat} (hW : 2 * g.monitorRoom + (rest.map fun v => v.category).sum ≤ W) (hl : W + 14 ≤ R.locals) (hcap : z.toNatClampNeg ≤ cap) (hc : cells + 1 ≤ R.cells) (hsl : slots + cap ≤ R.slots) :
    ∃ T' h', Stand p l e R s m args below meth c T' locs (cells + 1) (slots + cap) ∧ T'.heap = h' ∧ Ext h h' ∧ Arv Z h' h.size k ty z vs dv ∧ Exa Z h' h.size ad ∧
      ∀ target, Steps p.tables e below (T'.setTop { g with pc := g.pc + 3, stack := .ref h.size :: rest }) target → Steps p.tables e below (T.setTop g) target := by
  obtain ⟨cl, A1, q1, S, q3, H, G⟩ := A
  obtain ⟨T', h', X', e', E', A', E2, st⟩ := cloneA X hx hZ hown w1 w2 w3 w4 w5 w6 eT A1 E (own_fitc A1 H G) hg hsize hs hd hf hW hl (by rw [S]; exact hcap) hc hsl
  exact ⟨T', h', X', e', E', ⟨_, A', q1, S, q3, H, G⟩, E2, st⟩
end OwnArr
section OwnCase
variable {s : State} {args : Array Value} {t u : Term} {a : Addr} {ty : FieldType} {n j : Int32} {vs : List Value} {dv v : Value} {cl : Cell}
theorem own_ev {y : Value} (hb : u.eval args s none [] s = some y) (h : (Jvm.Cond.eq t u).value args s none s [] = some true) (hk : own_pl y = true := by rfl) : t.eval args s none [] s = some y := by
  obtain ⟨x, y', e1, e2, -, -⟩ := cmp_v (Or.inl h)
  rw [own_eqv e1 hb h hk] at e1; exact e1
theorem own_ev' {y : Value} (hb : t.eval args s none [] s = some y) (h : (Jvm.Cond.eq t u).value args s none s [] = some true) (hk : own_pl y = true := by rfl) : u.eval args s none [] s = some y := by
  obtain ⟨x, y', e1, e2, -, -⟩ := cmp_v (Or.inl h)
  cases hb.symm.trans e1
  cases y <;> cases y' <;> simp [Jvm.Cond.value, e1, e2, own_pl] at h hk ⊢ <;> simp_all
theorem own_elem (ev : t.eval args s none [] s = some (.ref a)) (hu : u.eval args s none [] s = some v) (h : (Jvm.Cond.eq (.elem t (.int j)) u).value args s none s [] = some true) (hc : s.heap[a]? = some cl) (hk : own_pl v = true := by rfl) : cl.slots[j.toNatClampNeg]? = some v := by
  have e1 := own_ev hu h hk
  obtain ⟨c', e3, e4, e5⟩ := elem_at e1 ev (Term.int_eval j)
  cases hc.symm.trans e3; exact e5
theorem own_arr (hf : Fit s) (ev : t.eval args s none [] s = some (.ref a)) (h1 : (Jvm.Cond.arrayOf t ty).value args s none s [] = some true) (h2 : (Jvm.Cond.eq (.length t) (.int n)).value args s none s [] = some true) (hn : ¬ n < 0) (hl : n.toNatClampNeg = vs.length)
    (he : ∀ cl : Cell, s.heap[a]? = some cl → s.arrayAt? a = some cl → cl.slots.size = n.toNatClampNeg → HasL cl 0 vs) : ∃ k, Arv s s.heap a k ty n vs dv := by
  obtain ⟨cl, A⟩ := Arr.start ev h1
  have e1 := own_ev (Term.int_eval n) h2
  obtain ⟨a', cl', b1, b2, b3⟩ := Term.length_spec e1
  cases ev.symm.trans b1
  have hc' := (State.arrayAt?_spec b2).1
  cases A.1.symm.trans hc'
  have hsz : cl.slots.size.toInt32 = n := (Value.int.inj b3).symm
  have hlt : cl.slots.size < 2 ^ 31 := by
    by_cases q : cl.slots.size < 2147483648
    · exact q
    · simp [Term.eval, ev, b2, q] at e1
  have hS : cl.slots.size = n.toNatClampNeg := by rw [← hsz]; simp only [Int32.toNatClampNeg, len_toInt hlt]; rfl
  exact ⟨_, Arv.start hf A hlt hsz hn hl (he cl hc' b2 hS)⟩
theorem own_allat {C nm d : String} {i : Nat} {b : Int32} (hi : j.toNatClampNeg = i) (hj : ¬ j < 0) (ev : (Term.static C nm d).eval args s none [] s = some (.ref a)) (hc : s.heap[a]? = some cl) (ha : s.arrayAt? a = some cl) (hlt : i < cl.slots.size) (hb : ¬ b ≤ j)
    (h : (Jvm.Cond.all (.static C nm d) (.or (.le (.int b) (.index 0)) (.eq (.elem (.static C nm d) (.index 0)) (.index 0)))).value args s none s [] = some true) : cl.slots[i]? = some (.int j) := by
  have h' := Cond.all_elim ev ha h i hlt
  subst hi
  have e1 : (Term.index 0).eval args s none [j.toNatClampNeg] s = some (.int j) := idx_at hj
  have e2 : (Jvm.Cond.le (.int b) (.index 0)).value args s none s [j.toNatClampNeg] = some false := by
    rw [Cond.le_ints (Term.int_eval b) e1]; simp [hb]
  rw [Cond.or_of_right e2] at h'
  obtain ⟨x, y, q1, q2, -, -⟩ := cmp_v (Or.inl h')
  have q := own_eqv q1 e1 h'
  subst q
  obtain ⟨c', e3, e4, e5⟩ := elem_at q1 (show (Term.static C nm d).eval args s none [j.toNatClampNeg] s = some (.ref a) from ev) e1
  cases hc.symm.trans e3; exact e5
end OwnCase
theorem own_bm32 {n : Int} (h1 : -2147483648 ≤ n) (h2 : n < 2147483648) : n.bmod (2 ^ 32) = n := Int.bmod_eq_of_le (by omega) (by omega)
theorem own_modlt (x : Int32) (n : Int32) (hn : 0 < n.toInt) : 0 ≤ ((x &&& 2147483647) % n).toInt ∧ ((x &&& 2147483647) % n).toInt < n.toInt := by
  have e := Jvm.Kit.i32_mask x 2147483647 (k := 31) (by decide) (by decide)
  rw [Int32.toInt_mod, e]
  have h0 : 0 ≤ x.toInt % 2 ^ 31 := Int.emod_nonneg _ (by decide)
  rw [Int.tmod_eq_emod_of_nonneg h0]
  exact ⟨Int.emod_nonneg _ (by omega), Int.emod_lt_of_pos _ hn⟩
theorem own_i32 {x : Int32} {k : Int32} (h : x.toInt = k.toInt) : x = k := Int32.toInt_inj.mp h
theorem own_in2 {x : Int32} (h : 0 ≤ x.toInt ∧ x.toInt < 2) : x = 0 ∨ x = 1 := by
  rcases (by omega : x.toInt = 0 ∨ x.toInt = 1) with q | q
  · exact .inl (own_i32 (k := 0) q)
  · exact .inr (own_i32 (k := 1) q)
theorem own_in3 {x : Int32} (h : 0 ≤ x.toInt ∧ x.toInt < 3) : x = 0 ∨ x = 1 ∨ x = 2 := by
  rcases (by omega : x.toInt = 0 ∨ x.toInt = 1 ∨ x.toInt = 2) with q | q | q
  · exact .inl (own_i32 (k := 0) q)
  · exact .inr (.inl (own_i32 (k := 1) q))
  · exact .inr (.inr (own_i32 (k := 2) q))
theorem own_in4 {x : Int32} (h : 0 ≤ x.toInt ∧ x.toInt < 4) : x = 0 ∨ x = 1 ∨ x = 2 ∨ x = 3 := by
  rcases (by omega : x.toInt = 0 ∨ x.toInt = 1 ∨ x.toInt = 2 ∨ x.toInt = 3) with q | q | q | q
  · exact .inl (own_i32 (k := 0) q)
  · exact .inr (.inl (own_i32 (k := 1) q))
  · exact .inr (.inr (.inl (own_i32 (k := 2) q)))
  · exact .inr (.inr (.inr (own_i32 (k := 3) q)))
theorem own_in5 {x : Int32} (h : 0 ≤ x.toInt ∧ x.toInt < 5) : x = 0 ∨ x = 1 ∨ x = 2 ∨ x = 3 ∨ x = 4 := by
  rcases (by omega : x.toInt = 0 ∨ x.toInt = 1 ∨ x.toInt = 2 ∨ x.toInt = 3 ∨ x.toInt = 4) with q | q | q | q | q
  · exact .inl (own_i32 (k := 0) q)
  · exact .inr (.inl (own_i32 (k := 1) q))
  · exact .inr (.inr (.inl (own_i32 (k := 2) q)))
  · exact .inr (.inr (.inr (.inl (own_i32 (k := 3) q))))
  · exact .inr (.inr (.inr (.inr (own_i32 (k := 4) q))))
theorem own_in6 {x : Int32} (h : 0 ≤ x.toInt ∧ x.toInt < 6) : x = 0 ∨ x = 1 ∨ x = 2 ∨ x = 3 ∨ x = 4 ∨ x = 5 := by
  rcases (by omega : x.toInt = 0 ∨ x.toInt = 1 ∨ x.toInt = 2 ∨ x.toInt = 3 ∨ x.toInt = 4 ∨ x.toInt = 5) with q | q | q | q | q | q
  · exact .inl (own_i32 (k := 0) q)
  · exact .inr (.inl (own_i32 (k := 1) q))
  · exact .inr (.inr (.inl (own_i32 (k := 2) q)))
  · exact .inr (.inr (.inr (.inl (own_i32 (k := 3) q))))
  · exact .inr (.inr (.inr (.inr (.inl (own_i32 (k := 4) q)))))
  · exact .inr (.inr (.inr (.inr (.inr (own_i32 (k := 5) q)))))
theorem own_in7 {x : Int32} (h : 0 ≤ x.toInt ∧ x.toInt < 7) : x = 0 ∨ x = 1 ∨ x = 2 ∨ x = 3 ∨ x = 4 ∨ x = 5 ∨ x = 6 := by
  rcases (by omega : x.toInt = 0 ∨ x.toInt = 1 ∨ x.toInt = 2 ∨ x.toInt = 3 ∨ x.toInt = 4 ∨ x.toInt = 5 ∨ x.toInt = 6) with q | q | q | q | q | q | q
  · exact .inl (own_i32 (k := 0) q)
  · exact .inr (.inl (own_i32 (k := 1) q))
  · exact .inr (.inr (.inl (own_i32 (k := 2) q)))
  · exact .inr (.inr (.inr (.inl (own_i32 (k := 3) q))))
  · exact .inr (.inr (.inr (.inr (.inl (own_i32 (k := 4) q)))))
  · exact .inr (.inr (.inr (.inr (.inr (.inl (own_i32 (k := 5) q))))))
  · exact .inr (.inr (.inr (.inr (.inr (.inr (own_i32 (k := 6) q))))))
theorem own_ef0 (m : MethodId) (x0 : Int32) : entryFrame m #[(.int x0)] maxLocals = mkF m 0 #[.val (.int x0), .unset, .unset, .unset, .unset] [] := by first | (simp [entryFrame, mkF, argsToLocals, Value.category, maxLocals]; done) | rfl
theorem own_ef1 (m : MethodId) (x0 : Int32) : entryFrame m #[(.int x0)] 1 = mkF m 0 #[.val (.int x0)] [] := by first | (simp [entryFrame, mkF, argsToLocals, Value.category]; done) | rfl
theorem dd0_0 : decode method_2_code 0 = .ok (.iload_n 0, 1) := by decide +kernel
theorem dd0_1 : decode method_2_code 1 = .ok (.ifCond .ne 32, 3) := by decide +kernel
theorem dd0_4 : decode method_2_code 4 = .ok (.iconst 5, 1) := by decide +kernel
theorem dd0_5 : decode method_2_code 5 = .ok (.newarray .char, 2) := by decide +kernel
theorem dd0_7 : decode method_2_code 7 = .ok (.dup, 1) := by decide +kernel
theorem dd0_8 : decode method_2_code 8 = .ok (.iconst 0, 1) := by decide +kernel
theorem dd0_9 : decode method_2_code 9 = .ok (.bipush 100, 2) := by decide +kernel
theorem dd0_11 : decode method_2_code 11 = .ok (.castore, 1) := by decide +kernel
theorem dd0_12 : decode method_2_code 12 = .ok (.dup, 1) := by decide +kernel
theorem dd0_13 : decode method_2_code 13 = .ok (.iconst 1, 1) := by decide +kernel
theorem dd0_14 : decode method_2_code 14 = .ok (.bipush 114, 2) := by decide +kernel
theorem dd0_16 : decode method_2_code 16 = .ok (.castore, 1) := by decide +kernel
theorem dd0_17 : decode method_2_code 17 = .ok (.dup, 1) := by decide +kernel
theorem dd0_18 : decode method_2_code 18 = .ok (.iconst 2, 1) := by decide +kernel
theorem dd0_19 : decode method_2_code 19 = .ok (.bipush 97, 2) := by decide +kernel
theorem dd0_21 : decode method_2_code 21 = .ok (.castore, 1) := by decide +kernel
theorem dd0_22 : decode method_2_code 22 = .ok (.dup, 1) := by decide +kernel
theorem dd0_23 : decode method_2_code 23 = .ok (.iconst 3, 1) := by decide +kernel
theorem dd0_24 : decode method_2_code 24 = .ok (.bipush 102, 2) := by decide +kernel
theorem dd0_26 : decode method_2_code 26 = .ok (.castore, 1) := by decide +kernel
theorem dd0_27 : decode method_2_code 27 = .ok (.dup, 1) := by decide +kernel
theorem dd0_28 : decode method_2_code 28 = .ok (.iconst 4, 1) := by decide +kernel
theorem dd0_29 : decode method_2_code 29 = .ok (.bipush 116, 2) := by decide +kernel
theorem dd0_31 : decode method_2_code 31 = .ok (.castore, 1) := by decide +kernel
theorem dd0_32 : decode method_2_code 32 = .ok (.areturn, 1) := by decide +kernel
def own_Q2 (Z : State)  (h0 : Heap) (n0 : Nat) (v : Option Value) (h : Heap) (L : List Loc) : Prop := (∃ ob_53 : Nat, ∃ kk_51 : ClassId, v = some (.ref ob_53) ∧ Fr n0 L ∧ Keep h0 h [] ∧ h0.size ≤ ob_53 ∧ Arv Z h ob_53 kk_51 .char 5 [(.int 100), (.int 114), (.int 97), (.int 102), (.int 116)] (.int 0) ∧ Exa Z h ob_53 "[C" ∧ @LT.lt Nat instLTNat ob_53 h.size)
theorem own_pn0 : plainFor (⟨"com/example/vestibule/vestibule/datacite/DoiStateOfKeyPinLaw", "keyChars", "(I)[C"⟩ : MethodName) = true := by decide +kernel
set_option maxRecDepth 65536 in
set_option maxHeartbeats 40000000 in
theorem own_rm2 (l : Launch) (Z : State) (a0 : Array Value) (hw : ∀ d ∈ tables_1, d.before a0 Z = true) (ws : List Jvm.Cond)  (h0 : Heap) (n0 : Nat) (Z0 : n0 ≤ h0.size) (O0 : Old Z n0 h0)  :
    own_Met l Z h0 (⟨"com/example/vestibule/vestibule/datacite/DoiStateOfKeyPinLaw", "keyChars", "(I)[C"⟩ : MethodName) method_2_code 1 (Option.some (FieldType.array FieldType.char)) ws ({ frames := 0, cells := 1, slots := 5, locals := 0 } : Room) #[(.int 0)] (own_Q2 Z  h0 n0) 1 5 := by
  refine MetFree.of_bodySF own_pn0 hisR ?_
  intro p e s m args below meth c s₁ Bd hml0 hP hK
  obtain ⟨rfl, hZ, hh⟩ := hP
  have hx := Bd.exec
  have hby := Bd.bytes
  have hml : c.maxLocals = 1 := hml0
  have hown : s.vm.findClass "com/example/vestibule/vestibule/datacite/DoiStateOfKeyPinLaw" = some m.cls := findClass_of_methodNamed Bd.named
  have hnm := (name_of_methodNamed Bd.named Bd.method).1
  have X0 : Stand p l e ({ frames := 0, cells := 1, slots := 5, locals := 0 } : Room) s m #[(.int 0)] below meth c s₁ [] 0 0 := Stand.of_body Bd
  have e0 : s₁.heap = h0 := by rw [← hh, Bd.state]; rfl
  have N0 := Fr.nil n0
  show own_G p e below (s₁.setTop (entryFrame m #[(.int 0)] 1)) (own_P s (own_Q2 Z  h0 n0) 1 5)
  refine own_cast (own_ef1 m 0) ?_
  show own_G p e below (s₁.setTop (mkF m 0 #[iv 0] [])) _
  refine oS (fun _ => XS.iloadN X0.here hx rfl (hb hby dd0_0) rfl) ?_
  refine oS (fun _ => XS.ifNo X0.here hx rfl (hb hby dd0_1) rfl (XT.i0_ne_f (by decide))) ?_
  show own_G p e below (s₁.setTop (mkF m 4 #[iv 0] [])) _
  refine oS (fun _ => XS.iconst X0.here hx rfl (hb hby dd0_4) ) ?_
  obtain ⟨T42, h43, kk_51, X45, e46, E47, A48, B52, s49⟩ := own_newP X0 hx hZ (aty := .char) (oW hw 11 rfl) e0 (nm := "[C") rfl (g := (mkF m 5 #[iv 0] [(.int 5)])) rfl (hb hby dd0_5) (n := 5) (rest := []) rfl (by decide) (cap := 5) (by decide) (by decide) (by decide) (by decide)
  obtain ⟨ob_53, g54⟩ : ∃ z, z = h0.size := ⟨_, rfl⟩
  rw [← g54] at A48 B52 s49
  have F55 : Arv Z h43 ob_53 kk_51 .char 5 [(.int 0), (.int 0), (.int 0), (.int 0), (.int 0)] (.int 0) := own_newA A48 (by decide) rfl rfl
  have z56 := E47.1
  have y50 : @LT.lt Nat instLTNat ob_53 h43.size := F55.lt
  refine oS s49 ?_
  show own_G p e below (T42.setTop (mkF m 7 #[iv 0] [(.ref ob_53)])) _
  refine oS (fun _ => XS.dup X45.here hx rfl (hb hby dd0_7) rfl rfl) ?_
  refine oS (fun _ => XS.iconst X45.here hx rfl (hb hby dd0_8) ) ?_
  refine oS (fun _ => XS.bipush X45.here hx rfl (hb hby dd0_9) ) ?_
  obtain ⟨T57, h58, X59, e60, W61, A62, s63⟩ := own_stC X45 hx hZ e46 F55 (x' := 100) 0 (by decide) rfl (by decide) (by simp) (g := (mkF m 11 #[iv 0] [(.int 100), (.int 0), (.ref ob_53), (.ref ob_53)])) rfl (rest := [(.ref ob_53)]) rfl (hb hby dd0_11)
  have N65 : n0 ≤ ob_53 := by omega
  have N64 := Fr.snoc X59 N0 N65
  have z66 := W61.size
  have F67 : Arv Z h58 ob_53 kk_51 .char 5 [(.int 100), (.int 0), (.int 0), (.int 0), (.int 0)] (.int 0) := A62
  refine oS s63 ?_
  show own_G p e below (T57.setTop (mkF m 12 #[iv 0] [(.ref ob_53)])) _
  refine oS (fun _ => XS.dup X59.here hx rfl (hb hby dd0_12) rfl rfl) ?_
  refine oS (fun _ => XS.iconst X59.here hx rfl (hb hby dd0_13) ) ?_
  refine oS (fun _ => XS.bipush X59.here hx rfl (hb hby dd0_14) ) ?_
  obtain ⟨T68, h69, X70, e71, W72, A73, s74⟩ := own_stC X59 hx hZ e60 F67 (x' := 114) 1 (by decide) rfl (by decide) (by simp) (g := (mkF m 16 #[iv 0] [(.int 114), (.int 1), (.ref ob_53), (.ref ob_53)])) rfl (rest := [(.ref ob_53)]) rfl (hb hby dd0_16)
  have N75 := Fr.snoc X70 N64 N65
  have z76 := W72.size
  have F77 : Arv Z h69 ob_53 kk_51 .char 5 [(.int 100), (.int 114), (.int 0), (.int 0), (.int 0)] (.int 0) := A73
  refine oS s74 ?_
  show own_G p e below (T68.setTop (mkF m 17 #[iv 0] [(.ref ob_53)])) _
  refine oS (fun _ => XS.dup X70.here hx rfl (hb hby dd0_17) rfl rfl) ?_
  refine oS (fun _ => XS.iconst X70.here hx rfl (hb hby dd0_18) ) ?_
  refine oS (fun _ => XS.bipush X70.here hx rfl (hb hby dd0_19) ) ?_
  obtain ⟨T78, h79, X80, e81, W82, A83, s84⟩ := own_stC X70 hx hZ e71 F77 (x' := 97) 2 (by decide) rfl (by decide) (by simp) (g := (mkF m 21 #[iv 0] [(.int 97), (.int 2), (.ref ob_53), (.ref ob_53)])) rfl (rest := [(.ref ob_53)]) rfl (hb hby dd0_21)
  have N85 := Fr.snoc X80 N75 N65
  have z86 := W82.size
  have F87 : Arv Z h79 ob_53 kk_51 .char 5 [(.int 100), (.int 114), (.int 97), (.int 0), (.int 0)] (.int 0) := A83
  refine oS s84 ?_
  show own_G p e below (T78.setTop (mkF m 22 #[iv 0] [(.ref ob_53)])) _
  refine oS (fun _ => XS.dup X80.here hx rfl (hb hby dd0_22) rfl rfl) ?_
  refine oS (fun _ => XS.iconst X80.here hx rfl (hb hby dd0_23) ) ?_
  refine oS (fun _ => XS.bipush X80.here hx rfl (hb hby dd0_24) ) ?_
  obtain ⟨T88, h89, X90, e91, W92, A93, s94⟩ := own_stC X80 hx hZ e81 F87 (x' := 102) 3 (by decide) rfl (by decide) (by simp) (g := (mkF m 26 #[iv 0] [(.int 102), (.int 3), (.ref ob_53), (.ref ob_53)])) rfl (rest := [(.ref ob_53)]) rfl (hb hby dd0_26)
  have N95 := Fr.snoc X90 N85 N65
  have z96 := W92.size
  have F97 : Arv Z h89 ob_53 kk_51 .char 5 [(.int 100), (.int 114), (.int 97), (.int 102), (.int 0)] (.int 0) := A93
  refine oS s94 ?_
  show own_G p e below (T88.setTop (mkF m 27 #[iv 0] [(.ref ob_53)])) _
  refine oS (fun _ => XS.dup X90.here hx rfl (hb hby dd0_27) rfl rfl) ?_
  refine oS (fun _ => XS.iconst X90.here hx rfl (hb hby dd0_28) ) ?_
  refine oS (fun _ => XS.bipush X90.here hx rfl (hb hby dd0_29) ) ?_
  obtain ⟨T98, h99, X100, e101, W102, A103, s104⟩ := own_stC X90 hx hZ e91 F97 (x' := 116) 4 (by decide) rfl (by decide) (by simp) (g := (mkF m 31 #[iv 0] [(.int 116), (.int 4), (.ref ob_53), (.ref ob_53)])) rfl (rest := [(.ref ob_53)]) rfl (hb hby dd0_31)
  have N105 := Fr.snoc X100 N95 N65
  have z106 := W102.size
  have F107 : Arv Z h99 ob_53 kk_51 .char 5 [(.int 100), (.int 114), (.int 97), (.int 102), (.int 116)] (.int 0) := A103
  refine oS s104 ?_
  show own_G p e below (T98.setTop (mkF m 32 #[iv 0] [(.ref ob_53)])) _
  have F108 : Exa Z h58 ob_53 "[C" := Exa.wr W61 B52
  have F109 : Exa Z h69 ob_53 "[C" := Exa.wr W72 F108
  have F110 : Exa Z h79 ob_53 "[C" := Exa.wr W82 F109
  have F111 : Exa Z h89 ob_53 "[C" := Exa.wr W92 F110
  have F112 : Exa Z h99 ob_53 "[C" := Exa.wr W102 F111
  have y113 : @LT.lt Nat instLTNat ob_53 h99.size := by omega
  have K114 : Keep h0 h99 [] := (((((((Keep.refl h0 []).ext E47).wr W61 (Or.inr (by omega))).wr W72 (Or.inr (by omega))).wr W82 (Or.inr (by omega))).wr W92 (Or.inr (by omega))).wr W102 (Or.inr (by omega)))
  exact own_retA X100 hx Bd.notSynchronized Bd.returns rfl rfl (hb hby dd0_32) e101 (by decide) (by decide) (⟨ob_53, kk_51, rfl, N105, K114, (by omega), F107, F112, y113⟩)
theorem own_pd0 : parseMethodDescriptor "(I)[C" = some ⟨[.int], (some (.array .char))⟩ := by decide +kernel
theorem own_ef2 (m : MethodId) (x0 : Addr) (x1 : Addr) : entryFrame m #[(.ref x0), (.ref x1)] 2 = mkF m 0 #[.val (.ref x0), .val (.ref x1)] [] := by first | (simp [entryFrame, mkF, argsToLocals, Value.category]; done) | rfl
theorem dd1_0 : decode jdk_42_method_3_code 0 = .ok (.aload_n 0, 1) := by decide +kernel
theorem dd1_1 : decode jdk_42_method_3_code 1 = .ok (.aload_n 1, 1) := by decide +kernel
theorem dd1_2 : decode jdk_42_method_3_code 2 = .ok (.iconst 0, 1) := by decide +kernel
theorem dd1_3 : decode jdk_42_method_3_code 3 = .ok (.aload_n 1, 1) := by decide +kernel
theorem dd1_4 : decode jdk_42_method_3_code 4 = .ok (.arraylength, 1) := by decide +kernel
theorem dd1_5 : decode jdk_42_method_3_code 5 = .ok (.aconst_null, 1) := by decide +kernel
theorem own_ef3 (m : MethodId) (x0 : Addr) (x1 : Addr) (x2 : Int32) (x3 : Int32) : entryFrame m #[(.ref x0), (.ref x1), (.int x2), (.int x3), .null] 6 = mkF m 0 #[.val (.ref x0), .val (.ref x1), .val (.int x2), .val (.int x3), .val .null, .unset] [] := by first | (simp [entryFrame, mkF, argsToLocals, Value.category]; done) | rfl
theorem dd2_0 : decode jdk_42_method_149_code 0 = .ok (.aload_n 0, 1) := by decide +kernel
theorem dd2_1 : decode jdk_42_method_149_code 1 = .ok (.invokespecial 1, 3) := by decide +kernel
theorem dd2_4 : decode jdk_42_method_149_code 4 = .ok (.iload_n 3, 1) := by decide +kernel
theorem dd2_5 : decode jdk_42_method_149_code 5 = .ok (.ifCond .ne 22, 3) := by decide +kernel
theorem dd2_27 : decode jdk_42_method_149_code 27 = .ok (.getstatic 38, 3) := by decide +kernel
theorem dd2_30 : decode jdk_42_method_149_code 30 = .ok (.ifCond .eq 28, 3) := by decide +kernel
theorem dd2_33 : decode jdk_42_method_149_code 33 = .ok (.aload_n 1, 1) := by decide +kernel
theorem dd2_34 : decode jdk_42_method_149_code 34 = .ok (.iload_n 2, 1) := by decide +kernel
theorem dd2_35 : decode jdk_42_method_149_code 35 = .ok (.iload_n 3, 1) := by decide +kernel
theorem own_ef4 (m : MethodId) (x0 : Addr) (x1 : Int32) (x2 : Int32) : entryFrame m #[(.ref x0), (.int x1), (.int x2)] 6 = mkF m 0 #[.val (.ref x0), .val (.int x1), .val (.int x2), .unset, .unset, .unset] [] := by first | (simp [entryFrame, mkF, argsToLocals, Value.category]; done) | rfl
theorem dd3_0 : decode jdk_52_method_16_code 0 = .ok (.iload_n 2, 1) := by decide +kernel
theorem dd3_1 : decode jdk_52_method_16_code 1 = .ok (.newarray .byte, 2) := by decide +kernel
theorem dd3_3 : decode jdk_52_method_16_code 3 = .ok (.astore_n 3, 1) := by decide +kernel
theorem dd3_4 : decode jdk_52_method_16_code 4 = .ok (.aload_n 0, 1) := by decide +kernel
theorem dd3_5 : decode jdk_52_method_16_code 5 = .ok (.iload_n 1, 1) := by decide +kernel
theorem dd3_6 : decode jdk_52_method_16_code 6 = .ok (.aload_n 3, 1) := by decide +kernel
theorem dd3_7 : decode jdk_52_method_16_code 7 = .ok (.iconst 0, 1) := by decide +kernel
theorem dd3_8 : decode jdk_52_method_16_code 8 = .ok (.iload_n 2, 1) := by decide +kernel
theorem own_ef5 (m : MethodId) (x0 : Addr) (x1 : Int32) (x2 : Addr) (x3 : Int32) (x4 : Int32) : entryFrame m #[(.ref x0), (.int x1), (.ref x2), (.int x3), (.int x4)] 7 = mkF m 0 #[.val (.ref x0), .val (.int x1), .val (.ref x2), .val (.int x3), .val (.int x4), .unset, .unset] [] := by first | (simp [entryFrame, mkF, argsToLocals, Value.category]; done) | rfl
theorem dd4_0 : decode jdk_52_method_21_code 0 = .ok (.iconst 0, 1) := by decide +kernel
theorem dd4_1 : decode jdk_52_method_21_code 1 = .ok (.istore 5, 2) := by decide +kernel
theorem dd4_3 : decode jdk_52_method_21_code 3 = .ok (.iload 5, 2) := by decide +kernel
theorem dd4_5 : decode jdk_52_method_21_code 5 = .ok (.iload 4, 2) := by decide +kernel
theorem dd4_7 : decode jdk_52_method_21_code 7 = .ok (.if_icmp .ge 37, 3) := by decide +kernel
theorem dd4_10 : decode jdk_52_method_21_code 10 = .ok (.aload_n 0, 1) := by decide +kernel
theorem dd4_11 : decode jdk_52_method_21_code 11 = .ok (.iload_n 1, 1) := by decide +kernel
theorem dd4_12 : decode jdk_52_method_21_code 12 = .ok (.caload, 1) := by decide +kernel
theorem dd4_13 : decode jdk_52_method_21_code 13 = .ok (.istore 6, 2) := by decide +kernel
theorem dd4_15 : decode jdk_52_method_21_code 15 = .ok (.iload 6, 2) := by decide +kernel
theorem dd4_17 : decode jdk_52_method_21_code 17 = .ok (.sipush 255, 3) := by decide +kernel
theorem dd4_20 : decode jdk_52_method_21_code 20 = .ok (.if_icmp .le 6, 3) := by decide +kernel
theorem dd4_26 : decode jdk_52_method_21_code 26 = .ok (.aload_n 2, 1) := by decide +kernel
theorem dd4_27 : decode jdk_52_method_21_code 27 = .ok (.iload_n 3, 1) := by decide +kernel
theorem dd4_28 : decode jdk_52_method_21_code 28 = .ok (.iload 6, 2) := by decide +kernel
theorem dd4_30 : decode jdk_52_method_21_code 30 = .ok (.i2b, 1) := by decide +kernel
theorem dd4_31 : decode jdk_52_method_21_code 31 = .ok (.bastore, 1) := by decide +kernel
theorem dd4_32 : decode jdk_52_method_21_code 32 = .ok (.iinc 1 1, 3) := by decide +kernel
theorem dd4_35 : decode jdk_52_method_21_code 35 = .ok (.iinc 3 1, 3) := by decide +kernel
theorem dd4_38 : decode jdk_52_method_21_code 38 = .ok (.iinc 5 1, 3) := by decide +kernel
theorem dd4_41 : decode jdk_52_method_21_code 41 = .ok (.goto (-38), 3) := by decide +kernel
theorem dd4_44 : decode jdk_52_method_21_code 44 = .ok (.iload 4, 2) := by decide +kernel
theorem dd4_46 : decode jdk_52_method_21_code 46 = .ok (.ireturn, 1) := by decide +kernel
def own_Q6 (Z : State) (ob_125 : Nat) (ob_162 : Nat) (kk_126 : ClassId) (kk_160 : ClassId) (h0 : Heap) (n0 : Nat) (v : Option Value) (h : Heap) (L : List Loc) : Prop := (v = some (.int 5) ∧ Fr n0 L ∧ Keep h0 h [ob_162] ∧ Arv Z h ob_162 kk_160 .byte 5 [(.int 100), (.int 114), (.int 97), (.int 102), (.int 116)] (.int 0) ∧ Exa Z h ob_162 "[B")
theorem own_pn1 : plainFor (⟨"java/lang/StringUTF16", "compress", "([CI[BII)I"⟩ : MethodName) = true := by decide +kernel
set_option maxRecDepth 65536 in
set_option maxHeartbeats 40000000 in
theorem own_rm6 (l : Launch) (Z : State) (a0 : Array Value) (hw : ∀ d ∈ tables_1, d.before a0 Z = true) (ws : List Jvm.Cond) (ob_125 : Nat) (ob_162 : Nat) (kk_126 : ClassId) (kk_160 : ClassId) (h0 : Heap) (n0 : Nat) (Z0 : n0 ≤ h0.size) (O0 : Old Z n0 h0) (I169 : Arv Z h0 ob_125 kk_126 .char 5 [(.int 100), (.int 114), (.int 97), (.int 102), (.int 116)] (.int 0)) (I170 : Arv Z h0 ob_162 kk_160 .byte 5 [(.int 0), (.int 0), (.int 0), (.int 0), (.int 0)] (.int 0)) (I180 : n0 ≤ ob_162) (I189 : @Ne Nat ob_125 ob_162) (I234 : Exa Z h0 ob_162 "[B") :
    own_Met l Z h0 (⟨"java/lang/StringUTF16", "compress", "([CI[BII)I"⟩ : MethodName) jdk_52_method_21_code 7 (Option.some FieldType.int) ws ({ frames := 0, cells := 0, slots := 0, locals := 0 } : Room) #[(.ref ob_125), (.int 0), (.ref ob_162), (.int 0), (.int 5)] (own_Q6 Z ob_125 ob_162 kk_126 kk_160 h0 n0) 0 0 := by
  refine MetFree.of_bodySF own_pn1 hisR ?_
  intro p e s m args below meth c s₁ Bd hml0 hP hK
  obtain ⟨rfl, hZ, hh⟩ := hP
  have hx := Bd.exec
  have hby := Bd.bytes
  have hml : c.maxLocals = 7 := hml0
  have hown : s.vm.findClass "java/lang/StringUTF16" = some m.cls := findClass_of_methodNamed Bd.named
  have hnm := (name_of_methodNamed Bd.named Bd.method).1
  have X0 : Stand p l e ({ frames := 0, cells := 0, slots := 0, locals := 0 } : Room) s m #[(.ref ob_125), (.int 0), (.ref ob_162), (.int 0), (.int 5)] below meth c s₁ [] 0 0 := Stand.of_body Bd
  have e0 : s₁.heap = h0 := by rw [← hh, Bd.state]; rfl
  have N0 := Fr.nil n0
  show own_G p e below (s₁.setTop (entryFrame m #[(.ref ob_125), (.int 0), (.ref ob_162), (.int 0), (.int 5)] 7)) (own_P s (own_Q6 Z ob_125 ob_162 kk_126 kk_160 h0 n0) 0 0)
  refine own_cast (own_ef5 m ob_125 0 ob_162 0 5) ?_
  show own_G p e below (s₁.setTop (mkF m 0 #[rv ob_125, iv 0, rv ob_162, iv 0, iv 5, .unset, .unset] [])) _
  refine oS (fun _ => XS.iconst X0.here hx rfl (hb hby dd4_0) ) ?_
  refine oS (fun _ => XS.istore X0.here hx rfl (hb hby dd4_1) rfl (l' := #[rv ob_125, iv 0, rv ob_162, iv 0, iv 5, iv 0, .unset]) rfl) ?_
  refine oS (fun _ => XS.iload X0.here hx rfl (hb hby dd4_3) rfl) ?_
  refine oS (fun _ => XS.iload X0.here hx rfl (hb hby dd4_5) rfl) ?_
  show own_G p e below (s₁.setTop (mkF m 7 #[rv ob_125, iv 0, rv ob_162, iv 0, iv 5, iv 0, .unset] [(.int 5), (.int 0)])) _
  refine oS (fun _ => XS.icmpNo X0.here hx rfl (hb hby dd4_7) rfl (XT.ii_ge_f (by decide))) ?_
  show own_G p e below (s₁.setTop (mkF m 10 #[rv ob_125, iv 0, rv ob_162, iv 0, iv 5, iv 0, .unset] [])) _
  refine oS (fun _ => XS.aloadN X0.here hx rfl (hb hby dd4_10) rfl rfl) ?_
  refine oS (fun _ => XS.iloadN X0.here hx rfl (hb hby dd4_11) rfl) ?_
  refine oS (own_caload X0 hx hZ e0 I169 (by decide) (v := (.int 100)) rfl rfl rfl (hb hby dd4_12)) ?_
  show own_G p e below (s₁.setTop (mkF m 13 #[rv ob_125, iv 0, rv ob_162, iv 0, iv 5, iv 0, .unset] [(.int 100)])) _
  refine oS (fun _ => XS.istore X0.here hx rfl (hb hby dd4_13) rfl (l' := #[rv ob_125, iv 0, rv ob_162, iv 0, iv 5, iv 0, iv 100]) rfl) ?_
  refine oS (fun _ => XS.iload X0.here hx rfl (hb hby dd4_15) rfl) ?_
  refine oS (fun _ => XS.sipush X0.here hx rfl (hb hby dd4_17) ) ?_
  refine oS (fun _ => XS.icmpYes X0.here hx rfl (pc0 := 20) (pc' := 26) rfl (hb hby dd4_20) rfl (XT.ii_le_t (by decide)) (by decide) (by decide)) ?_
  show own_G p e below (s₁.setTop (mkF m 26 #[rv ob_125, iv 0, rv ob_162, iv 0, iv 5, iv 0, iv 100] [])) _
  refine oS (fun _ => XS.aloadN X0.here hx rfl (hb hby dd4_26) rfl rfl) ?_
  refine oS (fun _ => XS.iloadN X0.here hx rfl (hb hby dd4_27) rfl) ?_
  refine oS (fun _ => XS.iload X0.here hx rfl (hb hby dd4_28) rfl) ?_
  refine oS (fun _ => XT.i2b X0.here hx rfl (hb hby dd4_30) rfl) ?_
  show own_G p e below (s₁.setTop (mkF m 31 #[rv ob_125, iv 0, rv ob_162, iv 0, iv 5, iv 0, iv 100] [(.int 100), (.int 0), (.ref ob_162)])) _
  obtain ⟨T171, h172, X173, e174, W175, A176, s177⟩ := own_stB X0 hx hZ e0 I170 (x' := 100) 0 (by decide) rfl (by decide) (by simp) (g := (mkF m 31 #[rv ob_125, iv 0, rv ob_162, iv 0, iv 5, iv 0, iv 100] [(.int 100), (.int 0), (.ref ob_162)])) rfl (rest := []) rfl (hb hby dd4_31)
  have N178 := Fr.snoc X173 N0 I180
  have z181 := W175.size
  have F182 : Arv Z h172 ob_162 kk_160 .byte 5 [(.int 100), (.int 0), (.int 0), (.int 0), (.int 0)] (.int 0) := A176
  refine oS s177 ?_
  show own_G p e below (T171.setTop (mkF m 32 #[rv ob_125, iv 0, rv ob_162, iv 0, iv 5, iv 0, iv 100] [])) _
  refine oS (fun _ => XS.iinc X173.here hx rfl (hb hby dd4_32) rfl (l' := #[rv ob_125, iv 1, rv ob_162, iv 0, iv 5, iv 0, iv 100]) rfl) ?_
  show own_G p e below (T171.setTop (mkF m 35 #[rv ob_125, iv 1, rv ob_162, iv 0, iv 5, iv 0, iv 100] [])) _
  refine oS (fun _ => XS.iinc X173.here hx rfl (hb hby dd4_35) rfl (l' := #[rv ob_125, iv 1, rv ob_162, iv 1, iv 5, iv 0, iv 100]) rfl) ?_
  show own_G p e below (T171.setTop (mkF m 38 #[rv ob_125, iv 1, rv ob_162, iv 1, iv 5, iv 0, iv 100] [])) _
  refine oS (fun _ => XS.iinc X173.here hx rfl (hb hby dd4_38) rfl (l' := #[rv ob_125, iv 1, rv ob_162, iv 1, iv 5, iv 1, iv 100]) rfl) ?_
  show own_G p e below (T171.setTop (mkF m 41 #[rv ob_125, iv 1, rv ob_162, iv 1, iv 5, iv 1, iv 100] [])) _
  refine oS (fun _ => XS.goto X173.here hx rfl (pc0 := 41) (pc' := 3) rfl (hb hby dd4_41) (by decide) (by decide)) ?_
  show own_G p e below (T171.setTop (mkF m 3 #[rv ob_125, iv 1, rv ob_162, iv 1, iv 5, iv 1, iv 100] [])) _
  refine oS (fun _ => XS.iload X173.here hx rfl (hb hby dd4_3) rfl) ?_
  refine oS (fun _ => XS.iload X173.here hx rfl (hb hby dd4_5) rfl) ?_
  refine oS (fun _ => XS.icmpNo X173.here hx rfl (hb hby dd4_7) rfl (XT.ii_ge_f (by decide))) ?_
  show own_G p e below (T171.setTop (mkF m 10 #[rv ob_125, iv 1, rv ob_162, iv 1, iv 5, iv 1, iv 100] [])) _
  refine oS (fun _ => XS.aloadN X173.here hx rfl (hb hby dd4_10) rfl rfl) ?_
  refine oS (fun _ => XS.iloadN X173.here hx rfl (hb hby dd4_11) rfl) ?_
  have F190 : Arv Z h172 ob_125 kk_126 .char 5 [(.int 100), (.int 114), (.int 97), (.int 102), (.int 116)] (.int 0) := I169.other W175 I189
  refine oS (own_caload X173 hx hZ e174 F190 (by decide) (v := (.int 114)) rfl rfl rfl (hb hby dd4_12)) ?_
  show own_G p e below (T171.setTop (mkF m 13 #[rv ob_125, iv 1, rv ob_162, iv 1, iv 5, iv 1, iv 100] [(.int 114)])) _
  refine oS (fun _ => XS.istore X173.here hx rfl (hb hby dd4_13) rfl (l' := #[rv ob_125, iv 1, rv ob_162, iv 1, iv 5, iv 1, iv 114]) rfl) ?_
  refine oS (fun _ => XS.iload X173.here hx rfl (hb hby dd4_15) rfl) ?_
  refine oS (fun _ => XS.sipush X173.here hx rfl (hb hby dd4_17) ) ?_
  refine oS (fun _ => XS.icmpYes X173.here hx rfl (pc0 := 20) (pc' := 26) rfl (hb hby dd4_20) rfl (XT.ii_le_t (by decide)) (by decide) (by decide)) ?_
  show own_G p e below (T171.setTop (mkF m 26 #[rv ob_125, iv 1, rv ob_162, iv 1, iv 5, iv 1, iv 114] [])) _
  refine oS (fun _ => XS.aloadN X173.here hx rfl (hb hby dd4_26) rfl rfl) ?_
  refine oS (fun _ => XS.iloadN X173.here hx rfl (hb hby dd4_27) rfl) ?_
  refine oS (fun _ => XS.iload X173.here hx rfl (hb hby dd4_28) rfl) ?_
  refine oS (fun _ => XT.i2b X173.here hx rfl (hb hby dd4_30) rfl) ?_
  show own_G p e below (T171.setTop (mkF m 31 #[rv ob_125, iv 1, rv ob_162, iv 1, iv 5, iv 1, iv 114] [(.int 114), (.int 1), (.ref ob_162)])) _
  obtain ⟨T191, h192, X193, e194, W195, A196, s197⟩ := own_stB X173 hx hZ e174 F182 (x' := 114) 1 (by decide) rfl (by decide) (by simp) (g := (mkF m 31 #[rv ob_125, iv 1, rv ob_162, iv 1, iv 5, iv 1, iv 114] [(.int 114), (.int 1), (.ref ob_162)])) rfl (rest := []) rfl (hb hby dd4_31)
  have N198 := Fr.snoc X193 N178 I180
  have z199 := W195.size
  have F200 : Arv Z h192 ob_162 kk_160 .byte 5 [(.int 100), (.int 114), (.int 0), (.int 0), (.int 0)] (.int 0) := A196
  refine oS s197 ?_
  show own_G p e below (T191.setTop (mkF m 32 #[rv ob_125, iv 1, rv ob_162, iv 1, iv 5, iv 1, iv 114] [])) _
  refine oS (fun _ => XS.iinc X193.here hx rfl (hb hby dd4_32) rfl (l' := #[rv ob_125, iv 2, rv ob_162, iv 1, iv 5, iv 1, iv 114]) rfl) ?_
  show own_G p e below (T191.setTop (mkF m 35 #[rv ob_125, iv 2, rv ob_162, iv 1, iv 5, iv 1, iv 114] [])) _
  refine oS (fun _ => XS.iinc X193.here hx rfl (hb hby dd4_35) rfl (l' := #[rv ob_125, iv 2, rv ob_162, iv 2, iv 5, iv 1, iv 114]) rfl) ?_
  show own_G p e below (T191.setTop (mkF m 38 #[rv ob_125, iv 2, rv ob_162, iv 2, iv 5, iv 1, iv 114] [])) _
  refine oS (fun _ => XS.iinc X193.here hx rfl (hb hby dd4_38) rfl (l' := #[rv ob_125, iv 2, rv ob_162, iv 2, iv 5, iv 2, iv 114]) rfl) ?_
  show own_G p e below (T191.setTop (mkF m 41 #[rv ob_125, iv 2, rv ob_162, iv 2, iv 5, iv 2, iv 114] [])) _
  refine oS (fun _ => XS.goto X193.here hx rfl (pc0 := 41) (pc' := 3) rfl (hb hby dd4_41) (by decide) (by decide)) ?_
  show own_G p e below (T191.setTop (mkF m 3 #[rv ob_125, iv 2, rv ob_162, iv 2, iv 5, iv 2, iv 114] [])) _
  refine oS (fun _ => XS.iload X193.here hx rfl (hb hby dd4_3) rfl) ?_
  refine oS (fun _ => XS.iload X193.here hx rfl (hb hby dd4_5) rfl) ?_
  refine oS (fun _ => XS.icmpNo X193.here hx rfl (hb hby dd4_7) rfl (XT.ii_ge_f (by decide))) ?_
  show own_G p e below (T191.setTop (mkF m 10 #[rv ob_125, iv 2, rv ob_162, iv 2, iv 5, iv 2, iv 114] [])) _
  refine oS (fun _ => XS.aloadN X193.here hx rfl (hb hby dd4_10) rfl rfl) ?_
  refine oS (fun _ => XS.iloadN X193.here hx rfl (hb hby dd4_11) rfl) ?_
  have F201 : Arv Z h192 ob_125 kk_126 .char 5 [(.int 100), (.int 114), (.int 97), (.int 102), (.int 116)] (.int 0) := F190.other W195 I189
  refine oS (own_caload X193 hx hZ e194 F201 (by decide) (v := (.int 97)) rfl rfl rfl (hb hby dd4_12)) ?_
  show own_G p e below (T191.setTop (mkF m 13 #[rv ob_125, iv 2, rv ob_162, iv 2, iv 5, iv 2, iv 114] [(.int 97)])) _
  refine oS (fun _ => XS.istore X193.here hx rfl (hb hby dd4_13) rfl (l' := #[rv ob_125, iv 2, rv ob_162, iv 2, iv 5, iv 2, iv 97]) rfl) ?_
  refine oS (fun _ => XS.iload X193.here hx rfl (hb hby dd4_15) rfl) ?_
  refine oS (fun _ => XS.sipush X193.here hx rfl (hb hby dd4_17) ) ?_
  refine oS (fun _ => XS.icmpYes X193.here hx rfl (pc0 := 20) (pc' := 26) rfl (hb hby dd4_20) rfl (XT.ii_le_t (by decide)) (by decide) (by decide)) ?_
  show own_G p e below (T191.setTop (mkF m 26 #[rv ob_125, iv 2, rv ob_162, iv 2, iv 5, iv 2, iv 97] [])) _
  refine oS (fun _ => XS.aloadN X193.here hx rfl (hb hby dd4_26) rfl rfl) ?_
  refine oS (fun _ => XS.iloadN X193.here hx rfl (hb hby dd4_27) rfl) ?_
  refine oS (fun _ => XS.iload X193.here hx rfl (hb hby dd4_28) rfl) ?_
  refine oS (fun _ => XT.i2b X193.here hx rfl (hb hby dd4_30) rfl) ?_
  show own_G p e below (T191.setTop (mkF m 31 #[rv ob_125, iv 2, rv ob_162, iv 2, iv 5, iv 2, iv 97] [(.int 97), (.int 2), (.ref ob_162)])) _
  obtain ⟨T202, h203, X204, e205, W206, A207, s208⟩ := own_stB X193 hx hZ e194 F200 (x' := 97) 2 (by decide) rfl (by decide) (by simp) (g := (mkF m 31 #[rv ob_125, iv 2, rv ob_162, iv 2, iv 5, iv 2, iv 97] [(.int 97), (.int 2), (.ref ob_162)])) rfl (rest := []) rfl (hb hby dd4_31)
  have N209 := Fr.snoc X204 N198 I180
  have z210 := W206.size
  have F211 : Arv Z h203 ob_162 kk_160 .byte 5 [(.int 100), (.int 114), (.int 97), (.int 0), (.int 0)] (.int 0) := A207
  refine oS s208 ?_
  show own_G p e below (T202.setTop (mkF m 32 #[rv ob_125, iv 2, rv ob_162, iv 2, iv 5, iv 2, iv 97] [])) _
  refine oS (fun _ => XS.iinc X204.here hx rfl (hb hby dd4_32) rfl (l' := #[rv ob_125, iv 3, rv ob_162, iv 2, iv 5, iv 2, iv 97]) rfl) ?_
  show own_G p e below (T202.setTop (mkF m 35 #[rv ob_125, iv 3, rv ob_162, iv 2, iv 5, iv 2, iv 97] [])) _
  refine oS (fun _ => XS.iinc X204.here hx rfl (hb hby dd4_35) rfl (l' := #[rv ob_125, iv 3, rv ob_162, iv 3, iv 5, iv 2, iv 97]) rfl) ?_
  show own_G p e below (T202.setTop (mkF m 38 #[rv ob_125, iv 3, rv ob_162, iv 3, iv 5, iv 2, iv 97] [])) _
  refine oS (fun _ => XS.iinc X204.here hx rfl (hb hby dd4_38) rfl (l' := #[rv ob_125, iv 3, rv ob_162, iv 3, iv 5, iv 3, iv 97]) rfl) ?_
  show own_G p e below (T202.setTop (mkF m 41 #[rv ob_125, iv 3, rv ob_162, iv 3, iv 5, iv 3, iv 97] [])) _
  refine oS (fun _ => XS.goto X204.here hx rfl (pc0 := 41) (pc' := 3) rfl (hb hby dd4_41) (by decide) (by decide)) ?_
  show own_G p e below (T202.setTop (mkF m 3 #[rv ob_125, iv 3, rv ob_162, iv 3, iv 5, iv 3, iv 97] [])) _
  refine oS (fun _ => XS.iload X204.here hx rfl (hb hby dd4_3) rfl) ?_
  refine oS (fun _ => XS.iload X204.here hx rfl (hb hby dd4_5) rfl) ?_
  refine oS (fun _ => XS.icmpNo X204.here hx rfl (hb hby dd4_7) rfl (XT.ii_ge_f (by decide))) ?_
  show own_G p e below (T202.setTop (mkF m 10 #[rv ob_125, iv 3, rv ob_162, iv 3, iv 5, iv 3, iv 97] [])) _
  refine oS (fun _ => XS.aloadN X204.here hx rfl (hb hby dd4_10) rfl rfl) ?_
  refine oS (fun _ => XS.iloadN X204.here hx rfl (hb hby dd4_11) rfl) ?_
  have F212 : Arv Z h203 ob_125 kk_126 .char 5 [(.int 100), (.int 114), (.int 97), (.int 102), (.int 116)] (.int 0) := F201.other W206 I189
  refine oS (own_caload X204 hx hZ e205 F212 (by decide) (v := (.int 102)) rfl rfl rfl (hb hby dd4_12)) ?_
  show own_G p e below (T202.setTop (mkF m 13 #[rv ob_125, iv 3, rv ob_162, iv 3, iv 5, iv 3, iv 97] [(.int 102)])) _
  refine oS (fun _ => XS.istore X204.here hx rfl (hb hby dd4_13) rfl (l' := #[rv ob_125, iv 3, rv ob_162, iv 3, iv 5, iv 3, iv 102]) rfl) ?_
  refine oS (fun _ => XS.iload X204.here hx rfl (hb hby dd4_15) rfl) ?_
  refine oS (fun _ => XS.sipush X204.here hx rfl (hb hby dd4_17) ) ?_
  refine oS (fun _ => XS.icmpYes X204.here hx rfl (pc0 := 20) (pc' := 26) rfl (hb hby dd4_20) rfl (XT.ii_le_t (by decide)) (by decide) (by decide)) ?_
  show own_G p e below (T202.setTop (mkF m 26 #[rv ob_125, iv 3, rv ob_162, iv 3, iv 5, iv 3, iv 102] [])) _
  refine oS (fun _ => XS.aloadN X204.here hx rfl (hb hby dd4_26) rfl rfl) ?_
  refine oS (fun _ => XS.iloadN X204.here hx rfl (hb hby dd4_27) rfl) ?_
  refine oS (fun _ => XS.iload X204.here hx rfl (hb hby dd4_28) rfl) ?_
  refine oS (fun _ => XT.i2b X204.here hx rfl (hb hby dd4_30) rfl) ?_
  show own_G p e below (T202.setTop (mkF m 31 #[rv ob_125, iv 3, rv ob_162, iv 3, iv 5, iv 3, iv 102] [(.int 102), (.int 3), (.ref ob_162)])) _
  obtain ⟨T213, h214, X215, e216, W217, A218, s219⟩ := own_stB X204 hx hZ e205 F211 (x' := 102) 3 (by decide) rfl (by decide) (by simp) (g := (mkF m 31 #[rv ob_125, iv 3, rv ob_162, iv 3, iv 5, iv 3, iv 102] [(.int 102), (.int 3), (.ref ob_162)])) rfl (rest := []) rfl (hb hby dd4_31)
  have N220 := Fr.snoc X215 N209 I180
  have z221 := W217.size
  have F222 : Arv Z h214 ob_162 kk_160 .byte 5 [(.int 100), (.int 114), (.int 97), (.int 102), (.int 0)] (.int 0) := A218
  refine oS s219 ?_
  show own_G p e below (T213.setTop (mkF m 32 #[rv ob_125, iv 3, rv ob_162, iv 3, iv 5, iv 3, iv 102] [])) _
  refine oS (fun _ => XS.iinc X215.here hx rfl (hb hby dd4_32) rfl (l' := #[rv ob_125, iv 4, rv ob_162, iv 3, iv 5, iv 3, iv 102]) rfl) ?_
  show own_G p e below (T213.setTop (mkF m 35 #[rv ob_125, iv 4, rv ob_162, iv 3, iv 5, iv 3, iv 102] [])) _
  refine oS (fun _ => XS.iinc X215.here hx rfl (hb hby dd4_35) rfl (l' := #[rv ob_125, iv 4, rv ob_162, iv 4, iv 5, iv 3, iv 102]) rfl) ?_
  show own_G p e below (T213.setTop (mkF m 38 #[rv ob_125, iv 4, rv ob_162, iv 4, iv 5, iv 3, iv 102] [])) _
  refine oS (fun _ => XS.iinc X215.here hx rfl (hb hby dd4_38) rfl (l' := #[rv ob_125, iv 4, rv ob_162, iv 4, iv 5, iv 4, iv 102]) rfl) ?_
  show own_G p e below (T213.setTop (mkF m 41 #[rv ob_125, iv 4, rv ob_162, iv 4, iv 5, iv 4, iv 102] [])) _
  refine oS (fun _ => XS.goto X215.here hx rfl (pc0 := 41) (pc' := 3) rfl (hb hby dd4_41) (by decide) (by decide)) ?_
  show own_G p e below (T213.setTop (mkF m 3 #[rv ob_125, iv 4, rv ob_162, iv 4, iv 5, iv 4, iv 102] [])) _
  refine oS (fun _ => XS.iload X215.here hx rfl (hb hby dd4_3) rfl) ?_
  refine oS (fun _ => XS.iload X215.here hx rfl (hb hby dd4_5) rfl) ?_
  refine oS (fun _ => XS.icmpNo X215.here hx rfl (hb hby dd4_7) rfl (XT.ii_ge_f (by decide))) ?_
  show own_G p e below (T213.setTop (mkF m 10 #[rv ob_125, iv 4, rv ob_162, iv 4, iv 5, iv 4, iv 102] [])) _
  refine oS (fun _ => XS.aloadN X215.here hx rfl (hb hby dd4_10) rfl rfl) ?_
  refine oS (fun _ => XS.iloadN X215.here hx rfl (hb hby dd4_11) rfl) ?_
  have F223 : Arv Z h214 ob_125 kk_126 .char 5 [(.int 100), (.int 114), (.int 97), (.int 102), (.int 116)] (.int 0) := F212.other W217 I189
  refine oS (own_caload X215 hx hZ e216 F223 (by decide) (v := (.int 116)) rfl rfl rfl (hb hby dd4_12)) ?_
  show own_G p e below (T213.setTop (mkF m 13 #[rv ob_125, iv 4, rv ob_162, iv 4, iv 5, iv 4, iv 102] [(.int 116)])) _
  refine oS (fun _ => XS.istore X215.here hx rfl (hb hby dd4_13) rfl (l' := #[rv ob_125, iv 4, rv ob_162, iv 4, iv 5, iv 4, iv 116]) rfl) ?_
  refine oS (fun _ => XS.iload X215.here hx rfl (hb hby dd4_15) rfl) ?_
  refine oS (fun _ => XS.sipush X215.here hx rfl (hb hby dd4_17) ) ?_
  refine oS (fun _ => XS.icmpYes X215.here hx rfl (pc0 := 20) (pc' := 26) rfl (hb hby dd4_20) rfl (XT.ii_le_t (by decide)) (by decide) (by decide)) ?_
  show own_G p e below (T213.setTop (mkF m 26 #[rv ob_125, iv 4, rv ob_162, iv 4, iv 5, iv 4, iv 116] [])) _
  refine oS (fun _ => XS.aloadN X215.here hx rfl (hb hby dd4_26) rfl rfl) ?_
  refine oS (fun _ => XS.iloadN X215.here hx rfl (hb hby dd4_27) rfl) ?_
  refine oS (fun _ => XS.iload X215.here hx rfl (hb hby dd4_28) rfl) ?_
  refine oS (fun _ => XT.i2b X215.here hx rfl (hb hby dd4_30) rfl) ?_
  show own_G p e below (T213.setTop (mkF m 31 #[rv ob_125, iv 4, rv ob_162, iv 4, iv 5, iv 4, iv 116] [(.int 116), (.int 4), (.ref ob_162)])) _
  obtain ⟨T224, h225, X226, e227, W228, A229, s230⟩ := own_stB X215 hx hZ e216 F222 (x' := 116) 4 (by decide) rfl (by decide) (by simp) (g := (mkF m 31 #[rv ob_125, iv 4, rv ob_162, iv 4, iv 5, iv 4, iv 116] [(.int 116), (.int 4), (.ref ob_162)])) rfl (rest := []) rfl (hb hby dd4_31)
  have N231 := Fr.snoc X226 N220 I180
  have z232 := W228.size
  have F233 : Arv Z h225 ob_162 kk_160 .byte 5 [(.int 100), (.int 114), (.int 97), (.int 102), (.int 116)] (.int 0) := A229
  refine oS s230 ?_
  show own_G p e below (T224.setTop (mkF m 32 #[rv ob_125, iv 4, rv ob_162, iv 4, iv 5, iv 4, iv 116] [])) _
  refine oS (fun _ => XS.iinc X226.here hx rfl (hb hby dd4_32) rfl (l' := #[rv ob_125, iv 5, rv ob_162, iv 4, iv 5, iv 4, iv 116]) rfl) ?_
  show own_G p e below (T224.setTop (mkF m 35 #[rv ob_125, iv 5, rv ob_162, iv 4, iv 5, iv 4, iv 116] [])) _
  refine oS (fun _ => XS.iinc X226.here hx rfl (hb hby dd4_35) rfl (l' := #[rv ob_125, iv 5, rv ob_162, iv 5, iv 5, iv 4, iv 116]) rfl) ?_
  show own_G p e below (T224.setTop (mkF m 38 #[rv ob_125, iv 5, rv ob_162, iv 5, iv 5, iv 4, iv 116] [])) _
  refine oS (fun _ => XS.iinc X226.here hx rfl (hb hby dd4_38) rfl (l' := #[rv ob_125, iv 5, rv ob_162, iv 5, iv 5, iv 5, iv 116]) rfl) ?_
  show own_G p e below (T224.setTop (mkF m 41 #[rv ob_125, iv 5, rv ob_162, iv 5, iv 5, iv 5, iv 116] [])) _
  refine oS (fun _ => XS.goto X226.here hx rfl (pc0 := 41) (pc' := 3) rfl (hb hby dd4_41) (by decide) (by decide)) ?_
  show own_G p e below (T224.setTop (mkF m 3 #[rv ob_125, iv 5, rv ob_162, iv 5, iv 5, iv 5, iv 116] [])) _
  refine oS (fun _ => XS.iload X226.here hx rfl (hb hby dd4_3) rfl) ?_
  refine oS (fun _ => XS.iload X226.here hx rfl (hb hby dd4_5) rfl) ?_
  refine oS (fun _ => XS.icmpYes X226.here hx rfl (pc0 := 7) (pc' := 44) rfl (hb hby dd4_7) rfl (XT.ii_ge_t (by decide)) (by decide) (by decide)) ?_
  show own_G p e below (T224.setTop (mkF m 44 #[rv ob_125, iv 5, rv ob_162, iv 5, iv 5, iv 5, iv 116] [])) _
  refine oS (fun _ => XS.iload X226.here hx rfl (hb hby dd4_44) rfl) ?_
  have F235 : Exa Z h172 ob_162 "[B" := Exa.wr W175 I234
  have F236 : Exa Z h192 ob_162 "[B" := Exa.wr W195 F235
  have F237 : Exa Z h203 ob_162 "[B" := Exa.wr W206 F236
  have F238 : Exa Z h214 ob_162 "[B" := Exa.wr W217 F237
  have F239 : Exa Z h225 ob_162 "[B" := Exa.wr W228 F238
  have K240 : Keep h0 h225 [ob_162] := ((((((Keep.refl h0 [ob_162]).wr W175 (Or.inl (by simp))).wr W195 (Or.inl (by simp))).wr W206 (Or.inl (by simp))).wr W217 (Or.inl (by simp))).wr W228 (Or.inl (by simp)))
  exact own_retI X226 hx Bd.notSynchronized Bd.returns (hb hby dd4_46) e227 (by decide) (by decide) (⟨rfl, N231, K240, F233, F239⟩)
theorem own_pd1 : parseMethodDescriptor "([CI[BII)I" = some ⟨[(.array .char), .int, (.array .byte), .int, .int], (some .int)⟩ := by decide +kernel
theorem dd3_9 : decode jdk_52_method_16_code 9 = .ok (.invokestatic 115, 3) := by decide +kernel
theorem dd3_12 : decode jdk_52_method_16_code 12 = .ok (.istore 4, 2) := by decide +kernel
theorem dd3_14 : decode jdk_52_method_16_code 14 = .ok (.iload 4, 2) := by decide +kernel
theorem dd3_16 : decode jdk_52_method_16_code 16 = .ok (.iload_n 2, 1) := by decide +kernel
theorem dd3_17 : decode jdk_52_method_16_code 17 = .ok (.if_icmp .eq 40, 3) := by decide +kernel
theorem dd3_57 : decode jdk_52_method_16_code 57 = .ok (.aload_n 3, 1) := by decide +kernel
theorem dd3_58 : decode jdk_52_method_16_code 58 = .ok (.areturn, 1) := by decide +kernel
def own_Q5 (Z : State) (ob_125 : Nat) (kk_126 : ClassId) (h0 : Heap) (n0 : Nat) (v : Option Value) (h : Heap) (L : List Loc) : Prop := (∃ ob_162 : Nat, ∃ kk_160 : ClassId, v = some (.ref ob_162) ∧ Fr n0 L ∧ Keep h0 h [] ∧ h0.size ≤ ob_162 ∧ Arv Z h ob_162 kk_160 .byte 5 [(.int 100), (.int 114), (.int 97), (.int 102), (.int 116)] (.int 0) ∧ Exa Z h ob_162 "[B" ∧ @LT.lt Nat instLTNat ob_162 h.size)
theorem own_pn2 : plainFor (⟨"java/lang/StringUTF16", "compress", "([CII)[B"⟩ : MethodName) = true := by decide +kernel
set_option maxRecDepth 65536 in
set_option maxHeartbeats 40000000 in
theorem own_rm5 (l : Launch) (Z : State) (a0 : Array Value) (hw : ∀ d ∈ tables_1, d.before a0 Z = true) (ws : List Jvm.Cond) (ob_125 : Nat) (kk_126 : ClassId) (h0 : Heap) (n0 : Nat) (Z0 : n0 ≤ h0.size) (O0 : Old Z n0 h0) (I167 : Arv Z h0 ob_125 kk_126 .char 5 [(.int 100), (.int 114), (.int 97), (.int 102), (.int 116)] (.int 0)) (I187 : @LT.lt Nat instLTNat ob_125 h0.size) :
    own_Met l Z h0 (⟨"java/lang/StringUTF16", "compress", "([CII)[B"⟩ : MethodName) jdk_52_method_16_code 6 (Option.some (FieldType.array FieldType.byte)) ws ({ frames := 1, cells := 1, slots := 5, locals := 18 } : Room) #[(.ref ob_125), (.int 0), (.int 5)] (own_Q5 Z ob_125 kk_126 h0 n0) 1 5 := by
  refine MetFree.of_bodySF own_pn2 hisR ?_
  intro p e s m args below meth c s₁ Bd hml0 hP hK
  obtain ⟨rfl, hZ, hh⟩ := hP
  have hx := Bd.exec
  have hby := Bd.bytes
  have hml : c.maxLocals = 6 := hml0
  have hown : s.vm.findClass "java/lang/StringUTF16" = some m.cls := findClass_of_methodNamed Bd.named
  have hnm := (name_of_methodNamed Bd.named Bd.method).1
  have X0 : Stand p l e ({ frames := 1, cells := 1, slots := 5, locals := 18 } : Room) s m #[(.ref ob_125), (.int 0), (.int 5)] below meth c s₁ [] 0 0 := Stand.of_body Bd
  have e0 : s₁.heap = h0 := by rw [← hh, Bd.state]; rfl
  have N0 := Fr.nil n0
  show own_G p e below (s₁.setTop (entryFrame m #[(.ref ob_125), (.int 0), (.int 5)] 6)) (own_P s (own_Q5 Z ob_125 kk_126 h0 n0) 1 5)
  refine own_cast (own_ef4 m ob_125 0 5) ?_
  show own_G p e below (s₁.setTop (mkF m 0 #[rv ob_125, iv 0, iv 5, .unset, .unset, .unset] [])) _
  refine oS (fun _ => XS.iloadN X0.here hx rfl (hb hby dd3_0) rfl) ?_
  obtain ⟨T151, h152, kk_160, X154, e155, E156, A157, B161, s158⟩ := own_newP X0 hx hZ (aty := .byte) (oW hw 27 rfl) e0 (nm := "[B") rfl (g := (mkF m 1 #[rv ob_125, iv 0, iv 5, .unset, .unset, .unset] [(.int 5)])) rfl (hb hby dd3_1) (n := 5) (rest := []) rfl (by decide) (cap := 5) (by decide) (by decide) (by decide) (by decide)
  obtain ⟨ob_162, g163⟩ : ∃ z, z = h0.size := ⟨_, rfl⟩
  rw [← g163] at A157 B161 s158
  have F164 : Arv Z h152 ob_162 kk_160 .byte 5 [(.int 0), (.int 0), (.int 0), (.int 0), (.int 0)] (.int 0) := own_newA A157 (by decide) rfl rfl
  have z165 := E156.1
  have y159 : @LT.lt Nat instLTNat ob_162 h152.size := F164.lt
  refine oS s158 ?_
  show own_G p e below (T151.setTop (mkF m 3 #[rv ob_125, iv 0, iv 5, .unset, .unset, .unset] [(.ref ob_162)])) _
  refine oS (fun _ => XS.astoreN X154.here hx rfl (hb hby dd3_3) rfl rfl (l' := #[rv ob_125, iv 0, iv 5, rv ob_162, .unset, .unset]) rfl) ?_
  refine oS (fun _ => XS.aloadN X154.here hx rfl (hb hby dd3_4) rfl rfl) ?_
  refine oS (fun _ => XS.iloadN X154.here hx rfl (hb hby dd3_5) rfl) ?_
  refine oS (fun _ => XS.aloadN X154.here hx rfl (hb hby dd3_6) rfl rfl) ?_
  show own_G p e below (T151.setTop (mkF m 7 #[rv ob_125, iv 0, iv 5, rv ob_162, .unset, .unset] [(.ref ob_162), (.int 0), (.ref ob_125)])) _
  refine oS (fun _ => XS.iconst X154.here hx rfl (hb hby dd3_7) ) ?_
  refine oS (fun _ => XS.iloadN X154.here hx rfl (hb hby dd3_8) rfl) ?_
  have F168 : Arv Z h152 ob_125 kk_126 .char 5 [(.int 100), (.int 114), (.int 97), (.int 102), (.int 116)] (.int 0) := I167.ext E156
  have N179 : n0 ≤ ob_162 := by omega
  have N188 : @Ne Nat ob_125 ob_162 := by omega
  have O241 : Old Z n0 h152 := O0.ext E156
  have Z242 : n0 ≤ h152.size := by omega
  obtain ⟨T243, h244, v245, L246, X247, e248, q249, s250⟩ := own_callS X154 hx hZ hown e155 (y := (⟨"java/lang/StringUTF16", "compress", "([CI[BII)I"⟩ : MethodName)) (oW hw 28 rfl) (oW hw 29 rfl) (oW hw 25 rfl) (oW hw 30 rfl) (by decide) (W := 0) (own_rm6 l Z a0 hw [] ob_125 ob_162 kk_126 kk_160 h152 n0 Z242 O241 F168 F164 N179 N188 B161) (by decide) (by decide) (by decide) (by decide) (g := (mkF m 9 #[rv ob_125, iv 0, iv 5, rv ob_162, .unset, .unset] [(.int 5), (.int 0), (.ref ob_162), (.int 0), (.ref ob_125)])) rfl (by rw [hml]; rfl) (argsL := [(.ref ob_125), (.int 0), (.ref ob_162), (.int 0), (.int 5)]) (rest := []) rfl (lenOf own_pd1 rfl) rfl (by show 2 * 0 + _ ≤ _; exact Nat.le_of_eq rfl) (hb hby dd3_9)
  refine oS s250 ?_
  obtain ⟨rfl, N251, K252, F253, F254⟩ := q249
  have N255 := Fr.app N0 N251
  have z256 := K252.1
  show own_G p e below (T243.setTop (mkF m 12 #[rv ob_125, iv 0, iv 5, rv ob_162, .unset, .unset] [(.int 5)])) _
  refine oS (fun _ => XS.istore X247.here hx rfl (hb hby dd3_12) rfl (l' := #[rv ob_125, iv 0, iv 5, rv ob_162, iv 5, .unset]) rfl) ?_
  refine oS (fun _ => XS.iload X247.here hx rfl (hb hby dd3_14) rfl) ?_
  refine oS (fun _ => XS.iloadN X247.here hx rfl (hb hby dd3_16) rfl) ?_
  refine oS (fun _ => XS.icmpYes X247.here hx rfl (pc0 := 17) (pc' := 57) rfl (hb hby dd3_17) rfl (XT.ii_eq_t (by decide)) (by decide) (by decide)) ?_
  show own_G p e below (T243.setTop (mkF m 57 #[rv ob_125, iv 0, iv 5, rv ob_162, iv 5, .unset] [])) _
  refine oS (fun _ => XS.aloadN X247.here hx rfl (hb hby dd3_57) rfl rfl) ?_
  have y257 : @LT.lt Nat instLTNat ob_162 h244.size := by omega
  have K258 : Keep h0 h244 [] := (((Keep.refl h0 []).ext E156).trans K252 (allS (Or.inr (by omega)) all0))
  exact own_retA X247 hx Bd.notSynchronized Bd.returns rfl rfl (hb hby dd3_58) e248 (by decide) (by decide) (⟨ob_162, kk_160, rfl, N255, K258, (by omega), F253, F254, y257⟩)
theorem own_pd2 : parseMethodDescriptor "([CII)[B" = some ⟨[(.array .char), .int, .int], (some (.array .byte))⟩ := by decide +kernel
theorem dd2_36 : decode jdk_42_method_149_code 36 = .ok (.invokestatic 177, 3) := by decide +kernel
theorem dd2_39 : decode jdk_42_method_149_code 39 = .ok (.astore 5, 2) := by decide +kernel
theorem dd2_41 : decode jdk_42_method_149_code 41 = .ok (.aload_n 0, 1) := by decide +kernel
theorem dd2_42 : decode jdk_42_method_149_code 42 = .ok (.aload 5, 2) := by decide +kernel
theorem dd2_44 : decode jdk_42_method_149_code 44 = .ok (.iload_n 3, 1) := by decide +kernel
theorem own_ef6 (m : MethodId) (x0 : Addr) (x1 : Int32) : entryFrame m #[(.ref x0), (.int x1)] 2 = mkF m 0 #[.val (.ref x0), .val (.int x1)] [] := by first | (simp [entryFrame, mkF, argsToLocals, Value.category]; done) | rfl
theorem dd5_0 : decode jdk_52_method_15_code 0 = .ok (.iload_n 1, 1) := by decide +kernel
theorem dd5_1 : decode jdk_52_method_15_code 1 = .ok (.aload_n 0, 1) := by decide +kernel
theorem dd5_2 : decode jdk_52_method_15_code 2 = .ok (.arraylength, 1) := by decide +kernel
theorem dd5_3 : decode jdk_52_method_15_code 3 = .ok (.isub, 1) := by decide +kernel
theorem dd5_4 : decode jdk_52_method_15_code 4 = .ok (.bipush 31, 2) := by decide +kernel
theorem dd5_6 : decode jdk_52_method_15_code 6 = .ok (.iushr, 1) := by decide +kernel
theorem dd5_7 : decode jdk_52_method_15_code 7 = .ok (.i2b, 1) := by decide +kernel
theorem dd5_8 : decode jdk_52_method_15_code 8 = .ok (.ireturn, 1) := by decide +kernel
def own_Q7 (Z : State) (ob_267 : Nat) (kk_268 : ClassId) (h0 : Heap) (n0 : Nat) (v : Option Value) (h : Heap) (L : List Loc) : Prop := (v = some (.int 0) ∧ Fr n0 L ∧ h = h0)
theorem own_pn3 : plainFor (⟨"java/lang/StringUTF16", "coderFromArrayLen", "([BI)B"⟩ : MethodName) = true := by decide +kernel
set_option maxRecDepth 65536 in
set_option maxHeartbeats 40000000 in
theorem own_rm7 (l : Launch) (Z : State) (a0 : Array Value) (hw : ∀ d ∈ tables_1, d.before a0 Z = true) (ws : List Jvm.Cond) (ob_267 : Nat) (kk_268 : ClassId) (h0 : Heap) (n0 : Nat) (Z0 : n0 ≤ h0.size) (O0 : Old Z n0 h0) (I277 : Arv Z h0 ob_267 kk_268 .byte 5 [(.int 100), (.int 114), (.int 97), (.int 102), (.int 116)] (.int 0)) :
    own_Met l Z h0 (⟨"java/lang/StringUTF16", "coderFromArrayLen", "([BI)B"⟩ : MethodName) jdk_52_method_15_code 2 (Option.some FieldType.byte) ws ({ frames := 0, cells := 0, slots := 0, locals := 0 } : Room) #[(.ref ob_267), (.int 5)] (own_Q7 Z ob_267 kk_268 h0 n0) 0 0 := by
  refine MetFree.of_bodySF own_pn3 hisR ?_
  intro p e s m args below meth c s₁ Bd hml0 hP hK
  obtain ⟨rfl, hZ, hh⟩ := hP
  have hx := Bd.exec
  have hby := Bd.bytes
  have hml : c.maxLocals = 2 := hml0
  have hown : s.vm.findClass "java/lang/StringUTF16" = some m.cls := findClass_of_methodNamed Bd.named
  have hnm := (name_of_methodNamed Bd.named Bd.method).1
  have X0 : Stand p l e ({ frames := 0, cells := 0, slots := 0, locals := 0 } : Room) s m #[(.ref ob_267), (.int 5)] below meth c s₁ [] 0 0 := Stand.of_body Bd
  have e0 : s₁.heap = h0 := by rw [← hh, Bd.state]; rfl
  have N0 := Fr.nil n0
  show own_G p e below (s₁.setTop (entryFrame m #[(.ref ob_267), (.int 5)] 2)) (own_P s (own_Q7 Z ob_267 kk_268 h0 n0) 0 0)
  refine own_cast (own_ef6 m ob_267 5) ?_
  show own_G p e below (s₁.setTop (mkF m 0 #[rv ob_267, iv 5] [])) _
  refine oS (fun _ => XS.iloadN X0.here hx rfl (hb hby dd5_0) rfl) ?_
  refine oS (fun _ => XS.aloadN X0.here hx rfl (hb hby dd5_1) rfl rfl) ?_
  refine oS (own_len X0 hx hZ e0 I277 rfl rfl (hb hby dd5_2)) ?_
  show own_G p e below (s₁.setTop (mkF m 3 #[rv ob_267, iv 5] [(.int 5), (.int 5)])) _
  refine oS (fun _ => XS.isub X0.here hx rfl (hb hby dd5_3) rfl) ?_
  refine oS (fun _ => XS.bipush X0.here hx rfl (hb hby dd5_4) ) ?_
  refine oS (fun _ => XT.iushr X0.here hx rfl (hb hby dd5_6) rfl) ?_
  refine oS (fun _ => XT.i2b X0.here hx rfl (hb hby dd5_7) rfl) ?_
  show own_G p e below (s₁.setTop (mkF m 8 #[rv ob_267, iv 5] [(.int 0)])) _
  exact own_retN X0 hx (t := .byte) Bd.notSynchronized Bd.returns (by simp) (hb hby dd5_8) (by decide) e0 (by decide) (by decide) (⟨rfl, N0, rfl⟩)
theorem own_pd3 : parseMethodDescriptor "([BI)B" = some ⟨[(.array .byte), .int], (some .byte)⟩ := by decide +kernel
theorem dd2_45 : decode jdk_42_method_149_code 45 = .ok (.invokestatic 47, 3) := by decide +kernel
theorem dd2_48 : decode jdk_42_method_149_code 48 = .ok (.putfield 15, 3) := by decide +kernel
theorem dd2_51 : decode jdk_42_method_149_code 51 = .ok (.aload_n 0, 1) := by decide +kernel
theorem dd2_52 : decode jdk_42_method_149_code 52 = .ok (.aload 5, 2) := by decide +kernel
theorem dd2_54 : decode jdk_42_method_149_code 54 = .ok (.putfield 9, 3) := by decide +kernel
theorem dd2_57 : decode jdk_42_method_149_code 57 = .ok (.return_, 1) := by decide +kernel
def own_Q4 (Z : State) (ob_37 : Nat) (ob_125 : Nat) (in_2 : Int32) (kk_126 : ClassId) (h0 : Heap) (n0 : Nat) (v : Option Value) (h : Heap) (L : List Loc) : Prop := (∃ ob_267 : Nat, ∃ kk_268 : ClassId, v = none ∧ Fr n0 L ∧ Keep h0 h [ob_37] ∧ h0.size ≤ ob_267 ∧ Fld Z h ob_37 "java/lang/String" "coder" "B" (.int 0) ∧ Exa Z h ob_37 "java/lang/String" ∧ Fld Z h ob_37 "java/lang/String" "value" "[B" (.ref ob_267) ∧ Arv Z h ob_267 kk_268 .byte 5 [(.int 100), (.int 114), (.int 97), (.int 102), (.int 116)] (.int 0) ∧ Exa Z h ob_267 "[B" ∧ @LT.lt Nat instLTNat ob_267 h.size)
theorem own_pn4 : plainFor (⟨"java/lang/String", "<init>", "([CIILjava/lang/Void;)V"⟩ : MethodName) = true := by decide +kernel
set_option maxRecDepth 65536 in
set_option maxHeartbeats 40000000 in
theorem own_rm4 (l : Launch) (Z : State) (a0 : Array Value) (hw : ∀ d ∈ tables_1, d.before a0 Z = true) (ws : List Jvm.Cond) (ob_37 : Nat) (ob_125 : Nat) (in_2 : Int32) (kk_126 : ClassId) (h0 : Heap) (n0 : Nat) (Z0 : n0 ≤ h0.size) (O0 : Old Z n0 h0) (I142 : Sta Z Z.heap "java/lang/String" "COMPACT_STRINGS" "Z" (.int in_2)) (I150 : ¬ (in_2 = 0)) (I166 : Arv Z h0 ob_125 kk_126 .char 5 [(.int 100), (.int 114), (.int 97), (.int 102), (.int 116)] (.int 0)) (I185 : @LT.lt Nat instLTNat ob_125 h0.size) (I294 : Fld Z h0 ob_37 "java/lang/String" "coder" "B" (.int 0)) (I298 : Exa Z h0 ob_37 "java/lang/String") (I309 : n0 ≤ ob_37) (I314 : Fld Z h0 ob_37 "java/lang/String" "value" "[B" .null) (I332 : @LT.lt Nat instLTNat ob_37 h0.size) :
    own_Met l Z h0 (⟨"java/lang/String", "<init>", "([CIILjava/lang/Void;)V"⟩ : MethodName) jdk_42_method_149_code 6 (Option.none : Option FieldType) ws ({ frames := 2, cells := 1, slots := 5, locals := 35 } : Room) #[(.ref ob_37), (.ref ob_125), (.int 0), (.int 5), .null] (own_Q4 Z ob_37 ob_125 in_2 kk_126 h0 n0) 1 5 := by
  refine MetFree.of_bodySF own_pn4 hisR ?_
  intro p e s m args below meth c s₁ Bd hml0 hP hK
  obtain ⟨rfl, hZ, hh⟩ := hP
  have hx := Bd.exec
  have hby := Bd.bytes
  have hml : c.maxLocals = 6 := hml0
  have hown : s.vm.findClass "java/lang/String" = some m.cls := findClass_of_methodNamed Bd.named
  have hnm := (name_of_methodNamed Bd.named Bd.method).1
  have X0 : Stand p l e ({ frames := 2, cells := 1, slots := 5, locals := 35 } : Room) s m #[(.ref ob_37), (.ref ob_125), (.int 0), (.int 5), .null] below meth c s₁ [] 0 0 := Stand.of_body Bd
  have e0 : s₁.heap = h0 := by rw [← hh, Bd.state]; rfl
  have N0 := Fr.nil n0
  show own_G p e below (s₁.setTop (entryFrame m #[(.ref ob_37), (.ref ob_125), (.int 0), (.int 5), .null] 6)) (own_P s (own_Q4 Z ob_37 ob_125 in_2 kk_126 h0 n0) 1 5)
  refine own_cast (own_ef3 m ob_37 ob_125 0 5) ?_
  show own_G p e below (s₁.setTop (mkF m 0 #[rv ob_37, rv ob_125, iv 0, iv 5, .val .null, .unset] [])) _
  refine oS (fun _ => XS.aloadN X0.here hx rfl (hb hby dd2_0) rfl rfl) ?_
  obtain ⟨T136, X137, e138, s139⟩ := initO X0 hx hZ hown (oW hw 19 rfl) (oW hw 20 rfl) (oW hw 21 rfl) e0 (g := (mkF m 1 #[rv ob_37, rv ob_125, iv 0, iv 5, .val .null, .unset] [(.ref ob_37)])) rfl (by rw [hml]; rfl) rfl (hb hby dd2_1) (by decide) (W := 0) (by show 2 * 0 + _ ≤ _; exact Nat.le_of_eq rfl) (by decide)
  refine oS s139 ?_
  show own_G p e below (T136.setTop (mkF m 4 #[rv ob_37, rv ob_125, iv 0, iv 5, .val .null, .unset] [])) _
  refine oS (fun _ => XS.iloadN X137.here hx rfl (hb hby dd2_4) rfl) ?_
  refine oS (fun _ => XS.ifYes X137.here hx rfl (pc0 := 5) (pc' := 27) rfl (hb hby dd2_5) rfl (XT.i0_ne_t (by decide)) (by decide) (by decide)) ?_
  show own_G p e below (T136.setTop (mkF m 27 #[rv ob_37, rv ob_125, iv 0, iv 5, .val .null, .unset] [])) _
  have F143 : Sta Z h0 "java/lang/String" "COMPACT_STRINGS" "Z" (.int in_2) := Sta.ext O0.2 I142
  obtain ⟨T144, X145, e146, s147⟩ := getS X137 hx hZ hown (host := "") (oW hw 22 rfl) Via.refl e138 F143 (g := (mkF m 27 #[rv ob_37, rv ob_125, iv 0, iv 5, .val .null, .unset] [])) rfl (hb hby dd2_27)
  refine oS s147 ?_
  show own_G p e below (T144.setTop (mkF m 30 #[rv ob_37, rv ob_125, iv 0, iv 5, .val .null, .unset] [(.int in_2)])) _
  refine oS (fun _ => XS.ifNo X145.here hx rfl (hb hby dd2_30) rfl (XT.i0_eq_f I150)) ?_
  show own_G p e below (T144.setTop (mkF m 33 #[rv ob_37, rv ob_125, iv 0, iv 5, .val .null, .unset] [])) _
  refine oS (fun _ => XS.aloadN X145.here hx rfl (hb hby dd2_33) rfl rfl) ?_
  refine oS (fun _ => XS.iloadN X145.here hx rfl (hb hby dd2_34) rfl) ?_
  refine oS (fun _ => XS.iloadN X145.here hx rfl (hb hby dd2_35) rfl) ?_
  have y186 : @LT.lt Nat instLTNat ob_125 h0.size := by omega
  obtain ⟨T259, h260, v261, L262, X263, e264, q265, s266⟩ := own_callS X145 hx hZ hown e146 (y := (⟨"java/lang/StringUTF16", "compress", "([CII)[B"⟩ : MethodName)) (oW hw 23 rfl) (oW hw 24 rfl) (oW hw 25 rfl) (oW hw 26 rfl) (by decide) (W := 0) (own_rm5 l Z a0 hw [] ob_125 kk_126 h0 n0 Z0 O0 I166 y186) (by decide) (by decide) (by decide) (by decide) (g := (mkF m 36 #[rv ob_37, rv ob_125, iv 0, iv 5, .val .null, .unset] [(.int 5), (.int 0), (.ref ob_125)])) rfl (by rw [hml]; rfl) (argsL := [(.ref ob_125), (.int 0), (.int 5)]) (rest := []) rfl (lenOf own_pd2 rfl) rfl (by show 2 * 0 + _ ≤ _; exact Nat.le_of_eq rfl) (hb hby dd2_36)
  refine oS s266 ?_
  obtain ⟨ob_267, kk_268, rfl, N269, K270, F271, F272, F273, F274⟩ := q265
  have N275 := Fr.app N0 N269
  have z276 := K270.1
  show own_G p e below (T259.setTop (mkF m 39 #[rv ob_37, rv ob_125, iv 0, iv 5, .val .null, .unset] [(.ref ob_267)])) _
  refine oS (fun _ => XS.astore X263.here hx rfl (hb hby dd2_39) rfl rfl (l' := #[rv ob_37, rv ob_125, iv 0, iv 5, .val .null, rv ob_267]) rfl) ?_
  refine oS (fun _ => XS.aloadN X263.here hx rfl (hb hby dd2_41) rfl rfl) ?_
  refine oS (fun _ => XS.aload X263.here hx rfl (hb hby dd2_42) rfl rfl) ?_
  refine oS (fun _ => XS.iloadN X263.here hx rfl (hb hby dd2_44) rfl) ?_
  show own_G p e below (T259.setTop (mkF m 45 #[rv ob_37, rv ob_125, iv 0, iv 5, .val .null, rv ob_267] [(.int 5), (.ref ob_267), (.ref ob_37)])) _
  have O278 : Old Z n0 h260 := O0.keep K270 all0
  have Z279 : n0 ≤ h260.size := by omega
  obtain ⟨T280, h281, v282, L283, X284, e285, q286, s287⟩ := own_callS X263 hx hZ hown e264 (y := (⟨"java/lang/StringUTF16", "coderFromArrayLen", "([BI)B"⟩ : MethodName)) (oW hw 31 rfl) (oW hw 32 rfl) (oW hw 25 rfl) (oW hw 33 rfl) (by decide) (W := 1) (own_rm7 l Z a0 hw [] ob_267 kk_268 h260 n0 Z279 O278 F272) (by decide) (by decide) (by decide) (by decide) (g := (mkF m 45 #[rv ob_37, rv ob_125, iv 0, iv 5, .val .null, rv ob_267] [(.int 5), (.ref ob_267), (.ref ob_37)])) rfl (by rw [hml]; rfl) (argsL := [(.ref ob_267), (.int 5)]) (rest := [(.ref ob_37)]) rfl (lenOf own_pd3 rfl) rfl (by show 2 * 0 + _ ≤ _; exact Nat.le_of_eq rfl) (hb hby dd2_45)
  refine oS s287 ?_
  obtain ⟨rfl, N288, K289⟩ := q286
  have N290 := Fr.app N275 N288
  have e291 := e285.trans K289
  show own_G p e below (T280.setTop (mkF m 48 #[rv ob_37, rv ob_125, iv 0, iv 5, .val .null, rv ob_267] [(.int 0), (.ref ob_37)])) _
  have F295 : Fld Z h260 ob_37 "java/lang/String" "coder" "B" (.int 0) := I294.keep K270 nin0
  have F299 : Exa Z h260 ob_37 "java/lang/String" := I298.keep K270
  obtain ⟨T300, h301, X302, e303, W304, s305⟩ := putF X284 hx hZ hown (host := "") (Or.inl (oW hw 34 rfl)) Via.refl e291 F295 F299 (Or.inr ⟨(oW hw 35 rfl), rfl, hnm⟩) (oW hw 5 rfl) (ty := .byte) (by decide) (by decide) (by decide) (g := (mkF m 48 #[rv ob_37, rv ob_125, iv 0, iv 5, .val .null, rv ob_267] [(.int 0), (.ref ob_37)])) rfl rfl (hb hby dd2_48)
  have N306 := Fr.snoc X302 N290 I309
  have z310 := W304.size
  have F311 : Fld Z h301 ob_37 "java/lang/String" "coder" "B" (.int 0) := Fld.same W304 F295
  refine oS s305 ?_
  show own_G p e below (T300.setTop (mkF m 51 #[rv ob_37, rv ob_125, iv 0, iv 5, .val .null, rv ob_267] [])) _
  refine oS (fun _ => XS.aloadN X302.here hx rfl (hb hby dd2_51) rfl rfl) ?_
  refine oS (fun _ => XS.aload X302.here hx rfl (hb hby dd2_52) rfl rfl) ?_
  have F315 : Fld Z h260 ob_37 "java/lang/String" "value" "[B" .null := I314.keep K270 nin0
  have F316 : Fld Z h301 ob_37 "java/lang/String" "value" "[B" .null := Fld.other W304 F315 (Or.inr (slot_ne (C := "java/lang/String") (Or.inr (oW hw 37 rfl)) (Or.inr (oW hw 35 rfl)) (by decide) (t := (.array .byte)) (t' := .byte) (by decide) (by decide)))
  have F317 : Exa Z h301 ob_37 "java/lang/String" := Exa.wr W304 F299
  obtain ⟨T318, h319, X320, e321, W322, s323⟩ := putF X302 hx hZ hown (host := "") (Or.inl (oW hw 36 rfl)) Via.refl e303 F316 F317 (Or.inr ⟨(oW hw 37 rfl), rfl, hnm⟩) (oW hw 5 rfl) (ty := (.array .byte)) (by decide) rfl rfl (g := (mkF m 54 #[rv ob_37, rv ob_125, iv 0, iv 5, .val .null, rv ob_267] [(.ref ob_267), (.ref ob_37)])) rfl rfl (hb hby dd2_54)
  have N324 := Fr.snoc X320 N306 I309
  have z325 := W322.size
  have F326 : Fld Z h319 ob_37 "java/lang/String" "value" "[B" (.ref ob_267) := Fld.same W322 F316
  refine oS s323 ?_
  show own_G p e below (T318.setTop (mkF m 57 #[rv ob_37, rv ob_125, iv 0, iv 5, .val .null, rv ob_267] [])) _
  have F327 : Fld Z h319 ob_37 "java/lang/String" "coder" "B" (.int 0) := Fld.other W322 F311 (Or.inr (slot_ne (C := "java/lang/String") (Or.inr (oW hw 35 rfl)) (Or.inr (oW hw 37 rfl)) (by decide) (t := .byte) (t' := (.array .byte)) (by decide) (by decide)))
  have F328 : Exa Z h319 ob_37 "java/lang/String" := Exa.wr W322 F317
  have N333 : @Ne Nat ob_267 ob_37 := by omega
  have F334 : Arv Z h301 ob_267 kk_268 .byte 5 [(.int 100), (.int 114), (.int 97), (.int 102), (.int 116)] (.int 0) := F272.other W304 N333
  have F335 : Arv Z h319 ob_267 kk_268 .byte 5 [(.int 100), (.int 114), (.int 97), (.int 102), (.int 116)] (.int 0) := F334.other W322 N333
  have F336 : Exa Z h301 ob_267 "[B" := Exa.wr W304 F273
  have F337 : Exa Z h319 ob_267 "[B" := Exa.wr W322 F336
  have y338 : @LT.lt Nat instLTNat ob_267 h319.size := by omega
  have K339 : Keep h0 h319 [ob_37] := ((((Keep.refl h0 [ob_37]).trans K270 all0).wr W304 (Or.inl (by simp))).wr W322 (Or.inl (by simp)))
  exact own_retV X320 hx Bd.notSynchronized Bd.returns (hb hby dd2_57) e321 (by decide) (by decide) (⟨ob_267, kk_268, rfl, N324, K339, (by omega), F327, F328, F326, F335, F337, y338⟩)
theorem own_pd4 : parseMethodDescriptor "([CIILjava/lang/Void;)V" = some ⟨[(.array .char), .int, .int, (.object "java/lang/Void")], none⟩ := by decide +kernel
theorem dd1_6 : decode jdk_42_method_3_code 6 = .ok (.invokespecial 27, 3) := by decide +kernel
theorem dd1_9 : decode jdk_42_method_3_code 9 = .ok (.return_, 1) := by decide +kernel
def own_Q3 (Z : State) (ob_37 : Nat) (ob_125 : Nat) (kk_126 : ClassId) (in_2 : Int32) (h0 : Heap) (n0 : Nat) (v : Option Value) (h : Heap) (L : List Loc) : Prop := (∃ ob_348 : Nat, ∃ kk_349 : ClassId, v = none ∧ Fr n0 L ∧ Keep h0 h [ob_37] ∧ h0.size ≤ ob_348 ∧ Fld Z h ob_37 "java/lang/String" "coder" "B" (.int 0) ∧ Exa Z h ob_37 "java/lang/String" ∧ Fld Z h ob_37 "java/lang/String" "value" "[B" (.ref ob_348) ∧ Arv Z h ob_348 kk_349 .byte 5 [(.int 100), (.int 114), (.int 97), (.int 102), (.int 116)] (.int 0) ∧ Exa Z h ob_348 "[B" ∧ @LT.lt Nat instLTNat ob_348 h.size)
theorem own_pn5 : plainFor (⟨"java/lang/String", "<init>", "([C)V"⟩ : MethodName) = true := by decide +kernel
set_option maxRecDepth 65536 in
set_option maxHeartbeats 40000000 in
theorem own_rm3 (l : Launch) (Z : State) (a0 : Array Value) (hw : ∀ d ∈ tables_1, d.before a0 Z = true) (ws : List Jvm.Cond) (ob_37 : Nat) (ob_125 : Nat) (kk_126 : ClassId) (in_2 : Int32) (h0 : Heap) (n0 : Nat) (Z0 : n0 ≤ h0.size) (O0 : Old Z n0 h0) (I135 : Arv Z h0 ob_125 kk_126 .char 5 [(.int 100), (.int 114), (.int 97), (.int 102), (.int 116)] (.int 0)) (I141 : Sta Z Z.heap "java/lang/String" "COMPACT_STRINGS" "Z" (.int in_2)) (I149 : ¬ (in_2 = 0)) (I183 : @LT.lt Nat instLTNat ob_125 h0.size) (I293 : Fld Z h0 ob_37 "java/lang/String" "coder" "B" (.int 0)) (I297 : Exa Z h0 ob_37 "java/lang/String") (I308 : n0 ≤ ob_37) (I313 : Fld Z h0 ob_37 "java/lang/String" "value" "[B" .null) (I330 : @LT.lt Nat instLTNat ob_37 h0.size) :
    own_Met l Z h0 (⟨"java/lang/String", "<init>", "([C)V"⟩ : MethodName) jdk_42_method_3_code 2 (Option.none : Option FieldType) ws ({ frames := 3, cells := 1, slots := 5, locals := 52 } : Room) #[(.ref ob_37), (.ref ob_125)] (own_Q3 Z ob_37 ob_125 kk_126 in_2 h0 n0) 1 5 := by
  refine MetFree.of_bodySF own_pn5 hisR ?_
  intro p e s m args below meth c s₁ Bd hml0 hP hK
  obtain ⟨rfl, hZ, hh⟩ := hP
  have hx := Bd.exec
  have hby := Bd.bytes
  have hml : c.maxLocals = 2 := hml0
  have hown : s.vm.findClass "java/lang/String" = some m.cls := findClass_of_methodNamed Bd.named
  have hnm := (name_of_methodNamed Bd.named Bd.method).1
  have X0 : Stand p l e ({ frames := 3, cells := 1, slots := 5, locals := 52 } : Room) s m #[(.ref ob_37), (.ref ob_125)] below meth c s₁ [] 0 0 := Stand.of_body Bd
  have e0 : s₁.heap = h0 := by rw [← hh, Bd.state]; rfl
  have N0 := Fr.nil n0
  show own_G p e below (s₁.setTop (entryFrame m #[(.ref ob_37), (.ref ob_125)] 2)) (own_P s (own_Q3 Z ob_37 ob_125 kk_126 in_2 h0 n0) 1 5)
  refine own_cast (own_ef2 m ob_37 ob_125) ?_
  show own_G p e below (s₁.setTop (mkF m 0 #[rv ob_37, rv ob_125] [])) _
  refine oS (fun _ => XS.aloadN X0.here hx rfl (hb hby dd1_0) rfl rfl) ?_
  refine oS (fun _ => XS.aloadN X0.here hx rfl (hb hby dd1_1) rfl rfl) ?_
  refine oS (fun _ => XS.iconst X0.here hx rfl (hb hby dd1_2) ) ?_
  refine oS (fun _ => XS.aloadN X0.here hx rfl (hb hby dd1_3) rfl rfl) ?_
  show own_G p e below (s₁.setTop (mkF m 4 #[rv ob_37, rv ob_125] [(.ref ob_125), (.int 0), (.ref ob_125), (.ref ob_37)])) _
  refine oS (own_len X0 hx hZ e0 I135 rfl rfl (hb hby dd1_4)) ?_
  show own_G p e below (s₁.setTop (mkF m 5 #[rv ob_37, rv ob_125] [(.int 5), (.int 0), (.ref ob_125), (.ref ob_37)])) _
  refine oS (fun _ => XS.aconstNull X0.here hx rfl (hb hby dd1_5) ) ?_
  have y184 : @LT.lt Nat instLTNat ob_125 h0.size := by omega
  have y331 : @LT.lt Nat instLTNat ob_37 h0.size := by omega
  obtain ⟨T340, h341, v342, L343, X344, e345, q346, s347⟩ := own_callN X0 hx hZ hown e0 (y := (⟨"java/lang/String", "<init>", "([CIILjava/lang/Void;)V"⟩ : MethodName)) (b := ob_37) rfl (oW hw 15 rfl) (oW hw 16 rfl) (oW hw 6 rfl) (oW hw 18 rfl) (by decide) (W := 0) (own_rm4 l Z a0 hw [] ob_37 ob_125 in_2 kk_126 h0 n0 Z0 O0 I141 I149 I135 y184 I293 I297 I308 I313 y331) (by decide) (by decide) (by decide) (by decide) (g := (mkF m 6 #[rv ob_37, rv ob_125] [.null, (.int 5), (.int 0), (.ref ob_125), (.ref ob_37)])) rfl (by rw [hml]; rfl) (argsL := [(.ref ob_125), (.int 0), (.int 5), .null]) (rest := []) rfl (lenOf own_pd4 rfl) rfl (by show 2 * 0 + _ ≤ _; exact Nat.le_of_eq rfl) (hb hby dd1_6)
  refine oS s347 ?_
  obtain ⟨ob_348, kk_349, rfl, N350, K351, F352, F353, F354, F355, F356, F357, F358⟩ := q346
  have N359 := Fr.app N0 N350
  have z360 := K351.1
  show own_G p e below (T340.setTop (mkF m 9 #[rv ob_37, rv ob_125] [])) _
  have y361 : @LT.lt Nat instLTNat ob_348 h341.size := by omega
  have K362 : Keep h0 h341 [ob_37] := ((Keep.refl h0 [ob_37]).trans K351 (allS (Or.inl (by simp)) all0))
  exact own_retV X344 hx Bd.notSynchronized Bd.returns (hb hby dd1_9) e345 (by decide) (by decide) (⟨ob_348, kk_349, rfl, N359, K362, (by omega), F353, F354, F355, F356, F357, y361⟩)
theorem own_pd5 : parseMethodDescriptor "([C)V" = some ⟨[(.array .char)], none⟩ := by decide +kernel
theorem own_ef7 (m : MethodId) (x0 : Addr) : entryFrame m #[(.ref x0)] 5 = mkF m 0 #[.val (.ref x0), .unset, .unset, .unset, .unset] [] := by first | (simp [entryFrame, mkF, argsToLocals, Value.category]; done) | rfl
theorem own_ef8 (m : MethodId)  : entryFrame m #[] 0 = mkF m 0 #[] [] := by first | (simp [entryFrame, mkF, argsToLocals, Value.category]; done) | rfl
theorem dd6_0 : decode prog_48_method_1_code 0 = .ok (.getstatic 13, 3) := by decide +kernel
theorem dd6_3 : decode prog_48_method_1_code 3 = .ok (.invokevirtual 17, 3) := by decide +kernel
theorem dd6_6 : decode prog_48_method_1_code 6 = .ok (.checkcast 18, 3) := by decide +kernel
theorem dd6_9 : decode prog_48_method_1_code 9 = .ok (.areturn, 1) := by decide +kernel
def own_Q9 (Z : State) (ob_5 : Nat) (kk_17 : ClassId) (ob_4 : Nat) (ob_6 : Nat) (ob_7 : Nat) (h0 : Heap) (n0 : Nat) (v : Option Value) (h : Heap) (L : List Loc) : Prop := (∃ ob_411 : Nat, v = some (.ref ob_411) ∧ Fr n0 L ∧ Keep h0 h [] ∧ h0.size ≤ ob_411 ∧ Arv Z h ob_411 kk_17 (FieldType.object "com/example/vestibule/vestibule/datacite/DoiState") 3 [(.ref ob_4), (.ref ob_6), (.ref ob_7)] .null ∧ Exa Z h ob_411 "[Lcom/example/vestibule/vestibule/datacite/DoiState;" ∧ @LT.lt Nat instLTNat ob_411 h.size)
theorem own_pn6 : plainFor (⟨"com/example/vestibule/vestibule/datacite/DoiState", "values", "()[Lcom/example/vestibule/vestibule/datacite/DoiState;"⟩ : MethodName) = true := by decide +kernel
set_option maxRecDepth 65536 in
set_option maxHeartbeats 40000000 in
theorem own_rm9 (l : Launch) (Z : State) (a0 : Array Value) (hw : ∀ d ∈ tables_1, d.before a0 Z = true) (ws : List Jvm.Cond) (ob_5 : Nat) (kk_17 : ClassId) (ob_4 : Nat) (ob_6 : Nat) (ob_7 : Nat) (h0 : Heap) (n0 : Nat) (Z0 : n0 ≤ h0.size) (O0 : Old Z n0 h0) (I388 : Sta Z Z.heap "com/example/vestibule/vestibule/datacite/DoiState" "$VALUES" "[Lcom/example/vestibule/vestibule/datacite/DoiState;" (.ref ob_5)) (I396 : Arv Z Z.heap ob_5 kk_17 (FieldType.object "com/example/vestibule/vestibule/datacite/DoiState") 3 [(.ref ob_4), (.ref ob_6), (.ref ob_7)] .null) (I400 : Exa Z Z.heap ob_5 "[Lcom/example/vestibule/vestibule/datacite/DoiState;") :
    own_Met l Z h0 (⟨"com/example/vestibule/vestibule/datacite/DoiState", "values", "()[Lcom/example/vestibule/vestibule/datacite/DoiState;"⟩ : MethodName) prog_48_method_1_code 0 (Option.some (FieldType.array (FieldType.object "com/example/vestibule/vestibule/datacite/DoiState")) ) ws ({ frames := 1, cells := 1, slots := 3, locals := 14 } : Room) #[] (own_Q9 Z ob_5 kk_17 ob_4 ob_6 ob_7 h0 n0) 1 3 := by
  refine MetFree.of_bodySF own_pn6 hisR ?_
  intro p e s m args below meth c s₁ Bd hml0 hP hK
  obtain ⟨rfl, hZ, hh⟩ := hP
  have hx := Bd.exec
  have hby := Bd.bytes
  have hml : c.maxLocals = 0 := hml0
  have hown : s.vm.findClass "com/example/vestibule/vestibule/datacite/DoiState" = some m.cls := findClass_of_methodNamed Bd.named
  have hnm := (name_of_methodNamed Bd.named Bd.method).1
  have X0 : Stand p l e ({ frames := 1, cells := 1, slots := 3, locals := 14 } : Room) s m #[] below meth c s₁ [] 0 0 := Stand.of_body Bd
  have e0 : s₁.heap = h0 := by rw [← hh, Bd.state]; rfl
  have N0 := Fr.nil n0
  show own_G p e below (s₁.setTop (entryFrame m #[] 0)) (own_P s (own_Q9 Z ob_5 kk_17 ob_4 ob_6 ob_7 h0 n0) 1 3)
  refine own_cast (own_ef8 m ) ?_
  show own_G p e below (s₁.setTop (mkF m 0 #[] [])) _
  have F389 : Sta Z h0 "com/example/vestibule/vestibule/datacite/DoiState" "$VALUES" "[Lcom/example/vestibule/vestibule/datacite/DoiState;" (.ref ob_5) := Sta.ext O0.2 I388
  obtain ⟨T390, X391, e392, s393⟩ := getS X0 hx hZ hown (host := "") (oW hw 44 rfl) Via.refl e0 F389 (g := (mkF m 0 #[] [])) rfl (hb hby dd6_0)
  refine oS s393 ?_
  show own_G p e below (T390.setTop (mkF m 3 #[] [(.ref ob_5)])) _
  have F397 : Arv Z h0 ob_5 kk_17 (FieldType.object "com/example/vestibule/vestibule/datacite/DoiState") 3 [(.ref ob_4), (.ref ob_6), (.ref ob_7)] .null := I396.ext O0.2
  have F401 : Exa Z h0 ob_5 "[Lcom/example/vestibule/vestibule/datacite/DoiState;" := Exa.ext O0.2 I400
  obtain ⟨T402, h403, X404, e405, E406, A407, B408, s409⟩ := own_clone X391 hx hZ (ad := "[Lcom/example/vestibule/vestibule/datacite/DoiState;") hown e392 (oW hw 46 rfl) (oW hw 47 rfl) (oW hw 51 rfl) (oW hw 49 rfl) (oW hw 50 rfl) (oW hw 52 rfl) F397 F401 (g := (mkF m 3 #[] [(.ref ob_5)])) rfl (by rw [hml]; rfl) rfl (hb hby dd6_3) (by decide) (W := 0) (cap := 3) (by show 2 * 0 + _ ≤ _; exact Nat.le_of_eq rfl) (by decide) (by decide) (by decide) (by decide)
  obtain ⟨ob_411, g412⟩ : ∃ z, z = h0.size := ⟨_, rfl⟩
  rw [← g412] at A407 B408 s409
  have z413 := E406.1
  have y410 : @LT.lt Nat instLTNat ob_411 h403.size := A407.lt
  refine oS s409 ?_
  show own_G p e below (T402.setTop (mkF m 6 #[] [(.ref ob_411)])) _
  obtain ⟨T414, X415, e416, s417⟩ := castY X404 hx hZ hown (oW hw 56 rfl) e405 (Ins.self B408) (g := (mkF m 6 #[] [(.ref ob_411)])) rfl rfl (hb hby dd6_6)
  refine oS s417 ?_
  show own_G p e below (T414.setTop (mkF m 9 #[] [(.ref ob_411)])) _
  have y418 : @LT.lt Nat instLTNat ob_411 h403.size := by omega
  have K419 : Keep h0 h403 [] := ((Keep.refl h0 []).ext E406)
  exact own_retA X415 hx Bd.notSynchronized Bd.returns rfl rfl (hb hby dd6_9) e416 (by decide) (by decide) (⟨ob_411, rfl, N0, K419, (by omega), A407, B408, y418⟩)
theorem own_pd6 : parseMethodDescriptor "()[Lcom/example/vestibule/vestibule/datacite/DoiState;" = some ⟨[], (some (.array (.object "com/example/vestibule/vestibule/datacite/DoiState")))⟩ := by decide +kernel
theorem dd7_0 : decode prog_48_method_5_code 0 = .ok (.invokestatic 36, 3) := by decide +kernel
theorem dd7_3 : decode prog_48_method_5_code 3 = .ok (.astore_n 1, 1) := by decide +kernel
theorem dd7_4 : decode prog_48_method_5_code 4 = .ok (.aload_n 1, 1) := by decide +kernel
theorem dd7_5 : decode prog_48_method_5_code 5 = .ok (.arraylength, 1) := by decide +kernel
theorem dd7_6 : decode prog_48_method_5_code 6 = .ok (.istore_n 2, 1) := by decide +kernel
theorem dd7_7 : decode prog_48_method_5_code 7 = .ok (.iconst 0, 1) := by decide +kernel
theorem dd7_8 : decode prog_48_method_5_code 8 = .ok (.istore_n 3, 1) := by decide +kernel
theorem dd7_9 : decode prog_48_method_5_code 9 = .ok (.iload_n 3, 1) := by decide +kernel
theorem dd7_10 : decode prog_48_method_5_code 10 = .ok (.iload_n 2, 1) := by decide +kernel
theorem dd7_11 : decode prog_48_method_5_code 11 = .ok (.if_icmp .ge 29, 3) := by decide +kernel
theorem dd7_14 : decode prog_48_method_5_code 14 = .ok (.aload_n 1, 1) := by decide +kernel
theorem dd7_15 : decode prog_48_method_5_code 15 = .ok (.iload_n 3, 1) := by decide +kernel
theorem dd7_16 : decode prog_48_method_5_code 16 = .ok (.aaload, 1) := by decide +kernel
theorem dd7_17 : decode prog_48_method_5_code 17 = .ok (.astore 4, 2) := by decide +kernel
theorem dd7_19 : decode prog_48_method_5_code 19 = .ok (.aload 4, 2) := by decide +kernel
theorem dd7_21 : decode prog_48_method_5_code 21 = .ok (.getfield 32, 3) := by decide +kernel
theorem dd7_24 : decode prog_48_method_5_code 24 = .ok (.aload_n 0, 1) := by decide +kernel
theorem own_ef9 (m : MethodId) (x0 : Addr) (x1 : Addr) : entryFrame m #[(.ref x0), (.ref x1)] 3 = mkF m 0 #[.val (.ref x0), .val (.ref x1), .unset] [] := by first | (simp [entryFrame, mkF, argsToLocals, Value.category]; done) | rfl
theorem dd8_0 : decode jdk_42_method_66_code 0 = .ok (.aload_n 0, 1) := by decide +kernel
theorem dd8_1 : decode jdk_42_method_66_code 1 = .ok (.aload_n 1, 1) := by decide +kernel
theorem dd8_2 : decode jdk_42_method_66_code 2 = .ok (.if_acmp .ne 5, 3) := by decide +kernel
theorem dd8_7 : decode jdk_42_method_66_code 7 = .ok (.aload_n 1, 1) := by decide +kernel
theorem dd8_8 : decode jdk_42_method_66_code 8 = .ok (.instanceof 10, 3) := by decide +kernel
theorem dd8_11 : decode jdk_42_method_66_code 11 = .ok (.ifCond .eq 43, 3) := by decide +kernel
theorem dd8_14 : decode jdk_42_method_66_code 14 = .ok (.aload_n 1, 1) := by decide +kernel
theorem dd8_15 : decode jdk_42_method_66_code 15 = .ok (.checkcast 10, 3) := by decide +kernel
theorem dd8_18 : decode jdk_42_method_66_code 18 = .ok (.astore_n 2, 1) := by decide +kernel
theorem dd8_19 : decode jdk_42_method_66_code 19 = .ok (.getstatic 38, 3) := by decide +kernel
theorem dd8_22 : decode jdk_42_method_66_code 22 = .ok (.ifCond .eq 14, 3) := by decide +kernel
theorem dd8_25 : decode jdk_42_method_66_code 25 = .ok (.aload_n 0, 1) := by decide +kernel
theorem dd8_26 : decode jdk_42_method_66_code 26 = .ok (.getfield 15, 3) := by decide +kernel
theorem dd8_29 : decode jdk_42_method_66_code 29 = .ok (.aload_n 2, 1) := by decide +kernel
theorem dd8_30 : decode jdk_42_method_66_code 30 = .ok (.getfield 15, 3) := by decide +kernel
theorem dd8_33 : decode jdk_42_method_66_code 33 = .ok (.if_icmp .ne 21, 3) := by decide +kernel
theorem dd8_36 : decode jdk_42_method_66_code 36 = .ok (.aload_n 0, 1) := by decide +kernel
theorem dd8_37 : decode jdk_42_method_66_code 37 = .ok (.getfield 9, 3) := by decide +kernel
theorem dd8_40 : decode jdk_42_method_66_code 40 = .ok (.aload_n 2, 1) := by decide +kernel
theorem dd8_41 : decode jdk_42_method_66_code 41 = .ok (.getfield 9, 3) := by decide +kernel
theorem dd9_0 : decode jdk_43_method_13_code 0 = .ok (.aload_n 0, 1) := by decide +kernel
theorem dd9_1 : decode jdk_43_method_13_code 1 = .ok (.arraylength, 1) := by decide +kernel
theorem dd9_2 : decode jdk_43_method_13_code 2 = .ok (.aload_n 1, 1) := by decide +kernel
theorem dd9_3 : decode jdk_43_method_13_code 3 = .ok (.arraylength, 1) := by decide +kernel
theorem dd9_4 : decode jdk_43_method_13_code 4 = .ok (.if_icmp .ne 30, 3) := by decide +kernel
theorem dd9_7 : decode jdk_43_method_13_code 7 = .ok (.iconst 0, 1) := by decide +kernel
theorem dd9_8 : decode jdk_43_method_13_code 8 = .ok (.istore_n 2, 1) := by decide +kernel
theorem dd9_9 : decode jdk_43_method_13_code 9 = .ok (.iload_n 2, 1) := by decide +kernel
theorem dd9_10 : decode jdk_43_method_13_code 10 = .ok (.aload_n 0, 1) := by decide +kernel
theorem dd9_11 : decode jdk_43_method_13_code 11 = .ok (.arraylength, 1) := by decide +kernel
theorem dd9_12 : decode jdk_43_method_13_code 12 = .ok (.if_icmp .ge 20, 3) := by decide +kernel
theorem dd9_15 : decode jdk_43_method_13_code 15 = .ok (.aload_n 0, 1) := by decide +kernel
theorem dd9_16 : decode jdk_43_method_13_code 16 = .ok (.iload_n 2, 1) := by decide +kernel
theorem dd9_17 : decode jdk_43_method_13_code 17 = .ok (.baload, 1) := by decide +kernel
theorem dd9_18 : decode jdk_43_method_13_code 18 = .ok (.aload_n 1, 1) := by decide +kernel
theorem dd9_19 : decode jdk_43_method_13_code 19 = .ok (.iload_n 2, 1) := by decide +kernel
theorem dd9_20 : decode jdk_43_method_13_code 20 = .ok (.baload, 1) := by decide +kernel
theorem dd9_21 : decode jdk_43_method_13_code 21 = .ok (.if_icmp .eq 5, 3) := by decide +kernel
theorem dd9_26 : decode jdk_43_method_13_code 26 = .ok (.iinc 2 1, 3) := by decide +kernel
theorem dd9_29 : decode jdk_43_method_13_code 29 = .ok (.goto (-20), 3) := by decide +kernel
theorem dd9_32 : decode jdk_43_method_13_code 32 = .ok (.iconst 1, 1) := by decide +kernel
theorem dd9_33 : decode jdk_43_method_13_code 33 = .ok (.ireturn, 1) := by decide +kernel
def own_Q11 (Z : State) (ob_9 : Nat) (ob_373 : Nat) (kk_10 : ClassId) (kk_374 : ClassId) (h0 : Heap) (n0 : Nat) (v : Option Value) (h : Heap) (L : List Loc) : Prop := (v = some (.int 1) ∧ Fr n0 L ∧ h = h0)
theorem own_pn7 : plainFor (⟨"java/lang/StringLatin1", "equals", "([B[B)Z"⟩ : MethodName) = true := by decide +kernel
set_option maxRecDepth 65536 in
set_option maxHeartbeats 40000000 in
theorem own_rm11 (l : Launch) (Z : State) (a0 : Array Value) (hw : ∀ d ∈ tables_1, d.before a0 Z = true) (ws : List Jvm.Cond) (ob_9 : Nat) (ob_373 : Nat) (kk_10 : ClassId) (kk_374 : ClassId) (h0 : Heap) (n0 : Nat) (Z0 : n0 ≤ h0.size) (O0 : Old Z n0 h0) (I507 : Arv Z Z.heap ob_9 kk_10 FieldType.byte 5 [(.int 100), (.int 114), (.int 97), (.int 102), (.int 116)] (.int 0)) (I512 : Arv Z h0 ob_373 kk_374 .byte 5 [(.int 100), (.int 114), (.int 97), (.int 102), (.int 116)] (.int 0)) :
    own_Met l Z h0 (⟨"java/lang/StringLatin1", "equals", "([B[B)Z"⟩ : MethodName) jdk_43_method_13_code 3 (Option.some FieldType.boolean) ws ({ frames := 0, cells := 0, slots := 0, locals := 0 } : Room) #[(.ref ob_9), (.ref ob_373)] (own_Q11 Z ob_9 ob_373 kk_10 kk_374 h0 n0) 0 0 := by
  refine MetFree.of_bodySF own_pn7 hisR ?_
  intro p e s m args below meth c s₁ Bd hml0 hP hK
  obtain ⟨rfl, hZ, hh⟩ := hP
  have hx := Bd.exec
  have hby := Bd.bytes
  have hml : c.maxLocals = 3 := hml0
  have hown : s.vm.findClass "java/lang/StringLatin1" = some m.cls := findClass_of_methodNamed Bd.named
  have hnm := (name_of_methodNamed Bd.named Bd.method).1
  have X0 : Stand p l e ({ frames := 0, cells := 0, slots := 0, locals := 0 } : Room) s m #[(.ref ob_9), (.ref ob_373)] below meth c s₁ [] 0 0 := Stand.of_body Bd
  have e0 : s₁.heap = h0 := by rw [← hh, Bd.state]; rfl
  have N0 := Fr.nil n0
  show own_G p e below (s₁.setTop (entryFrame m #[(.ref ob_9), (.ref ob_373)] 3)) (own_P s (own_Q11 Z ob_9 ob_373 kk_10 kk_374 h0 n0) 0 0)
  refine own_cast (own_ef9 m ob_9 ob_373) ?_
  show own_G p e below (s₁.setTop (mkF m 0 #[rv ob_9, rv ob_373, .unset] [])) _
  refine oS (fun _ => XS.aloadN X0.here hx rfl (hb hby dd9_0) rfl rfl) ?_
  have F508 : Arv Z h0 ob_9 kk_10 FieldType.byte 5 [(.int 100), (.int 114), (.int 97), (.int 102), (.int 116)] (.int 0) := I507.ext O0.2
  refine oS (own_len X0 hx hZ e0 F508 rfl rfl (hb hby dd9_1)) ?_
  show own_G p e below (s₁.setTop (mkF m 2 #[rv ob_9, rv ob_373, .unset] [(.int 5)])) _
  refine oS (fun _ => XS.aloadN X0.here hx rfl (hb hby dd9_2) rfl rfl) ?_
  refine oS (own_len X0 hx hZ e0 I512 rfl rfl (hb hby dd9_3)) ?_
  show own_G p e below (s₁.setTop (mkF m 4 #[rv ob_9, rv ob_373, .unset] [(.int 5), (.int 5)])) _
  refine oS (fun _ => XS.icmpNo X0.here hx rfl (hb hby dd9_4) rfl (XT.ii_ne_f (by decide))) ?_
  show own_G p e below (s₁.setTop (mkF m 7 #[rv ob_9, rv ob_373, .unset] [])) _
  refine oS (fun _ => XS.iconst X0.here hx rfl (hb hby dd9_7) ) ?_
  refine oS (fun _ => XS.istoreN X0.here hx rfl (hb hby dd9_8) rfl (l' := #[rv ob_9, rv ob_373, iv 0]) rfl) ?_
  refine oS (fun _ => XS.iloadN X0.here hx rfl (hb hby dd9_9) rfl) ?_
  refine oS (fun _ => XS.aloadN X0.here hx rfl (hb hby dd9_10) rfl rfl) ?_
  show own_G p e below (s₁.setTop (mkF m 11 #[rv ob_9, rv ob_373, iv 0] [(.ref ob_9), (.int 0)])) _
  refine oS (own_len X0 hx hZ e0 F508 rfl rfl (hb hby dd9_11)) ?_
  show own_G p e below (s₁.setTop (mkF m 12 #[rv ob_9, rv ob_373, iv 0] [(.int 5), (.int 0)])) _
  refine oS (fun _ => XS.icmpNo X0.here hx rfl (hb hby dd9_12) rfl (XT.ii_ge_f (by decide))) ?_
  show own_G p e below (s₁.setTop (mkF m 15 #[rv ob_9, rv ob_373, iv 0] [])) _
  refine oS (fun _ => XS.aloadN X0.here hx rfl (hb hby dd9_15) rfl rfl) ?_
  refine oS (fun _ => XS.iloadN X0.here hx rfl (hb hby dd9_16) rfl) ?_
  refine oS (own_baload X0 hx hZ e0 F508 (by decide) (v := (.int 100)) rfl rfl rfl (hb hby dd9_17)) ?_
  show own_G p e below (s₁.setTop (mkF m 18 #[rv ob_9, rv ob_373, iv 0] [(.int 100)])) _
  refine oS (fun _ => XS.aloadN X0.here hx rfl (hb hby dd9_18) rfl rfl) ?_
  refine oS (fun _ => XS.iloadN X0.here hx rfl (hb hby dd9_19) rfl) ?_
  refine oS (own_baload X0 hx hZ e0 I512 (by decide) (v := (.int 100)) rfl rfl rfl (hb hby dd9_20)) ?_
  show own_G p e below (s₁.setTop (mkF m 21 #[rv ob_9, rv ob_373, iv 0] [(.int 100), (.int 100)])) _
  refine oS (fun _ => XS.icmpYes X0.here hx rfl (pc0 := 21) (pc' := 26) rfl (hb hby dd9_21) rfl (XT.ii_eq_t (by decide)) (by decide) (by decide)) ?_
  show own_G p e below (s₁.setTop (mkF m 26 #[rv ob_9, rv ob_373, iv 0] [])) _
  refine oS (fun _ => XS.iinc X0.here hx rfl (hb hby dd9_26) rfl (l' := #[rv ob_9, rv ob_373, iv 1]) rfl) ?_
  show own_G p e below (s₁.setTop (mkF m 29 #[rv ob_9, rv ob_373, iv 1] [])) _
  refine oS (fun _ => XS.goto X0.here hx rfl (pc0 := 29) (pc' := 9) rfl (hb hby dd9_29) (by decide) (by decide)) ?_
  show own_G p e below (s₁.setTop (mkF m 9 #[rv ob_9, rv ob_373, iv 1] [])) _
  refine oS (fun _ => XS.iloadN X0.here hx rfl (hb hby dd9_9) rfl) ?_
  refine oS (fun _ => XS.aloadN X0.here hx rfl (hb hby dd9_10) rfl rfl) ?_
  refine oS (own_len X0 hx hZ e0 F508 rfl rfl (hb hby dd9_11)) ?_
  show own_G p e below (s₁.setTop (mkF m 12 #[rv ob_9, rv ob_373, iv 1] [(.int 5), (.int 1)])) _
  refine oS (fun _ => XS.icmpNo X0.here hx rfl (hb hby dd9_12) rfl (XT.ii_ge_f (by decide))) ?_
  show own_G p e below (s₁.setTop (mkF m 15 #[rv ob_9, rv ob_373, iv 1] [])) _
  refine oS (fun _ => XS.aloadN X0.here hx rfl (hb hby dd9_15) rfl rfl) ?_
  refine oS (fun _ => XS.iloadN X0.here hx rfl (hb hby dd9_16) rfl) ?_
  refine oS (own_baload X0 hx hZ e0 F508 (by decide) (v := (.int 114)) rfl rfl rfl (hb hby dd9_17)) ?_
  show own_G p e below (s₁.setTop (mkF m 18 #[rv ob_9, rv ob_373, iv 1] [(.int 114)])) _
  refine oS (fun _ => XS.aloadN X0.here hx rfl (hb hby dd9_18) rfl rfl) ?_
  refine oS (fun _ => XS.iloadN X0.here hx rfl (hb hby dd9_19) rfl) ?_
  refine oS (own_baload X0 hx hZ e0 I512 (by decide) (v := (.int 114)) rfl rfl rfl (hb hby dd9_20)) ?_
  show own_G p e below (s₁.setTop (mkF m 21 #[rv ob_9, rv ob_373, iv 1] [(.int 114), (.int 114)])) _
  refine oS (fun _ => XS.icmpYes X0.here hx rfl (pc0 := 21) (pc' := 26) rfl (hb hby dd9_21) rfl (XT.ii_eq_t (by decide)) (by decide) (by decide)) ?_
  show own_G p e below (s₁.setTop (mkF m 26 #[rv ob_9, rv ob_373, iv 1] [])) _
  refine oS (fun _ => XS.iinc X0.here hx rfl (hb hby dd9_26) rfl (l' := #[rv ob_9, rv ob_373, iv 2]) rfl) ?_
  show own_G p e below (s₁.setTop (mkF m 29 #[rv ob_9, rv ob_373, iv 2] [])) _
  refine oS (fun _ => XS.goto X0.here hx rfl (pc0 := 29) (pc' := 9) rfl (hb hby dd9_29) (by decide) (by decide)) ?_
  show own_G p e below (s₁.setTop (mkF m 9 #[rv ob_9, rv ob_373, iv 2] [])) _
  refine oS (fun _ => XS.iloadN X0.here hx rfl (hb hby dd9_9) rfl) ?_
  refine oS (fun _ => XS.aloadN X0.here hx rfl (hb hby dd9_10) rfl rfl) ?_
  refine oS (own_len X0 hx hZ e0 F508 rfl rfl (hb hby dd9_11)) ?_
  show own_G p e below (s₁.setTop (mkF m 12 #[rv ob_9, rv ob_373, iv 2] [(.int 5), (.int 2)])) _
  refine oS (fun _ => XS.icmpNo X0.here hx rfl (hb hby dd9_12) rfl (XT.ii_ge_f (by decide))) ?_
  show own_G p e below (s₁.setTop (mkF m 15 #[rv ob_9, rv ob_373, iv 2] [])) _
  refine oS (fun _ => XS.aloadN X0.here hx rfl (hb hby dd9_15) rfl rfl) ?_
  refine oS (fun _ => XS.iloadN X0.here hx rfl (hb hby dd9_16) rfl) ?_
  refine oS (own_baload X0 hx hZ e0 F508 (by decide) (v := (.int 97)) rfl rfl rfl (hb hby dd9_17)) ?_
  show own_G p e below (s₁.setTop (mkF m 18 #[rv ob_9, rv ob_373, iv 2] [(.int 97)])) _
  refine oS (fun _ => XS.aloadN X0.here hx rfl (hb hby dd9_18) rfl rfl) ?_
  refine oS (fun _ => XS.iloadN X0.here hx rfl (hb hby dd9_19) rfl) ?_
  refine oS (own_baload X0 hx hZ e0 I512 (by decide) (v := (.int 97)) rfl rfl rfl (hb hby dd9_20)) ?_
  show own_G p e below (s₁.setTop (mkF m 21 #[rv ob_9, rv ob_373, iv 2] [(.int 97), (.int 97)])) _
  refine oS (fun _ => XS.icmpYes X0.here hx rfl (pc0 := 21) (pc' := 26) rfl (hb hby dd9_21) rfl (XT.ii_eq_t (by decide)) (by decide) (by decide)) ?_
  show own_G p e below (s₁.setTop (mkF m 26 #[rv ob_9, rv ob_373, iv 2] [])) _
  refine oS (fun _ => XS.iinc X0.here hx rfl (hb hby dd9_26) rfl (l' := #[rv ob_9, rv ob_373, iv 3]) rfl) ?_
  show own_G p e below (s₁.setTop (mkF m 29 #[rv ob_9, rv ob_373, iv 3] [])) _
  refine oS (fun _ => XS.goto X0.here hx rfl (pc0 := 29) (pc' := 9) rfl (hb hby dd9_29) (by decide) (by decide)) ?_
  show own_G p e below (s₁.setTop (mkF m 9 #[rv ob_9, rv ob_373, iv 3] [])) _
  refine oS (fun _ => XS.iloadN X0.here hx rfl (hb hby dd9_9) rfl) ?_
  refine oS (fun _ => XS.aloadN X0.here hx rfl (hb hby dd9_10) rfl rfl) ?_
  refine oS (own_len X0 hx hZ e0 F508 rfl rfl (hb hby dd9_11)) ?_
  show own_G p e below (s₁.setTop (mkF m 12 #[rv ob_9, rv ob_373, iv 3] [(.int 5), (.int 3)])) _
  refine oS (fun _ => XS.icmpNo X0.here hx rfl (hb hby dd9_12) rfl (XT.ii_ge_f (by decide))) ?_
  show own_G p e below (s₁.setTop (mkF m 15 #[rv ob_9, rv ob_373, iv 3] [])) _
  refine oS (fun _ => XS.aloadN X0.here hx rfl (hb hby dd9_15) rfl rfl) ?_
  refine oS (fun _ => XS.iloadN X0.here hx rfl (hb hby dd9_16) rfl) ?_
  refine oS (own_baload X0 hx hZ e0 F508 (by decide) (v := (.int 102)) rfl rfl rfl (hb hby dd9_17)) ?_
  show own_G p e below (s₁.setTop (mkF m 18 #[rv ob_9, rv ob_373, iv 3] [(.int 102)])) _
  refine oS (fun _ => XS.aloadN X0.here hx rfl (hb hby dd9_18) rfl rfl) ?_
  refine oS (fun _ => XS.iloadN X0.here hx rfl (hb hby dd9_19) rfl) ?_
  refine oS (own_baload X0 hx hZ e0 I512 (by decide) (v := (.int 102)) rfl rfl rfl (hb hby dd9_20)) ?_
  show own_G p e below (s₁.setTop (mkF m 21 #[rv ob_9, rv ob_373, iv 3] [(.int 102), (.int 102)])) _
  refine oS (fun _ => XS.icmpYes X0.here hx rfl (pc0 := 21) (pc' := 26) rfl (hb hby dd9_21) rfl (XT.ii_eq_t (by decide)) (by decide) (by decide)) ?_
  show own_G p e below (s₁.setTop (mkF m 26 #[rv ob_9, rv ob_373, iv 3] [])) _
  refine oS (fun _ => XS.iinc X0.here hx rfl (hb hby dd9_26) rfl (l' := #[rv ob_9, rv ob_373, iv 4]) rfl) ?_
  show own_G p e below (s₁.setTop (mkF m 29 #[rv ob_9, rv ob_373, iv 4] [])) _
  refine oS (fun _ => XS.goto X0.here hx rfl (pc0 := 29) (pc' := 9) rfl (hb hby dd9_29) (by decide) (by decide)) ?_
  show own_G p e below (s₁.setTop (mkF m 9 #[rv ob_9, rv ob_373, iv 4] [])) _
  refine oS (fun _ => XS.iloadN X0.here hx rfl (hb hby dd9_9) rfl) ?_
  refine oS (fun _ => XS.aloadN X0.here hx rfl (hb hby dd9_10) rfl rfl) ?_
  refine oS (own_len X0 hx hZ e0 F508 rfl rfl (hb hby dd9_11)) ?_
  show own_G p e below (s₁.setTop (mkF m 12 #[rv ob_9, rv ob_373, iv 4] [(.int 5), (.int 4)])) _
  refine oS (fun _ => XS.icmpNo X0.here hx rfl (hb hby dd9_12) rfl (XT.ii_ge_f (by decide))) ?_
  show own_G p e below (s₁.setTop (mkF m 15 #[rv ob_9, rv ob_373, iv 4] [])) _
  refine oS (fun _ => XS.aloadN X0.here hx rfl (hb hby dd9_15) rfl rfl) ?_
  refine oS (fun _ => XS.iloadN X0.here hx rfl (hb hby dd9_16) rfl) ?_
  refine oS (own_baload X0 hx hZ e0 F508 (by decide) (v := (.int 116)) rfl rfl rfl (hb hby dd9_17)) ?_
  show own_G p e below (s₁.setTop (mkF m 18 #[rv ob_9, rv ob_373, iv 4] [(.int 116)])) _
  refine oS (fun _ => XS.aloadN X0.here hx rfl (hb hby dd9_18) rfl rfl) ?_
  refine oS (fun _ => XS.iloadN X0.here hx rfl (hb hby dd9_19) rfl) ?_
  refine oS (own_baload X0 hx hZ e0 I512 (by decide) (v := (.int 116)) rfl rfl rfl (hb hby dd9_20)) ?_
  show own_G p e below (s₁.setTop (mkF m 21 #[rv ob_9, rv ob_373, iv 4] [(.int 116), (.int 116)])) _
  refine oS (fun _ => XS.icmpYes X0.here hx rfl (pc0 := 21) (pc' := 26) rfl (hb hby dd9_21) rfl (XT.ii_eq_t (by decide)) (by decide) (by decide)) ?_
  show own_G p e below (s₁.setTop (mkF m 26 #[rv ob_9, rv ob_373, iv 4] [])) _
  refine oS (fun _ => XS.iinc X0.here hx rfl (hb hby dd9_26) rfl (l' := #[rv ob_9, rv ob_373, iv 5]) rfl) ?_
  show own_G p e below (s₁.setTop (mkF m 29 #[rv ob_9, rv ob_373, iv 5] [])) _
  refine oS (fun _ => XS.goto X0.here hx rfl (pc0 := 29) (pc' := 9) rfl (hb hby dd9_29) (by decide) (by decide)) ?_
  show own_G p e below (s₁.setTop (mkF m 9 #[rv ob_9, rv ob_373, iv 5] [])) _
  refine oS (fun _ => XS.iloadN X0.here hx rfl (hb hby dd9_9) rfl) ?_
  refine oS (fun _ => XS.aloadN X0.here hx rfl (hb hby dd9_10) rfl rfl) ?_
  refine oS (own_len X0 hx hZ e0 F508 rfl rfl (hb hby dd9_11)) ?_
  show own_G p e below (s₁.setTop (mkF m 12 #[rv ob_9, rv ob_373, iv 5] [(.int 5), (.int 5)])) _
  refine oS (fun _ => XS.icmpYes X0.here hx rfl (pc0 := 12) (pc' := 32) rfl (hb hby dd9_12) rfl (XT.ii_ge_t (by decide)) (by decide) (by decide)) ?_
  show own_G p e below (s₁.setTop (mkF m 32 #[rv ob_9, rv ob_373, iv 5] [])) _
  refine oS (fun _ => XS.iconst X0.here hx rfl (hb hby dd9_32) ) ?_
  exact own_retN X0 hx (t := .boolean) Bd.notSynchronized Bd.returns (by simp) (hb hby dd9_33) (by decide) e0 (by decide) (by decide) (⟨rfl, N0, rfl⟩)
theorem own_pd7 : parseMethodDescriptor "([B[B)Z" = some ⟨[(.array .byte), (.array .byte)], (some .boolean)⟩ := by decide +kernel
theorem dd8_44 : decode jdk_42_method_66_code 44 = .ok (.invokestatic 541, 3) := by decide +kernel
theorem dd8_47 : decode jdk_42_method_66_code 47 = .ok (.ifCond .eq 7, 3) := by decide +kernel
theorem dd8_50 : decode jdk_42_method_66_code 50 = .ok (.iconst 1, 1) := by decide +kernel
theorem dd8_51 : decode jdk_42_method_66_code 51 = .ok (.goto 4, 3) := by decide +kernel
theorem dd8_55 : decode jdk_42_method_66_code 55 = .ok (.ireturn, 1) := by decide +kernel
def own_Q10 (Z : State) (ob_8 : Nat) (ob_37 : Nat) (in_2 : Int32) (ob_9 : Nat) (ob_373 : Nat) (kk_10 : ClassId) (kk_374 : ClassId) (h0 : Heap) (n0 : Nat) (v : Option Value) (h : Heap) (L : List Loc) : Prop := (v = some (.int 1) ∧ Fr n0 L ∧ h = h0)
theorem own_pn8 : plainFor (⟨"java/lang/String", "equals", "(Ljava/lang/Object;)Z"⟩ : MethodName) = true := by decide +kernel
set_option maxRecDepth 65536 in
set_option maxHeartbeats 40000000 in
theorem own_rm10 (l : Launch) (Z : State) (a0 : Array Value) (hw : ∀ d ∈ tables_1, d.before a0 Z = true) (ws : List Jvm.Cond) (ob_8 : Nat) (ob_37 : Nat) (in_2 : Int32) (ob_9 : Nat) (ob_373 : Nat) (kk_10 : ClassId) (kk_374 : ClassId) (h0 : Heap) (n0 : Nat) (Z0 : n0 ≤ h0.size) (O0 : Old Z n0 h0) (I447 : Exa Z Z.heap ob_8 "java/lang/String") (I452 : n0 ≤ ob_37) (I460 : Exa Z h0 ob_37 "java/lang/String") (I466 : Sta Z Z.heap "java/lang/String" "COMPACT_STRINGS" "Z" (.int in_2)) (I473 : ¬ (in_2 = 0)) (I476 : Fld Z Z.heap ob_8 "java/lang/String" "coder" "B" (.int 0)) (I484 : Fld Z h0 ob_37 "java/lang/String" "coder" "B" (.int 0)) (I491 : Fld Z Z.heap ob_8 "java/lang/String" "value" "[B" (.ref ob_9)) (I499 : Fld Z h0 ob_37 "java/lang/String" "value" "[B" (.ref ob_373)) (I506 : Arv Z Z.heap ob_9 kk_10 FieldType.byte 5 [(.int 100), (.int 114), (.int 97), (.int 102), (.int 116)] (.int 0)) (I511 : Arv Z h0 ob_373 kk_374 .byte 5 [(.int 100), (.int 114), (.int 97), (.int 102), (.int 116)] (.int 0)) :
    own_Met l Z h0 (⟨"java/lang/String", "equals", "(Ljava/lang/Object;)Z"⟩ : MethodName) jdk_42_method_66_code 3 (Option.some FieldType.boolean) ws ({ frames := 1, cells := 0, slots := 0, locals := 14 } : Room) #[(.ref ob_8), (.ref ob_37)] (own_Q10 Z ob_8 ob_37 in_2 ob_9 ob_373 kk_10 kk_374 h0 n0) 0 0 := by
  refine MetFree.of_bodySF own_pn8 hisR ?_
  intro p e s m args below meth c s₁ Bd hml0 hP hK
  obtain ⟨rfl, hZ, hh⟩ := hP
  have hx := Bd.exec
  have hby := Bd.bytes
  have hml : c.maxLocals = 3 := hml0
  have hown : s.vm.findClass "java/lang/String" = some m.cls := findClass_of_methodNamed Bd.named
  have hnm := (name_of_methodNamed Bd.named Bd.method).1
  have X0 : Stand p l e ({ frames := 1, cells := 0, slots := 0, locals := 14 } : Room) s m #[(.ref ob_8), (.ref ob_37)] below meth c s₁ [] 0 0 := Stand.of_body Bd
  have e0 : s₁.heap = h0 := by rw [← hh, Bd.state]; rfl
  have N0 := Fr.nil n0
  show own_G p e below (s₁.setTop (entryFrame m #[(.ref ob_8), (.ref ob_37)] 3)) (own_P s (own_Q10 Z ob_8 ob_37 in_2 ob_9 ob_373 kk_10 kk_374 h0 n0) 0 0)
  refine own_cast (own_ef9 m ob_8 ob_37) ?_
  show own_G p e below (s₁.setTop (mkF m 0 #[rv ob_8, rv ob_37, .unset] [])) _
  refine oS (fun _ => XS.aloadN X0.here hx rfl (hb hby dd8_0) rfl rfl) ?_
  refine oS (fun _ => XS.aloadN X0.here hx rfl (hb hby dd8_1) rfl rfl) ?_
  have y448 : @LT.lt Nat instLTNat ob_8 Z.heap.size := I447.lt
  have y449 : Z.heap.size = n0 := O0.1
  have y450 := I452
  have N453 : @Ne Nat ob_8 ob_37 := by omega
  refine oS (fun _ => XT.acmpYes X0.here hx rfl (pc0 := 2) (pc' := 7) rfl (hb hby dd8_2) rfl rfl rfl (XT.aa_ne_t (own_rne N453)) (by decide) (by decide)) ?_
  show own_G p e below (s₁.setTop (mkF m 7 #[rv ob_8, rv ob_37, .unset] [])) _
  refine oS (fun _ => XS.aloadN X0.here hx rfl (hb hby dd8_7) rfl rfl) ?_
  obtain ⟨T454, X455, e456, s457⟩ := instY X0 hx hZ hown (oW hw 65 rfl) e0 (Ins.self I460) (g := (mkF m 8 #[rv ob_8, rv ob_37, .unset] [(.ref ob_37)])) rfl rfl (hb hby dd8_8)
  refine oS s457 ?_
  show own_G p e below (T454.setTop (mkF m 11 #[rv ob_8, rv ob_37, .unset] [(.int 1)])) _
  refine oS (fun _ => XS.ifNo X455.here hx rfl (hb hby dd8_11) rfl (XT.i0_eq_f (by decide))) ?_
  show own_G p e below (T454.setTop (mkF m 14 #[rv ob_8, rv ob_37, .unset] [])) _
  refine oS (fun _ => XS.aloadN X455.here hx rfl (hb hby dd8_14) rfl rfl) ?_
  obtain ⟨T461, X462, e463, s464⟩ := castY X455 hx hZ hown (oW hw 65 rfl) e456 (Ins.self I460) (g := (mkF m 15 #[rv ob_8, rv ob_37, .unset] [(.ref ob_37)])) rfl rfl (hb hby dd8_15)
  refine oS s464 ?_
  show own_G p e below (T461.setTop (mkF m 18 #[rv ob_8, rv ob_37, .unset] [(.ref ob_37)])) _
  refine oS (fun _ => XS.astoreN X462.here hx rfl (hb hby dd8_18) rfl rfl (l' := #[rv ob_8, rv ob_37, rv ob_37]) rfl) ?_
  have F467 : Sta Z h0 "java/lang/String" "COMPACT_STRINGS" "Z" (.int in_2) := Sta.ext O0.2 I466
  obtain ⟨T468, X469, e470, s471⟩ := getS X462 hx hZ hown (host := "") (oW hw 22 rfl) Via.refl e463 F467 (g := (mkF m 19 #[rv ob_8, rv ob_37, rv ob_37] [])) rfl (hb hby dd8_19)
  refine oS s471 ?_
  show own_G p e below (T468.setTop (mkF m 22 #[rv ob_8, rv ob_37, rv ob_37] [(.int in_2)])) _
  refine oS (fun _ => XS.ifNo X469.here hx rfl (hb hby dd8_22) rfl (XT.i0_eq_f I473)) ?_
  show own_G p e below (T468.setTop (mkF m 25 #[rv ob_8, rv ob_37, rv ob_37] [])) _
  refine oS (fun _ => XS.aloadN X469.here hx rfl (hb hby dd8_25) rfl rfl) ?_
  have F477 : Fld Z h0 ob_8 "java/lang/String" "coder" "B" (.int 0) := Fld.ext O0.2 I476
  obtain ⟨T478, X479, e480, s481⟩ := getF X469 hx hZ hown (host := "") (Or.inl (oW hw 34 rfl)) Via.refl e470 F477 (g := (mkF m 26 #[rv ob_8, rv ob_37, rv ob_37] [(.ref ob_8)])) rfl rfl (hb hby dd8_26)
  refine oS s481 ?_
  show own_G p e below (T478.setTop (mkF m 29 #[rv ob_8, rv ob_37, rv ob_37] [(.int 0)])) _
  refine oS (fun _ => XS.aloadN X479.here hx rfl (hb hby dd8_29) rfl rfl) ?_
  obtain ⟨T485, X486, e487, s488⟩ := getF X479 hx hZ hown (host := "") (Or.inl (oW hw 34 rfl)) Via.refl e480 I484 (g := (mkF m 30 #[rv ob_8, rv ob_37, rv ob_37] [(.ref ob_37), (.int 0)])) rfl rfl (hb hby dd8_30)
  refine oS s488 ?_
  show own_G p e below (T485.setTop (mkF m 33 #[rv ob_8, rv ob_37, rv ob_37] [(.int 0), (.int 0)])) _
  refine oS (fun _ => XS.icmpNo X486.here hx rfl (hb hby dd8_33) rfl (XT.ii_ne_f (by decide))) ?_
  show own_G p e below (T485.setTop (mkF m 36 #[rv ob_8, rv ob_37, rv ob_37] [])) _
  refine oS (fun _ => XS.aloadN X486.here hx rfl (hb hby dd8_36) rfl rfl) ?_
  have F492 : Fld Z h0 ob_8 "java/lang/String" "value" "[B" (.ref ob_9) := Fld.ext O0.2 I491
  obtain ⟨T493, X494, e495, s496⟩ := getF X486 hx hZ hown (host := "") (Or.inl (oW hw 36 rfl)) Via.refl e487 F492 (g := (mkF m 37 #[rv ob_8, rv ob_37, rv ob_37] [(.ref ob_8)])) rfl rfl (hb hby dd8_37)
  refine oS s496 ?_
  show own_G p e below (T493.setTop (mkF m 40 #[rv ob_8, rv ob_37, rv ob_37] [(.ref ob_9)])) _
  refine oS (fun _ => XS.aloadN X494.here hx rfl (hb hby dd8_40) rfl rfl) ?_
  obtain ⟨T500, X501, e502, s503⟩ := getF X494 hx hZ hown (host := "") (Or.inl (oW hw 36 rfl)) Via.refl e495 I499 (g := (mkF m 41 #[rv ob_8, rv ob_37, rv ob_37] [(.ref ob_37), (.ref ob_9)])) rfl rfl (hb hby dd8_41)
  refine oS s503 ?_
  show own_G p e below (T500.setTop (mkF m 44 #[rv ob_8, rv ob_37, rv ob_37] [(.ref ob_373), (.ref ob_9)])) _
  obtain ⟨T513, h514, v515, L516, X517, e518, q519, s520⟩ := own_callS X501 hx hZ hown e502 (y := (⟨"java/lang/StringLatin1", "equals", "([B[B)Z"⟩ : MethodName)) (oW hw 66 rfl) (oW hw 67 rfl) (oW hw 68 rfl) (oW hw 69 rfl) (by decide) (W := 0) (own_rm11 l Z a0 hw [] ob_9 ob_373 kk_10 kk_374 h0 n0 Z0 O0 I506 I511) (by decide) (by decide) (by decide) (by decide) (g := (mkF m 44 #[rv ob_8, rv ob_37, rv ob_37] [(.ref ob_373), (.ref ob_9)])) rfl (by rw [hml]; rfl) (argsL := [(.ref ob_9), (.ref ob_373)]) (rest := []) rfl (lenOf own_pd7 rfl) rfl (by show 2 * 0 + _ ≤ _; exact Nat.le_of_eq rfl) (hb hby dd8_44)
  refine oS s520 ?_
  obtain ⟨rfl, N521, K522⟩ := q519
  have N523 := Fr.app N0 N521
  have e524 := e518.trans K522
  show own_G p e below (T513.setTop (mkF m 47 #[rv ob_8, rv ob_37, rv ob_37] [(.int 1)])) _
  refine oS (fun _ => XS.ifNo X517.here hx rfl (hb hby dd8_47) rfl (XT.i0_eq_f (by decide))) ?_
  show own_G p e below (T513.setTop (mkF m 50 #[rv ob_8, rv ob_37, rv ob_37] [])) _
  refine oS (fun _ => XS.iconst X517.here hx rfl (hb hby dd8_50) ) ?_
  refine oS (fun _ => XS.goto X517.here hx rfl (pc0 := 51) (pc' := 55) rfl (hb hby dd8_51) (by decide) (by decide)) ?_
  show own_G p e below (T513.setTop (mkF m 55 #[rv ob_8, rv ob_37, rv ob_37] [(.int 1)])) _
  exact own_retN X517 hx (t := .boolean) Bd.notSynchronized Bd.returns (by simp) (hb hby dd8_55) (by decide) e524 (by decide) (by decide) (⟨rfl, N523, rfl⟩)
theorem own_pd8 : parseMethodDescriptor "(Ljava/lang/Object;)Z" = some ⟨[(.object "java/lang/Object")], (some .boolean)⟩ := by decide +kernel
theorem dd7_25 : decode prog_48_method_5_code 25 = .ok (.invokevirtual 40, 3) := by decide +kernel
theorem dd7_28 : decode prog_48_method_5_code 28 = .ok (.ifCond .eq 6, 3) := by decide +kernel
theorem dd7_31 : decode prog_48_method_5_code 31 = .ok (.aload 4, 2) := by decide +kernel
theorem dd7_33 : decode prog_48_method_5_code 33 = .ok (.areturn, 1) := by decide +kernel
def own_Q8 (Z : State) (ob_37 : Nat) (ob_5 : Nat) (kk_17 : ClassId) (ob_4 : Nat) (ob_6 : Nat) (ob_7 : Nat) (ob_8 : Nat) (in_2 : Int32) (ob_9 : Nat) (ob_373 : Nat) (kk_10 : ClassId) (kk_374 : ClassId) (h0 : Heap) (n0 : Nat) (v : Option Value) (h : Heap) (L : List Loc) : Prop := (v = some (.ref ob_4) ∧ Fr n0 L ∧ Keep h0 h [])
theorem own_pn9 : plainFor (⟨"com/example/vestibule/vestibule/datacite/DoiState", "ofKey", "(Ljava/lang/String;)Lcom/example/vestibule/vestibule/datacite/DoiState;"⟩ : MethodName) = true := by decide +kernel
set_option maxRecDepth 65536 in
set_option maxHeartbeats 40000000 in
theorem own_rm8 (l : Launch) (Z : State) (a0 : Array Value) (hw : ∀ d ∈ tables_1, d.before a0 Z = true) (ws : List Jvm.Cond) (ob_37 : Nat) (ob_5 : Nat) (kk_17 : ClassId) (ob_4 : Nat) (ob_6 : Nat) (ob_7 : Nat) (ob_8 : Nat) (in_2 : Int32) (ob_9 : Nat) (ob_373 : Nat) (kk_10 : ClassId) (kk_374 : ClassId) (h0 : Heap) (n0 : Nat) (Z0 : n0 ≤ h0.size) (O0 : Old Z n0 h0) (I387 : Sta Z Z.heap "com/example/vestibule/vestibule/datacite/DoiState" "$VALUES" "[Lcom/example/vestibule/vestibule/datacite/DoiState;" (.ref ob_5)) (I395 : Arv Z Z.heap ob_5 kk_17 (FieldType.object "com/example/vestibule/vestibule/datacite/DoiState") 3 [(.ref ob_4), (.ref ob_6), (.ref ob_7)] .null) (I399 : Exa Z Z.heap ob_5 "[Lcom/example/vestibule/vestibule/datacite/DoiState;") (I438 : Fld Z Z.heap ob_4 "com/example/vestibule/vestibule/datacite/DoiState" "key" "Ljava/lang/String;" (.ref ob_8)) (I446 : Exa Z Z.heap ob_8 "java/lang/String") (I451 : n0 ≤ ob_37) (I458 : Exa Z h0 ob_37 "java/lang/String") (I465 : Sta Z Z.heap "java/lang/String" "COMPACT_STRINGS" "Z" (.int in_2)) (I472 : ¬ (in_2 = 0)) (I475 : Fld Z Z.heap ob_8 "java/lang/String" "coder" "B" (.int 0)) (I482 : Fld Z h0 ob_37 "java/lang/String" "coder" "B" (.int 0)) (I490 : Fld Z Z.heap ob_8 "java/lang/String" "value" "[B" (.ref ob_9)) (I497 : Fld Z h0 ob_37 "java/lang/String" "value" "[B" (.ref ob_373)) (I505 : Arv Z Z.heap ob_9 kk_10 FieldType.byte 5 [(.int 100), (.int 114), (.int 97), (.int 102), (.int 116)] (.int 0)) (I509 : Arv Z h0 ob_373 kk_374 .byte 5 [(.int 100), (.int 114), (.int 97), (.int 102), (.int 116)] (.int 0)) :
    own_Met l Z h0 (⟨"com/example/vestibule/vestibule/datacite/DoiState", "ofKey", "(Ljava/lang/String;)Lcom/example/vestibule/vestibule/datacite/DoiState;"⟩ : MethodName) prog_48_method_5_code 5 (Option.some (FieldType.object "com/example/vestibule/vestibule/datacite/DoiState")) ws ({ frames := 2, cells := 1, slots := 3, locals := 28 } : Room) #[(.ref ob_37)] (own_Q8 Z ob_37 ob_5 kk_17 ob_4 ob_6 ob_7 ob_8 in_2 ob_9 ob_373 kk_10 kk_374 h0 n0) 1 3 := by
  refine MetFree.of_bodySF own_pn9 hisR ?_
  intro p e s m args below meth c s₁ Bd hml0 hP hK
  obtain ⟨rfl, hZ, hh⟩ := hP
  have hx := Bd.exec
  have hby := Bd.bytes
  have hml : c.maxLocals = 5 := hml0
  have hown : s.vm.findClass "com/example/vestibule/vestibule/datacite/DoiState" = some m.cls := findClass_of_methodNamed Bd.named
  have hnm := (name_of_methodNamed Bd.named Bd.method).1
  have X0 : Stand p l e ({ frames := 2, cells := 1, slots := 3, locals := 28 } : Room) s m #[(.ref ob_37)] below meth c s₁ [] 0 0 := Stand.of_body Bd
  have e0 : s₁.heap = h0 := by rw [← hh, Bd.state]; rfl
  have N0 := Fr.nil n0
  show own_G p e below (s₁.setTop (entryFrame m #[(.ref ob_37)] 5)) (own_P s (own_Q8 Z ob_37 ob_5 kk_17 ob_4 ob_6 ob_7 ob_8 in_2 ob_9 ob_373 kk_10 kk_374 h0 n0) 1 3)
  refine own_cast (own_ef7 m ob_37) ?_
  show own_G p e below (s₁.setTop (mkF m 0 #[rv ob_37, .unset, .unset, .unset, .unset] [])) _
  obtain ⟨T420, h421, v422, L423, X424, e425, q426, s427⟩ := own_callS X0 hx hZ hown e0 (y := (⟨"com/example/vestibule/vestibule/datacite/DoiState", "values", "()[Lcom/example/vestibule/vestibule/datacite/DoiState;"⟩ : MethodName)) (oW hw 41 rfl) (oW hw 42 rfl) (oW hw 2 rfl) (oW hw 43 rfl) (by decide) (W := 0) (own_rm9 l Z a0 hw [] ob_5 kk_17 ob_4 ob_6 ob_7 h0 n0 Z0 O0 I387 I395 I399) (by decide) (by decide) (by decide) (by decide) (g := (mkF m 0 #[rv ob_37, .unset, .unset, .unset, .unset] [])) rfl (by rw [hml]; rfl) (argsL := []) (rest := []) rfl (lenOf own_pd6 rfl) rfl (by show 2 * 0 + _ ≤ _; exact Nat.le_of_eq rfl) (hb hby dd7_0)
  refine oS s427 ?_
  obtain ⟨ob_428, rfl, N429, K430, F431, F432, F433, F434⟩ := q426
  have N435 := Fr.app N0 N429
  have z436 := K430.1
  show own_G p e below (T420.setTop (mkF m 3 #[rv ob_37, .unset, .unset, .unset, .unset] [(.ref ob_428)])) _
  refine oS (fun _ => XS.astoreN X424.here hx rfl (hb hby dd7_3) rfl rfl (l' := #[rv ob_37, rv ob_428, .unset, .unset, .unset]) rfl) ?_
  refine oS (fun _ => XS.aloadN X424.here hx rfl (hb hby dd7_4) rfl rfl) ?_
  refine oS (own_len X424 hx hZ e425 F432 rfl rfl (hb hby dd7_5)) ?_
  show own_G p e below (T420.setTop (mkF m 6 #[rv ob_37, rv ob_428, .unset, .unset, .unset] [(.int 3)])) _
  refine oS (fun _ => XS.istoreN X424.here hx rfl (hb hby dd7_6) rfl (l' := #[rv ob_37, rv ob_428, iv 3, .unset, .unset]) rfl) ?_
  refine oS (fun _ => XS.iconst X424.here hx rfl (hb hby dd7_7) ) ?_
  refine oS (fun _ => XS.istoreN X424.here hx rfl (hb hby dd7_8) rfl (l' := #[rv ob_37, rv ob_428, iv 3, iv 0, .unset]) rfl) ?_
  refine oS (fun _ => XS.iloadN X424.here hx rfl (hb hby dd7_9) rfl) ?_
  show own_G p e below (T420.setTop (mkF m 10 #[rv ob_37, rv ob_428, iv 3, iv 0, .unset] [(.int 0)])) _
  refine oS (fun _ => XS.iloadN X424.here hx rfl (hb hby dd7_10) rfl) ?_
  refine oS (fun _ => XS.icmpNo X424.here hx rfl (hb hby dd7_11) rfl (XT.ii_ge_f (by decide))) ?_
  show own_G p e below (T420.setTop (mkF m 14 #[rv ob_37, rv ob_428, iv 3, iv 0, .unset] [])) _
  refine oS (fun _ => XS.aloadN X424.here hx rfl (hb hby dd7_14) rfl rfl) ?_
  refine oS (fun _ => XS.iloadN X424.here hx rfl (hb hby dd7_15) rfl) ?_
  refine oS (own_aaload X424 hx hZ e425 F432 rfl (by decide) (v := (.ref ob_4)) rfl rfl rfl (hb hby dd7_16)) ?_
  show own_G p e below (T420.setTop (mkF m 17 #[rv ob_37, rv ob_428, iv 3, iv 0, .unset] [(.ref ob_4)])) _
  refine oS (fun _ => XS.astore X424.here hx rfl (hb hby dd7_17) rfl rfl (l' := #[rv ob_37, rv ob_428, iv 3, iv 0, rv ob_4]) rfl) ?_
  refine oS (fun _ => XS.aload X424.here hx rfl (hb hby dd7_19) rfl rfl) ?_
  have O440 : Old Z n0 h421 := O0.keep K430 all0
  have F439 : Fld Z h421 ob_4 "com/example/vestibule/vestibule/datacite/DoiState" "key" "Ljava/lang/String;" (.ref ob_8) := Fld.ext O440.2 I438
  obtain ⟨T441, X442, e443, s444⟩ := getF X424 hx hZ hown (host := "") (Or.inl (oW hw 58 rfl)) Via.refl e425 F439 (g := (mkF m 21 #[rv ob_37, rv ob_428, iv 3, iv 0, rv ob_4] [(.ref ob_4)])) rfl rfl (hb hby dd7_21)
  refine oS s444 ?_
  show own_G p e below (T441.setTop (mkF m 24 #[rv ob_37, rv ob_428, iv 3, iv 0, rv ob_4] [(.ref ob_8)])) _
  refine oS (fun _ => XS.aloadN X442.here hx rfl (hb hby dd7_24) rfl rfl) ?_
  have F459 : Exa Z h421 ob_37 "java/lang/String" := I458.keep K430
  have F483 : Fld Z h421 ob_37 "java/lang/String" "coder" "B" (.int 0) := I482.keep K430 nin0
  have F498 : Fld Z h421 ob_37 "java/lang/String" "value" "[B" (.ref ob_373) := I497.keep K430 nin0
  have F510 : Arv Z h421 ob_373 kk_374 .byte 5 [(.int 100), (.int 114), (.int 97), (.int 102), (.int 116)] (.int 0) := I509.keep K430 nin0
  have Z525 : n0 ≤ h421.size := by omega
  have F534 : Exa Z h421 ob_8 "java/lang/String" := Exa.ext O440.2 I446
  obtain ⟨T526, h527, v528, L529, X530, e531, q532, s533⟩ := own_callV X442 hx hZ hown e443 (y := (⟨"java/lang/String", "equals", "(Ljava/lang/Object;)Z"⟩ : MethodName)) (z := (⟨"java/lang/String", "equals", "(Ljava/lang/Object;)Z"⟩ : MethodName)) (C := "java/lang/String") (b := ob_8) (oW hw 60 rfl) (oW hw 61 rfl) (notFace_of_selects (args := #[]) (mvT hZ (oW hw 63 rfl))) (oW hw 63 rfl) (oW hw 62 rfl) (oW hw 6 rfl) (oW hw 64 rfl) (by decide) F534 (W := 0) (own_rm10 l Z a0 hw [] ob_8 ob_37 in_2 ob_9 ob_373 kk_10 kk_374 h421 n0 Z525 O440 I446 I451 F459 I465 I472 I475 F483 I490 F498 I505 F510) (by decide) (by decide) (by decide) (by decide) (g := (mkF m 25 #[rv ob_37, rv ob_428, iv 3, iv 0, rv ob_4] [(.ref ob_37), (.ref ob_8)])) rfl (by rw [hml]; rfl) (argsL := [(.ref ob_37)]) (rest := []) rfl (lenOf own_pd8 rfl) rfl (by show 2 * 0 + _ ≤ _; exact Nat.le_of_eq rfl) (hb hby dd7_25)
  refine oS s533 ?_
  obtain ⟨rfl, N535, K536⟩ := q532
  have N537 := Fr.app N435 N535
  have e538 := e531.trans K536
  show own_G p e below (T526.setTop (mkF m 28 #[rv ob_37, rv ob_428, iv 3, iv 0, rv ob_4] [(.int 1)])) _
  refine oS (fun _ => XS.ifNo X530.here hx rfl (hb hby dd7_28) rfl (XT.i0_eq_f (by decide))) ?_
  show own_G p e below (T526.setTop (mkF m 31 #[rv ob_37, rv ob_428, iv 3, iv 0, rv ob_4] [])) _
  refine oS (fun _ => XS.aload X530.here hx rfl (hb hby dd7_31) rfl rfl) ?_
  have K539 : Keep h0 h421 [] := ((Keep.refl h0 []).trans K430 all0)
  exact own_retA X530 hx Bd.notSynchronized Bd.returns rfl rfl (hb hby dd7_33) e538 (by decide) (by decide) (⟨rfl, N537, K539⟩)
theorem own_pd9 : parseMethodDescriptor "(Ljava/lang/String;)Lcom/example/vestibule/vestibule/datacite/DoiState;" = some ⟨[(.object "java/lang/String")], (some (.object "com/example/vestibule/vestibule/datacite/DoiState"))⟩ := by decide +kernel
theorem own_ef10 (m : MethodId) (x0 : Addr) : entryFrame m #[(.ref x0)] 1 = mkF m 0 #[.val (.ref x0)] [] := by first | (simp [entryFrame, mkF, argsToLocals, Value.category]; done) | rfl
theorem dd10_0 : decode prog_48_method_4_code 0 = .ok (.aload_n 0, 1) := by decide +kernel
theorem dd10_1 : decode prog_48_method_4_code 1 = .ok (.getfield 32, 3) := by decide +kernel
theorem dd10_4 : decode prog_48_method_4_code 4 = .ok (.areturn, 1) := by decide +kernel
def own_Q12 (Z : State) (ob_4 : Nat) (ob_8 : Nat) (h0 : Heap) (n0 : Nat) (v : Option Value) (h : Heap) (L : List Loc) : Prop := (v = some (.ref ob_8) ∧ Fr n0 L ∧ h = h0)
theorem own_pn10 : plainFor (⟨"com/example/vestibule/vestibule/datacite/DoiState", "key", "()Ljava/lang/String;"⟩ : MethodName) = true := by decide +kernel
set_option maxRecDepth 65536 in
set_option maxHeartbeats 40000000 in
theorem own_rm12 (l : Launch) (Z : State) (a0 : Array Value) (hw : ∀ d ∈ tables_1, d.before a0 Z = true) (ws : List Jvm.Cond) (ob_4 : Nat) (ob_8 : Nat) (h0 : Heap) (n0 : Nat) (Z0 : n0 ≤ h0.size) (O0 : Old Z n0 h0) (I554 : Fld Z Z.heap ob_4 "com/example/vestibule/vestibule/datacite/DoiState" "key" "Ljava/lang/String;" (.ref ob_8)) :
    own_Met l Z h0 (⟨"com/example/vestibule/vestibule/datacite/DoiState", "key", "()Ljava/lang/String;"⟩ : MethodName) prog_48_method_4_code 1 (Option.some (FieldType.object "java/lang/String")) ws ({ frames := 0, cells := 0, slots := 0, locals := 0 } : Room) #[(.ref ob_4)] (own_Q12 Z ob_4 ob_8 h0 n0) 0 0 := by
  refine MetFree.of_bodySF own_pn10 hisR ?_
  intro p e s m args below meth c s₁ Bd hml0 hP hK
  obtain ⟨rfl, hZ, hh⟩ := hP
  have hx := Bd.exec
  have hby := Bd.bytes
  have hml : c.maxLocals = 1 := hml0
  have hown : s.vm.findClass "com/example/vestibule/vestibule/datacite/DoiState" = some m.cls := findClass_of_methodNamed Bd.named
  have hnm := (name_of_methodNamed Bd.named Bd.method).1
  have X0 : Stand p l e ({ frames := 0, cells := 0, slots := 0, locals := 0 } : Room) s m #[(.ref ob_4)] below meth c s₁ [] 0 0 := Stand.of_body Bd
  have e0 : s₁.heap = h0 := by rw [← hh, Bd.state]; rfl
  have N0 := Fr.nil n0
  show own_G p e below (s₁.setTop (entryFrame m #[(.ref ob_4)] 1)) (own_P s (own_Q12 Z ob_4 ob_8 h0 n0) 0 0)
  refine own_cast (own_ef10 m ob_4) ?_
  show own_G p e below (s₁.setTop (mkF m 0 #[rv ob_4] [])) _
  refine oS (fun _ => XS.aloadN X0.here hx rfl (hb hby dd10_0) rfl rfl) ?_
  have F555 : Fld Z h0 ob_4 "com/example/vestibule/vestibule/datacite/DoiState" "key" "Ljava/lang/String;" (.ref ob_8) := Fld.ext O0.2 I554
  obtain ⟨T556, X557, e558, s559⟩ := getF X0 hx hZ hown (host := "") (Or.inl (oW hw 58 rfl)) Via.refl e0 F555 (g := (mkF m 1 #[rv ob_4] [(.ref ob_4)])) rfl rfl (hb hby dd10_1)
  refine oS s559 ?_
  show own_G p e below (T556.setTop (mkF m 4 #[rv ob_4] [(.ref ob_8)])) _
  exact own_retA X557 hx Bd.notSynchronized Bd.returns rfl rfl (hb hby dd10_4) e558 (by decide) (by decide) (⟨rfl, N0, rfl⟩)
theorem own_pd10 : parseMethodDescriptor "()Ljava/lang/String;" = some ⟨[], (some (.object "java/lang/String"))⟩ := by decide +kernel
def own_Q14 (Z : State) (ob_373 : Nat) (ob_9 : Nat) (kk_374 : ClassId) (kk_10 : ClassId) (h0 : Heap) (n0 : Nat) (v : Option Value) (h : Heap) (L : List Loc) : Prop := (v = some (.int 1) ∧ Fr n0 L ∧ h = h0)
set_option maxRecDepth 65536 in
set_option maxHeartbeats 40000000 in
theorem own_rm14 (l : Launch) (Z : State) (a0 : Array Value) (hw : ∀ d ∈ tables_1, d.before a0 Z = true) (ws : List Jvm.Cond) (ob_373 : Nat) (ob_9 : Nat) (kk_374 : ClassId) (kk_10 : ClassId) (h0 : Heap) (n0 : Nat) (Z0 : n0 ≤ h0.size) (O0 : Old Z n0 h0) (I625 : Arv Z h0 ob_373 kk_374 .byte 5 [(.int 100), (.int 114), (.int 97), (.int 102), (.int 116)] (.int 0)) (I627 : Arv Z Z.heap ob_9 kk_10 FieldType.byte 5 [(.int 100), (.int 114), (.int 97), (.int 102), (.int 116)] (.int 0)) :
    own_Met l Z h0 (⟨"java/lang/StringLatin1", "equals", "([B[B)Z"⟩ : MethodName) jdk_43_method_13_code 3 (Option.some FieldType.boolean) ws ({ frames := 0, cells := 0, slots := 0, locals := 0 } : Room) #[(.ref ob_373), (.ref ob_9)] (own_Q14 Z ob_373 ob_9 kk_374 kk_10 h0 n0) 0 0 := by
  refine MetFree.of_bodySF own_pn7 hisR ?_
  intro p e s m args below meth c s₁ Bd hml0 hP hK
  obtain ⟨rfl, hZ, hh⟩ := hP
  have hx := Bd.exec
  have hby := Bd.bytes
  have hml : c.maxLocals = 3 := hml0
  have hown : s.vm.findClass "java/lang/StringLatin1" = some m.cls := findClass_of_methodNamed Bd.named
  have hnm := (name_of_methodNamed Bd.named Bd.method).1
  have X0 : Stand p l e ({ frames := 0, cells := 0, slots := 0, locals := 0 } : Room) s m #[(.ref ob_373), (.ref ob_9)] below meth c s₁ [] 0 0 := Stand.of_body Bd
  have e0 : s₁.heap = h0 := by rw [← hh, Bd.state]; rfl
  have N0 := Fr.nil n0
  show own_G p e below (s₁.setTop (entryFrame m #[(.ref ob_373), (.ref ob_9)] 3)) (own_P s (own_Q14 Z ob_373 ob_9 kk_374 kk_10 h0 n0) 0 0)
  refine own_cast (own_ef9 m ob_373 ob_9) ?_
  show own_G p e below (s₁.setTop (mkF m 0 #[rv ob_373, rv ob_9, .unset] [])) _
  refine oS (fun _ => XS.aloadN X0.here hx rfl (hb hby dd9_0) rfl rfl) ?_
  refine oS (own_len X0 hx hZ e0 I625 rfl rfl (hb hby dd9_1)) ?_
  show own_G p e below (s₁.setTop (mkF m 2 #[rv ob_373, rv ob_9, .unset] [(.int 5)])) _
  refine oS (fun _ => XS.aloadN X0.here hx rfl (hb hby dd9_2) rfl rfl) ?_
  have F628 : Arv Z h0 ob_9 kk_10 FieldType.byte 5 [(.int 100), (.int 114), (.int 97), (.int 102), (.int 116)] (.int 0) := I627.ext O0.2
  refine oS (own_len X0 hx hZ e0 F628 rfl rfl (hb hby dd9_3)) ?_
  show own_G p e below (s₁.setTop (mkF m 4 #[rv ob_373, rv ob_9, .unset] [(.int 5), (.int 5)])) _
  refine oS (fun _ => XS.icmpNo X0.here hx rfl (hb hby dd9_4) rfl (XT.ii_ne_f (by decide))) ?_
  show own_G p e below (s₁.setTop (mkF m 7 #[rv ob_373, rv ob_9, .unset] [])) _
  refine oS (fun _ => XS.iconst X0.here hx rfl (hb hby dd9_7) ) ?_
  refine oS (fun _ => XS.istoreN X0.here hx rfl (hb hby dd9_8) rfl (l' := #[rv ob_373, rv ob_9, iv 0]) rfl) ?_
  refine oS (fun _ => XS.iloadN X0.here hx rfl (hb hby dd9_9) rfl) ?_
  refine oS (fun _ => XS.aloadN X0.here hx rfl (hb hby dd9_10) rfl rfl) ?_
  show own_G p e below (s₁.setTop (mkF m 11 #[rv ob_373, rv ob_9, iv 0] [(.ref ob_373), (.int 0)])) _
  refine oS (own_len X0 hx hZ e0 I625 rfl rfl (hb hby dd9_11)) ?_
  show own_G p e below (s₁.setTop (mkF m 12 #[rv ob_373, rv ob_9, iv 0] [(.int 5), (.int 0)])) _
  refine oS (fun _ => XS.icmpNo X0.here hx rfl (hb hby dd9_12) rfl (XT.ii_ge_f (by decide))) ?_
  show own_G p e below (s₁.setTop (mkF m 15 #[rv ob_373, rv ob_9, iv 0] [])) _
  refine oS (fun _ => XS.aloadN X0.here hx rfl (hb hby dd9_15) rfl rfl) ?_
  refine oS (fun _ => XS.iloadN X0.here hx rfl (hb hby dd9_16) rfl) ?_
  refine oS (own_baload X0 hx hZ e0 I625 (by decide) (v := (.int 100)) rfl rfl rfl (hb hby dd9_17)) ?_
  show own_G p e below (s₁.setTop (mkF m 18 #[rv ob_373, rv ob_9, iv 0] [(.int 100)])) _
  refine oS (fun _ => XS.aloadN X0.here hx rfl (hb hby dd9_18) rfl rfl) ?_
  refine oS (fun _ => XS.iloadN X0.here hx rfl (hb hby dd9_19) rfl) ?_
  refine oS (own_baload X0 hx hZ e0 F628 (by decide) (v := (.int 100)) rfl rfl rfl (hb hby dd9_20)) ?_
  show own_G p e below (s₁.setTop (mkF m 21 #[rv ob_373, rv ob_9, iv 0] [(.int 100), (.int 100)])) _
  refine oS (fun _ => XS.icmpYes X0.here hx rfl (pc0 := 21) (pc' := 26) rfl (hb hby dd9_21) rfl (XT.ii_eq_t (by decide)) (by decide) (by decide)) ?_
  show own_G p e below (s₁.setTop (mkF m 26 #[rv ob_373, rv ob_9, iv 0] [])) _
  refine oS (fun _ => XS.iinc X0.here hx rfl (hb hby dd9_26) rfl (l' := #[rv ob_373, rv ob_9, iv 1]) rfl) ?_
  show own_G p e below (s₁.setTop (mkF m 29 #[rv ob_373, rv ob_9, iv 1] [])) _
  refine oS (fun _ => XS.goto X0.here hx rfl (pc0 := 29) (pc' := 9) rfl (hb hby dd9_29) (by decide) (by decide)) ?_
  show own_G p e below (s₁.setTop (mkF m 9 #[rv ob_373, rv ob_9, iv 1] [])) _
  refine oS (fun _ => XS.iloadN X0.here hx rfl (hb hby dd9_9) rfl) ?_
  refine oS (fun _ => XS.aloadN X0.here hx rfl (hb hby dd9_10) rfl rfl) ?_
  refine oS (own_len X0 hx hZ e0 I625 rfl rfl (hb hby dd9_11)) ?_
  show own_G p e below (s₁.setTop (mkF m 12 #[rv ob_373, rv ob_9, iv 1] [(.int 5), (.int 1)])) _
  refine oS (fun _ => XS.icmpNo X0.here hx rfl (hb hby dd9_12) rfl (XT.ii_ge_f (by decide))) ?_
  show own_G p e below (s₁.setTop (mkF m 15 #[rv ob_373, rv ob_9, iv 1] [])) _
  refine oS (fun _ => XS.aloadN X0.here hx rfl (hb hby dd9_15) rfl rfl) ?_
  refine oS (fun _ => XS.iloadN X0.here hx rfl (hb hby dd9_16) rfl) ?_
  refine oS (own_baload X0 hx hZ e0 I625 (by decide) (v := (.int 114)) rfl rfl rfl (hb hby dd9_17)) ?_
  show own_G p e below (s₁.setTop (mkF m 18 #[rv ob_373, rv ob_9, iv 1] [(.int 114)])) _
  refine oS (fun _ => XS.aloadN X0.here hx rfl (hb hby dd9_18) rfl rfl) ?_
  refine oS (fun _ => XS.iloadN X0.here hx rfl (hb hby dd9_19) rfl) ?_
  refine oS (own_baload X0 hx hZ e0 F628 (by decide) (v := (.int 114)) rfl rfl rfl (hb hby dd9_20)) ?_
  show own_G p e below (s₁.setTop (mkF m 21 #[rv ob_373, rv ob_9, iv 1] [(.int 114), (.int 114)])) _
  refine oS (fun _ => XS.icmpYes X0.here hx rfl (pc0 := 21) (pc' := 26) rfl (hb hby dd9_21) rfl (XT.ii_eq_t (by decide)) (by decide) (by decide)) ?_
  show own_G p e below (s₁.setTop (mkF m 26 #[rv ob_373, rv ob_9, iv 1] [])) _
  refine oS (fun _ => XS.iinc X0.here hx rfl (hb hby dd9_26) rfl (l' := #[rv ob_373, rv ob_9, iv 2]) rfl) ?_
  show own_G p e below (s₁.setTop (mkF m 29 #[rv ob_373, rv ob_9, iv 2] [])) _
  refine oS (fun _ => XS.goto X0.here hx rfl (pc0 := 29) (pc' := 9) rfl (hb hby dd9_29) (by decide) (by decide)) ?_
  show own_G p e below (s₁.setTop (mkF m 9 #[rv ob_373, rv ob_9, iv 2] [])) _
  refine oS (fun _ => XS.iloadN X0.here hx rfl (hb hby dd9_9) rfl) ?_
  refine oS (fun _ => XS.aloadN X0.here hx rfl (hb hby dd9_10) rfl rfl) ?_
  refine oS (own_len X0 hx hZ e0 I625 rfl rfl (hb hby dd9_11)) ?_
  show own_G p e below (s₁.setTop (mkF m 12 #[rv ob_373, rv ob_9, iv 2] [(.int 5), (.int 2)])) _
  refine oS (fun _ => XS.icmpNo X0.here hx rfl (hb hby dd9_12) rfl (XT.ii_ge_f (by decide))) ?_
  show own_G p e below (s₁.setTop (mkF m 15 #[rv ob_373, rv ob_9, iv 2] [])) _
  refine oS (fun _ => XS.aloadN X0.here hx rfl (hb hby dd9_15) rfl rfl) ?_
  refine oS (fun _ => XS.iloadN X0.here hx rfl (hb hby dd9_16) rfl) ?_
  refine oS (own_baload X0 hx hZ e0 I625 (by decide) (v := (.int 97)) rfl rfl rfl (hb hby dd9_17)) ?_
  show own_G p e below (s₁.setTop (mkF m 18 #[rv ob_373, rv ob_9, iv 2] [(.int 97)])) _
  refine oS (fun _ => XS.aloadN X0.here hx rfl (hb hby dd9_18) rfl rfl) ?_
  refine oS (fun _ => XS.iloadN X0.here hx rfl (hb hby dd9_19) rfl) ?_
  refine oS (own_baload X0 hx hZ e0 F628 (by decide) (v := (.int 97)) rfl rfl rfl (hb hby dd9_20)) ?_
  show own_G p e below (s₁.setTop (mkF m 21 #[rv ob_373, rv ob_9, iv 2] [(.int 97), (.int 97)])) _
  refine oS (fun _ => XS.icmpYes X0.here hx rfl (pc0 := 21) (pc' := 26) rfl (hb hby dd9_21) rfl (XT.ii_eq_t (by decide)) (by decide) (by decide)) ?_
  show own_G p e below (s₁.setTop (mkF m 26 #[rv ob_373, rv ob_9, iv 2] [])) _
  refine oS (fun _ => XS.iinc X0.here hx rfl (hb hby dd9_26) rfl (l' := #[rv ob_373, rv ob_9, iv 3]) rfl) ?_
  show own_G p e below (s₁.setTop (mkF m 29 #[rv ob_373, rv ob_9, iv 3] [])) _
  refine oS (fun _ => XS.goto X0.here hx rfl (pc0 := 29) (pc' := 9) rfl (hb hby dd9_29) (by decide) (by decide)) ?_
  show own_G p e below (s₁.setTop (mkF m 9 #[rv ob_373, rv ob_9, iv 3] [])) _
  refine oS (fun _ => XS.iloadN X0.here hx rfl (hb hby dd9_9) rfl) ?_
  refine oS (fun _ => XS.aloadN X0.here hx rfl (hb hby dd9_10) rfl rfl) ?_
  refine oS (own_len X0 hx hZ e0 I625 rfl rfl (hb hby dd9_11)) ?_
  show own_G p e below (s₁.setTop (mkF m 12 #[rv ob_373, rv ob_9, iv 3] [(.int 5), (.int 3)])) _
  refine oS (fun _ => XS.icmpNo X0.here hx rfl (hb hby dd9_12) rfl (XT.ii_ge_f (by decide))) ?_
  show own_G p e below (s₁.setTop (mkF m 15 #[rv ob_373, rv ob_9, iv 3] [])) _
  refine oS (fun _ => XS.aloadN X0.here hx rfl (hb hby dd9_15) rfl rfl) ?_
  refine oS (fun _ => XS.iloadN X0.here hx rfl (hb hby dd9_16) rfl) ?_
  refine oS (own_baload X0 hx hZ e0 I625 (by decide) (v := (.int 102)) rfl rfl rfl (hb hby dd9_17)) ?_
  show own_G p e below (s₁.setTop (mkF m 18 #[rv ob_373, rv ob_9, iv 3] [(.int 102)])) _
  refine oS (fun _ => XS.aloadN X0.here hx rfl (hb hby dd9_18) rfl rfl) ?_
  refine oS (fun _ => XS.iloadN X0.here hx rfl (hb hby dd9_19) rfl) ?_
  refine oS (own_baload X0 hx hZ e0 F628 (by decide) (v := (.int 102)) rfl rfl rfl (hb hby dd9_20)) ?_
  show own_G p e below (s₁.setTop (mkF m 21 #[rv ob_373, rv ob_9, iv 3] [(.int 102), (.int 102)])) _
  refine oS (fun _ => XS.icmpYes X0.here hx rfl (pc0 := 21) (pc' := 26) rfl (hb hby dd9_21) rfl (XT.ii_eq_t (by decide)) (by decide) (by decide)) ?_
  show own_G p e below (s₁.setTop (mkF m 26 #[rv ob_373, rv ob_9, iv 3] [])) _
  refine oS (fun _ => XS.iinc X0.here hx rfl (hb hby dd9_26) rfl (l' := #[rv ob_373, rv ob_9, iv 4]) rfl) ?_
  show own_G p e below (s₁.setTop (mkF m 29 #[rv ob_373, rv ob_9, iv 4] [])) _
  refine oS (fun _ => XS.goto X0.here hx rfl (pc0 := 29) (pc' := 9) rfl (hb hby dd9_29) (by decide) (by decide)) ?_
  show own_G p e below (s₁.setTop (mkF m 9 #[rv ob_373, rv ob_9, iv 4] [])) _
  refine oS (fun _ => XS.iloadN X0.here hx rfl (hb hby dd9_9) rfl) ?_
  refine oS (fun _ => XS.aloadN X0.here hx rfl (hb hby dd9_10) rfl rfl) ?_
  refine oS (own_len X0 hx hZ e0 I625 rfl rfl (hb hby dd9_11)) ?_
  show own_G p e below (s₁.setTop (mkF m 12 #[rv ob_373, rv ob_9, iv 4] [(.int 5), (.int 4)])) _
  refine oS (fun _ => XS.icmpNo X0.here hx rfl (hb hby dd9_12) rfl (XT.ii_ge_f (by decide))) ?_
  show own_G p e below (s₁.setTop (mkF m 15 #[rv ob_373, rv ob_9, iv 4] [])) _
  refine oS (fun _ => XS.aloadN X0.here hx rfl (hb hby dd9_15) rfl rfl) ?_
  refine oS (fun _ => XS.iloadN X0.here hx rfl (hb hby dd9_16) rfl) ?_
  refine oS (own_baload X0 hx hZ e0 I625 (by decide) (v := (.int 116)) rfl rfl rfl (hb hby dd9_17)) ?_
  show own_G p e below (s₁.setTop (mkF m 18 #[rv ob_373, rv ob_9, iv 4] [(.int 116)])) _
  refine oS (fun _ => XS.aloadN X0.here hx rfl (hb hby dd9_18) rfl rfl) ?_
  refine oS (fun _ => XS.iloadN X0.here hx rfl (hb hby dd9_19) rfl) ?_
  refine oS (own_baload X0 hx hZ e0 F628 (by decide) (v := (.int 116)) rfl rfl rfl (hb hby dd9_20)) ?_
  show own_G p e below (s₁.setTop (mkF m 21 #[rv ob_373, rv ob_9, iv 4] [(.int 116), (.int 116)])) _
  refine oS (fun _ => XS.icmpYes X0.here hx rfl (pc0 := 21) (pc' := 26) rfl (hb hby dd9_21) rfl (XT.ii_eq_t (by decide)) (by decide) (by decide)) ?_
  show own_G p e below (s₁.setTop (mkF m 26 #[rv ob_373, rv ob_9, iv 4] [])) _
  refine oS (fun _ => XS.iinc X0.here hx rfl (hb hby dd9_26) rfl (l' := #[rv ob_373, rv ob_9, iv 5]) rfl) ?_
  show own_G p e below (s₁.setTop (mkF m 29 #[rv ob_373, rv ob_9, iv 5] [])) _
  refine oS (fun _ => XS.goto X0.here hx rfl (pc0 := 29) (pc' := 9) rfl (hb hby dd9_29) (by decide) (by decide)) ?_
  show own_G p e below (s₁.setTop (mkF m 9 #[rv ob_373, rv ob_9, iv 5] [])) _
  refine oS (fun _ => XS.iloadN X0.here hx rfl (hb hby dd9_9) rfl) ?_
  refine oS (fun _ => XS.aloadN X0.here hx rfl (hb hby dd9_10) rfl rfl) ?_
  refine oS (own_len X0 hx hZ e0 I625 rfl rfl (hb hby dd9_11)) ?_
  show own_G p e below (s₁.setTop (mkF m 12 #[rv ob_373, rv ob_9, iv 5] [(.int 5), (.int 5)])) _
  refine oS (fun _ => XS.icmpYes X0.here hx rfl (pc0 := 12) (pc' := 32) rfl (hb hby dd9_12) rfl (XT.ii_ge_t (by decide)) (by decide) (by decide)) ?_
  show own_G p e below (s₁.setTop (mkF m 32 #[rv ob_373, rv ob_9, iv 5] [])) _
  refine oS (fun _ => XS.iconst X0.here hx rfl (hb hby dd9_32) ) ?_
  exact own_retN X0 hx (t := .boolean) Bd.notSynchronized Bd.returns (by simp) (hb hby dd9_33) (by decide) e0 (by decide) (by decide) (⟨rfl, N0, rfl⟩)
def own_Q13 (Z : State) (ob_37 : Nat) (ob_8 : Nat) (in_2 : Int32) (ob_373 : Nat) (ob_9 : Nat) (kk_374 : ClassId) (kk_10 : ClassId) (h0 : Heap) (n0 : Nat) (v : Option Value) (h : Heap) (L : List Loc) : Prop := (v = some (.int 1) ∧ Fr n0 L ∧ h = h0)
set_option maxRecDepth 65536 in
set_option maxHeartbeats 40000000 in
theorem own_rm13 (l : Launch) (Z : State) (a0 : Array Value) (hw : ∀ d ∈ tables_1, d.before a0 Z = true) (ws : List Jvm.Cond) (ob_37 : Nat) (ob_8 : Nat) (in_2 : Int32) (ob_373 : Nat) (ob_9 : Nat) (kk_374 : ClassId) (kk_10 : ClassId) (h0 : Heap) (n0 : Nat) (Z0 : n0 ≤ h0.size) (O0 : Old Z n0 h0) (I578 : n0 ≤ ob_37) (I579 : Exa Z Z.heap ob_8 "java/lang/String") (I592 : Sta Z Z.heap "java/lang/String" "COMPACT_STRINGS" "Z" (.int in_2)) (I598 : ¬ (in_2 = 0)) (I600 : Fld Z h0 ob_37 "java/lang/String" "coder" "B" (.int 0)) (I605 : Fld Z Z.heap ob_8 "java/lang/String" "coder" "B" (.int 0)) (I612 : Fld Z h0 ob_37 "java/lang/String" "value" "[B" (.ref ob_373)) (I617 : Fld Z Z.heap ob_8 "java/lang/String" "value" "[B" (.ref ob_9)) (I624 : Arv Z h0 ob_373 kk_374 .byte 5 [(.int 100), (.int 114), (.int 97), (.int 102), (.int 116)] (.int 0)) (I626 : Arv Z Z.heap ob_9 kk_10 FieldType.byte 5 [(.int 100), (.int 114), (.int 97), (.int 102), (.int 116)] (.int 0)) :
    own_Met l Z h0 (⟨"java/lang/String", "equals", "(Ljava/lang/Object;)Z"⟩ : MethodName) jdk_42_method_66_code 3 (Option.some FieldType.boolean) ws ({ frames := 1, cells := 0, slots := 0, locals := 14 } : Room) #[(.ref ob_37), (.ref ob_8)] (own_Q13 Z ob_37 ob_8 in_2 ob_373 ob_9 kk_374 kk_10 h0 n0) 0 0 := by
  refine MetFree.of_bodySF own_pn8 hisR ?_
  intro p e s m args below meth c s₁ Bd hml0 hP hK
  obtain ⟨rfl, hZ, hh⟩ := hP
  have hx := Bd.exec
  have hby := Bd.bytes
  have hml : c.maxLocals = 3 := hml0
  have hown : s.vm.findClass "java/lang/String" = some m.cls := findClass_of_methodNamed Bd.named
  have hnm := (name_of_methodNamed Bd.named Bd.method).1
  have X0 : Stand p l e ({ frames := 1, cells := 0, slots := 0, locals := 14 } : Room) s m #[(.ref ob_37), (.ref ob_8)] below meth c s₁ [] 0 0 := Stand.of_body Bd
  have e0 : s₁.heap = h0 := by rw [← hh, Bd.state]; rfl
  have N0 := Fr.nil n0
  show own_G p e below (s₁.setTop (entryFrame m #[(.ref ob_37), (.ref ob_8)] 3)) (own_P s (own_Q13 Z ob_37 ob_8 in_2 ob_373 ob_9 kk_374 kk_10 h0 n0) 0 0)
  refine own_cast (own_ef9 m ob_37 ob_8) ?_
  show own_G p e below (s₁.setTop (mkF m 0 #[rv ob_37, rv ob_8, .unset] [])) _
  refine oS (fun _ => XS.aloadN X0.here hx rfl (hb hby dd8_0) rfl rfl) ?_
  refine oS (fun _ => XS.aloadN X0.here hx rfl (hb hby dd8_1) rfl rfl) ?_
  have y577 := I578
  have y580 : @LT.lt Nat instLTNat ob_8 Z.heap.size := I579.lt
  have y581 : Z.heap.size = n0 := O0.1
  have N582 : @Ne Nat ob_37 ob_8 := by omega
  refine oS (fun _ => XT.acmpYes X0.here hx rfl (pc0 := 2) (pc' := 7) rfl (hb hby dd8_2) rfl rfl rfl (XT.aa_ne_t (own_rne N582)) (by decide) (by decide)) ?_
  show own_G p e below (s₁.setTop (mkF m 7 #[rv ob_37, rv ob_8, .unset] [])) _
  refine oS (fun _ => XS.aloadN X0.here hx rfl (hb hby dd8_7) rfl rfl) ?_
  have F587 : Exa Z h0 ob_8 "java/lang/String" := Exa.ext O0.2 I579
  obtain ⟨T583, X584, e585, s586⟩ := instY X0 hx hZ hown (oW hw 65 rfl) e0 (Ins.self F587) (g := (mkF m 8 #[rv ob_37, rv ob_8, .unset] [(.ref ob_8)])) rfl rfl (hb hby dd8_8)
  refine oS s586 ?_
  show own_G p e below (T583.setTop (mkF m 11 #[rv ob_37, rv ob_8, .unset] [(.int 1)])) _
  refine oS (fun _ => XS.ifNo X584.here hx rfl (hb hby dd8_11) rfl (XT.i0_eq_f (by decide))) ?_
  show own_G p e below (T583.setTop (mkF m 14 #[rv ob_37, rv ob_8, .unset] [])) _
  refine oS (fun _ => XS.aloadN X584.here hx rfl (hb hby dd8_14) rfl rfl) ?_
  obtain ⟨T588, X589, e590, s591⟩ := castY X584 hx hZ hown (oW hw 65 rfl) e585 (Ins.self F587) (g := (mkF m 15 #[rv ob_37, rv ob_8, .unset] [(.ref ob_8)])) rfl rfl (hb hby dd8_15)
  refine oS s591 ?_
  show own_G p e below (T588.setTop (mkF m 18 #[rv ob_37, rv ob_8, .unset] [(.ref ob_8)])) _
  refine oS (fun _ => XS.astoreN X589.here hx rfl (hb hby dd8_18) rfl rfl (l' := #[rv ob_37, rv ob_8, rv ob_8]) rfl) ?_
  have F593 : Sta Z h0 "java/lang/String" "COMPACT_STRINGS" "Z" (.int in_2) := Sta.ext O0.2 I592
  obtain ⟨T594, X595, e596, s597⟩ := getS X589 hx hZ hown (host := "") (oW hw 22 rfl) Via.refl e590 F593 (g := (mkF m 19 #[rv ob_37, rv ob_8, rv ob_8] [])) rfl (hb hby dd8_19)
  refine oS s597 ?_
  show own_G p e below (T594.setTop (mkF m 22 #[rv ob_37, rv ob_8, rv ob_8] [(.int in_2)])) _
  refine oS (fun _ => XS.ifNo X595.here hx rfl (hb hby dd8_22) rfl (XT.i0_eq_f I598)) ?_
  show own_G p e below (T594.setTop (mkF m 25 #[rv ob_37, rv ob_8, rv ob_8] [])) _
  refine oS (fun _ => XS.aloadN X595.here hx rfl (hb hby dd8_25) rfl rfl) ?_
  obtain ⟨T601, X602, e603, s604⟩ := getF X595 hx hZ hown (host := "") (Or.inl (oW hw 34 rfl)) Via.refl e596 I600 (g := (mkF m 26 #[rv ob_37, rv ob_8, rv ob_8] [(.ref ob_37)])) rfl rfl (hb hby dd8_26)
  refine oS s604 ?_
  show own_G p e below (T601.setTop (mkF m 29 #[rv ob_37, rv ob_8, rv ob_8] [(.int 0)])) _
  refine oS (fun _ => XS.aloadN X602.here hx rfl (hb hby dd8_29) rfl rfl) ?_
  have F606 : Fld Z h0 ob_8 "java/lang/String" "coder" "B" (.int 0) := Fld.ext O0.2 I605
  obtain ⟨T607, X608, e609, s610⟩ := getF X602 hx hZ hown (host := "") (Or.inl (oW hw 34 rfl)) Via.refl e603 F606 (g := (mkF m 30 #[rv ob_37, rv ob_8, rv ob_8] [(.ref ob_8), (.int 0)])) rfl rfl (hb hby dd8_30)
  refine oS s610 ?_
  show own_G p e below (T607.setTop (mkF m 33 #[rv ob_37, rv ob_8, rv ob_8] [(.int 0), (.int 0)])) _
  refine oS (fun _ => XS.icmpNo X608.here hx rfl (hb hby dd8_33) rfl (XT.ii_ne_f (by decide))) ?_
  show own_G p e below (T607.setTop (mkF m 36 #[rv ob_37, rv ob_8, rv ob_8] [])) _
  refine oS (fun _ => XS.aloadN X608.here hx rfl (hb hby dd8_36) rfl rfl) ?_
  obtain ⟨T613, X614, e615, s616⟩ := getF X608 hx hZ hown (host := "") (Or.inl (oW hw 36 rfl)) Via.refl e609 I612 (g := (mkF m 37 #[rv ob_37, rv ob_8, rv ob_8] [(.ref ob_37)])) rfl rfl (hb hby dd8_37)
  refine oS s616 ?_
  show own_G p e below (T613.setTop (mkF m 40 #[rv ob_37, rv ob_8, rv ob_8] [(.ref ob_373)])) _
  refine oS (fun _ => XS.aloadN X614.here hx rfl (hb hby dd8_40) rfl rfl) ?_
  have F618 : Fld Z h0 ob_8 "java/lang/String" "value" "[B" (.ref ob_9) := Fld.ext O0.2 I617
  obtain ⟨T619, X620, e621, s622⟩ := getF X614 hx hZ hown (host := "") (Or.inl (oW hw 36 rfl)) Via.refl e615 F618 (g := (mkF m 41 #[rv ob_37, rv ob_8, rv ob_8] [(.ref ob_8), (.ref ob_373)])) rfl rfl (hb hby dd8_41)
  refine oS s622 ?_
  show own_G p e below (T619.setTop (mkF m 44 #[rv ob_37, rv ob_8, rv ob_8] [(.ref ob_9), (.ref ob_373)])) _
  obtain ⟨T629, h630, v631, L632, X633, e634, q635, s636⟩ := own_callS X620 hx hZ hown e621 (y := (⟨"java/lang/StringLatin1", "equals", "([B[B)Z"⟩ : MethodName)) (oW hw 66 rfl) (oW hw 67 rfl) (oW hw 68 rfl) (oW hw 69 rfl) (by decide) (W := 0) (own_rm14 l Z a0 hw [] ob_373 ob_9 kk_374 kk_10 h0 n0 Z0 O0 I624 I626) (by decide) (by decide) (by decide) (by decide) (g := (mkF m 44 #[rv ob_37, rv ob_8, rv ob_8] [(.ref ob_9), (.ref ob_373)])) rfl (by rw [hml]; rfl) (argsL := [(.ref ob_373), (.ref ob_9)]) (rest := []) rfl (lenOf own_pd7 rfl) rfl (by show 2 * 0 + _ ≤ _; exact Nat.le_of_eq rfl) (hb hby dd8_44)
  refine oS s636 ?_
  obtain ⟨rfl, N637, K638⟩ := q635
  have N639 := Fr.app N0 N637
  have e640 := e634.trans K638
  show own_G p e below (T629.setTop (mkF m 47 #[rv ob_37, rv ob_8, rv ob_8] [(.int 1)])) _
  refine oS (fun _ => XS.ifNo X633.here hx rfl (hb hby dd8_47) rfl (XT.i0_eq_f (by decide))) ?_
  show own_G p e below (T629.setTop (mkF m 50 #[rv ob_37, rv ob_8, rv ob_8] [])) _
  refine oS (fun _ => XS.iconst X633.here hx rfl (hb hby dd8_50) ) ?_
  refine oS (fun _ => XS.goto X633.here hx rfl (pc0 := 51) (pc' := 55) rfl (hb hby dd8_51) (by decide) (by decide)) ?_
  show own_G p e below (T629.setTop (mkF m 55 #[rv ob_37, rv ob_8, rv ob_8] [(.int 1)])) _
  exact own_retN X633 hx (t := .boolean) Bd.notSynchronized Bd.returns (by simp) (hb hby dd8_55) (by decide) e640 (by decide) (by decide) (⟨rfl, N639, rfl⟩)
theorem dd0_33 : decode method_2_code 33 = .ok (.iload_n 0, 1) := by decide +kernel
theorem dd0_34 : decode method_2_code 34 = .ok (.iconst 1, 1) := by decide +kernel
theorem dd0_35 : decode method_2_code 35 = .ok (.if_icmp .ne 62, 3) := by decide +kernel
theorem dd0_38 : decode method_2_code 38 = .ok (.bipush 10, 2) := by decide +kernel
theorem dd0_40 : decode method_2_code 40 = .ok (.newarray .char, 2) := by decide +kernel
theorem dd0_42 : decode method_2_code 42 = .ok (.dup, 1) := by decide +kernel
theorem dd0_43 : decode method_2_code 43 = .ok (.iconst 0, 1) := by decide +kernel
theorem dd0_44 : decode method_2_code 44 = .ok (.bipush 114, 2) := by decide +kernel
theorem dd0_46 : decode method_2_code 46 = .ok (.castore, 1) := by decide +kernel
theorem dd0_47 : decode method_2_code 47 = .ok (.dup, 1) := by decide +kernel
theorem dd0_48 : decode method_2_code 48 = .ok (.iconst 1, 1) := by decide +kernel
theorem dd0_49 : decode method_2_code 49 = .ok (.bipush 101, 2) := by decide +kernel
theorem dd0_51 : decode method_2_code 51 = .ok (.castore, 1) := by decide +kernel
theorem dd0_52 : decode method_2_code 52 = .ok (.dup, 1) := by decide +kernel
theorem dd0_53 : decode method_2_code 53 = .ok (.iconst 2, 1) := by decide +kernel
theorem dd0_54 : decode method_2_code 54 = .ok (.bipush 103, 2) := by decide +kernel
theorem dd0_56 : decode method_2_code 56 = .ok (.castore, 1) := by decide +kernel
theorem dd0_57 : decode method_2_code 57 = .ok (.dup, 1) := by decide +kernel
theorem dd0_58 : decode method_2_code 58 = .ok (.iconst 3, 1) := by decide +kernel
theorem dd0_59 : decode method_2_code 59 = .ok (.bipush 105, 2) := by decide +kernel
theorem dd0_61 : decode method_2_code 61 = .ok (.castore, 1) := by decide +kernel
theorem dd0_62 : decode method_2_code 62 = .ok (.dup, 1) := by decide +kernel
theorem dd0_63 : decode method_2_code 63 = .ok (.iconst 4, 1) := by decide +kernel
theorem dd0_64 : decode method_2_code 64 = .ok (.bipush 115, 2) := by decide +kernel
theorem dd0_66 : decode method_2_code 66 = .ok (.castore, 1) := by decide +kernel
theorem dd0_67 : decode method_2_code 67 = .ok (.dup, 1) := by decide +kernel
theorem dd0_68 : decode method_2_code 68 = .ok (.iconst 5, 1) := by decide +kernel
theorem dd0_69 : decode method_2_code 69 = .ok (.bipush 116, 2) := by decide +kernel
theorem dd0_71 : decode method_2_code 71 = .ok (.castore, 1) := by decide +kernel
theorem dd0_72 : decode method_2_code 72 = .ok (.dup, 1) := by decide +kernel
theorem dd0_73 : decode method_2_code 73 = .ok (.bipush 6, 2) := by decide +kernel
theorem dd0_75 : decode method_2_code 75 = .ok (.bipush 101, 2) := by decide +kernel
theorem dd0_77 : decode method_2_code 77 = .ok (.castore, 1) := by decide +kernel
theorem dd0_78 : decode method_2_code 78 = .ok (.dup, 1) := by decide +kernel
theorem dd0_79 : decode method_2_code 79 = .ok (.bipush 7, 2) := by decide +kernel
theorem dd0_81 : decode method_2_code 81 = .ok (.bipush 114, 2) := by decide +kernel
theorem dd0_83 : decode method_2_code 83 = .ok (.castore, 1) := by decide +kernel
theorem dd0_84 : decode method_2_code 84 = .ok (.dup, 1) := by decide +kernel
theorem dd0_85 : decode method_2_code 85 = .ok (.bipush 8, 2) := by decide +kernel
theorem dd0_87 : decode method_2_code 87 = .ok (.bipush 101, 2) := by decide +kernel
theorem dd0_89 : decode method_2_code 89 = .ok (.castore, 1) := by decide +kernel
theorem dd0_90 : decode method_2_code 90 = .ok (.dup, 1) := by decide +kernel
theorem dd0_91 : decode method_2_code 91 = .ok (.bipush 9, 2) := by decide +kernel
theorem dd0_93 : decode method_2_code 93 = .ok (.bipush 100, 2) := by decide +kernel
theorem dd0_95 : decode method_2_code 95 = .ok (.castore, 1) := by decide +kernel
theorem dd0_96 : decode method_2_code 96 = .ok (.areturn, 1) := by decide +kernel
def own_Q15 (Z : State)  (h0 : Heap) (n0 : Nat) (v : Option Value) (h : Heap) (L : List Loc) : Prop := (∃ ob_687 : Nat, ∃ kk_685 : ClassId, v = some (.ref ob_687) ∧ Fr n0 L ∧ Keep h0 h [] ∧ h0.size ≤ ob_687 ∧ Arv Z h ob_687 kk_685 .char 10 [(.int 114), (.int 101), (.int 103), (.int 105), (.int 115), (.int 116), (.int 101), (.int 114), (.int 101), (.int 100)] (.int 0) ∧ Exa Z h ob_687 "[C" ∧ @LT.lt Nat instLTNat ob_687 h.size)
set_option maxRecDepth 65536 in
set_option maxHeartbeats 40000000 in
theorem own_rm15 (l : Launch) (Z : State) (a0 : Array Value) (hw : ∀ d ∈ tables_1, d.before a0 Z = true) (ws : List Jvm.Cond)  (h0 : Heap) (n0 : Nat) (Z0 : n0 ≤ h0.size) (O0 : Old Z n0 h0)  :
    own_Met l Z h0 (⟨"com/example/vestibule/vestibule/datacite/DoiStateOfKeyPinLaw", "keyChars", "(I)[C"⟩ : MethodName) method_2_code 1 (Option.some (FieldType.array FieldType.char)) ws ({ frames := 0, cells := 1, slots := 10, locals := 0 } : Room) #[(.int 1)] (own_Q15 Z  h0 n0) 1 10 := by
  refine MetFree.of_bodySF own_pn0 hisR ?_
  intro p e s m args below meth c s₁ Bd hml0 hP hK
  obtain ⟨rfl, hZ, hh⟩ := hP
  have hx := Bd.exec
  have hby := Bd.bytes
  have hml : c.maxLocals = 1 := hml0
  have hown : s.vm.findClass "com/example/vestibule/vestibule/datacite/DoiStateOfKeyPinLaw" = some m.cls := findClass_of_methodNamed Bd.named
  have hnm := (name_of_methodNamed Bd.named Bd.method).1
  have X0 : Stand p l e ({ frames := 0, cells := 1, slots := 10, locals := 0 } : Room) s m #[(.int 1)] below meth c s₁ [] 0 0 := Stand.of_body Bd
  have e0 : s₁.heap = h0 := by rw [← hh, Bd.state]; rfl
  have N0 := Fr.nil n0
  show own_G p e below (s₁.setTop (entryFrame m #[(.int 1)] 1)) (own_P s (own_Q15 Z  h0 n0) 1 10)
  refine own_cast (own_ef1 m 1) ?_
  show own_G p e below (s₁.setTop (mkF m 0 #[iv 1] [])) _
  refine oS (fun _ => XS.iloadN X0.here hx rfl (hb hby dd0_0) rfl) ?_
  refine oS (fun _ => XS.ifYes X0.here hx rfl (pc0 := 1) (pc' := 33) rfl (hb hby dd0_1) rfl (XT.i0_ne_t (by decide)) (by decide) (by decide)) ?_
  show own_G p e below (s₁.setTop (mkF m 33 #[iv 1] [])) _
  refine oS (fun _ => XS.iloadN X0.here hx rfl (hb hby dd0_33) rfl) ?_
  refine oS (fun _ => XS.iconst X0.here hx rfl (hb hby dd0_34) ) ?_
  refine oS (fun _ => XS.icmpNo X0.here hx rfl (hb hby dd0_35) rfl (XT.ii_ne_f (by decide))) ?_
  show own_G p e below (s₁.setTop (mkF m 38 #[iv 1] [])) _
  refine oS (fun _ => XS.bipush X0.here hx rfl (hb hby dd0_38) ) ?_
  obtain ⟨T676, h677, kk_685, X679, e680, E681, A682, B686, s683⟩ := own_newP X0 hx hZ (aty := .char) (oW hw 11 rfl) e0 (nm := "[C") rfl (g := (mkF m 40 #[iv 1] [(.int 10)])) rfl (hb hby dd0_40) (n := 10) (rest := []) rfl (by decide) (cap := 10) (by decide) (by decide) (by decide) (by decide)
  obtain ⟨ob_687, g688⟩ : ∃ z, z = h0.size := ⟨_, rfl⟩
  rw [← g688] at A682 B686 s683
  have F689 : Arv Z h677 ob_687 kk_685 .char 10 [(.int 0), (.int 0), (.int 0), (.int 0), (.int 0), (.int 0), (.int 0), (.int 0), (.int 0), (.int 0)] (.int 0) := own_newA A682 (by decide) rfl rfl
  have z690 := E681.1
  have y684 : @LT.lt Nat instLTNat ob_687 h677.size := F689.lt
  refine oS s683 ?_
  show own_G p e below (T676.setTop (mkF m 42 #[iv 1] [(.ref ob_687)])) _
  refine oS (fun _ => XS.dup X679.here hx rfl (hb hby dd0_42) rfl rfl) ?_
  refine oS (fun _ => XS.iconst X679.here hx rfl (hb hby dd0_43) ) ?_
  refine oS (fun _ => XS.bipush X679.here hx rfl (hb hby dd0_44) ) ?_
  obtain ⟨T691, h692, X693, e694, W695, A696, s697⟩ := own_stC X679 hx hZ e680 F689 (x' := 114) 0 (by decide) rfl (by decide) (by simp) (g := (mkF m 46 #[iv 1] [(.int 114), (.int 0), (.ref ob_687), (.ref ob_687)])) rfl (rest := [(.ref ob_687)]) rfl (hb hby dd0_46)
  have N699 : n0 ≤ ob_687 := by omega
  have N698 := Fr.snoc X693 N0 N699
  have z700 := W695.size
  have F701 : Arv Z h692 ob_687 kk_685 .char 10 [(.int 114), (.int 0), (.int 0), (.int 0), (.int 0), (.int 0), (.int 0), (.int 0), (.int 0), (.int 0)] (.int 0) := A696
  refine oS s697 ?_
  show own_G p e below (T691.setTop (mkF m 47 #[iv 1] [(.ref ob_687)])) _
  refine oS (fun _ => XS.dup X693.here hx rfl (hb hby dd0_47) rfl rfl) ?_
  refine oS (fun _ => XS.iconst X693.here hx rfl (hb hby dd0_48) ) ?_
  refine oS (fun _ => XS.bipush X693.here hx rfl (hb hby dd0_49) ) ?_
  obtain ⟨T702, h703, X704, e705, W706, A707, s708⟩ := own_stC X693 hx hZ e694 F701 (x' := 101) 1 (by decide) rfl (by decide) (by simp) (g := (mkF m 51 #[iv 1] [(.int 101), (.int 1), (.ref ob_687), (.ref ob_687)])) rfl (rest := [(.ref ob_687)]) rfl (hb hby dd0_51)
  have N709 := Fr.snoc X704 N698 N699
  have z710 := W706.size
  have F711 : Arv Z h703 ob_687 kk_685 .char 10 [(.int 114), (.int 101), (.int 0), (.int 0), (.int 0), (.int 0), (.int 0), (.int 0), (.int 0), (.int 0)] (.int 0) := A707
  refine oS s708 ?_
  show own_G p e below (T702.setTop (mkF m 52 #[iv 1] [(.ref ob_687)])) _
  refine oS (fun _ => XS.dup X704.here hx rfl (hb hby dd0_52) rfl rfl) ?_
  refine oS (fun _ => XS.iconst X704.here hx rfl (hb hby dd0_53) ) ?_
  refine oS (fun _ => XS.bipush X704.here hx rfl (hb hby dd0_54) ) ?_
  obtain ⟨T712, h713, X714, e715, W716, A717, s718⟩ := own_stC X704 hx hZ e705 F711 (x' := 103) 2 (by decide) rfl (by decide) (by simp) (g := (mkF m 56 #[iv 1] [(.int 103), (.int 2), (.ref ob_687), (.ref ob_687)])) rfl (rest := [(.ref ob_687)]) rfl (hb hby dd0_56)
  have N719 := Fr.snoc X714 N709 N699
  have z720 := W716.size
  have F721 : Arv Z h713 ob_687 kk_685 .char 10 [(.int 114), (.int 101), (.int 103), (.int 0), (.int 0), (.int 0), (.int 0), (.int 0), (.int 0), (.int 0)] (.int 0) := A717
  refine oS s718 ?_
  show own_G p e below (T712.setTop (mkF m 57 #[iv 1] [(.ref ob_687)])) _
  refine oS (fun _ => XS.dup X714.here hx rfl (hb hby dd0_57) rfl rfl) ?_
  refine oS (fun _ => XS.iconst X714.here hx rfl (hb hby dd0_58) ) ?_
  refine oS (fun _ => XS.bipush X714.here hx rfl (hb hby dd0_59) ) ?_
  obtain ⟨T722, h723, X724, e725, W726, A727, s728⟩ := own_stC X714 hx hZ e715 F721 (x' := 105) 3 (by decide) rfl (by decide) (by simp) (g := (mkF m 61 #[iv 1] [(.int 105), (.int 3), (.ref ob_687), (.ref ob_687)])) rfl (rest := [(.ref ob_687)]) rfl (hb hby dd0_61)
  have N729 := Fr.snoc X724 N719 N699
  have z730 := W726.size
  have F731 : Arv Z h723 ob_687 kk_685 .char 10 [(.int 114), (.int 101), (.int 103), (.int 105), (.int 0), (.int 0), (.int 0), (.int 0), (.int 0), (.int 0)] (.int 0) := A727
  refine oS s728 ?_
  show own_G p e below (T722.setTop (mkF m 62 #[iv 1] [(.ref ob_687)])) _
  refine oS (fun _ => XS.dup X724.here hx rfl (hb hby dd0_62) rfl rfl) ?_
  refine oS (fun _ => XS.iconst X724.here hx rfl (hb hby dd0_63) ) ?_
  refine oS (fun _ => XS.bipush X724.here hx rfl (hb hby dd0_64) ) ?_
  obtain ⟨T732, h733, X734, e735, W736, A737, s738⟩ := own_stC X724 hx hZ e725 F731 (x' := 115) 4 (by decide) rfl (by decide) (by simp) (g := (mkF m 66 #[iv 1] [(.int 115), (.int 4), (.ref ob_687), (.ref ob_687)])) rfl (rest := [(.ref ob_687)]) rfl (hb hby dd0_66)
  have N739 := Fr.snoc X734 N729 N699
  have z740 := W736.size
  have F741 : Arv Z h733 ob_687 kk_685 .char 10 [(.int 114), (.int 101), (.int 103), (.int 105), (.int 115), (.int 0), (.int 0), (.int 0), (.int 0), (.int 0)] (.int 0) := A737
  refine oS s738 ?_
  show own_G p e below (T732.setTop (mkF m 67 #[iv 1] [(.ref ob_687)])) _
  refine oS (fun _ => XS.dup X734.here hx rfl (hb hby dd0_67) rfl rfl) ?_
  refine oS (fun _ => XS.iconst X734.here hx rfl (hb hby dd0_68) ) ?_
  refine oS (fun _ => XS.bipush X734.here hx rfl (hb hby dd0_69) ) ?_
  obtain ⟨T742, h743, X744, e745, W746, A747, s748⟩ := own_stC X734 hx hZ e735 F741 (x' := 116) 5 (by decide) rfl (by decide) (by simp) (g := (mkF m 71 #[iv 1] [(.int 116), (.int 5), (.ref ob_687), (.ref ob_687)])) rfl (rest := [(.ref ob_687)]) rfl (hb hby dd0_71)
  have N749 := Fr.snoc X744 N739 N699
  have z750 := W746.size
  have F751 : Arv Z h743 ob_687 kk_685 .char 10 [(.int 114), (.int 101), (.int 103), (.int 105), (.int 115), (.int 116), (.int 0), (.int 0), (.int 0), (.int 0)] (.int 0) := A747
  refine oS s748 ?_
  show own_G p e below (T742.setTop (mkF m 72 #[iv 1] [(.ref ob_687)])) _
  refine oS (fun _ => XS.dup X744.here hx rfl (hb hby dd0_72) rfl rfl) ?_
  refine oS (fun _ => XS.bipush X744.here hx rfl (hb hby dd0_73) ) ?_
  refine oS (fun _ => XS.bipush X744.here hx rfl (hb hby dd0_75) ) ?_
  obtain ⟨T752, h753, X754, e755, W756, A757, s758⟩ := own_stC X744 hx hZ e745 F751 (x' := 101) 6 (by decide) rfl (by decide) (by simp) (g := (mkF m 77 #[iv 1] [(.int 101), (.int 6), (.ref ob_687), (.ref ob_687)])) rfl (rest := [(.ref ob_687)]) rfl (hb hby dd0_77)
  have N759 := Fr.snoc X754 N749 N699
  have z760 := W756.size
  have F761 : Arv Z h753 ob_687 kk_685 .char 10 [(.int 114), (.int 101), (.int 103), (.int 105), (.int 115), (.int 116), (.int 101), (.int 0), (.int 0), (.int 0)] (.int 0) := A757
  refine oS s758 ?_
  show own_G p e below (T752.setTop (mkF m 78 #[iv 1] [(.ref ob_687)])) _
  refine oS (fun _ => XS.dup X754.here hx rfl (hb hby dd0_78) rfl rfl) ?_
  refine oS (fun _ => XS.bipush X754.here hx rfl (hb hby dd0_79) ) ?_
  refine oS (fun _ => XS.bipush X754.here hx rfl (hb hby dd0_81) ) ?_
  obtain ⟨T762, h763, X764, e765, W766, A767, s768⟩ := own_stC X754 hx hZ e755 F761 (x' := 114) 7 (by decide) rfl (by decide) (by simp) (g := (mkF m 83 #[iv 1] [(.int 114), (.int 7), (.ref ob_687), (.ref ob_687)])) rfl (rest := [(.ref ob_687)]) rfl (hb hby dd0_83)
  have N769 := Fr.snoc X764 N759 N699
  have z770 := W766.size
  have F771 : Arv Z h763 ob_687 kk_685 .char 10 [(.int 114), (.int 101), (.int 103), (.int 105), (.int 115), (.int 116), (.int 101), (.int 114), (.int 0), (.int 0)] (.int 0) := A767
  refine oS s768 ?_
  show own_G p e below (T762.setTop (mkF m 84 #[iv 1] [(.ref ob_687)])) _
  refine oS (fun _ => XS.dup X764.here hx rfl (hb hby dd0_84) rfl rfl) ?_
  refine oS (fun _ => XS.bipush X764.here hx rfl (hb hby dd0_85) ) ?_
  refine oS (fun _ => XS.bipush X764.here hx rfl (hb hby dd0_87) ) ?_
  obtain ⟨T772, h773, X774, e775, W776, A777, s778⟩ := own_stC X764 hx hZ e765 F771 (x' := 101) 8 (by decide) rfl (by decide) (by simp) (g := (mkF m 89 #[iv 1] [(.int 101), (.int 8), (.ref ob_687), (.ref ob_687)])) rfl (rest := [(.ref ob_687)]) rfl (hb hby dd0_89)
  have N779 := Fr.snoc X774 N769 N699
  have z780 := W776.size
  have F781 : Arv Z h773 ob_687 kk_685 .char 10 [(.int 114), (.int 101), (.int 103), (.int 105), (.int 115), (.int 116), (.int 101), (.int 114), (.int 101), (.int 0)] (.int 0) := A777
  refine oS s778 ?_
  show own_G p e below (T772.setTop (mkF m 90 #[iv 1] [(.ref ob_687)])) _
  refine oS (fun _ => XS.dup X774.here hx rfl (hb hby dd0_90) rfl rfl) ?_
  refine oS (fun _ => XS.bipush X774.here hx rfl (hb hby dd0_91) ) ?_
  refine oS (fun _ => XS.bipush X774.here hx rfl (hb hby dd0_93) ) ?_
  obtain ⟨T782, h783, X784, e785, W786, A787, s788⟩ := own_stC X774 hx hZ e775 F781 (x' := 100) 9 (by decide) rfl (by decide) (by simp) (g := (mkF m 95 #[iv 1] [(.int 100), (.int 9), (.ref ob_687), (.ref ob_687)])) rfl (rest := [(.ref ob_687)]) rfl (hb hby dd0_95)
  have N789 := Fr.snoc X784 N779 N699
  have z790 := W786.size
  have F791 : Arv Z h783 ob_687 kk_685 .char 10 [(.int 114), (.int 101), (.int 103), (.int 105), (.int 115), (.int 116), (.int 101), (.int 114), (.int 101), (.int 100)] (.int 0) := A787
  refine oS s788 ?_
  show own_G p e below (T782.setTop (mkF m 96 #[iv 1] [(.ref ob_687)])) _
  have F792 : Exa Z h692 ob_687 "[C" := Exa.wr W695 B686
  have F793 : Exa Z h703 ob_687 "[C" := Exa.wr W706 F792
  have F794 : Exa Z h713 ob_687 "[C" := Exa.wr W716 F793
  have F795 : Exa Z h723 ob_687 "[C" := Exa.wr W726 F794
  have F796 : Exa Z h733 ob_687 "[C" := Exa.wr W736 F795
  have F797 : Exa Z h743 ob_687 "[C" := Exa.wr W746 F796
  have F798 : Exa Z h753 ob_687 "[C" := Exa.wr W756 F797
  have F799 : Exa Z h763 ob_687 "[C" := Exa.wr W766 F798
  have F800 : Exa Z h773 ob_687 "[C" := Exa.wr W776 F799
  have F801 : Exa Z h783 ob_687 "[C" := Exa.wr W786 F800
  have y802 : @LT.lt Nat instLTNat ob_687 h783.size := by omega
  have K803 : Keep h0 h783 [] := ((((((((((((Keep.refl h0 []).ext E681).wr W695 (Or.inr (by omega))).wr W706 (Or.inr (by omega))).wr W716 (Or.inr (by omega))).wr W726 (Or.inr (by omega))).wr W736 (Or.inr (by omega))).wr W746 (Or.inr (by omega))).wr W756 (Or.inr (by omega))).wr W766 (Or.inr (by omega))).wr W776 (Or.inr (by omega))).wr W786 (Or.inr (by omega)))
  exact own_retA X784 hx Bd.notSynchronized Bd.returns rfl rfl (hb hby dd0_96) e785 (by decide) (by decide) (⟨ob_687, kk_685, rfl, N789, K803, (by omega), F791, F801, y802⟩)
def own_Q19 (Z : State) (ob_814 : Nat) (ob_849 : Nat) (kk_815 : ClassId) (kk_847 : ClassId) (h0 : Heap) (n0 : Nat) (v : Option Value) (h : Heap) (L : List Loc) : Prop := (v = some (.int 10) ∧ Fr n0 L ∧ Keep h0 h [ob_849] ∧ Arv Z h ob_849 kk_847 .byte 10 [(.int 114), (.int 101), (.int 103), (.int 105), (.int 115), (.int 116), (.int 101), (.int 114), (.int 101), (.int 100)] (.int 0) ∧ Exa Z h ob_849 "[B")
set_option maxRecDepth 65536 in
set_option maxHeartbeats 40000000 in
theorem own_rm19 (l : Launch) (Z : State) (a0 : Array Value) (hw : ∀ d ∈ tables_1, d.before a0 Z = true) (ws : List Jvm.Cond) (ob_814 : Nat) (ob_849 : Nat) (kk_815 : ClassId) (kk_847 : ClassId) (h0 : Heap) (n0 : Nat) (Z0 : n0 ≤ h0.size) (O0 : Old Z n0 h0) (I856 : Arv Z h0 ob_814 kk_815 .char 10 [(.int 114), (.int 101), (.int 103), (.int 105), (.int 115), (.int 116), (.int 101), (.int 114), (.int 101), (.int 100)] (.int 0)) (I857 : Arv Z h0 ob_849 kk_847 .byte 10 [(.int 0), (.int 0), (.int 0), (.int 0), (.int 0), (.int 0), (.int 0), (.int 0), (.int 0), (.int 0)] (.int 0)) (I867 : n0 ≤ ob_849) (I876 : @Ne Nat ob_814 ob_849) (I976 : Exa Z h0 ob_849 "[B") :
    own_Met l Z h0 (⟨"java/lang/StringUTF16", "compress", "([CI[BII)I"⟩ : MethodName) jdk_52_method_21_code 7 (Option.some FieldType.int) ws ({ frames := 0, cells := 0, slots := 0, locals := 0 } : Room) #[(.ref ob_814), (.int 0), (.ref ob_849), (.int 0), (.int 10)] (own_Q19 Z ob_814 ob_849 kk_815 kk_847 h0 n0) 0 0 := by
  refine MetFree.of_bodySF own_pn1 hisR ?_
  intro p e s m args below meth c s₁ Bd hml0 hP hK
  obtain ⟨rfl, hZ, hh⟩ := hP
  have hx := Bd.exec
  have hby := Bd.bytes
  have hml : c.maxLocals = 7 := hml0
  have hown : s.vm.findClass "java/lang/StringUTF16" = some m.cls := findClass_of_methodNamed Bd.named
  have hnm := (name_of_methodNamed Bd.named Bd.method).1
  have X0 : Stand p l e ({ frames := 0, cells := 0, slots := 0, locals := 0 } : Room) s m #[(.ref ob_814), (.int 0), (.ref ob_849), (.int 0), (.int 10)] below meth c s₁ [] 0 0 := Stand.of_body Bd
  have e0 : s₁.heap = h0 := by rw [← hh, Bd.state]; rfl
  have N0 := Fr.nil n0
  show own_G p e below (s₁.setTop (entryFrame m #[(.ref ob_814), (.int 0), (.ref ob_849), (.int 0), (.int 10)] 7)) (own_P s (own_Q19 Z ob_814 ob_849 kk_815 kk_847 h0 n0) 0 0)
  refine own_cast (own_ef5 m ob_814 0 ob_849 0 10) ?_
  show own_G p e below (s₁.setTop (mkF m 0 #[rv ob_814, iv 0, rv ob_849, iv 0, iv 10, .unset, .unset] [])) _
  refine oS (fun _ => XS.iconst X0.here hx rfl (hb hby dd4_0) ) ?_
  refine oS (fun _ => XS.istore X0.here hx rfl (hb hby dd4_1) rfl (l' := #[rv ob_814, iv 0, rv ob_849, iv 0, iv 10, iv 0, .unset]) rfl) ?_
  refine oS (fun _ => XS.iload X0.here hx rfl (hb hby dd4_3) rfl) ?_
  refine oS (fun _ => XS.iload X0.here hx rfl (hb hby dd4_5) rfl) ?_
  show own_G p e below (s₁.setTop (mkF m 7 #[rv ob_814, iv 0, rv ob_849, iv 0, iv 10, iv 0, .unset] [(.int 10), (.int 0)])) _
  refine oS (fun _ => XS.icmpNo X0.here hx rfl (hb hby dd4_7) rfl (XT.ii_ge_f (by decide))) ?_
  show own_G p e below (s₁.setTop (mkF m 10 #[rv ob_814, iv 0, rv ob_849, iv 0, iv 10, iv 0, .unset] [])) _
  refine oS (fun _ => XS.aloadN X0.here hx rfl (hb hby dd4_10) rfl rfl) ?_
  refine oS (fun _ => XS.iloadN X0.here hx rfl (hb hby dd4_11) rfl) ?_
  refine oS (own_caload X0 hx hZ e0 I856 (by decide) (v := (.int 114)) rfl rfl rfl (hb hby dd4_12)) ?_
  show own_G p e below (s₁.setTop (mkF m 13 #[rv ob_814, iv 0, rv ob_849, iv 0, iv 10, iv 0, .unset] [(.int 114)])) _
  refine oS (fun _ => XS.istore X0.here hx rfl (hb hby dd4_13) rfl (l' := #[rv ob_814, iv 0, rv ob_849, iv 0, iv 10, iv 0, iv 114]) rfl) ?_
  refine oS (fun _ => XS.iload X0.here hx rfl (hb hby dd4_15) rfl) ?_
  refine oS (fun _ => XS.sipush X0.here hx rfl (hb hby dd4_17) ) ?_
  refine oS (fun _ => XS.icmpYes X0.here hx rfl (pc0 := 20) (pc' := 26) rfl (hb hby dd4_20) rfl (XT.ii_le_t (by decide)) (by decide) (by decide)) ?_
  show own_G p e below (s₁.setTop (mkF m 26 #[rv ob_814, iv 0, rv ob_849, iv 0, iv 10, iv 0, iv 114] [])) _
  refine oS (fun _ => XS.aloadN X0.here hx rfl (hb hby dd4_26) rfl rfl) ?_
  refine oS (fun _ => XS.iloadN X0.here hx rfl (hb hby dd4_27) rfl) ?_
  refine oS (fun _ => XS.iload X0.here hx rfl (hb hby dd4_28) rfl) ?_
  refine oS (fun _ => XT.i2b X0.here hx rfl (hb hby dd4_30) rfl) ?_
  show own_G p e below (s₁.setTop (mkF m 31 #[rv ob_814, iv 0, rv ob_849, iv 0, iv 10, iv 0, iv 114] [(.int 114), (.int 0), (.ref ob_849)])) _
  obtain ⟨T858, h859, X860, e861, W862, A863, s864⟩ := own_stB X0 hx hZ e0 I857 (x' := 114) 0 (by decide) rfl (by decide) (by simp) (g := (mkF m 31 #[rv ob_814, iv 0, rv ob_849, iv 0, iv 10, iv 0, iv 114] [(.int 114), (.int 0), (.ref ob_849)])) rfl (rest := []) rfl (hb hby dd4_31)
  have N865 := Fr.snoc X860 N0 I867
  have z868 := W862.size
  have F869 : Arv Z h859 ob_849 kk_847 .byte 10 [(.int 114), (.int 0), (.int 0), (.int 0), (.int 0), (.int 0), (.int 0), (.int 0), (.int 0), (.int 0)] (.int 0) := A863
  refine oS s864 ?_
  show own_G p e below (T858.setTop (mkF m 32 #[rv ob_814, iv 0, rv ob_849, iv 0, iv 10, iv 0, iv 114] [])) _
  refine oS (fun _ => XS.iinc X860.here hx rfl (hb hby dd4_32) rfl (l' := #[rv ob_814, iv 1, rv ob_849, iv 0, iv 10, iv 0, iv 114]) rfl) ?_
  show own_G p e below (T858.setTop (mkF m 35 #[rv ob_814, iv 1, rv ob_849, iv 0, iv 10, iv 0, iv 114] [])) _
  refine oS (fun _ => XS.iinc X860.here hx rfl (hb hby dd4_35) rfl (l' := #[rv ob_814, iv 1, rv ob_849, iv 1, iv 10, iv 0, iv 114]) rfl) ?_
  show own_G p e below (T858.setTop (mkF m 38 #[rv ob_814, iv 1, rv ob_849, iv 1, iv 10, iv 0, iv 114] [])) _
  refine oS (fun _ => XS.iinc X860.here hx rfl (hb hby dd4_38) rfl (l' := #[rv ob_814, iv 1, rv ob_849, iv 1, iv 10, iv 1, iv 114]) rfl) ?_
  show own_G p e below (T858.setTop (mkF m 41 #[rv ob_814, iv 1, rv ob_849, iv 1, iv 10, iv 1, iv 114] [])) _
  refine oS (fun _ => XS.goto X860.here hx rfl (pc0 := 41) (pc' := 3) rfl (hb hby dd4_41) (by decide) (by decide)) ?_
  show own_G p e below (T858.setTop (mkF m 3 #[rv ob_814, iv 1, rv ob_849, iv 1, iv 10, iv 1, iv 114] [])) _
  refine oS (fun _ => XS.iload X860.here hx rfl (hb hby dd4_3) rfl) ?_
  refine oS (fun _ => XS.iload X860.here hx rfl (hb hby dd4_5) rfl) ?_
  refine oS (fun _ => XS.icmpNo X860.here hx rfl (hb hby dd4_7) rfl (XT.ii_ge_f (by decide))) ?_
  show own_G p e below (T858.setTop (mkF m 10 #[rv ob_814, iv 1, rv ob_849, iv 1, iv 10, iv 1, iv 114] [])) _
  refine oS (fun _ => XS.aloadN X860.here hx rfl (hb hby dd4_10) rfl rfl) ?_
  refine oS (fun _ => XS.iloadN X860.here hx rfl (hb hby dd4_11) rfl) ?_
  have F877 : Arv Z h859 ob_814 kk_815 .char 10 [(.int 114), (.int 101), (.int 103), (.int 105), (.int 115), (.int 116), (.int 101), (.int 114), (.int 101), (.int 100)] (.int 0) := I856.other W862 I876
  refine oS (own_caload X860 hx hZ e861 F877 (by decide) (v := (.int 101)) rfl rfl rfl (hb hby dd4_12)) ?_
  show own_G p e below (T858.setTop (mkF m 13 #[rv ob_814, iv 1, rv ob_849, iv 1, iv 10, iv 1, iv 114] [(.int 101)])) _
  refine oS (fun _ => XS.istore X860.here hx rfl (hb hby dd4_13) rfl (l' := #[rv ob_814, iv 1, rv ob_849, iv 1, iv 10, iv 1, iv 101]) rfl) ?_
  refine oS (fun _ => XS.iload X860.here hx rfl (hb hby dd4_15) rfl) ?_
  refine oS (fun _ => XS.sipush X860.here hx rfl (hb hby dd4_17) ) ?_
  refine oS (fun _ => XS.icmpYes X860.here hx rfl (pc0 := 20) (pc' := 26) rfl (hb hby dd4_20) rfl (XT.ii_le_t (by decide)) (by decide) (by decide)) ?_
  show own_G p e below (T858.setTop (mkF m 26 #[rv ob_814, iv 1, rv ob_849, iv 1, iv 10, iv 1, iv 101] [])) _
  refine oS (fun _ => XS.aloadN X860.here hx rfl (hb hby dd4_26) rfl rfl) ?_
  refine oS (fun _ => XS.iloadN X860.here hx rfl (hb hby dd4_27) rfl) ?_
  refine oS (fun _ => XS.iload X860.here hx rfl (hb hby dd4_28) rfl) ?_
  refine oS (fun _ => XT.i2b X860.here hx rfl (hb hby dd4_30) rfl) ?_
  show own_G p e below (T858.setTop (mkF m 31 #[rv ob_814, iv 1, rv ob_849, iv 1, iv 10, iv 1, iv 101] [(.int 101), (.int 1), (.ref ob_849)])) _
  obtain ⟨T878, h879, X880, e881, W882, A883, s884⟩ := own_stB X860 hx hZ e861 F869 (x' := 101) 1 (by decide) rfl (by decide) (by simp) (g := (mkF m 31 #[rv ob_814, iv 1, rv ob_849, iv 1, iv 10, iv 1, iv 101] [(.int 101), (.int 1), (.ref ob_849)])) rfl (rest := []) rfl (hb hby dd4_31)
  have N885 := Fr.snoc X880 N865 I867
  have z886 := W882.size
  have F887 : Arv Z h879 ob_849 kk_847 .byte 10 [(.int 114), (.int 101), (.int 0), (.int 0), (.int 0), (.int 0), (.int 0), (.int 0), (.int 0), (.int 0)] (.int 0) := A883
  refine oS s884 ?_
  show own_G p e below (T878.setTop (mkF m 32 #[rv ob_814, iv 1, rv ob_849, iv 1, iv 10, iv 1, iv 101] [])) _
  refine oS (fun _ => XS.iinc X880.here hx rfl (hb hby dd4_32) rfl (l' := #[rv ob_814, iv 2, rv ob_849, iv 1, iv 10, iv 1, iv 101]) rfl) ?_
  show own_G p e below (T878.setTop (mkF m 35 #[rv ob_814, iv 2, rv ob_849, iv 1, iv 10, iv 1, iv 101] [])) _
  refine oS (fun _ => XS.iinc X880.here hx rfl (hb hby dd4_35) rfl (l' := #[rv ob_814, iv 2, rv ob_849, iv 2, iv 10, iv 1, iv 101]) rfl) ?_
  show own_G p e below (T878.setTop (mkF m 38 #[rv ob_814, iv 2, rv ob_849, iv 2, iv 10, iv 1, iv 101] [])) _
  refine oS (fun _ => XS.iinc X880.here hx rfl (hb hby dd4_38) rfl (l' := #[rv ob_814, iv 2, rv ob_849, iv 2, iv 10, iv 2, iv 101]) rfl) ?_
  show own_G p e below (T878.setTop (mkF m 41 #[rv ob_814, iv 2, rv ob_849, iv 2, iv 10, iv 2, iv 101] [])) _
  refine oS (fun _ => XS.goto X880.here hx rfl (pc0 := 41) (pc' := 3) rfl (hb hby dd4_41) (by decide) (by decide)) ?_
  show own_G p e below (T878.setTop (mkF m 3 #[rv ob_814, iv 2, rv ob_849, iv 2, iv 10, iv 2, iv 101] [])) _
  refine oS (fun _ => XS.iload X880.here hx rfl (hb hby dd4_3) rfl) ?_
  refine oS (fun _ => XS.iload X880.here hx rfl (hb hby dd4_5) rfl) ?_
  refine oS (fun _ => XS.icmpNo X880.here hx rfl (hb hby dd4_7) rfl (XT.ii_ge_f (by decide))) ?_
  show own_G p e below (T878.setTop (mkF m 10 #[rv ob_814, iv 2, rv ob_849, iv 2, iv 10, iv 2, iv 101] [])) _
  refine oS (fun _ => XS.aloadN X880.here hx rfl (hb hby dd4_10) rfl rfl) ?_
  refine oS (fun _ => XS.iloadN X880.here hx rfl (hb hby dd4_11) rfl) ?_
  have F888 : Arv Z h879 ob_814 kk_815 .char 10 [(.int 114), (.int 101), (.int 103), (.int 105), (.int 115), (.int 116), (.int 101), (.int 114), (.int 101), (.int 100)] (.int 0) := F877.other W882 I876
  refine oS (own_caload X880 hx hZ e881 F888 (by decide) (v := (.int 103)) rfl rfl rfl (hb hby dd4_12)) ?_
  show own_G p e below (T878.setTop (mkF m 13 #[rv ob_814, iv 2, rv ob_849, iv 2, iv 10, iv 2, iv 101] [(.int 103)])) _
  refine oS (fun _ => XS.istore X880.here hx rfl (hb hby dd4_13) rfl (l' := #[rv ob_814, iv 2, rv ob_849, iv 2, iv 10, iv 2, iv 103]) rfl) ?_
  refine oS (fun _ => XS.iload X880.here hx rfl (hb hby dd4_15) rfl) ?_
  refine oS (fun _ => XS.sipush X880.here hx rfl (hb hby dd4_17) ) ?_
  refine oS (fun _ => XS.icmpYes X880.here hx rfl (pc0 := 20) (pc' := 26) rfl (hb hby dd4_20) rfl (XT.ii_le_t (by decide)) (by decide) (by decide)) ?_
  show own_G p e below (T878.setTop (mkF m 26 #[rv ob_814, iv 2, rv ob_849, iv 2, iv 10, iv 2, iv 103] [])) _
  refine oS (fun _ => XS.aloadN X880.here hx rfl (hb hby dd4_26) rfl rfl) ?_
  refine oS (fun _ => XS.iloadN X880.here hx rfl (hb hby dd4_27) rfl) ?_
  refine oS (fun _ => XS.iload X880.here hx rfl (hb hby dd4_28) rfl) ?_
  refine oS (fun _ => XT.i2b X880.here hx rfl (hb hby dd4_30) rfl) ?_
  show own_G p e below (T878.setTop (mkF m 31 #[rv ob_814, iv 2, rv ob_849, iv 2, iv 10, iv 2, iv 103] [(.int 103), (.int 2), (.ref ob_849)])) _
  obtain ⟨T889, h890, X891, e892, W893, A894, s895⟩ := own_stB X880 hx hZ e881 F887 (x' := 103) 2 (by decide) rfl (by decide) (by simp) (g := (mkF m 31 #[rv ob_814, iv 2, rv ob_849, iv 2, iv 10, iv 2, iv 103] [(.int 103), (.int 2), (.ref ob_849)])) rfl (rest := []) rfl (hb hby dd4_31)
  have N896 := Fr.snoc X891 N885 I867
  have z897 := W893.size
  have F898 : Arv Z h890 ob_849 kk_847 .byte 10 [(.int 114), (.int 101), (.int 103), (.int 0), (.int 0), (.int 0), (.int 0), (.int 0), (.int 0), (.int 0)] (.int 0) := A894
  refine oS s895 ?_
  show own_G p e below (T889.setTop (mkF m 32 #[rv ob_814, iv 2, rv ob_849, iv 2, iv 10, iv 2, iv 103] [])) _
  refine oS (fun _ => XS.iinc X891.here hx rfl (hb hby dd4_32) rfl (l' := #[rv ob_814, iv 3, rv ob_849, iv 2, iv 10, iv 2, iv 103]) rfl) ?_
  show own_G p e below (T889.setTop (mkF m 35 #[rv ob_814, iv 3, rv ob_849, iv 2, iv 10, iv 2, iv 103] [])) _
  refine oS (fun _ => XS.iinc X891.here hx rfl (hb hby dd4_35) rfl (l' := #[rv ob_814, iv 3, rv ob_849, iv 3, iv 10, iv 2, iv 103]) rfl) ?_
  show own_G p e below (T889.setTop (mkF m 38 #[rv ob_814, iv 3, rv ob_849, iv 3, iv 10, iv 2, iv 103] [])) _
  refine oS (fun _ => XS.iinc X891.here hx rfl (hb hby dd4_38) rfl (l' := #[rv ob_814, iv 3, rv ob_849, iv 3, iv 10, iv 3, iv 103]) rfl) ?_
  show own_G p e below (T889.setTop (mkF m 41 #[rv ob_814, iv 3, rv ob_849, iv 3, iv 10, iv 3, iv 103] [])) _
  refine oS (fun _ => XS.goto X891.here hx rfl (pc0 := 41) (pc' := 3) rfl (hb hby dd4_41) (by decide) (by decide)) ?_
  show own_G p e below (T889.setTop (mkF m 3 #[rv ob_814, iv 3, rv ob_849, iv 3, iv 10, iv 3, iv 103] [])) _
  refine oS (fun _ => XS.iload X891.here hx rfl (hb hby dd4_3) rfl) ?_
  refine oS (fun _ => XS.iload X891.here hx rfl (hb hby dd4_5) rfl) ?_
  refine oS (fun _ => XS.icmpNo X891.here hx rfl (hb hby dd4_7) rfl (XT.ii_ge_f (by decide))) ?_
  show own_G p e below (T889.setTop (mkF m 10 #[rv ob_814, iv 3, rv ob_849, iv 3, iv 10, iv 3, iv 103] [])) _
  refine oS (fun _ => XS.aloadN X891.here hx rfl (hb hby dd4_10) rfl rfl) ?_
  refine oS (fun _ => XS.iloadN X891.here hx rfl (hb hby dd4_11) rfl) ?_
  have F899 : Arv Z h890 ob_814 kk_815 .char 10 [(.int 114), (.int 101), (.int 103), (.int 105), (.int 115), (.int 116), (.int 101), (.int 114), (.int 101), (.int 100)] (.int 0) := F888.other W893 I876
  refine oS (own_caload X891 hx hZ e892 F899 (by decide) (v := (.int 105)) rfl rfl rfl (hb hby dd4_12)) ?_
  show own_G p e below (T889.setTop (mkF m 13 #[rv ob_814, iv 3, rv ob_849, iv 3, iv 10, iv 3, iv 103] [(.int 105)])) _
  refine oS (fun _ => XS.istore X891.here hx rfl (hb hby dd4_13) rfl (l' := #[rv ob_814, iv 3, rv ob_849, iv 3, iv 10, iv 3, iv 105]) rfl) ?_
  refine oS (fun _ => XS.iload X891.here hx rfl (hb hby dd4_15) rfl) ?_
  refine oS (fun _ => XS.sipush X891.here hx rfl (hb hby dd4_17) ) ?_
  refine oS (fun _ => XS.icmpYes X891.here hx rfl (pc0 := 20) (pc' := 26) rfl (hb hby dd4_20) rfl (XT.ii_le_t (by decide)) (by decide) (by decide)) ?_
  show own_G p e below (T889.setTop (mkF m 26 #[rv ob_814, iv 3, rv ob_849, iv 3, iv 10, iv 3, iv 105] [])) _
  refine oS (fun _ => XS.aloadN X891.here hx rfl (hb hby dd4_26) rfl rfl) ?_
  refine oS (fun _ => XS.iloadN X891.here hx rfl (hb hby dd4_27) rfl) ?_
  refine oS (fun _ => XS.iload X891.here hx rfl (hb hby dd4_28) rfl) ?_
  refine oS (fun _ => XT.i2b X891.here hx rfl (hb hby dd4_30) rfl) ?_
  show own_G p e below (T889.setTop (mkF m 31 #[rv ob_814, iv 3, rv ob_849, iv 3, iv 10, iv 3, iv 105] [(.int 105), (.int 3), (.ref ob_849)])) _
  obtain ⟨T900, h901, X902, e903, W904, A905, s906⟩ := own_stB X891 hx hZ e892 F898 (x' := 105) 3 (by decide) rfl (by decide) (by simp) (g := (mkF m 31 #[rv ob_814, iv 3, rv ob_849, iv 3, iv 10, iv 3, iv 105] [(.int 105), (.int 3), (.ref ob_849)])) rfl (rest := []) rfl (hb hby dd4_31)
  have N907 := Fr.snoc X902 N896 I867
  have z908 := W904.size
  have F909 : Arv Z h901 ob_849 kk_847 .byte 10 [(.int 114), (.int 101), (.int 103), (.int 105), (.int 0), (.int 0), (.int 0), (.int 0), (.int 0), (.int 0)] (.int 0) := A905
  refine oS s906 ?_
  show own_G p e below (T900.setTop (mkF m 32 #[rv ob_814, iv 3, rv ob_849, iv 3, iv 10, iv 3, iv 105] [])) _
  refine oS (fun _ => XS.iinc X902.here hx rfl (hb hby dd4_32) rfl (l' := #[rv ob_814, iv 4, rv ob_849, iv 3, iv 10, iv 3, iv 105]) rfl) ?_
  show own_G p e below (T900.setTop (mkF m 35 #[rv ob_814, iv 4, rv ob_849, iv 3, iv 10, iv 3, iv 105] [])) _
  refine oS (fun _ => XS.iinc X902.here hx rfl (hb hby dd4_35) rfl (l' := #[rv ob_814, iv 4, rv ob_849, iv 4, iv 10, iv 3, iv 105]) rfl) ?_
  show own_G p e below (T900.setTop (mkF m 38 #[rv ob_814, iv 4, rv ob_849, iv 4, iv 10, iv 3, iv 105] [])) _
  refine oS (fun _ => XS.iinc X902.here hx rfl (hb hby dd4_38) rfl (l' := #[rv ob_814, iv 4, rv ob_849, iv 4, iv 10, iv 4, iv 105]) rfl) ?_
  show own_G p e below (T900.setTop (mkF m 41 #[rv ob_814, iv 4, rv ob_849, iv 4, iv 10, iv 4, iv 105] [])) _
  refine oS (fun _ => XS.goto X902.here hx rfl (pc0 := 41) (pc' := 3) rfl (hb hby dd4_41) (by decide) (by decide)) ?_
  show own_G p e below (T900.setTop (mkF m 3 #[rv ob_814, iv 4, rv ob_849, iv 4, iv 10, iv 4, iv 105] [])) _
  refine oS (fun _ => XS.iload X902.here hx rfl (hb hby dd4_3) rfl) ?_
  refine oS (fun _ => XS.iload X902.here hx rfl (hb hby dd4_5) rfl) ?_
  refine oS (fun _ => XS.icmpNo X902.here hx rfl (hb hby dd4_7) rfl (XT.ii_ge_f (by decide))) ?_
  show own_G p e below (T900.setTop (mkF m 10 #[rv ob_814, iv 4, rv ob_849, iv 4, iv 10, iv 4, iv 105] [])) _
  refine oS (fun _ => XS.aloadN X902.here hx rfl (hb hby dd4_10) rfl rfl) ?_
  refine oS (fun _ => XS.iloadN X902.here hx rfl (hb hby dd4_11) rfl) ?_
  have F910 : Arv Z h901 ob_814 kk_815 .char 10 [(.int 114), (.int 101), (.int 103), (.int 105), (.int 115), (.int 116), (.int 101), (.int 114), (.int 101), (.int 100)] (.int 0) := F899.other W904 I876
  refine oS (own_caload X902 hx hZ e903 F910 (by decide) (v := (.int 115)) rfl rfl rfl (hb hby dd4_12)) ?_
  show own_G p e below (T900.setTop (mkF m 13 #[rv ob_814, iv 4, rv ob_849, iv 4, iv 10, iv 4, iv 105] [(.int 115)])) _
  refine oS (fun _ => XS.istore X902.here hx rfl (hb hby dd4_13) rfl (l' := #[rv ob_814, iv 4, rv ob_849, iv 4, iv 10, iv 4, iv 115]) rfl) ?_
  refine oS (fun _ => XS.iload X902.here hx rfl (hb hby dd4_15) rfl) ?_
  refine oS (fun _ => XS.sipush X902.here hx rfl (hb hby dd4_17) ) ?_
  refine oS (fun _ => XS.icmpYes X902.here hx rfl (pc0 := 20) (pc' := 26) rfl (hb hby dd4_20) rfl (XT.ii_le_t (by decide)) (by decide) (by decide)) ?_
  show own_G p e below (T900.setTop (mkF m 26 #[rv ob_814, iv 4, rv ob_849, iv 4, iv 10, iv 4, iv 115] [])) _
  refine oS (fun _ => XS.aloadN X902.here hx rfl (hb hby dd4_26) rfl rfl) ?_
  refine oS (fun _ => XS.iloadN X902.here hx rfl (hb hby dd4_27) rfl) ?_
  refine oS (fun _ => XS.iload X902.here hx rfl (hb hby dd4_28) rfl) ?_
  refine oS (fun _ => XT.i2b X902.here hx rfl (hb hby dd4_30) rfl) ?_
  show own_G p e below (T900.setTop (mkF m 31 #[rv ob_814, iv 4, rv ob_849, iv 4, iv 10, iv 4, iv 115] [(.int 115), (.int 4), (.ref ob_849)])) _
  obtain ⟨T911, h912, X913, e914, W915, A916, s917⟩ := own_stB X902 hx hZ e903 F909 (x' := 115) 4 (by decide) rfl (by decide) (by simp) (g := (mkF m 31 #[rv ob_814, iv 4, rv ob_849, iv 4, iv 10, iv 4, iv 115] [(.int 115), (.int 4), (.ref ob_849)])) rfl (rest := []) rfl (hb hby dd4_31)
  have N918 := Fr.snoc X913 N907 I867
  have z919 := W915.size
  have F920 : Arv Z h912 ob_849 kk_847 .byte 10 [(.int 114), (.int 101), (.int 103), (.int 105), (.int 115), (.int 0), (.int 0), (.int 0), (.int 0), (.int 0)] (.int 0) := A916
  refine oS s917 ?_
  show own_G p e below (T911.setTop (mkF m 32 #[rv ob_814, iv 4, rv ob_849, iv 4, iv 10, iv 4, iv 115] [])) _
  refine oS (fun _ => XS.iinc X913.here hx rfl (hb hby dd4_32) rfl (l' := #[rv ob_814, iv 5, rv ob_849, iv 4, iv 10, iv 4, iv 115]) rfl) ?_
  show own_G p e below (T911.setTop (mkF m 35 #[rv ob_814, iv 5, rv ob_849, iv 4, iv 10, iv 4, iv 115] [])) _
  refine oS (fun _ => XS.iinc X913.here hx rfl (hb hby dd4_35) rfl (l' := #[rv ob_814, iv 5, rv ob_849, iv 5, iv 10, iv 4, iv 115]) rfl) ?_
  show own_G p e below (T911.setTop (mkF m 38 #[rv ob_814, iv 5, rv ob_849, iv 5, iv 10, iv 4, iv 115] [])) _
  refine oS (fun _ => XS.iinc X913.here hx rfl (hb hby dd4_38) rfl (l' := #[rv ob_814, iv 5, rv ob_849, iv 5, iv 10, iv 5, iv 115]) rfl) ?_
  show own_G p e below (T911.setTop (mkF m 41 #[rv ob_814, iv 5, rv ob_849, iv 5, iv 10, iv 5, iv 115] [])) _
  refine oS (fun _ => XS.goto X913.here hx rfl (pc0 := 41) (pc' := 3) rfl (hb hby dd4_41) (by decide) (by decide)) ?_
  show own_G p e below (T911.setTop (mkF m 3 #[rv ob_814, iv 5, rv ob_849, iv 5, iv 10, iv 5, iv 115] [])) _
  refine oS (fun _ => XS.iload X913.here hx rfl (hb hby dd4_3) rfl) ?_
  refine oS (fun _ => XS.iload X913.here hx rfl (hb hby dd4_5) rfl) ?_
  refine oS (fun _ => XS.icmpNo X913.here hx rfl (hb hby dd4_7) rfl (XT.ii_ge_f (by decide))) ?_
  show own_G p e below (T911.setTop (mkF m 10 #[rv ob_814, iv 5, rv ob_849, iv 5, iv 10, iv 5, iv 115] [])) _
  refine oS (fun _ => XS.aloadN X913.here hx rfl (hb hby dd4_10) rfl rfl) ?_
  refine oS (fun _ => XS.iloadN X913.here hx rfl (hb hby dd4_11) rfl) ?_
  have F921 : Arv Z h912 ob_814 kk_815 .char 10 [(.int 114), (.int 101), (.int 103), (.int 105), (.int 115), (.int 116), (.int 101), (.int 114), (.int 101), (.int 100)] (.int 0) := F910.other W915 I876
  refine oS (own_caload X913 hx hZ e914 F921 (by decide) (v := (.int 116)) rfl rfl rfl (hb hby dd4_12)) ?_
  show own_G p e below (T911.setTop (mkF m 13 #[rv ob_814, iv 5, rv ob_849, iv 5, iv 10, iv 5, iv 115] [(.int 116)])) _
  refine oS (fun _ => XS.istore X913.here hx rfl (hb hby dd4_13) rfl (l' := #[rv ob_814, iv 5, rv ob_849, iv 5, iv 10, iv 5, iv 116]) rfl) ?_
  refine oS (fun _ => XS.iload X913.here hx rfl (hb hby dd4_15) rfl) ?_
  refine oS (fun _ => XS.sipush X913.here hx rfl (hb hby dd4_17) ) ?_
  refine oS (fun _ => XS.icmpYes X913.here hx rfl (pc0 := 20) (pc' := 26) rfl (hb hby dd4_20) rfl (XT.ii_le_t (by decide)) (by decide) (by decide)) ?_
  show own_G p e below (T911.setTop (mkF m 26 #[rv ob_814, iv 5, rv ob_849, iv 5, iv 10, iv 5, iv 116] [])) _
  refine oS (fun _ => XS.aloadN X913.here hx rfl (hb hby dd4_26) rfl rfl) ?_
  refine oS (fun _ => XS.iloadN X913.here hx rfl (hb hby dd4_27) rfl) ?_
  refine oS (fun _ => XS.iload X913.here hx rfl (hb hby dd4_28) rfl) ?_
  refine oS (fun _ => XT.i2b X913.here hx rfl (hb hby dd4_30) rfl) ?_
  show own_G p e below (T911.setTop (mkF m 31 #[rv ob_814, iv 5, rv ob_849, iv 5, iv 10, iv 5, iv 116] [(.int 116), (.int 5), (.ref ob_849)])) _
  obtain ⟨T922, h923, X924, e925, W926, A927, s928⟩ := own_stB X913 hx hZ e914 F920 (x' := 116) 5 (by decide) rfl (by decide) (by simp) (g := (mkF m 31 #[rv ob_814, iv 5, rv ob_849, iv 5, iv 10, iv 5, iv 116] [(.int 116), (.int 5), (.ref ob_849)])) rfl (rest := []) rfl (hb hby dd4_31)
  have N929 := Fr.snoc X924 N918 I867
  have z930 := W926.size
  have F931 : Arv Z h923 ob_849 kk_847 .byte 10 [(.int 114), (.int 101), (.int 103), (.int 105), (.int 115), (.int 116), (.int 0), (.int 0), (.int 0), (.int 0)] (.int 0) := A927
  refine oS s928 ?_
  show own_G p e below (T922.setTop (mkF m 32 #[rv ob_814, iv 5, rv ob_849, iv 5, iv 10, iv 5, iv 116] [])) _
  refine oS (fun _ => XS.iinc X924.here hx rfl (hb hby dd4_32) rfl (l' := #[rv ob_814, iv 6, rv ob_849, iv 5, iv 10, iv 5, iv 116]) rfl) ?_
  show own_G p e below (T922.setTop (mkF m 35 #[rv ob_814, iv 6, rv ob_849, iv 5, iv 10, iv 5, iv 116] [])) _
  refine oS (fun _ => XS.iinc X924.here hx rfl (hb hby dd4_35) rfl (l' := #[rv ob_814, iv 6, rv ob_849, iv 6, iv 10, iv 5, iv 116]) rfl) ?_
  show own_G p e below (T922.setTop (mkF m 38 #[rv ob_814, iv 6, rv ob_849, iv 6, iv 10, iv 5, iv 116] [])) _
  refine oS (fun _ => XS.iinc X924.here hx rfl (hb hby dd4_38) rfl (l' := #[rv ob_814, iv 6, rv ob_849, iv 6, iv 10, iv 6, iv 116]) rfl) ?_
  show own_G p e below (T922.setTop (mkF m 41 #[rv ob_814, iv 6, rv ob_849, iv 6, iv 10, iv 6, iv 116] [])) _
  refine oS (fun _ => XS.goto X924.here hx rfl (pc0 := 41) (pc' := 3) rfl (hb hby dd4_41) (by decide) (by decide)) ?_
  show own_G p e below (T922.setTop (mkF m 3 #[rv ob_814, iv 6, rv ob_849, iv 6, iv 10, iv 6, iv 116] [])) _
  refine oS (fun _ => XS.iload X924.here hx rfl (hb hby dd4_3) rfl) ?_
  refine oS (fun _ => XS.iload X924.here hx rfl (hb hby dd4_5) rfl) ?_
  refine oS (fun _ => XS.icmpNo X924.here hx rfl (hb hby dd4_7) rfl (XT.ii_ge_f (by decide))) ?_
  show own_G p e below (T922.setTop (mkF m 10 #[rv ob_814, iv 6, rv ob_849, iv 6, iv 10, iv 6, iv 116] [])) _
  refine oS (fun _ => XS.aloadN X924.here hx rfl (hb hby dd4_10) rfl rfl) ?_
  refine oS (fun _ => XS.iloadN X924.here hx rfl (hb hby dd4_11) rfl) ?_
  have F932 : Arv Z h923 ob_814 kk_815 .char 10 [(.int 114), (.int 101), (.int 103), (.int 105), (.int 115), (.int 116), (.int 101), (.int 114), (.int 101), (.int 100)] (.int 0) := F921.other W926 I876
  refine oS (own_caload X924 hx hZ e925 F932 (by decide) (v := (.int 101)) rfl rfl rfl (hb hby dd4_12)) ?_
  show own_G p e below (T922.setTop (mkF m 13 #[rv ob_814, iv 6, rv ob_849, iv 6, iv 10, iv 6, iv 116] [(.int 101)])) _
  refine oS (fun _ => XS.istore X924.here hx rfl (hb hby dd4_13) rfl (l' := #[rv ob_814, iv 6, rv ob_849, iv 6, iv 10, iv 6, iv 101]) rfl) ?_
  refine oS (fun _ => XS.iload X924.here hx rfl (hb hby dd4_15) rfl) ?_
  refine oS (fun _ => XS.sipush X924.here hx rfl (hb hby dd4_17) ) ?_
  refine oS (fun _ => XS.icmpYes X924.here hx rfl (pc0 := 20) (pc' := 26) rfl (hb hby dd4_20) rfl (XT.ii_le_t (by decide)) (by decide) (by decide)) ?_
  show own_G p e below (T922.setTop (mkF m 26 #[rv ob_814, iv 6, rv ob_849, iv 6, iv 10, iv 6, iv 101] [])) _
  refine oS (fun _ => XS.aloadN X924.here hx rfl (hb hby dd4_26) rfl rfl) ?_
  refine oS (fun _ => XS.iloadN X924.here hx rfl (hb hby dd4_27) rfl) ?_
  refine oS (fun _ => XS.iload X924.here hx rfl (hb hby dd4_28) rfl) ?_
  refine oS (fun _ => XT.i2b X924.here hx rfl (hb hby dd4_30) rfl) ?_
  show own_G p e below (T922.setTop (mkF m 31 #[rv ob_814, iv 6, rv ob_849, iv 6, iv 10, iv 6, iv 101] [(.int 101), (.int 6), (.ref ob_849)])) _
  obtain ⟨T933, h934, X935, e936, W937, A938, s939⟩ := own_stB X924 hx hZ e925 F931 (x' := 101) 6 (by decide) rfl (by decide) (by simp) (g := (mkF m 31 #[rv ob_814, iv 6, rv ob_849, iv 6, iv 10, iv 6, iv 101] [(.int 101), (.int 6), (.ref ob_849)])) rfl (rest := []) rfl (hb hby dd4_31)
  have N940 := Fr.snoc X935 N929 I867
  have z941 := W937.size
  have F942 : Arv Z h934 ob_849 kk_847 .byte 10 [(.int 114), (.int 101), (.int 103), (.int 105), (.int 115), (.int 116), (.int 101), (.int 0), (.int 0), (.int 0)] (.int 0) := A938
  refine oS s939 ?_
  show own_G p e below (T933.setTop (mkF m 32 #[rv ob_814, iv 6, rv ob_849, iv 6, iv 10, iv 6, iv 101] [])) _
  refine oS (fun _ => XS.iinc X935.here hx rfl (hb hby dd4_32) rfl (l' := #[rv ob_814, iv 7, rv ob_849, iv 6, iv 10, iv 6, iv 101]) rfl) ?_
  show own_G p e below (T933.setTop (mkF m 35 #[rv ob_814, iv 7, rv ob_849, iv 6, iv 10, iv 6, iv 101] [])) _
  refine oS (fun _ => XS.iinc X935.here hx rfl (hb hby dd4_35) rfl (l' := #[rv ob_814, iv 7, rv ob_849, iv 7, iv 10, iv 6, iv 101]) rfl) ?_
  show own_G p e below (T933.setTop (mkF m 38 #[rv ob_814, iv 7, rv ob_849, iv 7, iv 10, iv 6, iv 101] [])) _
  refine oS (fun _ => XS.iinc X935.here hx rfl (hb hby dd4_38) rfl (l' := #[rv ob_814, iv 7, rv ob_849, iv 7, iv 10, iv 7, iv 101]) rfl) ?_
  show own_G p e below (T933.setTop (mkF m 41 #[rv ob_814, iv 7, rv ob_849, iv 7, iv 10, iv 7, iv 101] [])) _
  refine oS (fun _ => XS.goto X935.here hx rfl (pc0 := 41) (pc' := 3) rfl (hb hby dd4_41) (by decide) (by decide)) ?_
  show own_G p e below (T933.setTop (mkF m 3 #[rv ob_814, iv 7, rv ob_849, iv 7, iv 10, iv 7, iv 101] [])) _
  refine oS (fun _ => XS.iload X935.here hx rfl (hb hby dd4_3) rfl) ?_
  refine oS (fun _ => XS.iload X935.here hx rfl (hb hby dd4_5) rfl) ?_
  refine oS (fun _ => XS.icmpNo X935.here hx rfl (hb hby dd4_7) rfl (XT.ii_ge_f (by decide))) ?_
  show own_G p e below (T933.setTop (mkF m 10 #[rv ob_814, iv 7, rv ob_849, iv 7, iv 10, iv 7, iv 101] [])) _
  refine oS (fun _ => XS.aloadN X935.here hx rfl (hb hby dd4_10) rfl rfl) ?_
  refine oS (fun _ => XS.iloadN X935.here hx rfl (hb hby dd4_11) rfl) ?_
  have F943 : Arv Z h934 ob_814 kk_815 .char 10 [(.int 114), (.int 101), (.int 103), (.int 105), (.int 115), (.int 116), (.int 101), (.int 114), (.int 101), (.int 100)] (.int 0) := F932.other W937 I876
  refine oS (own_caload X935 hx hZ e936 F943 (by decide) (v := (.int 114)) rfl rfl rfl (hb hby dd4_12)) ?_
  show own_G p e below (T933.setTop (mkF m 13 #[rv ob_814, iv 7, rv ob_849, iv 7, iv 10, iv 7, iv 101] [(.int 114)])) _
  refine oS (fun _ => XS.istore X935.here hx rfl (hb hby dd4_13) rfl (l' := #[rv ob_814, iv 7, rv ob_849, iv 7, iv 10, iv 7, iv 114]) rfl) ?_
  refine oS (fun _ => XS.iload X935.here hx rfl (hb hby dd4_15) rfl) ?_
  refine oS (fun _ => XS.sipush X935.here hx rfl (hb hby dd4_17) ) ?_
  refine oS (fun _ => XS.icmpYes X935.here hx rfl (pc0 := 20) (pc' := 26) rfl (hb hby dd4_20) rfl (XT.ii_le_t (by decide)) (by decide) (by decide)) ?_
  show own_G p e below (T933.setTop (mkF m 26 #[rv ob_814, iv 7, rv ob_849, iv 7, iv 10, iv 7, iv 114] [])) _
  refine oS (fun _ => XS.aloadN X935.here hx rfl (hb hby dd4_26) rfl rfl) ?_
  refine oS (fun _ => XS.iloadN X935.here hx rfl (hb hby dd4_27) rfl) ?_
  refine oS (fun _ => XS.iload X935.here hx rfl (hb hby dd4_28) rfl) ?_
  refine oS (fun _ => XT.i2b X935.here hx rfl (hb hby dd4_30) rfl) ?_
  show own_G p e below (T933.setTop (mkF m 31 #[rv ob_814, iv 7, rv ob_849, iv 7, iv 10, iv 7, iv 114] [(.int 114), (.int 7), (.ref ob_849)])) _
  obtain ⟨T944, h945, X946, e947, W948, A949, s950⟩ := own_stB X935 hx hZ e936 F942 (x' := 114) 7 (by decide) rfl (by decide) (by simp) (g := (mkF m 31 #[rv ob_814, iv 7, rv ob_849, iv 7, iv 10, iv 7, iv 114] [(.int 114), (.int 7), (.ref ob_849)])) rfl (rest := []) rfl (hb hby dd4_31)
  have N951 := Fr.snoc X946 N940 I867
  have z952 := W948.size
  have F953 : Arv Z h945 ob_849 kk_847 .byte 10 [(.int 114), (.int 101), (.int 103), (.int 105), (.int 115), (.int 116), (.int 101), (.int 114), (.int 0), (.int 0)] (.int 0) := A949
  refine oS s950 ?_
  show own_G p e below (T944.setTop (mkF m 32 #[rv ob_814, iv 7, rv ob_849, iv 7, iv 10, iv 7, iv 114] [])) _
  refine oS (fun _ => XS.iinc X946.here hx rfl (hb hby dd4_32) rfl (l' := #[rv ob_814, iv 8, rv ob_849, iv 7, iv 10, iv 7, iv 114]) rfl) ?_
  show own_G p e below (T944.setTop (mkF m 35 #[rv ob_814, iv 8, rv ob_849, iv 7, iv 10, iv 7, iv 114] [])) _
  refine oS (fun _ => XS.iinc X946.here hx rfl (hb hby dd4_35) rfl (l' := #[rv ob_814, iv 8, rv ob_849, iv 8, iv 10, iv 7, iv 114]) rfl) ?_
  show own_G p e below (T944.setTop (mkF m 38 #[rv ob_814, iv 8, rv ob_849, iv 8, iv 10, iv 7, iv 114] [])) _
  refine oS (fun _ => XS.iinc X946.here hx rfl (hb hby dd4_38) rfl (l' := #[rv ob_814, iv 8, rv ob_849, iv 8, iv 10, iv 8, iv 114]) rfl) ?_
  show own_G p e below (T944.setTop (mkF m 41 #[rv ob_814, iv 8, rv ob_849, iv 8, iv 10, iv 8, iv 114] [])) _
  refine oS (fun _ => XS.goto X946.here hx rfl (pc0 := 41) (pc' := 3) rfl (hb hby dd4_41) (by decide) (by decide)) ?_
  show own_G p e below (T944.setTop (mkF m 3 #[rv ob_814, iv 8, rv ob_849, iv 8, iv 10, iv 8, iv 114] [])) _
  refine oS (fun _ => XS.iload X946.here hx rfl (hb hby dd4_3) rfl) ?_
  refine oS (fun _ => XS.iload X946.here hx rfl (hb hby dd4_5) rfl) ?_
  refine oS (fun _ => XS.icmpNo X946.here hx rfl (hb hby dd4_7) rfl (XT.ii_ge_f (by decide))) ?_
  show own_G p e below (T944.setTop (mkF m 10 #[rv ob_814, iv 8, rv ob_849, iv 8, iv 10, iv 8, iv 114] [])) _
  refine oS (fun _ => XS.aloadN X946.here hx rfl (hb hby dd4_10) rfl rfl) ?_
  refine oS (fun _ => XS.iloadN X946.here hx rfl (hb hby dd4_11) rfl) ?_
  have F954 : Arv Z h945 ob_814 kk_815 .char 10 [(.int 114), (.int 101), (.int 103), (.int 105), (.int 115), (.int 116), (.int 101), (.int 114), (.int 101), (.int 100)] (.int 0) := F943.other W948 I876
  refine oS (own_caload X946 hx hZ e947 F954 (by decide) (v := (.int 101)) rfl rfl rfl (hb hby dd4_12)) ?_
  show own_G p e below (T944.setTop (mkF m 13 #[rv ob_814, iv 8, rv ob_849, iv 8, iv 10, iv 8, iv 114] [(.int 101)])) _
  refine oS (fun _ => XS.istore X946.here hx rfl (hb hby dd4_13) rfl (l' := #[rv ob_814, iv 8, rv ob_849, iv 8, iv 10, iv 8, iv 101]) rfl) ?_
  refine oS (fun _ => XS.iload X946.here hx rfl (hb hby dd4_15) rfl) ?_
  refine oS (fun _ => XS.sipush X946.here hx rfl (hb hby dd4_17) ) ?_
  refine oS (fun _ => XS.icmpYes X946.here hx rfl (pc0 := 20) (pc' := 26) rfl (hb hby dd4_20) rfl (XT.ii_le_t (by decide)) (by decide) (by decide)) ?_
  show own_G p e below (T944.setTop (mkF m 26 #[rv ob_814, iv 8, rv ob_849, iv 8, iv 10, iv 8, iv 101] [])) _
  refine oS (fun _ => XS.aloadN X946.here hx rfl (hb hby dd4_26) rfl rfl) ?_
  refine oS (fun _ => XS.iloadN X946.here hx rfl (hb hby dd4_27) rfl) ?_
  refine oS (fun _ => XS.iload X946.here hx rfl (hb hby dd4_28) rfl) ?_
  refine oS (fun _ => XT.i2b X946.here hx rfl (hb hby dd4_30) rfl) ?_
  show own_G p e below (T944.setTop (mkF m 31 #[rv ob_814, iv 8, rv ob_849, iv 8, iv 10, iv 8, iv 101] [(.int 101), (.int 8), (.ref ob_849)])) _
  obtain ⟨T955, h956, X957, e958, W959, A960, s961⟩ := own_stB X946 hx hZ e947 F953 (x' := 101) 8 (by decide) rfl (by decide) (by simp) (g := (mkF m 31 #[rv ob_814, iv 8, rv ob_849, iv 8, iv 10, iv 8, iv 101] [(.int 101), (.int 8), (.ref ob_849)])) rfl (rest := []) rfl (hb hby dd4_31)
  have N962 := Fr.snoc X957 N951 I867
  have z963 := W959.size
  have F964 : Arv Z h956 ob_849 kk_847 .byte 10 [(.int 114), (.int 101), (.int 103), (.int 105), (.int 115), (.int 116), (.int 101), (.int 114), (.int 101), (.int 0)] (.int 0) := A960
  refine oS s961 ?_
  show own_G p e below (T955.setTop (mkF m 32 #[rv ob_814, iv 8, rv ob_849, iv 8, iv 10, iv 8, iv 101] [])) _
  refine oS (fun _ => XS.iinc X957.here hx rfl (hb hby dd4_32) rfl (l' := #[rv ob_814, iv 9, rv ob_849, iv 8, iv 10, iv 8, iv 101]) rfl) ?_
  show own_G p e below (T955.setTop (mkF m 35 #[rv ob_814, iv 9, rv ob_849, iv 8, iv 10, iv 8, iv 101] [])) _
  refine oS (fun _ => XS.iinc X957.here hx rfl (hb hby dd4_35) rfl (l' := #[rv ob_814, iv 9, rv ob_849, iv 9, iv 10, iv 8, iv 101]) rfl) ?_
  show own_G p e below (T955.setTop (mkF m 38 #[rv ob_814, iv 9, rv ob_849, iv 9, iv 10, iv 8, iv 101] [])) _
  refine oS (fun _ => XS.iinc X957.here hx rfl (hb hby dd4_38) rfl (l' := #[rv ob_814, iv 9, rv ob_849, iv 9, iv 10, iv 9, iv 101]) rfl) ?_
  show own_G p e below (T955.setTop (mkF m 41 #[rv ob_814, iv 9, rv ob_849, iv 9, iv 10, iv 9, iv 101] [])) _
  refine oS (fun _ => XS.goto X957.here hx rfl (pc0 := 41) (pc' := 3) rfl (hb hby dd4_41) (by decide) (by decide)) ?_
  show own_G p e below (T955.setTop (mkF m 3 #[rv ob_814, iv 9, rv ob_849, iv 9, iv 10, iv 9, iv 101] [])) _
  refine oS (fun _ => XS.iload X957.here hx rfl (hb hby dd4_3) rfl) ?_
  refine oS (fun _ => XS.iload X957.here hx rfl (hb hby dd4_5) rfl) ?_
  refine oS (fun _ => XS.icmpNo X957.here hx rfl (hb hby dd4_7) rfl (XT.ii_ge_f (by decide))) ?_
  show own_G p e below (T955.setTop (mkF m 10 #[rv ob_814, iv 9, rv ob_849, iv 9, iv 10, iv 9, iv 101] [])) _
  refine oS (fun _ => XS.aloadN X957.here hx rfl (hb hby dd4_10) rfl rfl) ?_
  refine oS (fun _ => XS.iloadN X957.here hx rfl (hb hby dd4_11) rfl) ?_
  have F965 : Arv Z h956 ob_814 kk_815 .char 10 [(.int 114), (.int 101), (.int 103), (.int 105), (.int 115), (.int 116), (.int 101), (.int 114), (.int 101), (.int 100)] (.int 0) := F954.other W959 I876
  refine oS (own_caload X957 hx hZ e958 F965 (by decide) (v := (.int 100)) rfl rfl rfl (hb hby dd4_12)) ?_
  show own_G p e below (T955.setTop (mkF m 13 #[rv ob_814, iv 9, rv ob_849, iv 9, iv 10, iv 9, iv 101] [(.int 100)])) _
  refine oS (fun _ => XS.istore X957.here hx rfl (hb hby dd4_13) rfl (l' := #[rv ob_814, iv 9, rv ob_849, iv 9, iv 10, iv 9, iv 100]) rfl) ?_
  refine oS (fun _ => XS.iload X957.here hx rfl (hb hby dd4_15) rfl) ?_
  refine oS (fun _ => XS.sipush X957.here hx rfl (hb hby dd4_17) ) ?_
  refine oS (fun _ => XS.icmpYes X957.here hx rfl (pc0 := 20) (pc' := 26) rfl (hb hby dd4_20) rfl (XT.ii_le_t (by decide)) (by decide) (by decide)) ?_
  show own_G p e below (T955.setTop (mkF m 26 #[rv ob_814, iv 9, rv ob_849, iv 9, iv 10, iv 9, iv 100] [])) _
  refine oS (fun _ => XS.aloadN X957.here hx rfl (hb hby dd4_26) rfl rfl) ?_
  refine oS (fun _ => XS.iloadN X957.here hx rfl (hb hby dd4_27) rfl) ?_
  refine oS (fun _ => XS.iload X957.here hx rfl (hb hby dd4_28) rfl) ?_
  refine oS (fun _ => XT.i2b X957.here hx rfl (hb hby dd4_30) rfl) ?_
  show own_G p e below (T955.setTop (mkF m 31 #[rv ob_814, iv 9, rv ob_849, iv 9, iv 10, iv 9, iv 100] [(.int 100), (.int 9), (.ref ob_849)])) _
  obtain ⟨T966, h967, X968, e969, W970, A971, s972⟩ := own_stB X957 hx hZ e958 F964 (x' := 100) 9 (by decide) rfl (by decide) (by simp) (g := (mkF m 31 #[rv ob_814, iv 9, rv ob_849, iv 9, iv 10, iv 9, iv 100] [(.int 100), (.int 9), (.ref ob_849)])) rfl (rest := []) rfl (hb hby dd4_31)
  have N973 := Fr.snoc X968 N962 I867
  have z974 := W970.size
  have F975 : Arv Z h967 ob_849 kk_847 .byte 10 [(.int 114), (.int 101), (.int 103), (.int 105), (.int 115), (.int 116), (.int 101), (.int 114), (.int 101), (.int 100)] (.int 0) := A971
  refine oS s972 ?_
  show own_G p e below (T966.setTop (mkF m 32 #[rv ob_814, iv 9, rv ob_849, iv 9, iv 10, iv 9, iv 100] [])) _
  refine oS (fun _ => XS.iinc X968.here hx rfl (hb hby dd4_32) rfl (l' := #[rv ob_814, iv 10, rv ob_849, iv 9, iv 10, iv 9, iv 100]) rfl) ?_
  show own_G p e below (T966.setTop (mkF m 35 #[rv ob_814, iv 10, rv ob_849, iv 9, iv 10, iv 9, iv 100] [])) _
  refine oS (fun _ => XS.iinc X968.here hx rfl (hb hby dd4_35) rfl (l' := #[rv ob_814, iv 10, rv ob_849, iv 10, iv 10, iv 9, iv 100]) rfl) ?_
  show own_G p e below (T966.setTop (mkF m 38 #[rv ob_814, iv 10, rv ob_849, iv 10, iv 10, iv 9, iv 100] [])) _
  refine oS (fun _ => XS.iinc X968.here hx rfl (hb hby dd4_38) rfl (l' := #[rv ob_814, iv 10, rv ob_849, iv 10, iv 10, iv 10, iv 100]) rfl) ?_
  show own_G p e below (T966.setTop (mkF m 41 #[rv ob_814, iv 10, rv ob_849, iv 10, iv 10, iv 10, iv 100] [])) _
  refine oS (fun _ => XS.goto X968.here hx rfl (pc0 := 41) (pc' := 3) rfl (hb hby dd4_41) (by decide) (by decide)) ?_
  show own_G p e below (T966.setTop (mkF m 3 #[rv ob_814, iv 10, rv ob_849, iv 10, iv 10, iv 10, iv 100] [])) _
  refine oS (fun _ => XS.iload X968.here hx rfl (hb hby dd4_3) rfl) ?_
  refine oS (fun _ => XS.iload X968.here hx rfl (hb hby dd4_5) rfl) ?_
  refine oS (fun _ => XS.icmpYes X968.here hx rfl (pc0 := 7) (pc' := 44) rfl (hb hby dd4_7) rfl (XT.ii_ge_t (by decide)) (by decide) (by decide)) ?_
  show own_G p e below (T966.setTop (mkF m 44 #[rv ob_814, iv 10, rv ob_849, iv 10, iv 10, iv 10, iv 100] [])) _
  refine oS (fun _ => XS.iload X968.here hx rfl (hb hby dd4_44) rfl) ?_
  have F977 : Exa Z h859 ob_849 "[B" := Exa.wr W862 I976
  have F978 : Exa Z h879 ob_849 "[B" := Exa.wr W882 F977
  have F979 : Exa Z h890 ob_849 "[B" := Exa.wr W893 F978
  have F980 : Exa Z h901 ob_849 "[B" := Exa.wr W904 F979
  have F981 : Exa Z h912 ob_849 "[B" := Exa.wr W915 F980
  have F982 : Exa Z h923 ob_849 "[B" := Exa.wr W926 F981
  have F983 : Exa Z h934 ob_849 "[B" := Exa.wr W937 F982
  have F984 : Exa Z h945 ob_849 "[B" := Exa.wr W948 F983
  have F985 : Exa Z h956 ob_849 "[B" := Exa.wr W959 F984
  have F986 : Exa Z h967 ob_849 "[B" := Exa.wr W970 F985
  have K987 : Keep h0 h967 [ob_849] := (((((((((((Keep.refl h0 [ob_849]).wr W862 (Or.inl (by simp))).wr W882 (Or.inl (by simp))).wr W893 (Or.inl (by simp))).wr W904 (Or.inl (by simp))).wr W915 (Or.inl (by simp))).wr W926 (Or.inl (by simp))).wr W937 (Or.inl (by simp))).wr W948 (Or.inl (by simp))).wr W959 (Or.inl (by simp))).wr W970 (Or.inl (by simp)))
  exact own_retI X968 hx Bd.notSynchronized Bd.returns (hb hby dd4_46) e969 (by decide) (by decide) (⟨rfl, N973, K987, F975, F986⟩)
def own_Q18 (Z : State) (ob_814 : Nat) (kk_815 : ClassId) (h0 : Heap) (n0 : Nat) (v : Option Value) (h : Heap) (L : List Loc) : Prop := (∃ ob_849 : Nat, ∃ kk_847 : ClassId, v = some (.ref ob_849) ∧ Fr n0 L ∧ Keep h0 h [] ∧ h0.size ≤ ob_849 ∧ Arv Z h ob_849 kk_847 .byte 10 [(.int 114), (.int 101), (.int 103), (.int 105), (.int 115), (.int 116), (.int 101), (.int 114), (.int 101), (.int 100)] (.int 0) ∧ Exa Z h ob_849 "[B" ∧ @LT.lt Nat instLTNat ob_849 h.size)
set_option maxRecDepth 65536 in
set_option maxHeartbeats 40000000 in
theorem own_rm18 (l : Launch) (Z : State) (a0 : Array Value) (hw : ∀ d ∈ tables_1, d.before a0 Z = true) (ws : List Jvm.Cond) (ob_814 : Nat) (kk_815 : ClassId) (h0 : Heap) (n0 : Nat) (Z0 : n0 ≤ h0.size) (O0 : Old Z n0 h0) (I854 : Arv Z h0 ob_814 kk_815 .char 10 [(.int 114), (.int 101), (.int 103), (.int 105), (.int 115), (.int 116), (.int 101), (.int 114), (.int 101), (.int 100)] (.int 0)) (I874 : @LT.lt Nat instLTNat ob_814 h0.size) :
    own_Met l Z h0 (⟨"java/lang/StringUTF16", "compress", "([CII)[B"⟩ : MethodName) jdk_52_method_16_code 6 (Option.some (FieldType.array FieldType.byte)) ws ({ frames := 1, cells := 1, slots := 10, locals := 18 } : Room) #[(.ref ob_814), (.int 0), (.int 10)] (own_Q18 Z ob_814 kk_815 h0 n0) 1 10 := by
  refine MetFree.of_bodySF own_pn2 hisR ?_
  intro p e s m args below meth c s₁ Bd hml0 hP hK
  obtain ⟨rfl, hZ, hh⟩ := hP
  have hx := Bd.exec
  have hby := Bd.bytes
  have hml : c.maxLocals = 6 := hml0
  have hown : s.vm.findClass "java/lang/StringUTF16" = some m.cls := findClass_of_methodNamed Bd.named
  have hnm := (name_of_methodNamed Bd.named Bd.method).1
  have X0 : Stand p l e ({ frames := 1, cells := 1, slots := 10, locals := 18 } : Room) s m #[(.ref ob_814), (.int 0), (.int 10)] below meth c s₁ [] 0 0 := Stand.of_body Bd
  have e0 : s₁.heap = h0 := by rw [← hh, Bd.state]; rfl
  have N0 := Fr.nil n0
  show own_G p e below (s₁.setTop (entryFrame m #[(.ref ob_814), (.int 0), (.int 10)] 6)) (own_P s (own_Q18 Z ob_814 kk_815 h0 n0) 1 10)
  refine own_cast (own_ef4 m ob_814 0 10) ?_
  show own_G p e below (s₁.setTop (mkF m 0 #[rv ob_814, iv 0, iv 10, .unset, .unset, .unset] [])) _
  refine oS (fun _ => XS.iloadN X0.here hx rfl (hb hby dd3_0) rfl) ?_
  obtain ⟨T838, h839, kk_847, X841, e842, E843, A844, B848, s845⟩ := own_newP X0 hx hZ (aty := .byte) (oW hw 27 rfl) e0 (nm := "[B") rfl (g := (mkF m 1 #[rv ob_814, iv 0, iv 10, .unset, .unset, .unset] [(.int 10)])) rfl (hb hby dd3_1) (n := 10) (rest := []) rfl (by decide) (cap := 10) (by decide) (by decide) (by decide) (by decide)
  obtain ⟨ob_849, g850⟩ : ∃ z, z = h0.size := ⟨_, rfl⟩
  rw [← g850] at A844 B848 s845
  have F851 : Arv Z h839 ob_849 kk_847 .byte 10 [(.int 0), (.int 0), (.int 0), (.int 0), (.int 0), (.int 0), (.int 0), (.int 0), (.int 0), (.int 0)] (.int 0) := own_newA A844 (by decide) rfl rfl
  have z852 := E843.1
  have y846 : @LT.lt Nat instLTNat ob_849 h839.size := F851.lt
  refine oS s845 ?_
  show own_G p e below (T838.setTop (mkF m 3 #[rv ob_814, iv 0, iv 10, .unset, .unset, .unset] [(.ref ob_849)])) _
  refine oS (fun _ => XS.astoreN X841.here hx rfl (hb hby dd3_3) rfl rfl (l' := #[rv ob_814, iv 0, iv 10, rv ob_849, .unset, .unset]) rfl) ?_
  refine oS (fun _ => XS.aloadN X841.here hx rfl (hb hby dd3_4) rfl rfl) ?_
  refine oS (fun _ => XS.iloadN X841.here hx rfl (hb hby dd3_5) rfl) ?_
  refine oS (fun _ => XS.aloadN X841.here hx rfl (hb hby dd3_6) rfl rfl) ?_
  show own_G p e below (T838.setTop (mkF m 7 #[rv ob_814, iv 0, iv 10, rv ob_849, .unset, .unset] [(.ref ob_849), (.int 0), (.ref ob_814)])) _
  refine oS (fun _ => XS.iconst X841.here hx rfl (hb hby dd3_7) ) ?_
  refine oS (fun _ => XS.iloadN X841.here hx rfl (hb hby dd3_8) rfl) ?_
  have F855 : Arv Z h839 ob_814 kk_815 .char 10 [(.int 114), (.int 101), (.int 103), (.int 105), (.int 115), (.int 116), (.int 101), (.int 114), (.int 101), (.int 100)] (.int 0) := I854.ext E843
  have N866 : n0 ≤ ob_849 := by omega
  have N875 : @Ne Nat ob_814 ob_849 := by omega
  have O988 : Old Z n0 h839 := O0.ext E843
  have Z989 : n0 ≤ h839.size := by omega
  obtain ⟨T990, h991, v992, L993, X994, e995, q996, s997⟩ := own_callS X841 hx hZ hown e842 (y := (⟨"java/lang/StringUTF16", "compress", "([CI[BII)I"⟩ : MethodName)) (oW hw 28 rfl) (oW hw 29 rfl) (oW hw 25 rfl) (oW hw 30 rfl) (by decide) (W := 0) (own_rm19 l Z a0 hw [] ob_814 ob_849 kk_815 kk_847 h839 n0 Z989 O988 F855 F851 N866 N875 B848) (by decide) (by decide) (by decide) (by decide) (g := (mkF m 9 #[rv ob_814, iv 0, iv 10, rv ob_849, .unset, .unset] [(.int 10), (.int 0), (.ref ob_849), (.int 0), (.ref ob_814)])) rfl (by rw [hml]; rfl) (argsL := [(.ref ob_814), (.int 0), (.ref ob_849), (.int 0), (.int 10)]) (rest := []) rfl (lenOf own_pd1 rfl) rfl (by show 2 * 0 + _ ≤ _; exact Nat.le_of_eq rfl) (hb hby dd3_9)
  refine oS s997 ?_
  obtain ⟨rfl, N998, K999, F1000, F1001⟩ := q996
  have N1002 := Fr.app N0 N998
  have z1003 := K999.1
  show own_G p e below (T990.setTop (mkF m 12 #[rv ob_814, iv 0, iv 10, rv ob_849, .unset, .unset] [(.int 10)])) _
  refine oS (fun _ => XS.istore X994.here hx rfl (hb hby dd3_12) rfl (l' := #[rv ob_814, iv 0, iv 10, rv ob_849, iv 10, .unset]) rfl) ?_
  refine oS (fun _ => XS.iload X994.here hx rfl (hb hby dd3_14) rfl) ?_
  refine oS (fun _ => XS.iloadN X994.here hx rfl (hb hby dd3_16) rfl) ?_
  refine oS (fun _ => XS.icmpYes X994.here hx rfl (pc0 := 17) (pc' := 57) rfl (hb hby dd3_17) rfl (XT.ii_eq_t (by decide)) (by decide) (by decide)) ?_
  show own_G p e below (T990.setTop (mkF m 57 #[rv ob_814, iv 0, iv 10, rv ob_849, iv 10, .unset] [])) _
  refine oS (fun _ => XS.aloadN X994.here hx rfl (hb hby dd3_57) rfl rfl) ?_
  have y1004 : @LT.lt Nat instLTNat ob_849 h991.size := by omega
  have K1005 : Keep h0 h991 [] := (((Keep.refl h0 []).ext E843).trans K999 (allS (Or.inr (by omega)) all0))
  exact own_retA X994 hx Bd.notSynchronized Bd.returns rfl rfl (hb hby dd3_58) e995 (by decide) (by decide) (⟨ob_849, kk_847, rfl, N1002, K1005, (by omega), F1000, F1001, y1004⟩)
def own_Q20 (Z : State) (ob_1014 : Nat) (kk_1015 : ClassId) (h0 : Heap) (n0 : Nat) (v : Option Value) (h : Heap) (L : List Loc) : Prop := (v = some (.int 0) ∧ Fr n0 L ∧ h = h0)
set_option maxRecDepth 65536 in
set_option maxHeartbeats 40000000 in
theorem own_rm20 (l : Launch) (Z : State) (a0 : Array Value) (hw : ∀ d ∈ tables_1, d.before a0 Z = true) (ws : List Jvm.Cond) (ob_1014 : Nat) (kk_1015 : ClassId) (h0 : Heap) (n0 : Nat) (Z0 : n0 ≤ h0.size) (O0 : Old Z n0 h0) (I1024 : Arv Z h0 ob_1014 kk_1015 .byte 10 [(.int 114), (.int 101), (.int 103), (.int 105), (.int 115), (.int 116), (.int 101), (.int 114), (.int 101), (.int 100)] (.int 0)) :
    own_Met l Z h0 (⟨"java/lang/StringUTF16", "coderFromArrayLen", "([BI)B"⟩ : MethodName) jdk_52_method_15_code 2 (Option.some FieldType.byte) ws ({ frames := 0, cells := 0, slots := 0, locals := 0 } : Room) #[(.ref ob_1014), (.int 10)] (own_Q20 Z ob_1014 kk_1015 h0 n0) 0 0 := by
  refine MetFree.of_bodySF own_pn3 hisR ?_
  intro p e s m args below meth c s₁ Bd hml0 hP hK
  obtain ⟨rfl, hZ, hh⟩ := hP
  have hx := Bd.exec
  have hby := Bd.bytes
  have hml : c.maxLocals = 2 := hml0
  have hown : s.vm.findClass "java/lang/StringUTF16" = some m.cls := findClass_of_methodNamed Bd.named
  have hnm := (name_of_methodNamed Bd.named Bd.method).1
  have X0 : Stand p l e ({ frames := 0, cells := 0, slots := 0, locals := 0 } : Room) s m #[(.ref ob_1014), (.int 10)] below meth c s₁ [] 0 0 := Stand.of_body Bd
  have e0 : s₁.heap = h0 := by rw [← hh, Bd.state]; rfl
  have N0 := Fr.nil n0
  show own_G p e below (s₁.setTop (entryFrame m #[(.ref ob_1014), (.int 10)] 2)) (own_P s (own_Q20 Z ob_1014 kk_1015 h0 n0) 0 0)
  refine own_cast (own_ef6 m ob_1014 10) ?_
  show own_G p e below (s₁.setTop (mkF m 0 #[rv ob_1014, iv 10] [])) _
  refine oS (fun _ => XS.iloadN X0.here hx rfl (hb hby dd5_0) rfl) ?_
  refine oS (fun _ => XS.aloadN X0.here hx rfl (hb hby dd5_1) rfl rfl) ?_
  refine oS (own_len X0 hx hZ e0 I1024 rfl rfl (hb hby dd5_2)) ?_
  show own_G p e below (s₁.setTop (mkF m 3 #[rv ob_1014, iv 10] [(.int 10), (.int 10)])) _
  refine oS (fun _ => XS.isub X0.here hx rfl (hb hby dd5_3) rfl) ?_
  refine oS (fun _ => XS.bipush X0.here hx rfl (hb hby dd5_4) ) ?_
  refine oS (fun _ => XT.iushr X0.here hx rfl (hb hby dd5_6) rfl) ?_
  refine oS (fun _ => XT.i2b X0.here hx rfl (hb hby dd5_7) rfl) ?_
  show own_G p e below (s₁.setTop (mkF m 8 #[rv ob_1014, iv 10] [(.int 0)])) _
  exact own_retN X0 hx (t := .byte) Bd.notSynchronized Bd.returns (by simp) (hb hby dd5_8) (by decide) e0 (by decide) (by decide) (⟨rfl, N0, rfl⟩)
def own_Q17 (Z : State) (ob_671 : Nat) (ob_814 : Nat) (in_2 : Int32) (kk_815 : ClassId) (h0 : Heap) (n0 : Nat) (v : Option Value) (h : Heap) (L : List Loc) : Prop := (∃ ob_1014 : Nat, ∃ kk_1015 : ClassId, v = none ∧ Fr n0 L ∧ Keep h0 h [ob_671] ∧ h0.size ≤ ob_1014 ∧ Fld Z h ob_671 "java/lang/String" "coder" "B" (.int 0) ∧ Exa Z h ob_671 "java/lang/String" ∧ Fld Z h ob_671 "java/lang/String" "value" "[B" (.ref ob_1014) ∧ Arv Z h ob_1014 kk_1015 .byte 10 [(.int 114), (.int 101), (.int 103), (.int 105), (.int 115), (.int 116), (.int 101), (.int 114), (.int 101), (.int 100)] (.int 0) ∧ Exa Z h ob_1014 "[B" ∧ @LT.lt Nat instLTNat ob_1014 h.size)
set_option maxRecDepth 65536 in
set_option maxHeartbeats 40000000 in
theorem own_rm17 (l : Launch) (Z : State) (a0 : Array Value) (hw : ∀ d ∈ tables_1, d.before a0 Z = true) (ws : List Jvm.Cond) (ob_671 : Nat) (ob_814 : Nat) (in_2 : Int32) (kk_815 : ClassId) (h0 : Heap) (n0 : Nat) (Z0 : n0 ≤ h0.size) (O0 : Old Z n0 h0) (I830 : Sta Z Z.heap "java/lang/String" "COMPACT_STRINGS" "Z" (.int in_2)) (I837 : ¬ (in_2 = 0)) (I853 : Arv Z h0 ob_814 kk_815 .char 10 [(.int 114), (.int 101), (.int 103), (.int 105), (.int 115), (.int 116), (.int 101), (.int 114), (.int 101), (.int 100)] (.int 0)) (I872 : @LT.lt Nat instLTNat ob_814 h0.size) (I1041 : Fld Z h0 ob_671 "java/lang/String" "coder" "B" (.int 0)) (I1045 : Exa Z h0 ob_671 "java/lang/String") (I1056 : n0 ≤ ob_671) (I1061 : Fld Z h0 ob_671 "java/lang/String" "value" "[B" .null) (I1079 : @LT.lt Nat instLTNat ob_671 h0.size) :
    own_Met l Z h0 (⟨"java/lang/String", "<init>", "([CIILjava/lang/Void;)V"⟩ : MethodName) jdk_42_method_149_code 6 (Option.none : Option FieldType) ws ({ frames := 2, cells := 1, slots := 10, locals := 35 } : Room) #[(.ref ob_671), (.ref ob_814), (.int 0), (.int 10), .null] (own_Q17 Z ob_671 ob_814 in_2 kk_815 h0 n0) 1 10 := by
  refine MetFree.of_bodySF own_pn4 hisR ?_
  intro p e s m args below meth c s₁ Bd hml0 hP hK
  obtain ⟨rfl, hZ, hh⟩ := hP
  have hx := Bd.exec
  have hby := Bd.bytes
  have hml : c.maxLocals = 6 := hml0
  have hown : s.vm.findClass "java/lang/String" = some m.cls := findClass_of_methodNamed Bd.named
  have hnm := (name_of_methodNamed Bd.named Bd.method).1
  have X0 : Stand p l e ({ frames := 2, cells := 1, slots := 10, locals := 35 } : Room) s m #[(.ref ob_671), (.ref ob_814), (.int 0), (.int 10), .null] below meth c s₁ [] 0 0 := Stand.of_body Bd
  have e0 : s₁.heap = h0 := by rw [← hh, Bd.state]; rfl
  have N0 := Fr.nil n0
  show own_G p e below (s₁.setTop (entryFrame m #[(.ref ob_671), (.ref ob_814), (.int 0), (.int 10), .null] 6)) (own_P s (own_Q17 Z ob_671 ob_814 in_2 kk_815 h0 n0) 1 10)
  refine own_cast (own_ef3 m ob_671 ob_814 0 10) ?_
  show own_G p e below (s₁.setTop (mkF m 0 #[rv ob_671, rv ob_814, iv 0, iv 10, .val .null, .unset] [])) _
  refine oS (fun _ => XS.aloadN X0.here hx rfl (hb hby dd2_0) rfl rfl) ?_
  obtain ⟨T825, X826, e827, s828⟩ := initO X0 hx hZ hown (oW hw 19 rfl) (oW hw 20 rfl) (oW hw 21 rfl) e0 (g := (mkF m 1 #[rv ob_671, rv ob_814, iv 0, iv 10, .val .null, .unset] [(.ref ob_671)])) rfl (by rw [hml]; rfl) rfl (hb hby dd2_1) (by decide) (W := 0) (by show 2 * 0 + _ ≤ _; exact Nat.le_of_eq rfl) (by decide)
  refine oS s828 ?_
  show own_G p e below (T825.setTop (mkF m 4 #[rv ob_671, rv ob_814, iv 0, iv 10, .val .null, .unset] [])) _
  refine oS (fun _ => XS.iloadN X826.here hx rfl (hb hby dd2_4) rfl) ?_
  refine oS (fun _ => XS.ifYes X826.here hx rfl (pc0 := 5) (pc' := 27) rfl (hb hby dd2_5) rfl (XT.i0_ne_t (by decide)) (by decide) (by decide)) ?_
  show own_G p e below (T825.setTop (mkF m 27 #[rv ob_671, rv ob_814, iv 0, iv 10, .val .null, .unset] [])) _
  have F831 : Sta Z h0 "java/lang/String" "COMPACT_STRINGS" "Z" (.int in_2) := Sta.ext O0.2 I830
  obtain ⟨T832, X833, e834, s835⟩ := getS X826 hx hZ hown (host := "") (oW hw 22 rfl) Via.refl e827 F831 (g := (mkF m 27 #[rv ob_671, rv ob_814, iv 0, iv 10, .val .null, .unset] [])) rfl (hb hby dd2_27)
  refine oS s835 ?_
  show own_G p e below (T832.setTop (mkF m 30 #[rv ob_671, rv ob_814, iv 0, iv 10, .val .null, .unset] [(.int in_2)])) _
  refine oS (fun _ => XS.ifNo X833.here hx rfl (hb hby dd2_30) rfl (XT.i0_eq_f I837)) ?_
  show own_G p e below (T832.setTop (mkF m 33 #[rv ob_671, rv ob_814, iv 0, iv 10, .val .null, .unset] [])) _
  refine oS (fun _ => XS.aloadN X833.here hx rfl (hb hby dd2_33) rfl rfl) ?_
  refine oS (fun _ => XS.iloadN X833.here hx rfl (hb hby dd2_34) rfl) ?_
  refine oS (fun _ => XS.iloadN X833.here hx rfl (hb hby dd2_35) rfl) ?_
  have y873 : @LT.lt Nat instLTNat ob_814 h0.size := by omega
  obtain ⟨T1006, h1007, v1008, L1009, X1010, e1011, q1012, s1013⟩ := own_callS X833 hx hZ hown e834 (y := (⟨"java/lang/StringUTF16", "compress", "([CII)[B"⟩ : MethodName)) (oW hw 23 rfl) (oW hw 24 rfl) (oW hw 25 rfl) (oW hw 26 rfl) (by decide) (W := 0) (own_rm18 l Z a0 hw [] ob_814 kk_815 h0 n0 Z0 O0 I853 y873) (by decide) (by decide) (by decide) (by decide) (g := (mkF m 36 #[rv ob_671, rv ob_814, iv 0, iv 10, .val .null, .unset] [(.int 10), (.int 0), (.ref ob_814)])) rfl (by rw [hml]; rfl) (argsL := [(.ref ob_814), (.int 0), (.int 10)]) (rest := []) rfl (lenOf own_pd2 rfl) rfl (by show 2 * 0 + _ ≤ _; exact Nat.le_of_eq rfl) (hb hby dd2_36)
  refine oS s1013 ?_
  obtain ⟨ob_1014, kk_1015, rfl, N1016, K1017, F1018, F1019, F1020, F1021⟩ := q1012
  have N1022 := Fr.app N0 N1016
  have z1023 := K1017.1
  show own_G p e below (T1006.setTop (mkF m 39 #[rv ob_671, rv ob_814, iv 0, iv 10, .val .null, .unset] [(.ref ob_1014)])) _
  refine oS (fun _ => XS.astore X1010.here hx rfl (hb hby dd2_39) rfl rfl (l' := #[rv ob_671, rv ob_814, iv 0, iv 10, .val .null, rv ob_1014]) rfl) ?_
  refine oS (fun _ => XS.aloadN X1010.here hx rfl (hb hby dd2_41) rfl rfl) ?_
  refine oS (fun _ => XS.aload X1010.here hx rfl (hb hby dd2_42) rfl rfl) ?_
  refine oS (fun _ => XS.iloadN X1010.here hx rfl (hb hby dd2_44) rfl) ?_
  show own_G p e below (T1006.setTop (mkF m 45 #[rv ob_671, rv ob_814, iv 0, iv 10, .val .null, rv ob_1014] [(.int 10), (.ref ob_1014), (.ref ob_671)])) _
  have O1025 : Old Z n0 h1007 := O0.keep K1017 all0
  have Z1026 : n0 ≤ h1007.size := by omega
  obtain ⟨T1027, h1028, v1029, L1030, X1031, e1032, q1033, s1034⟩ := own_callS X1010 hx hZ hown e1011 (y := (⟨"java/lang/StringUTF16", "coderFromArrayLen", "([BI)B"⟩ : MethodName)) (oW hw 31 rfl) (oW hw 32 rfl) (oW hw 25 rfl) (oW hw 33 rfl) (by decide) (W := 1) (own_rm20 l Z a0 hw [] ob_1014 kk_1015 h1007 n0 Z1026 O1025 F1019) (by decide) (by decide) (by decide) (by decide) (g := (mkF m 45 #[rv ob_671, rv ob_814, iv 0, iv 10, .val .null, rv ob_1014] [(.int 10), (.ref ob_1014), (.ref ob_671)])) rfl (by rw [hml]; rfl) (argsL := [(.ref ob_1014), (.int 10)]) (rest := [(.ref ob_671)]) rfl (lenOf own_pd3 rfl) rfl (by show 2 * 0 + _ ≤ _; exact Nat.le_of_eq rfl) (hb hby dd2_45)
  refine oS s1034 ?_
  obtain ⟨rfl, N1035, K1036⟩ := q1033
  have N1037 := Fr.app N1022 N1035
  have e1038 := e1032.trans K1036
  show own_G p e below (T1027.setTop (mkF m 48 #[rv ob_671, rv ob_814, iv 0, iv 10, .val .null, rv ob_1014] [(.int 0), (.ref ob_671)])) _
  have F1042 : Fld Z h1007 ob_671 "java/lang/String" "coder" "B" (.int 0) := I1041.keep K1017 nin0
  have F1046 : Exa Z h1007 ob_671 "java/lang/String" := I1045.keep K1017
  obtain ⟨T1047, h1048, X1049, e1050, W1051, s1052⟩ := putF X1031 hx hZ hown (host := "") (Or.inl (oW hw 34 rfl)) Via.refl e1038 F1042 F1046 (Or.inr ⟨(oW hw 35 rfl), rfl, hnm⟩) (oW hw 5 rfl) (ty := .byte) (by decide) (by decide) (by decide) (g := (mkF m 48 #[rv ob_671, rv ob_814, iv 0, iv 10, .val .null, rv ob_1014] [(.int 0), (.ref ob_671)])) rfl rfl (hb hby dd2_48)
  have N1053 := Fr.snoc X1049 N1037 I1056
  have z1057 := W1051.size
  have F1058 : Fld Z h1048 ob_671 "java/lang/String" "coder" "B" (.int 0) := Fld.same W1051 F1042
  refine oS s1052 ?_
  show own_G p e below (T1047.setTop (mkF m 51 #[rv ob_671, rv ob_814, iv 0, iv 10, .val .null, rv ob_1014] [])) _
  refine oS (fun _ => XS.aloadN X1049.here hx rfl (hb hby dd2_51) rfl rfl) ?_
  refine oS (fun _ => XS.aload X1049.here hx rfl (hb hby dd2_52) rfl rfl) ?_
  have F1062 : Fld Z h1007 ob_671 "java/lang/String" "value" "[B" .null := I1061.keep K1017 nin0
  have F1063 : Fld Z h1048 ob_671 "java/lang/String" "value" "[B" .null := Fld.other W1051 F1062 (Or.inr (slot_ne (C := "java/lang/String") (Or.inr (oW hw 37 rfl)) (Or.inr (oW hw 35 rfl)) (by decide) (t := (.array .byte)) (t' := .byte) (by decide) (by decide)))
  have F1064 : Exa Z h1048 ob_671 "java/lang/String" := Exa.wr W1051 F1046
  obtain ⟨T1065, h1066, X1067, e1068, W1069, s1070⟩ := putF X1049 hx hZ hown (host := "") (Or.inl (oW hw 36 rfl)) Via.refl e1050 F1063 F1064 (Or.inr ⟨(oW hw 37 rfl), rfl, hnm⟩) (oW hw 5 rfl) (ty := (.array .byte)) (by decide) rfl rfl (g := (mkF m 54 #[rv ob_671, rv ob_814, iv 0, iv 10, .val .null, rv ob_1014] [(.ref ob_1014), (.ref ob_671)])) rfl rfl (hb hby dd2_54)
  have N1071 := Fr.snoc X1067 N1053 I1056
  have z1072 := W1069.size
  have F1073 : Fld Z h1066 ob_671 "java/lang/String" "value" "[B" (.ref ob_1014) := Fld.same W1069 F1063
  refine oS s1070 ?_
  show own_G p e below (T1065.setTop (mkF m 57 #[rv ob_671, rv ob_814, iv 0, iv 10, .val .null, rv ob_1014] [])) _
  have F1074 : Fld Z h1066 ob_671 "java/lang/String" "coder" "B" (.int 0) := Fld.other W1069 F1058 (Or.inr (slot_ne (C := "java/lang/String") (Or.inr (oW hw 35 rfl)) (Or.inr (oW hw 37 rfl)) (by decide) (t := .byte) (t' := (.array .byte)) (by decide) (by decide)))
  have F1075 : Exa Z h1066 ob_671 "java/lang/String" := Exa.wr W1069 F1064
  have N1080 : @Ne Nat ob_1014 ob_671 := by omega
  have F1081 : Arv Z h1048 ob_1014 kk_1015 .byte 10 [(.int 114), (.int 101), (.int 103), (.int 105), (.int 115), (.int 116), (.int 101), (.int 114), (.int 101), (.int 100)] (.int 0) := F1019.other W1051 N1080
  have F1082 : Arv Z h1066 ob_1014 kk_1015 .byte 10 [(.int 114), (.int 101), (.int 103), (.int 105), (.int 115), (.int 116), (.int 101), (.int 114), (.int 101), (.int 100)] (.int 0) := F1081.other W1069 N1080
  have F1083 : Exa Z h1048 ob_1014 "[B" := Exa.wr W1051 F1020
  have F1084 : Exa Z h1066 ob_1014 "[B" := Exa.wr W1069 F1083
  have y1085 : @LT.lt Nat instLTNat ob_1014 h1066.size := by omega
  have K1086 : Keep h0 h1066 [ob_671] := ((((Keep.refl h0 [ob_671]).trans K1017 all0).wr W1051 (Or.inl (by simp))).wr W1069 (Or.inl (by simp)))
  exact own_retV X1067 hx Bd.notSynchronized Bd.returns (hb hby dd2_57) e1068 (by decide) (by decide) (⟨ob_1014, kk_1015, rfl, N1071, K1086, (by omega), F1074, F1075, F1073, F1082, F1084, y1085⟩)
def own_Q16 (Z : State) (ob_671 : Nat) (ob_814 : Nat) (kk_815 : ClassId) (in_2 : Int32) (h0 : Heap) (n0 : Nat) (v : Option Value) (h : Heap) (L : List Loc) : Prop := (∃ ob_1095 : Nat, ∃ kk_1096 : ClassId, v = none ∧ Fr n0 L ∧ Keep h0 h [ob_671] ∧ h0.size ≤ ob_1095 ∧ Fld Z h ob_671 "java/lang/String" "coder" "B" (.int 0) ∧ Exa Z h ob_671 "java/lang/String" ∧ Fld Z h ob_671 "java/lang/String" "value" "[B" (.ref ob_1095) ∧ Arv Z h ob_1095 kk_1096 .byte 10 [(.int 114), (.int 101), (.int 103), (.int 105), (.int 115), (.int 116), (.int 101), (.int 114), (.int 101), (.int 100)] (.int 0) ∧ Exa Z h ob_1095 "[B" ∧ @LT.lt Nat instLTNat ob_1095 h.size)
set_option maxRecDepth 65536 in
set_option maxHeartbeats 40000000 in
theorem own_rm16 (l : Launch) (Z : State) (a0 : Array Value) (hw : ∀ d ∈ tables_1, d.before a0 Z = true) (ws : List Jvm.Cond) (ob_671 : Nat) (ob_814 : Nat) (kk_815 : ClassId) (in_2 : Int32) (h0 : Heap) (n0 : Nat) (Z0 : n0 ≤ h0.size) (O0 : Old Z n0 h0) (I824 : Arv Z h0 ob_814 kk_815 .char 10 [(.int 114), (.int 101), (.int 103), (.int 105), (.int 115), (.int 116), (.int 101), (.int 114), (.int 101), (.int 100)] (.int 0)) (I829 : Sta Z Z.heap "java/lang/String" "COMPACT_STRINGS" "Z" (.int in_2)) (I836 : ¬ (in_2 = 0)) (I870 : @LT.lt Nat instLTNat ob_814 h0.size) (I1040 : Fld Z h0 ob_671 "java/lang/String" "coder" "B" (.int 0)) (I1044 : Exa Z h0 ob_671 "java/lang/String") (I1055 : n0 ≤ ob_671) (I1060 : Fld Z h0 ob_671 "java/lang/String" "value" "[B" .null) (I1077 : @LT.lt Nat instLTNat ob_671 h0.size) :
    own_Met l Z h0 (⟨"java/lang/String", "<init>", "([C)V"⟩ : MethodName) jdk_42_method_3_code 2 (Option.none : Option FieldType) ws ({ frames := 3, cells := 1, slots := 10, locals := 52 } : Room) #[(.ref ob_671), (.ref ob_814)] (own_Q16 Z ob_671 ob_814 kk_815 in_2 h0 n0) 1 10 := by
  refine MetFree.of_bodySF own_pn5 hisR ?_
  intro p e s m args below meth c s₁ Bd hml0 hP hK
  obtain ⟨rfl, hZ, hh⟩ := hP
  have hx := Bd.exec
  have hby := Bd.bytes
  have hml : c.maxLocals = 2 := hml0
  have hown : s.vm.findClass "java/lang/String" = some m.cls := findClass_of_methodNamed Bd.named
  have hnm := (name_of_methodNamed Bd.named Bd.method).1
  have X0 : Stand p l e ({ frames := 3, cells := 1, slots := 10, locals := 52 } : Room) s m #[(.ref ob_671), (.ref ob_814)] below meth c s₁ [] 0 0 := Stand.of_body Bd
  have e0 : s₁.heap = h0 := by rw [← hh, Bd.state]; rfl
  have N0 := Fr.nil n0
  show own_G p e below (s₁.setTop (entryFrame m #[(.ref ob_671), (.ref ob_814)] 2)) (own_P s (own_Q16 Z ob_671 ob_814 kk_815 in_2 h0 n0) 1 10)
  refine own_cast (own_ef2 m ob_671 ob_814) ?_
  show own_G p e below (s₁.setTop (mkF m 0 #[rv ob_671, rv ob_814] [])) _
  refine oS (fun _ => XS.aloadN X0.here hx rfl (hb hby dd1_0) rfl rfl) ?_
  refine oS (fun _ => XS.aloadN X0.here hx rfl (hb hby dd1_1) rfl rfl) ?_
  refine oS (fun _ => XS.iconst X0.here hx rfl (hb hby dd1_2) ) ?_
  refine oS (fun _ => XS.aloadN X0.here hx rfl (hb hby dd1_3) rfl rfl) ?_
  show own_G p e below (s₁.setTop (mkF m 4 #[rv ob_671, rv ob_814] [(.ref ob_814), (.int 0), (.ref ob_814), (.ref ob_671)])) _
  refine oS (own_len X0 hx hZ e0 I824 rfl rfl (hb hby dd1_4)) ?_
  show own_G p e below (s₁.setTop (mkF m 5 #[rv ob_671, rv ob_814] [(.int 10), (.int 0), (.ref ob_814), (.ref ob_671)])) _
  refine oS (fun _ => XS.aconstNull X0.here hx rfl (hb hby dd1_5) ) ?_
  have y871 : @LT.lt Nat instLTNat ob_814 h0.size := by omega
  have y1078 : @LT.lt Nat instLTNat ob_671 h0.size := by omega
  obtain ⟨T1087, h1088, v1089, L1090, X1091, e1092, q1093, s1094⟩ := own_callN X0 hx hZ hown e0 (y := (⟨"java/lang/String", "<init>", "([CIILjava/lang/Void;)V"⟩ : MethodName)) (b := ob_671) rfl (oW hw 15 rfl) (oW hw 16 rfl) (oW hw 6 rfl) (oW hw 18 rfl) (by decide) (W := 0) (own_rm17 l Z a0 hw [] ob_671 ob_814 in_2 kk_815 h0 n0 Z0 O0 I829 I836 I824 y871 I1040 I1044 I1055 I1060 y1078) (by decide) (by decide) (by decide) (by decide) (g := (mkF m 6 #[rv ob_671, rv ob_814] [.null, (.int 10), (.int 0), (.ref ob_814), (.ref ob_671)])) rfl (by rw [hml]; rfl) (argsL := [(.ref ob_814), (.int 0), (.int 10), .null]) (rest := []) rfl (lenOf own_pd4 rfl) rfl (by show 2 * 0 + _ ≤ _; exact Nat.le_of_eq rfl) (hb hby dd1_6)
  refine oS s1094 ?_
  obtain ⟨ob_1095, kk_1096, rfl, N1097, K1098, F1099, F1100, F1101, F1102, F1103, F1104, F1105⟩ := q1093
  have N1106 := Fr.app N0 N1097
  have z1107 := K1098.1
  show own_G p e below (T1087.setTop (mkF m 9 #[rv ob_671, rv ob_814] [])) _
  have y1108 : @LT.lt Nat instLTNat ob_1095 h1088.size := by omega
  have K1109 : Keep h0 h1088 [ob_671] := ((Keep.refl h0 [ob_671]).trans K1098 (allS (Or.inl (by simp)) all0))
  exact own_retV X1091 hx Bd.notSynchronized Bd.returns (hb hby dd1_9) e1092 (by decide) (by decide) (⟨ob_1095, kk_1096, rfl, N1106, K1109, (by omega), F1100, F1101, F1102, F1103, F1104, y1108⟩)
theorem dd9_34 : decode jdk_43_method_13_code 34 = .ok (.iconst 0, 1) := by decide +kernel
theorem dd9_35 : decode jdk_43_method_13_code 35 = .ok (.ireturn, 1) := by decide +kernel
def own_Q23 (Z : State) (ob_9 : Nat) (ob_1120 : Nat) (kk_10 : ClassId) (kk_1121 : ClassId) (h0 : Heap) (n0 : Nat) (v : Option Value) (h : Heap) (L : List Loc) : Prop := (v = some (.int 0) ∧ Fr n0 L ∧ h = h0)
set_option maxRecDepth 65536 in
set_option maxHeartbeats 40000000 in
theorem own_rm23 (l : Launch) (Z : State) (a0 : Array Value) (hw : ∀ d ∈ tables_1, d.before a0 Z = true) (ws : List Jvm.Cond) (ob_9 : Nat) (ob_1120 : Nat) (kk_10 : ClassId) (kk_1121 : ClassId) (h0 : Heap) (n0 : Nat) (Z0 : n0 ≤ h0.size) (O0 : Old Z n0 h0) (I1222 : Arv Z Z.heap ob_9 kk_10 FieldType.byte 5 [(.int 100), (.int 114), (.int 97), (.int 102), (.int 116)] (.int 0)) (I1224 : Arv Z h0 ob_1120 kk_1121 .byte 10 [(.int 114), (.int 101), (.int 103), (.int 105), (.int 115), (.int 116), (.int 101), (.int 114), (.int 101), (.int 100)] (.int 0)) :
    own_Met l Z h0 (⟨"java/lang/StringLatin1", "equals", "([B[B)Z"⟩ : MethodName) jdk_43_method_13_code 3 (Option.some FieldType.boolean) ws ({ frames := 0, cells := 0, slots := 0, locals := 0 } : Room) #[(.ref ob_9), (.ref ob_1120)] (own_Q23 Z ob_9 ob_1120 kk_10 kk_1121 h0 n0) 0 0 := by
  refine MetFree.of_bodySF own_pn7 hisR ?_
  intro p e s m args below meth c s₁ Bd hml0 hP hK
  obtain ⟨rfl, hZ, hh⟩ := hP
  have hx := Bd.exec
  have hby := Bd.bytes
  have hml : c.maxLocals = 3 := hml0
  have hown : s.vm.findClass "java/lang/StringLatin1" = some m.cls := findClass_of_methodNamed Bd.named
  have hnm := (name_of_methodNamed Bd.named Bd.method).1
  have X0 : Stand p l e ({ frames := 0, cells := 0, slots := 0, locals := 0 } : Room) s m #[(.ref ob_9), (.ref ob_1120)] below meth c s₁ [] 0 0 := Stand.of_body Bd
  have e0 : s₁.heap = h0 := by rw [← hh, Bd.state]; rfl
  have N0 := Fr.nil n0
  show own_G p e below (s₁.setTop (entryFrame m #[(.ref ob_9), (.ref ob_1120)] 3)) (own_P s (own_Q23 Z ob_9 ob_1120 kk_10 kk_1121 h0 n0) 0 0)
  refine own_cast (own_ef9 m ob_9 ob_1120) ?_
  show own_G p e below (s₁.setTop (mkF m 0 #[rv ob_9, rv ob_1120, .unset] [])) _
  refine oS (fun _ => XS.aloadN X0.here hx rfl (hb hby dd9_0) rfl rfl) ?_
  have F1223 : Arv Z h0 ob_9 kk_10 FieldType.byte 5 [(.int 100), (.int 114), (.int 97), (.int 102), (.int 116)] (.int 0) := I1222.ext O0.2
  refine oS (own_len X0 hx hZ e0 F1223 rfl rfl (hb hby dd9_1)) ?_
  show own_G p e below (s₁.setTop (mkF m 2 #[rv ob_9, rv ob_1120, .unset] [(.int 5)])) _
  refine oS (fun _ => XS.aloadN X0.here hx rfl (hb hby dd9_2) rfl rfl) ?_
  refine oS (own_len X0 hx hZ e0 I1224 rfl rfl (hb hby dd9_3)) ?_
  show own_G p e below (s₁.setTop (mkF m 4 #[rv ob_9, rv ob_1120, .unset] [(.int 10), (.int 5)])) _
  refine oS (fun _ => XS.icmpYes X0.here hx rfl (pc0 := 4) (pc' := 34) rfl (hb hby dd9_4) rfl (XT.ii_ne_t (by decide)) (by decide) (by decide)) ?_
  show own_G p e below (s₁.setTop (mkF m 34 #[rv ob_9, rv ob_1120, .unset] [])) _
  refine oS (fun _ => XS.iconst X0.here hx rfl (hb hby dd9_34) ) ?_
  exact own_retN X0 hx (t := .boolean) Bd.notSynchronized Bd.returns (by simp) (hb hby dd9_35) (by decide) e0 (by decide) (by decide) (⟨rfl, N0, rfl⟩)
theorem dd8_54 : decode jdk_42_method_66_code 54 = .ok (.iconst 0, 1) := by decide +kernel
def own_Q22 (Z : State) (ob_8 : Nat) (ob_671 : Nat) (in_2 : Int32) (ob_9 : Nat) (ob_1120 : Nat) (kk_10 : ClassId) (kk_1121 : ClassId) (h0 : Heap) (n0 : Nat) (v : Option Value) (h : Heap) (L : List Loc) : Prop := (v = some (.int 0) ∧ Fr n0 L ∧ h = h0)
set_option maxRecDepth 65536 in
set_option maxHeartbeats 40000000 in
theorem own_rm22 (l : Launch) (Z : State) (a0 : Array Value) (hw : ∀ d ∈ tables_1, d.before a0 Z = true) (ws : List Jvm.Cond) (ob_8 : Nat) (ob_671 : Nat) (in_2 : Int32) (ob_9 : Nat) (ob_1120 : Nat) (kk_10 : ClassId) (kk_1121 : ClassId) (h0 : Heap) (n0 : Nat) (Z0 : n0 ≤ h0.size) (O0 : Old Z n0 h0) (I1175 : Exa Z Z.heap ob_8 "java/lang/String") (I1179 : n0 ≤ ob_671) (I1185 : Exa Z h0 ob_671 "java/lang/String") (I1190 : Sta Z Z.heap "java/lang/String" "COMPACT_STRINGS" "Z" (.int in_2)) (I1196 : ¬ (in_2 = 0)) (I1197 : Fld Z Z.heap ob_8 "java/lang/String" "coder" "B" (.int 0)) (I1203 : Fld Z h0 ob_671 "java/lang/String" "coder" "B" (.int 0)) (I1208 : Fld Z Z.heap ob_8 "java/lang/String" "value" "[B" (.ref ob_9)) (I1214 : Fld Z h0 ob_671 "java/lang/String" "value" "[B" (.ref ob_1120)) (I1219 : Arv Z Z.heap ob_9 kk_10 FieldType.byte 5 [(.int 100), (.int 114), (.int 97), (.int 102), (.int 116)] (.int 0)) (I1220 : Arv Z h0 ob_1120 kk_1121 .byte 10 [(.int 114), (.int 101), (.int 103), (.int 105), (.int 115), (.int 116), (.int 101), (.int 114), (.int 101), (.int 100)] (.int 0)) :
    own_Met l Z h0 (⟨"java/lang/String", "equals", "(Ljava/lang/Object;)Z"⟩ : MethodName) jdk_42_method_66_code 3 (Option.some FieldType.boolean) ws ({ frames := 1, cells := 0, slots := 0, locals := 14 } : Room) #[(.ref ob_8), (.ref ob_671)] (own_Q22 Z ob_8 ob_671 in_2 ob_9 ob_1120 kk_10 kk_1121 h0 n0) 0 0 := by
  refine MetFree.of_bodySF own_pn8 hisR ?_
  intro p e s m args below meth c s₁ Bd hml0 hP hK
  obtain ⟨rfl, hZ, hh⟩ := hP
  have hx := Bd.exec
  have hby := Bd.bytes
  have hml : c.maxLocals = 3 := hml0
  have hown : s.vm.findClass "java/lang/String" = some m.cls := findClass_of_methodNamed Bd.named
  have hnm := (name_of_methodNamed Bd.named Bd.method).1
  have X0 : Stand p l e ({ frames := 1, cells := 0, slots := 0, locals := 14 } : Room) s m #[(.ref ob_8), (.ref ob_671)] below meth c s₁ [] 0 0 := Stand.of_body Bd
  have e0 : s₁.heap = h0 := by rw [← hh, Bd.state]; rfl
  have N0 := Fr.nil n0
  show own_G p e below (s₁.setTop (entryFrame m #[(.ref ob_8), (.ref ob_671)] 3)) (own_P s (own_Q22 Z ob_8 ob_671 in_2 ob_9 ob_1120 kk_10 kk_1121 h0 n0) 0 0)
  refine own_cast (own_ef9 m ob_8 ob_671) ?_
  show own_G p e below (s₁.setTop (mkF m 0 #[rv ob_8, rv ob_671, .unset] [])) _
  refine oS (fun _ => XS.aloadN X0.here hx rfl (hb hby dd8_0) rfl rfl) ?_
  refine oS (fun _ => XS.aloadN X0.here hx rfl (hb hby dd8_1) rfl rfl) ?_
  have y1176 : @LT.lt Nat instLTNat ob_8 Z.heap.size := I1175.lt
  have y1177 : Z.heap.size = n0 := O0.1
  have y1178 := I1179
  have N1180 : @Ne Nat ob_8 ob_671 := by omega
  refine oS (fun _ => XT.acmpYes X0.here hx rfl (pc0 := 2) (pc' := 7) rfl (hb hby dd8_2) rfl rfl rfl (XT.aa_ne_t (own_rne N1180)) (by decide) (by decide)) ?_
  show own_G p e below (s₁.setTop (mkF m 7 #[rv ob_8, rv ob_671, .unset] [])) _
  refine oS (fun _ => XS.aloadN X0.here hx rfl (hb hby dd8_7) rfl rfl) ?_
  obtain ⟨T1181, X1182, e1183, s1184⟩ := instY X0 hx hZ hown (oW hw 65 rfl) e0 (Ins.self I1185) (g := (mkF m 8 #[rv ob_8, rv ob_671, .unset] [(.ref ob_671)])) rfl rfl (hb hby dd8_8)
  refine oS s1184 ?_
  show own_G p e below (T1181.setTop (mkF m 11 #[rv ob_8, rv ob_671, .unset] [(.int 1)])) _
  refine oS (fun _ => XS.ifNo X1182.here hx rfl (hb hby dd8_11) rfl (XT.i0_eq_f (by decide))) ?_
  show own_G p e below (T1181.setTop (mkF m 14 #[rv ob_8, rv ob_671, .unset] [])) _
  refine oS (fun _ => XS.aloadN X1182.here hx rfl (hb hby dd8_14) rfl rfl) ?_
  obtain ⟨T1186, X1187, e1188, s1189⟩ := castY X1182 hx hZ hown (oW hw 65 rfl) e1183 (Ins.self I1185) (g := (mkF m 15 #[rv ob_8, rv ob_671, .unset] [(.ref ob_671)])) rfl rfl (hb hby dd8_15)
  refine oS s1189 ?_
  show own_G p e below (T1186.setTop (mkF m 18 #[rv ob_8, rv ob_671, .unset] [(.ref ob_671)])) _
  refine oS (fun _ => XS.astoreN X1187.here hx rfl (hb hby dd8_18) rfl rfl (l' := #[rv ob_8, rv ob_671, rv ob_671]) rfl) ?_
  have F1191 : Sta Z h0 "java/lang/String" "COMPACT_STRINGS" "Z" (.int in_2) := Sta.ext O0.2 I1190
  obtain ⟨T1192, X1193, e1194, s1195⟩ := getS X1187 hx hZ hown (host := "") (oW hw 22 rfl) Via.refl e1188 F1191 (g := (mkF m 19 #[rv ob_8, rv ob_671, rv ob_671] [])) rfl (hb hby dd8_19)
  refine oS s1195 ?_
  show own_G p e below (T1192.setTop (mkF m 22 #[rv ob_8, rv ob_671, rv ob_671] [(.int in_2)])) _
  refine oS (fun _ => XS.ifNo X1193.here hx rfl (hb hby dd8_22) rfl (XT.i0_eq_f I1196)) ?_
  show own_G p e below (T1192.setTop (mkF m 25 #[rv ob_8, rv ob_671, rv ob_671] [])) _
  refine oS (fun _ => XS.aloadN X1193.here hx rfl (hb hby dd8_25) rfl rfl) ?_
  have F1198 : Fld Z h0 ob_8 "java/lang/String" "coder" "B" (.int 0) := Fld.ext O0.2 I1197
  obtain ⟨T1199, X1200, e1201, s1202⟩ := getF X1193 hx hZ hown (host := "") (Or.inl (oW hw 34 rfl)) Via.refl e1194 F1198 (g := (mkF m 26 #[rv ob_8, rv ob_671, rv ob_671] [(.ref ob_8)])) rfl rfl (hb hby dd8_26)
  refine oS s1202 ?_
  show own_G p e below (T1199.setTop (mkF m 29 #[rv ob_8, rv ob_671, rv ob_671] [(.int 0)])) _
  refine oS (fun _ => XS.aloadN X1200.here hx rfl (hb hby dd8_29) rfl rfl) ?_
  obtain ⟨T1204, X1205, e1206, s1207⟩ := getF X1200 hx hZ hown (host := "") (Or.inl (oW hw 34 rfl)) Via.refl e1201 I1203 (g := (mkF m 30 #[rv ob_8, rv ob_671, rv ob_671] [(.ref ob_671), (.int 0)])) rfl rfl (hb hby dd8_30)
  refine oS s1207 ?_
  show own_G p e below (T1204.setTop (mkF m 33 #[rv ob_8, rv ob_671, rv ob_671] [(.int 0), (.int 0)])) _
  refine oS (fun _ => XS.icmpNo X1205.here hx rfl (hb hby dd8_33) rfl (XT.ii_ne_f (by decide))) ?_
  show own_G p e below (T1204.setTop (mkF m 36 #[rv ob_8, rv ob_671, rv ob_671] [])) _
  refine oS (fun _ => XS.aloadN X1205.here hx rfl (hb hby dd8_36) rfl rfl) ?_
  have F1209 : Fld Z h0 ob_8 "java/lang/String" "value" "[B" (.ref ob_9) := Fld.ext O0.2 I1208
  obtain ⟨T1210, X1211, e1212, s1213⟩ := getF X1205 hx hZ hown (host := "") (Or.inl (oW hw 36 rfl)) Via.refl e1206 F1209 (g := (mkF m 37 #[rv ob_8, rv ob_671, rv ob_671] [(.ref ob_8)])) rfl rfl (hb hby dd8_37)
  refine oS s1213 ?_
  show own_G p e below (T1210.setTop (mkF m 40 #[rv ob_8, rv ob_671, rv ob_671] [(.ref ob_9)])) _
  refine oS (fun _ => XS.aloadN X1211.here hx rfl (hb hby dd8_40) rfl rfl) ?_
  obtain ⟨T1215, X1216, e1217, s1218⟩ := getF X1211 hx hZ hown (host := "") (Or.inl (oW hw 36 rfl)) Via.refl e1212 I1214 (g := (mkF m 41 #[rv ob_8, rv ob_671, rv ob_671] [(.ref ob_671), (.ref ob_9)])) rfl rfl (hb hby dd8_41)
  refine oS s1218 ?_
  show own_G p e below (T1215.setTop (mkF m 44 #[rv ob_8, rv ob_671, rv ob_671] [(.ref ob_1120), (.ref ob_9)])) _
  have F1221 : Arv Z h0 ob_9 kk_10 FieldType.byte 5 [(.int 100), (.int 114), (.int 97), (.int 102), (.int 116)] (.int 0) := I1219.ext O0.2
  obtain ⟨T1225, h1226, v1227, L1228, X1229, e1230, q1231, s1232⟩ := own_callS X1216 hx hZ hown e1217 (y := (⟨"java/lang/StringLatin1", "equals", "([B[B)Z"⟩ : MethodName)) (oW hw 66 rfl) (oW hw 67 rfl) (oW hw 68 rfl) (oW hw 69 rfl) (by decide) (W := 0) (own_rm23 l Z a0 hw [] ob_9 ob_1120 kk_10 kk_1121 h0 n0 Z0 O0 I1219 I1220) (by decide) (by decide) (by decide) (by decide) (g := (mkF m 44 #[rv ob_8, rv ob_671, rv ob_671] [(.ref ob_1120), (.ref ob_9)])) rfl (by rw [hml]; rfl) (argsL := [(.ref ob_9), (.ref ob_1120)]) (rest := []) rfl (lenOf own_pd7 rfl) rfl (by show 2 * 0 + _ ≤ _; exact Nat.le_of_eq rfl) (hb hby dd8_44)
  refine oS s1232 ?_
  obtain ⟨rfl, N1233, K1234⟩ := q1231
  have N1235 := Fr.app N0 N1233
  have e1236 := e1230.trans K1234
  show own_G p e below (T1225.setTop (mkF m 47 #[rv ob_8, rv ob_671, rv ob_671] [(.int 0)])) _
  refine oS (fun _ => XS.ifYes X1229.here hx rfl (pc0 := 47) (pc' := 54) rfl (hb hby dd8_47) rfl (XT.i0_eq_t (by decide)) (by decide) (by decide)) ?_
  show own_G p e below (T1225.setTop (mkF m 54 #[rv ob_8, rv ob_671, rv ob_671] [])) _
  refine oS (fun _ => XS.iconst X1229.here hx rfl (hb hby dd8_54) ) ?_
  exact own_retN X1229 hx (t := .boolean) Bd.notSynchronized Bd.returns (by simp) (hb hby dd8_55) (by decide) e1236 (by decide) (by decide) (⟨rfl, N1235, rfl⟩)
theorem dd7_34 : decode prog_48_method_5_code 34 = .ok (.iinc 3 1, 3) := by decide +kernel
theorem dd7_37 : decode prog_48_method_5_code 37 = .ok (.goto (-28), 3) := by decide +kernel
def own_Q25 (Z : State) (ob_12 : Nat) (ob_1120 : Nat) (kk_13 : ClassId) (kk_1121 : ClassId) (h0 : Heap) (n0 : Nat) (v : Option Value) (h : Heap) (L : List Loc) : Prop := (v = some (.int 1) ∧ Fr n0 L ∧ h = h0)
set_option maxRecDepth 65536 in
set_option maxHeartbeats 40000000 in
theorem own_rm25 (l : Launch) (Z : State) (a0 : Array Value) (hw : ∀ d ∈ tables_1, d.before a0 Z = true) (ws : List Jvm.Cond) (ob_12 : Nat) (ob_1120 : Nat) (kk_13 : ClassId) (kk_1121 : ClassId) (h0 : Heap) (n0 : Nat) (Z0 : n0 ≤ h0.size) (O0 : Old Z n0 h0) (I1312 : Arv Z Z.heap ob_12 kk_13 FieldType.byte 10 [(.int 114), (.int 101), (.int 103), (.int 105), (.int 115), (.int 116), (.int 101), (.int 114), (.int 101), (.int 100)] (.int 0)) (I1315 : Arv Z h0 ob_1120 kk_1121 .byte 10 [(.int 114), (.int 101), (.int 103), (.int 105), (.int 115), (.int 116), (.int 101), (.int 114), (.int 101), (.int 100)] (.int 0)) :
    own_Met l Z h0 (⟨"java/lang/StringLatin1", "equals", "([B[B)Z"⟩ : MethodName) jdk_43_method_13_code 3 (Option.some FieldType.boolean) ws ({ frames := 0, cells := 0, slots := 0, locals := 0 } : Room) #[(.ref ob_12), (.ref ob_1120)] (own_Q25 Z ob_12 ob_1120 kk_13 kk_1121 h0 n0) 0 0 := by
  refine MetFree.of_bodySF own_pn7 hisR ?_
  intro p e s m args below meth c s₁ Bd hml0 hP hK
  obtain ⟨rfl, hZ, hh⟩ := hP
  have hx := Bd.exec
  have hby := Bd.bytes
  have hml : c.maxLocals = 3 := hml0
  have hown : s.vm.findClass "java/lang/StringLatin1" = some m.cls := findClass_of_methodNamed Bd.named
  have hnm := (name_of_methodNamed Bd.named Bd.method).1
  have X0 : Stand p l e ({ frames := 0, cells := 0, slots := 0, locals := 0 } : Room) s m #[(.ref ob_12), (.ref ob_1120)] below meth c s₁ [] 0 0 := Stand.of_body Bd
  have e0 : s₁.heap = h0 := by rw [← hh, Bd.state]; rfl
  have N0 := Fr.nil n0
  show own_G p e below (s₁.setTop (entryFrame m #[(.ref ob_12), (.ref ob_1120)] 3)) (own_P s (own_Q25 Z ob_12 ob_1120 kk_13 kk_1121 h0 n0) 0 0)
  refine own_cast (own_ef9 m ob_12 ob_1120) ?_
  show own_G p e below (s₁.setTop (mkF m 0 #[rv ob_12, rv ob_1120, .unset] [])) _
  refine oS (fun _ => XS.aloadN X0.here hx rfl (hb hby dd9_0) rfl rfl) ?_
  have F1313 : Arv Z h0 ob_12 kk_13 FieldType.byte 10 [(.int 114), (.int 101), (.int 103), (.int 105), (.int 115), (.int 116), (.int 101), (.int 114), (.int 101), (.int 100)] (.int 0) := I1312.ext O0.2
  refine oS (own_len X0 hx hZ e0 F1313 rfl rfl (hb hby dd9_1)) ?_
  show own_G p e below (s₁.setTop (mkF m 2 #[rv ob_12, rv ob_1120, .unset] [(.int 10)])) _
  refine oS (fun _ => XS.aloadN X0.here hx rfl (hb hby dd9_2) rfl rfl) ?_
  refine oS (own_len X0 hx hZ e0 I1315 rfl rfl (hb hby dd9_3)) ?_
  show own_G p e below (s₁.setTop (mkF m 4 #[rv ob_12, rv ob_1120, .unset] [(.int 10), (.int 10)])) _
  refine oS (fun _ => XS.icmpNo X0.here hx rfl (hb hby dd9_4) rfl (XT.ii_ne_f (by decide))) ?_
  show own_G p e below (s₁.setTop (mkF m 7 #[rv ob_12, rv ob_1120, .unset] [])) _
  refine oS (fun _ => XS.iconst X0.here hx rfl (hb hby dd9_7) ) ?_
  refine oS (fun _ => XS.istoreN X0.here hx rfl (hb hby dd9_8) rfl (l' := #[rv ob_12, rv ob_1120, iv 0]) rfl) ?_
  refine oS (fun _ => XS.iloadN X0.here hx rfl (hb hby dd9_9) rfl) ?_
  refine oS (fun _ => XS.aloadN X0.here hx rfl (hb hby dd9_10) rfl rfl) ?_
  show own_G p e below (s₁.setTop (mkF m 11 #[rv ob_12, rv ob_1120, iv 0] [(.ref ob_12), (.int 0)])) _
  refine oS (own_len X0 hx hZ e0 F1313 rfl rfl (hb hby dd9_11)) ?_
  show own_G p e below (s₁.setTop (mkF m 12 #[rv ob_12, rv ob_1120, iv 0] [(.int 10), (.int 0)])) _
  refine oS (fun _ => XS.icmpNo X0.here hx rfl (hb hby dd9_12) rfl (XT.ii_ge_f (by decide))) ?_
  show own_G p e below (s₁.setTop (mkF m 15 #[rv ob_12, rv ob_1120, iv 0] [])) _
  refine oS (fun _ => XS.aloadN X0.here hx rfl (hb hby dd9_15) rfl rfl) ?_
  refine oS (fun _ => XS.iloadN X0.here hx rfl (hb hby dd9_16) rfl) ?_
  refine oS (own_baload X0 hx hZ e0 F1313 (by decide) (v := (.int 114)) rfl rfl rfl (hb hby dd9_17)) ?_
  show own_G p e below (s₁.setTop (mkF m 18 #[rv ob_12, rv ob_1120, iv 0] [(.int 114)])) _
  refine oS (fun _ => XS.aloadN X0.here hx rfl (hb hby dd9_18) rfl rfl) ?_
  refine oS (fun _ => XS.iloadN X0.here hx rfl (hb hby dd9_19) rfl) ?_
  refine oS (own_baload X0 hx hZ e0 I1315 (by decide) (v := (.int 114)) rfl rfl rfl (hb hby dd9_20)) ?_
  show own_G p e below (s₁.setTop (mkF m 21 #[rv ob_12, rv ob_1120, iv 0] [(.int 114), (.int 114)])) _
  refine oS (fun _ => XS.icmpYes X0.here hx rfl (pc0 := 21) (pc' := 26) rfl (hb hby dd9_21) rfl (XT.ii_eq_t (by decide)) (by decide) (by decide)) ?_
  show own_G p e below (s₁.setTop (mkF m 26 #[rv ob_12, rv ob_1120, iv 0] [])) _
  refine oS (fun _ => XS.iinc X0.here hx rfl (hb hby dd9_26) rfl (l' := #[rv ob_12, rv ob_1120, iv 1]) rfl) ?_
  show own_G p e below (s₁.setTop (mkF m 29 #[rv ob_12, rv ob_1120, iv 1] [])) _
  refine oS (fun _ => XS.goto X0.here hx rfl (pc0 := 29) (pc' := 9) rfl (hb hby dd9_29) (by decide) (by decide)) ?_
  show own_G p e below (s₁.setTop (mkF m 9 #[rv ob_12, rv ob_1120, iv 1] [])) _
  refine oS (fun _ => XS.iloadN X0.here hx rfl (hb hby dd9_9) rfl) ?_
  refine oS (fun _ => XS.aloadN X0.here hx rfl (hb hby dd9_10) rfl rfl) ?_
  refine oS (own_len X0 hx hZ e0 F1313 rfl rfl (hb hby dd9_11)) ?_
  show own_G p e below (s₁.setTop (mkF m 12 #[rv ob_12, rv ob_1120, iv 1] [(.int 10), (.int 1)])) _
  refine oS (fun _ => XS.icmpNo X0.here hx rfl (hb hby dd9_12) rfl (XT.ii_ge_f (by decide))) ?_
  show own_G p e below (s₁.setTop (mkF m 15 #[rv ob_12, rv ob_1120, iv 1] [])) _
  refine oS (fun _ => XS.aloadN X0.here hx rfl (hb hby dd9_15) rfl rfl) ?_
  refine oS (fun _ => XS.iloadN X0.here hx rfl (hb hby dd9_16) rfl) ?_
  refine oS (own_baload X0 hx hZ e0 F1313 (by decide) (v := (.int 101)) rfl rfl rfl (hb hby dd9_17)) ?_
  show own_G p e below (s₁.setTop (mkF m 18 #[rv ob_12, rv ob_1120, iv 1] [(.int 101)])) _
  refine oS (fun _ => XS.aloadN X0.here hx rfl (hb hby dd9_18) rfl rfl) ?_
  refine oS (fun _ => XS.iloadN X0.here hx rfl (hb hby dd9_19) rfl) ?_
  refine oS (own_baload X0 hx hZ e0 I1315 (by decide) (v := (.int 101)) rfl rfl rfl (hb hby dd9_20)) ?_
  show own_G p e below (s₁.setTop (mkF m 21 #[rv ob_12, rv ob_1120, iv 1] [(.int 101), (.int 101)])) _
  refine oS (fun _ => XS.icmpYes X0.here hx rfl (pc0 := 21) (pc' := 26) rfl (hb hby dd9_21) rfl (XT.ii_eq_t (by decide)) (by decide) (by decide)) ?_
  show own_G p e below (s₁.setTop (mkF m 26 #[rv ob_12, rv ob_1120, iv 1] [])) _
  refine oS (fun _ => XS.iinc X0.here hx rfl (hb hby dd9_26) rfl (l' := #[rv ob_12, rv ob_1120, iv 2]) rfl) ?_
  show own_G p e below (s₁.setTop (mkF m 29 #[rv ob_12, rv ob_1120, iv 2] [])) _
  refine oS (fun _ => XS.goto X0.here hx rfl (pc0 := 29) (pc' := 9) rfl (hb hby dd9_29) (by decide) (by decide)) ?_
  show own_G p e below (s₁.setTop (mkF m 9 #[rv ob_12, rv ob_1120, iv 2] [])) _
  refine oS (fun _ => XS.iloadN X0.here hx rfl (hb hby dd9_9) rfl) ?_
  refine oS (fun _ => XS.aloadN X0.here hx rfl (hb hby dd9_10) rfl rfl) ?_
  refine oS (own_len X0 hx hZ e0 F1313 rfl rfl (hb hby dd9_11)) ?_
  show own_G p e below (s₁.setTop (mkF m 12 #[rv ob_12, rv ob_1120, iv 2] [(.int 10), (.int 2)])) _
  refine oS (fun _ => XS.icmpNo X0.here hx rfl (hb hby dd9_12) rfl (XT.ii_ge_f (by decide))) ?_
  show own_G p e below (s₁.setTop (mkF m 15 #[rv ob_12, rv ob_1120, iv 2] [])) _
  refine oS (fun _ => XS.aloadN X0.here hx rfl (hb hby dd9_15) rfl rfl) ?_
  refine oS (fun _ => XS.iloadN X0.here hx rfl (hb hby dd9_16) rfl) ?_
  refine oS (own_baload X0 hx hZ e0 F1313 (by decide) (v := (.int 103)) rfl rfl rfl (hb hby dd9_17)) ?_
  show own_G p e below (s₁.setTop (mkF m 18 #[rv ob_12, rv ob_1120, iv 2] [(.int 103)])) _
  refine oS (fun _ => XS.aloadN X0.here hx rfl (hb hby dd9_18) rfl rfl) ?_
  refine oS (fun _ => XS.iloadN X0.here hx rfl (hb hby dd9_19) rfl) ?_
  refine oS (own_baload X0 hx hZ e0 I1315 (by decide) (v := (.int 103)) rfl rfl rfl (hb hby dd9_20)) ?_
  show own_G p e below (s₁.setTop (mkF m 21 #[rv ob_12, rv ob_1120, iv 2] [(.int 103), (.int 103)])) _
  refine oS (fun _ => XS.icmpYes X0.here hx rfl (pc0 := 21) (pc' := 26) rfl (hb hby dd9_21) rfl (XT.ii_eq_t (by decide)) (by decide) (by decide)) ?_
  show own_G p e below (s₁.setTop (mkF m 26 #[rv ob_12, rv ob_1120, iv 2] [])) _
  refine oS (fun _ => XS.iinc X0.here hx rfl (hb hby dd9_26) rfl (l' := #[rv ob_12, rv ob_1120, iv 3]) rfl) ?_
  show own_G p e below (s₁.setTop (mkF m 29 #[rv ob_12, rv ob_1120, iv 3] [])) _
  refine oS (fun _ => XS.goto X0.here hx rfl (pc0 := 29) (pc' := 9) rfl (hb hby dd9_29) (by decide) (by decide)) ?_
  show own_G p e below (s₁.setTop (mkF m 9 #[rv ob_12, rv ob_1120, iv 3] [])) _
  refine oS (fun _ => XS.iloadN X0.here hx rfl (hb hby dd9_9) rfl) ?_
  refine oS (fun _ => XS.aloadN X0.here hx rfl (hb hby dd9_10) rfl rfl) ?_
  refine oS (own_len X0 hx hZ e0 F1313 rfl rfl (hb hby dd9_11)) ?_
  show own_G p e below (s₁.setTop (mkF m 12 #[rv ob_12, rv ob_1120, iv 3] [(.int 10), (.int 3)])) _
  refine oS (fun _ => XS.icmpNo X0.here hx rfl (hb hby dd9_12) rfl (XT.ii_ge_f (by decide))) ?_
  show own_G p e below (s₁.setTop (mkF m 15 #[rv ob_12, rv ob_1120, iv 3] [])) _
  refine oS (fun _ => XS.aloadN X0.here hx rfl (hb hby dd9_15) rfl rfl) ?_
  refine oS (fun _ => XS.iloadN X0.here hx rfl (hb hby dd9_16) rfl) ?_
  refine oS (own_baload X0 hx hZ e0 F1313 (by decide) (v := (.int 105)) rfl rfl rfl (hb hby dd9_17)) ?_
  show own_G p e below (s₁.setTop (mkF m 18 #[rv ob_12, rv ob_1120, iv 3] [(.int 105)])) _
  refine oS (fun _ => XS.aloadN X0.here hx rfl (hb hby dd9_18) rfl rfl) ?_
  refine oS (fun _ => XS.iloadN X0.here hx rfl (hb hby dd9_19) rfl) ?_
  refine oS (own_baload X0 hx hZ e0 I1315 (by decide) (v := (.int 105)) rfl rfl rfl (hb hby dd9_20)) ?_
  show own_G p e below (s₁.setTop (mkF m 21 #[rv ob_12, rv ob_1120, iv 3] [(.int 105), (.int 105)])) _
  refine oS (fun _ => XS.icmpYes X0.here hx rfl (pc0 := 21) (pc' := 26) rfl (hb hby dd9_21) rfl (XT.ii_eq_t (by decide)) (by decide) (by decide)) ?_
  show own_G p e below (s₁.setTop (mkF m 26 #[rv ob_12, rv ob_1120, iv 3] [])) _
  refine oS (fun _ => XS.iinc X0.here hx rfl (hb hby dd9_26) rfl (l' := #[rv ob_12, rv ob_1120, iv 4]) rfl) ?_
  show own_G p e below (s₁.setTop (mkF m 29 #[rv ob_12, rv ob_1120, iv 4] [])) _
  refine oS (fun _ => XS.goto X0.here hx rfl (pc0 := 29) (pc' := 9) rfl (hb hby dd9_29) (by decide) (by decide)) ?_
  show own_G p e below (s₁.setTop (mkF m 9 #[rv ob_12, rv ob_1120, iv 4] [])) _
  refine oS (fun _ => XS.iloadN X0.here hx rfl (hb hby dd9_9) rfl) ?_
  refine oS (fun _ => XS.aloadN X0.here hx rfl (hb hby dd9_10) rfl rfl) ?_
  refine oS (own_len X0 hx hZ e0 F1313 rfl rfl (hb hby dd9_11)) ?_
  show own_G p e below (s₁.setTop (mkF m 12 #[rv ob_12, rv ob_1120, iv 4] [(.int 10), (.int 4)])) _
  refine oS (fun _ => XS.icmpNo X0.here hx rfl (hb hby dd9_12) rfl (XT.ii_ge_f (by decide))) ?_
  show own_G p e below (s₁.setTop (mkF m 15 #[rv ob_12, rv ob_1120, iv 4] [])) _
  refine oS (fun _ => XS.aloadN X0.here hx rfl (hb hby dd9_15) rfl rfl) ?_
  refine oS (fun _ => XS.iloadN X0.here hx rfl (hb hby dd9_16) rfl) ?_
  refine oS (own_baload X0 hx hZ e0 F1313 (by decide) (v := (.int 115)) rfl rfl rfl (hb hby dd9_17)) ?_
  show own_G p e below (s₁.setTop (mkF m 18 #[rv ob_12, rv ob_1120, iv 4] [(.int 115)])) _
  refine oS (fun _ => XS.aloadN X0.here hx rfl (hb hby dd9_18) rfl rfl) ?_
  refine oS (fun _ => XS.iloadN X0.here hx rfl (hb hby dd9_19) rfl) ?_
  refine oS (own_baload X0 hx hZ e0 I1315 (by decide) (v := (.int 115)) rfl rfl rfl (hb hby dd9_20)) ?_
  show own_G p e below (s₁.setTop (mkF m 21 #[rv ob_12, rv ob_1120, iv 4] [(.int 115), (.int 115)])) _
  refine oS (fun _ => XS.icmpYes X0.here hx rfl (pc0 := 21) (pc' := 26) rfl (hb hby dd9_21) rfl (XT.ii_eq_t (by decide)) (by decide) (by decide)) ?_
  show own_G p e below (s₁.setTop (mkF m 26 #[rv ob_12, rv ob_1120, iv 4] [])) _
  refine oS (fun _ => XS.iinc X0.here hx rfl (hb hby dd9_26) rfl (l' := #[rv ob_12, rv ob_1120, iv 5]) rfl) ?_
  show own_G p e below (s₁.setTop (mkF m 29 #[rv ob_12, rv ob_1120, iv 5] [])) _
  refine oS (fun _ => XS.goto X0.here hx rfl (pc0 := 29) (pc' := 9) rfl (hb hby dd9_29) (by decide) (by decide)) ?_
  show own_G p e below (s₁.setTop (mkF m 9 #[rv ob_12, rv ob_1120, iv 5] [])) _
  refine oS (fun _ => XS.iloadN X0.here hx rfl (hb hby dd9_9) rfl) ?_
  refine oS (fun _ => XS.aloadN X0.here hx rfl (hb hby dd9_10) rfl rfl) ?_
  refine oS (own_len X0 hx hZ e0 F1313 rfl rfl (hb hby dd9_11)) ?_
  show own_G p e below (s₁.setTop (mkF m 12 #[rv ob_12, rv ob_1120, iv 5] [(.int 10), (.int 5)])) _
  refine oS (fun _ => XS.icmpNo X0.here hx rfl (hb hby dd9_12) rfl (XT.ii_ge_f (by decide))) ?_
  show own_G p e below (s₁.setTop (mkF m 15 #[rv ob_12, rv ob_1120, iv 5] [])) _
  refine oS (fun _ => XS.aloadN X0.here hx rfl (hb hby dd9_15) rfl rfl) ?_
  refine oS (fun _ => XS.iloadN X0.here hx rfl (hb hby dd9_16) rfl) ?_
  refine oS (own_baload X0 hx hZ e0 F1313 (by decide) (v := (.int 116)) rfl rfl rfl (hb hby dd9_17)) ?_
  show own_G p e below (s₁.setTop (mkF m 18 #[rv ob_12, rv ob_1120, iv 5] [(.int 116)])) _
  refine oS (fun _ => XS.aloadN X0.here hx rfl (hb hby dd9_18) rfl rfl) ?_
  refine oS (fun _ => XS.iloadN X0.here hx rfl (hb hby dd9_19) rfl) ?_
  refine oS (own_baload X0 hx hZ e0 I1315 (by decide) (v := (.int 116)) rfl rfl rfl (hb hby dd9_20)) ?_
  show own_G p e below (s₁.setTop (mkF m 21 #[rv ob_12, rv ob_1120, iv 5] [(.int 116), (.int 116)])) _
  refine oS (fun _ => XS.icmpYes X0.here hx rfl (pc0 := 21) (pc' := 26) rfl (hb hby dd9_21) rfl (XT.ii_eq_t (by decide)) (by decide) (by decide)) ?_
  show own_G p e below (s₁.setTop (mkF m 26 #[rv ob_12, rv ob_1120, iv 5] [])) _
  refine oS (fun _ => XS.iinc X0.here hx rfl (hb hby dd9_26) rfl (l' := #[rv ob_12, rv ob_1120, iv 6]) rfl) ?_
  show own_G p e below (s₁.setTop (mkF m 29 #[rv ob_12, rv ob_1120, iv 6] [])) _
  refine oS (fun _ => XS.goto X0.here hx rfl (pc0 := 29) (pc' := 9) rfl (hb hby dd9_29) (by decide) (by decide)) ?_
  show own_G p e below (s₁.setTop (mkF m 9 #[rv ob_12, rv ob_1120, iv 6] [])) _
  refine oS (fun _ => XS.iloadN X0.here hx rfl (hb hby dd9_9) rfl) ?_
  refine oS (fun _ => XS.aloadN X0.here hx rfl (hb hby dd9_10) rfl rfl) ?_
  refine oS (own_len X0 hx hZ e0 F1313 rfl rfl (hb hby dd9_11)) ?_
  show own_G p e below (s₁.setTop (mkF m 12 #[rv ob_12, rv ob_1120, iv 6] [(.int 10), (.int 6)])) _
  refine oS (fun _ => XS.icmpNo X0.here hx rfl (hb hby dd9_12) rfl (XT.ii_ge_f (by decide))) ?_
  show own_G p e below (s₁.setTop (mkF m 15 #[rv ob_12, rv ob_1120, iv 6] [])) _
  refine oS (fun _ => XS.aloadN X0.here hx rfl (hb hby dd9_15) rfl rfl) ?_
  refine oS (fun _ => XS.iloadN X0.here hx rfl (hb hby dd9_16) rfl) ?_
  refine oS (own_baload X0 hx hZ e0 F1313 (by decide) (v := (.int 101)) rfl rfl rfl (hb hby dd9_17)) ?_
  show own_G p e below (s₁.setTop (mkF m 18 #[rv ob_12, rv ob_1120, iv 6] [(.int 101)])) _
  refine oS (fun _ => XS.aloadN X0.here hx rfl (hb hby dd9_18) rfl rfl) ?_
  refine oS (fun _ => XS.iloadN X0.here hx rfl (hb hby dd9_19) rfl) ?_
  refine oS (own_baload X0 hx hZ e0 I1315 (by decide) (v := (.int 101)) rfl rfl rfl (hb hby dd9_20)) ?_
  show own_G p e below (s₁.setTop (mkF m 21 #[rv ob_12, rv ob_1120, iv 6] [(.int 101), (.int 101)])) _
  refine oS (fun _ => XS.icmpYes X0.here hx rfl (pc0 := 21) (pc' := 26) rfl (hb hby dd9_21) rfl (XT.ii_eq_t (by decide)) (by decide) (by decide)) ?_
  show own_G p e below (s₁.setTop (mkF m 26 #[rv ob_12, rv ob_1120, iv 6] [])) _
  refine oS (fun _ => XS.iinc X0.here hx rfl (hb hby dd9_26) rfl (l' := #[rv ob_12, rv ob_1120, iv 7]) rfl) ?_
  show own_G p e below (s₁.setTop (mkF m 29 #[rv ob_12, rv ob_1120, iv 7] [])) _
  refine oS (fun _ => XS.goto X0.here hx rfl (pc0 := 29) (pc' := 9) rfl (hb hby dd9_29) (by decide) (by decide)) ?_
  show own_G p e below (s₁.setTop (mkF m 9 #[rv ob_12, rv ob_1120, iv 7] [])) _
  refine oS (fun _ => XS.iloadN X0.here hx rfl (hb hby dd9_9) rfl) ?_
  refine oS (fun _ => XS.aloadN X0.here hx rfl (hb hby dd9_10) rfl rfl) ?_
  refine oS (own_len X0 hx hZ e0 F1313 rfl rfl (hb hby dd9_11)) ?_
  show own_G p e below (s₁.setTop (mkF m 12 #[rv ob_12, rv ob_1120, iv 7] [(.int 10), (.int 7)])) _
  refine oS (fun _ => XS.icmpNo X0.here hx rfl (hb hby dd9_12) rfl (XT.ii_ge_f (by decide))) ?_
  show own_G p e below (s₁.setTop (mkF m 15 #[rv ob_12, rv ob_1120, iv 7] [])) _
  refine oS (fun _ => XS.aloadN X0.here hx rfl (hb hby dd9_15) rfl rfl) ?_
  refine oS (fun _ => XS.iloadN X0.here hx rfl (hb hby dd9_16) rfl) ?_
  refine oS (own_baload X0 hx hZ e0 F1313 (by decide) (v := (.int 114)) rfl rfl rfl (hb hby dd9_17)) ?_
  show own_G p e below (s₁.setTop (mkF m 18 #[rv ob_12, rv ob_1120, iv 7] [(.int 114)])) _
  refine oS (fun _ => XS.aloadN X0.here hx rfl (hb hby dd9_18) rfl rfl) ?_
  refine oS (fun _ => XS.iloadN X0.here hx rfl (hb hby dd9_19) rfl) ?_
  refine oS (own_baload X0 hx hZ e0 I1315 (by decide) (v := (.int 114)) rfl rfl rfl (hb hby dd9_20)) ?_
  show own_G p e below (s₁.setTop (mkF m 21 #[rv ob_12, rv ob_1120, iv 7] [(.int 114), (.int 114)])) _
  refine oS (fun _ => XS.icmpYes X0.here hx rfl (pc0 := 21) (pc' := 26) rfl (hb hby dd9_21) rfl (XT.ii_eq_t (by decide)) (by decide) (by decide)) ?_
  show own_G p e below (s₁.setTop (mkF m 26 #[rv ob_12, rv ob_1120, iv 7] [])) _
  refine oS (fun _ => XS.iinc X0.here hx rfl (hb hby dd9_26) rfl (l' := #[rv ob_12, rv ob_1120, iv 8]) rfl) ?_
  show own_G p e below (s₁.setTop (mkF m 29 #[rv ob_12, rv ob_1120, iv 8] [])) _
  refine oS (fun _ => XS.goto X0.here hx rfl (pc0 := 29) (pc' := 9) rfl (hb hby dd9_29) (by decide) (by decide)) ?_
  show own_G p e below (s₁.setTop (mkF m 9 #[rv ob_12, rv ob_1120, iv 8] [])) _
  refine oS (fun _ => XS.iloadN X0.here hx rfl (hb hby dd9_9) rfl) ?_
  refine oS (fun _ => XS.aloadN X0.here hx rfl (hb hby dd9_10) rfl rfl) ?_
  refine oS (own_len X0 hx hZ e0 F1313 rfl rfl (hb hby dd9_11)) ?_
  show own_G p e below (s₁.setTop (mkF m 12 #[rv ob_12, rv ob_1120, iv 8] [(.int 10), (.int 8)])) _
  refine oS (fun _ => XS.icmpNo X0.here hx rfl (hb hby dd9_12) rfl (XT.ii_ge_f (by decide))) ?_
  show own_G p e below (s₁.setTop (mkF m 15 #[rv ob_12, rv ob_1120, iv 8] [])) _
  refine oS (fun _ => XS.aloadN X0.here hx rfl (hb hby dd9_15) rfl rfl) ?_
  refine oS (fun _ => XS.iloadN X0.here hx rfl (hb hby dd9_16) rfl) ?_
  refine oS (own_baload X0 hx hZ e0 F1313 (by decide) (v := (.int 101)) rfl rfl rfl (hb hby dd9_17)) ?_
  show own_G p e below (s₁.setTop (mkF m 18 #[rv ob_12, rv ob_1120, iv 8] [(.int 101)])) _
  refine oS (fun _ => XS.aloadN X0.here hx rfl (hb hby dd9_18) rfl rfl) ?_
  refine oS (fun _ => XS.iloadN X0.here hx rfl (hb hby dd9_19) rfl) ?_
  refine oS (own_baload X0 hx hZ e0 I1315 (by decide) (v := (.int 101)) rfl rfl rfl (hb hby dd9_20)) ?_
  show own_G p e below (s₁.setTop (mkF m 21 #[rv ob_12, rv ob_1120, iv 8] [(.int 101), (.int 101)])) _
  refine oS (fun _ => XS.icmpYes X0.here hx rfl (pc0 := 21) (pc' := 26) rfl (hb hby dd9_21) rfl (XT.ii_eq_t (by decide)) (by decide) (by decide)) ?_
  show own_G p e below (s₁.setTop (mkF m 26 #[rv ob_12, rv ob_1120, iv 8] [])) _
  refine oS (fun _ => XS.iinc X0.here hx rfl (hb hby dd9_26) rfl (l' := #[rv ob_12, rv ob_1120, iv 9]) rfl) ?_
  show own_G p e below (s₁.setTop (mkF m 29 #[rv ob_12, rv ob_1120, iv 9] [])) _
  refine oS (fun _ => XS.goto X0.here hx rfl (pc0 := 29) (pc' := 9) rfl (hb hby dd9_29) (by decide) (by decide)) ?_
  show own_G p e below (s₁.setTop (mkF m 9 #[rv ob_12, rv ob_1120, iv 9] [])) _
  refine oS (fun _ => XS.iloadN X0.here hx rfl (hb hby dd9_9) rfl) ?_
  refine oS (fun _ => XS.aloadN X0.here hx rfl (hb hby dd9_10) rfl rfl) ?_
  refine oS (own_len X0 hx hZ e0 F1313 rfl rfl (hb hby dd9_11)) ?_
  show own_G p e below (s₁.setTop (mkF m 12 #[rv ob_12, rv ob_1120, iv 9] [(.int 10), (.int 9)])) _
  refine oS (fun _ => XS.icmpNo X0.here hx rfl (hb hby dd9_12) rfl (XT.ii_ge_f (by decide))) ?_
  show own_G p e below (s₁.setTop (mkF m 15 #[rv ob_12, rv ob_1120, iv 9] [])) _
  refine oS (fun _ => XS.aloadN X0.here hx rfl (hb hby dd9_15) rfl rfl) ?_
  refine oS (fun _ => XS.iloadN X0.here hx rfl (hb hby dd9_16) rfl) ?_
  refine oS (own_baload X0 hx hZ e0 F1313 (by decide) (v := (.int 100)) rfl rfl rfl (hb hby dd9_17)) ?_
  show own_G p e below (s₁.setTop (mkF m 18 #[rv ob_12, rv ob_1120, iv 9] [(.int 100)])) _
  refine oS (fun _ => XS.aloadN X0.here hx rfl (hb hby dd9_18) rfl rfl) ?_
  refine oS (fun _ => XS.iloadN X0.here hx rfl (hb hby dd9_19) rfl) ?_
  refine oS (own_baload X0 hx hZ e0 I1315 (by decide) (v := (.int 100)) rfl rfl rfl (hb hby dd9_20)) ?_
  show own_G p e below (s₁.setTop (mkF m 21 #[rv ob_12, rv ob_1120, iv 9] [(.int 100), (.int 100)])) _
  refine oS (fun _ => XS.icmpYes X0.here hx rfl (pc0 := 21) (pc' := 26) rfl (hb hby dd9_21) rfl (XT.ii_eq_t (by decide)) (by decide) (by decide)) ?_
  show own_G p e below (s₁.setTop (mkF m 26 #[rv ob_12, rv ob_1120, iv 9] [])) _
  refine oS (fun _ => XS.iinc X0.here hx rfl (hb hby dd9_26) rfl (l' := #[rv ob_12, rv ob_1120, iv 10]) rfl) ?_
  show own_G p e below (s₁.setTop (mkF m 29 #[rv ob_12, rv ob_1120, iv 10] [])) _
  refine oS (fun _ => XS.goto X0.here hx rfl (pc0 := 29) (pc' := 9) rfl (hb hby dd9_29) (by decide) (by decide)) ?_
  show own_G p e below (s₁.setTop (mkF m 9 #[rv ob_12, rv ob_1120, iv 10] [])) _
  refine oS (fun _ => XS.iloadN X0.here hx rfl (hb hby dd9_9) rfl) ?_
  refine oS (fun _ => XS.aloadN X0.here hx rfl (hb hby dd9_10) rfl rfl) ?_
  refine oS (own_len X0 hx hZ e0 F1313 rfl rfl (hb hby dd9_11)) ?_
  show own_G p e below (s₁.setTop (mkF m 12 #[rv ob_12, rv ob_1120, iv 10] [(.int 10), (.int 10)])) _
  refine oS (fun _ => XS.icmpYes X0.here hx rfl (pc0 := 12) (pc' := 32) rfl (hb hby dd9_12) rfl (XT.ii_ge_t (by decide)) (by decide) (by decide)) ?_
  show own_G p e below (s₁.setTop (mkF m 32 #[rv ob_12, rv ob_1120, iv 10] [])) _
  refine oS (fun _ => XS.iconst X0.here hx rfl (hb hby dd9_32) ) ?_
  exact own_retN X0 hx (t := .boolean) Bd.notSynchronized Bd.returns (by simp) (hb hby dd9_33) (by decide) e0 (by decide) (by decide) (⟨rfl, N0, rfl⟩)
def own_Q24 (Z : State) (ob_11 : Nat) (ob_671 : Nat) (in_2 : Int32) (ob_12 : Nat) (ob_1120 : Nat) (kk_13 : ClassId) (kk_1121 : ClassId) (h0 : Heap) (n0 : Nat) (v : Option Value) (h : Heap) (L : List Loc) : Prop := (v = some (.int 1) ∧ Fr n0 L ∧ h = h0)
set_option maxRecDepth 65536 in
set_option maxHeartbeats 40000000 in
theorem own_rm24 (l : Launch) (Z : State) (a0 : Array Value) (hw : ∀ d ∈ tables_1, d.before a0 Z = true) (ws : List Jvm.Cond) (ob_11 : Nat) (ob_671 : Nat) (in_2 : Int32) (ob_12 : Nat) (ob_1120 : Nat) (kk_13 : ClassId) (kk_1121 : ClassId) (h0 : Heap) (n0 : Nat) (Z0 : n0 ≤ h0.size) (O0 : Old Z n0 h0) (I1266 : Exa Z Z.heap ob_11 "java/lang/String") (I1270 : n0 ≤ ob_671) (I1276 : Exa Z h0 ob_671 "java/lang/String") (I1281 : Sta Z Z.heap "java/lang/String" "COMPACT_STRINGS" "Z" (.int in_2)) (I1287 : ¬ (in_2 = 0)) (I1288 : Fld Z Z.heap ob_11 "java/lang/String" "coder" "B" (.int 0)) (I1294 : Fld Z h0 ob_671 "java/lang/String" "coder" "B" (.int 0)) (I1299 : Fld Z Z.heap ob_11 "java/lang/String" "value" "[B" (.ref ob_12)) (I1305 : Fld Z h0 ob_671 "java/lang/String" "value" "[B" (.ref ob_1120)) (I1310 : Arv Z Z.heap ob_12 kk_13 FieldType.byte 10 [(.int 114), (.int 101), (.int 103), (.int 105), (.int 115), (.int 116), (.int 101), (.int 114), (.int 101), (.int 100)] (.int 0)) (I1314 : Arv Z h0 ob_1120 kk_1121 .byte 10 [(.int 114), (.int 101), (.int 103), (.int 105), (.int 115), (.int 116), (.int 101), (.int 114), (.int 101), (.int 100)] (.int 0)) :
    own_Met l Z h0 (⟨"java/lang/String", "equals", "(Ljava/lang/Object;)Z"⟩ : MethodName) jdk_42_method_66_code 3 (Option.some FieldType.boolean) ws ({ frames := 1, cells := 0, slots := 0, locals := 14 } : Room) #[(.ref ob_11), (.ref ob_671)] (own_Q24 Z ob_11 ob_671 in_2 ob_12 ob_1120 kk_13 kk_1121 h0 n0) 0 0 := by
  refine MetFree.of_bodySF own_pn8 hisR ?_
  intro p e s m args below meth c s₁ Bd hml0 hP hK
  obtain ⟨rfl, hZ, hh⟩ := hP
  have hx := Bd.exec
  have hby := Bd.bytes
  have hml : c.maxLocals = 3 := hml0
  have hown : s.vm.findClass "java/lang/String" = some m.cls := findClass_of_methodNamed Bd.named
  have hnm := (name_of_methodNamed Bd.named Bd.method).1
  have X0 : Stand p l e ({ frames := 1, cells := 0, slots := 0, locals := 14 } : Room) s m #[(.ref ob_11), (.ref ob_671)] below meth c s₁ [] 0 0 := Stand.of_body Bd
  have e0 : s₁.heap = h0 := by rw [← hh, Bd.state]; rfl
  have N0 := Fr.nil n0
  show own_G p e below (s₁.setTop (entryFrame m #[(.ref ob_11), (.ref ob_671)] 3)) (own_P s (own_Q24 Z ob_11 ob_671 in_2 ob_12 ob_1120 kk_13 kk_1121 h0 n0) 0 0)
  refine own_cast (own_ef9 m ob_11 ob_671) ?_
  show own_G p e below (s₁.setTop (mkF m 0 #[rv ob_11, rv ob_671, .unset] [])) _
  refine oS (fun _ => XS.aloadN X0.here hx rfl (hb hby dd8_0) rfl rfl) ?_
  refine oS (fun _ => XS.aloadN X0.here hx rfl (hb hby dd8_1) rfl rfl) ?_
  have y1267 : @LT.lt Nat instLTNat ob_11 Z.heap.size := I1266.lt
  have y1268 : Z.heap.size = n0 := O0.1
  have y1269 := I1270
  have N1271 : @Ne Nat ob_11 ob_671 := by omega
  refine oS (fun _ => XT.acmpYes X0.here hx rfl (pc0 := 2) (pc' := 7) rfl (hb hby dd8_2) rfl rfl rfl (XT.aa_ne_t (own_rne N1271)) (by decide) (by decide)) ?_
  show own_G p e below (s₁.setTop (mkF m 7 #[rv ob_11, rv ob_671, .unset] [])) _
  refine oS (fun _ => XS.aloadN X0.here hx rfl (hb hby dd8_7) rfl rfl) ?_
  obtain ⟨T1272, X1273, e1274, s1275⟩ := instY X0 hx hZ hown (oW hw 65 rfl) e0 (Ins.self I1276) (g := (mkF m 8 #[rv ob_11, rv ob_671, .unset] [(.ref ob_671)])) rfl rfl (hb hby dd8_8)
  refine oS s1275 ?_
  show own_G p e below (T1272.setTop (mkF m 11 #[rv ob_11, rv ob_671, .unset] [(.int 1)])) _
  refine oS (fun _ => XS.ifNo X1273.here hx rfl (hb hby dd8_11) rfl (XT.i0_eq_f (by decide))) ?_
  show own_G p e below (T1272.setTop (mkF m 14 #[rv ob_11, rv ob_671, .unset] [])) _
  refine oS (fun _ => XS.aloadN X1273.here hx rfl (hb hby dd8_14) rfl rfl) ?_
  obtain ⟨T1277, X1278, e1279, s1280⟩ := castY X1273 hx hZ hown (oW hw 65 rfl) e1274 (Ins.self I1276) (g := (mkF m 15 #[rv ob_11, rv ob_671, .unset] [(.ref ob_671)])) rfl rfl (hb hby dd8_15)
  refine oS s1280 ?_
  show own_G p e below (T1277.setTop (mkF m 18 #[rv ob_11, rv ob_671, .unset] [(.ref ob_671)])) _
  refine oS (fun _ => XS.astoreN X1278.here hx rfl (hb hby dd8_18) rfl rfl (l' := #[rv ob_11, rv ob_671, rv ob_671]) rfl) ?_
  have F1282 : Sta Z h0 "java/lang/String" "COMPACT_STRINGS" "Z" (.int in_2) := Sta.ext O0.2 I1281
  obtain ⟨T1283, X1284, e1285, s1286⟩ := getS X1278 hx hZ hown (host := "") (oW hw 22 rfl) Via.refl e1279 F1282 (g := (mkF m 19 #[rv ob_11, rv ob_671, rv ob_671] [])) rfl (hb hby dd8_19)
  refine oS s1286 ?_
  show own_G p e below (T1283.setTop (mkF m 22 #[rv ob_11, rv ob_671, rv ob_671] [(.int in_2)])) _
  refine oS (fun _ => XS.ifNo X1284.here hx rfl (hb hby dd8_22) rfl (XT.i0_eq_f I1287)) ?_
  show own_G p e below (T1283.setTop (mkF m 25 #[rv ob_11, rv ob_671, rv ob_671] [])) _
  refine oS (fun _ => XS.aloadN X1284.here hx rfl (hb hby dd8_25) rfl rfl) ?_
  have F1289 : Fld Z h0 ob_11 "java/lang/String" "coder" "B" (.int 0) := Fld.ext O0.2 I1288
  obtain ⟨T1290, X1291, e1292, s1293⟩ := getF X1284 hx hZ hown (host := "") (Or.inl (oW hw 34 rfl)) Via.refl e1285 F1289 (g := (mkF m 26 #[rv ob_11, rv ob_671, rv ob_671] [(.ref ob_11)])) rfl rfl (hb hby dd8_26)
  refine oS s1293 ?_
  show own_G p e below (T1290.setTop (mkF m 29 #[rv ob_11, rv ob_671, rv ob_671] [(.int 0)])) _
  refine oS (fun _ => XS.aloadN X1291.here hx rfl (hb hby dd8_29) rfl rfl) ?_
  obtain ⟨T1295, X1296, e1297, s1298⟩ := getF X1291 hx hZ hown (host := "") (Or.inl (oW hw 34 rfl)) Via.refl e1292 I1294 (g := (mkF m 30 #[rv ob_11, rv ob_671, rv ob_671] [(.ref ob_671), (.int 0)])) rfl rfl (hb hby dd8_30)
  refine oS s1298 ?_
  show own_G p e below (T1295.setTop (mkF m 33 #[rv ob_11, rv ob_671, rv ob_671] [(.int 0), (.int 0)])) _
  refine oS (fun _ => XS.icmpNo X1296.here hx rfl (hb hby dd8_33) rfl (XT.ii_ne_f (by decide))) ?_
  show own_G p e below (T1295.setTop (mkF m 36 #[rv ob_11, rv ob_671, rv ob_671] [])) _
  refine oS (fun _ => XS.aloadN X1296.here hx rfl (hb hby dd8_36) rfl rfl) ?_
  have F1300 : Fld Z h0 ob_11 "java/lang/String" "value" "[B" (.ref ob_12) := Fld.ext O0.2 I1299
  obtain ⟨T1301, X1302, e1303, s1304⟩ := getF X1296 hx hZ hown (host := "") (Or.inl (oW hw 36 rfl)) Via.refl e1297 F1300 (g := (mkF m 37 #[rv ob_11, rv ob_671, rv ob_671] [(.ref ob_11)])) rfl rfl (hb hby dd8_37)
  refine oS s1304 ?_
  show own_G p e below (T1301.setTop (mkF m 40 #[rv ob_11, rv ob_671, rv ob_671] [(.ref ob_12)])) _
  refine oS (fun _ => XS.aloadN X1302.here hx rfl (hb hby dd8_40) rfl rfl) ?_
  obtain ⟨T1306, X1307, e1308, s1309⟩ := getF X1302 hx hZ hown (host := "") (Or.inl (oW hw 36 rfl)) Via.refl e1303 I1305 (g := (mkF m 41 #[rv ob_11, rv ob_671, rv ob_671] [(.ref ob_671), (.ref ob_12)])) rfl rfl (hb hby dd8_41)
  refine oS s1309 ?_
  show own_G p e below (T1306.setTop (mkF m 44 #[rv ob_11, rv ob_671, rv ob_671] [(.ref ob_1120), (.ref ob_12)])) _
  have F1311 : Arv Z h0 ob_12 kk_13 FieldType.byte 10 [(.int 114), (.int 101), (.int 103), (.int 105), (.int 115), (.int 116), (.int 101), (.int 114), (.int 101), (.int 100)] (.int 0) := I1310.ext O0.2
  obtain ⟨T1316, h1317, v1318, L1319, X1320, e1321, q1322, s1323⟩ := own_callS X1307 hx hZ hown e1308 (y := (⟨"java/lang/StringLatin1", "equals", "([B[B)Z"⟩ : MethodName)) (oW hw 66 rfl) (oW hw 67 rfl) (oW hw 68 rfl) (oW hw 69 rfl) (by decide) (W := 0) (own_rm25 l Z a0 hw [] ob_12 ob_1120 kk_13 kk_1121 h0 n0 Z0 O0 I1310 I1314) (by decide) (by decide) (by decide) (by decide) (g := (mkF m 44 #[rv ob_11, rv ob_671, rv ob_671] [(.ref ob_1120), (.ref ob_12)])) rfl (by rw [hml]; rfl) (argsL := [(.ref ob_12), (.ref ob_1120)]) (rest := []) rfl (lenOf own_pd7 rfl) rfl (by show 2 * 0 + _ ≤ _; exact Nat.le_of_eq rfl) (hb hby dd8_44)
  refine oS s1323 ?_
  obtain ⟨rfl, N1324, K1325⟩ := q1322
  have N1326 := Fr.app N0 N1324
  have e1327 := e1321.trans K1325
  show own_G p e below (T1316.setTop (mkF m 47 #[rv ob_11, rv ob_671, rv ob_671] [(.int 1)])) _
  refine oS (fun _ => XS.ifNo X1320.here hx rfl (hb hby dd8_47) rfl (XT.i0_eq_f (by decide))) ?_
  show own_G p e below (T1316.setTop (mkF m 50 #[rv ob_11, rv ob_671, rv ob_671] [])) _
  refine oS (fun _ => XS.iconst X1320.here hx rfl (hb hby dd8_50) ) ?_
  refine oS (fun _ => XS.goto X1320.here hx rfl (pc0 := 51) (pc' := 55) rfl (hb hby dd8_51) (by decide) (by decide)) ?_
  show own_G p e below (T1316.setTop (mkF m 55 #[rv ob_11, rv ob_671, rv ob_671] [(.int 1)])) _
  exact own_retN X1320 hx (t := .boolean) Bd.notSynchronized Bd.returns (by simp) (hb hby dd8_55) (by decide) e1327 (by decide) (by decide) (⟨rfl, N1326, rfl⟩)
def own_Q21 (Z : State) (ob_671 : Nat) (ob_5 : Nat) (kk_17 : ClassId) (ob_4 : Nat) (ob_6 : Nat) (ob_7 : Nat) (ob_8 : Nat) (in_2 : Int32) (ob_9 : Nat) (ob_1120 : Nat) (kk_10 : ClassId) (kk_1121 : ClassId) (ob_11 : Nat) (ob_12 : Nat) (kk_13 : ClassId) (h0 : Heap) (n0 : Nat) (v : Option Value) (h : Heap) (L : List Loc) : Prop := (v = some (.ref ob_6) ∧ Fr n0 L ∧ Keep h0 h [])
set_option maxRecDepth 65536 in
set_option maxHeartbeats 40000000 in
theorem own_rm21 (l : Launch) (Z : State) (a0 : Array Value) (hw : ∀ d ∈ tables_1, d.before a0 Z = true) (ws : List Jvm.Cond) (ob_671 : Nat) (ob_5 : Nat) (kk_17 : ClassId) (ob_4 : Nat) (ob_6 : Nat) (ob_7 : Nat) (ob_8 : Nat) (in_2 : Int32) (ob_9 : Nat) (ob_1120 : Nat) (kk_10 : ClassId) (kk_1121 : ClassId) (ob_11 : Nat) (ob_12 : Nat) (kk_13 : ClassId) (h0 : Heap) (n0 : Nat) (Z0 : n0 ≤ h0.size) (O0 : Old Z n0 h0) (I1133 : Sta Z Z.heap "com/example/vestibule/vestibule/datacite/DoiState" "$VALUES" "[Lcom/example/vestibule/vestibule/datacite/DoiState;" (.ref ob_5)) (I1134 : Arv Z Z.heap ob_5 kk_17 (FieldType.object "com/example/vestibule/vestibule/datacite/DoiState") 3 [(.ref ob_4), (.ref ob_6), (.ref ob_7)] .null) (I1135 : Exa Z Z.heap ob_5 "[Lcom/example/vestibule/vestibule/datacite/DoiState;") (I1153 : Fld Z Z.heap ob_4 "com/example/vestibule/vestibule/datacite/DoiState" "key" "Ljava/lang/String;" (.ref ob_8)) (I1160 : Exa Z Z.heap ob_8 "java/lang/String") (I1161 : n0 ≤ ob_671) (I1162 : Exa Z h0 ob_671 "java/lang/String") (I1164 : Sta Z Z.heap "java/lang/String" "COMPACT_STRINGS" "Z" (.int in_2)) (I1165 : ¬ (in_2 = 0)) (I1166 : Fld Z Z.heap ob_8 "java/lang/String" "coder" "B" (.int 0)) (I1167 : Fld Z h0 ob_671 "java/lang/String" "coder" "B" (.int 0)) (I1169 : Fld Z Z.heap ob_8 "java/lang/String" "value" "[B" (.ref ob_9)) (I1170 : Fld Z h0 ob_671 "java/lang/String" "value" "[B" (.ref ob_1120)) (I1172 : Arv Z Z.heap ob_9 kk_10 FieldType.byte 5 [(.int 100), (.int 114), (.int 97), (.int 102), (.int 116)] (.int 0)) (I1173 : Arv Z h0 ob_1120 kk_1121 .byte 10 [(.int 114), (.int 101), (.int 103), (.int 105), (.int 115), (.int 116), (.int 101), (.int 114), (.int 101), (.int 100)] (.int 0)) (I1252 : Fld Z Z.heap ob_6 "com/example/vestibule/vestibule/datacite/DoiState" "key" "Ljava/lang/String;" (.ref ob_11)) (I1259 : Exa Z Z.heap ob_11 "java/lang/String") (I1261 : Fld Z Z.heap ob_11 "java/lang/String" "coder" "B" (.int 0)) (I1263 : Fld Z Z.heap ob_11 "java/lang/String" "value" "[B" (.ref ob_12)) (I1265 : Arv Z Z.heap ob_12 kk_13 FieldType.byte 10 [(.int 114), (.int 101), (.int 103), (.int 105), (.int 115), (.int 116), (.int 101), (.int 114), (.int 101), (.int 100)] (.int 0)) :
    own_Met l Z h0 (⟨"com/example/vestibule/vestibule/datacite/DoiState", "ofKey", "(Ljava/lang/String;)Lcom/example/vestibule/vestibule/datacite/DoiState;"⟩ : MethodName) prog_48_method_5_code 5 (Option.some (FieldType.object "com/example/vestibule/vestibule/datacite/DoiState")) ws ({ frames := 2, cells := 1, slots := 3, locals := 28 } : Room) #[(.ref ob_671)] (own_Q21 Z ob_671 ob_5 kk_17 ob_4 ob_6 ob_7 ob_8 in_2 ob_9 ob_1120 kk_10 kk_1121 ob_11 ob_12 kk_13 h0 n0) 1 3 := by
  refine MetFree.of_bodySF own_pn9 hisR ?_
  intro p e s m args below meth c s₁ Bd hml0 hP hK
  obtain ⟨rfl, hZ, hh⟩ := hP
  have hx := Bd.exec
  have hby := Bd.bytes
  have hml : c.maxLocals = 5 := hml0
  have hown : s.vm.findClass "com/example/vestibule/vestibule/datacite/DoiState" = some m.cls := findClass_of_methodNamed Bd.named
  have hnm := (name_of_methodNamed Bd.named Bd.method).1
  have X0 : Stand p l e ({ frames := 2, cells := 1, slots := 3, locals := 28 } : Room) s m #[(.ref ob_671)] below meth c s₁ [] 0 0 := Stand.of_body Bd
  have e0 : s₁.heap = h0 := by rw [← hh, Bd.state]; rfl
  have N0 := Fr.nil n0
  show own_G p e below (s₁.setTop (entryFrame m #[(.ref ob_671)] 5)) (own_P s (own_Q21 Z ob_671 ob_5 kk_17 ob_4 ob_6 ob_7 ob_8 in_2 ob_9 ob_1120 kk_10 kk_1121 ob_11 ob_12 kk_13 h0 n0) 1 3)
  refine own_cast (own_ef7 m ob_671) ?_
  show own_G p e below (s₁.setTop (mkF m 0 #[rv ob_671, .unset, .unset, .unset, .unset] [])) _
  obtain ⟨T1136, h1137, v1138, L1139, X1140, e1141, q1142, s1143⟩ := own_callS X0 hx hZ hown e0 (y := (⟨"com/example/vestibule/vestibule/datacite/DoiState", "values", "()[Lcom/example/vestibule/vestibule/datacite/DoiState;"⟩ : MethodName)) (oW hw 41 rfl) (oW hw 42 rfl) (oW hw 2 rfl) (oW hw 43 rfl) (by decide) (W := 0) (own_rm9 l Z a0 hw [] ob_5 kk_17 ob_4 ob_6 ob_7 h0 n0 Z0 O0 I1133 I1134 I1135) (by decide) (by decide) (by decide) (by decide) (g := (mkF m 0 #[rv ob_671, .unset, .unset, .unset, .unset] [])) rfl (by rw [hml]; rfl) (argsL := []) (rest := []) rfl (lenOf own_pd6 rfl) rfl (by show 2 * 0 + _ ≤ _; exact Nat.le_of_eq rfl) (hb hby dd7_0)
  refine oS s1143 ?_
  obtain ⟨ob_1144, rfl, N1145, K1146, F1147, F1148, F1149, F1150⟩ := q1142
  have N1151 := Fr.app N0 N1145
  have z1152 := K1146.1
  show own_G p e below (T1136.setTop (mkF m 3 #[rv ob_671, .unset, .unset, .unset, .unset] [(.ref ob_1144)])) _
  refine oS (fun _ => XS.astoreN X1140.here hx rfl (hb hby dd7_3) rfl rfl (l' := #[rv ob_671, rv ob_1144, .unset, .unset, .unset]) rfl) ?_
  refine oS (fun _ => XS.aloadN X1140.here hx rfl (hb hby dd7_4) rfl rfl) ?_
  refine oS (own_len X1140 hx hZ e1141 F1148 rfl rfl (hb hby dd7_5)) ?_
  show own_G p e below (T1136.setTop (mkF m 6 #[rv ob_671, rv ob_1144, .unset, .unset, .unset] [(.int 3)])) _
  refine oS (fun _ => XS.istoreN X1140.here hx rfl (hb hby dd7_6) rfl (l' := #[rv ob_671, rv ob_1144, iv 3, .unset, .unset]) rfl) ?_
  refine oS (fun _ => XS.iconst X1140.here hx rfl (hb hby dd7_7) ) ?_
  refine oS (fun _ => XS.istoreN X1140.here hx rfl (hb hby dd7_8) rfl (l' := #[rv ob_671, rv ob_1144, iv 3, iv 0, .unset]) rfl) ?_
  refine oS (fun _ => XS.iloadN X1140.here hx rfl (hb hby dd7_9) rfl) ?_
  show own_G p e below (T1136.setTop (mkF m 10 #[rv ob_671, rv ob_1144, iv 3, iv 0, .unset] [(.int 0)])) _
  refine oS (fun _ => XS.iloadN X1140.here hx rfl (hb hby dd7_10) rfl) ?_
  refine oS (fun _ => XS.icmpNo X1140.here hx rfl (hb hby dd7_11) rfl (XT.ii_ge_f (by decide))) ?_
  show own_G p e below (T1136.setTop (mkF m 14 #[rv ob_671, rv ob_1144, iv 3, iv 0, .unset] [])) _
  refine oS (fun _ => XS.aloadN X1140.here hx rfl (hb hby dd7_14) rfl rfl) ?_
  refine oS (fun _ => XS.iloadN X1140.here hx rfl (hb hby dd7_15) rfl) ?_
  refine oS (own_aaload X1140 hx hZ e1141 F1148 rfl (by decide) (v := (.ref ob_4)) rfl rfl rfl (hb hby dd7_16)) ?_
  show own_G p e below (T1136.setTop (mkF m 17 #[rv ob_671, rv ob_1144, iv 3, iv 0, .unset] [(.ref ob_4)])) _
  refine oS (fun _ => XS.astore X1140.here hx rfl (hb hby dd7_17) rfl rfl (l' := #[rv ob_671, rv ob_1144, iv 3, iv 0, rv ob_4]) rfl) ?_
  refine oS (fun _ => XS.aload X1140.here hx rfl (hb hby dd7_19) rfl rfl) ?_
  have O1155 : Old Z n0 h1137 := O0.keep K1146 all0
  have F1154 : Fld Z h1137 ob_4 "com/example/vestibule/vestibule/datacite/DoiState" "key" "Ljava/lang/String;" (.ref ob_8) := Fld.ext O1155.2 I1153
  obtain ⟨T1156, X1157, e1158, s1159⟩ := getF X1140 hx hZ hown (host := "") (Or.inl (oW hw 58 rfl)) Via.refl e1141 F1154 (g := (mkF m 21 #[rv ob_671, rv ob_1144, iv 3, iv 0, rv ob_4] [(.ref ob_4)])) rfl rfl (hb hby dd7_21)
  refine oS s1159 ?_
  show own_G p e below (T1156.setTop (mkF m 24 #[rv ob_671, rv ob_1144, iv 3, iv 0, rv ob_4] [(.ref ob_8)])) _
  refine oS (fun _ => XS.aloadN X1157.here hx rfl (hb hby dd7_24) rfl rfl) ?_
  have F1163 : Exa Z h1137 ob_671 "java/lang/String" := I1162.keep K1146
  have F1168 : Fld Z h1137 ob_671 "java/lang/String" "coder" "B" (.int 0) := I1167.keep K1146 nin0
  have F1171 : Fld Z h1137 ob_671 "java/lang/String" "value" "[B" (.ref ob_1120) := I1170.keep K1146 nin0
  have F1174 : Arv Z h1137 ob_1120 kk_1121 .byte 10 [(.int 114), (.int 101), (.int 103), (.int 105), (.int 115), (.int 116), (.int 101), (.int 114), (.int 101), (.int 100)] (.int 0) := I1173.keep K1146 nin0
  have Z1237 : n0 ≤ h1137.size := by omega
  have F1246 : Exa Z h1137 ob_8 "java/lang/String" := Exa.ext O1155.2 I1160
  obtain ⟨T1238, h1239, v1240, L1241, X1242, e1243, q1244, s1245⟩ := own_callV X1157 hx hZ hown e1158 (y := (⟨"java/lang/String", "equals", "(Ljava/lang/Object;)Z"⟩ : MethodName)) (z := (⟨"java/lang/String", "equals", "(Ljava/lang/Object;)Z"⟩ : MethodName)) (C := "java/lang/String") (b := ob_8) (oW hw 60 rfl) (oW hw 61 rfl) (notFace_of_selects (args := #[]) (mvT hZ (oW hw 63 rfl))) (oW hw 63 rfl) (oW hw 62 rfl) (oW hw 6 rfl) (oW hw 64 rfl) (by decide) F1246 (W := 0) (own_rm22 l Z a0 hw [] ob_8 ob_671 in_2 ob_9 ob_1120 kk_10 kk_1121 h1137 n0 Z1237 O1155 I1160 I1161 F1163 I1164 I1165 I1166 F1168 I1169 F1171 I1172 F1174) (by decide) (by decide) (by decide) (by decide) (g := (mkF m 25 #[rv ob_671, rv ob_1144, iv 3, iv 0, rv ob_4] [(.ref ob_671), (.ref ob_8)])) rfl (by rw [hml]; rfl) (argsL := [(.ref ob_671)]) (rest := []) rfl (lenOf own_pd8 rfl) rfl (by show 2 * 0 + _ ≤ _; exact Nat.le_of_eq rfl) (hb hby dd7_25)
  refine oS s1245 ?_
  obtain ⟨rfl, N1247, K1248⟩ := q1244
  have N1249 := Fr.app N1151 N1247
  have e1250 := e1243.trans K1248
  show own_G p e below (T1238.setTop (mkF m 28 #[rv ob_671, rv ob_1144, iv 3, iv 0, rv ob_4] [(.int 0)])) _
  refine oS (fun _ => XS.ifYes X1242.here hx rfl (pc0 := 28) (pc' := 34) rfl (hb hby dd7_28) rfl (XT.i0_eq_t (by decide)) (by decide) (by decide)) ?_
  show own_G p e below (T1238.setTop (mkF m 34 #[rv ob_671, rv ob_1144, iv 3, iv 0, rv ob_4] [])) _
  refine oS (fun _ => XS.iinc X1242.here hx rfl (hb hby dd7_34) rfl (l' := #[rv ob_671, rv ob_1144, iv 3, iv 1, rv ob_4]) rfl) ?_
  show own_G p e below (T1238.setTop (mkF m 37 #[rv ob_671, rv ob_1144, iv 3, iv 1, rv ob_4] [])) _
  refine oS (fun _ => XS.goto X1242.here hx rfl (pc0 := 37) (pc' := 9) rfl (hb hby dd7_37) (by decide) (by decide)) ?_
  show own_G p e below (T1238.setTop (mkF m 9 #[rv ob_671, rv ob_1144, iv 3, iv 1, rv ob_4] [])) _
  refine oS (fun _ => XS.iloadN X1242.here hx rfl (hb hby dd7_9) rfl) ?_
  refine oS (fun _ => XS.iloadN X1242.here hx rfl (hb hby dd7_10) rfl) ?_
  refine oS (fun _ => XS.icmpNo X1242.here hx rfl (hb hby dd7_11) rfl (XT.ii_ge_f (by decide))) ?_
  show own_G p e below (T1238.setTop (mkF m 14 #[rv ob_671, rv ob_1144, iv 3, iv 1, rv ob_4] [])) _
  refine oS (fun _ => XS.aloadN X1242.here hx rfl (hb hby dd7_14) rfl rfl) ?_
  refine oS (fun _ => XS.iloadN X1242.here hx rfl (hb hby dd7_15) rfl) ?_
  refine oS (own_aaload X1242 hx hZ e1250 F1148 rfl (by decide) (v := (.ref ob_6)) rfl rfl rfl (hb hby dd7_16)) ?_
  show own_G p e below (T1238.setTop (mkF m 17 #[rv ob_671, rv ob_1144, iv 3, iv 1, rv ob_4] [(.ref ob_6)])) _
  refine oS (fun _ => XS.astore X1242.here hx rfl (hb hby dd7_17) rfl rfl (l' := #[rv ob_671, rv ob_1144, iv 3, iv 1, rv ob_6]) rfl) ?_
  refine oS (fun _ => XS.aload X1242.here hx rfl (hb hby dd7_19) rfl rfl) ?_
  have F1253 : Fld Z h1137 ob_6 "com/example/vestibule/vestibule/datacite/DoiState" "key" "Ljava/lang/String;" (.ref ob_11) := Fld.ext O1155.2 I1252
  obtain ⟨T1254, X1255, e1256, s1257⟩ := getF X1242 hx hZ hown (host := "") (Or.inl (oW hw 58 rfl)) Via.refl e1250 F1253 (g := (mkF m 21 #[rv ob_671, rv ob_1144, iv 3, iv 1, rv ob_6] [(.ref ob_6)])) rfl rfl (hb hby dd7_21)
  refine oS s1257 ?_
  show own_G p e below (T1254.setTop (mkF m 24 #[rv ob_671, rv ob_1144, iv 3, iv 1, rv ob_6] [(.ref ob_11)])) _
  refine oS (fun _ => XS.aloadN X1255.here hx rfl (hb hby dd7_24) rfl rfl) ?_
  have Z1328 : n0 ≤ h1137.size := by omega
  have F1337 : Exa Z h1137 ob_11 "java/lang/String" := Exa.ext O1155.2 I1259
  obtain ⟨T1329, h1330, v1331, L1332, X1333, e1334, q1335, s1336⟩ := own_callV X1255 hx hZ hown e1256 (y := (⟨"java/lang/String", "equals", "(Ljava/lang/Object;)Z"⟩ : MethodName)) (z := (⟨"java/lang/String", "equals", "(Ljava/lang/Object;)Z"⟩ : MethodName)) (C := "java/lang/String") (b := ob_11) (oW hw 60 rfl) (oW hw 61 rfl) (notFace_of_selects (args := #[]) (mvT hZ (oW hw 63 rfl))) (oW hw 63 rfl) (oW hw 62 rfl) (oW hw 6 rfl) (oW hw 64 rfl) (by decide) F1337 (W := 0) (own_rm24 l Z a0 hw [] ob_11 ob_671 in_2 ob_12 ob_1120 kk_13 kk_1121 h1137 n0 Z1328 O1155 I1259 I1161 F1163 I1164 I1165 I1261 F1168 I1263 F1171 I1265 F1174) (by decide) (by decide) (by decide) (by decide) (g := (mkF m 25 #[rv ob_671, rv ob_1144, iv 3, iv 1, rv ob_6] [(.ref ob_671), (.ref ob_11)])) rfl (by rw [hml]; rfl) (argsL := [(.ref ob_671)]) (rest := []) rfl (lenOf own_pd8 rfl) rfl (by show 2 * 0 + _ ≤ _; exact Nat.le_of_eq rfl) (hb hby dd7_25)
  refine oS s1336 ?_
  obtain ⟨rfl, N1338, K1339⟩ := q1335
  have N1340 := Fr.app N1249 N1338
  have e1341 := e1334.trans K1339
  show own_G p e below (T1329.setTop (mkF m 28 #[rv ob_671, rv ob_1144, iv 3, iv 1, rv ob_6] [(.int 1)])) _
  refine oS (fun _ => XS.ifNo X1333.here hx rfl (hb hby dd7_28) rfl (XT.i0_eq_f (by decide))) ?_
  show own_G p e below (T1329.setTop (mkF m 31 #[rv ob_671, rv ob_1144, iv 3, iv 1, rv ob_6] [])) _
  refine oS (fun _ => XS.aload X1333.here hx rfl (hb hby dd7_31) rfl rfl) ?_
  have K1342 : Keep h0 h1137 [] := ((Keep.refl h0 []).trans K1146 all0)
  exact own_retA X1333 hx Bd.notSynchronized Bd.returns rfl rfl (hb hby dd7_33) e1341 (by decide) (by decide) (⟨rfl, N1340, K1342⟩)
def own_Q27 (Z : State) (ob_1120 : Nat) (ob_12 : Nat) (kk_1121 : ClassId) (kk_13 : ClassId) (h0 : Heap) (n0 : Nat) (v : Option Value) (h : Heap) (L : List Loc) : Prop := (v = some (.int 1) ∧ Fr n0 L ∧ h = h0)
set_option maxRecDepth 65536 in
set_option maxHeartbeats 40000000 in
theorem own_rm27 (l : Launch) (Z : State) (a0 : Array Value) (hw : ∀ d ∈ tables_1, d.before a0 Z = true) (ws : List Jvm.Cond) (ob_1120 : Nat) (ob_12 : Nat) (kk_1121 : ClassId) (kk_13 : ClassId) (h0 : Heap) (n0 : Nat) (Z0 : n0 ≤ h0.size) (O0 : Old Z n0 h0) (I1422 : Arv Z h0 ob_1120 kk_1121 .byte 10 [(.int 114), (.int 101), (.int 103), (.int 105), (.int 115), (.int 116), (.int 101), (.int 114), (.int 101), (.int 100)] (.int 0)) (I1424 : Arv Z Z.heap ob_12 kk_13 FieldType.byte 10 [(.int 114), (.int 101), (.int 103), (.int 105), (.int 115), (.int 116), (.int 101), (.int 114), (.int 101), (.int 100)] (.int 0)) :
    own_Met l Z h0 (⟨"java/lang/StringLatin1", "equals", "([B[B)Z"⟩ : MethodName) jdk_43_method_13_code 3 (Option.some FieldType.boolean) ws ({ frames := 0, cells := 0, slots := 0, locals := 0 } : Room) #[(.ref ob_1120), (.ref ob_12)] (own_Q27 Z ob_1120 ob_12 kk_1121 kk_13 h0 n0) 0 0 := by
  refine MetFree.of_bodySF own_pn7 hisR ?_
  intro p e s m args below meth c s₁ Bd hml0 hP hK
  obtain ⟨rfl, hZ, hh⟩ := hP
  have hx := Bd.exec
  have hby := Bd.bytes
  have hml : c.maxLocals = 3 := hml0
  have hown : s.vm.findClass "java/lang/StringLatin1" = some m.cls := findClass_of_methodNamed Bd.named
  have hnm := (name_of_methodNamed Bd.named Bd.method).1
  have X0 : Stand p l e ({ frames := 0, cells := 0, slots := 0, locals := 0 } : Room) s m #[(.ref ob_1120), (.ref ob_12)] below meth c s₁ [] 0 0 := Stand.of_body Bd
  have e0 : s₁.heap = h0 := by rw [← hh, Bd.state]; rfl
  have N0 := Fr.nil n0
  show own_G p e below (s₁.setTop (entryFrame m #[(.ref ob_1120), (.ref ob_12)] 3)) (own_P s (own_Q27 Z ob_1120 ob_12 kk_1121 kk_13 h0 n0) 0 0)
  refine own_cast (own_ef9 m ob_1120 ob_12) ?_
  show own_G p e below (s₁.setTop (mkF m 0 #[rv ob_1120, rv ob_12, .unset] [])) _
  refine oS (fun _ => XS.aloadN X0.here hx rfl (hb hby dd9_0) rfl rfl) ?_
  refine oS (own_len X0 hx hZ e0 I1422 rfl rfl (hb hby dd9_1)) ?_
  show own_G p e below (s₁.setTop (mkF m 2 #[rv ob_1120, rv ob_12, .unset] [(.int 10)])) _
  refine oS (fun _ => XS.aloadN X0.here hx rfl (hb hby dd9_2) rfl rfl) ?_
  have F1425 : Arv Z h0 ob_12 kk_13 FieldType.byte 10 [(.int 114), (.int 101), (.int 103), (.int 105), (.int 115), (.int 116), (.int 101), (.int 114), (.int 101), (.int 100)] (.int 0) := I1424.ext O0.2
  refine oS (own_len X0 hx hZ e0 F1425 rfl rfl (hb hby dd9_3)) ?_
  show own_G p e below (s₁.setTop (mkF m 4 #[rv ob_1120, rv ob_12, .unset] [(.int 10), (.int 10)])) _
  refine oS (fun _ => XS.icmpNo X0.here hx rfl (hb hby dd9_4) rfl (XT.ii_ne_f (by decide))) ?_
  show own_G p e below (s₁.setTop (mkF m 7 #[rv ob_1120, rv ob_12, .unset] [])) _
  refine oS (fun _ => XS.iconst X0.here hx rfl (hb hby dd9_7) ) ?_
  refine oS (fun _ => XS.istoreN X0.here hx rfl (hb hby dd9_8) rfl (l' := #[rv ob_1120, rv ob_12, iv 0]) rfl) ?_
  refine oS (fun _ => XS.iloadN X0.here hx rfl (hb hby dd9_9) rfl) ?_
  refine oS (fun _ => XS.aloadN X0.here hx rfl (hb hby dd9_10) rfl rfl) ?_
  show own_G p e below (s₁.setTop (mkF m 11 #[rv ob_1120, rv ob_12, iv 0] [(.ref ob_1120), (.int 0)])) _
  refine oS (own_len X0 hx hZ e0 I1422 rfl rfl (hb hby dd9_11)) ?_
  show own_G p e below (s₁.setTop (mkF m 12 #[rv ob_1120, rv ob_12, iv 0] [(.int 10), (.int 0)])) _
  refine oS (fun _ => XS.icmpNo X0.here hx rfl (hb hby dd9_12) rfl (XT.ii_ge_f (by decide))) ?_
  show own_G p e below (s₁.setTop (mkF m 15 #[rv ob_1120, rv ob_12, iv 0] [])) _
  refine oS (fun _ => XS.aloadN X0.here hx rfl (hb hby dd9_15) rfl rfl) ?_
  refine oS (fun _ => XS.iloadN X0.here hx rfl (hb hby dd9_16) rfl) ?_
  refine oS (own_baload X0 hx hZ e0 I1422 (by decide) (v := (.int 114)) rfl rfl rfl (hb hby dd9_17)) ?_
  show own_G p e below (s₁.setTop (mkF m 18 #[rv ob_1120, rv ob_12, iv 0] [(.int 114)])) _
  refine oS (fun _ => XS.aloadN X0.here hx rfl (hb hby dd9_18) rfl rfl) ?_
  refine oS (fun _ => XS.iloadN X0.here hx rfl (hb hby dd9_19) rfl) ?_
  refine oS (own_baload X0 hx hZ e0 F1425 (by decide) (v := (.int 114)) rfl rfl rfl (hb hby dd9_20)) ?_
  show own_G p e below (s₁.setTop (mkF m 21 #[rv ob_1120, rv ob_12, iv 0] [(.int 114), (.int 114)])) _
  refine oS (fun _ => XS.icmpYes X0.here hx rfl (pc0 := 21) (pc' := 26) rfl (hb hby dd9_21) rfl (XT.ii_eq_t (by decide)) (by decide) (by decide)) ?_
  show own_G p e below (s₁.setTop (mkF m 26 #[rv ob_1120, rv ob_12, iv 0] [])) _
  refine oS (fun _ => XS.iinc X0.here hx rfl (hb hby dd9_26) rfl (l' := #[rv ob_1120, rv ob_12, iv 1]) rfl) ?_
  show own_G p e below (s₁.setTop (mkF m 29 #[rv ob_1120, rv ob_12, iv 1] [])) _
  refine oS (fun _ => XS.goto X0.here hx rfl (pc0 := 29) (pc' := 9) rfl (hb hby dd9_29) (by decide) (by decide)) ?_
  show own_G p e below (s₁.setTop (mkF m 9 #[rv ob_1120, rv ob_12, iv 1] [])) _
  refine oS (fun _ => XS.iloadN X0.here hx rfl (hb hby dd9_9) rfl) ?_
  refine oS (fun _ => XS.aloadN X0.here hx rfl (hb hby dd9_10) rfl rfl) ?_
  refine oS (own_len X0 hx hZ e0 I1422 rfl rfl (hb hby dd9_11)) ?_
  show own_G p e below (s₁.setTop (mkF m 12 #[rv ob_1120, rv ob_12, iv 1] [(.int 10), (.int 1)])) _
  refine oS (fun _ => XS.icmpNo X0.here hx rfl (hb hby dd9_12) rfl (XT.ii_ge_f (by decide))) ?_
  show own_G p e below (s₁.setTop (mkF m 15 #[rv ob_1120, rv ob_12, iv 1] [])) _
  refine oS (fun _ => XS.aloadN X0.here hx rfl (hb hby dd9_15) rfl rfl) ?_
  refine oS (fun _ => XS.iloadN X0.here hx rfl (hb hby dd9_16) rfl) ?_
  refine oS (own_baload X0 hx hZ e0 I1422 (by decide) (v := (.int 101)) rfl rfl rfl (hb hby dd9_17)) ?_
  show own_G p e below (s₁.setTop (mkF m 18 #[rv ob_1120, rv ob_12, iv 1] [(.int 101)])) _
  refine oS (fun _ => XS.aloadN X0.here hx rfl (hb hby dd9_18) rfl rfl) ?_
  refine oS (fun _ => XS.iloadN X0.here hx rfl (hb hby dd9_19) rfl) ?_
  refine oS (own_baload X0 hx hZ e0 F1425 (by decide) (v := (.int 101)) rfl rfl rfl (hb hby dd9_20)) ?_
  show own_G p e below (s₁.setTop (mkF m 21 #[rv ob_1120, rv ob_12, iv 1] [(.int 101), (.int 101)])) _
  refine oS (fun _ => XS.icmpYes X0.here hx rfl (pc0 := 21) (pc' := 26) rfl (hb hby dd9_21) rfl (XT.ii_eq_t (by decide)) (by decide) (by decide)) ?_
  show own_G p e below (s₁.setTop (mkF m 26 #[rv ob_1120, rv ob_12, iv 1] [])) _
  refine oS (fun _ => XS.iinc X0.here hx rfl (hb hby dd9_26) rfl (l' := #[rv ob_1120, rv ob_12, iv 2]) rfl) ?_
  show own_G p e below (s₁.setTop (mkF m 29 #[rv ob_1120, rv ob_12, iv 2] [])) _
  refine oS (fun _ => XS.goto X0.here hx rfl (pc0 := 29) (pc' := 9) rfl (hb hby dd9_29) (by decide) (by decide)) ?_
  show own_G p e below (s₁.setTop (mkF m 9 #[rv ob_1120, rv ob_12, iv 2] [])) _
  refine oS (fun _ => XS.iloadN X0.here hx rfl (hb hby dd9_9) rfl) ?_
  refine oS (fun _ => XS.aloadN X0.here hx rfl (hb hby dd9_10) rfl rfl) ?_
  refine oS (own_len X0 hx hZ e0 I1422 rfl rfl (hb hby dd9_11)) ?_
  show own_G p e below (s₁.setTop (mkF m 12 #[rv ob_1120, rv ob_12, iv 2] [(.int 10), (.int 2)])) _
  refine oS (fun _ => XS.icmpNo X0.here hx rfl (hb hby dd9_12) rfl (XT.ii_ge_f (by decide))) ?_
  show own_G p e below (s₁.setTop (mkF m 15 #[rv ob_1120, rv ob_12, iv 2] [])) _
  refine oS (fun _ => XS.aloadN X0.here hx rfl (hb hby dd9_15) rfl rfl) ?_
  refine oS (fun _ => XS.iloadN X0.here hx rfl (hb hby dd9_16) rfl) ?_
  refine oS (own_baload X0 hx hZ e0 I1422 (by decide) (v := (.int 103)) rfl rfl rfl (hb hby dd9_17)) ?_
  show own_G p e below (s₁.setTop (mkF m 18 #[rv ob_1120, rv ob_12, iv 2] [(.int 103)])) _
  refine oS (fun _ => XS.aloadN X0.here hx rfl (hb hby dd9_18) rfl rfl) ?_
  refine oS (fun _ => XS.iloadN X0.here hx rfl (hb hby dd9_19) rfl) ?_
  refine oS (own_baload X0 hx hZ e0 F1425 (by decide) (v := (.int 103)) rfl rfl rfl (hb hby dd9_20)) ?_
  show own_G p e below (s₁.setTop (mkF m 21 #[rv ob_1120, rv ob_12, iv 2] [(.int 103), (.int 103)])) _
  refine oS (fun _ => XS.icmpYes X0.here hx rfl (pc0 := 21) (pc' := 26) rfl (hb hby dd9_21) rfl (XT.ii_eq_t (by decide)) (by decide) (by decide)) ?_
  show own_G p e below (s₁.setTop (mkF m 26 #[rv ob_1120, rv ob_12, iv 2] [])) _
  refine oS (fun _ => XS.iinc X0.here hx rfl (hb hby dd9_26) rfl (l' := #[rv ob_1120, rv ob_12, iv 3]) rfl) ?_
  show own_G p e below (s₁.setTop (mkF m 29 #[rv ob_1120, rv ob_12, iv 3] [])) _
  refine oS (fun _ => XS.goto X0.here hx rfl (pc0 := 29) (pc' := 9) rfl (hb hby dd9_29) (by decide) (by decide)) ?_
  show own_G p e below (s₁.setTop (mkF m 9 #[rv ob_1120, rv ob_12, iv 3] [])) _
  refine oS (fun _ => XS.iloadN X0.here hx rfl (hb hby dd9_9) rfl) ?_
  refine oS (fun _ => XS.aloadN X0.here hx rfl (hb hby dd9_10) rfl rfl) ?_
  refine oS (own_len X0 hx hZ e0 I1422 rfl rfl (hb hby dd9_11)) ?_
  show own_G p e below (s₁.setTop (mkF m 12 #[rv ob_1120, rv ob_12, iv 3] [(.int 10), (.int 3)])) _
  refine oS (fun _ => XS.icmpNo X0.here hx rfl (hb hby dd9_12) rfl (XT.ii_ge_f (by decide))) ?_
  show own_G p e below (s₁.setTop (mkF m 15 #[rv ob_1120, rv ob_12, iv 3] [])) _
  refine oS (fun _ => XS.aloadN X0.here hx rfl (hb hby dd9_15) rfl rfl) ?_
  refine oS (fun _ => XS.iloadN X0.here hx rfl (hb hby dd9_16) rfl) ?_
  refine oS (own_baload X0 hx hZ e0 I1422 (by decide) (v := (.int 105)) rfl rfl rfl (hb hby dd9_17)) ?_
  show own_G p e below (s₁.setTop (mkF m 18 #[rv ob_1120, rv ob_12, iv 3] [(.int 105)])) _
  refine oS (fun _ => XS.aloadN X0.here hx rfl (hb hby dd9_18) rfl rfl) ?_
  refine oS (fun _ => XS.iloadN X0.here hx rfl (hb hby dd9_19) rfl) ?_
  refine oS (own_baload X0 hx hZ e0 F1425 (by decide) (v := (.int 105)) rfl rfl rfl (hb hby dd9_20)) ?_
  show own_G p e below (s₁.setTop (mkF m 21 #[rv ob_1120, rv ob_12, iv 3] [(.int 105), (.int 105)])) _
  refine oS (fun _ => XS.icmpYes X0.here hx rfl (pc0 := 21) (pc' := 26) rfl (hb hby dd9_21) rfl (XT.ii_eq_t (by decide)) (by decide) (by decide)) ?_
  show own_G p e below (s₁.setTop (mkF m 26 #[rv ob_1120, rv ob_12, iv 3] [])) _
  refine oS (fun _ => XS.iinc X0.here hx rfl (hb hby dd9_26) rfl (l' := #[rv ob_1120, rv ob_12, iv 4]) rfl) ?_
  show own_G p e below (s₁.setTop (mkF m 29 #[rv ob_1120, rv ob_12, iv 4] [])) _
  refine oS (fun _ => XS.goto X0.here hx rfl (pc0 := 29) (pc' := 9) rfl (hb hby dd9_29) (by decide) (by decide)) ?_
  show own_G p e below (s₁.setTop (mkF m 9 #[rv ob_1120, rv ob_12, iv 4] [])) _
  refine oS (fun _ => XS.iloadN X0.here hx rfl (hb hby dd9_9) rfl) ?_
  refine oS (fun _ => XS.aloadN X0.here hx rfl (hb hby dd9_10) rfl rfl) ?_
  refine oS (own_len X0 hx hZ e0 I1422 rfl rfl (hb hby dd9_11)) ?_
  show own_G p e below (s₁.setTop (mkF m 12 #[rv ob_1120, rv ob_12, iv 4] [(.int 10), (.int 4)])) _
  refine oS (fun _ => XS.icmpNo X0.here hx rfl (hb hby dd9_12) rfl (XT.ii_ge_f (by decide))) ?_
  show own_G p e below (s₁.setTop (mkF m 15 #[rv ob_1120, rv ob_12, iv 4] [])) _
  refine oS (fun _ => XS.aloadN X0.here hx rfl (hb hby dd9_15) rfl rfl) ?_
  refine oS (fun _ => XS.iloadN X0.here hx rfl (hb hby dd9_16) rfl) ?_
  refine oS (own_baload X0 hx hZ e0 I1422 (by decide) (v := (.int 115)) rfl rfl rfl (hb hby dd9_17)) ?_
  show own_G p e below (s₁.setTop (mkF m 18 #[rv ob_1120, rv ob_12, iv 4] [(.int 115)])) _
  refine oS (fun _ => XS.aloadN X0.here hx rfl (hb hby dd9_18) rfl rfl) ?_
  refine oS (fun _ => XS.iloadN X0.here hx rfl (hb hby dd9_19) rfl) ?_
  refine oS (own_baload X0 hx hZ e0 F1425 (by decide) (v := (.int 115)) rfl rfl rfl (hb hby dd9_20)) ?_
  show own_G p e below (s₁.setTop (mkF m 21 #[rv ob_1120, rv ob_12, iv 4] [(.int 115), (.int 115)])) _
  refine oS (fun _ => XS.icmpYes X0.here hx rfl (pc0 := 21) (pc' := 26) rfl (hb hby dd9_21) rfl (XT.ii_eq_t (by decide)) (by decide) (by decide)) ?_
  show own_G p e below (s₁.setTop (mkF m 26 #[rv ob_1120, rv ob_12, iv 4] [])) _
  refine oS (fun _ => XS.iinc X0.here hx rfl (hb hby dd9_26) rfl (l' := #[rv ob_1120, rv ob_12, iv 5]) rfl) ?_
  show own_G p e below (s₁.setTop (mkF m 29 #[rv ob_1120, rv ob_12, iv 5] [])) _
  refine oS (fun _ => XS.goto X0.here hx rfl (pc0 := 29) (pc' := 9) rfl (hb hby dd9_29) (by decide) (by decide)) ?_
  show own_G p e below (s₁.setTop (mkF m 9 #[rv ob_1120, rv ob_12, iv 5] [])) _
  refine oS (fun _ => XS.iloadN X0.here hx rfl (hb hby dd9_9) rfl) ?_
  refine oS (fun _ => XS.aloadN X0.here hx rfl (hb hby dd9_10) rfl rfl) ?_
  refine oS (own_len X0 hx hZ e0 I1422 rfl rfl (hb hby dd9_11)) ?_
  show own_G p e below (s₁.setTop (mkF m 12 #[rv ob_1120, rv ob_12, iv 5] [(.int 10), (.int 5)])) _
  refine oS (fun _ => XS.icmpNo X0.here hx rfl (hb hby dd9_12) rfl (XT.ii_ge_f (by decide))) ?_
  show own_G p e below (s₁.setTop (mkF m 15 #[rv ob_1120, rv ob_12, iv 5] [])) _
  refine oS (fun _ => XS.aloadN X0.here hx rfl (hb hby dd9_15) rfl rfl) ?_
  refine oS (fun _ => XS.iloadN X0.here hx rfl (hb hby dd9_16) rfl) ?_
  refine oS (own_baload X0 hx hZ e0 I1422 (by decide) (v := (.int 116)) rfl rfl rfl (hb hby dd9_17)) ?_
  show own_G p e below (s₁.setTop (mkF m 18 #[rv ob_1120, rv ob_12, iv 5] [(.int 116)])) _
  refine oS (fun _ => XS.aloadN X0.here hx rfl (hb hby dd9_18) rfl rfl) ?_
  refine oS (fun _ => XS.iloadN X0.here hx rfl (hb hby dd9_19) rfl) ?_
  refine oS (own_baload X0 hx hZ e0 F1425 (by decide) (v := (.int 116)) rfl rfl rfl (hb hby dd9_20)) ?_
  show own_G p e below (s₁.setTop (mkF m 21 #[rv ob_1120, rv ob_12, iv 5] [(.int 116), (.int 116)])) _
  refine oS (fun _ => XS.icmpYes X0.here hx rfl (pc0 := 21) (pc' := 26) rfl (hb hby dd9_21) rfl (XT.ii_eq_t (by decide)) (by decide) (by decide)) ?_
  show own_G p e below (s₁.setTop (mkF m 26 #[rv ob_1120, rv ob_12, iv 5] [])) _
  refine oS (fun _ => XS.iinc X0.here hx rfl (hb hby dd9_26) rfl (l' := #[rv ob_1120, rv ob_12, iv 6]) rfl) ?_
  show own_G p e below (s₁.setTop (mkF m 29 #[rv ob_1120, rv ob_12, iv 6] [])) _
  refine oS (fun _ => XS.goto X0.here hx rfl (pc0 := 29) (pc' := 9) rfl (hb hby dd9_29) (by decide) (by decide)) ?_
  show own_G p e below (s₁.setTop (mkF m 9 #[rv ob_1120, rv ob_12, iv 6] [])) _
  refine oS (fun _ => XS.iloadN X0.here hx rfl (hb hby dd9_9) rfl) ?_
  refine oS (fun _ => XS.aloadN X0.here hx rfl (hb hby dd9_10) rfl rfl) ?_
  refine oS (own_len X0 hx hZ e0 I1422 rfl rfl (hb hby dd9_11)) ?_
  show own_G p e below (s₁.setTop (mkF m 12 #[rv ob_1120, rv ob_12, iv 6] [(.int 10), (.int 6)])) _
  refine oS (fun _ => XS.icmpNo X0.here hx rfl (hb hby dd9_12) rfl (XT.ii_ge_f (by decide))) ?_
  show own_G p e below (s₁.setTop (mkF m 15 #[rv ob_1120, rv ob_12, iv 6] [])) _
  refine oS (fun _ => XS.aloadN X0.here hx rfl (hb hby dd9_15) rfl rfl) ?_
  refine oS (fun _ => XS.iloadN X0.here hx rfl (hb hby dd9_16) rfl) ?_
  refine oS (own_baload X0 hx hZ e0 I1422 (by decide) (v := (.int 101)) rfl rfl rfl (hb hby dd9_17)) ?_
  show own_G p e below (s₁.setTop (mkF m 18 #[rv ob_1120, rv ob_12, iv 6] [(.int 101)])) _
  refine oS (fun _ => XS.aloadN X0.here hx rfl (hb hby dd9_18) rfl rfl) ?_
  refine oS (fun _ => XS.iloadN X0.here hx rfl (hb hby dd9_19) rfl) ?_
  refine oS (own_baload X0 hx hZ e0 F1425 (by decide) (v := (.int 101)) rfl rfl rfl (hb hby dd9_20)) ?_
  show own_G p e below (s₁.setTop (mkF m 21 #[rv ob_1120, rv ob_12, iv 6] [(.int 101), (.int 101)])) _
  refine oS (fun _ => XS.icmpYes X0.here hx rfl (pc0 := 21) (pc' := 26) rfl (hb hby dd9_21) rfl (XT.ii_eq_t (by decide)) (by decide) (by decide)) ?_
  show own_G p e below (s₁.setTop (mkF m 26 #[rv ob_1120, rv ob_12, iv 6] [])) _
  refine oS (fun _ => XS.iinc X0.here hx rfl (hb hby dd9_26) rfl (l' := #[rv ob_1120, rv ob_12, iv 7]) rfl) ?_
  show own_G p e below (s₁.setTop (mkF m 29 #[rv ob_1120, rv ob_12, iv 7] [])) _
  refine oS (fun _ => XS.goto X0.here hx rfl (pc0 := 29) (pc' := 9) rfl (hb hby dd9_29) (by decide) (by decide)) ?_
  show own_G p e below (s₁.setTop (mkF m 9 #[rv ob_1120, rv ob_12, iv 7] [])) _
  refine oS (fun _ => XS.iloadN X0.here hx rfl (hb hby dd9_9) rfl) ?_
  refine oS (fun _ => XS.aloadN X0.here hx rfl (hb hby dd9_10) rfl rfl) ?_
  refine oS (own_len X0 hx hZ e0 I1422 rfl rfl (hb hby dd9_11)) ?_
  show own_G p e below (s₁.setTop (mkF m 12 #[rv ob_1120, rv ob_12, iv 7] [(.int 10), (.int 7)])) _
  refine oS (fun _ => XS.icmpNo X0.here hx rfl (hb hby dd9_12) rfl (XT.ii_ge_f (by decide))) ?_
  show own_G p e below (s₁.setTop (mkF m 15 #[rv ob_1120, rv ob_12, iv 7] [])) _
  refine oS (fun _ => XS.aloadN X0.here hx rfl (hb hby dd9_15) rfl rfl) ?_
  refine oS (fun _ => XS.iloadN X0.here hx rfl (hb hby dd9_16) rfl) ?_
  refine oS (own_baload X0 hx hZ e0 I1422 (by decide) (v := (.int 114)) rfl rfl rfl (hb hby dd9_17)) ?_
  show own_G p e below (s₁.setTop (mkF m 18 #[rv ob_1120, rv ob_12, iv 7] [(.int 114)])) _
  refine oS (fun _ => XS.aloadN X0.here hx rfl (hb hby dd9_18) rfl rfl) ?_
  refine oS (fun _ => XS.iloadN X0.here hx rfl (hb hby dd9_19) rfl) ?_
  refine oS (own_baload X0 hx hZ e0 F1425 (by decide) (v := (.int 114)) rfl rfl rfl (hb hby dd9_20)) ?_
  show own_G p e below (s₁.setTop (mkF m 21 #[rv ob_1120, rv ob_12, iv 7] [(.int 114), (.int 114)])) _
  refine oS (fun _ => XS.icmpYes X0.here hx rfl (pc0 := 21) (pc' := 26) rfl (hb hby dd9_21) rfl (XT.ii_eq_t (by decide)) (by decide) (by decide)) ?_
  show own_G p e below (s₁.setTop (mkF m 26 #[rv ob_1120, rv ob_12, iv 7] [])) _
  refine oS (fun _ => XS.iinc X0.here hx rfl (hb hby dd9_26) rfl (l' := #[rv ob_1120, rv ob_12, iv 8]) rfl) ?_
  show own_G p e below (s₁.setTop (mkF m 29 #[rv ob_1120, rv ob_12, iv 8] [])) _
  refine oS (fun _ => XS.goto X0.here hx rfl (pc0 := 29) (pc' := 9) rfl (hb hby dd9_29) (by decide) (by decide)) ?_
  show own_G p e below (s₁.setTop (mkF m 9 #[rv ob_1120, rv ob_12, iv 8] [])) _
  refine oS (fun _ => XS.iloadN X0.here hx rfl (hb hby dd9_9) rfl) ?_
  refine oS (fun _ => XS.aloadN X0.here hx rfl (hb hby dd9_10) rfl rfl) ?_
  refine oS (own_len X0 hx hZ e0 I1422 rfl rfl (hb hby dd9_11)) ?_
  show own_G p e below (s₁.setTop (mkF m 12 #[rv ob_1120, rv ob_12, iv 8] [(.int 10), (.int 8)])) _
  refine oS (fun _ => XS.icmpNo X0.here hx rfl (hb hby dd9_12) rfl (XT.ii_ge_f (by decide))) ?_
  show own_G p e below (s₁.setTop (mkF m 15 #[rv ob_1120, rv ob_12, iv 8] [])) _
  refine oS (fun _ => XS.aloadN X0.here hx rfl (hb hby dd9_15) rfl rfl) ?_
  refine oS (fun _ => XS.iloadN X0.here hx rfl (hb hby dd9_16) rfl) ?_
  refine oS (own_baload X0 hx hZ e0 I1422 (by decide) (v := (.int 101)) rfl rfl rfl (hb hby dd9_17)) ?_
  show own_G p e below (s₁.setTop (mkF m 18 #[rv ob_1120, rv ob_12, iv 8] [(.int 101)])) _
  refine oS (fun _ => XS.aloadN X0.here hx rfl (hb hby dd9_18) rfl rfl) ?_
  refine oS (fun _ => XS.iloadN X0.here hx rfl (hb hby dd9_19) rfl) ?_
  refine oS (own_baload X0 hx hZ e0 F1425 (by decide) (v := (.int 101)) rfl rfl rfl (hb hby dd9_20)) ?_
  show own_G p e below (s₁.setTop (mkF m 21 #[rv ob_1120, rv ob_12, iv 8] [(.int 101), (.int 101)])) _
  refine oS (fun _ => XS.icmpYes X0.here hx rfl (pc0 := 21) (pc' := 26) rfl (hb hby dd9_21) rfl (XT.ii_eq_t (by decide)) (by decide) (by decide)) ?_
  show own_G p e below (s₁.setTop (mkF m 26 #[rv ob_1120, rv ob_12, iv 8] [])) _
  refine oS (fun _ => XS.iinc X0.here hx rfl (hb hby dd9_26) rfl (l' := #[rv ob_1120, rv ob_12, iv 9]) rfl) ?_
  show own_G p e below (s₁.setTop (mkF m 29 #[rv ob_1120, rv ob_12, iv 9] [])) _
  refine oS (fun _ => XS.goto X0.here hx rfl (pc0 := 29) (pc' := 9) rfl (hb hby dd9_29) (by decide) (by decide)) ?_
  show own_G p e below (s₁.setTop (mkF m 9 #[rv ob_1120, rv ob_12, iv 9] [])) _
  refine oS (fun _ => XS.iloadN X0.here hx rfl (hb hby dd9_9) rfl) ?_
  refine oS (fun _ => XS.aloadN X0.here hx rfl (hb hby dd9_10) rfl rfl) ?_
  refine oS (own_len X0 hx hZ e0 I1422 rfl rfl (hb hby dd9_11)) ?_
  show own_G p e below (s₁.setTop (mkF m 12 #[rv ob_1120, rv ob_12, iv 9] [(.int 10), (.int 9)])) _
  refine oS (fun _ => XS.icmpNo X0.here hx rfl (hb hby dd9_12) rfl (XT.ii_ge_f (by decide))) ?_
  show own_G p e below (s₁.setTop (mkF m 15 #[rv ob_1120, rv ob_12, iv 9] [])) _
  refine oS (fun _ => XS.aloadN X0.here hx rfl (hb hby dd9_15) rfl rfl) ?_
  refine oS (fun _ => XS.iloadN X0.here hx rfl (hb hby dd9_16) rfl) ?_
  refine oS (own_baload X0 hx hZ e0 I1422 (by decide) (v := (.int 100)) rfl rfl rfl (hb hby dd9_17)) ?_
  show own_G p e below (s₁.setTop (mkF m 18 #[rv ob_1120, rv ob_12, iv 9] [(.int 100)])) _
  refine oS (fun _ => XS.aloadN X0.here hx rfl (hb hby dd9_18) rfl rfl) ?_
  refine oS (fun _ => XS.iloadN X0.here hx rfl (hb hby dd9_19) rfl) ?_
  refine oS (own_baload X0 hx hZ e0 F1425 (by decide) (v := (.int 100)) rfl rfl rfl (hb hby dd9_20)) ?_
  show own_G p e below (s₁.setTop (mkF m 21 #[rv ob_1120, rv ob_12, iv 9] [(.int 100), (.int 100)])) _
  refine oS (fun _ => XS.icmpYes X0.here hx rfl (pc0 := 21) (pc' := 26) rfl (hb hby dd9_21) rfl (XT.ii_eq_t (by decide)) (by decide) (by decide)) ?_
  show own_G p e below (s₁.setTop (mkF m 26 #[rv ob_1120, rv ob_12, iv 9] [])) _
  refine oS (fun _ => XS.iinc X0.here hx rfl (hb hby dd9_26) rfl (l' := #[rv ob_1120, rv ob_12, iv 10]) rfl) ?_
  show own_G p e below (s₁.setTop (mkF m 29 #[rv ob_1120, rv ob_12, iv 10] [])) _
  refine oS (fun _ => XS.goto X0.here hx rfl (pc0 := 29) (pc' := 9) rfl (hb hby dd9_29) (by decide) (by decide)) ?_
  show own_G p e below (s₁.setTop (mkF m 9 #[rv ob_1120, rv ob_12, iv 10] [])) _
  refine oS (fun _ => XS.iloadN X0.here hx rfl (hb hby dd9_9) rfl) ?_
  refine oS (fun _ => XS.aloadN X0.here hx rfl (hb hby dd9_10) rfl rfl) ?_
  refine oS (own_len X0 hx hZ e0 I1422 rfl rfl (hb hby dd9_11)) ?_
  show own_G p e below (s₁.setTop (mkF m 12 #[rv ob_1120, rv ob_12, iv 10] [(.int 10), (.int 10)])) _
  refine oS (fun _ => XS.icmpYes X0.here hx rfl (pc0 := 12) (pc' := 32) rfl (hb hby dd9_12) rfl (XT.ii_ge_t (by decide)) (by decide) (by decide)) ?_
  show own_G p e below (s₁.setTop (mkF m 32 #[rv ob_1120, rv ob_12, iv 10] [])) _
  refine oS (fun _ => XS.iconst X0.here hx rfl (hb hby dd9_32) ) ?_
  exact own_retN X0 hx (t := .boolean) Bd.notSynchronized Bd.returns (by simp) (hb hby dd9_33) (by decide) e0 (by decide) (by decide) (⟨rfl, N0, rfl⟩)
def own_Q26 (Z : State) (ob_671 : Nat) (ob_11 : Nat) (in_2 : Int32) (ob_1120 : Nat) (ob_12 : Nat) (kk_1121 : ClassId) (kk_13 : ClassId) (h0 : Heap) (n0 : Nat) (v : Option Value) (h : Heap) (L : List Loc) : Prop := (v = some (.int 1) ∧ Fr n0 L ∧ h = h0)
set_option maxRecDepth 65536 in
set_option maxHeartbeats 40000000 in
theorem own_rm26 (l : Launch) (Z : State) (a0 : Array Value) (hw : ∀ d ∈ tables_1, d.before a0 Z = true) (ws : List Jvm.Cond) (ob_671 : Nat) (ob_11 : Nat) (in_2 : Int32) (ob_1120 : Nat) (ob_12 : Nat) (kk_1121 : ClassId) (kk_13 : ClassId) (h0 : Heap) (n0 : Nat) (Z0 : n0 ≤ h0.size) (O0 : Old Z n0 h0) (I1378 : n0 ≤ ob_671) (I1379 : Exa Z Z.heap ob_11 "java/lang/String") (I1392 : Sta Z Z.heap "java/lang/String" "COMPACT_STRINGS" "Z" (.int in_2)) (I1398 : ¬ (in_2 = 0)) (I1399 : Fld Z h0 ob_671 "java/lang/String" "coder" "B" (.int 0)) (I1404 : Fld Z Z.heap ob_11 "java/lang/String" "coder" "B" (.int 0)) (I1410 : Fld Z h0 ob_671 "java/lang/String" "value" "[B" (.ref ob_1120)) (I1415 : Fld Z Z.heap ob_11 "java/lang/String" "value" "[B" (.ref ob_12)) (I1421 : Arv Z h0 ob_1120 kk_1121 .byte 10 [(.int 114), (.int 101), (.int 103), (.int 105), (.int 115), (.int 116), (.int 101), (.int 114), (.int 101), (.int 100)] (.int 0)) (I1423 : Arv Z Z.heap ob_12 kk_13 FieldType.byte 10 [(.int 114), (.int 101), (.int 103), (.int 105), (.int 115), (.int 116), (.int 101), (.int 114), (.int 101), (.int 100)] (.int 0)) :
    own_Met l Z h0 (⟨"java/lang/String", "equals", "(Ljava/lang/Object;)Z"⟩ : MethodName) jdk_42_method_66_code 3 (Option.some FieldType.boolean) ws ({ frames := 1, cells := 0, slots := 0, locals := 14 } : Room) #[(.ref ob_671), (.ref ob_11)] (own_Q26 Z ob_671 ob_11 in_2 ob_1120 ob_12 kk_1121 kk_13 h0 n0) 0 0 := by
  refine MetFree.of_bodySF own_pn8 hisR ?_
  intro p e s m args below meth c s₁ Bd hml0 hP hK
  obtain ⟨rfl, hZ, hh⟩ := hP
  have hx := Bd.exec
  have hby := Bd.bytes
  have hml : c.maxLocals = 3 := hml0
  have hown : s.vm.findClass "java/lang/String" = some m.cls := findClass_of_methodNamed Bd.named
  have hnm := (name_of_methodNamed Bd.named Bd.method).1
  have X0 : Stand p l e ({ frames := 1, cells := 0, slots := 0, locals := 14 } : Room) s m #[(.ref ob_671), (.ref ob_11)] below meth c s₁ [] 0 0 := Stand.of_body Bd
  have e0 : s₁.heap = h0 := by rw [← hh, Bd.state]; rfl
  have N0 := Fr.nil n0
  show own_G p e below (s₁.setTop (entryFrame m #[(.ref ob_671), (.ref ob_11)] 3)) (own_P s (own_Q26 Z ob_671 ob_11 in_2 ob_1120 ob_12 kk_1121 kk_13 h0 n0) 0 0)
  refine own_cast (own_ef9 m ob_671 ob_11) ?_
  show own_G p e below (s₁.setTop (mkF m 0 #[rv ob_671, rv ob_11, .unset] [])) _
  refine oS (fun _ => XS.aloadN X0.here hx rfl (hb hby dd8_0) rfl rfl) ?_
  refine oS (fun _ => XS.aloadN X0.here hx rfl (hb hby dd8_1) rfl rfl) ?_
  have y1377 := I1378
  have y1380 : @LT.lt Nat instLTNat ob_11 Z.heap.size := I1379.lt
  have y1381 : Z.heap.size = n0 := O0.1
  have N1382 : @Ne Nat ob_671 ob_11 := by omega
  refine oS (fun _ => XT.acmpYes X0.here hx rfl (pc0 := 2) (pc' := 7) rfl (hb hby dd8_2) rfl rfl rfl (XT.aa_ne_t (own_rne N1382)) (by decide) (by decide)) ?_
  show own_G p e below (s₁.setTop (mkF m 7 #[rv ob_671, rv ob_11, .unset] [])) _
  refine oS (fun _ => XS.aloadN X0.here hx rfl (hb hby dd8_7) rfl rfl) ?_
  have F1387 : Exa Z h0 ob_11 "java/lang/String" := Exa.ext O0.2 I1379
  obtain ⟨T1383, X1384, e1385, s1386⟩ := instY X0 hx hZ hown (oW hw 65 rfl) e0 (Ins.self F1387) (g := (mkF m 8 #[rv ob_671, rv ob_11, .unset] [(.ref ob_11)])) rfl rfl (hb hby dd8_8)
  refine oS s1386 ?_
  show own_G p e below (T1383.setTop (mkF m 11 #[rv ob_671, rv ob_11, .unset] [(.int 1)])) _
  refine oS (fun _ => XS.ifNo X1384.here hx rfl (hb hby dd8_11) rfl (XT.i0_eq_f (by decide))) ?_
  show own_G p e below (T1383.setTop (mkF m 14 #[rv ob_671, rv ob_11, .unset] [])) _
  refine oS (fun _ => XS.aloadN X1384.here hx rfl (hb hby dd8_14) rfl rfl) ?_
  obtain ⟨T1388, X1389, e1390, s1391⟩ := castY X1384 hx hZ hown (oW hw 65 rfl) e1385 (Ins.self F1387) (g := (mkF m 15 #[rv ob_671, rv ob_11, .unset] [(.ref ob_11)])) rfl rfl (hb hby dd8_15)
  refine oS s1391 ?_
  show own_G p e below (T1388.setTop (mkF m 18 #[rv ob_671, rv ob_11, .unset] [(.ref ob_11)])) _
  refine oS (fun _ => XS.astoreN X1389.here hx rfl (hb hby dd8_18) rfl rfl (l' := #[rv ob_671, rv ob_11, rv ob_11]) rfl) ?_
  have F1393 : Sta Z h0 "java/lang/String" "COMPACT_STRINGS" "Z" (.int in_2) := Sta.ext O0.2 I1392
  obtain ⟨T1394, X1395, e1396, s1397⟩ := getS X1389 hx hZ hown (host := "") (oW hw 22 rfl) Via.refl e1390 F1393 (g := (mkF m 19 #[rv ob_671, rv ob_11, rv ob_11] [])) rfl (hb hby dd8_19)
  refine oS s1397 ?_
  show own_G p e below (T1394.setTop (mkF m 22 #[rv ob_671, rv ob_11, rv ob_11] [(.int in_2)])) _
  refine oS (fun _ => XS.ifNo X1395.here hx rfl (hb hby dd8_22) rfl (XT.i0_eq_f I1398)) ?_
  show own_G p e below (T1394.setTop (mkF m 25 #[rv ob_671, rv ob_11, rv ob_11] [])) _
  refine oS (fun _ => XS.aloadN X1395.here hx rfl (hb hby dd8_25) rfl rfl) ?_
  obtain ⟨T1400, X1401, e1402, s1403⟩ := getF X1395 hx hZ hown (host := "") (Or.inl (oW hw 34 rfl)) Via.refl e1396 I1399 (g := (mkF m 26 #[rv ob_671, rv ob_11, rv ob_11] [(.ref ob_671)])) rfl rfl (hb hby dd8_26)
  refine oS s1403 ?_
  show own_G p e below (T1400.setTop (mkF m 29 #[rv ob_671, rv ob_11, rv ob_11] [(.int 0)])) _
  refine oS (fun _ => XS.aloadN X1401.here hx rfl (hb hby dd8_29) rfl rfl) ?_
  have F1405 : Fld Z h0 ob_11 "java/lang/String" "coder" "B" (.int 0) := Fld.ext O0.2 I1404
  obtain ⟨T1406, X1407, e1408, s1409⟩ := getF X1401 hx hZ hown (host := "") (Or.inl (oW hw 34 rfl)) Via.refl e1402 F1405 (g := (mkF m 30 #[rv ob_671, rv ob_11, rv ob_11] [(.ref ob_11), (.int 0)])) rfl rfl (hb hby dd8_30)
  refine oS s1409 ?_
  show own_G p e below (T1406.setTop (mkF m 33 #[rv ob_671, rv ob_11, rv ob_11] [(.int 0), (.int 0)])) _
  refine oS (fun _ => XS.icmpNo X1407.here hx rfl (hb hby dd8_33) rfl (XT.ii_ne_f (by decide))) ?_
  show own_G p e below (T1406.setTop (mkF m 36 #[rv ob_671, rv ob_11, rv ob_11] [])) _
  refine oS (fun _ => XS.aloadN X1407.here hx rfl (hb hby dd8_36) rfl rfl) ?_
  obtain ⟨T1411, X1412, e1413, s1414⟩ := getF X1407 hx hZ hown (host := "") (Or.inl (oW hw 36 rfl)) Via.refl e1408 I1410 (g := (mkF m 37 #[rv ob_671, rv ob_11, rv ob_11] [(.ref ob_671)])) rfl rfl (hb hby dd8_37)
  refine oS s1414 ?_
  show own_G p e below (T1411.setTop (mkF m 40 #[rv ob_671, rv ob_11, rv ob_11] [(.ref ob_1120)])) _
  refine oS (fun _ => XS.aloadN X1412.here hx rfl (hb hby dd8_40) rfl rfl) ?_
  have F1416 : Fld Z h0 ob_11 "java/lang/String" "value" "[B" (.ref ob_12) := Fld.ext O0.2 I1415
  obtain ⟨T1417, X1418, e1419, s1420⟩ := getF X1412 hx hZ hown (host := "") (Or.inl (oW hw 36 rfl)) Via.refl e1413 F1416 (g := (mkF m 41 #[rv ob_671, rv ob_11, rv ob_11] [(.ref ob_11), (.ref ob_1120)])) rfl rfl (hb hby dd8_41)
  refine oS s1420 ?_
  show own_G p e below (T1417.setTop (mkF m 44 #[rv ob_671, rv ob_11, rv ob_11] [(.ref ob_12), (.ref ob_1120)])) _
  obtain ⟨T1426, h1427, v1428, L1429, X1430, e1431, q1432, s1433⟩ := own_callS X1418 hx hZ hown e1419 (y := (⟨"java/lang/StringLatin1", "equals", "([B[B)Z"⟩ : MethodName)) (oW hw 66 rfl) (oW hw 67 rfl) (oW hw 68 rfl) (oW hw 69 rfl) (by decide) (W := 0) (own_rm27 l Z a0 hw [] ob_1120 ob_12 kk_1121 kk_13 h0 n0 Z0 O0 I1421 I1423) (by decide) (by decide) (by decide) (by decide) (g := (mkF m 44 #[rv ob_671, rv ob_11, rv ob_11] [(.ref ob_12), (.ref ob_1120)])) rfl (by rw [hml]; rfl) (argsL := [(.ref ob_1120), (.ref ob_12)]) (rest := []) rfl (lenOf own_pd7 rfl) rfl (by show 2 * 0 + _ ≤ _; exact Nat.le_of_eq rfl) (hb hby dd8_44)
  refine oS s1433 ?_
  obtain ⟨rfl, N1434, K1435⟩ := q1432
  have N1436 := Fr.app N0 N1434
  have e1437 := e1431.trans K1435
  show own_G p e below (T1426.setTop (mkF m 47 #[rv ob_671, rv ob_11, rv ob_11] [(.int 1)])) _
  refine oS (fun _ => XS.ifNo X1430.here hx rfl (hb hby dd8_47) rfl (XT.i0_eq_f (by decide))) ?_
  show own_G p e below (T1426.setTop (mkF m 50 #[rv ob_671, rv ob_11, rv ob_11] [])) _
  refine oS (fun _ => XS.iconst X1430.here hx rfl (hb hby dd8_50) ) ?_
  refine oS (fun _ => XS.goto X1430.here hx rfl (pc0 := 51) (pc' := 55) rfl (hb hby dd8_51) (by decide) (by decide)) ?_
  show own_G p e below (T1426.setTop (mkF m 55 #[rv ob_671, rv ob_11, rv ob_11] [(.int 1)])) _
  exact own_retN X1430 hx (t := .boolean) Bd.notSynchronized Bd.returns (by simp) (hb hby dd8_55) (by decide) e1437 (by decide) (by decide) (⟨rfl, N1436, rfl⟩)
theorem dd0_97 : decode method_2_code 97 = .ok (.bipush 8, 2) := by decide +kernel
theorem dd0_99 : decode method_2_code 99 = .ok (.newarray .char, 2) := by decide +kernel
theorem dd0_101 : decode method_2_code 101 = .ok (.dup, 1) := by decide +kernel
theorem dd0_102 : decode method_2_code 102 = .ok (.iconst 0, 1) := by decide +kernel
theorem dd0_103 : decode method_2_code 103 = .ok (.bipush 102, 2) := by decide +kernel
theorem dd0_105 : decode method_2_code 105 = .ok (.castore, 1) := by decide +kernel
theorem dd0_106 : decode method_2_code 106 = .ok (.dup, 1) := by decide +kernel
theorem dd0_107 : decode method_2_code 107 = .ok (.iconst 1, 1) := by decide +kernel
theorem dd0_108 : decode method_2_code 108 = .ok (.bipush 105, 2) := by decide +kernel
theorem dd0_110 : decode method_2_code 110 = .ok (.castore, 1) := by decide +kernel
theorem dd0_111 : decode method_2_code 111 = .ok (.dup, 1) := by decide +kernel
theorem dd0_112 : decode method_2_code 112 = .ok (.iconst 2, 1) := by decide +kernel
theorem dd0_113 : decode method_2_code 113 = .ok (.bipush 110, 2) := by decide +kernel
theorem dd0_115 : decode method_2_code 115 = .ok (.castore, 1) := by decide +kernel
theorem dd0_116 : decode method_2_code 116 = .ok (.dup, 1) := by decide +kernel
theorem dd0_117 : decode method_2_code 117 = .ok (.iconst 3, 1) := by decide +kernel
theorem dd0_118 : decode method_2_code 118 = .ok (.bipush 100, 2) := by decide +kernel
theorem dd0_120 : decode method_2_code 120 = .ok (.castore, 1) := by decide +kernel
theorem dd0_121 : decode method_2_code 121 = .ok (.dup, 1) := by decide +kernel
theorem dd0_122 : decode method_2_code 122 = .ok (.iconst 4, 1) := by decide +kernel
theorem dd0_123 : decode method_2_code 123 = .ok (.bipush 97, 2) := by decide +kernel
theorem dd0_125 : decode method_2_code 125 = .ok (.castore, 1) := by decide +kernel
theorem dd0_126 : decode method_2_code 126 = .ok (.dup, 1) := by decide +kernel
theorem dd0_127 : decode method_2_code 127 = .ok (.iconst 5, 1) := by decide +kernel
theorem dd0_128 : decode method_2_code 128 = .ok (.bipush 98, 2) := by decide +kernel
theorem dd0_130 : decode method_2_code 130 = .ok (.castore, 1) := by decide +kernel
theorem dd0_131 : decode method_2_code 131 = .ok (.dup, 1) := by decide +kernel
theorem dd0_132 : decode method_2_code 132 = .ok (.bipush 6, 2) := by decide +kernel
theorem dd0_134 : decode method_2_code 134 = .ok (.bipush 108, 2) := by decide +kernel
theorem dd0_136 : decode method_2_code 136 = .ok (.castore, 1) := by decide +kernel
theorem dd0_137 : decode method_2_code 137 = .ok (.dup, 1) := by decide +kernel
theorem dd0_138 : decode method_2_code 138 = .ok (.bipush 7, 2) := by decide +kernel
theorem dd0_140 : decode method_2_code 140 = .ok (.bipush 101, 2) := by decide +kernel
theorem dd0_142 : decode method_2_code 142 = .ok (.castore, 1) := by decide +kernel
theorem dd0_143 : decode method_2_code 143 = .ok (.areturn, 1) := by decide +kernel
def own_Q28 (Z : State)  (h0 : Heap) (n0 : Nat) (v : Option Value) (h : Heap) (L : List Loc) : Prop := (∃ ob_1484 : Nat, ∃ kk_1482 : ClassId, v = some (.ref ob_1484) ∧ Fr n0 L ∧ Keep h0 h [] ∧ h0.size ≤ ob_1484 ∧ Arv Z h ob_1484 kk_1482 .char 8 [(.int 102), (.int 105), (.int 110), (.int 100), (.int 97), (.int 98), (.int 108), (.int 101)] (.int 0) ∧ Exa Z h ob_1484 "[C" ∧ @LT.lt Nat instLTNat ob_1484 h.size)
set_option maxRecDepth 65536 in
set_option maxHeartbeats 40000000 in
theorem own_rm28 (l : Launch) (Z : State) (a0 : Array Value) (hw : ∀ d ∈ tables_1, d.before a0 Z = true) (ws : List Jvm.Cond)  (h0 : Heap) (n0 : Nat) (Z0 : n0 ≤ h0.size) (O0 : Old Z n0 h0)  :
    own_Met l Z h0 (⟨"com/example/vestibule/vestibule/datacite/DoiStateOfKeyPinLaw", "keyChars", "(I)[C"⟩ : MethodName) method_2_code 1 (Option.some (FieldType.array FieldType.char)) ws ({ frames := 0, cells := 1, slots := 8, locals := 0 } : Room) #[(.int 2)] (own_Q28 Z  h0 n0) 1 8 := by
  refine MetFree.of_bodySF own_pn0 hisR ?_
  intro p e s m args below meth c s₁ Bd hml0 hP hK
  obtain ⟨rfl, hZ, hh⟩ := hP
  have hx := Bd.exec
  have hby := Bd.bytes
  have hml : c.maxLocals = 1 := hml0
  have hown : s.vm.findClass "com/example/vestibule/vestibule/datacite/DoiStateOfKeyPinLaw" = some m.cls := findClass_of_methodNamed Bd.named
  have hnm := (name_of_methodNamed Bd.named Bd.method).1
  have X0 : Stand p l e ({ frames := 0, cells := 1, slots := 8, locals := 0 } : Room) s m #[(.int 2)] below meth c s₁ [] 0 0 := Stand.of_body Bd
  have e0 : s₁.heap = h0 := by rw [← hh, Bd.state]; rfl
  have N0 := Fr.nil n0
  show own_G p e below (s₁.setTop (entryFrame m #[(.int 2)] 1)) (own_P s (own_Q28 Z  h0 n0) 1 8)
  refine own_cast (own_ef1 m 2) ?_
  show own_G p e below (s₁.setTop (mkF m 0 #[iv 2] [])) _
  refine oS (fun _ => XS.iloadN X0.here hx rfl (hb hby dd0_0) rfl) ?_
  refine oS (fun _ => XS.ifYes X0.here hx rfl (pc0 := 1) (pc' := 33) rfl (hb hby dd0_1) rfl (XT.i0_ne_t (by decide)) (by decide) (by decide)) ?_
  show own_G p e below (s₁.setTop (mkF m 33 #[iv 2] [])) _
  refine oS (fun _ => XS.iloadN X0.here hx rfl (hb hby dd0_33) rfl) ?_
  refine oS (fun _ => XS.iconst X0.here hx rfl (hb hby dd0_34) ) ?_
  refine oS (fun _ => XS.icmpYes X0.here hx rfl (pc0 := 35) (pc' := 97) rfl (hb hby dd0_35) rfl (XT.ii_ne_t (by decide)) (by decide) (by decide)) ?_
  show own_G p e below (s₁.setTop (mkF m 97 #[iv 2] [])) _
  refine oS (fun _ => XS.bipush X0.here hx rfl (hb hby dd0_97) ) ?_
  obtain ⟨T1473, h1474, kk_1482, X1476, e1477, E1478, A1479, B1483, s1480⟩ := own_newP X0 hx hZ (aty := .char) (oW hw 11 rfl) e0 (nm := "[C") rfl (g := (mkF m 99 #[iv 2] [(.int 8)])) rfl (hb hby dd0_99) (n := 8) (rest := []) rfl (by decide) (cap := 8) (by decide) (by decide) (by decide) (by decide)
  obtain ⟨ob_1484, g1485⟩ : ∃ z, z = h0.size := ⟨_, rfl⟩
  rw [← g1485] at A1479 B1483 s1480
  have F1486 : Arv Z h1474 ob_1484 kk_1482 .char 8 [(.int 0), (.int 0), (.int 0), (.int 0), (.int 0), (.int 0), (.int 0), (.int 0)] (.int 0) := own_newA A1479 (by decide) rfl rfl
  have z1487 := E1478.1
  have y1481 : @LT.lt Nat instLTNat ob_1484 h1474.size := F1486.lt
  refine oS s1480 ?_
  show own_G p e below (T1473.setTop (mkF m 101 #[iv 2] [(.ref ob_1484)])) _
  refine oS (fun _ => XS.dup X1476.here hx rfl (hb hby dd0_101) rfl rfl) ?_
  refine oS (fun _ => XS.iconst X1476.here hx rfl (hb hby dd0_102) ) ?_
  refine oS (fun _ => XS.bipush X1476.here hx rfl (hb hby dd0_103) ) ?_
  obtain ⟨T1488, h1489, X1490, e1491, W1492, A1493, s1494⟩ := own_stC X1476 hx hZ e1477 F1486 (x' := 102) 0 (by decide) rfl (by decide) (by simp) (g := (mkF m 105 #[iv 2] [(.int 102), (.int 0), (.ref ob_1484), (.ref ob_1484)])) rfl (rest := [(.ref ob_1484)]) rfl (hb hby dd0_105)
  have N1496 : n0 ≤ ob_1484 := by omega
  have N1495 := Fr.snoc X1490 N0 N1496
  have z1497 := W1492.size
  have F1498 : Arv Z h1489 ob_1484 kk_1482 .char 8 [(.int 102), (.int 0), (.int 0), (.int 0), (.int 0), (.int 0), (.int 0), (.int 0)] (.int 0) := A1493
  refine oS s1494 ?_
  show own_G p e below (T1488.setTop (mkF m 106 #[iv 2] [(.ref ob_1484)])) _
  refine oS (fun _ => XS.dup X1490.here hx rfl (hb hby dd0_106) rfl rfl) ?_
  refine oS (fun _ => XS.iconst X1490.here hx rfl (hb hby dd0_107) ) ?_
  refine oS (fun _ => XS.bipush X1490.here hx rfl (hb hby dd0_108) ) ?_
  obtain ⟨T1499, h1500, X1501, e1502, W1503, A1504, s1505⟩ := own_stC X1490 hx hZ e1491 F1498 (x' := 105) 1 (by decide) rfl (by decide) (by simp) (g := (mkF m 110 #[iv 2] [(.int 105), (.int 1), (.ref ob_1484), (.ref ob_1484)])) rfl (rest := [(.ref ob_1484)]) rfl (hb hby dd0_110)
  have N1506 := Fr.snoc X1501 N1495 N1496
  have z1507 := W1503.size
  have F1508 : Arv Z h1500 ob_1484 kk_1482 .char 8 [(.int 102), (.int 105), (.int 0), (.int 0), (.int 0), (.int 0), (.int 0), (.int 0)] (.int 0) := A1504
  refine oS s1505 ?_
  show own_G p e below (T1499.setTop (mkF m 111 #[iv 2] [(.ref ob_1484)])) _
  refine oS (fun _ => XS.dup X1501.here hx rfl (hb hby dd0_111) rfl rfl) ?_
  refine oS (fun _ => XS.iconst X1501.here hx rfl (hb hby dd0_112) ) ?_
  refine oS (fun _ => XS.bipush X1501.here hx rfl (hb hby dd0_113) ) ?_
  obtain ⟨T1509, h1510, X1511, e1512, W1513, A1514, s1515⟩ := own_stC X1501 hx hZ e1502 F1508 (x' := 110) 2 (by decide) rfl (by decide) (by simp) (g := (mkF m 115 #[iv 2] [(.int 110), (.int 2), (.ref ob_1484), (.ref ob_1484)])) rfl (rest := [(.ref ob_1484)]) rfl (hb hby dd0_115)
  have N1516 := Fr.snoc X1511 N1506 N1496
  have z1517 := W1513.size
  have F1518 : Arv Z h1510 ob_1484 kk_1482 .char 8 [(.int 102), (.int 105), (.int 110), (.int 0), (.int 0), (.int 0), (.int 0), (.int 0)] (.int 0) := A1514
  refine oS s1515 ?_
  show own_G p e below (T1509.setTop (mkF m 116 #[iv 2] [(.ref ob_1484)])) _
  refine oS (fun _ => XS.dup X1511.here hx rfl (hb hby dd0_116) rfl rfl) ?_
  refine oS (fun _ => XS.iconst X1511.here hx rfl (hb hby dd0_117) ) ?_
  refine oS (fun _ => XS.bipush X1511.here hx rfl (hb hby dd0_118) ) ?_
  obtain ⟨T1519, h1520, X1521, e1522, W1523, A1524, s1525⟩ := own_stC X1511 hx hZ e1512 F1518 (x' := 100) 3 (by decide) rfl (by decide) (by simp) (g := (mkF m 120 #[iv 2] [(.int 100), (.int 3), (.ref ob_1484), (.ref ob_1484)])) rfl (rest := [(.ref ob_1484)]) rfl (hb hby dd0_120)
  have N1526 := Fr.snoc X1521 N1516 N1496
  have z1527 := W1523.size
  have F1528 : Arv Z h1520 ob_1484 kk_1482 .char 8 [(.int 102), (.int 105), (.int 110), (.int 100), (.int 0), (.int 0), (.int 0), (.int 0)] (.int 0) := A1524
  refine oS s1525 ?_
  show own_G p e below (T1519.setTop (mkF m 121 #[iv 2] [(.ref ob_1484)])) _
  refine oS (fun _ => XS.dup X1521.here hx rfl (hb hby dd0_121) rfl rfl) ?_
  refine oS (fun _ => XS.iconst X1521.here hx rfl (hb hby dd0_122) ) ?_
  refine oS (fun _ => XS.bipush X1521.here hx rfl (hb hby dd0_123) ) ?_
  obtain ⟨T1529, h1530, X1531, e1532, W1533, A1534, s1535⟩ := own_stC X1521 hx hZ e1522 F1528 (x' := 97) 4 (by decide) rfl (by decide) (by simp) (g := (mkF m 125 #[iv 2] [(.int 97), (.int 4), (.ref ob_1484), (.ref ob_1484)])) rfl (rest := [(.ref ob_1484)]) rfl (hb hby dd0_125)
  have N1536 := Fr.snoc X1531 N1526 N1496
  have z1537 := W1533.size
  have F1538 : Arv Z h1530 ob_1484 kk_1482 .char 8 [(.int 102), (.int 105), (.int 110), (.int 100), (.int 97), (.int 0), (.int 0), (.int 0)] (.int 0) := A1534
  refine oS s1535 ?_
  show own_G p e below (T1529.setTop (mkF m 126 #[iv 2] [(.ref ob_1484)])) _
  refine oS (fun _ => XS.dup X1531.here hx rfl (hb hby dd0_126) rfl rfl) ?_
  refine oS (fun _ => XS.iconst X1531.here hx rfl (hb hby dd0_127) ) ?_
  refine oS (fun _ => XS.bipush X1531.here hx rfl (hb hby dd0_128) ) ?_
  obtain ⟨T1539, h1540, X1541, e1542, W1543, A1544, s1545⟩ := own_stC X1531 hx hZ e1532 F1538 (x' := 98) 5 (by decide) rfl (by decide) (by simp) (g := (mkF m 130 #[iv 2] [(.int 98), (.int 5), (.ref ob_1484), (.ref ob_1484)])) rfl (rest := [(.ref ob_1484)]) rfl (hb hby dd0_130)
  have N1546 := Fr.snoc X1541 N1536 N1496
  have z1547 := W1543.size
  have F1548 : Arv Z h1540 ob_1484 kk_1482 .char 8 [(.int 102), (.int 105), (.int 110), (.int 100), (.int 97), (.int 98), (.int 0), (.int 0)] (.int 0) := A1544
  refine oS s1545 ?_
  show own_G p e below (T1539.setTop (mkF m 131 #[iv 2] [(.ref ob_1484)])) _
  refine oS (fun _ => XS.dup X1541.here hx rfl (hb hby dd0_131) rfl rfl) ?_
  refine oS (fun _ => XS.bipush X1541.here hx rfl (hb hby dd0_132) ) ?_
  refine oS (fun _ => XS.bipush X1541.here hx rfl (hb hby dd0_134) ) ?_
  obtain ⟨T1549, h1550, X1551, e1552, W1553, A1554, s1555⟩ := own_stC X1541 hx hZ e1542 F1548 (x' := 108) 6 (by decide) rfl (by decide) (by simp) (g := (mkF m 136 #[iv 2] [(.int 108), (.int 6), (.ref ob_1484), (.ref ob_1484)])) rfl (rest := [(.ref ob_1484)]) rfl (hb hby dd0_136)
  have N1556 := Fr.snoc X1551 N1546 N1496
  have z1557 := W1553.size
  have F1558 : Arv Z h1550 ob_1484 kk_1482 .char 8 [(.int 102), (.int 105), (.int 110), (.int 100), (.int 97), (.int 98), (.int 108), (.int 0)] (.int 0) := A1554
  refine oS s1555 ?_
  show own_G p e below (T1549.setTop (mkF m 137 #[iv 2] [(.ref ob_1484)])) _
  refine oS (fun _ => XS.dup X1551.here hx rfl (hb hby dd0_137) rfl rfl) ?_
  refine oS (fun _ => XS.bipush X1551.here hx rfl (hb hby dd0_138) ) ?_
  refine oS (fun _ => XS.bipush X1551.here hx rfl (hb hby dd0_140) ) ?_
  obtain ⟨T1559, h1560, X1561, e1562, W1563, A1564, s1565⟩ := own_stC X1551 hx hZ e1552 F1558 (x' := 101) 7 (by decide) rfl (by decide) (by simp) (g := (mkF m 142 #[iv 2] [(.int 101), (.int 7), (.ref ob_1484), (.ref ob_1484)])) rfl (rest := [(.ref ob_1484)]) rfl (hb hby dd0_142)
  have N1566 := Fr.snoc X1561 N1556 N1496
  have z1567 := W1563.size
  have F1568 : Arv Z h1560 ob_1484 kk_1482 .char 8 [(.int 102), (.int 105), (.int 110), (.int 100), (.int 97), (.int 98), (.int 108), (.int 101)] (.int 0) := A1564
  refine oS s1565 ?_
  show own_G p e below (T1559.setTop (mkF m 143 #[iv 2] [(.ref ob_1484)])) _
  have F1569 : Exa Z h1489 ob_1484 "[C" := Exa.wr W1492 B1483
  have F1570 : Exa Z h1500 ob_1484 "[C" := Exa.wr W1503 F1569
  have F1571 : Exa Z h1510 ob_1484 "[C" := Exa.wr W1513 F1570
  have F1572 : Exa Z h1520 ob_1484 "[C" := Exa.wr W1523 F1571
  have F1573 : Exa Z h1530 ob_1484 "[C" := Exa.wr W1533 F1572
  have F1574 : Exa Z h1540 ob_1484 "[C" := Exa.wr W1543 F1573
  have F1575 : Exa Z h1550 ob_1484 "[C" := Exa.wr W1553 F1574
  have F1576 : Exa Z h1560 ob_1484 "[C" := Exa.wr W1563 F1575
  have y1577 : @LT.lt Nat instLTNat ob_1484 h1560.size := by omega
  have K1578 : Keep h0 h1560 [] := ((((((((((Keep.refl h0 []).ext E1478).wr W1492 (Or.inr (by omega))).wr W1503 (Or.inr (by omega))).wr W1513 (Or.inr (by omega))).wr W1523 (Or.inr (by omega))).wr W1533 (Or.inr (by omega))).wr W1543 (Or.inr (by omega))).wr W1553 (Or.inr (by omega))).wr W1563 (Or.inr (by omega)))
  exact own_retA X1561 hx Bd.notSynchronized Bd.returns rfl rfl (hb hby dd0_143) e1562 (by decide) (by decide) (⟨ob_1484, kk_1482, rfl, N1566, K1578, (by omega), F1568, F1576, y1577⟩)
def own_Q32 (Z : State) (ob_1589 : Nat) (ob_1624 : Nat) (kk_1590 : ClassId) (kk_1622 : ClassId) (h0 : Heap) (n0 : Nat) (v : Option Value) (h : Heap) (L : List Loc) : Prop := (v = some (.int 8) ∧ Fr n0 L ∧ Keep h0 h [ob_1624] ∧ Arv Z h ob_1624 kk_1622 .byte 8 [(.int 102), (.int 105), (.int 110), (.int 100), (.int 97), (.int 98), (.int 108), (.int 101)] (.int 0) ∧ Exa Z h ob_1624 "[B")
set_option maxRecDepth 65536 in
set_option maxHeartbeats 40000000 in
theorem own_rm32 (l : Launch) (Z : State) (a0 : Array Value) (hw : ∀ d ∈ tables_1, d.before a0 Z = true) (ws : List Jvm.Cond) (ob_1589 : Nat) (ob_1624 : Nat) (kk_1590 : ClassId) (kk_1622 : ClassId) (h0 : Heap) (n0 : Nat) (Z0 : n0 ≤ h0.size) (O0 : Old Z n0 h0) (I1631 : Arv Z h0 ob_1589 kk_1590 .char 8 [(.int 102), (.int 105), (.int 110), (.int 100), (.int 97), (.int 98), (.int 108), (.int 101)] (.int 0)) (I1632 : Arv Z h0 ob_1624 kk_1622 .byte 8 [(.int 0), (.int 0), (.int 0), (.int 0), (.int 0), (.int 0), (.int 0), (.int 0)] (.int 0)) (I1642 : n0 ≤ ob_1624) (I1651 : @Ne Nat ob_1589 ob_1624) (I1729 : Exa Z h0 ob_1624 "[B") :
    own_Met l Z h0 (⟨"java/lang/StringUTF16", "compress", "([CI[BII)I"⟩ : MethodName) jdk_52_method_21_code 7 (Option.some FieldType.int) ws ({ frames := 0, cells := 0, slots := 0, locals := 0 } : Room) #[(.ref ob_1589), (.int 0), (.ref ob_1624), (.int 0), (.int 8)] (own_Q32 Z ob_1589 ob_1624 kk_1590 kk_1622 h0 n0) 0 0 := by
  refine MetFree.of_bodySF own_pn1 hisR ?_
  intro p e s m args below meth c s₁ Bd hml0 hP hK
  obtain ⟨rfl, hZ, hh⟩ := hP
  have hx := Bd.exec
  have hby := Bd.bytes
  have hml : c.maxLocals = 7 := hml0
  have hown : s.vm.findClass "java/lang/StringUTF16" = some m.cls := findClass_of_methodNamed Bd.named
  have hnm := (name_of_methodNamed Bd.named Bd.method).1
  have X0 : Stand p l e ({ frames := 0, cells := 0, slots := 0, locals := 0 } : Room) s m #[(.ref ob_1589), (.int 0), (.ref ob_1624), (.int 0), (.int 8)] below meth c s₁ [] 0 0 := Stand.of_body Bd
  have e0 : s₁.heap = h0 := by rw [← hh, Bd.state]; rfl
  have N0 := Fr.nil n0
  show own_G p e below (s₁.setTop (entryFrame m #[(.ref ob_1589), (.int 0), (.ref ob_1624), (.int 0), (.int 8)] 7)) (own_P s (own_Q32 Z ob_1589 ob_1624 kk_1590 kk_1622 h0 n0) 0 0)
  refine own_cast (own_ef5 m ob_1589 0 ob_1624 0 8) ?_
  show own_G p e below (s₁.setTop (mkF m 0 #[rv ob_1589, iv 0, rv ob_1624, iv 0, iv 8, .unset, .unset] [])) _
  refine oS (fun _ => XS.iconst X0.here hx rfl (hb hby dd4_0) ) ?_
  refine oS (fun _ => XS.istore X0.here hx rfl (hb hby dd4_1) rfl (l' := #[rv ob_1589, iv 0, rv ob_1624, iv 0, iv 8, iv 0, .unset]) rfl) ?_
  refine oS (fun _ => XS.iload X0.here hx rfl (hb hby dd4_3) rfl) ?_
  refine oS (fun _ => XS.iload X0.here hx rfl (hb hby dd4_5) rfl) ?_
  show own_G p e below (s₁.setTop (mkF m 7 #[rv ob_1589, iv 0, rv ob_1624, iv 0, iv 8, iv 0, .unset] [(.int 8), (.int 0)])) _
  refine oS (fun _ => XS.icmpNo X0.here hx rfl (hb hby dd4_7) rfl (XT.ii_ge_f (by decide))) ?_
  show own_G p e below (s₁.setTop (mkF m 10 #[rv ob_1589, iv 0, rv ob_1624, iv 0, iv 8, iv 0, .unset] [])) _
  refine oS (fun _ => XS.aloadN X0.here hx rfl (hb hby dd4_10) rfl rfl) ?_
  refine oS (fun _ => XS.iloadN X0.here hx rfl (hb hby dd4_11) rfl) ?_
  refine oS (own_caload X0 hx hZ e0 I1631 (by decide) (v := (.int 102)) rfl rfl rfl (hb hby dd4_12)) ?_
  show own_G p e below (s₁.setTop (mkF m 13 #[rv ob_1589, iv 0, rv ob_1624, iv 0, iv 8, iv 0, .unset] [(.int 102)])) _
  refine oS (fun _ => XS.istore X0.here hx rfl (hb hby dd4_13) rfl (l' := #[rv ob_1589, iv 0, rv ob_1624, iv 0, iv 8, iv 0, iv 102]) rfl) ?_
  refine oS (fun _ => XS.iload X0.here hx rfl (hb hby dd4_15) rfl) ?_
  refine oS (fun _ => XS.sipush X0.here hx rfl (hb hby dd4_17) ) ?_
  refine oS (fun _ => XS.icmpYes X0.here hx rfl (pc0 := 20) (pc' := 26) rfl (hb hby dd4_20) rfl (XT.ii_le_t (by decide)) (by decide) (by decide)) ?_
  show own_G p e below (s₁.setTop (mkF m 26 #[rv ob_1589, iv 0, rv ob_1624, iv 0, iv 8, iv 0, iv 102] [])) _
  refine oS (fun _ => XS.aloadN X0.here hx rfl (hb hby dd4_26) rfl rfl) ?_
  refine oS (fun _ => XS.iloadN X0.here hx rfl (hb hby dd4_27) rfl) ?_
  refine oS (fun _ => XS.iload X0.here hx rfl (hb hby dd4_28) rfl) ?_
  refine oS (fun _ => XT.i2b X0.here hx rfl (hb hby dd4_30) rfl) ?_
  show own_G p e below (s₁.setTop (mkF m 31 #[rv ob_1589, iv 0, rv ob_1624, iv 0, iv 8, iv 0, iv 102] [(.int 102), (.int 0), (.ref ob_1624)])) _
  obtain ⟨T1633, h1634, X1635, e1636, W1637, A1638, s1639⟩ := own_stB X0 hx hZ e0 I1632 (x' := 102) 0 (by decide) rfl (by decide) (by simp) (g := (mkF m 31 #[rv ob_1589, iv 0, rv ob_1624, iv 0, iv 8, iv 0, iv 102] [(.int 102), (.int 0), (.ref ob_1624)])) rfl (rest := []) rfl (hb hby dd4_31)
  have N1640 := Fr.snoc X1635 N0 I1642
  have z1643 := W1637.size
  have F1644 : Arv Z h1634 ob_1624 kk_1622 .byte 8 [(.int 102), (.int 0), (.int 0), (.int 0), (.int 0), (.int 0), (.int 0), (.int 0)] (.int 0) := A1638
  refine oS s1639 ?_
  show own_G p e below (T1633.setTop (mkF m 32 #[rv ob_1589, iv 0, rv ob_1624, iv 0, iv 8, iv 0, iv 102] [])) _
  refine oS (fun _ => XS.iinc X1635.here hx rfl (hb hby dd4_32) rfl (l' := #[rv ob_1589, iv 1, rv ob_1624, iv 0, iv 8, iv 0, iv 102]) rfl) ?_
  show own_G p e below (T1633.setTop (mkF m 35 #[rv ob_1589, iv 1, rv ob_1624, iv 0, iv 8, iv 0, iv 102] [])) _
  refine oS (fun _ => XS.iinc X1635.here hx rfl (hb hby dd4_35) rfl (l' := #[rv ob_1589, iv 1, rv ob_1624, iv 1, iv 8, iv 0, iv 102]) rfl) ?_
  show own_G p e below (T1633.setTop (mkF m 38 #[rv ob_1589, iv 1, rv ob_1624, iv 1, iv 8, iv 0, iv 102] [])) _
  refine oS (fun _ => XS.iinc X1635.here hx rfl (hb hby dd4_38) rfl (l' := #[rv ob_1589, iv 1, rv ob_1624, iv 1, iv 8, iv 1, iv 102]) rfl) ?_
  show own_G p e below (T1633.setTop (mkF m 41 #[rv ob_1589, iv 1, rv ob_1624, iv 1, iv 8, iv 1, iv 102] [])) _
  refine oS (fun _ => XS.goto X1635.here hx rfl (pc0 := 41) (pc' := 3) rfl (hb hby dd4_41) (by decide) (by decide)) ?_
  show own_G p e below (T1633.setTop (mkF m 3 #[rv ob_1589, iv 1, rv ob_1624, iv 1, iv 8, iv 1, iv 102] [])) _
  refine oS (fun _ => XS.iload X1635.here hx rfl (hb hby dd4_3) rfl) ?_
  refine oS (fun _ => XS.iload X1635.here hx rfl (hb hby dd4_5) rfl) ?_
  refine oS (fun _ => XS.icmpNo X1635.here hx rfl (hb hby dd4_7) rfl (XT.ii_ge_f (by decide))) ?_
  show own_G p e below (T1633.setTop (mkF m 10 #[rv ob_1589, iv 1, rv ob_1624, iv 1, iv 8, iv 1, iv 102] [])) _
  refine oS (fun _ => XS.aloadN X1635.here hx rfl (hb hby dd4_10) rfl rfl) ?_
  refine oS (fun _ => XS.iloadN X1635.here hx rfl (hb hby dd4_11) rfl) ?_
  have F1652 : Arv Z h1634 ob_1589 kk_1590 .char 8 [(.int 102), (.int 105), (.int 110), (.int 100), (.int 97), (.int 98), (.int 108), (.int 101)] (.int 0) := I1631.other W1637 I1651
  refine oS (own_caload X1635 hx hZ e1636 F1652 (by decide) (v := (.int 105)) rfl rfl rfl (hb hby dd4_12)) ?_
  show own_G p e below (T1633.setTop (mkF m 13 #[rv ob_1589, iv 1, rv ob_1624, iv 1, iv 8, iv 1, iv 102] [(.int 105)])) _
  refine oS (fun _ => XS.istore X1635.here hx rfl (hb hby dd4_13) rfl (l' := #[rv ob_1589, iv 1, rv ob_1624, iv 1, iv 8, iv 1, iv 105]) rfl) ?_
  refine oS (fun _ => XS.iload X1635.here hx rfl (hb hby dd4_15) rfl) ?_
  refine oS (fun _ => XS.sipush X1635.here hx rfl (hb hby dd4_17) ) ?_
  refine oS (fun _ => XS.icmpYes X1635.here hx rfl (pc0 := 20) (pc' := 26) rfl (hb hby dd4_20) rfl (XT.ii_le_t (by decide)) (by decide) (by decide)) ?_
  show own_G p e below (T1633.setTop (mkF m 26 #[rv ob_1589, iv 1, rv ob_1624, iv 1, iv 8, iv 1, iv 105] [])) _
  refine oS (fun _ => XS.aloadN X1635.here hx rfl (hb hby dd4_26) rfl rfl) ?_
  refine oS (fun _ => XS.iloadN X1635.here hx rfl (hb hby dd4_27) rfl) ?_
  refine oS (fun _ => XS.iload X1635.here hx rfl (hb hby dd4_28) rfl) ?_
  refine oS (fun _ => XT.i2b X1635.here hx rfl (hb hby dd4_30) rfl) ?_
  show own_G p e below (T1633.setTop (mkF m 31 #[rv ob_1589, iv 1, rv ob_1624, iv 1, iv 8, iv 1, iv 105] [(.int 105), (.int 1), (.ref ob_1624)])) _
  obtain ⟨T1653, h1654, X1655, e1656, W1657, A1658, s1659⟩ := own_stB X1635 hx hZ e1636 F1644 (x' := 105) 1 (by decide) rfl (by decide) (by simp) (g := (mkF m 31 #[rv ob_1589, iv 1, rv ob_1624, iv 1, iv 8, iv 1, iv 105] [(.int 105), (.int 1), (.ref ob_1624)])) rfl (rest := []) rfl (hb hby dd4_31)
  have N1660 := Fr.snoc X1655 N1640 I1642
  have z1661 := W1657.size
  have F1662 : Arv Z h1654 ob_1624 kk_1622 .byte 8 [(.int 102), (.int 105), (.int 0), (.int 0), (.int 0), (.int 0), (.int 0), (.int 0)] (.int 0) := A1658
  refine oS s1659 ?_
  show own_G p e below (T1653.setTop (mkF m 32 #[rv ob_1589, iv 1, rv ob_1624, iv 1, iv 8, iv 1, iv 105] [])) _
  refine oS (fun _ => XS.iinc X1655.here hx rfl (hb hby dd4_32) rfl (l' := #[rv ob_1589, iv 2, rv ob_1624, iv 1, iv 8, iv 1, iv 105]) rfl) ?_
  show own_G p e below (T1653.setTop (mkF m 35 #[rv ob_1589, iv 2, rv ob_1624, iv 1, iv 8, iv 1, iv 105] [])) _
  refine oS (fun _ => XS.iinc X1655.here hx rfl (hb hby dd4_35) rfl (l' := #[rv ob_1589, iv 2, rv ob_1624, iv 2, iv 8, iv 1, iv 105]) rfl) ?_
  show own_G p e below (T1653.setTop (mkF m 38 #[rv ob_1589, iv 2, rv ob_1624, iv 2, iv 8, iv 1, iv 105] [])) _
  refine oS (fun _ => XS.iinc X1655.here hx rfl (hb hby dd4_38) rfl (l' := #[rv ob_1589, iv 2, rv ob_1624, iv 2, iv 8, iv 2, iv 105]) rfl) ?_
  show own_G p e below (T1653.setTop (mkF m 41 #[rv ob_1589, iv 2, rv ob_1624, iv 2, iv 8, iv 2, iv 105] [])) _
  refine oS (fun _ => XS.goto X1655.here hx rfl (pc0 := 41) (pc' := 3) rfl (hb hby dd4_41) (by decide) (by decide)) ?_
  show own_G p e below (T1653.setTop (mkF m 3 #[rv ob_1589, iv 2, rv ob_1624, iv 2, iv 8, iv 2, iv 105] [])) _
  refine oS (fun _ => XS.iload X1655.here hx rfl (hb hby dd4_3) rfl) ?_
  refine oS (fun _ => XS.iload X1655.here hx rfl (hb hby dd4_5) rfl) ?_
  refine oS (fun _ => XS.icmpNo X1655.here hx rfl (hb hby dd4_7) rfl (XT.ii_ge_f (by decide))) ?_
  show own_G p e below (T1653.setTop (mkF m 10 #[rv ob_1589, iv 2, rv ob_1624, iv 2, iv 8, iv 2, iv 105] [])) _
  refine oS (fun _ => XS.aloadN X1655.here hx rfl (hb hby dd4_10) rfl rfl) ?_
  refine oS (fun _ => XS.iloadN X1655.here hx rfl (hb hby dd4_11) rfl) ?_
  have F1663 : Arv Z h1654 ob_1589 kk_1590 .char 8 [(.int 102), (.int 105), (.int 110), (.int 100), (.int 97), (.int 98), (.int 108), (.int 101)] (.int 0) := F1652.other W1657 I1651
  refine oS (own_caload X1655 hx hZ e1656 F1663 (by decide) (v := (.int 110)) rfl rfl rfl (hb hby dd4_12)) ?_
  show own_G p e below (T1653.setTop (mkF m 13 #[rv ob_1589, iv 2, rv ob_1624, iv 2, iv 8, iv 2, iv 105] [(.int 110)])) _
  refine oS (fun _ => XS.istore X1655.here hx rfl (hb hby dd4_13) rfl (l' := #[rv ob_1589, iv 2, rv ob_1624, iv 2, iv 8, iv 2, iv 110]) rfl) ?_
  refine oS (fun _ => XS.iload X1655.here hx rfl (hb hby dd4_15) rfl) ?_
  refine oS (fun _ => XS.sipush X1655.here hx rfl (hb hby dd4_17) ) ?_
  refine oS (fun _ => XS.icmpYes X1655.here hx rfl (pc0 := 20) (pc' := 26) rfl (hb hby dd4_20) rfl (XT.ii_le_t (by decide)) (by decide) (by decide)) ?_
  show own_G p e below (T1653.setTop (mkF m 26 #[rv ob_1589, iv 2, rv ob_1624, iv 2, iv 8, iv 2, iv 110] [])) _
  refine oS (fun _ => XS.aloadN X1655.here hx rfl (hb hby dd4_26) rfl rfl) ?_
  refine oS (fun _ => XS.iloadN X1655.here hx rfl (hb hby dd4_27) rfl) ?_
  refine oS (fun _ => XS.iload X1655.here hx rfl (hb hby dd4_28) rfl) ?_
  refine oS (fun _ => XT.i2b X1655.here hx rfl (hb hby dd4_30) rfl) ?_
  show own_G p e below (T1653.setTop (mkF m 31 #[rv ob_1589, iv 2, rv ob_1624, iv 2, iv 8, iv 2, iv 110] [(.int 110), (.int 2), (.ref ob_1624)])) _
  obtain ⟨T1664, h1665, X1666, e1667, W1668, A1669, s1670⟩ := own_stB X1655 hx hZ e1656 F1662 (x' := 110) 2 (by decide) rfl (by decide) (by simp) (g := (mkF m 31 #[rv ob_1589, iv 2, rv ob_1624, iv 2, iv 8, iv 2, iv 110] [(.int 110), (.int 2), (.ref ob_1624)])) rfl (rest := []) rfl (hb hby dd4_31)
  have N1671 := Fr.snoc X1666 N1660 I1642
  have z1672 := W1668.size
  have F1673 : Arv Z h1665 ob_1624 kk_1622 .byte 8 [(.int 102), (.int 105), (.int 110), (.int 0), (.int 0), (.int 0), (.int 0), (.int 0)] (.int 0) := A1669
  refine oS s1670 ?_
  show own_G p e below (T1664.setTop (mkF m 32 #[rv ob_1589, iv 2, rv ob_1624, iv 2, iv 8, iv 2, iv 110] [])) _
  refine oS (fun _ => XS.iinc X1666.here hx rfl (hb hby dd4_32) rfl (l' := #[rv ob_1589, iv 3, rv ob_1624, iv 2, iv 8, iv 2, iv 110]) rfl) ?_
  show own_G p e below (T1664.setTop (mkF m 35 #[rv ob_1589, iv 3, rv ob_1624, iv 2, iv 8, iv 2, iv 110] [])) _
  refine oS (fun _ => XS.iinc X1666.here hx rfl (hb hby dd4_35) rfl (l' := #[rv ob_1589, iv 3, rv ob_1624, iv 3, iv 8, iv 2, iv 110]) rfl) ?_
  show own_G p e below (T1664.setTop (mkF m 38 #[rv ob_1589, iv 3, rv ob_1624, iv 3, iv 8, iv 2, iv 110] [])) _
  refine oS (fun _ => XS.iinc X1666.here hx rfl (hb hby dd4_38) rfl (l' := #[rv ob_1589, iv 3, rv ob_1624, iv 3, iv 8, iv 3, iv 110]) rfl) ?_
  show own_G p e below (T1664.setTop (mkF m 41 #[rv ob_1589, iv 3, rv ob_1624, iv 3, iv 8, iv 3, iv 110] [])) _
  refine oS (fun _ => XS.goto X1666.here hx rfl (pc0 := 41) (pc' := 3) rfl (hb hby dd4_41) (by decide) (by decide)) ?_
  show own_G p e below (T1664.setTop (mkF m 3 #[rv ob_1589, iv 3, rv ob_1624, iv 3, iv 8, iv 3, iv 110] [])) _
  refine oS (fun _ => XS.iload X1666.here hx rfl (hb hby dd4_3) rfl) ?_
  refine oS (fun _ => XS.iload X1666.here hx rfl (hb hby dd4_5) rfl) ?_
  refine oS (fun _ => XS.icmpNo X1666.here hx rfl (hb hby dd4_7) rfl (XT.ii_ge_f (by decide))) ?_
  show own_G p e below (T1664.setTop (mkF m 10 #[rv ob_1589, iv 3, rv ob_1624, iv 3, iv 8, iv 3, iv 110] [])) _
  refine oS (fun _ => XS.aloadN X1666.here hx rfl (hb hby dd4_10) rfl rfl) ?_
  refine oS (fun _ => XS.iloadN X1666.here hx rfl (hb hby dd4_11) rfl) ?_
  have F1674 : Arv Z h1665 ob_1589 kk_1590 .char 8 [(.int 102), (.int 105), (.int 110), (.int 100), (.int 97), (.int 98), (.int 108), (.int 101)] (.int 0) := F1663.other W1668 I1651
  refine oS (own_caload X1666 hx hZ e1667 F1674 (by decide) (v := (.int 100)) rfl rfl rfl (hb hby dd4_12)) ?_
  show own_G p e below (T1664.setTop (mkF m 13 #[rv ob_1589, iv 3, rv ob_1624, iv 3, iv 8, iv 3, iv 110] [(.int 100)])) _
  refine oS (fun _ => XS.istore X1666.here hx rfl (hb hby dd4_13) rfl (l' := #[rv ob_1589, iv 3, rv ob_1624, iv 3, iv 8, iv 3, iv 100]) rfl) ?_
  refine oS (fun _ => XS.iload X1666.here hx rfl (hb hby dd4_15) rfl) ?_
  refine oS (fun _ => XS.sipush X1666.here hx rfl (hb hby dd4_17) ) ?_
  refine oS (fun _ => XS.icmpYes X1666.here hx rfl (pc0 := 20) (pc' := 26) rfl (hb hby dd4_20) rfl (XT.ii_le_t (by decide)) (by decide) (by decide)) ?_
  show own_G p e below (T1664.setTop (mkF m 26 #[rv ob_1589, iv 3, rv ob_1624, iv 3, iv 8, iv 3, iv 100] [])) _
  refine oS (fun _ => XS.aloadN X1666.here hx rfl (hb hby dd4_26) rfl rfl) ?_
  refine oS (fun _ => XS.iloadN X1666.here hx rfl (hb hby dd4_27) rfl) ?_
  refine oS (fun _ => XS.iload X1666.here hx rfl (hb hby dd4_28) rfl) ?_
  refine oS (fun _ => XT.i2b X1666.here hx rfl (hb hby dd4_30) rfl) ?_
  show own_G p e below (T1664.setTop (mkF m 31 #[rv ob_1589, iv 3, rv ob_1624, iv 3, iv 8, iv 3, iv 100] [(.int 100), (.int 3), (.ref ob_1624)])) _
  obtain ⟨T1675, h1676, X1677, e1678, W1679, A1680, s1681⟩ := own_stB X1666 hx hZ e1667 F1673 (x' := 100) 3 (by decide) rfl (by decide) (by simp) (g := (mkF m 31 #[rv ob_1589, iv 3, rv ob_1624, iv 3, iv 8, iv 3, iv 100] [(.int 100), (.int 3), (.ref ob_1624)])) rfl (rest := []) rfl (hb hby dd4_31)
  have N1682 := Fr.snoc X1677 N1671 I1642
  have z1683 := W1679.size
  have F1684 : Arv Z h1676 ob_1624 kk_1622 .byte 8 [(.int 102), (.int 105), (.int 110), (.int 100), (.int 0), (.int 0), (.int 0), (.int 0)] (.int 0) := A1680
  refine oS s1681 ?_
  show own_G p e below (T1675.setTop (mkF m 32 #[rv ob_1589, iv 3, rv ob_1624, iv 3, iv 8, iv 3, iv 100] [])) _
  refine oS (fun _ => XS.iinc X1677.here hx rfl (hb hby dd4_32) rfl (l' := #[rv ob_1589, iv 4, rv ob_1624, iv 3, iv 8, iv 3, iv 100]) rfl) ?_
  show own_G p e below (T1675.setTop (mkF m 35 #[rv ob_1589, iv 4, rv ob_1624, iv 3, iv 8, iv 3, iv 100] [])) _
  refine oS (fun _ => XS.iinc X1677.here hx rfl (hb hby dd4_35) rfl (l' := #[rv ob_1589, iv 4, rv ob_1624, iv 4, iv 8, iv 3, iv 100]) rfl) ?_
  show own_G p e below (T1675.setTop (mkF m 38 #[rv ob_1589, iv 4, rv ob_1624, iv 4, iv 8, iv 3, iv 100] [])) _
  refine oS (fun _ => XS.iinc X1677.here hx rfl (hb hby dd4_38) rfl (l' := #[rv ob_1589, iv 4, rv ob_1624, iv 4, iv 8, iv 4, iv 100]) rfl) ?_
  show own_G p e below (T1675.setTop (mkF m 41 #[rv ob_1589, iv 4, rv ob_1624, iv 4, iv 8, iv 4, iv 100] [])) _
  refine oS (fun _ => XS.goto X1677.here hx rfl (pc0 := 41) (pc' := 3) rfl (hb hby dd4_41) (by decide) (by decide)) ?_
  show own_G p e below (T1675.setTop (mkF m 3 #[rv ob_1589, iv 4, rv ob_1624, iv 4, iv 8, iv 4, iv 100] [])) _
  refine oS (fun _ => XS.iload X1677.here hx rfl (hb hby dd4_3) rfl) ?_
  refine oS (fun _ => XS.iload X1677.here hx rfl (hb hby dd4_5) rfl) ?_
  refine oS (fun _ => XS.icmpNo X1677.here hx rfl (hb hby dd4_7) rfl (XT.ii_ge_f (by decide))) ?_
  show own_G p e below (T1675.setTop (mkF m 10 #[rv ob_1589, iv 4, rv ob_1624, iv 4, iv 8, iv 4, iv 100] [])) _
  refine oS (fun _ => XS.aloadN X1677.here hx rfl (hb hby dd4_10) rfl rfl) ?_
  refine oS (fun _ => XS.iloadN X1677.here hx rfl (hb hby dd4_11) rfl) ?_
  have F1685 : Arv Z h1676 ob_1589 kk_1590 .char 8 [(.int 102), (.int 105), (.int 110), (.int 100), (.int 97), (.int 98), (.int 108), (.int 101)] (.int 0) := F1674.other W1679 I1651
  refine oS (own_caload X1677 hx hZ e1678 F1685 (by decide) (v := (.int 97)) rfl rfl rfl (hb hby dd4_12)) ?_
  show own_G p e below (T1675.setTop (mkF m 13 #[rv ob_1589, iv 4, rv ob_1624, iv 4, iv 8, iv 4, iv 100] [(.int 97)])) _
  refine oS (fun _ => XS.istore X1677.here hx rfl (hb hby dd4_13) rfl (l' := #[rv ob_1589, iv 4, rv ob_1624, iv 4, iv 8, iv 4, iv 97]) rfl) ?_
  refine oS (fun _ => XS.iload X1677.here hx rfl (hb hby dd4_15) rfl) ?_
  refine oS (fun _ => XS.sipush X1677.here hx rfl (hb hby dd4_17) ) ?_
  refine oS (fun _ => XS.icmpYes X1677.here hx rfl (pc0 := 20) (pc' := 26) rfl (hb hby dd4_20) rfl (XT.ii_le_t (by decide)) (by decide) (by decide)) ?_
  show own_G p e below (T1675.setTop (mkF m 26 #[rv ob_1589, iv 4, rv ob_1624, iv 4, iv 8, iv 4, iv 97] [])) _
  refine oS (fun _ => XS.aloadN X1677.here hx rfl (hb hby dd4_26) rfl rfl) ?_
  refine oS (fun _ => XS.iloadN X1677.here hx rfl (hb hby dd4_27) rfl) ?_
  refine oS (fun _ => XS.iload X1677.here hx rfl (hb hby dd4_28) rfl) ?_
  refine oS (fun _ => XT.i2b X1677.here hx rfl (hb hby dd4_30) rfl) ?_
  show own_G p e below (T1675.setTop (mkF m 31 #[rv ob_1589, iv 4, rv ob_1624, iv 4, iv 8, iv 4, iv 97] [(.int 97), (.int 4), (.ref ob_1624)])) _
  obtain ⟨T1686, h1687, X1688, e1689, W1690, A1691, s1692⟩ := own_stB X1677 hx hZ e1678 F1684 (x' := 97) 4 (by decide) rfl (by decide) (by simp) (g := (mkF m 31 #[rv ob_1589, iv 4, rv ob_1624, iv 4, iv 8, iv 4, iv 97] [(.int 97), (.int 4), (.ref ob_1624)])) rfl (rest := []) rfl (hb hby dd4_31)
  have N1693 := Fr.snoc X1688 N1682 I1642
  have z1694 := W1690.size
  have F1695 : Arv Z h1687 ob_1624 kk_1622 .byte 8 [(.int 102), (.int 105), (.int 110), (.int 100), (.int 97), (.int 0), (.int 0), (.int 0)] (.int 0) := A1691
  refine oS s1692 ?_
  show own_G p e below (T1686.setTop (mkF m 32 #[rv ob_1589, iv 4, rv ob_1624, iv 4, iv 8, iv 4, iv 97] [])) _
  refine oS (fun _ => XS.iinc X1688.here hx rfl (hb hby dd4_32) rfl (l' := #[rv ob_1589, iv 5, rv ob_1624, iv 4, iv 8, iv 4, iv 97]) rfl) ?_
  show own_G p e below (T1686.setTop (mkF m 35 #[rv ob_1589, iv 5, rv ob_1624, iv 4, iv 8, iv 4, iv 97] [])) _
  refine oS (fun _ => XS.iinc X1688.here hx rfl (hb hby dd4_35) rfl (l' := #[rv ob_1589, iv 5, rv ob_1624, iv 5, iv 8, iv 4, iv 97]) rfl) ?_
  show own_G p e below (T1686.setTop (mkF m 38 #[rv ob_1589, iv 5, rv ob_1624, iv 5, iv 8, iv 4, iv 97] [])) _
  refine oS (fun _ => XS.iinc X1688.here hx rfl (hb hby dd4_38) rfl (l' := #[rv ob_1589, iv 5, rv ob_1624, iv 5, iv 8, iv 5, iv 97]) rfl) ?_
  show own_G p e below (T1686.setTop (mkF m 41 #[rv ob_1589, iv 5, rv ob_1624, iv 5, iv 8, iv 5, iv 97] [])) _
  refine oS (fun _ => XS.goto X1688.here hx rfl (pc0 := 41) (pc' := 3) rfl (hb hby dd4_41) (by decide) (by decide)) ?_
  show own_G p e below (T1686.setTop (mkF m 3 #[rv ob_1589, iv 5, rv ob_1624, iv 5, iv 8, iv 5, iv 97] [])) _
  refine oS (fun _ => XS.iload X1688.here hx rfl (hb hby dd4_3) rfl) ?_
  refine oS (fun _ => XS.iload X1688.here hx rfl (hb hby dd4_5) rfl) ?_
  refine oS (fun _ => XS.icmpNo X1688.here hx rfl (hb hby dd4_7) rfl (XT.ii_ge_f (by decide))) ?_
  show own_G p e below (T1686.setTop (mkF m 10 #[rv ob_1589, iv 5, rv ob_1624, iv 5, iv 8, iv 5, iv 97] [])) _
  refine oS (fun _ => XS.aloadN X1688.here hx rfl (hb hby dd4_10) rfl rfl) ?_
  refine oS (fun _ => XS.iloadN X1688.here hx rfl (hb hby dd4_11) rfl) ?_
  have F1696 : Arv Z h1687 ob_1589 kk_1590 .char 8 [(.int 102), (.int 105), (.int 110), (.int 100), (.int 97), (.int 98), (.int 108), (.int 101)] (.int 0) := F1685.other W1690 I1651
  refine oS (own_caload X1688 hx hZ e1689 F1696 (by decide) (v := (.int 98)) rfl rfl rfl (hb hby dd4_12)) ?_
  show own_G p e below (T1686.setTop (mkF m 13 #[rv ob_1589, iv 5, rv ob_1624, iv 5, iv 8, iv 5, iv 97] [(.int 98)])) _
  refine oS (fun _ => XS.istore X1688.here hx rfl (hb hby dd4_13) rfl (l' := #[rv ob_1589, iv 5, rv ob_1624, iv 5, iv 8, iv 5, iv 98]) rfl) ?_
  refine oS (fun _ => XS.iload X1688.here hx rfl (hb hby dd4_15) rfl) ?_
  refine oS (fun _ => XS.sipush X1688.here hx rfl (hb hby dd4_17) ) ?_
  refine oS (fun _ => XS.icmpYes X1688.here hx rfl (pc0 := 20) (pc' := 26) rfl (hb hby dd4_20) rfl (XT.ii_le_t (by decide)) (by decide) (by decide)) ?_
  show own_G p e below (T1686.setTop (mkF m 26 #[rv ob_1589, iv 5, rv ob_1624, iv 5, iv 8, iv 5, iv 98] [])) _
  refine oS (fun _ => XS.aloadN X1688.here hx rfl (hb hby dd4_26) rfl rfl) ?_
  refine oS (fun _ => XS.iloadN X1688.here hx rfl (hb hby dd4_27) rfl) ?_
  refine oS (fun _ => XS.iload X1688.here hx rfl (hb hby dd4_28) rfl) ?_
  refine oS (fun _ => XT.i2b X1688.here hx rfl (hb hby dd4_30) rfl) ?_
  show own_G p e below (T1686.setTop (mkF m 31 #[rv ob_1589, iv 5, rv ob_1624, iv 5, iv 8, iv 5, iv 98] [(.int 98), (.int 5), (.ref ob_1624)])) _
  obtain ⟨T1697, h1698, X1699, e1700, W1701, A1702, s1703⟩ := own_stB X1688 hx hZ e1689 F1695 (x' := 98) 5 (by decide) rfl (by decide) (by simp) (g := (mkF m 31 #[rv ob_1589, iv 5, rv ob_1624, iv 5, iv 8, iv 5, iv 98] [(.int 98), (.int 5), (.ref ob_1624)])) rfl (rest := []) rfl (hb hby dd4_31)
  have N1704 := Fr.snoc X1699 N1693 I1642
  have z1705 := W1701.size
  have F1706 : Arv Z h1698 ob_1624 kk_1622 .byte 8 [(.int 102), (.int 105), (.int 110), (.int 100), (.int 97), (.int 98), (.int 0), (.int 0)] (.int 0) := A1702
  refine oS s1703 ?_
  show own_G p e below (T1697.setTop (mkF m 32 #[rv ob_1589, iv 5, rv ob_1624, iv 5, iv 8, iv 5, iv 98] [])) _
  refine oS (fun _ => XS.iinc X1699.here hx rfl (hb hby dd4_32) rfl (l' := #[rv ob_1589, iv 6, rv ob_1624, iv 5, iv 8, iv 5, iv 98]) rfl) ?_
  show own_G p e below (T1697.setTop (mkF m 35 #[rv ob_1589, iv 6, rv ob_1624, iv 5, iv 8, iv 5, iv 98] [])) _
  refine oS (fun _ => XS.iinc X1699.here hx rfl (hb hby dd4_35) rfl (l' := #[rv ob_1589, iv 6, rv ob_1624, iv 6, iv 8, iv 5, iv 98]) rfl) ?_
  show own_G p e below (T1697.setTop (mkF m 38 #[rv ob_1589, iv 6, rv ob_1624, iv 6, iv 8, iv 5, iv 98] [])) _
  refine oS (fun _ => XS.iinc X1699.here hx rfl (hb hby dd4_38) rfl (l' := #[rv ob_1589, iv 6, rv ob_1624, iv 6, iv 8, iv 6, iv 98]) rfl) ?_
  show own_G p e below (T1697.setTop (mkF m 41 #[rv ob_1589, iv 6, rv ob_1624, iv 6, iv 8, iv 6, iv 98] [])) _
  refine oS (fun _ => XS.goto X1699.here hx rfl (pc0 := 41) (pc' := 3) rfl (hb hby dd4_41) (by decide) (by decide)) ?_
  show own_G p e below (T1697.setTop (mkF m 3 #[rv ob_1589, iv 6, rv ob_1624, iv 6, iv 8, iv 6, iv 98] [])) _
  refine oS (fun _ => XS.iload X1699.here hx rfl (hb hby dd4_3) rfl) ?_
  refine oS (fun _ => XS.iload X1699.here hx rfl (hb hby dd4_5) rfl) ?_
  refine oS (fun _ => XS.icmpNo X1699.here hx rfl (hb hby dd4_7) rfl (XT.ii_ge_f (by decide))) ?_
  show own_G p e below (T1697.setTop (mkF m 10 #[rv ob_1589, iv 6, rv ob_1624, iv 6, iv 8, iv 6, iv 98] [])) _
  refine oS (fun _ => XS.aloadN X1699.here hx rfl (hb hby dd4_10) rfl rfl) ?_
  refine oS (fun _ => XS.iloadN X1699.here hx rfl (hb hby dd4_11) rfl) ?_
  have F1707 : Arv Z h1698 ob_1589 kk_1590 .char 8 [(.int 102), (.int 105), (.int 110), (.int 100), (.int 97), (.int 98), (.int 108), (.int 101)] (.int 0) := F1696.other W1701 I1651
  refine oS (own_caload X1699 hx hZ e1700 F1707 (by decide) (v := (.int 108)) rfl rfl rfl (hb hby dd4_12)) ?_
  show own_G p e below (T1697.setTop (mkF m 13 #[rv ob_1589, iv 6, rv ob_1624, iv 6, iv 8, iv 6, iv 98] [(.int 108)])) _
  refine oS (fun _ => XS.istore X1699.here hx rfl (hb hby dd4_13) rfl (l' := #[rv ob_1589, iv 6, rv ob_1624, iv 6, iv 8, iv 6, iv 108]) rfl) ?_
  refine oS (fun _ => XS.iload X1699.here hx rfl (hb hby dd4_15) rfl) ?_
  refine oS (fun _ => XS.sipush X1699.here hx rfl (hb hby dd4_17) ) ?_
  refine oS (fun _ => XS.icmpYes X1699.here hx rfl (pc0 := 20) (pc' := 26) rfl (hb hby dd4_20) rfl (XT.ii_le_t (by decide)) (by decide) (by decide)) ?_
  show own_G p e below (T1697.setTop (mkF m 26 #[rv ob_1589, iv 6, rv ob_1624, iv 6, iv 8, iv 6, iv 108] [])) _
  refine oS (fun _ => XS.aloadN X1699.here hx rfl (hb hby dd4_26) rfl rfl) ?_
  refine oS (fun _ => XS.iloadN X1699.here hx rfl (hb hby dd4_27) rfl) ?_
  refine oS (fun _ => XS.iload X1699.here hx rfl (hb hby dd4_28) rfl) ?_
  refine oS (fun _ => XT.i2b X1699.here hx rfl (hb hby dd4_30) rfl) ?_
  show own_G p e below (T1697.setTop (mkF m 31 #[rv ob_1589, iv 6, rv ob_1624, iv 6, iv 8, iv 6, iv 108] [(.int 108), (.int 6), (.ref ob_1624)])) _
  obtain ⟨T1708, h1709, X1710, e1711, W1712, A1713, s1714⟩ := own_stB X1699 hx hZ e1700 F1706 (x' := 108) 6 (by decide) rfl (by decide) (by simp) (g := (mkF m 31 #[rv ob_1589, iv 6, rv ob_1624, iv 6, iv 8, iv 6, iv 108] [(.int 108), (.int 6), (.ref ob_1624)])) rfl (rest := []) rfl (hb hby dd4_31)
  have N1715 := Fr.snoc X1710 N1704 I1642
  have z1716 := W1712.size
  have F1717 : Arv Z h1709 ob_1624 kk_1622 .byte 8 [(.int 102), (.int 105), (.int 110), (.int 100), (.int 97), (.int 98), (.int 108), (.int 0)] (.int 0) := A1713
  refine oS s1714 ?_
  show own_G p e below (T1708.setTop (mkF m 32 #[rv ob_1589, iv 6, rv ob_1624, iv 6, iv 8, iv 6, iv 108] [])) _
  refine oS (fun _ => XS.iinc X1710.here hx rfl (hb hby dd4_32) rfl (l' := #[rv ob_1589, iv 7, rv ob_1624, iv 6, iv 8, iv 6, iv 108]) rfl) ?_
  show own_G p e below (T1708.setTop (mkF m 35 #[rv ob_1589, iv 7, rv ob_1624, iv 6, iv 8, iv 6, iv 108] [])) _
  refine oS (fun _ => XS.iinc X1710.here hx rfl (hb hby dd4_35) rfl (l' := #[rv ob_1589, iv 7, rv ob_1624, iv 7, iv 8, iv 6, iv 108]) rfl) ?_
  show own_G p e below (T1708.setTop (mkF m 38 #[rv ob_1589, iv 7, rv ob_1624, iv 7, iv 8, iv 6, iv 108] [])) _
  refine oS (fun _ => XS.iinc X1710.here hx rfl (hb hby dd4_38) rfl (l' := #[rv ob_1589, iv 7, rv ob_1624, iv 7, iv 8, iv 7, iv 108]) rfl) ?_
  show own_G p e below (T1708.setTop (mkF m 41 #[rv ob_1589, iv 7, rv ob_1624, iv 7, iv 8, iv 7, iv 108] [])) _
  refine oS (fun _ => XS.goto X1710.here hx rfl (pc0 := 41) (pc' := 3) rfl (hb hby dd4_41) (by decide) (by decide)) ?_
  show own_G p e below (T1708.setTop (mkF m 3 #[rv ob_1589, iv 7, rv ob_1624, iv 7, iv 8, iv 7, iv 108] [])) _
  refine oS (fun _ => XS.iload X1710.here hx rfl (hb hby dd4_3) rfl) ?_
  refine oS (fun _ => XS.iload X1710.here hx rfl (hb hby dd4_5) rfl) ?_
  refine oS (fun _ => XS.icmpNo X1710.here hx rfl (hb hby dd4_7) rfl (XT.ii_ge_f (by decide))) ?_
  show own_G p e below (T1708.setTop (mkF m 10 #[rv ob_1589, iv 7, rv ob_1624, iv 7, iv 8, iv 7, iv 108] [])) _
  refine oS (fun _ => XS.aloadN X1710.here hx rfl (hb hby dd4_10) rfl rfl) ?_
  refine oS (fun _ => XS.iloadN X1710.here hx rfl (hb hby dd4_11) rfl) ?_
  have F1718 : Arv Z h1709 ob_1589 kk_1590 .char 8 [(.int 102), (.int 105), (.int 110), (.int 100), (.int 97), (.int 98), (.int 108), (.int 101)] (.int 0) := F1707.other W1712 I1651
  refine oS (own_caload X1710 hx hZ e1711 F1718 (by decide) (v := (.int 101)) rfl rfl rfl (hb hby dd4_12)) ?_
  show own_G p e below (T1708.setTop (mkF m 13 #[rv ob_1589, iv 7, rv ob_1624, iv 7, iv 8, iv 7, iv 108] [(.int 101)])) _
  refine oS (fun _ => XS.istore X1710.here hx rfl (hb hby dd4_13) rfl (l' := #[rv ob_1589, iv 7, rv ob_1624, iv 7, iv 8, iv 7, iv 101]) rfl) ?_
  refine oS (fun _ => XS.iload X1710.here hx rfl (hb hby dd4_15) rfl) ?_
  refine oS (fun _ => XS.sipush X1710.here hx rfl (hb hby dd4_17) ) ?_
  refine oS (fun _ => XS.icmpYes X1710.here hx rfl (pc0 := 20) (pc' := 26) rfl (hb hby dd4_20) rfl (XT.ii_le_t (by decide)) (by decide) (by decide)) ?_
  show own_G p e below (T1708.setTop (mkF m 26 #[rv ob_1589, iv 7, rv ob_1624, iv 7, iv 8, iv 7, iv 101] [])) _
  refine oS (fun _ => XS.aloadN X1710.here hx rfl (hb hby dd4_26) rfl rfl) ?_
  refine oS (fun _ => XS.iloadN X1710.here hx rfl (hb hby dd4_27) rfl) ?_
  refine oS (fun _ => XS.iload X1710.here hx rfl (hb hby dd4_28) rfl) ?_
  refine oS (fun _ => XT.i2b X1710.here hx rfl (hb hby dd4_30) rfl) ?_
  show own_G p e below (T1708.setTop (mkF m 31 #[rv ob_1589, iv 7, rv ob_1624, iv 7, iv 8, iv 7, iv 101] [(.int 101), (.int 7), (.ref ob_1624)])) _
  obtain ⟨T1719, h1720, X1721, e1722, W1723, A1724, s1725⟩ := own_stB X1710 hx hZ e1711 F1717 (x' := 101) 7 (by decide) rfl (by decide) (by simp) (g := (mkF m 31 #[rv ob_1589, iv 7, rv ob_1624, iv 7, iv 8, iv 7, iv 101] [(.int 101), (.int 7), (.ref ob_1624)])) rfl (rest := []) rfl (hb hby dd4_31)
  have N1726 := Fr.snoc X1721 N1715 I1642
  have z1727 := W1723.size
  have F1728 : Arv Z h1720 ob_1624 kk_1622 .byte 8 [(.int 102), (.int 105), (.int 110), (.int 100), (.int 97), (.int 98), (.int 108), (.int 101)] (.int 0) := A1724
  refine oS s1725 ?_
  show own_G p e below (T1719.setTop (mkF m 32 #[rv ob_1589, iv 7, rv ob_1624, iv 7, iv 8, iv 7, iv 101] [])) _
  refine oS (fun _ => XS.iinc X1721.here hx rfl (hb hby dd4_32) rfl (l' := #[rv ob_1589, iv 8, rv ob_1624, iv 7, iv 8, iv 7, iv 101]) rfl) ?_
  show own_G p e below (T1719.setTop (mkF m 35 #[rv ob_1589, iv 8, rv ob_1624, iv 7, iv 8, iv 7, iv 101] [])) _
  refine oS (fun _ => XS.iinc X1721.here hx rfl (hb hby dd4_35) rfl (l' := #[rv ob_1589, iv 8, rv ob_1624, iv 8, iv 8, iv 7, iv 101]) rfl) ?_
  show own_G p e below (T1719.setTop (mkF m 38 #[rv ob_1589, iv 8, rv ob_1624, iv 8, iv 8, iv 7, iv 101] [])) _
  refine oS (fun _ => XS.iinc X1721.here hx rfl (hb hby dd4_38) rfl (l' := #[rv ob_1589, iv 8, rv ob_1624, iv 8, iv 8, iv 8, iv 101]) rfl) ?_
  show own_G p e below (T1719.setTop (mkF m 41 #[rv ob_1589, iv 8, rv ob_1624, iv 8, iv 8, iv 8, iv 101] [])) _
  refine oS (fun _ => XS.goto X1721.here hx rfl (pc0 := 41) (pc' := 3) rfl (hb hby dd4_41) (by decide) (by decide)) ?_
  show own_G p e below (T1719.setTop (mkF m 3 #[rv ob_1589, iv 8, rv ob_1624, iv 8, iv 8, iv 8, iv 101] [])) _
  refine oS (fun _ => XS.iload X1721.here hx rfl (hb hby dd4_3) rfl) ?_
  refine oS (fun _ => XS.iload X1721.here hx rfl (hb hby dd4_5) rfl) ?_
  refine oS (fun _ => XS.icmpYes X1721.here hx rfl (pc0 := 7) (pc' := 44) rfl (hb hby dd4_7) rfl (XT.ii_ge_t (by decide)) (by decide) (by decide)) ?_
  show own_G p e below (T1719.setTop (mkF m 44 #[rv ob_1589, iv 8, rv ob_1624, iv 8, iv 8, iv 8, iv 101] [])) _
  refine oS (fun _ => XS.iload X1721.here hx rfl (hb hby dd4_44) rfl) ?_
  have F1730 : Exa Z h1634 ob_1624 "[B" := Exa.wr W1637 I1729
  have F1731 : Exa Z h1654 ob_1624 "[B" := Exa.wr W1657 F1730
  have F1732 : Exa Z h1665 ob_1624 "[B" := Exa.wr W1668 F1731
  have F1733 : Exa Z h1676 ob_1624 "[B" := Exa.wr W1679 F1732
  have F1734 : Exa Z h1687 ob_1624 "[B" := Exa.wr W1690 F1733
  have F1735 : Exa Z h1698 ob_1624 "[B" := Exa.wr W1701 F1734
  have F1736 : Exa Z h1709 ob_1624 "[B" := Exa.wr W1712 F1735
  have F1737 : Exa Z h1720 ob_1624 "[B" := Exa.wr W1723 F1736
  have K1738 : Keep h0 h1720 [ob_1624] := (((((((((Keep.refl h0 [ob_1624]).wr W1637 (Or.inl (by simp))).wr W1657 (Or.inl (by simp))).wr W1668 (Or.inl (by simp))).wr W1679 (Or.inl (by simp))).wr W1690 (Or.inl (by simp))).wr W1701 (Or.inl (by simp))).wr W1712 (Or.inl (by simp))).wr W1723 (Or.inl (by simp)))
  exact own_retI X1721 hx Bd.notSynchronized Bd.returns (hb hby dd4_46) e1722 (by decide) (by decide) (⟨rfl, N1726, K1738, F1728, F1737⟩)
def own_Q31 (Z : State) (ob_1589 : Nat) (kk_1590 : ClassId) (h0 : Heap) (n0 : Nat) (v : Option Value) (h : Heap) (L : List Loc) : Prop := (∃ ob_1624 : Nat, ∃ kk_1622 : ClassId, v = some (.ref ob_1624) ∧ Fr n0 L ∧ Keep h0 h [] ∧ h0.size ≤ ob_1624 ∧ Arv Z h ob_1624 kk_1622 .byte 8 [(.int 102), (.int 105), (.int 110), (.int 100), (.int 97), (.int 98), (.int 108), (.int 101)] (.int 0) ∧ Exa Z h ob_1624 "[B" ∧ @LT.lt Nat instLTNat ob_1624 h.size)
set_option maxRecDepth 65536 in
set_option maxHeartbeats 40000000 in
theorem own_rm31 (l : Launch) (Z : State) (a0 : Array Value) (hw : ∀ d ∈ tables_1, d.before a0 Z = true) (ws : List Jvm.Cond) (ob_1589 : Nat) (kk_1590 : ClassId) (h0 : Heap) (n0 : Nat) (Z0 : n0 ≤ h0.size) (O0 : Old Z n0 h0) (I1629 : Arv Z h0 ob_1589 kk_1590 .char 8 [(.int 102), (.int 105), (.int 110), (.int 100), (.int 97), (.int 98), (.int 108), (.int 101)] (.int 0)) (I1649 : @LT.lt Nat instLTNat ob_1589 h0.size) :
    own_Met l Z h0 (⟨"java/lang/StringUTF16", "compress", "([CII)[B"⟩ : MethodName) jdk_52_method_16_code 6 (Option.some (FieldType.array FieldType.byte)) ws ({ frames := 1, cells := 1, slots := 8, locals := 18 } : Room) #[(.ref ob_1589), (.int 0), (.int 8)] (own_Q31 Z ob_1589 kk_1590 h0 n0) 1 8 := by
  refine MetFree.of_bodySF own_pn2 hisR ?_
  intro p e s m args below meth c s₁ Bd hml0 hP hK
  obtain ⟨rfl, hZ, hh⟩ := hP
  have hx := Bd.exec
  have hby := Bd.bytes
  have hml : c.maxLocals = 6 := hml0
  have hown : s.vm.findClass "java/lang/StringUTF16" = some m.cls := findClass_of_methodNamed Bd.named
  have hnm := (name_of_methodNamed Bd.named Bd.method).1
  have X0 : Stand p l e ({ frames := 1, cells := 1, slots := 8, locals := 18 } : Room) s m #[(.ref ob_1589), (.int 0), (.int 8)] below meth c s₁ [] 0 0 := Stand.of_body Bd
  have e0 : s₁.heap = h0 := by rw [← hh, Bd.state]; rfl
  have N0 := Fr.nil n0
  show own_G p e below (s₁.setTop (entryFrame m #[(.ref ob_1589), (.int 0), (.int 8)] 6)) (own_P s (own_Q31 Z ob_1589 kk_1590 h0 n0) 1 8)
  refine own_cast (own_ef4 m ob_1589 0 8) ?_
  show own_G p e below (s₁.setTop (mkF m 0 #[rv ob_1589, iv 0, iv 8, .unset, .unset, .unset] [])) _
  refine oS (fun _ => XS.iloadN X0.here hx rfl (hb hby dd3_0) rfl) ?_
  obtain ⟨T1613, h1614, kk_1622, X1616, e1617, E1618, A1619, B1623, s1620⟩ := own_newP X0 hx hZ (aty := .byte) (oW hw 27 rfl) e0 (nm := "[B") rfl (g := (mkF m 1 #[rv ob_1589, iv 0, iv 8, .unset, .unset, .unset] [(.int 8)])) rfl (hb hby dd3_1) (n := 8) (rest := []) rfl (by decide) (cap := 8) (by decide) (by decide) (by decide) (by decide)
  obtain ⟨ob_1624, g1625⟩ : ∃ z, z = h0.size := ⟨_, rfl⟩
  rw [← g1625] at A1619 B1623 s1620
  have F1626 : Arv Z h1614 ob_1624 kk_1622 .byte 8 [(.int 0), (.int 0), (.int 0), (.int 0), (.int 0), (.int 0), (.int 0), (.int 0)] (.int 0) := own_newA A1619 (by decide) rfl rfl
  have z1627 := E1618.1
  have y1621 : @LT.lt Nat instLTNat ob_1624 h1614.size := F1626.lt
  refine oS s1620 ?_
  show own_G p e below (T1613.setTop (mkF m 3 #[rv ob_1589, iv 0, iv 8, .unset, .unset, .unset] [(.ref ob_1624)])) _
  refine oS (fun _ => XS.astoreN X1616.here hx rfl (hb hby dd3_3) rfl rfl (l' := #[rv ob_1589, iv 0, iv 8, rv ob_1624, .unset, .unset]) rfl) ?_
  refine oS (fun _ => XS.aloadN X1616.here hx rfl (hb hby dd3_4) rfl rfl) ?_
  refine oS (fun _ => XS.iloadN X1616.here hx rfl (hb hby dd3_5) rfl) ?_
  refine oS (fun _ => XS.aloadN X1616.here hx rfl (hb hby dd3_6) rfl rfl) ?_
  show own_G p e below (T1613.setTop (mkF m 7 #[rv ob_1589, iv 0, iv 8, rv ob_1624, .unset, .unset] [(.ref ob_1624), (.int 0), (.ref ob_1589)])) _
  refine oS (fun _ => XS.iconst X1616.here hx rfl (hb hby dd3_7) ) ?_
  refine oS (fun _ => XS.iloadN X1616.here hx rfl (hb hby dd3_8) rfl) ?_
  have F1630 : Arv Z h1614 ob_1589 kk_1590 .char 8 [(.int 102), (.int 105), (.int 110), (.int 100), (.int 97), (.int 98), (.int 108), (.int 101)] (.int 0) := I1629.ext E1618
  have N1641 : n0 ≤ ob_1624 := by omega
  have N1650 : @Ne Nat ob_1589 ob_1624 := by omega
  have O1739 : Old Z n0 h1614 := O0.ext E1618
  have Z1740 : n0 ≤ h1614.size := by omega
  obtain ⟨T1741, h1742, v1743, L1744, X1745, e1746, q1747, s1748⟩ := own_callS X1616 hx hZ hown e1617 (y := (⟨"java/lang/StringUTF16", "compress", "([CI[BII)I"⟩ : MethodName)) (oW hw 28 rfl) (oW hw 29 rfl) (oW hw 25 rfl) (oW hw 30 rfl) (by decide) (W := 0) (own_rm32 l Z a0 hw [] ob_1589 ob_1624 kk_1590 kk_1622 h1614 n0 Z1740 O1739 F1630 F1626 N1641 N1650 B1623) (by decide) (by decide) (by decide) (by decide) (g := (mkF m 9 #[rv ob_1589, iv 0, iv 8, rv ob_1624, .unset, .unset] [(.int 8), (.int 0), (.ref ob_1624), (.int 0), (.ref ob_1589)])) rfl (by rw [hml]; rfl) (argsL := [(.ref ob_1589), (.int 0), (.ref ob_1624), (.int 0), (.int 8)]) (rest := []) rfl (lenOf own_pd1 rfl) rfl (by show 2 * 0 + _ ≤ _; exact Nat.le_of_eq rfl) (hb hby dd3_9)
  refine oS s1748 ?_
  obtain ⟨rfl, N1749, K1750, F1751, F1752⟩ := q1747
  have N1753 := Fr.app N0 N1749
  have z1754 := K1750.1
  show own_G p e below (T1741.setTop (mkF m 12 #[rv ob_1589, iv 0, iv 8, rv ob_1624, .unset, .unset] [(.int 8)])) _
  refine oS (fun _ => XS.istore X1745.here hx rfl (hb hby dd3_12) rfl (l' := #[rv ob_1589, iv 0, iv 8, rv ob_1624, iv 8, .unset]) rfl) ?_
  refine oS (fun _ => XS.iload X1745.here hx rfl (hb hby dd3_14) rfl) ?_
  refine oS (fun _ => XS.iloadN X1745.here hx rfl (hb hby dd3_16) rfl) ?_
  refine oS (fun _ => XS.icmpYes X1745.here hx rfl (pc0 := 17) (pc' := 57) rfl (hb hby dd3_17) rfl (XT.ii_eq_t (by decide)) (by decide) (by decide)) ?_
  show own_G p e below (T1741.setTop (mkF m 57 #[rv ob_1589, iv 0, iv 8, rv ob_1624, iv 8, .unset] [])) _
  refine oS (fun _ => XS.aloadN X1745.here hx rfl (hb hby dd3_57) rfl rfl) ?_
  have y1755 : @LT.lt Nat instLTNat ob_1624 h1742.size := by omega
  have K1756 : Keep h0 h1742 [] := (((Keep.refl h0 []).ext E1618).trans K1750 (allS (Or.inr (by omega)) all0))
  exact own_retA X1745 hx Bd.notSynchronized Bd.returns rfl rfl (hb hby dd3_58) e1746 (by decide) (by decide) (⟨ob_1624, kk_1622, rfl, N1753, K1756, (by omega), F1751, F1752, y1755⟩)
def own_Q33 (Z : State) (ob_1765 : Nat) (kk_1766 : ClassId) (h0 : Heap) (n0 : Nat) (v : Option Value) (h : Heap) (L : List Loc) : Prop := (v = some (.int 0) ∧ Fr n0 L ∧ h = h0)
set_option maxRecDepth 65536 in
set_option maxHeartbeats 40000000 in
theorem own_rm33 (l : Launch) (Z : State) (a0 : Array Value) (hw : ∀ d ∈ tables_1, d.before a0 Z = true) (ws : List Jvm.Cond) (ob_1765 : Nat) (kk_1766 : ClassId) (h0 : Heap) (n0 : Nat) (Z0 : n0 ≤ h0.size) (O0 : Old Z n0 h0) (I1775 : Arv Z h0 ob_1765 kk_1766 .byte 8 [(.int 102), (.int 105), (.int 110), (.int 100), (.int 97), (.int 98), (.int 108), (.int 101)] (.int 0)) :
    own_Met l Z h0 (⟨"java/lang/StringUTF16", "coderFromArrayLen", "([BI)B"⟩ : MethodName) jdk_52_method_15_code 2 (Option.some FieldType.byte) ws ({ frames := 0, cells := 0, slots := 0, locals := 0 } : Room) #[(.ref ob_1765), (.int 8)] (own_Q33 Z ob_1765 kk_1766 h0 n0) 0 0 := by
  refine MetFree.of_bodySF own_pn3 hisR ?_
  intro p e s m args below meth c s₁ Bd hml0 hP hK
  obtain ⟨rfl, hZ, hh⟩ := hP
  have hx := Bd.exec
  have hby := Bd.bytes
  have hml : c.maxLocals = 2 := hml0
  have hown : s.vm.findClass "java/lang/StringUTF16" = some m.cls := findClass_of_methodNamed Bd.named
  have hnm := (name_of_methodNamed Bd.named Bd.method).1
  have X0 : Stand p l e ({ frames := 0, cells := 0, slots := 0, locals := 0 } : Room) s m #[(.ref ob_1765), (.int 8)] below meth c s₁ [] 0 0 := Stand.of_body Bd
  have e0 : s₁.heap = h0 := by rw [← hh, Bd.state]; rfl
  have N0 := Fr.nil n0
  show own_G p e below (s₁.setTop (entryFrame m #[(.ref ob_1765), (.int 8)] 2)) (own_P s (own_Q33 Z ob_1765 kk_1766 h0 n0) 0 0)
  refine own_cast (own_ef6 m ob_1765 8) ?_
  show own_G p e below (s₁.setTop (mkF m 0 #[rv ob_1765, iv 8] [])) _
  refine oS (fun _ => XS.iloadN X0.here hx rfl (hb hby dd5_0) rfl) ?_
  refine oS (fun _ => XS.aloadN X0.here hx rfl (hb hby dd5_1) rfl rfl) ?_
  refine oS (own_len X0 hx hZ e0 I1775 rfl rfl (hb hby dd5_2)) ?_
  show own_G p e below (s₁.setTop (mkF m 3 #[rv ob_1765, iv 8] [(.int 8), (.int 8)])) _
  refine oS (fun _ => XS.isub X0.here hx rfl (hb hby dd5_3) rfl) ?_
  refine oS (fun _ => XS.bipush X0.here hx rfl (hb hby dd5_4) ) ?_
  refine oS (fun _ => XT.iushr X0.here hx rfl (hb hby dd5_6) rfl) ?_
  refine oS (fun _ => XT.i2b X0.here hx rfl (hb hby dd5_7) rfl) ?_
  show own_G p e below (s₁.setTop (mkF m 8 #[rv ob_1765, iv 8] [(.int 0)])) _
  exact own_retN X0 hx (t := .byte) Bd.notSynchronized Bd.returns (by simp) (hb hby dd5_8) (by decide) e0 (by decide) (by decide) (⟨rfl, N0, rfl⟩)
def own_Q30 (Z : State) (ob_1468 : Nat) (ob_1589 : Nat) (in_2 : Int32) (kk_1590 : ClassId) (h0 : Heap) (n0 : Nat) (v : Option Value) (h : Heap) (L : List Loc) : Prop := (∃ ob_1765 : Nat, ∃ kk_1766 : ClassId, v = none ∧ Fr n0 L ∧ Keep h0 h [ob_1468] ∧ h0.size ≤ ob_1765 ∧ Fld Z h ob_1468 "java/lang/String" "coder" "B" (.int 0) ∧ Exa Z h ob_1468 "java/lang/String" ∧ Fld Z h ob_1468 "java/lang/String" "value" "[B" (.ref ob_1765) ∧ Arv Z h ob_1765 kk_1766 .byte 8 [(.int 102), (.int 105), (.int 110), (.int 100), (.int 97), (.int 98), (.int 108), (.int 101)] (.int 0) ∧ Exa Z h ob_1765 "[B" ∧ @LT.lt Nat instLTNat ob_1765 h.size)
set_option maxRecDepth 65536 in
set_option maxHeartbeats 40000000 in
theorem own_rm30 (l : Launch) (Z : State) (a0 : Array Value) (hw : ∀ d ∈ tables_1, d.before a0 Z = true) (ws : List Jvm.Cond) (ob_1468 : Nat) (ob_1589 : Nat) (in_2 : Int32) (kk_1590 : ClassId) (h0 : Heap) (n0 : Nat) (Z0 : n0 ≤ h0.size) (O0 : Old Z n0 h0) (I1605 : Sta Z Z.heap "java/lang/String" "COMPACT_STRINGS" "Z" (.int in_2)) (I1612 : ¬ (in_2 = 0)) (I1628 : Arv Z h0 ob_1589 kk_1590 .char 8 [(.int 102), (.int 105), (.int 110), (.int 100), (.int 97), (.int 98), (.int 108), (.int 101)] (.int 0)) (I1647 : @LT.lt Nat instLTNat ob_1589 h0.size) (I1792 : Fld Z h0 ob_1468 "java/lang/String" "coder" "B" (.int 0)) (I1796 : Exa Z h0 ob_1468 "java/lang/String") (I1807 : n0 ≤ ob_1468) (I1812 : Fld Z h0 ob_1468 "java/lang/String" "value" "[B" .null) (I1830 : @LT.lt Nat instLTNat ob_1468 h0.size) :
    own_Met l Z h0 (⟨"java/lang/String", "<init>", "([CIILjava/lang/Void;)V"⟩ : MethodName) jdk_42_method_149_code 6 (Option.none : Option FieldType) ws ({ frames := 2, cells := 1, slots := 8, locals := 35 } : Room) #[(.ref ob_1468), (.ref ob_1589), (.int 0), (.int 8), .null] (own_Q30 Z ob_1468 ob_1589 in_2 kk_1590 h0 n0) 1 8 := by
  refine MetFree.of_bodySF own_pn4 hisR ?_
  intro p e s m args below meth c s₁ Bd hml0 hP hK
  obtain ⟨rfl, hZ, hh⟩ := hP
  have hx := Bd.exec
  have hby := Bd.bytes
  have hml : c.maxLocals = 6 := hml0
  have hown : s.vm.findClass "java/lang/String" = some m.cls := findClass_of_methodNamed Bd.named
  have hnm := (name_of_methodNamed Bd.named Bd.method).1
  have X0 : Stand p l e ({ frames := 2, cells := 1, slots := 8, locals := 35 } : Room) s m #[(.ref ob_1468), (.ref ob_1589), (.int 0), (.int 8), .null] below meth c s₁ [] 0 0 := Stand.of_body Bd
  have e0 : s₁.heap = h0 := by rw [← hh, Bd.state]; rfl
  have N0 := Fr.nil n0
  show own_G p e below (s₁.setTop (entryFrame m #[(.ref ob_1468), (.ref ob_1589), (.int 0), (.int 8), .null] 6)) (own_P s (own_Q30 Z ob_1468 ob_1589 in_2 kk_1590 h0 n0) 1 8)
  refine own_cast (own_ef3 m ob_1468 ob_1589 0 8) ?_
  show own_G p e below (s₁.setTop (mkF m 0 #[rv ob_1468, rv ob_1589, iv 0, iv 8, .val .null, .unset] [])) _
  refine oS (fun _ => XS.aloadN X0.here hx rfl (hb hby dd2_0) rfl rfl) ?_
  obtain ⟨T1600, X1601, e1602, s1603⟩ := initO X0 hx hZ hown (oW hw 19 rfl) (oW hw 20 rfl) (oW hw 21 rfl) e0 (g := (mkF m 1 #[rv ob_1468, rv ob_1589, iv 0, iv 8, .val .null, .unset] [(.ref ob_1468)])) rfl (by rw [hml]; rfl) rfl (hb hby dd2_1) (by decide) (W := 0) (by show 2 * 0 + _ ≤ _; exact Nat.le_of_eq rfl) (by decide)
  refine oS s1603 ?_
  show own_G p e below (T1600.setTop (mkF m 4 #[rv ob_1468, rv ob_1589, iv 0, iv 8, .val .null, .unset] [])) _
  refine oS (fun _ => XS.iloadN X1601.here hx rfl (hb hby dd2_4) rfl) ?_
  refine oS (fun _ => XS.ifYes X1601.here hx rfl (pc0 := 5) (pc' := 27) rfl (hb hby dd2_5) rfl (XT.i0_ne_t (by decide)) (by decide) (by decide)) ?_
  show own_G p e below (T1600.setTop (mkF m 27 #[rv ob_1468, rv ob_1589, iv 0, iv 8, .val .null, .unset] [])) _
  have F1606 : Sta Z h0 "java/lang/String" "COMPACT_STRINGS" "Z" (.int in_2) := Sta.ext O0.2 I1605
  obtain ⟨T1607, X1608, e1609, s1610⟩ := getS X1601 hx hZ hown (host := "") (oW hw 22 rfl) Via.refl e1602 F1606 (g := (mkF m 27 #[rv ob_1468, rv ob_1589, iv 0, iv 8, .val .null, .unset] [])) rfl (hb hby dd2_27)
  refine oS s1610 ?_
  show own_G p e below (T1607.setTop (mkF m 30 #[rv ob_1468, rv ob_1589, iv 0, iv 8, .val .null, .unset] [(.int in_2)])) _
  refine oS (fun _ => XS.ifNo X1608.here hx rfl (hb hby dd2_30) rfl (XT.i0_eq_f I1612)) ?_
  show own_G p e below (T1607.setTop (mkF m 33 #[rv ob_1468, rv ob_1589, iv 0, iv 8, .val .null, .unset] [])) _
  refine oS (fun _ => XS.aloadN X1608.here hx rfl (hb hby dd2_33) rfl rfl) ?_
  refine oS (fun _ => XS.iloadN X1608.here hx rfl (hb hby dd2_34) rfl) ?_
  refine oS (fun _ => XS.iloadN X1608.here hx rfl (hb hby dd2_35) rfl) ?_
  have y1648 : @LT.lt Nat instLTNat ob_1589 h0.size := by omega
  obtain ⟨T1757, h1758, v1759, L1760, X1761, e1762, q1763, s1764⟩ := own_callS X1608 hx hZ hown e1609 (y := (⟨"java/lang/StringUTF16", "compress", "([CII)[B"⟩ : MethodName)) (oW hw 23 rfl) (oW hw 24 rfl) (oW hw 25 rfl) (oW hw 26 rfl) (by decide) (W := 0) (own_rm31 l Z a0 hw [] ob_1589 kk_1590 h0 n0 Z0 O0 I1628 y1648) (by decide) (by decide) (by decide) (by decide) (g := (mkF m 36 #[rv ob_1468, rv ob_1589, iv 0, iv 8, .val .null, .unset] [(.int 8), (.int 0), (.ref ob_1589)])) rfl (by rw [hml]; rfl) (argsL := [(.ref ob_1589), (.int 0), (.int 8)]) (rest := []) rfl (lenOf own_pd2 rfl) rfl (by show 2 * 0 + _ ≤ _; exact Nat.le_of_eq rfl) (hb hby dd2_36)
  refine oS s1764 ?_
  obtain ⟨ob_1765, kk_1766, rfl, N1767, K1768, F1769, F1770, F1771, F1772⟩ := q1763
  have N1773 := Fr.app N0 N1767
  have z1774 := K1768.1
  show own_G p e below (T1757.setTop (mkF m 39 #[rv ob_1468, rv ob_1589, iv 0, iv 8, .val .null, .unset] [(.ref ob_1765)])) _
  refine oS (fun _ => XS.astore X1761.here hx rfl (hb hby dd2_39) rfl rfl (l' := #[rv ob_1468, rv ob_1589, iv 0, iv 8, .val .null, rv ob_1765]) rfl) ?_
  refine oS (fun _ => XS.aloadN X1761.here hx rfl (hb hby dd2_41) rfl rfl) ?_
  refine oS (fun _ => XS.aload X1761.here hx rfl (hb hby dd2_42) rfl rfl) ?_
  refine oS (fun _ => XS.iloadN X1761.here hx rfl (hb hby dd2_44) rfl) ?_
  show own_G p e below (T1757.setTop (mkF m 45 #[rv ob_1468, rv ob_1589, iv 0, iv 8, .val .null, rv ob_1765] [(.int 8), (.ref ob_1765), (.ref ob_1468)])) _
  have O1776 : Old Z n0 h1758 := O0.keep K1768 all0
  have Z1777 : n0 ≤ h1758.size := by omega
  obtain ⟨T1778, h1779, v1780, L1781, X1782, e1783, q1784, s1785⟩ := own_callS X1761 hx hZ hown e1762 (y := (⟨"java/lang/StringUTF16", "coderFromArrayLen", "([BI)B"⟩ : MethodName)) (oW hw 31 rfl) (oW hw 32 rfl) (oW hw 25 rfl) (oW hw 33 rfl) (by decide) (W := 1) (own_rm33 l Z a0 hw [] ob_1765 kk_1766 h1758 n0 Z1777 O1776 F1770) (by decide) (by decide) (by decide) (by decide) (g := (mkF m 45 #[rv ob_1468, rv ob_1589, iv 0, iv 8, .val .null, rv ob_1765] [(.int 8), (.ref ob_1765), (.ref ob_1468)])) rfl (by rw [hml]; rfl) (argsL := [(.ref ob_1765), (.int 8)]) (rest := [(.ref ob_1468)]) rfl (lenOf own_pd3 rfl) rfl (by show 2 * 0 + _ ≤ _; exact Nat.le_of_eq rfl) (hb hby dd2_45)
  refine oS s1785 ?_
  obtain ⟨rfl, N1786, K1787⟩ := q1784
  have N1788 := Fr.app N1773 N1786
  have e1789 := e1783.trans K1787
  show own_G p e below (T1778.setTop (mkF m 48 #[rv ob_1468, rv ob_1589, iv 0, iv 8, .val .null, rv ob_1765] [(.int 0), (.ref ob_1468)])) _
  have F1793 : Fld Z h1758 ob_1468 "java/lang/String" "coder" "B" (.int 0) := I1792.keep K1768 nin0
  have F1797 : Exa Z h1758 ob_1468 "java/lang/String" := I1796.keep K1768
  obtain ⟨T1798, h1799, X1800, e1801, W1802, s1803⟩ := putF X1782 hx hZ hown (host := "") (Or.inl (oW hw 34 rfl)) Via.refl e1789 F1793 F1797 (Or.inr ⟨(oW hw 35 rfl), rfl, hnm⟩) (oW hw 5 rfl) (ty := .byte) (by decide) (by decide) (by decide) (g := (mkF m 48 #[rv ob_1468, rv ob_1589, iv 0, iv 8, .val .null, rv ob_1765] [(.int 0), (.ref ob_1468)])) rfl rfl (hb hby dd2_48)
  have N1804 := Fr.snoc X1800 N1788 I1807
  have z1808 := W1802.size
  have F1809 : Fld Z h1799 ob_1468 "java/lang/String" "coder" "B" (.int 0) := Fld.same W1802 F1793
  refine oS s1803 ?_
  show own_G p e below (T1798.setTop (mkF m 51 #[rv ob_1468, rv ob_1589, iv 0, iv 8, .val .null, rv ob_1765] [])) _
  refine oS (fun _ => XS.aloadN X1800.here hx rfl (hb hby dd2_51) rfl rfl) ?_
  refine oS (fun _ => XS.aload X1800.here hx rfl (hb hby dd2_52) rfl rfl) ?_
  have F1813 : Fld Z h1758 ob_1468 "java/lang/String" "value" "[B" .null := I1812.keep K1768 nin0
  have F1814 : Fld Z h1799 ob_1468 "java/lang/String" "value" "[B" .null := Fld.other W1802 F1813 (Or.inr (slot_ne (C := "java/lang/String") (Or.inr (oW hw 37 rfl)) (Or.inr (oW hw 35 rfl)) (by decide) (t := (.array .byte)) (t' := .byte) (by decide) (by decide)))
  have F1815 : Exa Z h1799 ob_1468 "java/lang/String" := Exa.wr W1802 F1797
  obtain ⟨T1816, h1817, X1818, e1819, W1820, s1821⟩ := putF X1800 hx hZ hown (host := "") (Or.inl (oW hw 36 rfl)) Via.refl e1801 F1814 F1815 (Or.inr ⟨(oW hw 37 rfl), rfl, hnm⟩) (oW hw 5 rfl) (ty := (.array .byte)) (by decide) rfl rfl (g := (mkF m 54 #[rv ob_1468, rv ob_1589, iv 0, iv 8, .val .null, rv ob_1765] [(.ref ob_1765), (.ref ob_1468)])) rfl rfl (hb hby dd2_54)
  have N1822 := Fr.snoc X1818 N1804 I1807
  have z1823 := W1820.size
  have F1824 : Fld Z h1817 ob_1468 "java/lang/String" "value" "[B" (.ref ob_1765) := Fld.same W1820 F1814
  refine oS s1821 ?_
  show own_G p e below (T1816.setTop (mkF m 57 #[rv ob_1468, rv ob_1589, iv 0, iv 8, .val .null, rv ob_1765] [])) _
  have F1825 : Fld Z h1817 ob_1468 "java/lang/String" "coder" "B" (.int 0) := Fld.other W1820 F1809 (Or.inr (slot_ne (C := "java/lang/String") (Or.inr (oW hw 35 rfl)) (Or.inr (oW hw 37 rfl)) (by decide) (t := .byte) (t' := (.array .byte)) (by decide) (by decide)))
  have F1826 : Exa Z h1817 ob_1468 "java/lang/String" := Exa.wr W1820 F1815
  have N1831 : @Ne Nat ob_1765 ob_1468 := by omega
  have F1832 : Arv Z h1799 ob_1765 kk_1766 .byte 8 [(.int 102), (.int 105), (.int 110), (.int 100), (.int 97), (.int 98), (.int 108), (.int 101)] (.int 0) := F1770.other W1802 N1831
  have F1833 : Arv Z h1817 ob_1765 kk_1766 .byte 8 [(.int 102), (.int 105), (.int 110), (.int 100), (.int 97), (.int 98), (.int 108), (.int 101)] (.int 0) := F1832.other W1820 N1831
  have F1834 : Exa Z h1799 ob_1765 "[B" := Exa.wr W1802 F1771
  have F1835 : Exa Z h1817 ob_1765 "[B" := Exa.wr W1820 F1834
  have y1836 : @LT.lt Nat instLTNat ob_1765 h1817.size := by omega
  have K1837 : Keep h0 h1817 [ob_1468] := ((((Keep.refl h0 [ob_1468]).trans K1768 all0).wr W1802 (Or.inl (by simp))).wr W1820 (Or.inl (by simp)))
  exact own_retV X1818 hx Bd.notSynchronized Bd.returns (hb hby dd2_57) e1819 (by decide) (by decide) (⟨ob_1765, kk_1766, rfl, N1822, K1837, (by omega), F1825, F1826, F1824, F1833, F1835, y1836⟩)
def own_Q29 (Z : State) (ob_1468 : Nat) (ob_1589 : Nat) (kk_1590 : ClassId) (in_2 : Int32) (h0 : Heap) (n0 : Nat) (v : Option Value) (h : Heap) (L : List Loc) : Prop := (∃ ob_1846 : Nat, ∃ kk_1847 : ClassId, v = none ∧ Fr n0 L ∧ Keep h0 h [ob_1468] ∧ h0.size ≤ ob_1846 ∧ Fld Z h ob_1468 "java/lang/String" "coder" "B" (.int 0) ∧ Exa Z h ob_1468 "java/lang/String" ∧ Fld Z h ob_1468 "java/lang/String" "value" "[B" (.ref ob_1846) ∧ Arv Z h ob_1846 kk_1847 .byte 8 [(.int 102), (.int 105), (.int 110), (.int 100), (.int 97), (.int 98), (.int 108), (.int 101)] (.int 0) ∧ Exa Z h ob_1846 "[B" ∧ @LT.lt Nat instLTNat ob_1846 h.size)
set_option maxRecDepth 65536 in
set_option maxHeartbeats 40000000 in
theorem own_rm29 (l : Launch) (Z : State) (a0 : Array Value) (hw : ∀ d ∈ tables_1, d.before a0 Z = true) (ws : List Jvm.Cond) (ob_1468 : Nat) (ob_1589 : Nat) (kk_1590 : ClassId) (in_2 : Int32) (h0 : Heap) (n0 : Nat) (Z0 : n0 ≤ h0.size) (O0 : Old Z n0 h0) (I1599 : Arv Z h0 ob_1589 kk_1590 .char 8 [(.int 102), (.int 105), (.int 110), (.int 100), (.int 97), (.int 98), (.int 108), (.int 101)] (.int 0)) (I1604 : Sta Z Z.heap "java/lang/String" "COMPACT_STRINGS" "Z" (.int in_2)) (I1611 : ¬ (in_2 = 0)) (I1645 : @LT.lt Nat instLTNat ob_1589 h0.size) (I1791 : Fld Z h0 ob_1468 "java/lang/String" "coder" "B" (.int 0)) (I1795 : Exa Z h0 ob_1468 "java/lang/String") (I1806 : n0 ≤ ob_1468) (I1811 : Fld Z h0 ob_1468 "java/lang/String" "value" "[B" .null) (I1828 : @LT.lt Nat instLTNat ob_1468 h0.size) :
    own_Met l Z h0 (⟨"java/lang/String", "<init>", "([C)V"⟩ : MethodName) jdk_42_method_3_code 2 (Option.none : Option FieldType) ws ({ frames := 3, cells := 1, slots := 8, locals := 52 } : Room) #[(.ref ob_1468), (.ref ob_1589)] (own_Q29 Z ob_1468 ob_1589 kk_1590 in_2 h0 n0) 1 8 := by
  refine MetFree.of_bodySF own_pn5 hisR ?_
  intro p e s m args below meth c s₁ Bd hml0 hP hK
  obtain ⟨rfl, hZ, hh⟩ := hP
  have hx := Bd.exec
  have hby := Bd.bytes
  have hml : c.maxLocals = 2 := hml0
  have hown : s.vm.findClass "java/lang/String" = some m.cls := findClass_of_methodNamed Bd.named
  have hnm := (name_of_methodNamed Bd.named Bd.method).1
  have X0 : Stand p l e ({ frames := 3, cells := 1, slots := 8, locals := 52 } : Room) s m #[(.ref ob_1468), (.ref ob_1589)] below meth c s₁ [] 0 0 := Stand.of_body Bd
  have e0 : s₁.heap = h0 := by rw [← hh, Bd.state]; rfl
  have N0 := Fr.nil n0
  show own_G p e below (s₁.setTop (entryFrame m #[(.ref ob_1468), (.ref ob_1589)] 2)) (own_P s (own_Q29 Z ob_1468 ob_1589 kk_1590 in_2 h0 n0) 1 8)
  refine own_cast (own_ef2 m ob_1468 ob_1589) ?_
  show own_G p e below (s₁.setTop (mkF m 0 #[rv ob_1468, rv ob_1589] [])) _
  refine oS (fun _ => XS.aloadN X0.here hx rfl (hb hby dd1_0) rfl rfl) ?_
  refine oS (fun _ => XS.aloadN X0.here hx rfl (hb hby dd1_1) rfl rfl) ?_
  refine oS (fun _ => XS.iconst X0.here hx rfl (hb hby dd1_2) ) ?_
  refine oS (fun _ => XS.aloadN X0.here hx rfl (hb hby dd1_3) rfl rfl) ?_
  show own_G p e below (s₁.setTop (mkF m 4 #[rv ob_1468, rv ob_1589] [(.ref ob_1589), (.int 0), (.ref ob_1589), (.ref ob_1468)])) _
  refine oS (own_len X0 hx hZ e0 I1599 rfl rfl (hb hby dd1_4)) ?_
  show own_G p e below (s₁.setTop (mkF m 5 #[rv ob_1468, rv ob_1589] [(.int 8), (.int 0), (.ref ob_1589), (.ref ob_1468)])) _
  refine oS (fun _ => XS.aconstNull X0.here hx rfl (hb hby dd1_5) ) ?_
  have y1646 : @LT.lt Nat instLTNat ob_1589 h0.size := by omega
  have y1829 : @LT.lt Nat instLTNat ob_1468 h0.size := by omega
  obtain ⟨T1838, h1839, v1840, L1841, X1842, e1843, q1844, s1845⟩ := own_callN X0 hx hZ hown e0 (y := (⟨"java/lang/String", "<init>", "([CIILjava/lang/Void;)V"⟩ : MethodName)) (b := ob_1468) rfl (oW hw 15 rfl) (oW hw 16 rfl) (oW hw 6 rfl) (oW hw 18 rfl) (by decide) (W := 0) (own_rm30 l Z a0 hw [] ob_1468 ob_1589 in_2 kk_1590 h0 n0 Z0 O0 I1604 I1611 I1599 y1646 I1791 I1795 I1806 I1811 y1829) (by decide) (by decide) (by decide) (by decide) (g := (mkF m 6 #[rv ob_1468, rv ob_1589] [.null, (.int 8), (.int 0), (.ref ob_1589), (.ref ob_1468)])) rfl (by rw [hml]; rfl) (argsL := [(.ref ob_1589), (.int 0), (.int 8), .null]) (rest := []) rfl (lenOf own_pd4 rfl) rfl (by show 2 * 0 + _ ≤ _; exact Nat.le_of_eq rfl) (hb hby dd1_6)
  refine oS s1845 ?_
  obtain ⟨ob_1846, kk_1847, rfl, N1848, K1849, F1850, F1851, F1852, F1853, F1854, F1855, F1856⟩ := q1844
  have N1857 := Fr.app N0 N1848
  have z1858 := K1849.1
  show own_G p e below (T1838.setTop (mkF m 9 #[rv ob_1468, rv ob_1589] [])) _
  have y1859 : @LT.lt Nat instLTNat ob_1846 h1839.size := by omega
  have K1860 : Keep h0 h1839 [ob_1468] := ((Keep.refl h0 [ob_1468]).trans K1849 (allS (Or.inl (by simp)) all0))
  exact own_retV X1842 hx Bd.notSynchronized Bd.returns (hb hby dd1_9) e1843 (by decide) (by decide) (⟨ob_1846, kk_1847, rfl, N1857, K1860, (by omega), F1851, F1852, F1853, F1854, F1855, y1859⟩)
def own_Q36 (Z : State) (ob_9 : Nat) (ob_1871 : Nat) (kk_10 : ClassId) (kk_1872 : ClassId) (h0 : Heap) (n0 : Nat) (v : Option Value) (h : Heap) (L : List Loc) : Prop := (v = some (.int 0) ∧ Fr n0 L ∧ h = h0)
set_option maxRecDepth 65536 in
set_option maxHeartbeats 40000000 in
theorem own_rm36 (l : Launch) (Z : State) (a0 : Array Value) (hw : ∀ d ∈ tables_1, d.before a0 Z = true) (ws : List Jvm.Cond) (ob_9 : Nat) (ob_1871 : Nat) (kk_10 : ClassId) (kk_1872 : ClassId) (h0 : Heap) (n0 : Nat) (Z0 : n0 ≤ h0.size) (O0 : Old Z n0 h0) (I1973 : Arv Z Z.heap ob_9 kk_10 FieldType.byte 5 [(.int 100), (.int 114), (.int 97), (.int 102), (.int 116)] (.int 0)) (I1975 : Arv Z h0 ob_1871 kk_1872 .byte 8 [(.int 102), (.int 105), (.int 110), (.int 100), (.int 97), (.int 98), (.int 108), (.int 101)] (.int 0)) :
    own_Met l Z h0 (⟨"java/lang/StringLatin1", "equals", "([B[B)Z"⟩ : MethodName) jdk_43_method_13_code 3 (Option.some FieldType.boolean) ws ({ frames := 0, cells := 0, slots := 0, locals := 0 } : Room) #[(.ref ob_9), (.ref ob_1871)] (own_Q36 Z ob_9 ob_1871 kk_10 kk_1872 h0 n0) 0 0 := by
  refine MetFree.of_bodySF own_pn7 hisR ?_
  intro p e s m args below meth c s₁ Bd hml0 hP hK
  obtain ⟨rfl, hZ, hh⟩ := hP
  have hx := Bd.exec
  have hby := Bd.bytes
  have hml : c.maxLocals = 3 := hml0
  have hown : s.vm.findClass "java/lang/StringLatin1" = some m.cls := findClass_of_methodNamed Bd.named
  have hnm := (name_of_methodNamed Bd.named Bd.method).1
  have X0 : Stand p l e ({ frames := 0, cells := 0, slots := 0, locals := 0 } : Room) s m #[(.ref ob_9), (.ref ob_1871)] below meth c s₁ [] 0 0 := Stand.of_body Bd
  have e0 : s₁.heap = h0 := by rw [← hh, Bd.state]; rfl
  have N0 := Fr.nil n0
  show own_G p e below (s₁.setTop (entryFrame m #[(.ref ob_9), (.ref ob_1871)] 3)) (own_P s (own_Q36 Z ob_9 ob_1871 kk_10 kk_1872 h0 n0) 0 0)
  refine own_cast (own_ef9 m ob_9 ob_1871) ?_
  show own_G p e below (s₁.setTop (mkF m 0 #[rv ob_9, rv ob_1871, .unset] [])) _
  refine oS (fun _ => XS.aloadN X0.here hx rfl (hb hby dd9_0) rfl rfl) ?_
  have F1974 : Arv Z h0 ob_9 kk_10 FieldType.byte 5 [(.int 100), (.int 114), (.int 97), (.int 102), (.int 116)] (.int 0) := I1973.ext O0.2
  refine oS (own_len X0 hx hZ e0 F1974 rfl rfl (hb hby dd9_1)) ?_
  show own_G p e below (s₁.setTop (mkF m 2 #[rv ob_9, rv ob_1871, .unset] [(.int 5)])) _
  refine oS (fun _ => XS.aloadN X0.here hx rfl (hb hby dd9_2) rfl rfl) ?_
  refine oS (own_len X0 hx hZ e0 I1975 rfl rfl (hb hby dd9_3)) ?_
  show own_G p e below (s₁.setTop (mkF m 4 #[rv ob_9, rv ob_1871, .unset] [(.int 8), (.int 5)])) _
  refine oS (fun _ => XS.icmpYes X0.here hx rfl (pc0 := 4) (pc' := 34) rfl (hb hby dd9_4) rfl (XT.ii_ne_t (by decide)) (by decide) (by decide)) ?_
  show own_G p e below (s₁.setTop (mkF m 34 #[rv ob_9, rv ob_1871, .unset] [])) _
  refine oS (fun _ => XS.iconst X0.here hx rfl (hb hby dd9_34) ) ?_
  exact own_retN X0 hx (t := .boolean) Bd.notSynchronized Bd.returns (by simp) (hb hby dd9_35) (by decide) e0 (by decide) (by decide) (⟨rfl, N0, rfl⟩)
def own_Q35 (Z : State) (ob_8 : Nat) (ob_1468 : Nat) (in_2 : Int32) (ob_9 : Nat) (ob_1871 : Nat) (kk_10 : ClassId) (kk_1872 : ClassId) (h0 : Heap) (n0 : Nat) (v : Option Value) (h : Heap) (L : List Loc) : Prop := (v = some (.int 0) ∧ Fr n0 L ∧ h = h0)
set_option maxRecDepth 65536 in
set_option maxHeartbeats 40000000 in
theorem own_rm35 (l : Launch) (Z : State) (a0 : Array Value) (hw : ∀ d ∈ tables_1, d.before a0 Z = true) (ws : List Jvm.Cond) (ob_8 : Nat) (ob_1468 : Nat) (in_2 : Int32) (ob_9 : Nat) (ob_1871 : Nat) (kk_10 : ClassId) (kk_1872 : ClassId) (h0 : Heap) (n0 : Nat) (Z0 : n0 ≤ h0.size) (O0 : Old Z n0 h0) (I1926 : Exa Z Z.heap ob_8 "java/lang/String") (I1930 : n0 ≤ ob_1468) (I1936 : Exa Z h0 ob_1468 "java/lang/String") (I1941 : Sta Z Z.heap "java/lang/String" "COMPACT_STRINGS" "Z" (.int in_2)) (I1947 : ¬ (in_2 = 0)) (I1948 : Fld Z Z.heap ob_8 "java/lang/String" "coder" "B" (.int 0)) (I1954 : Fld Z h0 ob_1468 "java/lang/String" "coder" "B" (.int 0)) (I1959 : Fld Z Z.heap ob_8 "java/lang/String" "value" "[B" (.ref ob_9)) (I1965 : Fld Z h0 ob_1468 "java/lang/String" "value" "[B" (.ref ob_1871)) (I1970 : Arv Z Z.heap ob_9 kk_10 FieldType.byte 5 [(.int 100), (.int 114), (.int 97), (.int 102), (.int 116)] (.int 0)) (I1971 : Arv Z h0 ob_1871 kk_1872 .byte 8 [(.int 102), (.int 105), (.int 110), (.int 100), (.int 97), (.int 98), (.int 108), (.int 101)] (.int 0)) :
    own_Met l Z h0 (⟨"java/lang/String", "equals", "(Ljava/lang/Object;)Z"⟩ : MethodName) jdk_42_method_66_code 3 (Option.some FieldType.boolean) ws ({ frames := 1, cells := 0, slots := 0, locals := 14 } : Room) #[(.ref ob_8), (.ref ob_1468)] (own_Q35 Z ob_8 ob_1468 in_2 ob_9 ob_1871 kk_10 kk_1872 h0 n0) 0 0 := by
  refine MetFree.of_bodySF own_pn8 hisR ?_
  intro p e s m args below meth c s₁ Bd hml0 hP hK
  obtain ⟨rfl, hZ, hh⟩ := hP
  have hx := Bd.exec
  have hby := Bd.bytes
  have hml : c.maxLocals = 3 := hml0
  have hown : s.vm.findClass "java/lang/String" = some m.cls := findClass_of_methodNamed Bd.named
  have hnm := (name_of_methodNamed Bd.named Bd.method).1
  have X0 : Stand p l e ({ frames := 1, cells := 0, slots := 0, locals := 14 } : Room) s m #[(.ref ob_8), (.ref ob_1468)] below meth c s₁ [] 0 0 := Stand.of_body Bd
  have e0 : s₁.heap = h0 := by rw [← hh, Bd.state]; rfl
  have N0 := Fr.nil n0
  show own_G p e below (s₁.setTop (entryFrame m #[(.ref ob_8), (.ref ob_1468)] 3)) (own_P s (own_Q35 Z ob_8 ob_1468 in_2 ob_9 ob_1871 kk_10 kk_1872 h0 n0) 0 0)
  refine own_cast (own_ef9 m ob_8 ob_1468) ?_
  show own_G p e below (s₁.setTop (mkF m 0 #[rv ob_8, rv ob_1468, .unset] [])) _
  refine oS (fun _ => XS.aloadN X0.here hx rfl (hb hby dd8_0) rfl rfl) ?_
  refine oS (fun _ => XS.aloadN X0.here hx rfl (hb hby dd8_1) rfl rfl) ?_
  have y1927 : @LT.lt Nat instLTNat ob_8 Z.heap.size := I1926.lt
  have y1928 : Z.heap.size = n0 := O0.1
  have y1929 := I1930
  have N1931 : @Ne Nat ob_8 ob_1468 := by omega
  refine oS (fun _ => XT.acmpYes X0.here hx rfl (pc0 := 2) (pc' := 7) rfl (hb hby dd8_2) rfl rfl rfl (XT.aa_ne_t (own_rne N1931)) (by decide) (by decide)) ?_
  show own_G p e below (s₁.setTop (mkF m 7 #[rv ob_8, rv ob_1468, .unset] [])) _
  refine oS (fun _ => XS.aloadN X0.here hx rfl (hb hby dd8_7) rfl rfl) ?_
  obtain ⟨T1932, X1933, e1934, s1935⟩ := instY X0 hx hZ hown (oW hw 65 rfl) e0 (Ins.self I1936) (g := (mkF m 8 #[rv ob_8, rv ob_1468, .unset] [(.ref ob_1468)])) rfl rfl (hb hby dd8_8)
  refine oS s1935 ?_
  show own_G p e below (T1932.setTop (mkF m 11 #[rv ob_8, rv ob_1468, .unset] [(.int 1)])) _
  refine oS (fun _ => XS.ifNo X1933.here hx rfl (hb hby dd8_11) rfl (XT.i0_eq_f (by decide))) ?_
  show own_G p e below (T1932.setTop (mkF m 14 #[rv ob_8, rv ob_1468, .unset] [])) _
  refine oS (fun _ => XS.aloadN X1933.here hx rfl (hb hby dd8_14) rfl rfl) ?_
  obtain ⟨T1937, X1938, e1939, s1940⟩ := castY X1933 hx hZ hown (oW hw 65 rfl) e1934 (Ins.self I1936) (g := (mkF m 15 #[rv ob_8, rv ob_1468, .unset] [(.ref ob_1468)])) rfl rfl (hb hby dd8_15)
  refine oS s1940 ?_
  show own_G p e below (T1937.setTop (mkF m 18 #[rv ob_8, rv ob_1468, .unset] [(.ref ob_1468)])) _
  refine oS (fun _ => XS.astoreN X1938.here hx rfl (hb hby dd8_18) rfl rfl (l' := #[rv ob_8, rv ob_1468, rv ob_1468]) rfl) ?_
  have F1942 : Sta Z h0 "java/lang/String" "COMPACT_STRINGS" "Z" (.int in_2) := Sta.ext O0.2 I1941
  obtain ⟨T1943, X1944, e1945, s1946⟩ := getS X1938 hx hZ hown (host := "") (oW hw 22 rfl) Via.refl e1939 F1942 (g := (mkF m 19 #[rv ob_8, rv ob_1468, rv ob_1468] [])) rfl (hb hby dd8_19)
  refine oS s1946 ?_
  show own_G p e below (T1943.setTop (mkF m 22 #[rv ob_8, rv ob_1468, rv ob_1468] [(.int in_2)])) _
  refine oS (fun _ => XS.ifNo X1944.here hx rfl (hb hby dd8_22) rfl (XT.i0_eq_f I1947)) ?_
  show own_G p e below (T1943.setTop (mkF m 25 #[rv ob_8, rv ob_1468, rv ob_1468] [])) _
  refine oS (fun _ => XS.aloadN X1944.here hx rfl (hb hby dd8_25) rfl rfl) ?_
  have F1949 : Fld Z h0 ob_8 "java/lang/String" "coder" "B" (.int 0) := Fld.ext O0.2 I1948
  obtain ⟨T1950, X1951, e1952, s1953⟩ := getF X1944 hx hZ hown (host := "") (Or.inl (oW hw 34 rfl)) Via.refl e1945 F1949 (g := (mkF m 26 #[rv ob_8, rv ob_1468, rv ob_1468] [(.ref ob_8)])) rfl rfl (hb hby dd8_26)
  refine oS s1953 ?_
  show own_G p e below (T1950.setTop (mkF m 29 #[rv ob_8, rv ob_1468, rv ob_1468] [(.int 0)])) _
  refine oS (fun _ => XS.aloadN X1951.here hx rfl (hb hby dd8_29) rfl rfl) ?_
  obtain ⟨T1955, X1956, e1957, s1958⟩ := getF X1951 hx hZ hown (host := "") (Or.inl (oW hw 34 rfl)) Via.refl e1952 I1954 (g := (mkF m 30 #[rv ob_8, rv ob_1468, rv ob_1468] [(.ref ob_1468), (.int 0)])) rfl rfl (hb hby dd8_30)
  refine oS s1958 ?_
  show own_G p e below (T1955.setTop (mkF m 33 #[rv ob_8, rv ob_1468, rv ob_1468] [(.int 0), (.int 0)])) _
  refine oS (fun _ => XS.icmpNo X1956.here hx rfl (hb hby dd8_33) rfl (XT.ii_ne_f (by decide))) ?_
  show own_G p e below (T1955.setTop (mkF m 36 #[rv ob_8, rv ob_1468, rv ob_1468] [])) _
  refine oS (fun _ => XS.aloadN X1956.here hx rfl (hb hby dd8_36) rfl rfl) ?_
  have F1960 : Fld Z h0 ob_8 "java/lang/String" "value" "[B" (.ref ob_9) := Fld.ext O0.2 I1959
  obtain ⟨T1961, X1962, e1963, s1964⟩ := getF X1956 hx hZ hown (host := "") (Or.inl (oW hw 36 rfl)) Via.refl e1957 F1960 (g := (mkF m 37 #[rv ob_8, rv ob_1468, rv ob_1468] [(.ref ob_8)])) rfl rfl (hb hby dd8_37)
  refine oS s1964 ?_
  show own_G p e below (T1961.setTop (mkF m 40 #[rv ob_8, rv ob_1468, rv ob_1468] [(.ref ob_9)])) _
  refine oS (fun _ => XS.aloadN X1962.here hx rfl (hb hby dd8_40) rfl rfl) ?_
  obtain ⟨T1966, X1967, e1968, s1969⟩ := getF X1962 hx hZ hown (host := "") (Or.inl (oW hw 36 rfl)) Via.refl e1963 I1965 (g := (mkF m 41 #[rv ob_8, rv ob_1468, rv ob_1468] [(.ref ob_1468), (.ref ob_9)])) rfl rfl (hb hby dd8_41)
  refine oS s1969 ?_
  show own_G p e below (T1966.setTop (mkF m 44 #[rv ob_8, rv ob_1468, rv ob_1468] [(.ref ob_1871), (.ref ob_9)])) _
  have F1972 : Arv Z h0 ob_9 kk_10 FieldType.byte 5 [(.int 100), (.int 114), (.int 97), (.int 102), (.int 116)] (.int 0) := I1970.ext O0.2
  obtain ⟨T1976, h1977, v1978, L1979, X1980, e1981, q1982, s1983⟩ := own_callS X1967 hx hZ hown e1968 (y := (⟨"java/lang/StringLatin1", "equals", "([B[B)Z"⟩ : MethodName)) (oW hw 66 rfl) (oW hw 67 rfl) (oW hw 68 rfl) (oW hw 69 rfl) (by decide) (W := 0) (own_rm36 l Z a0 hw [] ob_9 ob_1871 kk_10 kk_1872 h0 n0 Z0 O0 I1970 I1971) (by decide) (by decide) (by decide) (by decide) (g := (mkF m 44 #[rv ob_8, rv ob_1468, rv ob_1468] [(.ref ob_1871), (.ref ob_9)])) rfl (by rw [hml]; rfl) (argsL := [(.ref ob_9), (.ref ob_1871)]) (rest := []) rfl (lenOf own_pd7 rfl) rfl (by show 2 * 0 + _ ≤ _; exact Nat.le_of_eq rfl) (hb hby dd8_44)
  refine oS s1983 ?_
  obtain ⟨rfl, N1984, K1985⟩ := q1982
  have N1986 := Fr.app N0 N1984
  have e1987 := e1981.trans K1985
  show own_G p e below (T1976.setTop (mkF m 47 #[rv ob_8, rv ob_1468, rv ob_1468] [(.int 0)])) _
  refine oS (fun _ => XS.ifYes X1980.here hx rfl (pc0 := 47) (pc' := 54) rfl (hb hby dd8_47) rfl (XT.i0_eq_t (by decide)) (by decide) (by decide)) ?_
  show own_G p e below (T1976.setTop (mkF m 54 #[rv ob_8, rv ob_1468, rv ob_1468] [])) _
  refine oS (fun _ => XS.iconst X1980.here hx rfl (hb hby dd8_54) ) ?_
  exact own_retN X1980 hx (t := .boolean) Bd.notSynchronized Bd.returns (by simp) (hb hby dd8_55) (by decide) e1987 (by decide) (by decide) (⟨rfl, N1986, rfl⟩)
def own_Q38 (Z : State) (ob_12 : Nat) (ob_1871 : Nat) (kk_13 : ClassId) (kk_1872 : ClassId) (h0 : Heap) (n0 : Nat) (v : Option Value) (h : Heap) (L : List Loc) : Prop := (v = some (.int 0) ∧ Fr n0 L ∧ h = h0)
set_option maxRecDepth 65536 in
set_option maxHeartbeats 40000000 in
theorem own_rm38 (l : Launch) (Z : State) (a0 : Array Value) (hw : ∀ d ∈ tables_1, d.before a0 Z = true) (ws : List Jvm.Cond) (ob_12 : Nat) (ob_1871 : Nat) (kk_13 : ClassId) (kk_1872 : ClassId) (h0 : Heap) (n0 : Nat) (Z0 : n0 ≤ h0.size) (O0 : Old Z n0 h0) (I2059 : Arv Z Z.heap ob_12 kk_13 FieldType.byte 10 [(.int 114), (.int 101), (.int 103), (.int 105), (.int 115), (.int 116), (.int 101), (.int 114), (.int 101), (.int 100)] (.int 0)) (I2061 : Arv Z h0 ob_1871 kk_1872 .byte 8 [(.int 102), (.int 105), (.int 110), (.int 100), (.int 97), (.int 98), (.int 108), (.int 101)] (.int 0)) :
    own_Met l Z h0 (⟨"java/lang/StringLatin1", "equals", "([B[B)Z"⟩ : MethodName) jdk_43_method_13_code 3 (Option.some FieldType.boolean) ws ({ frames := 0, cells := 0, slots := 0, locals := 0 } : Room) #[(.ref ob_12), (.ref ob_1871)] (own_Q38 Z ob_12 ob_1871 kk_13 kk_1872 h0 n0) 0 0 := by
  refine MetFree.of_bodySF own_pn7 hisR ?_
  intro p e s m args below meth c s₁ Bd hml0 hP hK
  obtain ⟨rfl, hZ, hh⟩ := hP
  have hx := Bd.exec
  have hby := Bd.bytes
  have hml : c.maxLocals = 3 := hml0
  have hown : s.vm.findClass "java/lang/StringLatin1" = some m.cls := findClass_of_methodNamed Bd.named
  have hnm := (name_of_methodNamed Bd.named Bd.method).1
  have X0 : Stand p l e ({ frames := 0, cells := 0, slots := 0, locals := 0 } : Room) s m #[(.ref ob_12), (.ref ob_1871)] below meth c s₁ [] 0 0 := Stand.of_body Bd
  have e0 : s₁.heap = h0 := by rw [← hh, Bd.state]; rfl
  have N0 := Fr.nil n0
  show own_G p e below (s₁.setTop (entryFrame m #[(.ref ob_12), (.ref ob_1871)] 3)) (own_P s (own_Q38 Z ob_12 ob_1871 kk_13 kk_1872 h0 n0) 0 0)
  refine own_cast (own_ef9 m ob_12 ob_1871) ?_
  show own_G p e below (s₁.setTop (mkF m 0 #[rv ob_12, rv ob_1871, .unset] [])) _
  refine oS (fun _ => XS.aloadN X0.here hx rfl (hb hby dd9_0) rfl rfl) ?_
  have F2060 : Arv Z h0 ob_12 kk_13 FieldType.byte 10 [(.int 114), (.int 101), (.int 103), (.int 105), (.int 115), (.int 116), (.int 101), (.int 114), (.int 101), (.int 100)] (.int 0) := I2059.ext O0.2
  refine oS (own_len X0 hx hZ e0 F2060 rfl rfl (hb hby dd9_1)) ?_
  show own_G p e below (s₁.setTop (mkF m 2 #[rv ob_12, rv ob_1871, .unset] [(.int 10)])) _
  refine oS (fun _ => XS.aloadN X0.here hx rfl (hb hby dd9_2) rfl rfl) ?_
  refine oS (own_len X0 hx hZ e0 I2061 rfl rfl (hb hby dd9_3)) ?_
  show own_G p e below (s₁.setTop (mkF m 4 #[rv ob_12, rv ob_1871, .unset] [(.int 8), (.int 10)])) _
  refine oS (fun _ => XS.icmpYes X0.here hx rfl (pc0 := 4) (pc' := 34) rfl (hb hby dd9_4) rfl (XT.ii_ne_t (by decide)) (by decide) (by decide)) ?_
  show own_G p e below (s₁.setTop (mkF m 34 #[rv ob_12, rv ob_1871, .unset] [])) _
  refine oS (fun _ => XS.iconst X0.here hx rfl (hb hby dd9_34) ) ?_
  exact own_retN X0 hx (t := .boolean) Bd.notSynchronized Bd.returns (by simp) (hb hby dd9_35) (by decide) e0 (by decide) (by decide) (⟨rfl, N0, rfl⟩)
def own_Q37 (Z : State) (ob_11 : Nat) (ob_1468 : Nat) (in_2 : Int32) (ob_12 : Nat) (ob_1871 : Nat) (kk_13 : ClassId) (kk_1872 : ClassId) (h0 : Heap) (n0 : Nat) (v : Option Value) (h : Heap) (L : List Loc) : Prop := (v = some (.int 0) ∧ Fr n0 L ∧ h = h0)
set_option maxRecDepth 65536 in
set_option maxHeartbeats 40000000 in
theorem own_rm37 (l : Launch) (Z : State) (a0 : Array Value) (hw : ∀ d ∈ tables_1, d.before a0 Z = true) (ws : List Jvm.Cond) (ob_11 : Nat) (ob_1468 : Nat) (in_2 : Int32) (ob_12 : Nat) (ob_1871 : Nat) (kk_13 : ClassId) (kk_1872 : ClassId) (h0 : Heap) (n0 : Nat) (Z0 : n0 ≤ h0.size) (O0 : Old Z n0 h0) (I2012 : Exa Z Z.heap ob_11 "java/lang/String") (I2016 : n0 ≤ ob_1468) (I2022 : Exa Z h0 ob_1468 "java/lang/String") (I2027 : Sta Z Z.heap "java/lang/String" "COMPACT_STRINGS" "Z" (.int in_2)) (I2033 : ¬ (in_2 = 0)) (I2034 : Fld Z Z.heap ob_11 "java/lang/String" "coder" "B" (.int 0)) (I2040 : Fld Z h0 ob_1468 "java/lang/String" "coder" "B" (.int 0)) (I2045 : Fld Z Z.heap ob_11 "java/lang/String" "value" "[B" (.ref ob_12)) (I2051 : Fld Z h0 ob_1468 "java/lang/String" "value" "[B" (.ref ob_1871)) (I2056 : Arv Z Z.heap ob_12 kk_13 FieldType.byte 10 [(.int 114), (.int 101), (.int 103), (.int 105), (.int 115), (.int 116), (.int 101), (.int 114), (.int 101), (.int 100)] (.int 0)) (I2058 : Arv Z h0 ob_1871 kk_1872 .byte 8 [(.int 102), (.int 105), (.int 110), (.int 100), (.int 97), (.int 98), (.int 108), (.int 101)] (.int 0)) :
    own_Met l Z h0 (⟨"java/lang/String", "equals", "(Ljava/lang/Object;)Z"⟩ : MethodName) jdk_42_method_66_code 3 (Option.some FieldType.boolean) ws ({ frames := 1, cells := 0, slots := 0, locals := 14 } : Room) #[(.ref ob_11), (.ref ob_1468)] (own_Q37 Z ob_11 ob_1468 in_2 ob_12 ob_1871 kk_13 kk_1872 h0 n0) 0 0 := by
  refine MetFree.of_bodySF own_pn8 hisR ?_
  intro p e s m args below meth c s₁ Bd hml0 hP hK
  obtain ⟨rfl, hZ, hh⟩ := hP
  have hx := Bd.exec
  have hby := Bd.bytes
  have hml : c.maxLocals = 3 := hml0
  have hown : s.vm.findClass "java/lang/String" = some m.cls := findClass_of_methodNamed Bd.named
  have hnm := (name_of_methodNamed Bd.named Bd.method).1
  have X0 : Stand p l e ({ frames := 1, cells := 0, slots := 0, locals := 14 } : Room) s m #[(.ref ob_11), (.ref ob_1468)] below meth c s₁ [] 0 0 := Stand.of_body Bd
  have e0 : s₁.heap = h0 := by rw [← hh, Bd.state]; rfl
  have N0 := Fr.nil n0
  show own_G p e below (s₁.setTop (entryFrame m #[(.ref ob_11), (.ref ob_1468)] 3)) (own_P s (own_Q37 Z ob_11 ob_1468 in_2 ob_12 ob_1871 kk_13 kk_1872 h0 n0) 0 0)
  refine own_cast (own_ef9 m ob_11 ob_1468) ?_
  show own_G p e below (s₁.setTop (mkF m 0 #[rv ob_11, rv ob_1468, .unset] [])) _
  refine oS (fun _ => XS.aloadN X0.here hx rfl (hb hby dd8_0) rfl rfl) ?_
  refine oS (fun _ => XS.aloadN X0.here hx rfl (hb hby dd8_1) rfl rfl) ?_
  have y2013 : @LT.lt Nat instLTNat ob_11 Z.heap.size := I2012.lt
  have y2014 : Z.heap.size = n0 := O0.1
  have y2015 := I2016
  have N2017 : @Ne Nat ob_11 ob_1468 := by omega
  refine oS (fun _ => XT.acmpYes X0.here hx rfl (pc0 := 2) (pc' := 7) rfl (hb hby dd8_2) rfl rfl rfl (XT.aa_ne_t (own_rne N2017)) (by decide) (by decide)) ?_
  show own_G p e below (s₁.setTop (mkF m 7 #[rv ob_11, rv ob_1468, .unset] [])) _
  refine oS (fun _ => XS.aloadN X0.here hx rfl (hb hby dd8_7) rfl rfl) ?_
  obtain ⟨T2018, X2019, e2020, s2021⟩ := instY X0 hx hZ hown (oW hw 65 rfl) e0 (Ins.self I2022) (g := (mkF m 8 #[rv ob_11, rv ob_1468, .unset] [(.ref ob_1468)])) rfl rfl (hb hby dd8_8)
  refine oS s2021 ?_
  show own_G p e below (T2018.setTop (mkF m 11 #[rv ob_11, rv ob_1468, .unset] [(.int 1)])) _
  refine oS (fun _ => XS.ifNo X2019.here hx rfl (hb hby dd8_11) rfl (XT.i0_eq_f (by decide))) ?_
  show own_G p e below (T2018.setTop (mkF m 14 #[rv ob_11, rv ob_1468, .unset] [])) _
  refine oS (fun _ => XS.aloadN X2019.here hx rfl (hb hby dd8_14) rfl rfl) ?_
  obtain ⟨T2023, X2024, e2025, s2026⟩ := castY X2019 hx hZ hown (oW hw 65 rfl) e2020 (Ins.self I2022) (g := (mkF m 15 #[rv ob_11, rv ob_1468, .unset] [(.ref ob_1468)])) rfl rfl (hb hby dd8_15)
  refine oS s2026 ?_
  show own_G p e below (T2023.setTop (mkF m 18 #[rv ob_11, rv ob_1468, .unset] [(.ref ob_1468)])) _
  refine oS (fun _ => XS.astoreN X2024.here hx rfl (hb hby dd8_18) rfl rfl (l' := #[rv ob_11, rv ob_1468, rv ob_1468]) rfl) ?_
  have F2028 : Sta Z h0 "java/lang/String" "COMPACT_STRINGS" "Z" (.int in_2) := Sta.ext O0.2 I2027
  obtain ⟨T2029, X2030, e2031, s2032⟩ := getS X2024 hx hZ hown (host := "") (oW hw 22 rfl) Via.refl e2025 F2028 (g := (mkF m 19 #[rv ob_11, rv ob_1468, rv ob_1468] [])) rfl (hb hby dd8_19)
  refine oS s2032 ?_
  show own_G p e below (T2029.setTop (mkF m 22 #[rv ob_11, rv ob_1468, rv ob_1468] [(.int in_2)])) _
  refine oS (fun _ => XS.ifNo X2030.here hx rfl (hb hby dd8_22) rfl (XT.i0_eq_f I2033)) ?_
  show own_G p e below (T2029.setTop (mkF m 25 #[rv ob_11, rv ob_1468, rv ob_1468] [])) _
  refine oS (fun _ => XS.aloadN X2030.here hx rfl (hb hby dd8_25) rfl rfl) ?_
  have F2035 : Fld Z h0 ob_11 "java/lang/String" "coder" "B" (.int 0) := Fld.ext O0.2 I2034
  obtain ⟨T2036, X2037, e2038, s2039⟩ := getF X2030 hx hZ hown (host := "") (Or.inl (oW hw 34 rfl)) Via.refl e2031 F2035 (g := (mkF m 26 #[rv ob_11, rv ob_1468, rv ob_1468] [(.ref ob_11)])) rfl rfl (hb hby dd8_26)
  refine oS s2039 ?_
  show own_G p e below (T2036.setTop (mkF m 29 #[rv ob_11, rv ob_1468, rv ob_1468] [(.int 0)])) _
  refine oS (fun _ => XS.aloadN X2037.here hx rfl (hb hby dd8_29) rfl rfl) ?_
  obtain ⟨T2041, X2042, e2043, s2044⟩ := getF X2037 hx hZ hown (host := "") (Or.inl (oW hw 34 rfl)) Via.refl e2038 I2040 (g := (mkF m 30 #[rv ob_11, rv ob_1468, rv ob_1468] [(.ref ob_1468), (.int 0)])) rfl rfl (hb hby dd8_30)
  refine oS s2044 ?_
  show own_G p e below (T2041.setTop (mkF m 33 #[rv ob_11, rv ob_1468, rv ob_1468] [(.int 0), (.int 0)])) _
  refine oS (fun _ => XS.icmpNo X2042.here hx rfl (hb hby dd8_33) rfl (XT.ii_ne_f (by decide))) ?_
  show own_G p e below (T2041.setTop (mkF m 36 #[rv ob_11, rv ob_1468, rv ob_1468] [])) _
  refine oS (fun _ => XS.aloadN X2042.here hx rfl (hb hby dd8_36) rfl rfl) ?_
  have F2046 : Fld Z h0 ob_11 "java/lang/String" "value" "[B" (.ref ob_12) := Fld.ext O0.2 I2045
  obtain ⟨T2047, X2048, e2049, s2050⟩ := getF X2042 hx hZ hown (host := "") (Or.inl (oW hw 36 rfl)) Via.refl e2043 F2046 (g := (mkF m 37 #[rv ob_11, rv ob_1468, rv ob_1468] [(.ref ob_11)])) rfl rfl (hb hby dd8_37)
  refine oS s2050 ?_
  show own_G p e below (T2047.setTop (mkF m 40 #[rv ob_11, rv ob_1468, rv ob_1468] [(.ref ob_12)])) _
  refine oS (fun _ => XS.aloadN X2048.here hx rfl (hb hby dd8_40) rfl rfl) ?_
  obtain ⟨T2052, X2053, e2054, s2055⟩ := getF X2048 hx hZ hown (host := "") (Or.inl (oW hw 36 rfl)) Via.refl e2049 I2051 (g := (mkF m 41 #[rv ob_11, rv ob_1468, rv ob_1468] [(.ref ob_1468), (.ref ob_12)])) rfl rfl (hb hby dd8_41)
  refine oS s2055 ?_
  show own_G p e below (T2052.setTop (mkF m 44 #[rv ob_11, rv ob_1468, rv ob_1468] [(.ref ob_1871), (.ref ob_12)])) _
  have F2057 : Arv Z h0 ob_12 kk_13 FieldType.byte 10 [(.int 114), (.int 101), (.int 103), (.int 105), (.int 115), (.int 116), (.int 101), (.int 114), (.int 101), (.int 100)] (.int 0) := I2056.ext O0.2
  obtain ⟨T2062, h2063, v2064, L2065, X2066, e2067, q2068, s2069⟩ := own_callS X2053 hx hZ hown e2054 (y := (⟨"java/lang/StringLatin1", "equals", "([B[B)Z"⟩ : MethodName)) (oW hw 66 rfl) (oW hw 67 rfl) (oW hw 68 rfl) (oW hw 69 rfl) (by decide) (W := 0) (own_rm38 l Z a0 hw [] ob_12 ob_1871 kk_13 kk_1872 h0 n0 Z0 O0 I2056 I2058) (by decide) (by decide) (by decide) (by decide) (g := (mkF m 44 #[rv ob_11, rv ob_1468, rv ob_1468] [(.ref ob_1871), (.ref ob_12)])) rfl (by rw [hml]; rfl) (argsL := [(.ref ob_12), (.ref ob_1871)]) (rest := []) rfl (lenOf own_pd7 rfl) rfl (by show 2 * 0 + _ ≤ _; exact Nat.le_of_eq rfl) (hb hby dd8_44)
  refine oS s2069 ?_
  obtain ⟨rfl, N2070, K2071⟩ := q2068
  have N2072 := Fr.app N0 N2070
  have e2073 := e2067.trans K2071
  show own_G p e below (T2062.setTop (mkF m 47 #[rv ob_11, rv ob_1468, rv ob_1468] [(.int 0)])) _
  refine oS (fun _ => XS.ifYes X2066.here hx rfl (pc0 := 47) (pc' := 54) rfl (hb hby dd8_47) rfl (XT.i0_eq_t (by decide)) (by decide) (by decide)) ?_
  show own_G p e below (T2062.setTop (mkF m 54 #[rv ob_11, rv ob_1468, rv ob_1468] [])) _
  refine oS (fun _ => XS.iconst X2066.here hx rfl (hb hby dd8_54) ) ?_
  exact own_retN X2066 hx (t := .boolean) Bd.notSynchronized Bd.returns (by simp) (hb hby dd8_55) (by decide) e2073 (by decide) (by decide) (⟨rfl, N2072, rfl⟩)
def own_Q40 (Z : State) (ob_15 : Nat) (ob_1871 : Nat) (kk_16 : ClassId) (kk_1872 : ClassId) (h0 : Heap) (n0 : Nat) (v : Option Value) (h : Heap) (L : List Loc) : Prop := (v = some (.int 1) ∧ Fr n0 L ∧ h = h0)
set_option maxRecDepth 65536 in
set_option maxHeartbeats 40000000 in
theorem own_rm40 (l : Launch) (Z : State) (a0 : Array Value) (hw : ∀ d ∈ tables_1, d.before a0 Z = true) (ws : List Jvm.Cond) (ob_15 : Nat) (ob_1871 : Nat) (kk_16 : ClassId) (kk_1872 : ClassId) (h0 : Heap) (n0 : Nat) (Z0 : n0 ≤ h0.size) (O0 : Old Z n0 h0) (I2149 : Arv Z Z.heap ob_15 kk_16 FieldType.byte 8 [(.int 102), (.int 105), (.int 110), (.int 100), (.int 97), (.int 98), (.int 108), (.int 101)] (.int 0)) (I2152 : Arv Z h0 ob_1871 kk_1872 .byte 8 [(.int 102), (.int 105), (.int 110), (.int 100), (.int 97), (.int 98), (.int 108), (.int 101)] (.int 0)) :
    own_Met l Z h0 (⟨"java/lang/StringLatin1", "equals", "([B[B)Z"⟩ : MethodName) jdk_43_method_13_code 3 (Option.some FieldType.boolean) ws ({ frames := 0, cells := 0, slots := 0, locals := 0 } : Room) #[(.ref ob_15), (.ref ob_1871)] (own_Q40 Z ob_15 ob_1871 kk_16 kk_1872 h0 n0) 0 0 := by
  refine MetFree.of_bodySF own_pn7 hisR ?_
  intro p e s m args below meth c s₁ Bd hml0 hP hK
  obtain ⟨rfl, hZ, hh⟩ := hP
  have hx := Bd.exec
  have hby := Bd.bytes
  have hml : c.maxLocals = 3 := hml0
  have hown : s.vm.findClass "java/lang/StringLatin1" = some m.cls := findClass_of_methodNamed Bd.named
  have hnm := (name_of_methodNamed Bd.named Bd.method).1
  have X0 : Stand p l e ({ frames := 0, cells := 0, slots := 0, locals := 0 } : Room) s m #[(.ref ob_15), (.ref ob_1871)] below meth c s₁ [] 0 0 := Stand.of_body Bd
  have e0 : s₁.heap = h0 := by rw [← hh, Bd.state]; rfl
  have N0 := Fr.nil n0
  show own_G p e below (s₁.setTop (entryFrame m #[(.ref ob_15), (.ref ob_1871)] 3)) (own_P s (own_Q40 Z ob_15 ob_1871 kk_16 kk_1872 h0 n0) 0 0)
  refine own_cast (own_ef9 m ob_15 ob_1871) ?_
  show own_G p e below (s₁.setTop (mkF m 0 #[rv ob_15, rv ob_1871, .unset] [])) _
  refine oS (fun _ => XS.aloadN X0.here hx rfl (hb hby dd9_0) rfl rfl) ?_
  have F2150 : Arv Z h0 ob_15 kk_16 FieldType.byte 8 [(.int 102), (.int 105), (.int 110), (.int 100), (.int 97), (.int 98), (.int 108), (.int 101)] (.int 0) := I2149.ext O0.2
  refine oS (own_len X0 hx hZ e0 F2150 rfl rfl (hb hby dd9_1)) ?_
  show own_G p e below (s₁.setTop (mkF m 2 #[rv ob_15, rv ob_1871, .unset] [(.int 8)])) _
  refine oS (fun _ => XS.aloadN X0.here hx rfl (hb hby dd9_2) rfl rfl) ?_
  refine oS (own_len X0 hx hZ e0 I2152 rfl rfl (hb hby dd9_3)) ?_
  show own_G p e below (s₁.setTop (mkF m 4 #[rv ob_15, rv ob_1871, .unset] [(.int 8), (.int 8)])) _
  refine oS (fun _ => XS.icmpNo X0.here hx rfl (hb hby dd9_4) rfl (XT.ii_ne_f (by decide))) ?_
  show own_G p e below (s₁.setTop (mkF m 7 #[rv ob_15, rv ob_1871, .unset] [])) _
  refine oS (fun _ => XS.iconst X0.here hx rfl (hb hby dd9_7) ) ?_
  refine oS (fun _ => XS.istoreN X0.here hx rfl (hb hby dd9_8) rfl (l' := #[rv ob_15, rv ob_1871, iv 0]) rfl) ?_
  refine oS (fun _ => XS.iloadN X0.here hx rfl (hb hby dd9_9) rfl) ?_
  refine oS (fun _ => XS.aloadN X0.here hx rfl (hb hby dd9_10) rfl rfl) ?_
  show own_G p e below (s₁.setTop (mkF m 11 #[rv ob_15, rv ob_1871, iv 0] [(.ref ob_15), (.int 0)])) _
  refine oS (own_len X0 hx hZ e0 F2150 rfl rfl (hb hby dd9_11)) ?_
  show own_G p e below (s₁.setTop (mkF m 12 #[rv ob_15, rv ob_1871, iv 0] [(.int 8), (.int 0)])) _
  refine oS (fun _ => XS.icmpNo X0.here hx rfl (hb hby dd9_12) rfl (XT.ii_ge_f (by decide))) ?_
  show own_G p e below (s₁.setTop (mkF m 15 #[rv ob_15, rv ob_1871, iv 0] [])) _
  refine oS (fun _ => XS.aloadN X0.here hx rfl (hb hby dd9_15) rfl rfl) ?_
  refine oS (fun _ => XS.iloadN X0.here hx rfl (hb hby dd9_16) rfl) ?_
  refine oS (own_baload X0 hx hZ e0 F2150 (by decide) (v := (.int 102)) rfl rfl rfl (hb hby dd9_17)) ?_
  show own_G p e below (s₁.setTop (mkF m 18 #[rv ob_15, rv ob_1871, iv 0] [(.int 102)])) _
  refine oS (fun _ => XS.aloadN X0.here hx rfl (hb hby dd9_18) rfl rfl) ?_
  refine oS (fun _ => XS.iloadN X0.here hx rfl (hb hby dd9_19) rfl) ?_
  refine oS (own_baload X0 hx hZ e0 I2152 (by decide) (v := (.int 102)) rfl rfl rfl (hb hby dd9_20)) ?_
  show own_G p e below (s₁.setTop (mkF m 21 #[rv ob_15, rv ob_1871, iv 0] [(.int 102), (.int 102)])) _
  refine oS (fun _ => XS.icmpYes X0.here hx rfl (pc0 := 21) (pc' := 26) rfl (hb hby dd9_21) rfl (XT.ii_eq_t (by decide)) (by decide) (by decide)) ?_
  show own_G p e below (s₁.setTop (mkF m 26 #[rv ob_15, rv ob_1871, iv 0] [])) _
  refine oS (fun _ => XS.iinc X0.here hx rfl (hb hby dd9_26) rfl (l' := #[rv ob_15, rv ob_1871, iv 1]) rfl) ?_
  show own_G p e below (s₁.setTop (mkF m 29 #[rv ob_15, rv ob_1871, iv 1] [])) _
  refine oS (fun _ => XS.goto X0.here hx rfl (pc0 := 29) (pc' := 9) rfl (hb hby dd9_29) (by decide) (by decide)) ?_
  show own_G p e below (s₁.setTop (mkF m 9 #[rv ob_15, rv ob_1871, iv 1] [])) _
  refine oS (fun _ => XS.iloadN X0.here hx rfl (hb hby dd9_9) rfl) ?_
  refine oS (fun _ => XS.aloadN X0.here hx rfl (hb hby dd9_10) rfl rfl) ?_
  refine oS (own_len X0 hx hZ e0 F2150 rfl rfl (hb hby dd9_11)) ?_
  show own_G p e below (s₁.setTop (mkF m 12 #[rv ob_15, rv ob_1871, iv 1] [(.int 8), (.int 1)])) _
  refine oS (fun _ => XS.icmpNo X0.here hx rfl (hb hby dd9_12) rfl (XT.ii_ge_f (by decide))) ?_
  show own_G p e below (s₁.setTop (mkF m 15 #[rv ob_15, rv ob_1871, iv 1] [])) _
  refine oS (fun _ => XS.aloadN X0.here hx rfl (hb hby dd9_15) rfl rfl) ?_
  refine oS (fun _ => XS.iloadN X0.here hx rfl (hb hby dd9_16) rfl) ?_
  refine oS (own_baload X0 hx hZ e0 F2150 (by decide) (v := (.int 105)) rfl rfl rfl (hb hby dd9_17)) ?_
  show own_G p e below (s₁.setTop (mkF m 18 #[rv ob_15, rv ob_1871, iv 1] [(.int 105)])) _
  refine oS (fun _ => XS.aloadN X0.here hx rfl (hb hby dd9_18) rfl rfl) ?_
  refine oS (fun _ => XS.iloadN X0.here hx rfl (hb hby dd9_19) rfl) ?_
  refine oS (own_baload X0 hx hZ e0 I2152 (by decide) (v := (.int 105)) rfl rfl rfl (hb hby dd9_20)) ?_
  show own_G p e below (s₁.setTop (mkF m 21 #[rv ob_15, rv ob_1871, iv 1] [(.int 105), (.int 105)])) _
  refine oS (fun _ => XS.icmpYes X0.here hx rfl (pc0 := 21) (pc' := 26) rfl (hb hby dd9_21) rfl (XT.ii_eq_t (by decide)) (by decide) (by decide)) ?_
  show own_G p e below (s₁.setTop (mkF m 26 #[rv ob_15, rv ob_1871, iv 1] [])) _
  refine oS (fun _ => XS.iinc X0.here hx rfl (hb hby dd9_26) rfl (l' := #[rv ob_15, rv ob_1871, iv 2]) rfl) ?_
  show own_G p e below (s₁.setTop (mkF m 29 #[rv ob_15, rv ob_1871, iv 2] [])) _
  refine oS (fun _ => XS.goto X0.here hx rfl (pc0 := 29) (pc' := 9) rfl (hb hby dd9_29) (by decide) (by decide)) ?_
  show own_G p e below (s₁.setTop (mkF m 9 #[rv ob_15, rv ob_1871, iv 2] [])) _
  refine oS (fun _ => XS.iloadN X0.here hx rfl (hb hby dd9_9) rfl) ?_
  refine oS (fun _ => XS.aloadN X0.here hx rfl (hb hby dd9_10) rfl rfl) ?_
  refine oS (own_len X0 hx hZ e0 F2150 rfl rfl (hb hby dd9_11)) ?_
  show own_G p e below (s₁.setTop (mkF m 12 #[rv ob_15, rv ob_1871, iv 2] [(.int 8), (.int 2)])) _
  refine oS (fun _ => XS.icmpNo X0.here hx rfl (hb hby dd9_12) rfl (XT.ii_ge_f (by decide))) ?_
  show own_G p e below (s₁.setTop (mkF m 15 #[rv ob_15, rv ob_1871, iv 2] [])) _
  refine oS (fun _ => XS.aloadN X0.here hx rfl (hb hby dd9_15) rfl rfl) ?_
  refine oS (fun _ => XS.iloadN X0.here hx rfl (hb hby dd9_16) rfl) ?_
  refine oS (own_baload X0 hx hZ e0 F2150 (by decide) (v := (.int 110)) rfl rfl rfl (hb hby dd9_17)) ?_
  show own_G p e below (s₁.setTop (mkF m 18 #[rv ob_15, rv ob_1871, iv 2] [(.int 110)])) _
  refine oS (fun _ => XS.aloadN X0.here hx rfl (hb hby dd9_18) rfl rfl) ?_
  refine oS (fun _ => XS.iloadN X0.here hx rfl (hb hby dd9_19) rfl) ?_
  refine oS (own_baload X0 hx hZ e0 I2152 (by decide) (v := (.int 110)) rfl rfl rfl (hb hby dd9_20)) ?_
  show own_G p e below (s₁.setTop (mkF m 21 #[rv ob_15, rv ob_1871, iv 2] [(.int 110), (.int 110)])) _
  refine oS (fun _ => XS.icmpYes X0.here hx rfl (pc0 := 21) (pc' := 26) rfl (hb hby dd9_21) rfl (XT.ii_eq_t (by decide)) (by decide) (by decide)) ?_
  show own_G p e below (s₁.setTop (mkF m 26 #[rv ob_15, rv ob_1871, iv 2] [])) _
  refine oS (fun _ => XS.iinc X0.here hx rfl (hb hby dd9_26) rfl (l' := #[rv ob_15, rv ob_1871, iv 3]) rfl) ?_
  show own_G p e below (s₁.setTop (mkF m 29 #[rv ob_15, rv ob_1871, iv 3] [])) _
  refine oS (fun _ => XS.goto X0.here hx rfl (pc0 := 29) (pc' := 9) rfl (hb hby dd9_29) (by decide) (by decide)) ?_
  show own_G p e below (s₁.setTop (mkF m 9 #[rv ob_15, rv ob_1871, iv 3] [])) _
  refine oS (fun _ => XS.iloadN X0.here hx rfl (hb hby dd9_9) rfl) ?_
  refine oS (fun _ => XS.aloadN X0.here hx rfl (hb hby dd9_10) rfl rfl) ?_
  refine oS (own_len X0 hx hZ e0 F2150 rfl rfl (hb hby dd9_11)) ?_
  show own_G p e below (s₁.setTop (mkF m 12 #[rv ob_15, rv ob_1871, iv 3] [(.int 8), (.int 3)])) _
  refine oS (fun _ => XS.icmpNo X0.here hx rfl (hb hby dd9_12) rfl (XT.ii_ge_f (by decide))) ?_
  show own_G p e below (s₁.setTop (mkF m 15 #[rv ob_15, rv ob_1871, iv 3] [])) _
  refine oS (fun _ => XS.aloadN X0.here hx rfl (hb hby dd9_15) rfl rfl) ?_
  refine oS (fun _ => XS.iloadN X0.here hx rfl (hb hby dd9_16) rfl) ?_
  refine oS (own_baload X0 hx hZ e0 F2150 (by decide) (v := (.int 100)) rfl rfl rfl (hb hby dd9_17)) ?_
  show own_G p e below (s₁.setTop (mkF m 18 #[rv ob_15, rv ob_1871, iv 3] [(.int 100)])) _
  refine oS (fun _ => XS.aloadN X0.here hx rfl (hb hby dd9_18) rfl rfl) ?_
  refine oS (fun _ => XS.iloadN X0.here hx rfl (hb hby dd9_19) rfl) ?_
  refine oS (own_baload X0 hx hZ e0 I2152 (by decide) (v := (.int 100)) rfl rfl rfl (hb hby dd9_20)) ?_
  show own_G p e below (s₁.setTop (mkF m 21 #[rv ob_15, rv ob_1871, iv 3] [(.int 100), (.int 100)])) _
  refine oS (fun _ => XS.icmpYes X0.here hx rfl (pc0 := 21) (pc' := 26) rfl (hb hby dd9_21) rfl (XT.ii_eq_t (by decide)) (by decide) (by decide)) ?_
  show own_G p e below (s₁.setTop (mkF m 26 #[rv ob_15, rv ob_1871, iv 3] [])) _
  refine oS (fun _ => XS.iinc X0.here hx rfl (hb hby dd9_26) rfl (l' := #[rv ob_15, rv ob_1871, iv 4]) rfl) ?_
  show own_G p e below (s₁.setTop (mkF m 29 #[rv ob_15, rv ob_1871, iv 4] [])) _
  refine oS (fun _ => XS.goto X0.here hx rfl (pc0 := 29) (pc' := 9) rfl (hb hby dd9_29) (by decide) (by decide)) ?_
  show own_G p e below (s₁.setTop (mkF m 9 #[rv ob_15, rv ob_1871, iv 4] [])) _
  refine oS (fun _ => XS.iloadN X0.here hx rfl (hb hby dd9_9) rfl) ?_
  refine oS (fun _ => XS.aloadN X0.here hx rfl (hb hby dd9_10) rfl rfl) ?_
  refine oS (own_len X0 hx hZ e0 F2150 rfl rfl (hb hby dd9_11)) ?_
  show own_G p e below (s₁.setTop (mkF m 12 #[rv ob_15, rv ob_1871, iv 4] [(.int 8), (.int 4)])) _
  refine oS (fun _ => XS.icmpNo X0.here hx rfl (hb hby dd9_12) rfl (XT.ii_ge_f (by decide))) ?_
  show own_G p e below (s₁.setTop (mkF m 15 #[rv ob_15, rv ob_1871, iv 4] [])) _
  refine oS (fun _ => XS.aloadN X0.here hx rfl (hb hby dd9_15) rfl rfl) ?_
  refine oS (fun _ => XS.iloadN X0.here hx rfl (hb hby dd9_16) rfl) ?_
  refine oS (own_baload X0 hx hZ e0 F2150 (by decide) (v := (.int 97)) rfl rfl rfl (hb hby dd9_17)) ?_
  show own_G p e below (s₁.setTop (mkF m 18 #[rv ob_15, rv ob_1871, iv 4] [(.int 97)])) _
  refine oS (fun _ => XS.aloadN X0.here hx rfl (hb hby dd9_18) rfl rfl) ?_
  refine oS (fun _ => XS.iloadN X0.here hx rfl (hb hby dd9_19) rfl) ?_
  refine oS (own_baload X0 hx hZ e0 I2152 (by decide) (v := (.int 97)) rfl rfl rfl (hb hby dd9_20)) ?_
  show own_G p e below (s₁.setTop (mkF m 21 #[rv ob_15, rv ob_1871, iv 4] [(.int 97), (.int 97)])) _
  refine oS (fun _ => XS.icmpYes X0.here hx rfl (pc0 := 21) (pc' := 26) rfl (hb hby dd9_21) rfl (XT.ii_eq_t (by decide)) (by decide) (by decide)) ?_
  show own_G p e below (s₁.setTop (mkF m 26 #[rv ob_15, rv ob_1871, iv 4] [])) _
  refine oS (fun _ => XS.iinc X0.here hx rfl (hb hby dd9_26) rfl (l' := #[rv ob_15, rv ob_1871, iv 5]) rfl) ?_
  show own_G p e below (s₁.setTop (mkF m 29 #[rv ob_15, rv ob_1871, iv 5] [])) _
  refine oS (fun _ => XS.goto X0.here hx rfl (pc0 := 29) (pc' := 9) rfl (hb hby dd9_29) (by decide) (by decide)) ?_
  show own_G p e below (s₁.setTop (mkF m 9 #[rv ob_15, rv ob_1871, iv 5] [])) _
  refine oS (fun _ => XS.iloadN X0.here hx rfl (hb hby dd9_9) rfl) ?_
  refine oS (fun _ => XS.aloadN X0.here hx rfl (hb hby dd9_10) rfl rfl) ?_
  refine oS (own_len X0 hx hZ e0 F2150 rfl rfl (hb hby dd9_11)) ?_
  show own_G p e below (s₁.setTop (mkF m 12 #[rv ob_15, rv ob_1871, iv 5] [(.int 8), (.int 5)])) _
  refine oS (fun _ => XS.icmpNo X0.here hx rfl (hb hby dd9_12) rfl (XT.ii_ge_f (by decide))) ?_
  show own_G p e below (s₁.setTop (mkF m 15 #[rv ob_15, rv ob_1871, iv 5] [])) _
  refine oS (fun _ => XS.aloadN X0.here hx rfl (hb hby dd9_15) rfl rfl) ?_
  refine oS (fun _ => XS.iloadN X0.here hx rfl (hb hby dd9_16) rfl) ?_
  refine oS (own_baload X0 hx hZ e0 F2150 (by decide) (v := (.int 98)) rfl rfl rfl (hb hby dd9_17)) ?_
  show own_G p e below (s₁.setTop (mkF m 18 #[rv ob_15, rv ob_1871, iv 5] [(.int 98)])) _
  refine oS (fun _ => XS.aloadN X0.here hx rfl (hb hby dd9_18) rfl rfl) ?_
  refine oS (fun _ => XS.iloadN X0.here hx rfl (hb hby dd9_19) rfl) ?_
  refine oS (own_baload X0 hx hZ e0 I2152 (by decide) (v := (.int 98)) rfl rfl rfl (hb hby dd9_20)) ?_
  show own_G p e below (s₁.setTop (mkF m 21 #[rv ob_15, rv ob_1871, iv 5] [(.int 98), (.int 98)])) _
  refine oS (fun _ => XS.icmpYes X0.here hx rfl (pc0 := 21) (pc' := 26) rfl (hb hby dd9_21) rfl (XT.ii_eq_t (by decide)) (by decide) (by decide)) ?_
  show own_G p e below (s₁.setTop (mkF m 26 #[rv ob_15, rv ob_1871, iv 5] [])) _
  refine oS (fun _ => XS.iinc X0.here hx rfl (hb hby dd9_26) rfl (l' := #[rv ob_15, rv ob_1871, iv 6]) rfl) ?_
  show own_G p e below (s₁.setTop (mkF m 29 #[rv ob_15, rv ob_1871, iv 6] [])) _
  refine oS (fun _ => XS.goto X0.here hx rfl (pc0 := 29) (pc' := 9) rfl (hb hby dd9_29) (by decide) (by decide)) ?_
  show own_G p e below (s₁.setTop (mkF m 9 #[rv ob_15, rv ob_1871, iv 6] [])) _
  refine oS (fun _ => XS.iloadN X0.here hx rfl (hb hby dd9_9) rfl) ?_
  refine oS (fun _ => XS.aloadN X0.here hx rfl (hb hby dd9_10) rfl rfl) ?_
  refine oS (own_len X0 hx hZ e0 F2150 rfl rfl (hb hby dd9_11)) ?_
  show own_G p e below (s₁.setTop (mkF m 12 #[rv ob_15, rv ob_1871, iv 6] [(.int 8), (.int 6)])) _
  refine oS (fun _ => XS.icmpNo X0.here hx rfl (hb hby dd9_12) rfl (XT.ii_ge_f (by decide))) ?_
  show own_G p e below (s₁.setTop (mkF m 15 #[rv ob_15, rv ob_1871, iv 6] [])) _
  refine oS (fun _ => XS.aloadN X0.here hx rfl (hb hby dd9_15) rfl rfl) ?_
  refine oS (fun _ => XS.iloadN X0.here hx rfl (hb hby dd9_16) rfl) ?_
  refine oS (own_baload X0 hx hZ e0 F2150 (by decide) (v := (.int 108)) rfl rfl rfl (hb hby dd9_17)) ?_
  show own_G p e below (s₁.setTop (mkF m 18 #[rv ob_15, rv ob_1871, iv 6] [(.int 108)])) _
  refine oS (fun _ => XS.aloadN X0.here hx rfl (hb hby dd9_18) rfl rfl) ?_
  refine oS (fun _ => XS.iloadN X0.here hx rfl (hb hby dd9_19) rfl) ?_
  refine oS (own_baload X0 hx hZ e0 I2152 (by decide) (v := (.int 108)) rfl rfl rfl (hb hby dd9_20)) ?_
  show own_G p e below (s₁.setTop (mkF m 21 #[rv ob_15, rv ob_1871, iv 6] [(.int 108), (.int 108)])) _
  refine oS (fun _ => XS.icmpYes X0.here hx rfl (pc0 := 21) (pc' := 26) rfl (hb hby dd9_21) rfl (XT.ii_eq_t (by decide)) (by decide) (by decide)) ?_
  show own_G p e below (s₁.setTop (mkF m 26 #[rv ob_15, rv ob_1871, iv 6] [])) _
  refine oS (fun _ => XS.iinc X0.here hx rfl (hb hby dd9_26) rfl (l' := #[rv ob_15, rv ob_1871, iv 7]) rfl) ?_
  show own_G p e below (s₁.setTop (mkF m 29 #[rv ob_15, rv ob_1871, iv 7] [])) _
  refine oS (fun _ => XS.goto X0.here hx rfl (pc0 := 29) (pc' := 9) rfl (hb hby dd9_29) (by decide) (by decide)) ?_
  show own_G p e below (s₁.setTop (mkF m 9 #[rv ob_15, rv ob_1871, iv 7] [])) _
  refine oS (fun _ => XS.iloadN X0.here hx rfl (hb hby dd9_9) rfl) ?_
  refine oS (fun _ => XS.aloadN X0.here hx rfl (hb hby dd9_10) rfl rfl) ?_
  refine oS (own_len X0 hx hZ e0 F2150 rfl rfl (hb hby dd9_11)) ?_
  show own_G p e below (s₁.setTop (mkF m 12 #[rv ob_15, rv ob_1871, iv 7] [(.int 8), (.int 7)])) _
  refine oS (fun _ => XS.icmpNo X0.here hx rfl (hb hby dd9_12) rfl (XT.ii_ge_f (by decide))) ?_
  show own_G p e below (s₁.setTop (mkF m 15 #[rv ob_15, rv ob_1871, iv 7] [])) _
  refine oS (fun _ => XS.aloadN X0.here hx rfl (hb hby dd9_15) rfl rfl) ?_
  refine oS (fun _ => XS.iloadN X0.here hx rfl (hb hby dd9_16) rfl) ?_
  refine oS (own_baload X0 hx hZ e0 F2150 (by decide) (v := (.int 101)) rfl rfl rfl (hb hby dd9_17)) ?_
  show own_G p e below (s₁.setTop (mkF m 18 #[rv ob_15, rv ob_1871, iv 7] [(.int 101)])) _
  refine oS (fun _ => XS.aloadN X0.here hx rfl (hb hby dd9_18) rfl rfl) ?_
  refine oS (fun _ => XS.iloadN X0.here hx rfl (hb hby dd9_19) rfl) ?_
  refine oS (own_baload X0 hx hZ e0 I2152 (by decide) (v := (.int 101)) rfl rfl rfl (hb hby dd9_20)) ?_
  show own_G p e below (s₁.setTop (mkF m 21 #[rv ob_15, rv ob_1871, iv 7] [(.int 101), (.int 101)])) _
  refine oS (fun _ => XS.icmpYes X0.here hx rfl (pc0 := 21) (pc' := 26) rfl (hb hby dd9_21) rfl (XT.ii_eq_t (by decide)) (by decide) (by decide)) ?_
  show own_G p e below (s₁.setTop (mkF m 26 #[rv ob_15, rv ob_1871, iv 7] [])) _
  refine oS (fun _ => XS.iinc X0.here hx rfl (hb hby dd9_26) rfl (l' := #[rv ob_15, rv ob_1871, iv 8]) rfl) ?_
  show own_G p e below (s₁.setTop (mkF m 29 #[rv ob_15, rv ob_1871, iv 8] [])) _
  refine oS (fun _ => XS.goto X0.here hx rfl (pc0 := 29) (pc' := 9) rfl (hb hby dd9_29) (by decide) (by decide)) ?_
  show own_G p e below (s₁.setTop (mkF m 9 #[rv ob_15, rv ob_1871, iv 8] [])) _
  refine oS (fun _ => XS.iloadN X0.here hx rfl (hb hby dd9_9) rfl) ?_
  refine oS (fun _ => XS.aloadN X0.here hx rfl (hb hby dd9_10) rfl rfl) ?_
  refine oS (own_len X0 hx hZ e0 F2150 rfl rfl (hb hby dd9_11)) ?_
  show own_G p e below (s₁.setTop (mkF m 12 #[rv ob_15, rv ob_1871, iv 8] [(.int 8), (.int 8)])) _
  refine oS (fun _ => XS.icmpYes X0.here hx rfl (pc0 := 12) (pc' := 32) rfl (hb hby dd9_12) rfl (XT.ii_ge_t (by decide)) (by decide) (by decide)) ?_
  show own_G p e below (s₁.setTop (mkF m 32 #[rv ob_15, rv ob_1871, iv 8] [])) _
  refine oS (fun _ => XS.iconst X0.here hx rfl (hb hby dd9_32) ) ?_
  exact own_retN X0 hx (t := .boolean) Bd.notSynchronized Bd.returns (by simp) (hb hby dd9_33) (by decide) e0 (by decide) (by decide) (⟨rfl, N0, rfl⟩)
def own_Q39 (Z : State) (ob_14 : Nat) (ob_1468 : Nat) (in_2 : Int32) (ob_15 : Nat) (ob_1871 : Nat) (kk_16 : ClassId) (kk_1872 : ClassId) (h0 : Heap) (n0 : Nat) (v : Option Value) (h : Heap) (L : List Loc) : Prop := (v = some (.int 1) ∧ Fr n0 L ∧ h = h0)
set_option maxRecDepth 65536 in
set_option maxHeartbeats 40000000 in
theorem own_rm39 (l : Launch) (Z : State) (a0 : Array Value) (hw : ∀ d ∈ tables_1, d.before a0 Z = true) (ws : List Jvm.Cond) (ob_14 : Nat) (ob_1468 : Nat) (in_2 : Int32) (ob_15 : Nat) (ob_1871 : Nat) (kk_16 : ClassId) (kk_1872 : ClassId) (h0 : Heap) (n0 : Nat) (Z0 : n0 ≤ h0.size) (O0 : Old Z n0 h0) (I2103 : Exa Z Z.heap ob_14 "java/lang/String") (I2107 : n0 ≤ ob_1468) (I2113 : Exa Z h0 ob_1468 "java/lang/String") (I2118 : Sta Z Z.heap "java/lang/String" "COMPACT_STRINGS" "Z" (.int in_2)) (I2124 : ¬ (in_2 = 0)) (I2125 : Fld Z Z.heap ob_14 "java/lang/String" "coder" "B" (.int 0)) (I2131 : Fld Z h0 ob_1468 "java/lang/String" "coder" "B" (.int 0)) (I2136 : Fld Z Z.heap ob_14 "java/lang/String" "value" "[B" (.ref ob_15)) (I2142 : Fld Z h0 ob_1468 "java/lang/String" "value" "[B" (.ref ob_1871)) (I2147 : Arv Z Z.heap ob_15 kk_16 FieldType.byte 8 [(.int 102), (.int 105), (.int 110), (.int 100), (.int 97), (.int 98), (.int 108), (.int 101)] (.int 0)) (I2151 : Arv Z h0 ob_1871 kk_1872 .byte 8 [(.int 102), (.int 105), (.int 110), (.int 100), (.int 97), (.int 98), (.int 108), (.int 101)] (.int 0)) :
    own_Met l Z h0 (⟨"java/lang/String", "equals", "(Ljava/lang/Object;)Z"⟩ : MethodName) jdk_42_method_66_code 3 (Option.some FieldType.boolean) ws ({ frames := 1, cells := 0, slots := 0, locals := 14 } : Room) #[(.ref ob_14), (.ref ob_1468)] (own_Q39 Z ob_14 ob_1468 in_2 ob_15 ob_1871 kk_16 kk_1872 h0 n0) 0 0 := by
  refine MetFree.of_bodySF own_pn8 hisR ?_
  intro p e s m args below meth c s₁ Bd hml0 hP hK
  obtain ⟨rfl, hZ, hh⟩ := hP
  have hx := Bd.exec
  have hby := Bd.bytes
  have hml : c.maxLocals = 3 := hml0
  have hown : s.vm.findClass "java/lang/String" = some m.cls := findClass_of_methodNamed Bd.named
  have hnm := (name_of_methodNamed Bd.named Bd.method).1
  have X0 : Stand p l e ({ frames := 1, cells := 0, slots := 0, locals := 14 } : Room) s m #[(.ref ob_14), (.ref ob_1468)] below meth c s₁ [] 0 0 := Stand.of_body Bd
  have e0 : s₁.heap = h0 := by rw [← hh, Bd.state]; rfl
  have N0 := Fr.nil n0
  show own_G p e below (s₁.setTop (entryFrame m #[(.ref ob_14), (.ref ob_1468)] 3)) (own_P s (own_Q39 Z ob_14 ob_1468 in_2 ob_15 ob_1871 kk_16 kk_1872 h0 n0) 0 0)
  refine own_cast (own_ef9 m ob_14 ob_1468) ?_
  show own_G p e below (s₁.setTop (mkF m 0 #[rv ob_14, rv ob_1468, .unset] [])) _
  refine oS (fun _ => XS.aloadN X0.here hx rfl (hb hby dd8_0) rfl rfl) ?_
  refine oS (fun _ => XS.aloadN X0.here hx rfl (hb hby dd8_1) rfl rfl) ?_
  have y2104 : @LT.lt Nat instLTNat ob_14 Z.heap.size := I2103.lt
  have y2105 : Z.heap.size = n0 := O0.1
  have y2106 := I2107
  have N2108 : @Ne Nat ob_14 ob_1468 := by omega
  refine oS (fun _ => XT.acmpYes X0.here hx rfl (pc0 := 2) (pc' := 7) rfl (hb hby dd8_2) rfl rfl rfl (XT.aa_ne_t (own_rne N2108)) (by decide) (by decide)) ?_
  show own_G p e below (s₁.setTop (mkF m 7 #[rv ob_14, rv ob_1468, .unset] [])) _
  refine oS (fun _ => XS.aloadN X0.here hx rfl (hb hby dd8_7) rfl rfl) ?_
  obtain ⟨T2109, X2110, e2111, s2112⟩ := instY X0 hx hZ hown (oW hw 65 rfl) e0 (Ins.self I2113) (g := (mkF m 8 #[rv ob_14, rv ob_1468, .unset] [(.ref ob_1468)])) rfl rfl (hb hby dd8_8)
  refine oS s2112 ?_
  show own_G p e below (T2109.setTop (mkF m 11 #[rv ob_14, rv ob_1468, .unset] [(.int 1)])) _
  refine oS (fun _ => XS.ifNo X2110.here hx rfl (hb hby dd8_11) rfl (XT.i0_eq_f (by decide))) ?_
  show own_G p e below (T2109.setTop (mkF m 14 #[rv ob_14, rv ob_1468, .unset] [])) _
  refine oS (fun _ => XS.aloadN X2110.here hx rfl (hb hby dd8_14) rfl rfl) ?_
  obtain ⟨T2114, X2115, e2116, s2117⟩ := castY X2110 hx hZ hown (oW hw 65 rfl) e2111 (Ins.self I2113) (g := (mkF m 15 #[rv ob_14, rv ob_1468, .unset] [(.ref ob_1468)])) rfl rfl (hb hby dd8_15)
  refine oS s2117 ?_
  show own_G p e below (T2114.setTop (mkF m 18 #[rv ob_14, rv ob_1468, .unset] [(.ref ob_1468)])) _
  refine oS (fun _ => XS.astoreN X2115.here hx rfl (hb hby dd8_18) rfl rfl (l' := #[rv ob_14, rv ob_1468, rv ob_1468]) rfl) ?_
  have F2119 : Sta Z h0 "java/lang/String" "COMPACT_STRINGS" "Z" (.int in_2) := Sta.ext O0.2 I2118
  obtain ⟨T2120, X2121, e2122, s2123⟩ := getS X2115 hx hZ hown (host := "") (oW hw 22 rfl) Via.refl e2116 F2119 (g := (mkF m 19 #[rv ob_14, rv ob_1468, rv ob_1468] [])) rfl (hb hby dd8_19)
  refine oS s2123 ?_
  show own_G p e below (T2120.setTop (mkF m 22 #[rv ob_14, rv ob_1468, rv ob_1468] [(.int in_2)])) _
  refine oS (fun _ => XS.ifNo X2121.here hx rfl (hb hby dd8_22) rfl (XT.i0_eq_f I2124)) ?_
  show own_G p e below (T2120.setTop (mkF m 25 #[rv ob_14, rv ob_1468, rv ob_1468] [])) _
  refine oS (fun _ => XS.aloadN X2121.here hx rfl (hb hby dd8_25) rfl rfl) ?_
  have F2126 : Fld Z h0 ob_14 "java/lang/String" "coder" "B" (.int 0) := Fld.ext O0.2 I2125
  obtain ⟨T2127, X2128, e2129, s2130⟩ := getF X2121 hx hZ hown (host := "") (Or.inl (oW hw 34 rfl)) Via.refl e2122 F2126 (g := (mkF m 26 #[rv ob_14, rv ob_1468, rv ob_1468] [(.ref ob_14)])) rfl rfl (hb hby dd8_26)
  refine oS s2130 ?_
  show own_G p e below (T2127.setTop (mkF m 29 #[rv ob_14, rv ob_1468, rv ob_1468] [(.int 0)])) _
  refine oS (fun _ => XS.aloadN X2128.here hx rfl (hb hby dd8_29) rfl rfl) ?_
  obtain ⟨T2132, X2133, e2134, s2135⟩ := getF X2128 hx hZ hown (host := "") (Or.inl (oW hw 34 rfl)) Via.refl e2129 I2131 (g := (mkF m 30 #[rv ob_14, rv ob_1468, rv ob_1468] [(.ref ob_1468), (.int 0)])) rfl rfl (hb hby dd8_30)
  refine oS s2135 ?_
  show own_G p e below (T2132.setTop (mkF m 33 #[rv ob_14, rv ob_1468, rv ob_1468] [(.int 0), (.int 0)])) _
  refine oS (fun _ => XS.icmpNo X2133.here hx rfl (hb hby dd8_33) rfl (XT.ii_ne_f (by decide))) ?_
  show own_G p e below (T2132.setTop (mkF m 36 #[rv ob_14, rv ob_1468, rv ob_1468] [])) _
  refine oS (fun _ => XS.aloadN X2133.here hx rfl (hb hby dd8_36) rfl rfl) ?_
  have F2137 : Fld Z h0 ob_14 "java/lang/String" "value" "[B" (.ref ob_15) := Fld.ext O0.2 I2136
  obtain ⟨T2138, X2139, e2140, s2141⟩ := getF X2133 hx hZ hown (host := "") (Or.inl (oW hw 36 rfl)) Via.refl e2134 F2137 (g := (mkF m 37 #[rv ob_14, rv ob_1468, rv ob_1468] [(.ref ob_14)])) rfl rfl (hb hby dd8_37)
  refine oS s2141 ?_
  show own_G p e below (T2138.setTop (mkF m 40 #[rv ob_14, rv ob_1468, rv ob_1468] [(.ref ob_15)])) _
  refine oS (fun _ => XS.aloadN X2139.here hx rfl (hb hby dd8_40) rfl rfl) ?_
  obtain ⟨T2143, X2144, e2145, s2146⟩ := getF X2139 hx hZ hown (host := "") (Or.inl (oW hw 36 rfl)) Via.refl e2140 I2142 (g := (mkF m 41 #[rv ob_14, rv ob_1468, rv ob_1468] [(.ref ob_1468), (.ref ob_15)])) rfl rfl (hb hby dd8_41)
  refine oS s2146 ?_
  show own_G p e below (T2143.setTop (mkF m 44 #[rv ob_14, rv ob_1468, rv ob_1468] [(.ref ob_1871), (.ref ob_15)])) _
  have F2148 : Arv Z h0 ob_15 kk_16 FieldType.byte 8 [(.int 102), (.int 105), (.int 110), (.int 100), (.int 97), (.int 98), (.int 108), (.int 101)] (.int 0) := I2147.ext O0.2
  obtain ⟨T2153, h2154, v2155, L2156, X2157, e2158, q2159, s2160⟩ := own_callS X2144 hx hZ hown e2145 (y := (⟨"java/lang/StringLatin1", "equals", "([B[B)Z"⟩ : MethodName)) (oW hw 66 rfl) (oW hw 67 rfl) (oW hw 68 rfl) (oW hw 69 rfl) (by decide) (W := 0) (own_rm40 l Z a0 hw [] ob_15 ob_1871 kk_16 kk_1872 h0 n0 Z0 O0 I2147 I2151) (by decide) (by decide) (by decide) (by decide) (g := (mkF m 44 #[rv ob_14, rv ob_1468, rv ob_1468] [(.ref ob_1871), (.ref ob_15)])) rfl (by rw [hml]; rfl) (argsL := [(.ref ob_15), (.ref ob_1871)]) (rest := []) rfl (lenOf own_pd7 rfl) rfl (by show 2 * 0 + _ ≤ _; exact Nat.le_of_eq rfl) (hb hby dd8_44)
  refine oS s2160 ?_
  obtain ⟨rfl, N2161, K2162⟩ := q2159
  have N2163 := Fr.app N0 N2161
  have e2164 := e2158.trans K2162
  show own_G p e below (T2153.setTop (mkF m 47 #[rv ob_14, rv ob_1468, rv ob_1468] [(.int 1)])) _
  refine oS (fun _ => XS.ifNo X2157.here hx rfl (hb hby dd8_47) rfl (XT.i0_eq_f (by decide))) ?_
  show own_G p e below (T2153.setTop (mkF m 50 #[rv ob_14, rv ob_1468, rv ob_1468] [])) _
  refine oS (fun _ => XS.iconst X2157.here hx rfl (hb hby dd8_50) ) ?_
  refine oS (fun _ => XS.goto X2157.here hx rfl (pc0 := 51) (pc' := 55) rfl (hb hby dd8_51) (by decide) (by decide)) ?_
  show own_G p e below (T2153.setTop (mkF m 55 #[rv ob_14, rv ob_1468, rv ob_1468] [(.int 1)])) _
  exact own_retN X2157 hx (t := .boolean) Bd.notSynchronized Bd.returns (by simp) (hb hby dd8_55) (by decide) e2164 (by decide) (by decide) (⟨rfl, N2163, rfl⟩)
def own_Q34 (Z : State) (ob_1468 : Nat) (ob_5 : Nat) (kk_17 : ClassId) (ob_4 : Nat) (ob_6 : Nat) (ob_7 : Nat) (ob_8 : Nat) (in_2 : Int32) (ob_9 : Nat) (ob_1871 : Nat) (kk_10 : ClassId) (kk_1872 : ClassId) (ob_11 : Nat) (ob_12 : Nat) (kk_13 : ClassId) (ob_14 : Nat) (ob_15 : Nat) (kk_16 : ClassId) (h0 : Heap) (n0 : Nat) (v : Option Value) (h : Heap) (L : List Loc) : Prop := (v = some (.ref ob_7) ∧ Fr n0 L ∧ Keep h0 h [])
set_option maxRecDepth 65536 in
set_option maxHeartbeats 40000000 in
theorem own_rm34 (l : Launch) (Z : State) (a0 : Array Value) (hw : ∀ d ∈ tables_1, d.before a0 Z = true) (ws : List Jvm.Cond) (ob_1468 : Nat) (ob_5 : Nat) (kk_17 : ClassId) (ob_4 : Nat) (ob_6 : Nat) (ob_7 : Nat) (ob_8 : Nat) (in_2 : Int32) (ob_9 : Nat) (ob_1871 : Nat) (kk_10 : ClassId) (kk_1872 : ClassId) (ob_11 : Nat) (ob_12 : Nat) (kk_13 : ClassId) (ob_14 : Nat) (ob_15 : Nat) (kk_16 : ClassId) (h0 : Heap) (n0 : Nat) (Z0 : n0 ≤ h0.size) (O0 : Old Z n0 h0) (I1884 : Sta Z Z.heap "com/example/vestibule/vestibule/datacite/DoiState" "$VALUES" "[Lcom/example/vestibule/vestibule/datacite/DoiState;" (.ref ob_5)) (I1885 : Arv Z Z.heap ob_5 kk_17 (FieldType.object "com/example/vestibule/vestibule/datacite/DoiState") 3 [(.ref ob_4), (.ref ob_6), (.ref ob_7)] .null) (I1886 : Exa Z Z.heap ob_5 "[Lcom/example/vestibule/vestibule/datacite/DoiState;") (I1904 : Fld Z Z.heap ob_4 "com/example/vestibule/vestibule/datacite/DoiState" "key" "Ljava/lang/String;" (.ref ob_8)) (I1911 : Exa Z Z.heap ob_8 "java/lang/String") (I1912 : n0 ≤ ob_1468) (I1913 : Exa Z h0 ob_1468 "java/lang/String") (I1915 : Sta Z Z.heap "java/lang/String" "COMPACT_STRINGS" "Z" (.int in_2)) (I1916 : ¬ (in_2 = 0)) (I1917 : Fld Z Z.heap ob_8 "java/lang/String" "coder" "B" (.int 0)) (I1918 : Fld Z h0 ob_1468 "java/lang/String" "coder" "B" (.int 0)) (I1920 : Fld Z Z.heap ob_8 "java/lang/String" "value" "[B" (.ref ob_9)) (I1921 : Fld Z h0 ob_1468 "java/lang/String" "value" "[B" (.ref ob_1871)) (I1923 : Arv Z Z.heap ob_9 kk_10 FieldType.byte 5 [(.int 100), (.int 114), (.int 97), (.int 102), (.int 116)] (.int 0)) (I1924 : Arv Z h0 ob_1871 kk_1872 .byte 8 [(.int 102), (.int 105), (.int 110), (.int 100), (.int 97), (.int 98), (.int 108), (.int 101)] (.int 0)) (I2002 : Fld Z Z.heap ob_6 "com/example/vestibule/vestibule/datacite/DoiState" "key" "Ljava/lang/String;" (.ref ob_11)) (I2008 : Exa Z Z.heap ob_11 "java/lang/String") (I2009 : Fld Z Z.heap ob_11 "java/lang/String" "coder" "B" (.int 0)) (I2010 : Fld Z Z.heap ob_11 "java/lang/String" "value" "[B" (.ref ob_12)) (I2011 : Arv Z Z.heap ob_12 kk_13 FieldType.byte 10 [(.int 114), (.int 101), (.int 103), (.int 105), (.int 115), (.int 116), (.int 101), (.int 114), (.int 101), (.int 100)] (.int 0)) (I2089 : Fld Z Z.heap ob_7 "com/example/vestibule/vestibule/datacite/DoiState" "key" "Ljava/lang/String;" (.ref ob_14)) (I2096 : Exa Z Z.heap ob_14 "java/lang/String") (I2098 : Fld Z Z.heap ob_14 "java/lang/String" "coder" "B" (.int 0)) (I2100 : Fld Z Z.heap ob_14 "java/lang/String" "value" "[B" (.ref ob_15)) (I2102 : Arv Z Z.heap ob_15 kk_16 FieldType.byte 8 [(.int 102), (.int 105), (.int 110), (.int 100), (.int 97), (.int 98), (.int 108), (.int 101)] (.int 0)) :
    own_Met l Z h0 (⟨"com/example/vestibule/vestibule/datacite/DoiState", "ofKey", "(Ljava/lang/String;)Lcom/example/vestibule/vestibule/datacite/DoiState;"⟩ : MethodName) prog_48_method_5_code 5 (Option.some (FieldType.object "com/example/vestibule/vestibule/datacite/DoiState")) ws ({ frames := 2, cells := 1, slots := 3, locals := 28 } : Room) #[(.ref ob_1468)] (own_Q34 Z ob_1468 ob_5 kk_17 ob_4 ob_6 ob_7 ob_8 in_2 ob_9 ob_1871 kk_10 kk_1872 ob_11 ob_12 kk_13 ob_14 ob_15 kk_16 h0 n0) 1 3 := by
  refine MetFree.of_bodySF own_pn9 hisR ?_
  intro p e s m args below meth c s₁ Bd hml0 hP hK
  obtain ⟨rfl, hZ, hh⟩ := hP
  have hx := Bd.exec
  have hby := Bd.bytes
  have hml : c.maxLocals = 5 := hml0
  have hown : s.vm.findClass "com/example/vestibule/vestibule/datacite/DoiState" = some m.cls := findClass_of_methodNamed Bd.named
  have hnm := (name_of_methodNamed Bd.named Bd.method).1
  have X0 : Stand p l e ({ frames := 2, cells := 1, slots := 3, locals := 28 } : Room) s m #[(.ref ob_1468)] below meth c s₁ [] 0 0 := Stand.of_body Bd
  have e0 : s₁.heap = h0 := by rw [← hh, Bd.state]; rfl
  have N0 := Fr.nil n0
  show own_G p e below (s₁.setTop (entryFrame m #[(.ref ob_1468)] 5)) (own_P s (own_Q34 Z ob_1468 ob_5 kk_17 ob_4 ob_6 ob_7 ob_8 in_2 ob_9 ob_1871 kk_10 kk_1872 ob_11 ob_12 kk_13 ob_14 ob_15 kk_16 h0 n0) 1 3)
  refine own_cast (own_ef7 m ob_1468) ?_
  show own_G p e below (s₁.setTop (mkF m 0 #[rv ob_1468, .unset, .unset, .unset, .unset] [])) _
  obtain ⟨T1887, h1888, v1889, L1890, X1891, e1892, q1893, s1894⟩ := own_callS X0 hx hZ hown e0 (y := (⟨"com/example/vestibule/vestibule/datacite/DoiState", "values", "()[Lcom/example/vestibule/vestibule/datacite/DoiState;"⟩ : MethodName)) (oW hw 41 rfl) (oW hw 42 rfl) (oW hw 2 rfl) (oW hw 43 rfl) (by decide) (W := 0) (own_rm9 l Z a0 hw [] ob_5 kk_17 ob_4 ob_6 ob_7 h0 n0 Z0 O0 I1884 I1885 I1886) (by decide) (by decide) (by decide) (by decide) (g := (mkF m 0 #[rv ob_1468, .unset, .unset, .unset, .unset] [])) rfl (by rw [hml]; rfl) (argsL := []) (rest := []) rfl (lenOf own_pd6 rfl) rfl (by show 2 * 0 + _ ≤ _; exact Nat.le_of_eq rfl) (hb hby dd7_0)
  refine oS s1894 ?_
  obtain ⟨ob_1895, rfl, N1896, K1897, F1898, F1899, F1900, F1901⟩ := q1893
  have N1902 := Fr.app N0 N1896
  have z1903 := K1897.1
  show own_G p e below (T1887.setTop (mkF m 3 #[rv ob_1468, .unset, .unset, .unset, .unset] [(.ref ob_1895)])) _
  refine oS (fun _ => XS.astoreN X1891.here hx rfl (hb hby dd7_3) rfl rfl (l' := #[rv ob_1468, rv ob_1895, .unset, .unset, .unset]) rfl) ?_
  refine oS (fun _ => XS.aloadN X1891.here hx rfl (hb hby dd7_4) rfl rfl) ?_
  refine oS (own_len X1891 hx hZ e1892 F1899 rfl rfl (hb hby dd7_5)) ?_
  show own_G p e below (T1887.setTop (mkF m 6 #[rv ob_1468, rv ob_1895, .unset, .unset, .unset] [(.int 3)])) _
  refine oS (fun _ => XS.istoreN X1891.here hx rfl (hb hby dd7_6) rfl (l' := #[rv ob_1468, rv ob_1895, iv 3, .unset, .unset]) rfl) ?_
  refine oS (fun _ => XS.iconst X1891.here hx rfl (hb hby dd7_7) ) ?_
  refine oS (fun _ => XS.istoreN X1891.here hx rfl (hb hby dd7_8) rfl (l' := #[rv ob_1468, rv ob_1895, iv 3, iv 0, .unset]) rfl) ?_
  refine oS (fun _ => XS.iloadN X1891.here hx rfl (hb hby dd7_9) rfl) ?_
  show own_G p e below (T1887.setTop (mkF m 10 #[rv ob_1468, rv ob_1895, iv 3, iv 0, .unset] [(.int 0)])) _
  refine oS (fun _ => XS.iloadN X1891.here hx rfl (hb hby dd7_10) rfl) ?_
  refine oS (fun _ => XS.icmpNo X1891.here hx rfl (hb hby dd7_11) rfl (XT.ii_ge_f (by decide))) ?_
  show own_G p e below (T1887.setTop (mkF m 14 #[rv ob_1468, rv ob_1895, iv 3, iv 0, .unset] [])) _
  refine oS (fun _ => XS.aloadN X1891.here hx rfl (hb hby dd7_14) rfl rfl) ?_
  refine oS (fun _ => XS.iloadN X1891.here hx rfl (hb hby dd7_15) rfl) ?_
  refine oS (own_aaload X1891 hx hZ e1892 F1899 rfl (by decide) (v := (.ref ob_4)) rfl rfl rfl (hb hby dd7_16)) ?_
  show own_G p e below (T1887.setTop (mkF m 17 #[rv ob_1468, rv ob_1895, iv 3, iv 0, .unset] [(.ref ob_4)])) _
  refine oS (fun _ => XS.astore X1891.here hx rfl (hb hby dd7_17) rfl rfl (l' := #[rv ob_1468, rv ob_1895, iv 3, iv 0, rv ob_4]) rfl) ?_
  refine oS (fun _ => XS.aload X1891.here hx rfl (hb hby dd7_19) rfl rfl) ?_
  have O1906 : Old Z n0 h1888 := O0.keep K1897 all0
  have F1905 : Fld Z h1888 ob_4 "com/example/vestibule/vestibule/datacite/DoiState" "key" "Ljava/lang/String;" (.ref ob_8) := Fld.ext O1906.2 I1904
  obtain ⟨T1907, X1908, e1909, s1910⟩ := getF X1891 hx hZ hown (host := "") (Or.inl (oW hw 58 rfl)) Via.refl e1892 F1905 (g := (mkF m 21 #[rv ob_1468, rv ob_1895, iv 3, iv 0, rv ob_4] [(.ref ob_4)])) rfl rfl (hb hby dd7_21)
  refine oS s1910 ?_
  show own_G p e below (T1907.setTop (mkF m 24 #[rv ob_1468, rv ob_1895, iv 3, iv 0, rv ob_4] [(.ref ob_8)])) _
  refine oS (fun _ => XS.aloadN X1908.here hx rfl (hb hby dd7_24) rfl rfl) ?_
  have F1914 : Exa Z h1888 ob_1468 "java/lang/String" := I1913.keep K1897
  have F1919 : Fld Z h1888 ob_1468 "java/lang/String" "coder" "B" (.int 0) := I1918.keep K1897 nin0
  have F1922 : Fld Z h1888 ob_1468 "java/lang/String" "value" "[B" (.ref ob_1871) := I1921.keep K1897 nin0
  have F1925 : Arv Z h1888 ob_1871 kk_1872 .byte 8 [(.int 102), (.int 105), (.int 110), (.int 100), (.int 97), (.int 98), (.int 108), (.int 101)] (.int 0) := I1924.keep K1897 nin0
  have Z1988 : n0 ≤ h1888.size := by omega
  have F1997 : Exa Z h1888 ob_8 "java/lang/String" := Exa.ext O1906.2 I1911
  obtain ⟨T1989, h1990, v1991, L1992, X1993, e1994, q1995, s1996⟩ := own_callV X1908 hx hZ hown e1909 (y := (⟨"java/lang/String", "equals", "(Ljava/lang/Object;)Z"⟩ : MethodName)) (z := (⟨"java/lang/String", "equals", "(Ljava/lang/Object;)Z"⟩ : MethodName)) (C := "java/lang/String") (b := ob_8) (oW hw 60 rfl) (oW hw 61 rfl) (notFace_of_selects (args := #[]) (mvT hZ (oW hw 63 rfl))) (oW hw 63 rfl) (oW hw 62 rfl) (oW hw 6 rfl) (oW hw 64 rfl) (by decide) F1997 (W := 0) (own_rm35 l Z a0 hw [] ob_8 ob_1468 in_2 ob_9 ob_1871 kk_10 kk_1872 h1888 n0 Z1988 O1906 I1911 I1912 F1914 I1915 I1916 I1917 F1919 I1920 F1922 I1923 F1925) (by decide) (by decide) (by decide) (by decide) (g := (mkF m 25 #[rv ob_1468, rv ob_1895, iv 3, iv 0, rv ob_4] [(.ref ob_1468), (.ref ob_8)])) rfl (by rw [hml]; rfl) (argsL := [(.ref ob_1468)]) (rest := []) rfl (lenOf own_pd8 rfl) rfl (by show 2 * 0 + _ ≤ _; exact Nat.le_of_eq rfl) (hb hby dd7_25)
  refine oS s1996 ?_
  obtain ⟨rfl, N1998, K1999⟩ := q1995
  have N2000 := Fr.app N1902 N1998
  have e2001 := e1994.trans K1999
  show own_G p e below (T1989.setTop (mkF m 28 #[rv ob_1468, rv ob_1895, iv 3, iv 0, rv ob_4] [(.int 0)])) _
  refine oS (fun _ => XS.ifYes X1993.here hx rfl (pc0 := 28) (pc' := 34) rfl (hb hby dd7_28) rfl (XT.i0_eq_t (by decide)) (by decide) (by decide)) ?_
  show own_G p e below (T1989.setTop (mkF m 34 #[rv ob_1468, rv ob_1895, iv 3, iv 0, rv ob_4] [])) _
  refine oS (fun _ => XS.iinc X1993.here hx rfl (hb hby dd7_34) rfl (l' := #[rv ob_1468, rv ob_1895, iv 3, iv 1, rv ob_4]) rfl) ?_
  show own_G p e below (T1989.setTop (mkF m 37 #[rv ob_1468, rv ob_1895, iv 3, iv 1, rv ob_4] [])) _
  refine oS (fun _ => XS.goto X1993.here hx rfl (pc0 := 37) (pc' := 9) rfl (hb hby dd7_37) (by decide) (by decide)) ?_
  show own_G p e below (T1989.setTop (mkF m 9 #[rv ob_1468, rv ob_1895, iv 3, iv 1, rv ob_4] [])) _
  refine oS (fun _ => XS.iloadN X1993.here hx rfl (hb hby dd7_9) rfl) ?_
  refine oS (fun _ => XS.iloadN X1993.here hx rfl (hb hby dd7_10) rfl) ?_
  refine oS (fun _ => XS.icmpNo X1993.here hx rfl (hb hby dd7_11) rfl (XT.ii_ge_f (by decide))) ?_
  show own_G p e below (T1989.setTop (mkF m 14 #[rv ob_1468, rv ob_1895, iv 3, iv 1, rv ob_4] [])) _
  refine oS (fun _ => XS.aloadN X1993.here hx rfl (hb hby dd7_14) rfl rfl) ?_
  refine oS (fun _ => XS.iloadN X1993.here hx rfl (hb hby dd7_15) rfl) ?_
  refine oS (own_aaload X1993 hx hZ e2001 F1899 rfl (by decide) (v := (.ref ob_6)) rfl rfl rfl (hb hby dd7_16)) ?_
  show own_G p e below (T1989.setTop (mkF m 17 #[rv ob_1468, rv ob_1895, iv 3, iv 1, rv ob_4] [(.ref ob_6)])) _
  refine oS (fun _ => XS.astore X1993.here hx rfl (hb hby dd7_17) rfl rfl (l' := #[rv ob_1468, rv ob_1895, iv 3, iv 1, rv ob_6]) rfl) ?_
  refine oS (fun _ => XS.aload X1993.here hx rfl (hb hby dd7_19) rfl rfl) ?_
  have F2003 : Fld Z h1888 ob_6 "com/example/vestibule/vestibule/datacite/DoiState" "key" "Ljava/lang/String;" (.ref ob_11) := Fld.ext O1906.2 I2002
  obtain ⟨T2004, X2005, e2006, s2007⟩ := getF X1993 hx hZ hown (host := "") (Or.inl (oW hw 58 rfl)) Via.refl e2001 F2003 (g := (mkF m 21 #[rv ob_1468, rv ob_1895, iv 3, iv 1, rv ob_6] [(.ref ob_6)])) rfl rfl (hb hby dd7_21)
  refine oS s2007 ?_
  show own_G p e below (T2004.setTop (mkF m 24 #[rv ob_1468, rv ob_1895, iv 3, iv 1, rv ob_6] [(.ref ob_11)])) _
  refine oS (fun _ => XS.aloadN X2005.here hx rfl (hb hby dd7_24) rfl rfl) ?_
  have Z2074 : n0 ≤ h1888.size := by omega
  have F2083 : Exa Z h1888 ob_11 "java/lang/String" := Exa.ext O1906.2 I2008
  obtain ⟨T2075, h2076, v2077, L2078, X2079, e2080, q2081, s2082⟩ := own_callV X2005 hx hZ hown e2006 (y := (⟨"java/lang/String", "equals", "(Ljava/lang/Object;)Z"⟩ : MethodName)) (z := (⟨"java/lang/String", "equals", "(Ljava/lang/Object;)Z"⟩ : MethodName)) (C := "java/lang/String") (b := ob_11) (oW hw 60 rfl) (oW hw 61 rfl) (notFace_of_selects (args := #[]) (mvT hZ (oW hw 63 rfl))) (oW hw 63 rfl) (oW hw 62 rfl) (oW hw 6 rfl) (oW hw 64 rfl) (by decide) F2083 (W := 0) (own_rm37 l Z a0 hw [] ob_11 ob_1468 in_2 ob_12 ob_1871 kk_13 kk_1872 h1888 n0 Z2074 O1906 I2008 I1912 F1914 I1915 I1916 I2009 F1919 I2010 F1922 I2011 F1925) (by decide) (by decide) (by decide) (by decide) (g := (mkF m 25 #[rv ob_1468, rv ob_1895, iv 3, iv 1, rv ob_6] [(.ref ob_1468), (.ref ob_11)])) rfl (by rw [hml]; rfl) (argsL := [(.ref ob_1468)]) (rest := []) rfl (lenOf own_pd8 rfl) rfl (by show 2 * 0 + _ ≤ _; exact Nat.le_of_eq rfl) (hb hby dd7_25)
  refine oS s2082 ?_
  obtain ⟨rfl, N2084, K2085⟩ := q2081
  have N2086 := Fr.app N2000 N2084
  have e2087 := e2080.trans K2085
  show own_G p e below (T2075.setTop (mkF m 28 #[rv ob_1468, rv ob_1895, iv 3, iv 1, rv ob_6] [(.int 0)])) _
  refine oS (fun _ => XS.ifYes X2079.here hx rfl (pc0 := 28) (pc' := 34) rfl (hb hby dd7_28) rfl (XT.i0_eq_t (by decide)) (by decide) (by decide)) ?_
  show own_G p e below (T2075.setTop (mkF m 34 #[rv ob_1468, rv ob_1895, iv 3, iv 1, rv ob_6] [])) _
  refine oS (fun _ => XS.iinc X2079.here hx rfl (hb hby dd7_34) rfl (l' := #[rv ob_1468, rv ob_1895, iv 3, iv 2, rv ob_6]) rfl) ?_
  show own_G p e below (T2075.setTop (mkF m 37 #[rv ob_1468, rv ob_1895, iv 3, iv 2, rv ob_6] [])) _
  refine oS (fun _ => XS.goto X2079.here hx rfl (pc0 := 37) (pc' := 9) rfl (hb hby dd7_37) (by decide) (by decide)) ?_
  show own_G p e below (T2075.setTop (mkF m 9 #[rv ob_1468, rv ob_1895, iv 3, iv 2, rv ob_6] [])) _
  refine oS (fun _ => XS.iloadN X2079.here hx rfl (hb hby dd7_9) rfl) ?_
  refine oS (fun _ => XS.iloadN X2079.here hx rfl (hb hby dd7_10) rfl) ?_
  refine oS (fun _ => XS.icmpNo X2079.here hx rfl (hb hby dd7_11) rfl (XT.ii_ge_f (by decide))) ?_
  show own_G p e below (T2075.setTop (mkF m 14 #[rv ob_1468, rv ob_1895, iv 3, iv 2, rv ob_6] [])) _
  refine oS (fun _ => XS.aloadN X2079.here hx rfl (hb hby dd7_14) rfl rfl) ?_
  refine oS (fun _ => XS.iloadN X2079.here hx rfl (hb hby dd7_15) rfl) ?_
  refine oS (own_aaload X2079 hx hZ e2087 F1899 rfl (by decide) (v := (.ref ob_7)) rfl rfl rfl (hb hby dd7_16)) ?_
  show own_G p e below (T2075.setTop (mkF m 17 #[rv ob_1468, rv ob_1895, iv 3, iv 2, rv ob_6] [(.ref ob_7)])) _
  refine oS (fun _ => XS.astore X2079.here hx rfl (hb hby dd7_17) rfl rfl (l' := #[rv ob_1468, rv ob_1895, iv 3, iv 2, rv ob_7]) rfl) ?_
  refine oS (fun _ => XS.aload X2079.here hx rfl (hb hby dd7_19) rfl rfl) ?_
  have F2090 : Fld Z h1888 ob_7 "com/example/vestibule/vestibule/datacite/DoiState" "key" "Ljava/lang/String;" (.ref ob_14) := Fld.ext O1906.2 I2089
  obtain ⟨T2091, X2092, e2093, s2094⟩ := getF X2079 hx hZ hown (host := "") (Or.inl (oW hw 58 rfl)) Via.refl e2087 F2090 (g := (mkF m 21 #[rv ob_1468, rv ob_1895, iv 3, iv 2, rv ob_7] [(.ref ob_7)])) rfl rfl (hb hby dd7_21)
  refine oS s2094 ?_
  show own_G p e below (T2091.setTop (mkF m 24 #[rv ob_1468, rv ob_1895, iv 3, iv 2, rv ob_7] [(.ref ob_14)])) _
  refine oS (fun _ => XS.aloadN X2092.here hx rfl (hb hby dd7_24) rfl rfl) ?_
  have Z2165 : n0 ≤ h1888.size := by omega
  have F2174 : Exa Z h1888 ob_14 "java/lang/String" := Exa.ext O1906.2 I2096
  obtain ⟨T2166, h2167, v2168, L2169, X2170, e2171, q2172, s2173⟩ := own_callV X2092 hx hZ hown e2093 (y := (⟨"java/lang/String", "equals", "(Ljava/lang/Object;)Z"⟩ : MethodName)) (z := (⟨"java/lang/String", "equals", "(Ljava/lang/Object;)Z"⟩ : MethodName)) (C := "java/lang/String") (b := ob_14) (oW hw 60 rfl) (oW hw 61 rfl) (notFace_of_selects (args := #[]) (mvT hZ (oW hw 63 rfl))) (oW hw 63 rfl) (oW hw 62 rfl) (oW hw 6 rfl) (oW hw 64 rfl) (by decide) F2174 (W := 0) (own_rm39 l Z a0 hw [] ob_14 ob_1468 in_2 ob_15 ob_1871 kk_16 kk_1872 h1888 n0 Z2165 O1906 I2096 I1912 F1914 I1915 I1916 I2098 F1919 I2100 F1922 I2102 F1925) (by decide) (by decide) (by decide) (by decide) (g := (mkF m 25 #[rv ob_1468, rv ob_1895, iv 3, iv 2, rv ob_7] [(.ref ob_1468), (.ref ob_14)])) rfl (by rw [hml]; rfl) (argsL := [(.ref ob_1468)]) (rest := []) rfl (lenOf own_pd8 rfl) rfl (by show 2 * 0 + _ ≤ _; exact Nat.le_of_eq rfl) (hb hby dd7_25)
  refine oS s2173 ?_
  obtain ⟨rfl, N2175, K2176⟩ := q2172
  have N2177 := Fr.app N2086 N2175
  have e2178 := e2171.trans K2176
  show own_G p e below (T2166.setTop (mkF m 28 #[rv ob_1468, rv ob_1895, iv 3, iv 2, rv ob_7] [(.int 1)])) _
  refine oS (fun _ => XS.ifNo X2170.here hx rfl (hb hby dd7_28) rfl (XT.i0_eq_f (by decide))) ?_
  show own_G p e below (T2166.setTop (mkF m 31 #[rv ob_1468, rv ob_1895, iv 3, iv 2, rv ob_7] [])) _
  refine oS (fun _ => XS.aload X2170.here hx rfl (hb hby dd7_31) rfl rfl) ?_
  have K2179 : Keep h0 h1888 [] := ((Keep.refl h0 []).trans K1897 all0)
  exact own_retA X2170 hx Bd.notSynchronized Bd.returns rfl rfl (hb hby dd7_33) e2178 (by decide) (by decide) (⟨rfl, N2177, K2179⟩)
def own_Q42 (Z : State) (ob_1871 : Nat) (ob_15 : Nat) (kk_1872 : ClassId) (kk_16 : ClassId) (h0 : Heap) (n0 : Nat) (v : Option Value) (h : Heap) (L : List Loc) : Prop := (v = some (.int 1) ∧ Fr n0 L ∧ h = h0)
set_option maxRecDepth 65536 in
set_option maxHeartbeats 40000000 in
theorem own_rm42 (l : Launch) (Z : State) (a0 : Array Value) (hw : ∀ d ∈ tables_1, d.before a0 Z = true) (ws : List Jvm.Cond) (ob_1871 : Nat) (ob_15 : Nat) (kk_1872 : ClassId) (kk_16 : ClassId) (h0 : Heap) (n0 : Nat) (Z0 : n0 ≤ h0.size) (O0 : Old Z n0 h0) (I2259 : Arv Z h0 ob_1871 kk_1872 .byte 8 [(.int 102), (.int 105), (.int 110), (.int 100), (.int 97), (.int 98), (.int 108), (.int 101)] (.int 0)) (I2261 : Arv Z Z.heap ob_15 kk_16 FieldType.byte 8 [(.int 102), (.int 105), (.int 110), (.int 100), (.int 97), (.int 98), (.int 108), (.int 101)] (.int 0)) :
    own_Met l Z h0 (⟨"java/lang/StringLatin1", "equals", "([B[B)Z"⟩ : MethodName) jdk_43_method_13_code 3 (Option.some FieldType.boolean) ws ({ frames := 0, cells := 0, slots := 0, locals := 0 } : Room) #[(.ref ob_1871), (.ref ob_15)] (own_Q42 Z ob_1871 ob_15 kk_1872 kk_16 h0 n0) 0 0 := by
  refine MetFree.of_bodySF own_pn7 hisR ?_
  intro p e s m args below meth c s₁ Bd hml0 hP hK
  obtain ⟨rfl, hZ, hh⟩ := hP
  have hx := Bd.exec
  have hby := Bd.bytes
  have hml : c.maxLocals = 3 := hml0
  have hown : s.vm.findClass "java/lang/StringLatin1" = some m.cls := findClass_of_methodNamed Bd.named
  have hnm := (name_of_methodNamed Bd.named Bd.method).1
  have X0 : Stand p l e ({ frames := 0, cells := 0, slots := 0, locals := 0 } : Room) s m #[(.ref ob_1871), (.ref ob_15)] below meth c s₁ [] 0 0 := Stand.of_body Bd
  have e0 : s₁.heap = h0 := by rw [← hh, Bd.state]; rfl
  have N0 := Fr.nil n0
  show own_G p e below (s₁.setTop (entryFrame m #[(.ref ob_1871), (.ref ob_15)] 3)) (own_P s (own_Q42 Z ob_1871 ob_15 kk_1872 kk_16 h0 n0) 0 0)
  refine own_cast (own_ef9 m ob_1871 ob_15) ?_
  show own_G p e below (s₁.setTop (mkF m 0 #[rv ob_1871, rv ob_15, .unset] [])) _
  refine oS (fun _ => XS.aloadN X0.here hx rfl (hb hby dd9_0) rfl rfl) ?_
  refine oS (own_len X0 hx hZ e0 I2259 rfl rfl (hb hby dd9_1)) ?_
  show own_G p e below (s₁.setTop (mkF m 2 #[rv ob_1871, rv ob_15, .unset] [(.int 8)])) _
  refine oS (fun _ => XS.aloadN X0.here hx rfl (hb hby dd9_2) rfl rfl) ?_
  have F2262 : Arv Z h0 ob_15 kk_16 FieldType.byte 8 [(.int 102), (.int 105), (.int 110), (.int 100), (.int 97), (.int 98), (.int 108), (.int 101)] (.int 0) := I2261.ext O0.2
  refine oS (own_len X0 hx hZ e0 F2262 rfl rfl (hb hby dd9_3)) ?_
  show own_G p e below (s₁.setTop (mkF m 4 #[rv ob_1871, rv ob_15, .unset] [(.int 8), (.int 8)])) _
  refine oS (fun _ => XS.icmpNo X0.here hx rfl (hb hby dd9_4) rfl (XT.ii_ne_f (by decide))) ?_
  show own_G p e below (s₁.setTop (mkF m 7 #[rv ob_1871, rv ob_15, .unset] [])) _
  refine oS (fun _ => XS.iconst X0.here hx rfl (hb hby dd9_7) ) ?_
  refine oS (fun _ => XS.istoreN X0.here hx rfl (hb hby dd9_8) rfl (l' := #[rv ob_1871, rv ob_15, iv 0]) rfl) ?_
  refine oS (fun _ => XS.iloadN X0.here hx rfl (hb hby dd9_9) rfl) ?_
  refine oS (fun _ => XS.aloadN X0.here hx rfl (hb hby dd9_10) rfl rfl) ?_
  show own_G p e below (s₁.setTop (mkF m 11 #[rv ob_1871, rv ob_15, iv 0] [(.ref ob_1871), (.int 0)])) _
  refine oS (own_len X0 hx hZ e0 I2259 rfl rfl (hb hby dd9_11)) ?_
  show own_G p e below (s₁.setTop (mkF m 12 #[rv ob_1871, rv ob_15, iv 0] [(.int 8), (.int 0)])) _
  refine oS (fun _ => XS.icmpNo X0.here hx rfl (hb hby dd9_12) rfl (XT.ii_ge_f (by decide))) ?_
  show own_G p e below (s₁.setTop (mkF m 15 #[rv ob_1871, rv ob_15, iv 0] [])) _
  refine oS (fun _ => XS.aloadN X0.here hx rfl (hb hby dd9_15) rfl rfl) ?_
  refine oS (fun _ => XS.iloadN X0.here hx rfl (hb hby dd9_16) rfl) ?_
  refine oS (own_baload X0 hx hZ e0 I2259 (by decide) (v := (.int 102)) rfl rfl rfl (hb hby dd9_17)) ?_
  show own_G p e below (s₁.setTop (mkF m 18 #[rv ob_1871, rv ob_15, iv 0] [(.int 102)])) _
  refine oS (fun _ => XS.aloadN X0.here hx rfl (hb hby dd9_18) rfl rfl) ?_
  refine oS (fun _ => XS.iloadN X0.here hx rfl (hb hby dd9_19) rfl) ?_
  refine oS (own_baload X0 hx hZ e0 F2262 (by decide) (v := (.int 102)) rfl rfl rfl (hb hby dd9_20)) ?_
  show own_G p e below (s₁.setTop (mkF m 21 #[rv ob_1871, rv ob_15, iv 0] [(.int 102), (.int 102)])) _
  refine oS (fun _ => XS.icmpYes X0.here hx rfl (pc0 := 21) (pc' := 26) rfl (hb hby dd9_21) rfl (XT.ii_eq_t (by decide)) (by decide) (by decide)) ?_
  show own_G p e below (s₁.setTop (mkF m 26 #[rv ob_1871, rv ob_15, iv 0] [])) _
  refine oS (fun _ => XS.iinc X0.here hx rfl (hb hby dd9_26) rfl (l' := #[rv ob_1871, rv ob_15, iv 1]) rfl) ?_
  show own_G p e below (s₁.setTop (mkF m 29 #[rv ob_1871, rv ob_15, iv 1] [])) _
  refine oS (fun _ => XS.goto X0.here hx rfl (pc0 := 29) (pc' := 9) rfl (hb hby dd9_29) (by decide) (by decide)) ?_
  show own_G p e below (s₁.setTop (mkF m 9 #[rv ob_1871, rv ob_15, iv 1] [])) _
  refine oS (fun _ => XS.iloadN X0.here hx rfl (hb hby dd9_9) rfl) ?_
  refine oS (fun _ => XS.aloadN X0.here hx rfl (hb hby dd9_10) rfl rfl) ?_
  refine oS (own_len X0 hx hZ e0 I2259 rfl rfl (hb hby dd9_11)) ?_
  show own_G p e below (s₁.setTop (mkF m 12 #[rv ob_1871, rv ob_15, iv 1] [(.int 8), (.int 1)])) _
  refine oS (fun _ => XS.icmpNo X0.here hx rfl (hb hby dd9_12) rfl (XT.ii_ge_f (by decide))) ?_
  show own_G p e below (s₁.setTop (mkF m 15 #[rv ob_1871, rv ob_15, iv 1] [])) _
  refine oS (fun _ => XS.aloadN X0.here hx rfl (hb hby dd9_15) rfl rfl) ?_
  refine oS (fun _ => XS.iloadN X0.here hx rfl (hb hby dd9_16) rfl) ?_
  refine oS (own_baload X0 hx hZ e0 I2259 (by decide) (v := (.int 105)) rfl rfl rfl (hb hby dd9_17)) ?_
  show own_G p e below (s₁.setTop (mkF m 18 #[rv ob_1871, rv ob_15, iv 1] [(.int 105)])) _
  refine oS (fun _ => XS.aloadN X0.here hx rfl (hb hby dd9_18) rfl rfl) ?_
  refine oS (fun _ => XS.iloadN X0.here hx rfl (hb hby dd9_19) rfl) ?_
  refine oS (own_baload X0 hx hZ e0 F2262 (by decide) (v := (.int 105)) rfl rfl rfl (hb hby dd9_20)) ?_
  show own_G p e below (s₁.setTop (mkF m 21 #[rv ob_1871, rv ob_15, iv 1] [(.int 105), (.int 105)])) _
  refine oS (fun _ => XS.icmpYes X0.here hx rfl (pc0 := 21) (pc' := 26) rfl (hb hby dd9_21) rfl (XT.ii_eq_t (by decide)) (by decide) (by decide)) ?_
  show own_G p e below (s₁.setTop (mkF m 26 #[rv ob_1871, rv ob_15, iv 1] [])) _
  refine oS (fun _ => XS.iinc X0.here hx rfl (hb hby dd9_26) rfl (l' := #[rv ob_1871, rv ob_15, iv 2]) rfl) ?_
  show own_G p e below (s₁.setTop (mkF m 29 #[rv ob_1871, rv ob_15, iv 2] [])) _
  refine oS (fun _ => XS.goto X0.here hx rfl (pc0 := 29) (pc' := 9) rfl (hb hby dd9_29) (by decide) (by decide)) ?_
  show own_G p e below (s₁.setTop (mkF m 9 #[rv ob_1871, rv ob_15, iv 2] [])) _
  refine oS (fun _ => XS.iloadN X0.here hx rfl (hb hby dd9_9) rfl) ?_
  refine oS (fun _ => XS.aloadN X0.here hx rfl (hb hby dd9_10) rfl rfl) ?_
  refine oS (own_len X0 hx hZ e0 I2259 rfl rfl (hb hby dd9_11)) ?_
  show own_G p e below (s₁.setTop (mkF m 12 #[rv ob_1871, rv ob_15, iv 2] [(.int 8), (.int 2)])) _
  refine oS (fun _ => XS.icmpNo X0.here hx rfl (hb hby dd9_12) rfl (XT.ii_ge_f (by decide))) ?_
  show own_G p e below (s₁.setTop (mkF m 15 #[rv ob_1871, rv ob_15, iv 2] [])) _
  refine oS (fun _ => XS.aloadN X0.here hx rfl (hb hby dd9_15) rfl rfl) ?_
  refine oS (fun _ => XS.iloadN X0.here hx rfl (hb hby dd9_16) rfl) ?_
  refine oS (own_baload X0 hx hZ e0 I2259 (by decide) (v := (.int 110)) rfl rfl rfl (hb hby dd9_17)) ?_
  show own_G p e below (s₁.setTop (mkF m 18 #[rv ob_1871, rv ob_15, iv 2] [(.int 110)])) _
  refine oS (fun _ => XS.aloadN X0.here hx rfl (hb hby dd9_18) rfl rfl) ?_
  refine oS (fun _ => XS.iloadN X0.here hx rfl (hb hby dd9_19) rfl) ?_
  refine oS (own_baload X0 hx hZ e0 F2262 (by decide) (v := (.int 110)) rfl rfl rfl (hb hby dd9_20)) ?_
  show own_G p e below (s₁.setTop (mkF m 21 #[rv ob_1871, rv ob_15, iv 2] [(.int 110), (.int 110)])) _
  refine oS (fun _ => XS.icmpYes X0.here hx rfl (pc0 := 21) (pc' := 26) rfl (hb hby dd9_21) rfl (XT.ii_eq_t (by decide)) (by decide) (by decide)) ?_
  show own_G p e below (s₁.setTop (mkF m 26 #[rv ob_1871, rv ob_15, iv 2] [])) _
  refine oS (fun _ => XS.iinc X0.here hx rfl (hb hby dd9_26) rfl (l' := #[rv ob_1871, rv ob_15, iv 3]) rfl) ?_
  show own_G p e below (s₁.setTop (mkF m 29 #[rv ob_1871, rv ob_15, iv 3] [])) _
  refine oS (fun _ => XS.goto X0.here hx rfl (pc0 := 29) (pc' := 9) rfl (hb hby dd9_29) (by decide) (by decide)) ?_
  show own_G p e below (s₁.setTop (mkF m 9 #[rv ob_1871, rv ob_15, iv 3] [])) _
  refine oS (fun _ => XS.iloadN X0.here hx rfl (hb hby dd9_9) rfl) ?_
  refine oS (fun _ => XS.aloadN X0.here hx rfl (hb hby dd9_10) rfl rfl) ?_
  refine oS (own_len X0 hx hZ e0 I2259 rfl rfl (hb hby dd9_11)) ?_
  show own_G p e below (s₁.setTop (mkF m 12 #[rv ob_1871, rv ob_15, iv 3] [(.int 8), (.int 3)])) _
  refine oS (fun _ => XS.icmpNo X0.here hx rfl (hb hby dd9_12) rfl (XT.ii_ge_f (by decide))) ?_
  show own_G p e below (s₁.setTop (mkF m 15 #[rv ob_1871, rv ob_15, iv 3] [])) _
  refine oS (fun _ => XS.aloadN X0.here hx rfl (hb hby dd9_15) rfl rfl) ?_
  refine oS (fun _ => XS.iloadN X0.here hx rfl (hb hby dd9_16) rfl) ?_
  refine oS (own_baload X0 hx hZ e0 I2259 (by decide) (v := (.int 100)) rfl rfl rfl (hb hby dd9_17)) ?_
  show own_G p e below (s₁.setTop (mkF m 18 #[rv ob_1871, rv ob_15, iv 3] [(.int 100)])) _
  refine oS (fun _ => XS.aloadN X0.here hx rfl (hb hby dd9_18) rfl rfl) ?_
  refine oS (fun _ => XS.iloadN X0.here hx rfl (hb hby dd9_19) rfl) ?_
  refine oS (own_baload X0 hx hZ e0 F2262 (by decide) (v := (.int 100)) rfl rfl rfl (hb hby dd9_20)) ?_
  show own_G p e below (s₁.setTop (mkF m 21 #[rv ob_1871, rv ob_15, iv 3] [(.int 100), (.int 100)])) _
  refine oS (fun _ => XS.icmpYes X0.here hx rfl (pc0 := 21) (pc' := 26) rfl (hb hby dd9_21) rfl (XT.ii_eq_t (by decide)) (by decide) (by decide)) ?_
  show own_G p e below (s₁.setTop (mkF m 26 #[rv ob_1871, rv ob_15, iv 3] [])) _
  refine oS (fun _ => XS.iinc X0.here hx rfl (hb hby dd9_26) rfl (l' := #[rv ob_1871, rv ob_15, iv 4]) rfl) ?_
  show own_G p e below (s₁.setTop (mkF m 29 #[rv ob_1871, rv ob_15, iv 4] [])) _
  refine oS (fun _ => XS.goto X0.here hx rfl (pc0 := 29) (pc' := 9) rfl (hb hby dd9_29) (by decide) (by decide)) ?_
  show own_G p e below (s₁.setTop (mkF m 9 #[rv ob_1871, rv ob_15, iv 4] [])) _
  refine oS (fun _ => XS.iloadN X0.here hx rfl (hb hby dd9_9) rfl) ?_
  refine oS (fun _ => XS.aloadN X0.here hx rfl (hb hby dd9_10) rfl rfl) ?_
  refine oS (own_len X0 hx hZ e0 I2259 rfl rfl (hb hby dd9_11)) ?_
  show own_G p e below (s₁.setTop (mkF m 12 #[rv ob_1871, rv ob_15, iv 4] [(.int 8), (.int 4)])) _
  refine oS (fun _ => XS.icmpNo X0.here hx rfl (hb hby dd9_12) rfl (XT.ii_ge_f (by decide))) ?_
  show own_G p e below (s₁.setTop (mkF m 15 #[rv ob_1871, rv ob_15, iv 4] [])) _
  refine oS (fun _ => XS.aloadN X0.here hx rfl (hb hby dd9_15) rfl rfl) ?_
  refine oS (fun _ => XS.iloadN X0.here hx rfl (hb hby dd9_16) rfl) ?_
  refine oS (own_baload X0 hx hZ e0 I2259 (by decide) (v := (.int 97)) rfl rfl rfl (hb hby dd9_17)) ?_
  show own_G p e below (s₁.setTop (mkF m 18 #[rv ob_1871, rv ob_15, iv 4] [(.int 97)])) _
  refine oS (fun _ => XS.aloadN X0.here hx rfl (hb hby dd9_18) rfl rfl) ?_
  refine oS (fun _ => XS.iloadN X0.here hx rfl (hb hby dd9_19) rfl) ?_
  refine oS (own_baload X0 hx hZ e0 F2262 (by decide) (v := (.int 97)) rfl rfl rfl (hb hby dd9_20)) ?_
  show own_G p e below (s₁.setTop (mkF m 21 #[rv ob_1871, rv ob_15, iv 4] [(.int 97), (.int 97)])) _
  refine oS (fun _ => XS.icmpYes X0.here hx rfl (pc0 := 21) (pc' := 26) rfl (hb hby dd9_21) rfl (XT.ii_eq_t (by decide)) (by decide) (by decide)) ?_
  show own_G p e below (s₁.setTop (mkF m 26 #[rv ob_1871, rv ob_15, iv 4] [])) _
  refine oS (fun _ => XS.iinc X0.here hx rfl (hb hby dd9_26) rfl (l' := #[rv ob_1871, rv ob_15, iv 5]) rfl) ?_
  show own_G p e below (s₁.setTop (mkF m 29 #[rv ob_1871, rv ob_15, iv 5] [])) _
  refine oS (fun _ => XS.goto X0.here hx rfl (pc0 := 29) (pc' := 9) rfl (hb hby dd9_29) (by decide) (by decide)) ?_
  show own_G p e below (s₁.setTop (mkF m 9 #[rv ob_1871, rv ob_15, iv 5] [])) _
  refine oS (fun _ => XS.iloadN X0.here hx rfl (hb hby dd9_9) rfl) ?_
  refine oS (fun _ => XS.aloadN X0.here hx rfl (hb hby dd9_10) rfl rfl) ?_
  refine oS (own_len X0 hx hZ e0 I2259 rfl rfl (hb hby dd9_11)) ?_
  show own_G p e below (s₁.setTop (mkF m 12 #[rv ob_1871, rv ob_15, iv 5] [(.int 8), (.int 5)])) _
  refine oS (fun _ => XS.icmpNo X0.here hx rfl (hb hby dd9_12) rfl (XT.ii_ge_f (by decide))) ?_
  show own_G p e below (s₁.setTop (mkF m 15 #[rv ob_1871, rv ob_15, iv 5] [])) _
  refine oS (fun _ => XS.aloadN X0.here hx rfl (hb hby dd9_15) rfl rfl) ?_
  refine oS (fun _ => XS.iloadN X0.here hx rfl (hb hby dd9_16) rfl) ?_
  refine oS (own_baload X0 hx hZ e0 I2259 (by decide) (v := (.int 98)) rfl rfl rfl (hb hby dd9_17)) ?_
  show own_G p e below (s₁.setTop (mkF m 18 #[rv ob_1871, rv ob_15, iv 5] [(.int 98)])) _
  refine oS (fun _ => XS.aloadN X0.here hx rfl (hb hby dd9_18) rfl rfl) ?_
  refine oS (fun _ => XS.iloadN X0.here hx rfl (hb hby dd9_19) rfl) ?_
  refine oS (own_baload X0 hx hZ e0 F2262 (by decide) (v := (.int 98)) rfl rfl rfl (hb hby dd9_20)) ?_
  show own_G p e below (s₁.setTop (mkF m 21 #[rv ob_1871, rv ob_15, iv 5] [(.int 98), (.int 98)])) _
  refine oS (fun _ => XS.icmpYes X0.here hx rfl (pc0 := 21) (pc' := 26) rfl (hb hby dd9_21) rfl (XT.ii_eq_t (by decide)) (by decide) (by decide)) ?_
  show own_G p e below (s₁.setTop (mkF m 26 #[rv ob_1871, rv ob_15, iv 5] [])) _
  refine oS (fun _ => XS.iinc X0.here hx rfl (hb hby dd9_26) rfl (l' := #[rv ob_1871, rv ob_15, iv 6]) rfl) ?_
  show own_G p e below (s₁.setTop (mkF m 29 #[rv ob_1871, rv ob_15, iv 6] [])) _
  refine oS (fun _ => XS.goto X0.here hx rfl (pc0 := 29) (pc' := 9) rfl (hb hby dd9_29) (by decide) (by decide)) ?_
  show own_G p e below (s₁.setTop (mkF m 9 #[rv ob_1871, rv ob_15, iv 6] [])) _
  refine oS (fun _ => XS.iloadN X0.here hx rfl (hb hby dd9_9) rfl) ?_
  refine oS (fun _ => XS.aloadN X0.here hx rfl (hb hby dd9_10) rfl rfl) ?_
  refine oS (own_len X0 hx hZ e0 I2259 rfl rfl (hb hby dd9_11)) ?_
  show own_G p e below (s₁.setTop (mkF m 12 #[rv ob_1871, rv ob_15, iv 6] [(.int 8), (.int 6)])) _
  refine oS (fun _ => XS.icmpNo X0.here hx rfl (hb hby dd9_12) rfl (XT.ii_ge_f (by decide))) ?_
  show own_G p e below (s₁.setTop (mkF m 15 #[rv ob_1871, rv ob_15, iv 6] [])) _
  refine oS (fun _ => XS.aloadN X0.here hx rfl (hb hby dd9_15) rfl rfl) ?_
  refine oS (fun _ => XS.iloadN X0.here hx rfl (hb hby dd9_16) rfl) ?_
  refine oS (own_baload X0 hx hZ e0 I2259 (by decide) (v := (.int 108)) rfl rfl rfl (hb hby dd9_17)) ?_
  show own_G p e below (s₁.setTop (mkF m 18 #[rv ob_1871, rv ob_15, iv 6] [(.int 108)])) _
  refine oS (fun _ => XS.aloadN X0.here hx rfl (hb hby dd9_18) rfl rfl) ?_
  refine oS (fun _ => XS.iloadN X0.here hx rfl (hb hby dd9_19) rfl) ?_
  refine oS (own_baload X0 hx hZ e0 F2262 (by decide) (v := (.int 108)) rfl rfl rfl (hb hby dd9_20)) ?_
  show own_G p e below (s₁.setTop (mkF m 21 #[rv ob_1871, rv ob_15, iv 6] [(.int 108), (.int 108)])) _
  refine oS (fun _ => XS.icmpYes X0.here hx rfl (pc0 := 21) (pc' := 26) rfl (hb hby dd9_21) rfl (XT.ii_eq_t (by decide)) (by decide) (by decide)) ?_
  show own_G p e below (s₁.setTop (mkF m 26 #[rv ob_1871, rv ob_15, iv 6] [])) _
  refine oS (fun _ => XS.iinc X0.here hx rfl (hb hby dd9_26) rfl (l' := #[rv ob_1871, rv ob_15, iv 7]) rfl) ?_
  show own_G p e below (s₁.setTop (mkF m 29 #[rv ob_1871, rv ob_15, iv 7] [])) _
  refine oS (fun _ => XS.goto X0.here hx rfl (pc0 := 29) (pc' := 9) rfl (hb hby dd9_29) (by decide) (by decide)) ?_
  show own_G p e below (s₁.setTop (mkF m 9 #[rv ob_1871, rv ob_15, iv 7] [])) _
  refine oS (fun _ => XS.iloadN X0.here hx rfl (hb hby dd9_9) rfl) ?_
  refine oS (fun _ => XS.aloadN X0.here hx rfl (hb hby dd9_10) rfl rfl) ?_
  refine oS (own_len X0 hx hZ e0 I2259 rfl rfl (hb hby dd9_11)) ?_
  show own_G p e below (s₁.setTop (mkF m 12 #[rv ob_1871, rv ob_15, iv 7] [(.int 8), (.int 7)])) _
  refine oS (fun _ => XS.icmpNo X0.here hx rfl (hb hby dd9_12) rfl (XT.ii_ge_f (by decide))) ?_
  show own_G p e below (s₁.setTop (mkF m 15 #[rv ob_1871, rv ob_15, iv 7] [])) _
  refine oS (fun _ => XS.aloadN X0.here hx rfl (hb hby dd9_15) rfl rfl) ?_
  refine oS (fun _ => XS.iloadN X0.here hx rfl (hb hby dd9_16) rfl) ?_
  refine oS (own_baload X0 hx hZ e0 I2259 (by decide) (v := (.int 101)) rfl rfl rfl (hb hby dd9_17)) ?_
  show own_G p e below (s₁.setTop (mkF m 18 #[rv ob_1871, rv ob_15, iv 7] [(.int 101)])) _
  refine oS (fun _ => XS.aloadN X0.here hx rfl (hb hby dd9_18) rfl rfl) ?_
  refine oS (fun _ => XS.iloadN X0.here hx rfl (hb hby dd9_19) rfl) ?_
  refine oS (own_baload X0 hx hZ e0 F2262 (by decide) (v := (.int 101)) rfl rfl rfl (hb hby dd9_20)) ?_
  show own_G p e below (s₁.setTop (mkF m 21 #[rv ob_1871, rv ob_15, iv 7] [(.int 101), (.int 101)])) _
  refine oS (fun _ => XS.icmpYes X0.here hx rfl (pc0 := 21) (pc' := 26) rfl (hb hby dd9_21) rfl (XT.ii_eq_t (by decide)) (by decide) (by decide)) ?_
  show own_G p e below (s₁.setTop (mkF m 26 #[rv ob_1871, rv ob_15, iv 7] [])) _
  refine oS (fun _ => XS.iinc X0.here hx rfl (hb hby dd9_26) rfl (l' := #[rv ob_1871, rv ob_15, iv 8]) rfl) ?_
  show own_G p e below (s₁.setTop (mkF m 29 #[rv ob_1871, rv ob_15, iv 8] [])) _
  refine oS (fun _ => XS.goto X0.here hx rfl (pc0 := 29) (pc' := 9) rfl (hb hby dd9_29) (by decide) (by decide)) ?_
  show own_G p e below (s₁.setTop (mkF m 9 #[rv ob_1871, rv ob_15, iv 8] [])) _
  refine oS (fun _ => XS.iloadN X0.here hx rfl (hb hby dd9_9) rfl) ?_
  refine oS (fun _ => XS.aloadN X0.here hx rfl (hb hby dd9_10) rfl rfl) ?_
  refine oS (own_len X0 hx hZ e0 I2259 rfl rfl (hb hby dd9_11)) ?_
  show own_G p e below (s₁.setTop (mkF m 12 #[rv ob_1871, rv ob_15, iv 8] [(.int 8), (.int 8)])) _
  refine oS (fun _ => XS.icmpYes X0.here hx rfl (pc0 := 12) (pc' := 32) rfl (hb hby dd9_12) rfl (XT.ii_ge_t (by decide)) (by decide) (by decide)) ?_
  show own_G p e below (s₁.setTop (mkF m 32 #[rv ob_1871, rv ob_15, iv 8] [])) _
  refine oS (fun _ => XS.iconst X0.here hx rfl (hb hby dd9_32) ) ?_
  exact own_retN X0 hx (t := .boolean) Bd.notSynchronized Bd.returns (by simp) (hb hby dd9_33) (by decide) e0 (by decide) (by decide) (⟨rfl, N0, rfl⟩)
def own_Q41 (Z : State) (ob_1468 : Nat) (ob_14 : Nat) (in_2 : Int32) (ob_1871 : Nat) (ob_15 : Nat) (kk_1872 : ClassId) (kk_16 : ClassId) (h0 : Heap) (n0 : Nat) (v : Option Value) (h : Heap) (L : List Loc) : Prop := (v = some (.int 1) ∧ Fr n0 L ∧ h = h0)
set_option maxRecDepth 65536 in
set_option maxHeartbeats 40000000 in
theorem own_rm41 (l : Launch) (Z : State) (a0 : Array Value) (hw : ∀ d ∈ tables_1, d.before a0 Z = true) (ws : List Jvm.Cond) (ob_1468 : Nat) (ob_14 : Nat) (in_2 : Int32) (ob_1871 : Nat) (ob_15 : Nat) (kk_1872 : ClassId) (kk_16 : ClassId) (h0 : Heap) (n0 : Nat) (Z0 : n0 ≤ h0.size) (O0 : Old Z n0 h0) (I2215 : n0 ≤ ob_1468) (I2216 : Exa Z Z.heap ob_14 "java/lang/String") (I2229 : Sta Z Z.heap "java/lang/String" "COMPACT_STRINGS" "Z" (.int in_2)) (I2235 : ¬ (in_2 = 0)) (I2236 : Fld Z h0 ob_1468 "java/lang/String" "coder" "B" (.int 0)) (I2241 : Fld Z Z.heap ob_14 "java/lang/String" "coder" "B" (.int 0)) (I2247 : Fld Z h0 ob_1468 "java/lang/String" "value" "[B" (.ref ob_1871)) (I2252 : Fld Z Z.heap ob_14 "java/lang/String" "value" "[B" (.ref ob_15)) (I2258 : Arv Z h0 ob_1871 kk_1872 .byte 8 [(.int 102), (.int 105), (.int 110), (.int 100), (.int 97), (.int 98), (.int 108), (.int 101)] (.int 0)) (I2260 : Arv Z Z.heap ob_15 kk_16 FieldType.byte 8 [(.int 102), (.int 105), (.int 110), (.int 100), (.int 97), (.int 98), (.int 108), (.int 101)] (.int 0)) :
    own_Met l Z h0 (⟨"java/lang/String", "equals", "(Ljava/lang/Object;)Z"⟩ : MethodName) jdk_42_method_66_code 3 (Option.some FieldType.boolean) ws ({ frames := 1, cells := 0, slots := 0, locals := 14 } : Room) #[(.ref ob_1468), (.ref ob_14)] (own_Q41 Z ob_1468 ob_14 in_2 ob_1871 ob_15 kk_1872 kk_16 h0 n0) 0 0 := by
  refine MetFree.of_bodySF own_pn8 hisR ?_
  intro p e s m args below meth c s₁ Bd hml0 hP hK
  obtain ⟨rfl, hZ, hh⟩ := hP
  have hx := Bd.exec
  have hby := Bd.bytes
  have hml : c.maxLocals = 3 := hml0
  have hown : s.vm.findClass "java/lang/String" = some m.cls := findClass_of_methodNamed Bd.named
  have hnm := (name_of_methodNamed Bd.named Bd.method).1
  have X0 : Stand p l e ({ frames := 1, cells := 0, slots := 0, locals := 14 } : Room) s m #[(.ref ob_1468), (.ref ob_14)] below meth c s₁ [] 0 0 := Stand.of_body Bd
  have e0 : s₁.heap = h0 := by rw [← hh, Bd.state]; rfl
  have N0 := Fr.nil n0
  show own_G p e below (s₁.setTop (entryFrame m #[(.ref ob_1468), (.ref ob_14)] 3)) (own_P s (own_Q41 Z ob_1468 ob_14 in_2 ob_1871 ob_15 kk_1872 kk_16 h0 n0) 0 0)
  refine own_cast (own_ef9 m ob_1468 ob_14) ?_
  show own_G p e below (s₁.setTop (mkF m 0 #[rv ob_1468, rv ob_14, .unset] [])) _
  refine oS (fun _ => XS.aloadN X0.here hx rfl (hb hby dd8_0) rfl rfl) ?_
  refine oS (fun _ => XS.aloadN X0.here hx rfl (hb hby dd8_1) rfl rfl) ?_
  have y2214 := I2215
  have y2217 : @LT.lt Nat instLTNat ob_14 Z.heap.size := I2216.lt
  have y2218 : Z.heap.size = n0 := O0.1
  have N2219 : @Ne Nat ob_1468 ob_14 := by omega
  refine oS (fun _ => XT.acmpYes X0.here hx rfl (pc0 := 2) (pc' := 7) rfl (hb hby dd8_2) rfl rfl rfl (XT.aa_ne_t (own_rne N2219)) (by decide) (by decide)) ?_
  show own_G p e below (s₁.setTop (mkF m 7 #[rv ob_1468, rv ob_14, .unset] [])) _
  refine oS (fun _ => XS.aloadN X0.here hx rfl (hb hby dd8_7) rfl rfl) ?_
  have F2224 : Exa Z h0 ob_14 "java/lang/String" := Exa.ext O0.2 I2216
  obtain ⟨T2220, X2221, e2222, s2223⟩ := instY X0 hx hZ hown (oW hw 65 rfl) e0 (Ins.self F2224) (g := (mkF m 8 #[rv ob_1468, rv ob_14, .unset] [(.ref ob_14)])) rfl rfl (hb hby dd8_8)
  refine oS s2223 ?_
  show own_G p e below (T2220.setTop (mkF m 11 #[rv ob_1468, rv ob_14, .unset] [(.int 1)])) _
  refine oS (fun _ => XS.ifNo X2221.here hx rfl (hb hby dd8_11) rfl (XT.i0_eq_f (by decide))) ?_
  show own_G p e below (T2220.setTop (mkF m 14 #[rv ob_1468, rv ob_14, .unset] [])) _
  refine oS (fun _ => XS.aloadN X2221.here hx rfl (hb hby dd8_14) rfl rfl) ?_
  obtain ⟨T2225, X2226, e2227, s2228⟩ := castY X2221 hx hZ hown (oW hw 65 rfl) e2222 (Ins.self F2224) (g := (mkF m 15 #[rv ob_1468, rv ob_14, .unset] [(.ref ob_14)])) rfl rfl (hb hby dd8_15)
  refine oS s2228 ?_
  show own_G p e below (T2225.setTop (mkF m 18 #[rv ob_1468, rv ob_14, .unset] [(.ref ob_14)])) _
  refine oS (fun _ => XS.astoreN X2226.here hx rfl (hb hby dd8_18) rfl rfl (l' := #[rv ob_1468, rv ob_14, rv ob_14]) rfl) ?_
  have F2230 : Sta Z h0 "java/lang/String" "COMPACT_STRINGS" "Z" (.int in_2) := Sta.ext O0.2 I2229
  obtain ⟨T2231, X2232, e2233, s2234⟩ := getS X2226 hx hZ hown (host := "") (oW hw 22 rfl) Via.refl e2227 F2230 (g := (mkF m 19 #[rv ob_1468, rv ob_14, rv ob_14] [])) rfl (hb hby dd8_19)
  refine oS s2234 ?_
  show own_G p e below (T2231.setTop (mkF m 22 #[rv ob_1468, rv ob_14, rv ob_14] [(.int in_2)])) _
  refine oS (fun _ => XS.ifNo X2232.here hx rfl (hb hby dd8_22) rfl (XT.i0_eq_f I2235)) ?_
  show own_G p e below (T2231.setTop (mkF m 25 #[rv ob_1468, rv ob_14, rv ob_14] [])) _
  refine oS (fun _ => XS.aloadN X2232.here hx rfl (hb hby dd8_25) rfl rfl) ?_
  obtain ⟨T2237, X2238, e2239, s2240⟩ := getF X2232 hx hZ hown (host := "") (Or.inl (oW hw 34 rfl)) Via.refl e2233 I2236 (g := (mkF m 26 #[rv ob_1468, rv ob_14, rv ob_14] [(.ref ob_1468)])) rfl rfl (hb hby dd8_26)
  refine oS s2240 ?_
  show own_G p e below (T2237.setTop (mkF m 29 #[rv ob_1468, rv ob_14, rv ob_14] [(.int 0)])) _
  refine oS (fun _ => XS.aloadN X2238.here hx rfl (hb hby dd8_29) rfl rfl) ?_
  have F2242 : Fld Z h0 ob_14 "java/lang/String" "coder" "B" (.int 0) := Fld.ext O0.2 I2241
  obtain ⟨T2243, X2244, e2245, s2246⟩ := getF X2238 hx hZ hown (host := "") (Or.inl (oW hw 34 rfl)) Via.refl e2239 F2242 (g := (mkF m 30 #[rv ob_1468, rv ob_14, rv ob_14] [(.ref ob_14), (.int 0)])) rfl rfl (hb hby dd8_30)
  refine oS s2246 ?_
  show own_G p e below (T2243.setTop (mkF m 33 #[rv ob_1468, rv ob_14, rv ob_14] [(.int 0), (.int 0)])) _
  refine oS (fun _ => XS.icmpNo X2244.here hx rfl (hb hby dd8_33) rfl (XT.ii_ne_f (by decide))) ?_
  show own_G p e below (T2243.setTop (mkF m 36 #[rv ob_1468, rv ob_14, rv ob_14] [])) _
  refine oS (fun _ => XS.aloadN X2244.here hx rfl (hb hby dd8_36) rfl rfl) ?_
  obtain ⟨T2248, X2249, e2250, s2251⟩ := getF X2244 hx hZ hown (host := "") (Or.inl (oW hw 36 rfl)) Via.refl e2245 I2247 (g := (mkF m 37 #[rv ob_1468, rv ob_14, rv ob_14] [(.ref ob_1468)])) rfl rfl (hb hby dd8_37)
  refine oS s2251 ?_
  show own_G p e below (T2248.setTop (mkF m 40 #[rv ob_1468, rv ob_14, rv ob_14] [(.ref ob_1871)])) _
  refine oS (fun _ => XS.aloadN X2249.here hx rfl (hb hby dd8_40) rfl rfl) ?_
  have F2253 : Fld Z h0 ob_14 "java/lang/String" "value" "[B" (.ref ob_15) := Fld.ext O0.2 I2252
  obtain ⟨T2254, X2255, e2256, s2257⟩ := getF X2249 hx hZ hown (host := "") (Or.inl (oW hw 36 rfl)) Via.refl e2250 F2253 (g := (mkF m 41 #[rv ob_1468, rv ob_14, rv ob_14] [(.ref ob_14), (.ref ob_1871)])) rfl rfl (hb hby dd8_41)
  refine oS s2257 ?_
  show own_G p e below (T2254.setTop (mkF m 44 #[rv ob_1468, rv ob_14, rv ob_14] [(.ref ob_15), (.ref ob_1871)])) _
  obtain ⟨T2263, h2264, v2265, L2266, X2267, e2268, q2269, s2270⟩ := own_callS X2255 hx hZ hown e2256 (y := (⟨"java/lang/StringLatin1", "equals", "([B[B)Z"⟩ : MethodName)) (oW hw 66 rfl) (oW hw 67 rfl) (oW hw 68 rfl) (oW hw 69 rfl) (by decide) (W := 0) (own_rm42 l Z a0 hw [] ob_1871 ob_15 kk_1872 kk_16 h0 n0 Z0 O0 I2258 I2260) (by decide) (by decide) (by decide) (by decide) (g := (mkF m 44 #[rv ob_1468, rv ob_14, rv ob_14] [(.ref ob_15), (.ref ob_1871)])) rfl (by rw [hml]; rfl) (argsL := [(.ref ob_1871), (.ref ob_15)]) (rest := []) rfl (lenOf own_pd7 rfl) rfl (by show 2 * 0 + _ ≤ _; exact Nat.le_of_eq rfl) (hb hby dd8_44)
  refine oS s2270 ?_
  obtain ⟨rfl, N2271, K2272⟩ := q2269
  have N2273 := Fr.app N0 N2271
  have e2274 := e2268.trans K2272
  show own_G p e below (T2263.setTop (mkF m 47 #[rv ob_1468, rv ob_14, rv ob_14] [(.int 1)])) _
  refine oS (fun _ => XS.ifNo X2267.here hx rfl (hb hby dd8_47) rfl (XT.i0_eq_f (by decide))) ?_
  show own_G p e below (T2263.setTop (mkF m 50 #[rv ob_1468, rv ob_14, rv ob_14] [])) _
  refine oS (fun _ => XS.iconst X2267.here hx rfl (hb hby dd8_50) ) ?_
  refine oS (fun _ => XS.goto X2267.here hx rfl (pc0 := 51) (pc' := 55) rfl (hb hby dd8_51) (by decide) (by decide)) ?_
  show own_G p e below (T2263.setTop (mkF m 55 #[rv ob_1468, rv ob_14, rv ob_14] [(.int 1)])) _
  exact own_retN X2267 hx (t := .boolean) Bd.notSynchronized Bd.returns (by simp) (hb hby dd8_55) (by decide) e2274 (by decide) (by decide) (⟨rfl, N2273, rfl⟩)
def own_Q1 (Z : State) (in_1 : Int32) (ob_4 : Nat) (in_2 : Int32) (ob_5 : Nat) (kk_17 : ClassId) (ob_6 : Nat) (ob_7 : Nat) (ob_8 : Nat) (ob_9 : Nat) (kk_10 : ClassId) (ob_11 : Nat) (ob_12 : Nat) (kk_13 : ClassId) (ob_14 : Nat) (ob_15 : Nat) (kk_16 : ClassId) (h0 : Heap) (n0 : Nat) (v : Option Value) (h : Heap) (L : List Loc) : Prop := (v = some (.int 1) ∧ Fr n0 L)
theorem own_pn11 : plainFor x = true := by decide +kernel
set_option maxRecDepth 65536 in
set_option maxHeartbeats 40000000 in
theorem own_rm1 (l : Launch) (Z : State) (a0 : Array Value) (hw : ∀ d ∈ tables_1, d.before a0 Z = true) (ws : List Jvm.Cond) (in_1 : Int32) (ob_4 : Nat) (in_2 : Int32) (ob_5 : Nat) (kk_17 : ClassId) (ob_6 : Nat) (ob_7 : Nat) (ob_8 : Nat) (ob_9 : Nat) (kk_10 : ClassId) (ob_11 : Nat) (ob_12 : Nat) (kk_13 : ClassId) (ob_14 : Nat) (ob_15 : Nat) (kk_16 : ClassId) (h0 : Heap) (n0 : Nat) (Z0 : n0 ≤ h0.size) (O0 : Old Z n0 h0) (I21 : Sta Z Z.heap "com/example/vestibule/vestibule/datacite/DoiState" "DRAFT" "Lcom/example/vestibule/vestibule/datacite/DoiState;" (.ref ob_4)) (I140 : Sta Z Z.heap "java/lang/String" "COMPACT_STRINGS" "Z" (.int in_2)) (I148 : ¬ (in_2 = 0)) (I386 : Sta Z Z.heap "com/example/vestibule/vestibule/datacite/DoiState" "$VALUES" "[Lcom/example/vestibule/vestibule/datacite/DoiState;" (.ref ob_5)) (I394 : Arv Z Z.heap ob_5 kk_17 (FieldType.object "com/example/vestibule/vestibule/datacite/DoiState") 3 [(.ref ob_4), (.ref ob_6), (.ref ob_7)] .null) (I398 : Exa Z Z.heap ob_5 "[Lcom/example/vestibule/vestibule/datacite/DoiState;") (I437 : Fld Z Z.heap ob_4 "com/example/vestibule/vestibule/datacite/DoiState" "key" "Ljava/lang/String;" (.ref ob_8)) (I445 : Exa Z Z.heap ob_8 "java/lang/String") (I474 : Fld Z Z.heap ob_8 "java/lang/String" "coder" "B" (.int 0)) (I489 : Fld Z Z.heap ob_8 "java/lang/String" "value" "[B" (.ref ob_9)) (I504 : Arv Z Z.heap ob_9 kk_10 FieldType.byte 5 [(.int 100), (.int 114), (.int 97), (.int 102), (.int 116)] (.int 0)) (I570 : Exa Z Z.heap ob_4 "com/example/vestibule/vestibule/datacite/DoiState") (I655 : Sta Z Z.heap "com/example/vestibule/vestibule/datacite/DoiState" "REGISTERED" "Lcom/example/vestibule/vestibule/datacite/DoiState;" (.ref ob_6)) (I1251 : Fld Z Z.heap ob_6 "com/example/vestibule/vestibule/datacite/DoiState" "key" "Ljava/lang/String;" (.ref ob_11)) (I1258 : Exa Z Z.heap ob_11 "java/lang/String") (I1260 : Fld Z Z.heap ob_11 "java/lang/String" "coder" "B" (.int 0)) (I1262 : Fld Z Z.heap ob_11 "java/lang/String" "value" "[B" (.ref ob_12)) (I1264 : Arv Z Z.heap ob_12 kk_13 FieldType.byte 10 [(.int 114), (.int 101), (.int 103), (.int 105), (.int 115), (.int 116), (.int 101), (.int 114), (.int 101), (.int 100)] (.int 0)) (I1367 : Exa Z Z.heap ob_6 "com/example/vestibule/vestibule/datacite/DoiState") (I1452 : Sta Z Z.heap "com/example/vestibule/vestibule/datacite/DoiState" "FINDABLE" "Lcom/example/vestibule/vestibule/datacite/DoiState;" (.ref ob_7)) (I2088 : Fld Z Z.heap ob_7 "com/example/vestibule/vestibule/datacite/DoiState" "key" "Ljava/lang/String;" (.ref ob_14)) (I2095 : Exa Z Z.heap ob_14 "java/lang/String") (I2097 : Fld Z Z.heap ob_14 "java/lang/String" "coder" "B" (.int 0)) (I2099 : Fld Z Z.heap ob_14 "java/lang/String" "value" "[B" (.ref ob_15)) (I2101 : Arv Z Z.heap ob_15 kk_16 FieldType.byte 8 [(.int 102), (.int 105), (.int 110), (.int 100), (.int 97), (.int 98), (.int 108), (.int 101)] (.int 0)) (I2204 : Exa Z Z.heap ob_7 "com/example/vestibule/vestibule/datacite/DoiState") :
    own_Met l Z h0 x code maxLocals ret ws room_1 #[(.int in_1)] (own_Q1 Z in_1 ob_4 in_2 ob_5 kk_17 ob_6 ob_7 ob_8 ob_9 kk_10 ob_11 ob_12 kk_13 ob_14 ob_15 kk_16 h0 n0) 16 128 := by
  refine MetFree.of_bodySF own_pn11 hisR ?_
  intro p e s m args below meth c s₁ Bd hml0 hP hK
  obtain ⟨rfl, hZ, hh⟩ := hP
  have hx := Bd.exec
  have hby := Bd.bytes
  have hml : c.maxLocals = 5 := hml0
  have hown : s.vm.findClass "com/example/vestibule/vestibule/datacite/DoiStateOfKeyPinLaw" = some m.cls := findClass_of_methodNamed Bd.named
  have hnm := (name_of_methodNamed Bd.named Bd.method).1
  have X0 : Stand p l e room_1 s m #[(.int in_1)] below meth c s₁ [] 0 0 := Stand.of_body Bd
  have e0 : s₁.heap = h0 := by rw [← hh, Bd.state]; rfl
  have N0 := Fr.nil n0
  show own_G p e below (s₁.setTop (entryFrame m #[(.int in_1)] maxLocals)) (own_P s (own_Q1 Z in_1 ob_4 in_2 ob_5 kk_17 ob_6 ob_7 ob_8 ob_9 kk_10 ob_11 ob_12 kk_13 ob_14 ob_15 kk_16 h0 n0) 16 128)
  refine own_cast (own_ef0 m in_1) ?_
  show own_G p e below (s₁.setTop (mkF m 0 #[iv in_1, .unset, .unset, .unset, .unset] [])) _
  refine oS (fun _ => XS.iloadN X0.here hx rfl (hb hby at_0) rfl) ?_
  refine oS (fun _ => X0.ldcI hx hown (mvT hZ (oW hw 0 rfl)) rfl (hb hby at_1)) ?_
  show own_G p e below (s₁.setTop (mkF m 3 #[iv in_1, .unset, .unset, .unset, .unset] [(.int 2147483647), (.int in_1)])) _
  refine oS (fun _ => XS.iand X0.here hx rfl (hb hby at_3) rfl) ?_
  refine oS (fun _ => XS.iconst X0.here hx rfl (hb hby at_4) ) ?_
  refine oS (fun _ => iremM X0 hx rfl (hb hby at_5) rfl (by decide)) ?_
  show own_G p e below (s₁.setTop (mkF m 6 #[iv in_1, .unset, .unset, .unset, .unset] [(.int ((in_1 &&& 2147483647) % 3))])) _
  rcases own_in3 (own_modlt in_1 3 (by decide)) with q18 | q19 | q20
  · skip
    refine own_cast (g' := (mkF m 6 #[iv in_1, .unset, .unset, .unset, .unset] [(.int 0)])) (by rw [q18]) ?_
    show own_G p e below (s₁.setTop (mkF m 6 #[iv in_1, .unset, .unset, .unset, .unset] [(.int 0)])) _
    refine oS (fun _ => XS.istoreN X0.here hx rfl (hb hby at_6) rfl (l' := #[iv in_1, iv 0, .unset, .unset, .unset]) rfl) ?_
    refine oS (fun _ => XS.iloadN X0.here hx rfl (hb hby at_7) rfl) ?_
    refine oS (fun _ => XS.ifNo X0.here hx rfl (hb hby at_8) rfl (XT.i0_ne_f (by decide))) ?_
    show own_G p e below (s₁.setTop (mkF m 11 #[iv in_1, iv 0, .unset, .unset, .unset] [])) _
    have F22 : Sta Z h0 "com/example/vestibule/vestibule/datacite/DoiState" "DRAFT" "Lcom/example/vestibule/vestibule/datacite/DoiState;" (.ref ob_4) := Sta.ext O0.2 I21
    obtain ⟨T23, X24, e25, s26⟩ := getS X0 hx hZ hown (host := "") (oW hw 1 rfl) Via.refl e0 F22 (g := (mkF m 11 #[iv in_1, iv 0, .unset, .unset, .unset] [])) rfl (hb hby at_11)
    refine oS s26 ?_
    show own_G p e below (T23.setTop (mkF m 14 #[iv in_1, iv 0, .unset, .unset, .unset] [(.ref ob_4)])) _
    refine oS (fun _ => XS.astoreN X24.here hx rfl (hb hby at_14) rfl rfl (l' := #[iv in_1, iv 0, rv ob_4, .unset, .unset]) rfl) ?_
    refine oS (fun _ => XS.goto X24.here hx rfl (pc0 := 15) (pc' := 34) rfl (hb hby at_15) (by decide) (by decide)) ?_
    show own_G p e below (T23.setTop (mkF m 34 #[iv in_1, iv 0, rv ob_4, .unset, .unset] [])) _
    obtain ⟨T27, h28, X29, e30, E31, A32, D33, U36, s34⟩ := newO X24 hx hZ hown (oW hw 4 rfl) (oW hw 5 rfl) (oW hw 6 rfl) e25 (g := (mkF m 34 #[iv in_1, iv 0, rv ob_4, .unset, .unset] [])) rfl (hb hby at_34) (by decide) (by decide)
    obtain ⟨ob_37, g38⟩ : ∃ z, z = h0.size := ⟨_, rfl⟩
    rw [← g38] at A32 D33 U36 s34
    have z39 := E31.1
    have y35 : @LT.lt Nat instLTNat ob_37 h28.size := A32.lt
    refine oS s34 ?_
    have F40 : Fld Z h28 ob_37 "java/lang/String" "coder" "B" (.int 0) := D33 (Or.inr (oW hw 35 rfl)) (ty := .byte) (by decide)
    have F41 : Fld Z h28 ob_37 "java/lang/String" "value" "[B" .null := D33 (Or.inr (oW hw 37 rfl)) (ty := (.array .byte)) (by decide)
    show own_G p e below (T27.setTop (mkF m 37 #[iv in_1, iv 0, rv ob_4, .unset, .unset] [(.ref ob_37)])) _
    refine oS (fun _ => XS.dup X29.here hx rfl (hb hby at_37) rfl rfl) ?_
    refine oS (fun _ => XS.iloadN X29.here hx rfl (hb hby at_38) rfl) ?_
    have O115 : Old Z n0 h28 := O0.ext E31
    have Z116 : n0 ≤ h28.size := by omega
    obtain ⟨T117, h118, v119, L120, X121, e122, q123, s124⟩ := own_callS X29 hx hZ hown e30 (y := (⟨"com/example/vestibule/vestibule/datacite/DoiStateOfKeyPinLaw", "keyChars", "(I)[C"⟩ : MethodName)) (oW hw 7 rfl) (oW hw 8 rfl) (oW hw 9 rfl) (oW hw 10 rfl) (by decide) (W := 2) (own_rm2 l Z a0 hw []  h28 n0 Z116 O115 ) (by decide) (by decide) (by decide) (by decide) (g := (mkF m 39 #[iv in_1, iv 0, rv ob_4, .unset, .unset] [(.int 0), (.ref ob_37), (.ref ob_37)])) rfl (by rw [hml]; rfl) (argsL := [(.int 0)]) (rest := [(.ref ob_37), (.ref ob_37)]) rfl (lenOf own_pd0 rfl) rfl (by show 2 * 0 + _ ≤ _; exact Nat.le_of_eq rfl) (hb hby at_39)
    refine oS s124 ?_
    obtain ⟨ob_125, kk_126, rfl, N127, K128, F129, F130, F131, F132⟩ := q123
    have N133 := Fr.app N0 N127
    have z134 := K128.1
    show own_G p e below (T117.setTop (mkF m 42 #[iv in_1, iv 0, rv ob_4, .unset, .unset] [(.ref ob_125), (.ref ob_37), (.ref ob_37)])) _
    have F292 : Fld Z h118 ob_37 "java/lang/String" "coder" "B" (.int 0) := F40.keep K128 nin0
    have F296 : Exa Z h118 ob_37 "java/lang/String" := A32.keep K128
    have N307 : n0 ≤ ob_37 := by omega
    have F312 : Fld Z h118 ob_37 "java/lang/String" "value" "[B" .null := F41.keep K128 nin0
    have y329 : @LT.lt Nat instLTNat ob_37 h118.size := by omega
    have O363 : Old Z n0 h118 := O115.keep K128 all0
    have Z364 : n0 ≤ h118.size := by omega
    obtain ⟨T365, h366, v367, L368, X369, e370, q371, s372⟩ := own_callN X121 hx hZ hown e122 (y := (⟨"java/lang/String", "<init>", "([C)V"⟩ : MethodName)) (b := ob_37) rfl (oW hw 12 rfl) (oW hw 13 rfl) (oW hw 6 rfl) (oW hw 14 rfl) (by decide) (W := 1) (own_rm3 l Z a0 hw [] ob_37 ob_125 kk_126 in_2 h118 n0 Z364 O363 F130 I140 I148 F132 F292 F296 N307 F312 y329) (by decide) (by decide) (by decide) (by decide) (g := (mkF m 42 #[iv in_1, iv 0, rv ob_4, .unset, .unset] [(.ref ob_125), (.ref ob_37), (.ref ob_37)])) rfl (by rw [hml]; rfl) (argsL := [(.ref ob_125)]) (rest := [(.ref ob_37)]) rfl (lenOf own_pd5 rfl) rfl (by show 2 * 0 + _ ≤ _; exact Nat.le_of_eq rfl) (hb hby at_42)
    refine oS s372 ?_
    obtain ⟨ob_373, kk_374, rfl, N375, K376, F377, F378, F379, F380, F381, F382, F383⟩ := q371
    have N384 := Fr.app N133 N375
    have z385 := K376.1
    show own_G p e below (T365.setTop (mkF m 45 #[iv in_1, iv 0, rv ob_4, .unset, .unset] [(.ref ob_37)])) _
    refine oS (fun _ => XS.astoreN X369.here hx rfl (hb hby at_45) rfl rfl (l' := #[iv in_1, iv 0, rv ob_4, rv ob_37, .unset]) rfl) ?_
    refine oS (fun _ => XS.aloadN X369.here hx rfl (hb hby at_46) rfl rfl) ?_
    have O540 : Old Z n0 h366 := O363.keep K376 (allS N307 all0)
    have Z541 : n0 ≤ h366.size := by omega
    obtain ⟨T542, h543, v544, L545, X546, e547, q548, s549⟩ := own_callS X369 hx hZ hown e370 (y := (⟨"com/example/vestibule/vestibule/datacite/DoiState", "ofKey", "(Ljava/lang/String;)Lcom/example/vestibule/vestibule/datacite/DoiState;"⟩ : MethodName)) (oW hw 38 rfl) (oW hw 39 rfl) (oW hw 2 rfl) (oW hw 40 rfl) (by decide) (W := 0) (own_rm8 l Z a0 hw [] ob_37 ob_5 kk_17 ob_4 ob_6 ob_7 ob_8 in_2 ob_9 ob_373 kk_10 kk_374 h366 n0 Z541 O540 I386 I394 I398 I437 I445 N307 F379 I140 I148 I474 F378 I489 F380 I504 F381) (by decide) (by decide) (by decide) (by decide) (g := (mkF m 47 #[iv in_1, iv 0, rv ob_4, rv ob_37, .unset] [(.ref ob_37)])) rfl (by rw [hml]; rfl) (argsL := [(.ref ob_37)]) (rest := []) rfl (lenOf own_pd9 rfl) rfl (by show 2 * 0 + _ ≤ _; exact Nat.le_of_eq rfl) (hb hby at_47)
    refine oS s549 ?_
    obtain ⟨rfl, N550, K551⟩ := q548
    have N552 := Fr.app N384 N550
    have z553 := K551.1
    show own_G p e below (T542.setTop (mkF m 50 #[iv in_1, iv 0, rv ob_4, rv ob_37, .unset] [(.ref ob_4)])) _
    refine oS (fun _ => XS.astore X546.here hx rfl (hb hby at_50) rfl rfl (l' := #[iv in_1, iv 0, rv ob_4, rv ob_37, rv ob_4]) rfl) ?_
    refine oS (fun _ => XS.aload X546.here hx rfl (hb hby at_52) rfl rfl) ?_
    refine oS (fun _ => XS.aloadN X546.here hx rfl (hb hby at_54) rfl rfl) ?_
    refine oS (fun _ => XT.acmpNo X546.here hx rfl (hb hby at_55) rfl rfl rfl (XT.aa_ne_f rfl)) ?_
    show own_G p e below (T542.setTop (mkF m 58 #[iv in_1, iv 0, rv ob_4, rv ob_37, rv ob_4] [])) _
    refine oS (fun _ => XS.aloadN X546.here hx rfl (hb hby at_58) rfl rfl) ?_
    refine oS (fun _ => XS.aloadN X546.here hx rfl (hb hby at_59) rfl rfl) ?_
    have O560 : Old Z n0 h543 := O540.keep K551 all0
    have Z561 : n0 ≤ h543.size := by omega
    have F571 : Exa Z h543 ob_4 "com/example/vestibule/vestibule/datacite/DoiState" := Exa.ext O560.2 I570
    obtain ⟨T562, h563, v564, L565, X566, e567, q568, s569⟩ := own_callV X546 hx hZ hown e547 (y := (⟨"com/example/vestibule/vestibule/datacite/DoiState", "key", "()Ljava/lang/String;"⟩ : MethodName)) (z := (⟨"com/example/vestibule/vestibule/datacite/DoiState", "key", "()Ljava/lang/String;"⟩ : MethodName)) (C := "com/example/vestibule/vestibule/datacite/DoiState") (b := ob_4) (oW hw 70 rfl) (oW hw 71 rfl) (notFace_of_selects (args := #[]) (mvT hZ (oW hw 73 rfl))) (oW hw 73 rfl) (oW hw 72 rfl) (oW hw 2 rfl) (oW hw 74 rfl) (by decide) F571 (W := 1) (own_rm12 l Z a0 hw [] ob_4 ob_8 h543 n0 Z561 O560 I437) (by decide) (by decide) (by decide) (by decide) (g := (mkF m 60 #[iv in_1, iv 0, rv ob_4, rv ob_37, rv ob_4] [(.ref ob_4), (.ref ob_37)])) rfl (by rw [hml]; rfl) (argsL := []) (rest := [(.ref ob_37)]) rfl (lenOf own_pd10 rfl) rfl (by show 2 * 0 + _ ≤ _; exact Nat.le_of_eq rfl) (hb hby at_60)
    refine oS s569 ?_
    obtain ⟨rfl, N572, K573⟩ := q568
    have N574 := Fr.app N552 N572
    have e575 := e567.trans K573
    show own_G p e below (T562.setTop (mkF m 63 #[iv in_1, iv 0, rv ob_4, rv ob_37, rv ob_4] [(.ref ob_8), (.ref ob_37)])) _
    have F576 : Exa Z h543 ob_37 "java/lang/String" := F379.keep K551
    have F599 : Fld Z h543 ob_37 "java/lang/String" "coder" "B" (.int 0) := F378.keep K551 nin0
    have F611 : Fld Z h543 ob_37 "java/lang/String" "value" "[B" (.ref ob_373) := F380.keep K551 nin0
    have F623 : Arv Z h543 ob_373 kk_374 .byte 5 [(.int 100), (.int 114), (.int 97), (.int 102), (.int 116)] (.int 0) := F381.keep K551 nin0
    have Z641 : n0 ≤ h543.size := by omega
    obtain ⟨T642, h643, v644, L645, X646, e647, q648, s649⟩ := own_callV X566 hx hZ hown e575 (y := (⟨"java/lang/String", "equals", "(Ljava/lang/Object;)Z"⟩ : MethodName)) (z := (⟨"java/lang/String", "equals", "(Ljava/lang/Object;)Z"⟩ : MethodName)) (C := "java/lang/String") (b := ob_37) (oW hw 75 rfl) (oW hw 61 rfl) (notFace_of_selects (args := #[]) (mvT hZ (oW hw 63 rfl))) (oW hw 63 rfl) (oW hw 62 rfl) (oW hw 6 rfl) (oW hw 64 rfl) (by decide) F576 (W := 0) (own_rm13 l Z a0 hw [] ob_37 ob_8 in_2 ob_373 ob_9 kk_374 kk_10 h543 n0 Z641 O560 N307 I445 I140 I148 F599 I474 F611 I489 F623 I504) (by decide) (by decide) (by decide) (by decide) (g := (mkF m 63 #[iv in_1, iv 0, rv ob_4, rv ob_37, rv ob_4] [(.ref ob_8), (.ref ob_37)])) rfl (by rw [hml]; rfl) (argsL := [(.ref ob_8)]) (rest := []) rfl (lenOf own_pd8 rfl) rfl (by show 2 * 0 + _ ≤ _; exact Nat.le_of_eq rfl) (hb hby at_63)
    refine oS s649 ?_
    obtain ⟨rfl, N650, K651⟩ := q648
    have N652 := Fr.app N574 N650
    have e653 := e647.trans K651
    show own_G p e below (T642.setTop (mkF m 66 #[iv in_1, iv 0, rv ob_4, rv ob_37, rv ob_4] [(.int 1)])) _
    refine oS (fun _ => XS.ifNo X646.here hx rfl (hb hby at_66) rfl (XT.i0_eq_f (by decide))) ?_
    show own_G p e below (T642.setTop (mkF m 69 #[iv in_1, iv 0, rv ob_4, rv ob_37, rv ob_4] [])) _
    refine oS (fun _ => XS.iconst X646.here hx rfl (hb hby at_69) ) ?_
    refine oS (fun _ => XS.goto X646.here hx rfl (pc0 := 70) (pc' := 74) rfl (hb hby at_70) (by decide) (by decide)) ?_
    show own_G p e below (T642.setTop (mkF m 74 #[iv in_1, iv 0, rv ob_4, rv ob_37, rv ob_4] [(.int 1)])) _
    have K654 : Keep h0 h543 [] := (((((Keep.refl h0 []).ext E31).trans K128 all0).trans K376 (allS (Or.inr (by omega)) all0)).trans K551 all0)
    exact own_retN X646 hx (t := .boolean) Bd.notSynchronized Bd.returns (by simp) (hb hby at_74) (by decide) e653 (by decide) (by decide) (⟨rfl, N652⟩)
  · skip
    refine own_cast (g' := (mkF m 6 #[iv in_1, .unset, .unset, .unset, .unset] [(.int 1)])) (by rw [q19]) ?_
    show own_G p e below (s₁.setTop (mkF m 6 #[iv in_1, .unset, .unset, .unset, .unset] [(.int 1)])) _
    refine oS (fun _ => XS.istoreN X0.here hx rfl (hb hby at_6) rfl (l' := #[iv in_1, iv 1, .unset, .unset, .unset]) rfl) ?_
    refine oS (fun _ => XS.iloadN X0.here hx rfl (hb hby at_7) rfl) ?_
    refine oS (fun _ => XS.ifYes X0.here hx rfl (pc0 := 8) (pc' := 18) rfl (hb hby at_8) rfl (XT.i0_ne_t (by decide)) (by decide) (by decide)) ?_
    show own_G p e below (s₁.setTop (mkF m 18 #[iv in_1, iv 1, .unset, .unset, .unset] [])) _
    refine oS (fun _ => XS.iloadN X0.here hx rfl (hb hby at_18) rfl) ?_
    refine oS (fun _ => XS.iconst X0.here hx rfl (hb hby at_19) ) ?_
    refine oS (fun _ => XS.icmpNo X0.here hx rfl (hb hby at_20) rfl (XT.ii_ne_f (by decide))) ?_
    show own_G p e below (s₁.setTop (mkF m 23 #[iv in_1, iv 1, .unset, .unset, .unset] [])) _
    have F656 : Sta Z h0 "com/example/vestibule/vestibule/datacite/DoiState" "REGISTERED" "Lcom/example/vestibule/vestibule/datacite/DoiState;" (.ref ob_6) := Sta.ext O0.2 I655
    obtain ⟨T657, X658, e659, s660⟩ := getS X0 hx hZ hown (host := "") (oW hw 77 rfl) Via.refl e0 F656 (g := (mkF m 23 #[iv in_1, iv 1, .unset, .unset, .unset] [])) rfl (hb hby at_23)
    refine oS s660 ?_
    show own_G p e below (T657.setTop (mkF m 26 #[iv in_1, iv 1, .unset, .unset, .unset] [(.ref ob_6)])) _
    refine oS (fun _ => XS.astoreN X658.here hx rfl (hb hby at_26) rfl rfl (l' := #[iv in_1, iv 1, rv ob_6, .unset, .unset]) rfl) ?_
    refine oS (fun _ => XS.goto X658.here hx rfl (pc0 := 27) (pc' := 34) rfl (hb hby at_27) (by decide) (by decide)) ?_
    show own_G p e below (T657.setTop (mkF m 34 #[iv in_1, iv 1, rv ob_6, .unset, .unset] [])) _
    obtain ⟨T661, h662, X663, e664, E665, A666, D667, U670, s668⟩ := newO X658 hx hZ hown (oW hw 4 rfl) (oW hw 5 rfl) (oW hw 6 rfl) e659 (g := (mkF m 34 #[iv in_1, iv 1, rv ob_6, .unset, .unset] [])) rfl (hb hby at_34) (by decide) (by decide)
    obtain ⟨ob_671, g672⟩ : ∃ z, z = h0.size := ⟨_, rfl⟩
    rw [← g672] at A666 D667 U670 s668
    have z673 := E665.1
    have y669 : @LT.lt Nat instLTNat ob_671 h662.size := A666.lt
    refine oS s668 ?_
    have F674 : Fld Z h662 ob_671 "java/lang/String" "coder" "B" (.int 0) := D667 (Or.inr (oW hw 35 rfl)) (ty := .byte) (by decide)
    have F675 : Fld Z h662 ob_671 "java/lang/String" "value" "[B" .null := D667 (Or.inr (oW hw 37 rfl)) (ty := (.array .byte)) (by decide)
    show own_G p e below (T661.setTop (mkF m 37 #[iv in_1, iv 1, rv ob_6, .unset, .unset] [(.ref ob_671)])) _
    refine oS (fun _ => XS.dup X663.here hx rfl (hb hby at_37) rfl rfl) ?_
    refine oS (fun _ => XS.iloadN X663.here hx rfl (hb hby at_38) rfl) ?_
    have O804 : Old Z n0 h662 := O0.ext E665
    have Z805 : n0 ≤ h662.size := by omega
    obtain ⟨T806, h807, v808, L809, X810, e811, q812, s813⟩ := own_callS X663 hx hZ hown e664 (y := (⟨"com/example/vestibule/vestibule/datacite/DoiStateOfKeyPinLaw", "keyChars", "(I)[C"⟩ : MethodName)) (oW hw 7 rfl) (oW hw 8 rfl) (oW hw 9 rfl) (oW hw 10 rfl) (by decide) (W := 2) (own_rm15 l Z a0 hw []  h662 n0 Z805 O804 ) (by decide) (by decide) (by decide) (by decide) (g := (mkF m 39 #[iv in_1, iv 1, rv ob_6, .unset, .unset] [(.int 1), (.ref ob_671), (.ref ob_671)])) rfl (by rw [hml]; rfl) (argsL := [(.int 1)]) (rest := [(.ref ob_671), (.ref ob_671)]) rfl (lenOf own_pd0 rfl) rfl (by show 2 * 0 + _ ≤ _; exact Nat.le_of_eq rfl) (hb hby at_39)
    refine oS s813 ?_
    obtain ⟨ob_814, kk_815, rfl, N816, K817, F818, F819, F820, F821⟩ := q812
    have N822 := Fr.app N0 N816
    have z823 := K817.1
    show own_G p e below (T806.setTop (mkF m 42 #[iv in_1, iv 1, rv ob_6, .unset, .unset] [(.ref ob_814), (.ref ob_671), (.ref ob_671)])) _
    have F1039 : Fld Z h807 ob_671 "java/lang/String" "coder" "B" (.int 0) := F674.keep K817 nin0
    have F1043 : Exa Z h807 ob_671 "java/lang/String" := A666.keep K817
    have N1054 : n0 ≤ ob_671 := by omega
    have F1059 : Fld Z h807 ob_671 "java/lang/String" "value" "[B" .null := F675.keep K817 nin0
    have y1076 : @LT.lt Nat instLTNat ob_671 h807.size := by omega
    have O1110 : Old Z n0 h807 := O804.keep K817 all0
    have Z1111 : n0 ≤ h807.size := by omega
    obtain ⟨T1112, h1113, v1114, L1115, X1116, e1117, q1118, s1119⟩ := own_callN X810 hx hZ hown e811 (y := (⟨"java/lang/String", "<init>", "([C)V"⟩ : MethodName)) (b := ob_671) rfl (oW hw 12 rfl) (oW hw 13 rfl) (oW hw 6 rfl) (oW hw 14 rfl) (by decide) (W := 1) (own_rm16 l Z a0 hw [] ob_671 ob_814 kk_815 in_2 h807 n0 Z1111 O1110 F819 I140 I148 F821 F1039 F1043 N1054 F1059 y1076) (by decide) (by decide) (by decide) (by decide) (g := (mkF m 42 #[iv in_1, iv 1, rv ob_6, .unset, .unset] [(.ref ob_814), (.ref ob_671), (.ref ob_671)])) rfl (by rw [hml]; rfl) (argsL := [(.ref ob_814)]) (rest := [(.ref ob_671)]) rfl (lenOf own_pd5 rfl) rfl (by show 2 * 0 + _ ≤ _; exact Nat.le_of_eq rfl) (hb hby at_42)
    refine oS s1119 ?_
    obtain ⟨ob_1120, kk_1121, rfl, N1122, K1123, F1124, F1125, F1126, F1127, F1128, F1129, F1130⟩ := q1118
    have N1131 := Fr.app N822 N1122
    have z1132 := K1123.1
    show own_G p e below (T1112.setTop (mkF m 45 #[iv in_1, iv 1, rv ob_6, .unset, .unset] [(.ref ob_671)])) _
    refine oS (fun _ => XS.astoreN X1116.here hx rfl (hb hby at_45) rfl rfl (l' := #[iv in_1, iv 1, rv ob_6, rv ob_671, .unset]) rfl) ?_
    refine oS (fun _ => XS.aloadN X1116.here hx rfl (hb hby at_46) rfl rfl) ?_
    have O1343 : Old Z n0 h1113 := O1110.keep K1123 (allS N1054 all0)
    have Z1344 : n0 ≤ h1113.size := by omega
    obtain ⟨T1345, h1346, v1347, L1348, X1349, e1350, q1351, s1352⟩ := own_callS X1116 hx hZ hown e1117 (y := (⟨"com/example/vestibule/vestibule/datacite/DoiState", "ofKey", "(Ljava/lang/String;)Lcom/example/vestibule/vestibule/datacite/DoiState;"⟩ : MethodName)) (oW hw 38 rfl) (oW hw 39 rfl) (oW hw 2 rfl) (oW hw 40 rfl) (by decide) (W := 0) (own_rm21 l Z a0 hw [] ob_671 ob_5 kk_17 ob_4 ob_6 ob_7 ob_8 in_2 ob_9 ob_1120 kk_10 kk_1121 ob_11 ob_12 kk_13 h1113 n0 Z1344 O1343 I386 I394 I398 I437 I445 N1054 F1126 I140 I148 I474 F1125 I489 F1127 I504 F1128 I1251 I1258 I1260 I1262 I1264) (by decide) (by decide) (by decide) (by decide) (g := (mkF m 47 #[iv in_1, iv 1, rv ob_6, rv ob_671, .unset] [(.ref ob_671)])) rfl (by rw [hml]; rfl) (argsL := [(.ref ob_671)]) (rest := []) rfl (lenOf own_pd9 rfl) rfl (by show 2 * 0 + _ ≤ _; exact Nat.le_of_eq rfl) (hb hby at_47)
    refine oS s1352 ?_
    obtain ⟨rfl, N1353, K1354⟩ := q1351
    have N1355 := Fr.app N1131 N1353
    have z1356 := K1354.1
    show own_G p e below (T1345.setTop (mkF m 50 #[iv in_1, iv 1, rv ob_6, rv ob_671, .unset] [(.ref ob_6)])) _
    refine oS (fun _ => XS.astore X1349.here hx rfl (hb hby at_50) rfl rfl (l' := #[iv in_1, iv 1, rv ob_6, rv ob_671, rv ob_6]) rfl) ?_
    refine oS (fun _ => XS.aload X1349.here hx rfl (hb hby at_52) rfl rfl) ?_
    refine oS (fun _ => XS.aloadN X1349.here hx rfl (hb hby at_54) rfl rfl) ?_
    refine oS (fun _ => XT.acmpNo X1349.here hx rfl (hb hby at_55) rfl rfl rfl (XT.aa_ne_f rfl)) ?_
    show own_G p e below (T1345.setTop (mkF m 58 #[iv in_1, iv 1, rv ob_6, rv ob_671, rv ob_6] [])) _
    refine oS (fun _ => XS.aloadN X1349.here hx rfl (hb hby at_58) rfl rfl) ?_
    refine oS (fun _ => XS.aloadN X1349.here hx rfl (hb hby at_59) rfl rfl) ?_
    have O1357 : Old Z n0 h1346 := O1343.keep K1354 all0
    have Z1358 : n0 ≤ h1346.size := by omega
    have F1368 : Exa Z h1346 ob_6 "com/example/vestibule/vestibule/datacite/DoiState" := Exa.ext O1357.2 I1367
    obtain ⟨T1359, h1360, v1361, L1362, X1363, e1364, q1365, s1366⟩ := own_callV X1349 hx hZ hown e1350 (y := (⟨"com/example/vestibule/vestibule/datacite/DoiState", "key", "()Ljava/lang/String;"⟩ : MethodName)) (z := (⟨"com/example/vestibule/vestibule/datacite/DoiState", "key", "()Ljava/lang/String;"⟩ : MethodName)) (C := "com/example/vestibule/vestibule/datacite/DoiState") (b := ob_6) (oW hw 70 rfl) (oW hw 71 rfl) (notFace_of_selects (args := #[]) (mvT hZ (oW hw 73 rfl))) (oW hw 73 rfl) (oW hw 72 rfl) (oW hw 2 rfl) (oW hw 74 rfl) (by decide) F1368 (W := 1) (own_rm12 l Z a0 hw [] ob_6 ob_11 h1346 n0 Z1358 O1357 I1251) (by decide) (by decide) (by decide) (by decide) (g := (mkF m 60 #[iv in_1, iv 1, rv ob_6, rv ob_671, rv ob_6] [(.ref ob_6), (.ref ob_671)])) rfl (by rw [hml]; rfl) (argsL := []) (rest := [(.ref ob_671)]) rfl (lenOf own_pd10 rfl) rfl (by show 2 * 0 + _ ≤ _; exact Nat.le_of_eq rfl) (hb hby at_60)
    refine oS s1366 ?_
    obtain ⟨rfl, N1369, K1370⟩ := q1365
    have N1371 := Fr.app N1355 N1369
    have e1372 := e1364.trans K1370
    show own_G p e below (T1359.setTop (mkF m 63 #[iv in_1, iv 1, rv ob_6, rv ob_671, rv ob_6] [(.ref ob_11), (.ref ob_671)])) _
    have F1373 : Exa Z h1346 ob_671 "java/lang/String" := F1126.keep K1354
    have F1374 : Fld Z h1346 ob_671 "java/lang/String" "coder" "B" (.int 0) := F1125.keep K1354 nin0
    have F1375 : Fld Z h1346 ob_671 "java/lang/String" "value" "[B" (.ref ob_1120) := F1127.keep K1354 nin0
    have F1376 : Arv Z h1346 ob_1120 kk_1121 .byte 10 [(.int 114), (.int 101), (.int 103), (.int 105), (.int 115), (.int 116), (.int 101), (.int 114), (.int 101), (.int 100)] (.int 0) := F1128.keep K1354 nin0
    have Z1438 : n0 ≤ h1346.size := by omega
    obtain ⟨T1439, h1440, v1441, L1442, X1443, e1444, q1445, s1446⟩ := own_callV X1363 hx hZ hown e1372 (y := (⟨"java/lang/String", "equals", "(Ljava/lang/Object;)Z"⟩ : MethodName)) (z := (⟨"java/lang/String", "equals", "(Ljava/lang/Object;)Z"⟩ : MethodName)) (C := "java/lang/String") (b := ob_671) (oW hw 75 rfl) (oW hw 61 rfl) (notFace_of_selects (args := #[]) (mvT hZ (oW hw 63 rfl))) (oW hw 63 rfl) (oW hw 62 rfl) (oW hw 6 rfl) (oW hw 64 rfl) (by decide) F1373 (W := 0) (own_rm26 l Z a0 hw [] ob_671 ob_11 in_2 ob_1120 ob_12 kk_1121 kk_13 h1346 n0 Z1438 O1357 N1054 I1258 I140 I148 F1374 I1260 F1375 I1262 F1376 I1264) (by decide) (by decide) (by decide) (by decide) (g := (mkF m 63 #[iv in_1, iv 1, rv ob_6, rv ob_671, rv ob_6] [(.ref ob_11), (.ref ob_671)])) rfl (by rw [hml]; rfl) (argsL := [(.ref ob_11)]) (rest := []) rfl (lenOf own_pd8 rfl) rfl (by show 2 * 0 + _ ≤ _; exact Nat.le_of_eq rfl) (hb hby at_63)
    refine oS s1446 ?_
    obtain ⟨rfl, N1447, K1448⟩ := q1445
    have N1449 := Fr.app N1371 N1447
    have e1450 := e1444.trans K1448
    show own_G p e below (T1439.setTop (mkF m 66 #[iv in_1, iv 1, rv ob_6, rv ob_671, rv ob_6] [(.int 1)])) _
    refine oS (fun _ => XS.ifNo X1443.here hx rfl (hb hby at_66) rfl (XT.i0_eq_f (by decide))) ?_
    show own_G p e below (T1439.setTop (mkF m 69 #[iv in_1, iv 1, rv ob_6, rv ob_671, rv ob_6] [])) _
    refine oS (fun _ => XS.iconst X1443.here hx rfl (hb hby at_69) ) ?_
    refine oS (fun _ => XS.goto X1443.here hx rfl (pc0 := 70) (pc' := 74) rfl (hb hby at_70) (by decide) (by decide)) ?_
    show own_G p e below (T1439.setTop (mkF m 74 #[iv in_1, iv 1, rv ob_6, rv ob_671, rv ob_6] [(.int 1)])) _
    have K1451 : Keep h0 h1346 [] := (((((Keep.refl h0 []).ext E665).trans K817 all0).trans K1123 (allS (Or.inr (by omega)) all0)).trans K1354 all0)
    exact own_retN X1443 hx (t := .boolean) Bd.notSynchronized Bd.returns (by simp) (hb hby at_74) (by decide) e1450 (by decide) (by decide) (⟨rfl, N1449⟩)
  · skip
    refine own_cast (g' := (mkF m 6 #[iv in_1, .unset, .unset, .unset, .unset] [(.int 2)])) (by rw [q20]) ?_
    show own_G p e below (s₁.setTop (mkF m 6 #[iv in_1, .unset, .unset, .unset, .unset] [(.int 2)])) _
    refine oS (fun _ => XS.istoreN X0.here hx rfl (hb hby at_6) rfl (l' := #[iv in_1, iv 2, .unset, .unset, .unset]) rfl) ?_
    refine oS (fun _ => XS.iloadN X0.here hx rfl (hb hby at_7) rfl) ?_
    refine oS (fun _ => XS.ifYes X0.here hx rfl (pc0 := 8) (pc' := 18) rfl (hb hby at_8) rfl (XT.i0_ne_t (by decide)) (by decide) (by decide)) ?_
    show own_G p e below (s₁.setTop (mkF m 18 #[iv in_1, iv 2, .unset, .unset, .unset] [])) _
    refine oS (fun _ => XS.iloadN X0.here hx rfl (hb hby at_18) rfl) ?_
    refine oS (fun _ => XS.iconst X0.here hx rfl (hb hby at_19) ) ?_
    refine oS (fun _ => XS.icmpYes X0.here hx rfl (pc0 := 20) (pc' := 30) rfl (hb hby at_20) rfl (XT.ii_ne_t (by decide)) (by decide) (by decide)) ?_
    show own_G p e below (s₁.setTop (mkF m 30 #[iv in_1, iv 2, .unset, .unset, .unset] [])) _
    have F1453 : Sta Z h0 "com/example/vestibule/vestibule/datacite/DoiState" "FINDABLE" "Lcom/example/vestibule/vestibule/datacite/DoiState;" (.ref ob_7) := Sta.ext O0.2 I1452
    obtain ⟨T1454, X1455, e1456, s1457⟩ := getS X0 hx hZ hown (host := "") (oW hw 76 rfl) Via.refl e0 F1453 (g := (mkF m 30 #[iv in_1, iv 2, .unset, .unset, .unset] [])) rfl (hb hby at_30)
    refine oS s1457 ?_
    show own_G p e below (T1454.setTop (mkF m 33 #[iv in_1, iv 2, .unset, .unset, .unset] [(.ref ob_7)])) _
    refine oS (fun _ => XS.astoreN X1455.here hx rfl (hb hby at_33) rfl rfl (l' := #[iv in_1, iv 2, rv ob_7, .unset, .unset]) rfl) ?_
    obtain ⟨T1458, h1459, X1460, e1461, E1462, A1463, D1464, U1467, s1465⟩ := newO X1455 hx hZ hown (oW hw 4 rfl) (oW hw 5 rfl) (oW hw 6 rfl) e1456 (g := (mkF m 34 #[iv in_1, iv 2, rv ob_7, .unset, .unset] [])) rfl (hb hby at_34) (by decide) (by decide)
    obtain ⟨ob_1468, g1469⟩ : ∃ z, z = h0.size := ⟨_, rfl⟩
    rw [← g1469] at A1463 D1464 U1467 s1465
    have z1470 := E1462.1
    have y1466 : @LT.lt Nat instLTNat ob_1468 h1459.size := A1463.lt
    refine oS s1465 ?_
    have F1471 : Fld Z h1459 ob_1468 "java/lang/String" "coder" "B" (.int 0) := D1464 (Or.inr (oW hw 35 rfl)) (ty := .byte) (by decide)
    have F1472 : Fld Z h1459 ob_1468 "java/lang/String" "value" "[B" .null := D1464 (Or.inr (oW hw 37 rfl)) (ty := (.array .byte)) (by decide)
    show own_G p e below (T1458.setTop (mkF m 37 #[iv in_1, iv 2, rv ob_7, .unset, .unset] [(.ref ob_1468)])) _
    refine oS (fun _ => XS.dup X1460.here hx rfl (hb hby at_37) rfl rfl) ?_
    refine oS (fun _ => XS.iloadN X1460.here hx rfl (hb hby at_38) rfl) ?_
    have O1579 : Old Z n0 h1459 := O0.ext E1462
    have Z1580 : n0 ≤ h1459.size := by omega
    obtain ⟨T1581, h1582, v1583, L1584, X1585, e1586, q1587, s1588⟩ := own_callS X1460 hx hZ hown e1461 (y := (⟨"com/example/vestibule/vestibule/datacite/DoiStateOfKeyPinLaw", "keyChars", "(I)[C"⟩ : MethodName)) (oW hw 7 rfl) (oW hw 8 rfl) (oW hw 9 rfl) (oW hw 10 rfl) (by decide) (W := 2) (own_rm28 l Z a0 hw []  h1459 n0 Z1580 O1579 ) (by decide) (by decide) (by decide) (by decide) (g := (mkF m 39 #[iv in_1, iv 2, rv ob_7, .unset, .unset] [(.int 2), (.ref ob_1468), (.ref ob_1468)])) rfl (by rw [hml]; rfl) (argsL := [(.int 2)]) (rest := [(.ref ob_1468), (.ref ob_1468)]) rfl (lenOf own_pd0 rfl) rfl (by show 2 * 0 + _ ≤ _; exact Nat.le_of_eq rfl) (hb hby at_39)
    refine oS s1588 ?_
    obtain ⟨ob_1589, kk_1590, rfl, N1591, K1592, F1593, F1594, F1595, F1596⟩ := q1587
    have N1597 := Fr.app N0 N1591
    have z1598 := K1592.1
    show own_G p e below (T1581.setTop (mkF m 42 #[iv in_1, iv 2, rv ob_7, .unset, .unset] [(.ref ob_1589), (.ref ob_1468), (.ref ob_1468)])) _
    have F1790 : Fld Z h1582 ob_1468 "java/lang/String" "coder" "B" (.int 0) := F1471.keep K1592 nin0
    have F1794 : Exa Z h1582 ob_1468 "java/lang/String" := A1463.keep K1592
    have N1805 : n0 ≤ ob_1468 := by omega
    have F1810 : Fld Z h1582 ob_1468 "java/lang/String" "value" "[B" .null := F1472.keep K1592 nin0
    have y1827 : @LT.lt Nat instLTNat ob_1468 h1582.size := by omega
    have O1861 : Old Z n0 h1582 := O1579.keep K1592 all0
    have Z1862 : n0 ≤ h1582.size := by omega
    obtain ⟨T1863, h1864, v1865, L1866, X1867, e1868, q1869, s1870⟩ := own_callN X1585 hx hZ hown e1586 (y := (⟨"java/lang/String", "<init>", "([C)V"⟩ : MethodName)) (b := ob_1468) rfl (oW hw 12 rfl) (oW hw 13 rfl) (oW hw 6 rfl) (oW hw 14 rfl) (by decide) (W := 1) (own_rm29 l Z a0 hw [] ob_1468 ob_1589 kk_1590 in_2 h1582 n0 Z1862 O1861 F1594 I140 I148 F1596 F1790 F1794 N1805 F1810 y1827) (by decide) (by decide) (by decide) (by decide) (g := (mkF m 42 #[iv in_1, iv 2, rv ob_7, .unset, .unset] [(.ref ob_1589), (.ref ob_1468), (.ref ob_1468)])) rfl (by rw [hml]; rfl) (argsL := [(.ref ob_1589)]) (rest := [(.ref ob_1468)]) rfl (lenOf own_pd5 rfl) rfl (by show 2 * 0 + _ ≤ _; exact Nat.le_of_eq rfl) (hb hby at_42)
    refine oS s1870 ?_
    obtain ⟨ob_1871, kk_1872, rfl, N1873, K1874, F1875, F1876, F1877, F1878, F1879, F1880, F1881⟩ := q1869
    have N1882 := Fr.app N1597 N1873
    have z1883 := K1874.1
    show own_G p e below (T1863.setTop (mkF m 45 #[iv in_1, iv 2, rv ob_7, .unset, .unset] [(.ref ob_1468)])) _
    refine oS (fun _ => XS.astoreN X1867.here hx rfl (hb hby at_45) rfl rfl (l' := #[iv in_1, iv 2, rv ob_7, rv ob_1468, .unset]) rfl) ?_
    refine oS (fun _ => XS.aloadN X1867.here hx rfl (hb hby at_46) rfl rfl) ?_
    have O2180 : Old Z n0 h1864 := O1861.keep K1874 (allS N1805 all0)
    have Z2181 : n0 ≤ h1864.size := by omega
    obtain ⟨T2182, h2183, v2184, L2185, X2186, e2187, q2188, s2189⟩ := own_callS X1867 hx hZ hown e1868 (y := (⟨"com/example/vestibule/vestibule/datacite/DoiState", "ofKey", "(Ljava/lang/String;)Lcom/example/vestibule/vestibule/datacite/DoiState;"⟩ : MethodName)) (oW hw 38 rfl) (oW hw 39 rfl) (oW hw 2 rfl) (oW hw 40 rfl) (by decide) (W := 0) (own_rm34 l Z a0 hw [] ob_1468 ob_5 kk_17 ob_4 ob_6 ob_7 ob_8 in_2 ob_9 ob_1871 kk_10 kk_1872 ob_11 ob_12 kk_13 ob_14 ob_15 kk_16 h1864 n0 Z2181 O2180 I386 I394 I398 I437 I445 N1805 F1877 I140 I148 I474 F1876 I489 F1878 I504 F1879 I1251 I1258 I1260 I1262 I1264 I2088 I2095 I2097 I2099 I2101) (by decide) (by decide) (by decide) (by decide) (g := (mkF m 47 #[iv in_1, iv 2, rv ob_7, rv ob_1468, .unset] [(.ref ob_1468)])) rfl (by rw [hml]; rfl) (argsL := [(.ref ob_1468)]) (rest := []) rfl (lenOf own_pd9 rfl) rfl (by show 2 * 0 + _ ≤ _; exact Nat.le_of_eq rfl) (hb hby at_47)
    refine oS s2189 ?_
    obtain ⟨rfl, N2190, K2191⟩ := q2188
    have N2192 := Fr.app N1882 N2190
    have z2193 := K2191.1
    show own_G p e below (T2182.setTop (mkF m 50 #[iv in_1, iv 2, rv ob_7, rv ob_1468, .unset] [(.ref ob_7)])) _
    refine oS (fun _ => XS.astore X2186.here hx rfl (hb hby at_50) rfl rfl (l' := #[iv in_1, iv 2, rv ob_7, rv ob_1468, rv ob_7]) rfl) ?_
    refine oS (fun _ => XS.aload X2186.here hx rfl (hb hby at_52) rfl rfl) ?_
    refine oS (fun _ => XS.aloadN X2186.here hx rfl (hb hby at_54) rfl rfl) ?_
    refine oS (fun _ => XT.acmpNo X2186.here hx rfl (hb hby at_55) rfl rfl rfl (XT.aa_ne_f rfl)) ?_
    show own_G p e below (T2182.setTop (mkF m 58 #[iv in_1, iv 2, rv ob_7, rv ob_1468, rv ob_7] [])) _
    refine oS (fun _ => XS.aloadN X2186.here hx rfl (hb hby at_58) rfl rfl) ?_
    refine oS (fun _ => XS.aloadN X2186.here hx rfl (hb hby at_59) rfl rfl) ?_
    have O2194 : Old Z n0 h2183 := O2180.keep K2191 all0
    have Z2195 : n0 ≤ h2183.size := by omega
    have F2205 : Exa Z h2183 ob_7 "com/example/vestibule/vestibule/datacite/DoiState" := Exa.ext O2194.2 I2204
    obtain ⟨T2196, h2197, v2198, L2199, X2200, e2201, q2202, s2203⟩ := own_callV X2186 hx hZ hown e2187 (y := (⟨"com/example/vestibule/vestibule/datacite/DoiState", "key", "()Ljava/lang/String;"⟩ : MethodName)) (z := (⟨"com/example/vestibule/vestibule/datacite/DoiState", "key", "()Ljava/lang/String;"⟩ : MethodName)) (C := "com/example/vestibule/vestibule/datacite/DoiState") (b := ob_7) (oW hw 70 rfl) (oW hw 71 rfl) (notFace_of_selects (args := #[]) (mvT hZ (oW hw 73 rfl))) (oW hw 73 rfl) (oW hw 72 rfl) (oW hw 2 rfl) (oW hw 74 rfl) (by decide) F2205 (W := 1) (own_rm12 l Z a0 hw [] ob_7 ob_14 h2183 n0 Z2195 O2194 I2088) (by decide) (by decide) (by decide) (by decide) (g := (mkF m 60 #[iv in_1, iv 2, rv ob_7, rv ob_1468, rv ob_7] [(.ref ob_7), (.ref ob_1468)])) rfl (by rw [hml]; rfl) (argsL := []) (rest := [(.ref ob_1468)]) rfl (lenOf own_pd10 rfl) rfl (by show 2 * 0 + _ ≤ _; exact Nat.le_of_eq rfl) (hb hby at_60)
    refine oS s2203 ?_
    obtain ⟨rfl, N2206, K2207⟩ := q2202
    have N2208 := Fr.app N2192 N2206
    have e2209 := e2201.trans K2207
    show own_G p e below (T2196.setTop (mkF m 63 #[iv in_1, iv 2, rv ob_7, rv ob_1468, rv ob_7] [(.ref ob_14), (.ref ob_1468)])) _
    have F2210 : Exa Z h2183 ob_1468 "java/lang/String" := F1877.keep K2191
    have F2211 : Fld Z h2183 ob_1468 "java/lang/String" "coder" "B" (.int 0) := F1876.keep K2191 nin0
    have F2212 : Fld Z h2183 ob_1468 "java/lang/String" "value" "[B" (.ref ob_1871) := F1878.keep K2191 nin0
    have F2213 : Arv Z h2183 ob_1871 kk_1872 .byte 8 [(.int 102), (.int 105), (.int 110), (.int 100), (.int 97), (.int 98), (.int 108), (.int 101)] (.int 0) := F1879.keep K2191 nin0
    have Z2275 : n0 ≤ h2183.size := by omega
    obtain ⟨T2276, h2277, v2278, L2279, X2280, e2281, q2282, s2283⟩ := own_callV X2200 hx hZ hown e2209 (y := (⟨"java/lang/String", "equals", "(Ljava/lang/Object;)Z"⟩ : MethodName)) (z := (⟨"java/lang/String", "equals", "(Ljava/lang/Object;)Z"⟩ : MethodName)) (C := "java/lang/String") (b := ob_1468) (oW hw 75 rfl) (oW hw 61 rfl) (notFace_of_selects (args := #[]) (mvT hZ (oW hw 63 rfl))) (oW hw 63 rfl) (oW hw 62 rfl) (oW hw 6 rfl) (oW hw 64 rfl) (by decide) F2210 (W := 0) (own_rm41 l Z a0 hw [] ob_1468 ob_14 in_2 ob_1871 ob_15 kk_1872 kk_16 h2183 n0 Z2275 O2194 N1805 I2095 I140 I148 F2211 I2097 F2212 I2099 F2213 I2101) (by decide) (by decide) (by decide) (by decide) (g := (mkF m 63 #[iv in_1, iv 2, rv ob_7, rv ob_1468, rv ob_7] [(.ref ob_14), (.ref ob_1468)])) rfl (by rw [hml]; rfl) (argsL := [(.ref ob_14)]) (rest := []) rfl (lenOf own_pd8 rfl) rfl (by show 2 * 0 + _ ≤ _; exact Nat.le_of_eq rfl) (hb hby at_63)
    refine oS s2283 ?_
    obtain ⟨rfl, N2284, K2285⟩ := q2282
    have N2286 := Fr.app N2208 N2284
    have e2287 := e2281.trans K2285
    show own_G p e below (T2276.setTop (mkF m 66 #[iv in_1, iv 2, rv ob_7, rv ob_1468, rv ob_7] [(.int 1)])) _
    refine oS (fun _ => XS.ifNo X2280.here hx rfl (hb hby at_66) rfl (XT.i0_eq_f (by decide))) ?_
    show own_G p e below (T2276.setTop (mkF m 69 #[iv in_1, iv 2, rv ob_7, rv ob_1468, rv ob_7] [])) _
    refine oS (fun _ => XS.iconst X2280.here hx rfl (hb hby at_69) ) ?_
    refine oS (fun _ => XS.goto X2280.here hx rfl (pc0 := 70) (pc' := 74) rfl (hb hby at_70) (by decide) (by decide)) ?_
    show own_G p e below (T2276.setTop (mkF m 74 #[iv in_1, iv 2, rv ob_7, rv ob_1468, rv ob_7] [(.int 1)])) _
    have K2288 : Keep h0 h2183 [] := (((((Keep.refl h0 []).ext E1462).trans K1592 all0).trans K1874 (allS (Or.inr (by omega)) all0)).trans K2191 all0)
    exact own_retN X2280 hx (t := .boolean) Bd.notSynchronized Bd.returns (by simp) (hb hby at_74) (by decide) e2287 (by decide) (by decide) (⟨rfl, N2286⟩)
set_option maxRecDepth 65536 in
set_option maxHeartbeats 40000000 in
theorem comes_1 {Post : Tables → Env → Array Value → State → Outcome → State → Prop} (hpost : ∀ tb e args s v u, (limb_1_1.after args s (.returned v) u = true ∧ limb_1_2.after args s (.returned v) u = true ∧ True) → FrameEnd s (.returned v) u (Jvm.fieldLocs frame_1_writes args s ++ Jvm.arrayLocs frame_1_arrays args s ++ Jvm.staticLocs frame_1_statics s) 16 128 → Post tb e args s (.returned v) u) :
    ArmFor flags0 classFile x code maxLocals ret World_1 tables_1 room_1 Calls_1 rest_1 Pre_1 Post := by
  intro l hfl _ _ p e ha hc hk s m args below hf hA hF happ hP
  obtain ⟨hcalls, hrest, hpre⟩ := hP
  obtain ⟨-, -, -, hnamed, -, -, -, hat⟩ := (Spec.applies_iff hf).mp happ
  obtain ⟨hg, hn⟩ := and_e (Cond.before_iff.mp (show (Jvm.Cond.and given_1 narrow_1).before args s = true from hpre))
  obtain ⟨g0, gg0⟩ := and_e hg
  obtain ⟨w0, rfl⟩ : ∃ w0 : Value, args = #[w0] := by
    have hs : args.size = 1 := by simpa [Cond.value, given_1] using g0
    obtain ⟨L⟩ := args
    match L, hs with
    | [w0], _ => exact ⟨w0, rfl⟩
  have hw := fun d (hd : d ∈ tables_1) => atoms_spec (ws := Jvm.Cond.code x code maxLocals ret :: tables_1) hat d (List.mem_cons_of_mem _ hd)
  obtain ⟨hsets, hown0⟩ := atoms_of _ (rest_1_c_eq ▸ (show rest_1_c.before _ s = true from hrest))
  have hfit : Fit s := fun {y c} hc i hi => by
    obtain ⟨ha, rfl⟩ := Array.getElem?_eq_some_iff.mp hc
    have q := List.all_eq_true.mp ((Array.all_eq_true_iff_forall_mem.mp hF) _ (Array.getElem_mem ha)) i (List.mem_range.mpr hi)
    simpa [Array.getElem?_eq_getElem hi] using q
  obtain ⟨in_1, ea0⟩ := is_v gg0
  obtain rfl : w0 = (.int in_1) := Option.some.inj ea0
  obtain ⟨c0, r0⟩ := and_e hn
  obtain ⟨c1, r1⟩ := and_e r0
  obtain ⟨c2, r2⟩ := and_e r1
  obtain ⟨c3, r3⟩ := and_e r2
  obtain ⟨c4, r4⟩ := and_e r3
  obtain ⟨c5, r5⟩ := and_e r4
  obtain ⟨c6, r6⟩ := and_e r5
  obtain ⟨c7, r7⟩ := and_e r6
  obtain ⟨c8, r8⟩ := and_e r7
  obtain ⟨c9, r9⟩ := and_e r8
  obtain ⟨c10, r10⟩ := and_e r9
  obtain ⟨c11, r11⟩ := and_e r10
  obtain ⟨c12, r12⟩ := and_e r11
  obtain ⟨c13, r13⟩ := and_e r12
  obtain ⟨c14, r14⟩ := and_e r13
  obtain ⟨c15, r15⟩ := and_e r14
  obtain ⟨c16, r16⟩ := and_e r15
  obtain ⟨c17, r17⟩ := and_e r16
  obtain ⟨c18, r18⟩ := and_e r17
  obtain ⟨c19, r19⟩ := and_e r18
  obtain ⟨c20, r20⟩ := and_e r19
  obtain ⟨c21, r21⟩ := and_e r20
  obtain ⟨c22, r22⟩ := and_e r21
  obtain ⟨c23, r23⟩ := and_e r22
  obtain ⟨c24, r24⟩ := and_e r23
  obtain ⟨c25, r25⟩ := and_e r24
  obtain ⟨c26, r26⟩ := and_e r25
  obtain ⟨c27, r27⟩ := and_e r26
  obtain ⟨c28, r28⟩ := and_e r27
  obtain ⟨c29, r29⟩ := and_e r28
  obtain ⟨c30, r30⟩ := and_e r29
  obtain ⟨c31, r31⟩ := and_e r30
  obtain ⟨c32, r32⟩ := and_e r31
  obtain ⟨c33, r33⟩ := and_e r32
  obtain ⟨c34, r34⟩ := and_e r33
  obtain ⟨c35, r35⟩ := and_e r34
  obtain ⟨c36, r36⟩ := and_e r35
  obtain ⟨c37, r37⟩ := and_e r36
  obtain ⟨c38, r38⟩ := and_e r37
  obtain ⟨c39, r39⟩ := and_e r38
  obtain ⟨c40, r40⟩ := and_e r39
  obtain ⟨c41, r41⟩ := and_e r40
  obtain ⟨c42, c43⟩ := and_e r41
  obtain ⟨in_2, ev_in_2⟩ := is_v (Cond.before_iff.mp (hsets _ (List.mem_of_getElem? (i := 1) rfl)))
  obtain ⟨va_3, ev_va_3, rf_va_3⟩ := isR_v (Cond.before_iff.mp (hsets _ (List.mem_of_getElem? (i := 8) rfl)))
  obtain ⟨ob_4, ev_ob_4⟩ := exa_v c0
  obtain ⟨ob_5, ev_ob_5⟩ := arr_v c1
  obtain ⟨ob_6, ev_ob_6⟩ := exa_v c5
  obtain ⟨ob_7, ev_ob_7⟩ := exa_v c7
  obtain ⟨ob_8, ev_ob_8⟩ := exa_v c9
  obtain ⟨ob_9, ev_ob_9⟩ := arr_v c11
  obtain ⟨kk_10, ar_ob_9⟩ := own_arr (vs := [(.int 100), (.int 114), (.int 97), (.int 102), (.int 116)]) (dv := (.int 0)) hfit ev_ob_9 c11 c12 (by decide) rfl (fun cl hc ha hz => ⟨own_elem (j := 0) ev_ob_9 (Term.int_eval 100) c21 hc, own_elem (j := 1) ev_ob_9 (Term.int_eval 114) c22 hc, own_elem (j := 2) ev_ob_9 (Term.int_eval 97) c23 hc, own_elem (j := 3) ev_ob_9 (Term.int_eval 102) c24 hc, own_elem (j := 4) ev_ob_9 (Term.int_eval 116) c25 hc, trivial⟩)
  obtain ⟨ob_11, ev_ob_11⟩ := exa_v c13
  obtain ⟨ob_12, ev_ob_12⟩ := arr_v c15
  obtain ⟨kk_13, ar_ob_12⟩ := own_arr (vs := [(.int 114), (.int 101), (.int 103), (.int 105), (.int 115), (.int 116), (.int 101), (.int 114), (.int 101), (.int 100)]) (dv := (.int 0)) hfit ev_ob_12 c15 c16 (by decide) rfl (fun cl hc ha hz => ⟨own_elem (j := 0) ev_ob_12 (Term.int_eval 114) c26 hc, own_elem (j := 1) ev_ob_12 (Term.int_eval 101) c27 hc, own_elem (j := 2) ev_ob_12 (Term.int_eval 103) c28 hc, own_elem (j := 3) ev_ob_12 (Term.int_eval 105) c29 hc, own_elem (j := 4) ev_ob_12 (Term.int_eval 115) c30 hc, own_elem (j := 5) ev_ob_12 (Term.int_eval 116) c31 hc, own_elem (j := 6) ev_ob_12 (Term.int_eval 101) c32 hc, own_elem (j := 7) ev_ob_12 (Term.int_eval 114) c33 hc, own_elem (j := 8) ev_ob_12 (Term.int_eval 101) c34 hc, own_elem (j := 9) ev_ob_12 (Term.int_eval 100) c35 hc, trivial⟩)
  obtain ⟨ob_14, ev_ob_14⟩ := exa_v c17
  obtain ⟨ob_15, ev_ob_15⟩ := arr_v c19
  obtain ⟨kk_16, ar_ob_15⟩ := own_arr (vs := [(.int 102), (.int 105), (.int 110), (.int 100), (.int 97), (.int 98), (.int 108), (.int 101)]) (dv := (.int 0)) hfit ev_ob_15 c19 c20 (by decide) rfl (fun cl hc ha hz => ⟨own_elem (j := 0) ev_ob_15 (Term.int_eval 102) c36 hc, own_elem (j := 1) ev_ob_15 (Term.int_eval 105) c37 hc, own_elem (j := 2) ev_ob_15 (Term.int_eval 110) c38 hc, own_elem (j := 3) ev_ob_15 (Term.int_eval 100) c39 hc, own_elem (j := 4) ev_ob_15 (Term.int_eval 97) c40 hc, own_elem (j := 5) ev_ob_15 (Term.int_eval 98) c41 hc, own_elem (j := 6) ev_ob_15 (Term.int_eval 108) c42 hc, own_elem (j := 7) ev_ob_15 (Term.int_eval 101) c43 hc, trivial⟩)
  obtain ⟨kk_17, ar_ob_5⟩ := own_arr (vs := [(.ref ob_4), (.ref ob_6), (.ref ob_7)]) (dv := .null) hfit ev_ob_5 c1 c3 (by decide) rfl (fun cl hc ha hz => ⟨own_elem (j := 0) ev_ob_5 ev_ob_4 c4 hc, own_elem (j := 1) ev_ob_5 ev_ob_6 c6 hc, own_elem (j := 2) ev_ob_5 ev_ob_7 c8 hc, trivial⟩)
  obtain ⟨n, o, h1, h2, h3, _, L, rfl, ⟨rfl, N⟩, hq⟩ := own_rm1 l s _ hw tables_1 in_1 ob_4 in_2 ob_5 kk_17 ob_6 ob_7 ob_8 ob_9 kk_10 ob_11 ob_12 kk_13 ob_14 ob_15 kk_16 s.heap s.heap.size (Nat.le_refl _) (Old.start s) (Sta.start ev_ob_4 (Or.inr ⟨(oW hw 2 rfl), (oW hw 3 rfl)⟩)) (Sta.start ev_in_2 (Or.inl (hsets _ (List.mem_of_getElem? (i := 0) rfl)))) (gotF (Cond.eq_ints ev_in_2 (Term.int_eval 0)) (not_v (Cond.before_iff.mp (hsets _ (List.mem_of_getElem? (i := 2) rfl))))) (Sta.start ev_ob_5 (Or.inl (oW hw 55 rfl))) ar_ob_5 (Exa.start ev_ob_5 c2) (Fld.start ((fld_at ev_ob_4).symm.trans ev_ob_8)) (Exa.start ev_ob_8 c9) (own_fv ev_ob_8 (Term.int_eval 0) c10) (Fld.start ((fld_at ev_ob_8).symm.trans ev_ob_9)) ar_ob_9 (Exa.start ev_ob_4 c0) (Sta.start ev_ob_6 (Or.inr ⟨(oW hw 2 rfl), (oW hw 53 rfl)⟩)) (Fld.start ((fld_at ev_ob_6).symm.trans ev_ob_11)) (Exa.start ev_ob_11 c13) (own_fv ev_ob_11 (Term.int_eval 0) c14) (Fld.start ((fld_at ev_ob_11).symm.trans ev_ob_12)) ar_ob_12 (Exa.start ev_ob_6 c5) (Sta.start ev_ob_7 (Or.inr ⟨(oW hw 2 rfl), (oW hw 54 rfl)⟩)) (Fld.start ((fld_at ev_ob_7).symm.trans ev_ob_14)) (Exa.start ev_ob_14 c17) (own_fv ev_ob_14 (Term.int_eval 0) c18) (Fld.start ((fld_at ev_ob_14).symm.trans ev_ob_15)) ar_ob_15 (Exa.start ev_ob_7 c7) p e ha hc hk s m _ below hf ((Spec.applies_iff_loose hf).mp happ).1 ⟨rfl, State.Warmed39.refl s, rfl⟩ trivial
  refine ⟨n, _, h1, h2, h3, hpost _ _ _ _ _ _ ⟨Cond.after_iff.mpr rfl, Cond.after_iff.mpr (eq_i res_at (Term.int_eval (1)) rfl), trivial⟩ ⟨hq.1, hq.2.1, (hq.2.2.sift fun y hy => Or.inr (N y hy)).mono (by decide) (by decide)⟩⟩
theorem main_1_1 : Claimed_1_1 := comes_1 fun _ _ _ _ _ _ h hF => ⟨h.1, hF⟩
theorem main_1_2 : Claimed_1_2 := comes_1 fun _ _ _ _ _ _ h hF => ⟨h.2.1, hF⟩
end Jvm.Pilot.@@N@@
namespace Jvm.Pilot.@@N@@
open Jvm Jvm.ClassFile Sem Op Lib Jvm.Free Jvm.Stand Jvm.Pilot.@@N@@.Jvm.D
/-! MADE BY PROGRAM (witnessworld.py) out of the Statement's table words and the real class files: 22 classes; the members and pool entries that the words name. The judged class is class 1, her method 2. -/
namespace start1
open Jvm.ClassFile
def u (s : String) : CpInfo := .utf8 (stringToUtf16 s)
/-- a pool by its gaps: so many unusable entries, then the entry; so many at the end -/
def gap : Nat → List CpInfo → List CpInfo
  | 0, r => r
  | n + 1, r => .unusable :: gap n r
def poolList (es : List (Nat × CpInfo)) (last : Nat) : List CpInfo := es.foldr (fun e r => gap e.1 (e.2 :: r)) (gap last [])
def pool (es : List (Nat × CpInfo)) (last : Nat) : Array CpInfo := ⟨poolList es last⟩
def fileOf (pool : Array CpInfo) (this : Nat) (attrs : Array Attribute := #[]) (ms : Array MethodInfo := #[]) (fl : Nat := 33) (sup : Nat := 0) (ifs : Array Nat := #[]) (fds : Array FieldInfo := #[]) : ClassFile where
  minorVersion := 0
  majorVersion := 65
  constantPool := pool
  accessFlags := fl
  thisClass := this
  superClass := sup
  interfaces := ifs
  fields := fds
  methods := ms
  attributes := attrs
def plain (name : String) (sup : Option ClassId) : Class where
  name := name
  kind := .ordinary
  loader := none
  accessFlags := 33
  super := sup
  interfaces := #[]
  cf := none
  fields := #[]
  methods := #[]
  instanceTypes := #[]
  staticTypes := #[]
  resolved := #[]
  callSites := []
  init := .initialized
  statics := none
  mirror := none

def pool0 : Array CpInfo := pool [(5, u "<init>"), (0, u "()V"), (1, .class_ 10), (1, u "java/lang/Object"), (85, u "clone"), (0, u "()Ljava/lang/Object;")] 26

def k0c0 : Code := { maxStack := 0, maxLocals := 1, code := object_method_1_code, exceptionTable := #[], attributes := #[] }
def k0m0 : Method := { name := "<init>", desc := "()V", sig := { parameters := [], returnType := none }, accessFlags := 1, code := some k0c0 }
def k0m1 : Method := { name := "clone", desc := "()Ljava/lang/Object;", sig := { parameters := [], returnType := some (.object "java/lang/Object") }, accessFlags := 260, code := none }
/-- java/lang/Object -/
def k0 : Class := { plain "java/lang/Object" none with
  accessFlags := 33
  interfaces := #[]
  cf := some (fileOf pool0 8 #[] #[{ accessFlags := 1, nameIndex := 5, descriptorIndex := 6, attributes := #[] }, { accessFlags := 260, nameIndex := 96, descriptorIndex := 97, attributes := #[] }] 33 0 #[] #[])
  fields := #[]
  methods := #[k0m0, k0m1]
  instanceTypes := #[]
  staticTypes := #[]
  resolved := Array.replicate 124 none
  statics := none }

def pool1 : Array CpInfo := pool [(2, .class_ 4), (1, u "java/lang/Object"), (0, u "<init>"), (0, u "()V"), (0, .integer 2147483647), (0, .fieldref 9 10), (0, .class_ 11), (0, .nameAndType 12 13), (0, u "com/example/vestibule/vestibule/datacite/DoiState"), (0, u "DRAFT"), (0, u "Lcom/example/vestibule/vestibule/datacite/DoiState;"), (0, .fieldref 9 15), (0, .nameAndType 16 13), (0, u "REGISTERED"), (0, .fieldref 9 18), (0, .nameAndType 19 13), (0, u "FINDABLE"), (0, .class_ 21), (0, u "java/lang/String"), (0, .methodref 23 24), (0, .class_ 25), (0, .nameAndType 26 27), (0, u "com/example/vestibule/vestibule/datacite/DoiStateOfKeyPinLaw"), (0, u "keyChars"), (0, u "(I)[C"), (0, .methodref 20 29), (0, .nameAndType 5 30), (0, u "([C)V"), (0, .methodref 9 32), (0, .nameAndType 33 34), (0, u "ofKey"), (0, u "(Ljava/lang/String;)Lcom/example/vestibule/vestibule/datacite/DoiState;"), (0, .methodref 9 36), (0, .nameAndType 37 38), (0, u "key"), (0, u "()Ljava/lang/String;"), (0, .methodref 20 40), (0, .nameAndType 41 42), (0, u "equals"), (0, u "(Ljava/lang/Object;)Z"), (3, u "law"), (0, u "(I)Z")] 2

def k1m0 : Method := { name := "<init>", desc := "()V", sig := { parameters := [], returnType := none }, accessFlags := 1, code := none }
def k1c1 : Code := { maxStack := 4, maxLocals := 1, code := method_2_code, exceptionTable := #[], attributes := #[] }
def k1m1 : Method := { name := "keyChars", desc := "(I)[C", sig := { parameters := [.int], returnType := some (.array .char) }, accessFlags := 10, code := some k1c1 }
def k1c2 : Code := { maxStack := 3, maxLocals := 5, code := code, exceptionTable := #[], attributes := #[] }
def k1m2 : Method := { name := "law", desc := "(I)Z", sig := { parameters := [.int], returnType := some .boolean }, accessFlags := 9, code := some k1c2 }
/-- com/example/vestibule/vestibule/datacite/DoiStateOfKeyPinLaw -/
def k1 : Class := { plain "com/example/vestibule/vestibule/datacite/DoiStateOfKeyPinLaw" (some 0) with
  accessFlags := 49
  interfaces := #[]
  cf := some (fileOf pool1 23 #[] #[{ accessFlags := 1, nameIndex := 5, descriptorIndex := 6, attributes := #[] }, { accessFlags := 10, nameIndex := 26, descriptorIndex := 27, attributes := #[] }, { accessFlags := 9, nameIndex := 46, descriptorIndex := 47, attributes := #[] }] 49 2 #[] #[])
  fields := #[]
  methods := #[k1m0, k1m1, k1m2]
  instanceTypes := #[]
  staticTypes := #[]
  resolved := Array.replicate 50 none
  statics := none }

def pool2 : Array CpInfo := pool [(1, .class_ 2), (0, u "java/lang/constant/Constable"), (0, .class_ 4), (0, u "java/lang/Object")] 6

/-- java/lang/constant/Constable -/
def k2 : Class := { plain "java/lang/constant/Constable" (some 0) with
  accessFlags := 1537
  interfaces := #[]
  cf := some (fileOf pool2 1 #[] #[] 1537 3 #[] #[])
  fields := #[]
  methods := #[]
  instanceTypes := #[]
  staticTypes := #[]
  resolved := Array.replicate 11 none
  statics := none }

def pool3 : Array CpInfo := pool [(1, .class_ 2), (0, u "java/lang/Comparable"), (0, .class_ 4), (0, u "java/lang/Object")] 7

/-- java/lang/Comparable -/
def k3 : Class := { plain "java/lang/Comparable" (some 0) with
  accessFlags := 1537
  interfaces := #[]
  cf := some (fileOf pool3 1 #[] #[] 1537 3 #[] #[])
  fields := #[]
  methods := #[]
  instanceTypes := #[]
  staticTypes := #[]
  resolved := Array.replicate 12 none
  statics := none }

def pool4 : Array CpInfo := pool [(1, .class_ 2), (0, u "java/io/Serializable"), (0, .class_ 4), (0, u "java/lang/Object")] 2

/-- java/io/Serializable -/
def k4 : Class := { plain "java/io/Serializable" (some 0) with
  accessFlags := 1537
  interfaces := #[]
  cf := some (fileOf pool4 1 #[] #[] 1537 3 #[] #[])
  fields := #[]
  methods := #[]
  instanceTypes := #[]
  staticTypes := #[]
  resolved := Array.replicate 7 none
  statics := none }

def pool5 : Array CpInfo := pool [(2, .class_ 4), (1, u "java/lang/Enum"), (0, u "name"), (0, u "Ljava/lang/String;"), (2, u "ordinal"), (0, u "I"), (1, .class_ 14), (1, u "java/lang/Object"), (4, u "hash"), (86, .class_ 108), (1, u "java/lang/Enum$EnumDesc"), (2, .class_ 112), (0, u "java/lang/constant/Constable"), (0, .class_ 114), (0, u "java/lang/Comparable"), (0, .class_ 116), (0, u "java/io/Serializable")] 87

/-- java/lang/Enum -/
def k5 : Class := { plain "java/lang/Enum" (some 0) with
  accessFlags := 1057
  interfaces := #[2, 3, 4]
  cf := some (fileOf pool5 2 #[.nestMembers #[106]] #[] 1057 12 #[111, 113, 115] #[{ accessFlags := 18, nameIndex := 5, descriptorIndex := 6, attributes := #[] }, { accessFlags := 18, nameIndex := 9, descriptorIndex := 10, attributes := #[] }, { accessFlags := 2, nameIndex := 19, descriptorIndex := 10, attributes := #[] }])
  fields := #[{ name := "name", type := (.object "java/lang/String"), accessFlags := 18, slot := 0, constantValue := 0 }, { name := "ordinal", type := .int, accessFlags := 18, slot := 1, constantValue := 0 }, { name := "hash", type := .int, accessFlags := 2, slot := 2, constantValue := 0 }]
  methods := #[]
  instanceTypes := #[(.object "java/lang/String"), .int, .int]
  staticTypes := #[]
  resolved := Array.replicate 204 none
  statics := none }

def pool6 : Array CpInfo := pool [(1, .class_ 2), (0, u "com/example/vestibule/vestibule/datacite/DoiState"), (2, u "DRAFT"), (0, u "Lcom/example/vestibule/vestibule/datacite/DoiState;"), (2, u "REGISTERED"), (2, u "FINDABLE"), (0, .fieldref 1 14), (0, .nameAndType 15 16), (0, u "$VALUES"), (0, u "[Lcom/example/vestibule/vestibule/datacite/DoiState;"), (0, .methodref 18 19), (0, .class_ 16), (0, .nameAndType 20 21), (0, u "clone"), (0, u "()Ljava/lang/Object;"), (1, .class_ 25), (1, u "java/lang/Enum"), (6, .fieldref 1 33), (0, .nameAndType 34 35), (0, u "key"), (0, u "Ljava/lang/String;"), (0, .methodref 1 37), (0, .nameAndType 38 39), (0, u "values"), (0, u "()[Lcom/example/vestibule/vestibule/datacite/DoiState;"), (0, .methodref 41 42), (0, .class_ 43), (0, .nameAndType 44 45), (0, u "java/lang/String"), (0, u "equals"), (0, u "(Ljava/lang/Object;)Z"), (26, u "(Ljava/lang/String;)Lcom/example/vestibule/vestibule/datacite/DoiState;"), (2, u "()Ljava/lang/String;"), (0, u "ofKey")] 21

def k6c0 : Code := { maxStack := 1, maxLocals := 0, code := prog_48_method_1_code, exceptionTable := #[], attributes := #[] }
def k6m0 : Method := { name := "values", desc := "()[Lcom/example/vestibule/vestibule/datacite/DoiState;", sig := { parameters := [], returnType := some (.array (.object "com/example/vestibule/vestibule/datacite/DoiState")) }, accessFlags := 9, code := some k6c0 }
def k6c1 : Code := { maxStack := 1, maxLocals := 1, code := prog_48_method_4_code, exceptionTable := #[], attributes := #[] }
def k6m1 : Method := { name := "key", desc := "()Ljava/lang/String;", sig := { parameters := [], returnType := some (.object "java/lang/String") }, accessFlags := 1, code := some k6c1 }
def k6c2 : Code := { maxStack := 3, maxLocals := 5, code := prog_48_method_5_code, exceptionTable := #[], attributes := #[] }
def k6m2 : Method := { name := "ofKey", desc := "(Ljava/lang/String;)Lcom/example/vestibule/vestibule/datacite/DoiState;", sig := { parameters := [(.object "java/lang/String")], returnType := some (.object "com/example/vestibule/vestibule/datacite/DoiState") }, accessFlags := 8, code := some k6c2 }
/-- com/example/vestibule/vestibule/datacite/DoiState -/
def k6 : Class := { plain "com/example/vestibule/vestibule/datacite/DoiState" (some 5) with
  accessFlags := 16433
  interfaces := #[]
  cf := some (fileOf pool6 1 #[] #[{ accessFlags := 9, nameIndex := 38, descriptorIndex := 39, attributes := #[] }, { accessFlags := 1, nameIndex := 34, descriptorIndex := 75, attributes := #[] }, { accessFlags := 8, nameIndex := 76, descriptorIndex := 72, attributes := #[] }] 16433 23 #[] #[{ accessFlags := 16409, nameIndex := 5, descriptorIndex := 6, attributes := #[] }, { accessFlags := 16409, nameIndex := 9, descriptorIndex := 6, attributes := #[] }, { accessFlags := 16409, nameIndex := 12, descriptorIndex := 6, attributes := #[] }, { accessFlags := 18, nameIndex := 34, descriptorIndex := 35, attributes := #[] }, { accessFlags := 4122, nameIndex := 15, descriptorIndex := 16, attributes := #[] }])
  fields := #[{ name := "DRAFT", type := (.object "com/example/vestibule/vestibule/datacite/DoiState"), accessFlags := 16409, slot := 0, constantValue := 0 }, { name := "REGISTERED", type := (.object "com/example/vestibule/vestibule/datacite/DoiState"), accessFlags := 16409, slot := 1, constantValue := 0 }, { name := "FINDABLE", type := (.object "com/example/vestibule/vestibule/datacite/DoiState"), accessFlags := 16409, slot := 2, constantValue := 0 }, { name := "key", type := (.object "java/lang/String"), accessFlags := 18, slot := 3, constantValue := 0 }, { name := "$VALUES", type := (.array (.object "com/example/vestibule/vestibule/datacite/DoiState")), accessFlags := 4122, slot := 3, constantValue := 0 }]
  methods := #[k6m0, k6m1, k6m2]
  instanceTypes := #[(.object "java/lang/String"), .int, .int, (.object "java/lang/String")]
  staticTypes := #[(.object "com/example/vestibule/vestibule/datacite/DoiState"), (.object "com/example/vestibule/vestibule/datacite/DoiState"), (.object "com/example/vestibule/vestibule/datacite/DoiState"), (.array (.object "com/example/vestibule/vestibule/datacite/DoiState"))]
  resolved := Array.replicate 98 none
  statics := some 0 }

def pool7 : Array CpInfo := pool [(2, .class_ 4), (1, u "java/lang/CharSequence"), (42, .class_ 48), (0, u "java/lang/CharSequence$1CodePointIterator"), (10, .class_ 60), (0, u "java/lang/CharSequence$1CharIterator"), (5, .class_ 67), (0, u "java/lang/Object")] 63

/-- java/lang/CharSequence -/
def k7 : Class := { plain "java/lang/CharSequence" (some 0) with
  accessFlags := 1537
  interfaces := #[]
  cf := some (fileOf pool7 2 #[.nestMembers #[47, 59]] #[] 1537 66 #[] #[])
  fields := #[]
  methods := #[]
  instanceTypes := #[]
  staticTypes := #[]
  resolved := Array.replicate 131 none
  statics := none }

def pool8 : Array CpInfo := pool [(1, .class_ 2), (0, u "java/lang/constant/ConstantDesc"), (0, .class_ 4), (0, u "java/lang/Object")] 32

/-- java/lang/constant/ConstantDesc -/
def k8 : Class := { plain "java/lang/constant/ConstantDesc" (some 0) with
  accessFlags := 1537
  interfaces := #[]
  cf := some (fileOf pool8 1 #[] #[] 1537 3 #[] #[])
  fields := #[]
  methods := #[]
  instanceTypes := #[]
  staticTypes := #[]
  resolved := Array.replicate 37 none
  statics := none }

def pool9 : Array CpInfo := pool [(1, .methodref 2 3), (0, .class_ 4), (0, .nameAndType 5 6), (0, u "java/lang/Object"), (0, u "<init>"), (0, u "()V"), (2, .fieldref 10 11), (0, .class_ 12), (0, .nameAndType 13 14), (0, u "java/lang/String"), (0, u "value"), (0, u "[B"), (0, .fieldref 10 16), (0, .nameAndType 17 18), (0, u "coder"), (0, u "B"), (2, u "hash"), (0, u "I"), (2, u "hashIsZero"), (0, u "Z"), (0, .methodref 10 28), (0, .nameAndType 5 29), (0, u "([CIILjava/lang/Void;)V"), (8, .fieldref 10 39), (0, .nameAndType 40 26), (0, u "COMPACT_STRINGS"), (1, .class_ 44), (1, u "java/lang/StringUTF16"), (0, u "compress"), (1, .methodref 42 48), (0, .nameAndType 49 50), (0, u "coderFromArrayLen"), (0, u "([BI)B"), (56, .class_ 109), (1, u "java/lang/StringLatin1"), (67, .methodref 42 178), (0, .nameAndType 45 179), (0, u "([CII)[B"), (361, .methodref 107 542), (0, .nameAndType 543 544), (0, u "equals"), (0, u "([B[B)Z"), (28, u "(Ljava/lang/Object;)Z"), (1, .class_ 576), (0, u "java/lang/CharSequence"), (22, u "CASE_INSENSITIVE_ORDER"), (0, u "Ljava/util/Comparator;"), (409, u "([C)V"), (90, u "serialPersistentFields"), (0, u "[Ljava/io/ObjectStreamField;"), (0, .class_ 1104), (0, u "java/lang/String$CaseInsensitiveComparator"), (1, .class_ 1107), (0, u "java/io/Serializable"), (0, .class_ 1109), (0, u "java/lang/Comparable"), (0, .class_ 1111), (0, u "java/lang/constant/Constable"), (0, .class_ 1113), (0, u "java/lang/constant/ConstantDesc"), (2, u "serialVersionUID"), (0, u "J"), (3, u "REPL"), (0, u "C"), (2, u "LATIN1"), (1, u "UTF16")] 323

def k9m0 : Method := { name := "<init>", desc := "()V", sig := { parameters := [], returnType := none }, accessFlags := 1, code := none }
def k9c1 : Code := { maxStack := 5, maxLocals := 2, code := jdk_42_method_3_code, exceptionTable := #[], attributes := #[] }
def k9m1 : Method := { name := "<init>", desc := "([C)V", sig := { parameters := [(.array .char)], returnType := none }, accessFlags := 1, code := some k9c1 }
def k9c2 : Code := { maxStack := 2, maxLocals := 3, code := jdk_42_method_66_code, exceptionTable := #[], attributes := #[] }
def k9m2 : Method := { name := "equals", desc := "(Ljava/lang/Object;)Z", sig := { parameters := [(.object "java/lang/Object")], returnType := some .boolean }, accessFlags := 1, code := some k9c2 }
def k9c3 : Code := { maxStack := 4, maxLocals := 6, code := jdk_42_method_149_code, exceptionTable := #[], attributes := #[] }
def k9m3 : Method := { name := "<init>", desc := "([CIILjava/lang/Void;)V", sig := { parameters := [(.array .char), .int, .int, (.object "java/lang/Void")], returnType := none }, accessFlags := 2, code := some k9c3 }
/-- java/lang/String -/
def k9 : Class := { plain "java/lang/String" (some 0) with
  accessFlags := 49
  interfaces := #[4, 3, 7, 2, 8]
  cf := some (fileOf pool9 10 #[.nestMembers #[1103]] #[{ accessFlags := 1, nameIndex := 5, descriptorIndex := 6, attributes := #[] }, { accessFlags := 1, nameIndex := 5, descriptorIndex := 1010, attributes := #[] }, { accessFlags := 1, nameIndex := 543, descriptorIndex := 573, attributes := #[] }, { accessFlags := 2, nameIndex := 5, descriptorIndex := 29, attributes := #[] }] 49 2 #[1106, 1108, 575, 1110, 1112] #[{ accessFlags := 18, nameIndex := 13, descriptorIndex := 14, attributes := #[] }, { accessFlags := 18, nameIndex := 17, descriptorIndex := 18, attributes := #[] }, { accessFlags := 2, nameIndex := 21, descriptorIndex := 22, attributes := #[] }, { accessFlags := 2, nameIndex := 25, descriptorIndex := 26, attributes := #[] }, { accessFlags := 26, nameIndex := 1116, descriptorIndex := 1117, attributes := #[] }, { accessFlags := 24, nameIndex := 40, descriptorIndex := 26, attributes := #[] }, { accessFlags := 26, nameIndex := 1101, descriptorIndex := 1102, attributes := #[] }, { accessFlags := 26, nameIndex := 1121, descriptorIndex := 1122, attributes := #[] }, { accessFlags := 25, nameIndex := 599, descriptorIndex := 600, attributes := #[] }, { accessFlags := 24, nameIndex := 1125, descriptorIndex := 18, attributes := #[] }, { accessFlags := 24, nameIndex := 1127, descriptorIndex := 18, attributes := #[] }])
  fields := #[{ name := "value", type := (.array .byte), accessFlags := 18, slot := 0, constantValue := 0 }, { name := "coder", type := .byte, accessFlags := 18, slot := 1, constantValue := 0 }, { name := "hash", type := .int, accessFlags := 2, slot := 2, constantValue := 0 }, { name := "hashIsZero", type := .boolean, accessFlags := 2, slot := 3, constantValue := 0 }, { name := "serialVersionUID", type := .long, accessFlags := 26, slot := 0, constantValue := 0 }, { name := "COMPACT_STRINGS", type := .boolean, accessFlags := 24, slot := 1, constantValue := 0 }, { name := "serialPersistentFields", type := (.array (.object "java/io/ObjectStreamField")), accessFlags := 26, slot := 2, constantValue := 0 }, { name := "REPL", type := .char, accessFlags := 26, slot := 3, constantValue := 0 }, { name := "CASE_INSENSITIVE_ORDER", type := (.object "java/util/Comparator"), accessFlags := 25, slot := 4, constantValue := 0 }, { name := "LATIN1", type := .byte, accessFlags := 24, slot := 5, constantValue := 0 }, { name := "UTF16", type := .byte, accessFlags := 24, slot := 6, constantValue := 0 }]
  methods := #[k9m0, k9m1, k9m2, k9m3]
  instanceTypes := #[(.array .byte), .byte, .int, .boolean]
  staticTypes := #[.long, .boolean, (.array (.object "java/io/ObjectStreamField")), .char, (.object "java/util/Comparator"), .byte, .byte]
  resolved := Array.replicate 1451 none
  statics := some 1 }

def pool10 : Array CpInfo := pool [(6, .class_ 8), (1, u "java/lang/Object"), (0, u "<init>"), (0, u "()V"), (1, .class_ 14), (1, u "java/lang/StringUTF16"), (31, u "$assertionsDisabled"), (0, u "Z"), (13, u "HI_BYTE_SHIFT"), (0, u "I"), (2, u "LO_BYTE_SHIFT"), (49, .methodref 12 116), (0, .nameAndType 117 118), (0, u "compress"), (0, u "([CI[BII)I"), (3, u "([CII)[B"), (138, u "coderFromArrayLen"), (0, u "([BI)B"), (106, .class_ 371), (1, u "java/lang/StringUTF16$LinesSpliterator"), (58, u "MAX_LENGTH"), (196, .class_ 628), (0, u "java/lang/StringUTF16$CodePointsSpliterator"), (0, .class_ 630), (0, u "java/lang/StringUTF16$CharsSpliterator")] 4

def k10m0 : Method := { name := "<init>", desc := "()V", sig := { parameters := [], returnType := none }, accessFlags := 0, code := none }
def k10c1 : Code := { maxStack := 2, maxLocals := 2, code := jdk_52_method_15_code, exceptionTable := #[], attributes := #[] }
def k10m1 : Method := { name := "coderFromArrayLen", desc := "([BI)B", sig := { parameters := [(.array .byte), .int], returnType := some .byte }, accessFlags := 8, code := some k10c1 }
def k10c2 : Code := { maxStack := 5, maxLocals := 6, code := jdk_52_method_16_code, exceptionTable := #[], attributes := #[] }
def k10m2 : Method := { name := "compress", desc := "([CII)[B", sig := { parameters := [(.array .char), .int, .int], returnType := some (.array .byte) }, accessFlags := 9, code := some k10c2 }
def k10c3 : Code := { maxStack := 3, maxLocals := 7, code := jdk_52_method_21_code, exceptionTable := #[], attributes := #[] }
def k10m3 : Method := { name := "compress", desc := "([CI[BII)I", sig := { parameters := [(.array .char), .int, (.array .byte), .int, .int], returnType := some .int }, accessFlags := 9, code := some k10c3 }
/-- java/lang/StringUTF16 -/
def k10 : Class := { plain "java/lang/StringUTF16" (some 0) with
  accessFlags := 48
  interfaces := #[]
  cf := some (fileOf pool10 12 #[.nestMembers #[627, 629, 369]] #[{ accessFlags := 0, nameIndex := 9, descriptorIndex := 10, attributes := #[] }, { accessFlags := 8, nameIndex := 261, descriptorIndex := 262, attributes := #[] }, { accessFlags := 9, nameIndex := 117, descriptorIndex := 122, attributes := #[] }, { accessFlags := 9, nameIndex := 117, descriptorIndex := 118, attributes := #[] }] 48 6 #[] #[{ accessFlags := 26, nameIndex := 61, descriptorIndex := 62, attributes := #[] }, { accessFlags := 26, nameIndex := 65, descriptorIndex := 62, attributes := #[] }, { accessFlags := 24, nameIndex := 430, descriptorIndex := 62, attributes := #[] }, { accessFlags := 4120, nameIndex := 46, descriptorIndex := 47, attributes := #[] }])
  fields := #[{ name := "HI_BYTE_SHIFT", type := .int, accessFlags := 26, slot := 0, constantValue := 0 }, { name := "LO_BYTE_SHIFT", type := .int, accessFlags := 26, slot := 1, constantValue := 0 }, { name := "MAX_LENGTH", type := .int, accessFlags := 24, slot := 2, constantValue := 0 }, { name := "$assertionsDisabled", type := .boolean, accessFlags := 4120, slot := 3, constantValue := 0 }]
  methods := #[k10m0, k10m1, k10m2, k10m3]
  instanceTypes := #[]
  staticTypes := #[.int, .int, .int, .boolean]
  resolved := Array.replicate 635 none
  statics := none }

def pool11 : Array CpInfo := pool [(1, .class_ 2), (0, u "java/lang/Cloneable"), (0, .class_ 4), (0, u "java/lang/Object")] 2

/-- java/lang/Cloneable -/
def k11 : Class := { plain "java/lang/Cloneable" (some 0) with
  accessFlags := 1537
  interfaces := #[]
  cf := some (fileOf pool11 1 #[] #[] 1537 3 #[] #[])
  fields := #[]
  methods := #[]
  instanceTypes := #[]
  staticTypes := #[]
  resolved := Array.replicate 7 none
  statics := none }

def pool12 : Array CpInfo := pool [(4, .class_ 6), (1, u "java/lang/Object"), (0, u "<init>"), (0, u "()V"), (5, .class_ 16), (1, u "java/lang/StringLatin1"), (104, u "$assertionsDisabled"), (0, u "Z"), (98, .class_ 223), (1, u "java/lang/StringLatin1$LinesSpliterator"), (57, u "equals"), (0, u "([B[B)Z"), (107, .class_ 391), (0, u "java/lang/StringLatin1$CharsSpliterator")] 3

def k12m0 : Method := { name := "<init>", desc := "()V", sig := { parameters := [], returnType := none }, accessFlags := 0, code := none }
def k12c1 : Code := { maxStack := 3, maxLocals := 3, code := jdk_43_method_13_code, exceptionTable := #[], attributes := #[] }
def k12m1 : Method := { name := "equals", desc := "([B[B)Z", sig := { parameters := [(.array .byte), (.array .byte)], returnType := some .boolean }, accessFlags := 9, code := some k12c1 }
/-- java/lang/StringLatin1 -/
def k12 : Class := { plain "java/lang/StringLatin1" (some 0) with
  accessFlags := 48
  interfaces := #[]
  cf := some (fileOf pool12 14 #[.nestMembers #[390, 221]] #[{ accessFlags := 0, nameIndex := 7, descriptorIndex := 8, attributes := #[] }, { accessFlags := 9, nameIndex := 281, descriptorIndex := 282, attributes := #[] }] 48 4 #[] #[{ accessFlags := 4120, nameIndex := 121, descriptorIndex := 122, attributes := #[] }])
  fields := #[{ name := "$assertionsDisabled", type := .boolean, accessFlags := 4120, slot := 0, constantValue := 0 }]
  methods := #[k12m0, k12m1]
  instanceTypes := #[]
  staticTypes := #[.boolean]
  resolved := Array.replicate 395 none
  statics := none }

def pool13 : Array CpInfo := pool [(2, .class_ 4), (1, u "java/lang/Object"), (0, u "<init>"), (0, u "()V"), (17, .class_ 26), (1, u "jdk/internal/util/Preconditions"), (28, .class_ 56), (0, u "jdk/internal/util/Preconditions$4"), (57, .class_ 115), (0, u "jdk/internal/util/Preconditions$1"), (7, u "SIOOBE_FORMATTER"), (0, u "Ljava/util/function/BiFunction;"), (0, .class_ 126), (0, u "jdk/internal/util/Preconditions$2"), (3, u "AIOOBE_FORMATTER"), (0, .class_ 132), (0, u "jdk/internal/util/Preconditions$3"), (3, u "IOOBE_FORMATTER")] 57

def k13m0 : Method := { name := "<init>", desc := "()V", sig := { parameters := [], returnType := none }, accessFlags := 1, code := none }
/-- jdk/internal/util/Preconditions -/
def k13 : Class := { plain "jdk/internal/util/Preconditions" (some 0) with
  accessFlags := 33
  interfaces := #[]
  cf := some (fileOf pool13 24 #[.nestMembers #[55, 131, 125, 114]] #[{ accessFlags := 1, nameIndex := 5, descriptorIndex := 6, attributes := #[] }] 33 2 #[] #[{ accessFlags := 25, nameIndex := 123, descriptorIndex := 124, attributes := #[] }, { accessFlags := 25, nameIndex := 130, descriptorIndex := 124, attributes := #[] }, { accessFlags := 25, nameIndex := 136, descriptorIndex := 124, attributes := #[] }])
  fields := #[{ name := "SIOOBE_FORMATTER", type := (.object "java/util/function/BiFunction"), accessFlags := 25, slot := 0, constantValue := 0 }, { name := "AIOOBE_FORMATTER", type := (.object "java/util/function/BiFunction"), accessFlags := 25, slot := 1, constantValue := 0 }, { name := "IOOBE_FORMATTER", type := (.object "java/util/function/BiFunction"), accessFlags := 25, slot := 2, constantValue := 0 }]
  methods := #[k13m0]
  instanceTypes := #[]
  staticTypes := #[(.object "java/util/function/BiFunction"), (.object "java/util/function/BiFunction"), (.object "java/util/function/BiFunction")]
  resolved := Array.replicate 194 none
  statics := some 2 }

def pool14 : Array CpInfo := pool [(9, u "<init>"), (6, .class_ 18), (1, u "java/lang/Object"), (0, u "()V"), (1, .class_ 23), (1, u "jdk/internal/util/ArraysSupport"), (0, u "LOG2_ARRAY_LONG_INDEX_SCALE"), (0, u "I"), (2, u "U"), (0, u "Ljdk/internal/misc/Unsafe;"), (8, u "BIG_ENDIAN"), (0, u "Z"), (8, u "LOG2_BYTE_BIT_SIZE"), (4, u "LOG2_ARRAY_INT_INDEX_SCALE"), (54, u "JLA"), (0, u "Ljdk/internal/access/JavaLangAccess;"), (11, u "LOG2_ARRAY_BOOLEAN_INDEX_SCALE"), (9, u "LOG2_ARRAY_BYTE_INDEX_SCALE"), (5, u "LOG2_ARRAY_CHAR_INDEX_SCALE"), (5, u "LOG2_ARRAY_SHORT_INDEX_SCALE"), (18, u "LOG2_ARRAY_FLOAT_INDEX_SCALE"), (24, u "LOG2_ARRAY_DOUBLE_INDEX_SCALE"), (89, u "T_BOOLEAN"), (2, u "T_CHAR"), (1, u "T_FLOAT"), (1, u "T_DOUBLE"), (1, u "T_BYTE"), (1, u "T_SHORT"), (1, u "T_INT"), (1, u "T_LONG"), (1, u "SOFT_MAX_ARRAY_LENGTH")] 83

def k14m0 : Method := { name := "<init>", desc := "()V", sig := { parameters := [], returnType := none }, accessFlags := 2, code := none }
/-- jdk/internal/util/ArraysSupport -/
def k14 : Class := { plain "jdk/internal/util/ArraysSupport" (some 0) with
  accessFlags := 33
  interfaces := #[]
  cf := some (fileOf pool14 21 #[] #[{ accessFlags := 2, nameIndex := 9, descriptorIndex := 19, attributes := #[] }] 33 16 #[] #[{ accessFlags := 24, nameIndex := 28, descriptorIndex := 29, attributes := #[] }, { accessFlags := 26, nameIndex := 38, descriptorIndex := 39, attributes := #[] }, { accessFlags := 25, nameIndex := 121, descriptorIndex := 25, attributes := #[] }, { accessFlags := 25, nameIndex := 131, descriptorIndex := 25, attributes := #[] }, { accessFlags := 25, nameIndex := 137, descriptorIndex := 25, attributes := #[] }, { accessFlags := 25, nameIndex := 143, descriptorIndex := 25, attributes := #[] }, { accessFlags := 25, nameIndex := 53, descriptorIndex := 25, attributes := #[] }, { accessFlags := 25, nameIndex := 24, descriptorIndex := 25, attributes := #[] }, { accessFlags := 25, nameIndex := 162, descriptorIndex := 25, attributes := #[] }, { accessFlags := 25, nameIndex := 187, descriptorIndex := 25, attributes := #[] }, { accessFlags := 26, nameIndex := 48, descriptorIndex := 25, attributes := #[] }, { accessFlags := 25, nameIndex := 277, descriptorIndex := 25, attributes := #[] }, { accessFlags := 25, nameIndex := 280, descriptorIndex := 25, attributes := #[] }, { accessFlags := 25, nameIndex := 282, descriptorIndex := 25, attributes := #[] }, { accessFlags := 25, nameIndex := 284, descriptorIndex := 25, attributes := #[] }, { accessFlags := 25, nameIndex := 286, descriptorIndex := 25, attributes := #[] }, { accessFlags := 25, nameIndex := 288, descriptorIndex := 25, attributes := #[] }, { accessFlags := 25, nameIndex := 290, descriptorIndex := 25, attributes := #[] }, { accessFlags := 25, nameIndex := 292, descriptorIndex := 25, attributes := #[] }, { accessFlags := 26, nameIndex := 108, descriptorIndex := 109, attributes := #[] }, { accessFlags := 25, nameIndex := 294, descriptorIndex := 25, attributes := #[] }])
  fields := #[{ name := "U", type := (.object "jdk/internal/misc/Unsafe"), accessFlags := 24, slot := 0, constantValue := 0 }, { name := "BIG_ENDIAN", type := .boolean, accessFlags := 26, slot := 1, constantValue := 0 }, { name := "LOG2_ARRAY_BOOLEAN_INDEX_SCALE", type := .int, accessFlags := 25, slot := 2, constantValue := 0 }, { name := "LOG2_ARRAY_BYTE_INDEX_SCALE", type := .int, accessFlags := 25, slot := 3, constantValue := 0 }, { name := "LOG2_ARRAY_CHAR_INDEX_SCALE", type := .int, accessFlags := 25, slot := 4, constantValue := 0 }, { name := "LOG2_ARRAY_SHORT_INDEX_SCALE", type := .int, accessFlags := 25, slot := 5, constantValue := 0 }, { name := "LOG2_ARRAY_INT_INDEX_SCALE", type := .int, accessFlags := 25, slot := 6, constantValue := 0 }, { name := "LOG2_ARRAY_LONG_INDEX_SCALE", type := .int, accessFlags := 25, slot := 7, constantValue := 0 }, { name := "LOG2_ARRAY_FLOAT_INDEX_SCALE", type := .int, accessFlags := 25, slot := 8, constantValue := 0 }, { name := "LOG2_ARRAY_DOUBLE_INDEX_SCALE", type := .int, accessFlags := 25, slot := 9, constantValue := 0 }, { name := "LOG2_BYTE_BIT_SIZE", type := .int, accessFlags := 26, slot := 10, constantValue := 0 }, { name := "T_BOOLEAN", type := .int, accessFlags := 25, slot := 11, constantValue := 0 }, { name := "T_CHAR", type := .int, accessFlags := 25, slot := 12, constantValue := 0 }, { name := "T_FLOAT", type := .int, accessFlags := 25, slot := 13, constantValue := 0 }, { name := "T_DOUBLE", type := .int, accessFlags := 25, slot := 14, constantValue := 0 }, { name := "T_BYTE", type := .int, accessFlags := 25, slot := 15, constantValue := 0 }, { name := "T_SHORT", type := .int, accessFlags := 25, slot := 16, constantValue := 0 }, { name := "T_INT", type := .int, accessFlags := 25, slot := 17, constantValue := 0 }, { name := "T_LONG", type := .int, accessFlags := 25, slot := 18, constantValue := 0 }, { name := "JLA", type := (.object "jdk/internal/access/JavaLangAccess"), accessFlags := 26, slot := 19, constantValue := 0 }, { name := "SOFT_MAX_ARRAY_LENGTH", type := .int, accessFlags := 25, slot := 20, constantValue := 0 }]
  methods := #[k14m0]
  instanceTypes := #[]
  staticTypes := #[(.object "jdk/internal/misc/Unsafe"), .boolean, .int, .int, .int, .int, .int, .int, .int, .int, .int, .int, .int, .int, .int, .int, .int, .int, .int, (.object "jdk/internal/access/JavaLangAccess"), .int]
  resolved := Array.replicate 378 none
  statics := none }

/-- the primitive byte -/
def k15 : Class := { plain "byte" none with kind := .primitive 'B', accessFlags := 0x411 }
/-- [B -/
def k16 : Class := { plain "[B" (some 0) with kind := .array 15 .byte, interfaces := #[11, 4], accessFlags := 1041 }

/-- the primitive char -/
def k17 : Class := { plain "char" none with kind := .primitive 'C', accessFlags := 0x411 }
/-- [C -/
def k18 : Class := { plain "[C" (some 0) with kind := .array 17 .char, interfaces := #[11, 4], accessFlags := 1041 }

/-- the primitive int -/
def k19 : Class := { plain "int" none with kind := .primitive 'I', accessFlags := 0x411 }
/-- [I -/
def k20 : Class := { plain "[I" (some 0) with kind := .array 19 .int, interfaces := #[11, 4], accessFlags := 1041 }

/-- [Lcom/example/vestibule/vestibule/datacite/DoiState; -/
def k21 : Class := { plain "[Lcom/example/vestibule/vestibule/datacite/DoiState;" (some 0) with kind := .array 6 (.object "com/example/vestibule/vestibule/datacite/DoiState"), interfaces := #[11, 4], accessFlags := 1041 }

def heap : Heap := #[{ cls := 6, slots := #[.ref 4, .ref 5, .ref 6, .ref 3], vm := .statics 6 },
  { cls := 9, slots := #[.long 0, .int 1, .null, .int 0, .null, .int 0, .int 0], vm := .statics 9 },
  { cls := 13, slots := #[.null, .null, .null], vm := .statics 13 },
  { cls := 21, slots := #[.ref 4, .ref 5, .ref 6], vm := .none },
  { cls := 6, slots := #[.null, .int 0, .int 0, .ref 7], vm := .none },
  { cls := 6, slots := #[.null, .int 0, .int 0, .ref 9], vm := .none },
  { cls := 6, slots := #[.null, .int 0, .int 0, .ref 11], vm := .none },
  { cls := 9, slots := #[.ref 8, .int 0, .int 0, .int 0], vm := .none },
  { cls := 16, slots := #[.int 100, .int 114, .int 97, .int 102, .int 116], vm := .none },
  { cls := 9, slots := #[.ref 10, .int 0, .int 0, .int 0], vm := .none },
  { cls := 16, slots := #[.int 114, .int 101, .int 103, .int 105, .int 115, .int 116, .int 101, .int 114, .int 101, .int 100], vm := .none },
  { cls := 9, slots := #[.ref 12, .int 0, .int 0, .int 0], vm := .none },
  { cls := 16, slots := #[.int 102, .int 105, .int 110, .int 100, .int 97, .int 98, .int 108, .int 101], vm := .none }]
def classes : Array Class := #[k0, k1, k2, k3, k4, k5, k6, k7, k8, k9, k10, k11, k12, k13, k14, k15, k16, k17, k18, k19, k20, k21]
def interned : List (Array UInt16 × Addr) := []
def slotsUsed : Nat := 64
def theMethod : MethodId := ⟨1, 2⟩
def args0 : Array Value := #[.int 5]
def aboutOver (below : List Frame) : State where
  vm := { classes := classes, interned := interned.toArray }
  heap := heap
  slotsUsed := slotsUsed
  threads := #[{ frames := .invoking theMethod args0 :: below }]
def below0 : List Frame := [.native { method := ⟨0, 0⟩, args := #[] }]
def about1 : State := aboutOver below0
def p0 : Program := .bare "" "" ""
def e0 : Env := launch0.env 0 0 0
theorem w_frames : about1.frames = Frame.invoking theMethod args0 :: below0 := rfl
set_option maxRecDepth 65536 in
theorem w_args : argsFit about1.vm theMethod args0 = true := by decide +kernel
set_option maxRecDepth 65536 in
theorem w_heap : heapFits about1 = true := by decide +kernel
set_option maxRecDepth 65536 in
theorem w_runnable : about1.curStatus? = some .runnable := by decide +kernel
set_option maxRecDepth 65536 in
theorem w_alone : about1.alone = true := by decide +kernel
set_option maxRecDepth 65536 in
theorem w_named : about1.methodNamed? x = some theMethod := by decide +kernel
set_option maxRecDepth 65536 in
theorem w_hears : about1.hears theMethod below0 = true := by decide +kernel
set_option maxRecDepth 65536 in
theorem w_ripe : about1.ripe theMethod args0 below0 = true := by decide +kernel
theorem w_running : about1.status = .running := rfl
set_option maxRecDepth 65536 in
theorem w_room : about1.hasRoom e0.platform room_1 = true :=
  launch0.hasRoom_least _ room_1 (by decide +kernel) (by decide +kernel) (by decide +kernel) (by decide +kernel) (by decide +kernel) (by decide +kernel)
theorem allAtoms_all (ts : List Jvm.Cond) (a : Array Jvm.Value) (st : Jvm.State) : (allAtoms ts).before a st = ts.all (fun c => c.before a st) := by
  induction ts with
  | nil => rfl
  | cons c t ih =>
    show (Jvm.Cond.and c (allAtoms t)).before a st = _
    rw [Jvm.Cond.before_and, ih, List.all_cons]
def words1 : List Jvm.Cond := Jvm.Cond.code x code maxLocals ret :: tables_1
/-- a 'code' word, met by the world's own term for the bytes: nothing is compared byte by byte -/
theorem code_word {y : MethodName} {bytes : ByteArray} {mx : Nat} {rt : Option FieldType} {a : Array Value} {s : State} {m : MethodId} {meth : Method} {c : Code} (h1 : s.methodNamed? y = some m) (h2 : s.vm.method? m = some meth) (h3 : meth.code = some c) (h4 : c.code = bytes)
    (h5 : (c.maxLocals == mx && c.exceptionTable.isEmpty && decide (c.maxStack ≤ mostOperands) && decide (meth.sig.returnType = rt) && !meth.locks && decide (parseMethodDescriptor y.desc = some meth.sig)) = true) : (Jvm.Cond.code y bytes mx rt).before a s = true := by
  simp only [Bool.and_eq_true, beq_iff_eq, Bool.not_eq_true', decide_eq_true_eq] at h5
  obtain ⟨⟨⟨⟨⟨g1, g2⟩, g3⟩, g4⟩, g5⟩, g6⟩ := h5
  simp [Cond.before, Cond.holds, Cond.value, h1, h2, h3, h4, g1, g2, g3, g4, g5, g6]
def isCode : Jvm.Cond → Bool
  | .code _ _ _ _ => true
  | _ => false
theorem all_split {L : List Jvm.Cond} {P : Jvm.Cond → Bool} (h1 : L.all (fun c => isCode c || P c) = true) (h2 : ∀ c ∈ L.filter isCode, P c = true) : L.all P = true := by
  refine List.all_eq_true.mpr fun c hc => ?_
  have h := List.all_eq_true.mp h1 c hc
  rcases Bool.eq_false_or_eq_true (isCode c) with hi | hi
  · exact h2 c (List.mem_filter.mpr ⟨hc, hi⟩)
  · simpa [hi] using h
set_option maxRecDepth 65536 in
theorem w_c0 : (Jvm.Cond.code x code maxLocals ret).before args0 about1 = true := code_word (m := ⟨1, 2⟩) (meth := k1m2) (c := k1c2) (by decide +kernel) rfl rfl rfl (by decide +kernel)
set_option maxRecDepth 65536 in
theorem w_c1 : (Jvm.Cond.code ({ cls := "com/example/vestibule/vestibule/datacite/DoiStateOfKeyPinLaw", name := "keyChars", desc := "(I)[C" } : Jvm.MethodName) method_2_code (1 : Nat) (Option.some (Jvm.ClassFile.FieldType.array Jvm.ClassFile.FieldType.char))).before args0 about1 = true := code_word (m := ⟨1, 1⟩) (meth := k1m1) (c := k1c1) (by decide +kernel) rfl rfl rfl (by decide +kernel)
set_option maxRecDepth 65536 in
theorem w_c2 : (Jvm.Cond.code ({ cls := "java/lang/String", name := "<init>", desc := "([C)V" } : Jvm.MethodName) jdk_42_method_3_code (2 : Nat) (Option.none : Option Jvm.ClassFile.FieldType)).before args0 about1 = true := code_word (m := ⟨9, 1⟩) (meth := k9m1) (c := k9c1) (by decide +kernel) rfl rfl rfl (by decide +kernel)
set_option maxRecDepth 65536 in
theorem w_c3 : (Jvm.Cond.code ({ cls := "java/lang/String", name := "<init>", desc := "([CIILjava/lang/Void;)V" } : Jvm.MethodName) jdk_42_method_149_code (6 : Nat) (Option.none : Option Jvm.ClassFile.FieldType)).before args0 about1 = true := code_word (m := ⟨9, 3⟩) (meth := k9m3) (c := k9c3) (by decide +kernel) rfl rfl rfl (by decide +kernel)
set_option maxRecDepth 65536 in
theorem w_c4 : (Jvm.Cond.code ({ cls := "java/lang/Object", name := "<init>", desc := "()V" } : Jvm.MethodName) object_method_1_code (1 : Nat) (Option.none : Option Jvm.ClassFile.FieldType)).before args0 about1 = true := code_word (m := ⟨0, 0⟩) (meth := k0m0) (c := k0c0) (by decide +kernel) rfl rfl rfl (by decide +kernel)
set_option maxRecDepth 65536 in
theorem w_c5 : (Jvm.Cond.code ({ cls := "java/lang/StringUTF16", name := "compress", desc := "([CII)[B" } : Jvm.MethodName) jdk_52_method_16_code (6 : Nat) (Option.some (Jvm.ClassFile.FieldType.array Jvm.ClassFile.FieldType.byte))).before args0 about1 = true := code_word (m := ⟨10, 2⟩) (meth := k10m2) (c := k10c2) (by decide +kernel) rfl rfl rfl (by decide +kernel)
set_option maxRecDepth 65536 in
theorem w_c6 : (Jvm.Cond.code ({ cls := "java/lang/StringUTF16", name := "compress", desc := "([CI[BII)I" } : Jvm.MethodName) jdk_52_method_21_code (7 : Nat) (Option.some Jvm.ClassFile.FieldType.int)).before args0 about1 = true := code_word (m := ⟨10, 3⟩) (meth := k10m3) (c := k10c3) (by decide +kernel) rfl rfl rfl (by decide +kernel)
set_option maxRecDepth 65536 in
theorem w_c7 : (Jvm.Cond.code ({ cls := "java/lang/StringUTF16", name := "coderFromArrayLen", desc := "([BI)B" } : Jvm.MethodName) jdk_52_method_15_code (2 : Nat) (Option.some Jvm.ClassFile.FieldType.byte)).before args0 about1 = true := code_word (m := ⟨10, 1⟩) (meth := k10m1) (c := k10c1) (by decide +kernel) rfl rfl rfl (by decide +kernel)
set_option maxRecDepth 65536 in
theorem w_c8 : (Jvm.Cond.code ({ cls := "com/example/vestibule/vestibule/datacite/DoiState", name := "ofKey", desc := "(Ljava/lang/String;)Lcom/example/vestibule/vestibule/datacite/DoiState;" } : Jvm.MethodName) prog_48_method_5_code (5 : Nat) (Option.some (Jvm.ClassFile.FieldType.object "com/example/vestibule/vestibule/datacite/DoiState"))).before args0 about1 = true := code_word (m := ⟨6, 2⟩) (meth := k6m2) (c := k6c2) (by decide +kernel) rfl rfl rfl (by decide +kernel)
set_option maxRecDepth 65536 in
theorem w_c9 : (Jvm.Cond.code ({ cls := "com/example/vestibule/vestibule/datacite/DoiState", name := "values", desc := "()[Lcom/example/vestibule/vestibule/datacite/DoiState;" } : Jvm.MethodName) prog_48_method_1_code (0 : Nat) (Option.some (Jvm.ClassFile.FieldType.array (Jvm.ClassFile.FieldType.object "com/example/vestibule/vestibule/datacite/DoiState")))).before args0 about1 = true := code_word (m := ⟨6, 0⟩) (meth := k6m0) (c := k6c0) (by decide +kernel) rfl rfl rfl (by decide +kernel)
set_option maxRecDepth 65536 in
theorem w_c10 : (Jvm.Cond.code ({ cls := "java/lang/String", name := "equals", desc := "(Ljava/lang/Object;)Z" } : Jvm.MethodName) jdk_42_method_66_code (3 : Nat) (Option.some Jvm.ClassFile.FieldType.boolean)).before args0 about1 = true := code_word (m := ⟨9, 2⟩) (meth := k9m2) (c := k9c2) (by decide +kernel) rfl rfl rfl (by decide +kernel)
set_option maxRecDepth 65536 in
theorem w_c11 : (Jvm.Cond.code ({ cls := "java/lang/StringLatin1", name := "equals", desc := "([B[B)Z" } : Jvm.MethodName) jdk_43_method_13_code (3 : Nat) (Option.some Jvm.ClassFile.FieldType.boolean)).before args0 about1 = true := code_word (m := ⟨12, 1⟩) (meth := k12m1) (c := k12c1) (by decide +kernel) rfl rfl rfl (by decide +kernel)
set_option maxRecDepth 65536 in
theorem w_c12 : (Jvm.Cond.code ({ cls := "com/example/vestibule/vestibule/datacite/DoiState", name := "key", desc := "()Ljava/lang/String;" } : Jvm.MethodName) prog_48_method_4_code (1 : Nat) (Option.some (Jvm.ClassFile.FieldType.object "java/lang/String"))).before args0 about1 = true := code_word (m := ⟨6, 1⟩) (meth := k6m1) (c := k6c1) (by decide +kernel) rfl rfl rfl (by decide +kernel)
def codes1 : List Jvm.Cond := [Jvm.Cond.code x code maxLocals ret, Jvm.Cond.code ({ cls := "com/example/vestibule/vestibule/datacite/DoiStateOfKeyPinLaw", name := "keyChars", desc := "(I)[C" } : Jvm.MethodName) method_2_code (1 : Nat) (Option.some (Jvm.ClassFile.FieldType.array Jvm.ClassFile.FieldType.char)), Jvm.Cond.code ({ cls := "java/lang/String", name := "<init>", desc := "([C)V" } : Jvm.MethodName) jdk_42_method_3_code (2 : Nat) (Option.none : Option Jvm.ClassFile.FieldType), Jvm.Cond.code ({ cls := "java/lang/String", name := "<init>", desc := "([CIILjava/lang/Void;)V" } : Jvm.MethodName) jdk_42_method_149_code (6 : Nat) (Option.none : Option Jvm.ClassFile.FieldType), Jvm.Cond.code ({ cls := "java/lang/Object", name := "<init>", desc := "()V" } : Jvm.MethodName) object_method_1_code (1 : Nat) (Option.none : Option Jvm.ClassFile.FieldType), Jvm.Cond.code ({ cls := "java/lang/StringUTF16", name := "compress", desc := "([CII)[B" } : Jvm.MethodName) jdk_52_method_16_code (6 : Nat) (Option.some (Jvm.ClassFile.FieldType.array Jvm.ClassFile.FieldType.byte)), Jvm.Cond.code ({ cls := "java/lang/StringUTF16", name := "compress", desc := "([CI[BII)I" } : Jvm.MethodName) jdk_52_method_21_code (7 : Nat) (Option.some Jvm.ClassFile.FieldType.int), Jvm.Cond.code ({ cls := "java/lang/StringUTF16", name := "coderFromArrayLen", desc := "([BI)B" } : Jvm.MethodName) jdk_52_method_15_code (2 : Nat) (Option.some Jvm.ClassFile.FieldType.byte), Jvm.Cond.code ({ cls := "com/example/vestibule/vestibule/datacite/DoiState", name := "ofKey", desc := "(Ljava/lang/String;)Lcom/example/vestibule/vestibule/datacite/DoiState;" } : Jvm.MethodName) prog_48_method_5_code (5 : Nat) (Option.some (Jvm.ClassFile.FieldType.object "com/example/vestibule/vestibule/datacite/DoiState")), Jvm.Cond.code ({ cls := "com/example/vestibule/vestibule/datacite/DoiState", name := "values", desc := "()[Lcom/example/vestibule/vestibule/datacite/DoiState;" } : Jvm.MethodName) prog_48_method_1_code (0 : Nat) (Option.some (Jvm.ClassFile.FieldType.array (Jvm.ClassFile.FieldType.object "com/example/vestibule/vestibule/datacite/DoiState"))), Jvm.Cond.code ({ cls := "java/lang/String", name := "equals", desc := "(Ljava/lang/Object;)Z" } : Jvm.MethodName) jdk_42_method_66_code (3 : Nat) (Option.some Jvm.ClassFile.FieldType.boolean), Jvm.Cond.code ({ cls := "java/lang/StringLatin1", name := "equals", desc := "([B[B)Z" } : Jvm.MethodName) jdk_43_method_13_code (3 : Nat) (Option.some Jvm.ClassFile.FieldType.boolean), Jvm.Cond.code ({ cls := "com/example/vestibule/vestibule/datacite/DoiState", name := "key", desc := "()Ljava/lang/String;" } : Jvm.MethodName) prog_48_method_4_code (1 : Nat) (Option.some (Jvm.ClassFile.FieldType.object "java/lang/String"))]
set_option maxRecDepth 65536 in
theorem codes_eq : words1.filter isCode = codes1 := rfl
theorem w_codes : ∀ c ∈ words1.filter isCode, c.before args0 about1 = true := by
  rw [codes_eq]
  intro c hc
  simp only [codes1, List.mem_cons, List.not_mem_nil, or_false] at hc
  rcases hc with rfl | rfl | rfl | rfl | rfl | rfl | rfl | rfl | rfl | rfl | rfl | rfl | rfl
  · exact w_c0
  · exact w_c1
  · exact w_c2
  · exact w_c3
  · exact w_c4
  · exact w_c5
  · exact w_c6
  · exact w_c7
  · exact w_c8
  · exact w_c9
  · exact w_c10
  · exact w_c11
  · exact w_c12
set_option maxRecDepth 65536 in
theorem w_t1 : (words1.take 24).all (fun c => isCode c || c.before args0 about1) = true := by decide +kernel
set_option maxRecDepth 65536 in
theorem w_t2 : ((words1.drop 24).take 24).all (fun c => isCode c || c.before args0 about1) = true := by decide +kernel
set_option maxRecDepth 65536 in
theorem w_t3 : (((words1.drop 24).drop 24).take 24).all (fun c => isCode c || c.before args0 about1) = true := by decide +kernel
set_option maxRecDepth 65536 in
theorem w_t4 : (((words1.drop 24).drop 24).drop 24).all (fun c => isCode c || c.before args0 about1) = true := by decide +kernel
theorem w_tables : (allAtoms (Jvm.Cond.code x code maxLocals ret :: tables_1)).before args0 about1 = true := by
  rw [allAtoms_all]
  show words1.all (fun c => c.before args0 about1) = true
  refine all_split ?_ w_codes
  rw [← List.take_append_drop 24 words1, List.all_append, w_t1, ← List.take_append_drop 24 (words1.drop 24), List.all_append, w_t2, ← List.take_append_drop 24 ((words1.drop 24).drop 24), List.all_append, w_t3, w_t4]
  rfl
set_option maxRecDepth 65536 in
theorem w_rest : rest_1_c.before args0 about1 = true := by decide +kernel
set_option maxRecDepth 65536 in
theorem w_case : (Jvm.Cond.and given_1 narrow_1).before args0 about1 = true := by decide +kernel
theorem w_applies : (headSpec (Jvm.Cond.code x code maxLocals ret :: tables_1) room_1).applies x e0.platform about1 = true :=
  (Spec.applies_iff w_frames).mpr ⟨w_running, w_runnable, w_alone, w_named, w_hears, w_ripe, w_room, w_tables⟩
theorem atStart : AtStart classFile x code maxLocals ret World_1 tables_1 room_1 Calls_1 rest_1 Pre_1 launch0 p0 e0 about1 theMethod args0 below0 :=
  ⟨lists_1, trivial, launch0.admits_env _ _ _, launch0.least_env, fairChoices_fair.cas, fairChoices_fair.clock, w_frames, w_args, w_heap, w_applies, trivial, w_rest, w_case⟩
end start1
theorem witness_1 : WitnessClaimed_1 := ⟨start1.p0, start1.e0, start1.about1, start1.theMethod, start1.args0, start1.below0, start1.atStart⟩
end Jvm.Pilot.@@N@@
