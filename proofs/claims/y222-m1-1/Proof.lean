import JvmDerived
import JvmDerived.Pilot.@@N@@Statement
import JvmDerived.Pilot.@@N@@Code
set_option linter.unusedVariables false
set_option linter.unusedSimpArgs false
@@BLOCK:NumsL.lean.txt@@
namespace Jvm.Pilot.@@N@@
open Jvm Jvm.ClassFile Sem Op Lib Jvm.Free Jvm.Stand Jvm.LawKit Jvm.RoadKit Bundle Jvm.Pilot.@@N@@.Jvm.D
section Own
variable {p : Program} {l : Launch} {e : Env} {R : Room} {s : State} {m : MethodId} {args : Array Value} {below : List Frame} {meth : Method} {c : Code} {T : State} {locs : List Loc} {cells slots : Nat} {Z : State} {a0 : Array Value} {h : Heap}
/-- a walk that goes forward: from S the run comes to an end of which P holds -/
def own_G (p : Program) (e : Env) (below : List Frame) (S : State) (P : Outcome → State → Prop) : Prop :=
  ∃ s₂ o, Steps p.tables e below S s₂ ∧ s₂.status = .running ∧ Ended s₂ below o ∧ P o s₂
/-- what a body leaves -/
def own_P (s : State) (Q : Option Value → Heap → List Loc → Prop) (kc ks : Nat) (o : Outcome) (U : State) : Prop := ∃ v L, o = .returned v ∧ Q v U.heap L ∧ FrameEnd s o U L kc ks
theorem oS {S S' : State} {P : Outcome → State → Prop} (k : ∀ t, Steps p.tables e below S' t → Steps p.tables e below S t) (h : own_G p e below S' P) : own_G p e below S P := by
  obtain ⟨s2, o, h1, h2⟩ := h; exact ⟨s2, o, k _ h1, h2⟩
theorem oW {Z : State} {a0 : Array Value} (hw : ∀ d ∈ tables_1, d.before a0 Z = true) (i : Nat) {d : Jvm.Cond} (q : tables_1[i]? = some d) : d.before a0 Z = true := hw _ (List.mem_of_getElem? q)
theorem own_cast {g g' : JFrame} {P : Outcome → State → Prop} (q : g = g') (k : own_G p e below (T.setTop g') P) : own_G p e below (T.setTop g) P := q ▸ k
theorem own_leave (X : Stand p l e R s m args below meth c T locs cells slots) {g : JFrame} {v : Option Value} {Q : Option Value → Heap → List Loc → Prop} {kc ks : Nat} (hlocks : meth.locks = false) (hv : meth.sig.returnType = none → v = none)
    (k : ∀ fs, (∀ (f : JFrame) (acts : List Action), f.method = m → f.locked = none → f.entered = [] → (doReturn e (T.setTop f) acts v).1 = T.setFrames fs) → Steps p.tables e below (T.setTop g) (T.setFrames fs))
    (eT : T.heap = h) (hc : cells ≤ kc) (hs : slots ≤ ks) (hq : Q v h locs) : own_G p e below (T.setTop g) (own_P s Q kc ks) := by
  obtain ⟨fs, hr, hrun, hended, hW, hsame⟩ := X.leave (v := v) hv hlocks
  exact ⟨_, _, k fs hr, hrun, hended, _, _, rfl, by show Q v T.heap locs; rw [eT]; exact hq, ⟨_, rfl⟩, hW, hsame.mono hc hs⟩
theorem own_retN (X : Stand p l e R s m args below meth c T locs cells slots) (hx : p.tables.exec = Jvm.exec) {pc : Nat} {Ls : Array Slot} {z : Int32} {t : FieldType} {rest : List Value} {Q : Option Value → Heap → List Loc → Prop} {kc ks : Nat} (hlocks : meth.locks = false) (hret : meth.sig.returnType = some t) (ht : t = .boolean ∨ t = .byte ∨ t = .char ∨ t = .short)
    (hd : decode c.code pc = .ok (.ireturn, 1)) (hn : nar t z = z) (eT : T.heap = h) (hc : cells ≤ kc) (hs : slots ≤ ks) (hq : Q (some (.int z)) h locs) : own_G p e below (T.setTop (mkF m pc Ls (.int z :: rest))) (own_P s Q kc ks) :=
  own_leave X (v := some (.int z)) hlocks (fun q => by rw [hret] at q; cases q) (fun fs hl => retN X hx hret ht hd (by rw [hn]; exact hl)) eT hc hs hq
theorem own_retI (X : Stand p l e R s m args below meth c T locs cells slots) (hx : p.tables.exec = Jvm.exec) {pc : Nat} {Ls : Array Slot} {z : Int32} {rest : List Value} {Q : Option Value → Heap → List Loc → Prop} {kc ks : Nat} (hlocks : meth.locks = false) (hret : meth.sig.returnType = some .int)
    (hd : decode c.code pc = .ok (.ireturn, 1)) (eT : T.heap = h) (hc : cells ≤ kc) (hs : slots ≤ ks) (hq : Q (some (.int z)) h locs) : own_G p e below (T.setTop (mkF m pc Ls (.int z :: rest))) (own_P s Q kc ks) :=
  own_leave X (v := some (.int z)) hlocks (fun q => by rw [hret] at q; cases q) (fun fs hl => retOut X hx hret rfl (Or.inl ⟨rfl, Or.inl rfl, _, rfl⟩) hd hl) eT hc hs hq
theorem own_retL (X : Stand p l e R s m args below meth c T locs cells slots) (hx : p.tables.exec = Jvm.exec) {pc : Nat} {Ls : Array Slot} {z : Int64} {rest : List Value} {Q : Option Value → Heap → List Loc → Prop} {kc ks : Nat} (hlocks : meth.locks = false) (hret : meth.sig.returnType = some .long)
    (hd : decode c.code pc = .ok (.lreturn, 1)) (eT : T.heap = h) (hc : cells ≤ kc) (hs : slots ≤ ks) (hq : Q (some (.long z)) h locs) : own_G p e below (T.setTop (mkF m pc Ls (.long z :: rest))) (own_P s Q kc ks) :=
  own_leave X (v := some (.long z)) hlocks (fun q => by rw [hret] at q; cases q) (fun fs hl => retOut X hx hret rfl (Or.inr (Or.inl ⟨rfl, rfl, _, rfl⟩)) hd hl) eT hc hs hq
theorem own_narR {t : FieldType} {w : Value} (h : w.isRef = true) : narrow t w = w := by
  rcases ref_cases h with rfl | ⟨a, rfl⟩ <;> cases t <;> rfl
theorem own_retA (X : Stand p l e R s m args below meth c T locs cells slots) (hx : p.tables.exec = Jvm.exec) {pc : Nat} {Ls : Array Slot} {w : Value} {t : FieldType} {rest : List Value} {Q : Option Value → Heap → List Loc → Prop} {kc ks : Nat} (hlocks : meth.locks = false) (hret : meth.sig.returnType = some t) (ht : t.isReference = true) (hw : w.isRef = true)
    (hd : decode c.code pc = .ok (.areturn, 1)) (eT : T.heap = h) (hc : cells ≤ kc) (hs : slots ≤ ks) (hq : Q (some w) h locs) : own_G p e below (T.setTop (mkF m pc Ls (w :: rest))) (own_P s Q kc ks) :=
  own_leave X (v := some w) hlocks (fun q => by rw [hret] at q; cases q) (fun fs hl => retOut X hx hret (own_narR hw) (Or.inr (Or.inr (Or.inr (Or.inr ⟨rfl, ht, hw⟩)))) hd hl) eT hc hs hq
theorem own_retV (X : Stand p l e R s m args below meth c T locs cells slots) (hx : p.tables.exec = Jvm.exec) {pc : Nat} {Ls : Array Slot} {Q : Option Value → Heap → List Loc → Prop} {kc ks : Nat} (hlocks : meth.locks = false) (hret : meth.sig.returnType = none)
    (hd : decode c.code pc = .ok (.return_, 1)) (eT : T.heap = h) (hc : cells ≤ kc) (hs : slots ≤ ks) (hq : Q none h locs) : own_G p e below (T.setTop (mkF m pc Ls [])) (own_P s Q kc ks) :=
  own_leave X (v := none) hlocks (fun _ => rfl) (fun fs hl => X.returnOut hx hret hd hl) eT hc hs hq
abbrev own_Met (l : Launch) (Z : State) (h : Heap) (y : MethodName) (bytes : ByteArray) (maxL : Nat) (ret : Option FieldType) (ws : List Jvm.Cond) (rm : Room) (as' : Array Value) (Q : Option Value → Heap → List Loc → Prop) (kc ks : Nat) : Prop :=
  MetFree l y (head1 (Jvm.Cond.code y bytes maxL ret :: ws) rm) (fun a U => a = as' ∧ Z.Warmed39 U.vm ∧ U.heap = h) (fun _ _ _ _ _ => True) (fun _ U o U' => ∃ v L, o = .returned v ∧ Q v U'.heap L ∧ FrameEnd U o U' L kc ks)
variable {own : String} {index : Nat} {y : MethodName} {bytes : ByteArray} {maxL : Nat} {ret : Option FieldType} {rm : Room} {W : Nat} {as' : Array Value} {Q : Option Value → Heap → List Loc → Prop}
abbrev own_After (p : Program) (l : Launch) (e : Env) (R : Room) (s : State) (m : MethodId) (args : Array Value) (below : List Frame) (meth : Method) (c : Code) (T : State) (locs : List Loc) (kc ks : Nat) (g : JFrame) (rest : List Value) (Q : Option Value → Heap → List Loc → Prop) (len : Nat := 3) : Prop :=
  ∃ (T' : State) (h' : Heap) (v : Option Value) (L : List Loc), Stand p l e R s m args below meth c T' (locs ++ L) kc ks ∧ T'.heap = h' ∧ Q v h' L ∧ ∀ target, Steps p.tables e below (T'.setTop { g with pc := g.pc + len, stack := v.toList ++ rest }) target → Steps p.tables e below (T.setTop g) target
theorem own_callS (X : Stand p l e R s m args below meth c T locs cells slots) (hx : p.tables.exec = Jvm.exec) (hZ : Z.Warmed39 s.vm) (hown : s.vm.findClass own = some m.cls) (eT : T.heap = h)
    (w1 : (Jvm.Cond.methodLink own index y).before a0 Z = true) (w2 : (Jvm.Cond.static y).before a0 Z = true) (w3 : (Jvm.Cond.initialized y.cls).before a0 Z = true) (w4 : (Jvm.Cond.code y bytes maxL ret).before a0 Z = true) (hy : y.cls ≠ "java/lang/invoke/MethodHandle" ∧ y.cls ≠ "java/lang/invoke/VarHandle")
    (hM : own_Met l Z h y bytes maxL ret [] rm as' Q rm.cells rm.slots)
    (hf : rm.frames + 1 ≤ R.frames) (hl : W + (maxL + 11) + rm.locals ≤ R.locals) (hc : cells + rm.cells ≤ R.cells) (hsl : slots + rm.slots ≤ R.slots)
    {g : JFrame} (hg : g.method = m) (hsize : g.locals.size = c.maxLocals) {argsL rest : List Value} (has : argsL.toArray = as') (hlen : ∀ sig, parseMethodDescriptor y.desc = some sig → argsL.length = sig.parameters.length)
    (hstack : g.stack = argsL.reverse ++ rest) (hW : 2 * g.monitorRoom + (rest.map fun v => v.category).sum ≤ W) (hd : decode c.code g.pc = .ok (.invokestatic index, 3)) :
    own_After p l e R s m args below meth c T locs (cells + rm.cells) (slots + rm.slots) g rest Q := by
  obtain ⟨v, vm1, ⟨T', L', k', n'⟩, -, X', ⟨Lc, hQ, l1, y1, z1⟩, st⟩ := Jvm.LawKit.callS X hx (y := y) hown (mvT hZ w1) (mvT hZ w2) (mvT hZ w3) (mvT hZ w4) hy (backOf (W := W) hM hZ w4 w3 hf hl) hg hsize hlen hstack hW hd (fun _ _ => ⟨has, eT, hc, hsl⟩)
  dsimp only [Pt.U, Pt.locs, Pt.cells, Pt.slots] at X' l1 y1 z1 st hQ
  subst l1 y1 z1
  exact ⟨T', _, v, Lc, X', rfl, hQ, st⟩
theorem own_callV (X : Stand p l e R s m args below meth c T locs cells slots) (hx : p.tables.exec = Jvm.exec) (hZ : Z.Warmed39 s.vm) (hown : s.vm.findClass own = some m.cls) (eT : T.heap = h) {z : MethodName} {C : String} {b : Addr}
    (w1 : (Jvm.Cond.methodLink own index y).before a0 Z = true) (w2 : (Jvm.Cond.declares y).before a0 Z = true) (nf : NotFace s y) (w3 : (Jvm.Cond.selects C y z).before a0 Z = true) (w5 : (Jvm.Cond.instanceMethod z).before a0 Z = true) (w6 : (Jvm.Cond.initialized z.cls).before a0 Z = true) (w4 : (Jvm.Cond.code z bytes maxL ret).before a0 Z = true) (hy : y.cls ≠ "java/lang/invoke/MethodHandle" ∧ y.cls ≠ "java/lang/invoke/VarHandle")
    (E : Exa Z h b C) (hM : own_Met l Z h z bytes maxL ret [] rm as' Q rm.cells rm.slots)
    (hf : rm.frames + 1 ≤ R.frames) (hl : W + (maxL + 11) + rm.locals ≤ R.locals) (hc : cells + rm.cells ≤ R.cells) (hsl : slots + rm.slots ≤ R.slots)
    {g : JFrame} (hg : g.method = m) (hsize : g.locals.size = c.maxLocals) {argsL rest : List Value} (has : (.ref b :: argsL).toArray = as') (hlen : ∀ sig, parseMethodDescriptor y.desc = some sig → argsL.length = sig.parameters.length)
    (hstack : g.stack = argsL.reverse ++ .ref b :: rest) (hW : 2 * g.monitorRoom + (rest.map fun v => v.category).sum ≤ W) (hd : decode c.code g.pc = .ok (.invokevirtual index, 3)) :
    own_After p l e R s m args below meth c T locs (cells + rm.cells) (slots + rm.slots) g rest Q := by
  obtain ⟨cq, kq, q1, q2, q3⟩ := isOf hZ eT E
  obtain ⟨v, vm1, ⟨T', L', k', n'⟩, -, X', ⟨Lc, hQ, l1, y1, z1⟩, st⟩ := X.virtualBack hx (y := y) (z := z) hown (mvT hZ w1) (mvT hZ w2) nf (mvT hZ w3) (mvT hZ w5) hy (backOf (W := W) hM hZ w4 w6 hf hl) q1 q3 hg hsize (Steps.refl _) hlen hstack hW hd (fun _ _ => ⟨has, eT, hc, hsl⟩)
  dsimp only [Pt.U, Pt.locs, Pt.cells, Pt.slots] at X' l1 y1 z1 st hQ
  subst l1 y1 z1
  exact ⟨T', _, v, Lc, X', rfl, hQ, fun _ k => st.trans k⟩
theorem own_callU (X : Stand p l e R s m args below meth c T locs cells slots) (hx : p.tables.exec = Jvm.exec) (hZ : Z.Warmed39 s.vm) (hown : s.vm.findClass own = some m.cls) (eT : T.heap = h) {z : MethodName} {C owner : String} {b : Addr}
    (w1 : (Jvm.Cond.methodLink own index y).before a0 Z = true) (w2 : (Jvm.Cond.sameMethod y.cls owner y.name y.desc).before a0 Z = true) (w7 : (Jvm.Cond.declares ⟨owner, y.name, y.desc⟩).before a0 Z = true) (w3 : (Jvm.Cond.selects C y z).before a0 Z = true) (w5 : (Jvm.Cond.instanceMethod z).before a0 Z = true) (w6 : (Jvm.Cond.initialized z.cls).before a0 Z = true) (w4 : (Jvm.Cond.code z bytes maxL ret).before a0 Z = true) (hy : owner ≠ "java/lang/invoke/MethodHandle" ∧ owner ≠ "java/lang/invoke/VarHandle")
    (E : Exa Z h b C) (hM : own_Met l Z h z bytes maxL ret [] rm as' Q rm.cells rm.slots)
    (hf : rm.frames + 1 ≤ R.frames) (hl : W + (maxL + 11) + rm.locals ≤ R.locals) (hc : cells + rm.cells ≤ R.cells) (hsl : slots + rm.slots ≤ R.slots)
    {g : JFrame} (hg : g.method = m) (hsize : g.locals.size = c.maxLocals) {argsL rest : List Value} (has : (.ref b :: argsL).toArray = as') (hlen : ∀ sig, parseMethodDescriptor y.desc = some sig → argsL.length = sig.parameters.length)
    (hstack : g.stack = argsL.reverse ++ .ref b :: rest) (hW : 2 * g.monitorRoom + (rest.map fun v => v.category).sum ≤ W) (hd : decode c.code g.pc = .ok (.invokevirtual index, 3)) :
    own_After p l e R s m args below meth c T locs (cells + rm.cells) (slots + rm.slots) g rest Q := by
  obtain ⟨cq, kq, q1, q2, q3⟩ := isOf hZ eT E
  obtain ⟨v, vm1, ⟨T', L', k', n'⟩, -, X', ⟨Lc, hQ, l1, y1, z1⟩, st⟩ := X.virtualBackUp hx (x := y) (y := z) (owner := owner) hown (mvT hZ w1) (mvT hZ w2) (mvT hZ w7) hy (mvT hZ w3) (mvT hZ w5) (backOf (W := W) hM hZ w4 w6 hf hl) q1 q3 hg hsize (Steps.refl _) hlen hstack hW hd (fun _ _ => ⟨has, eT, hc, hsl⟩)
  dsimp only [Pt.U, Pt.locs, Pt.cells, Pt.slots] at X' l1 y1 z1 st hQ
  subst l1 y1 z1
  exact ⟨T', _, v, Lc, X', rfl, hQ, fun _ k => st.trans k⟩
theorem own_callN (X : Stand p l e R s m args below meth c T locs cells slots) (hx : p.tables.exec = Jvm.exec) (hZ : Z.Warmed39 s.vm) (hown : s.vm.findClass own = some m.cls) (eT : T.heap = h) {b : Addr} (hy1 : y.name = "<init>")
    (w1 : (Jvm.Cond.methodLink own index y).before a0 Z = true) (w5 : (Jvm.Cond.instanceMethod y).before a0 Z = true) (w6 : (Jvm.Cond.initialized y.cls).before a0 Z = true) (w4 : (Jvm.Cond.code y bytes maxL none).before a0 Z = true) (hy : y.cls ≠ "java/lang/invoke/MethodHandle" ∧ y.cls ≠ "java/lang/invoke/VarHandle")
    (hM : own_Met l Z h y bytes maxL none [] rm as' Q rm.cells rm.slots)
    (hf : rm.frames + 1 ≤ R.frames) (hl : W + (maxL + 11) + rm.locals ≤ R.locals) (hc : cells + rm.cells ≤ R.cells) (hsl : slots + rm.slots ≤ R.slots)
    {g : JFrame} (hg : g.method = m) (hsize : g.locals.size = c.maxLocals) {argsL rest : List Value} (has : (.ref b :: argsL).toArray = as') (hlen : ∀ sig, parseMethodDescriptor y.desc = some sig → argsL.length = sig.parameters.length)
    (hstack : g.stack = argsL.reverse ++ .ref b :: rest) (hW : 2 * g.monitorRoom + (rest.map fun v => v.category).sum ≤ W) (hd : decode c.code g.pc = .ok (.invokespecial index, 3)) :
    own_After p l e R s m args below meth c T locs (cells + rm.cells) (slots + rm.slots) g rest Q := by
  obtain ⟨v, vm1, ⟨T', L', k', n'⟩, -, X', ⟨Lc, hQ, l1, y1, z1⟩, st⟩ := X.specialBack hx (y := y) hy1 hown (mvT hZ w1) (mvT hZ w5) (mvT hZ w4) hy (backOf (W := W) hM hZ w4 w6 hf hl) hg hsize (Steps.refl _) hlen hstack hW hd (fun _ _ => ⟨has, eT, hc, hsl⟩)
  dsimp only [Pt.U, Pt.locs, Pt.cells, Pt.slots] at X' l1 y1 z1 st hQ
  subst l1 y1 z1
  exact ⟨T', _, v, Lc, X', rfl, hQ, fun _ k => st.trans k⟩
theorem own_callI (X : Stand p l e R s m args below meth c T locs cells slots) (hx : p.tables.exec = Jvm.exec) (hZ : Z.Warmed39 s.vm) (hown : s.vm.findClass own = some m.cls) (eT : T.heap = h) {z : MethodName} {C : String} {b : Addr} {count : Nat}
    (w1 : (Jvm.Cond.methodLink own index y).before a0 Z = true) (w2 : (Jvm.Cond.declares y).before a0 Z = true) (w7 : (Jvm.Cond.interfaceMethod y.cls y.cls y.name y.desc).before a0 Z = true) (h7 : ((Jvm.Cond.interfaceMethod y.cls y.cls y.name y.desc).onTables && (Jvm.Cond.interfaceMethod y.cls y.cls y.name y.desc).keepsFace) = true) (w3 : (Jvm.Cond.selects C y z).before a0 Z = true) (w5 : (Jvm.Cond.instanceMethod z).before a0 Z = true) (w8 : (Jvm.Cond.publicMethod z).before a0 Z = true) (w9 : (Jvm.Cond.unhidden C y.name y.desc).before a0 Z = true) (w10 : (Jvm.Cond.castable C y.cls).before a0 Z = true) (w6 : (Jvm.Cond.initialized z.cls).before a0 Z = true) (w4 : (Jvm.Cond.code z bytes maxL ret).before a0 Z = true) (hy : y.cls ≠ "java/lang/invoke/MethodHandle" ∧ y.cls ≠ "java/lang/invoke/VarHandle")
    (E : Exa Z h b C) (hM : own_Met l Z h z bytes maxL ret [] rm as' Q rm.cells rm.slots)
    (hf : rm.frames + 1 ≤ R.frames) (hl : W + (maxL + 11) + rm.locals ≤ R.locals) (hc : cells + rm.cells ≤ R.cells) (hsl : slots + rm.slots ≤ R.slots)
    {g : JFrame} (hg : g.method = m) (hsize : g.locals.size = c.maxLocals) {argsL rest : List Value} (has : (.ref b :: argsL).toArray = as') (hlen : ∀ sig, parseMethodDescriptor y.desc = some sig → argsL.length = sig.parameters.length)
    (hstack : g.stack = argsL.reverse ++ .ref b :: rest) (hW : 2 * g.monitorRoom + (rest.map fun v => v.category).sum ≤ W) (hd : decode c.code g.pc = .ok (.invokeinterface index count, 5)) :
    own_After p l e R s m args below meth c T locs (cells + rm.cells) (slots + rm.slots) g rest Q 5 := by
  obtain ⟨cq, kq, q1, q2, q3⟩ := isOf hZ eT E
  obtain ⟨v, vm1, ⟨T', L', k', n'⟩, -, X', ⟨Lc, hQ, l1, y1, z1⟩, st⟩ := X.interfaceBack hx (xi := y) (y := z) hown (mvT hZ w1) (mvT hZ w2) (mvT hZ w7 h7) (mvT hZ w3) (mvT hZ w5) (mvT hZ w8) (mvT hZ w9) (mvT hZ w10) hy (backOf (W := W) hM hZ w4 w6 hf hl) q1 q2 q3 hg hsize (Steps.refl _) hlen hstack hW hd (fun _ _ => ⟨has, eT, hc, hsl⟩)
  dsimp only [Pt.U, Pt.locs, Pt.cells, Pt.slots] at X' l1 y1 z1 st hQ
  subst l1 y1 z1
  exact ⟨T', _, v, Lc, X', rfl, hQ, fun _ k => st.trans k⟩
theorem own_callP (X : Stand p l e R s m args below meth c T locs cells slots) (hx : p.tables.exec = Jvm.exec) (hZ : Z.Warmed39 s.vm) (hown : s.vm.findClass own = some m.cls) (eT : T.heap = h) {b : Addr} {C : String}
    (w1 : (Jvm.Cond.methodLink own index y).before a0 Z = true) (w5 : (Jvm.Cond.instanceMethod y).before a0 Z = true) (w3 : (Jvm.Cond.selects y.cls y y).before a0 Z = true) (w7 : (Jvm.Cond.privateMethod y).before a0 Z = true) (w6 : (Jvm.Cond.initialized y.cls).before a0 Z = true) (w4 : (Jvm.Cond.code y bytes maxL ret).before a0 Z = true) (hy : y.cls ≠ "java/lang/invoke/MethodHandle" ∧ y.cls ≠ "java/lang/invoke/VarHandle")
    (E : Exa Z h b C) (hM : own_Met l Z h y bytes maxL ret [] rm as' Q rm.cells rm.slots)
    (hf : rm.frames + 1 ≤ R.frames) (hl : W + (maxL + 11) + rm.locals ≤ R.locals) (hc : cells + rm.cells ≤ R.cells) (hsl : slots + rm.slots ≤ R.slots)
    {g : JFrame} (hg : g.method = m) (hsize : g.locals.size = c.maxLocals) {argsL rest : List Value} (has : (.ref b :: argsL).toArray = as') (hlen : ∀ sig, parseMethodDescriptor y.desc = some sig → argsL.length = sig.parameters.length)
    (hstack : g.stack = argsL.reverse ++ .ref b :: rest) (hW : 2 * g.monitorRoom + (rest.map fun v => v.category).sum ≤ W) (hd : decode c.code g.pc = .ok (.invokevirtual index, 3)) :
    own_After p l e R s m args below meth c T locs (cells + rm.cells) (slots + rm.slots) g rest Q := by
  obtain ⟨cell, hcell, hobj⟩ := E.cell
  obtain ⟨v, vm1, ⟨T', L', k', n'⟩, -, X', ⟨Lc, hQ, l1, y1, z1⟩, st⟩ := X.privateBack hx (y := y) hown (mvT hZ w1) (mvT hZ w5) (mvT hZ w3) (Cond.privateMethod_at (mvP (args := #[]) hZ w7)) (mvT hZ w4) hy (backOf (W := W) hM hZ w4 w6 hf hl) hg hsize (Steps.refl _) (by rw [eT]; exact hcell) hobj hlen hstack hW hd (fun _ _ => ⟨has, eT, hc, hsl⟩)
  dsimp only [Pt.U, Pt.locs, Pt.cells, Pt.slots] at X' l1 y1 z1 st hQ
  subst l1 y1 z1
  exact ⟨T', _, v, Lc, X', rfl, hQ, fun _ k => st.trans k⟩
theorem own_lsw (X : Stand p l e R s m args below meth c T locs cells slots) (hx : p.tables.exec = Jvm.exec) {g : JFrame} (hg : g.method = m) {k : Int32} {rest : List Value} (hs : g.stack = .int k :: rest) {dflt : Int} {pairs : Array (Int × Int)} {len : Nat} (hd : decode c.code g.pc = .ok (.lookupswitch dflt pairs, len))
    (hsorted : (pairs.toList.zip (pairs.toList.drop 1)).all (fun (a, next) => a.1 < next.1) = true) {a off : Int} (hfind : pairs.find? (·.1 == k.toInt) = some (a, off)) {pc0 pc' : Nat} (hpc : g.pc = pc0) (ho : 0 ≤ (pc0 : Int) + off) (hp : ((pc0 : Int) + off).toNat = pc') :
    ∀ t, Steps p.tables e below (T.setTop { g with pc := pc', stack := rest }) t → Steps p.tables e below (T.setTop g) t := by
  subst hpc hp; exact fun t hr => X.lookupswitchHit hx hg hs hd hsorted hfind ho t hr
theorem own_rne {a b : Addr} (h : a ≠ b) : ¬ (Value.ref a = Value.ref b) := fun q => h (Value.ref.inj q)
def own_pl : Value → Bool
  | .int _ => true
  | .ref _ => true
  | .null => true
  | .long _ => true
  | _ => false
theorem own_eqv {args : Array Value} {f : State} {o : Option Outcome} {idx : List Nat} {t u : Term} {x y : Value} (ha : t.eval args f o idx s = some x) (hb : u.eval args f o idx s = some y) (h : (Jvm.Cond.eq t u).value args f o s idx = some true) (hk : own_pl y = true := by rfl) : x = y := by
  cases x <;> cases y <;> simp [Jvm.Cond.value, ha, hb, own_pl] at h hk ⊢ <;> first | exact h | exact h.symm
theorem own_fv {args : Array Value} {t u : Term} {O n d : String} {a : Addr} {y : Value} (ht : t.eval args s none [] s = some (.ref a)) (hu : u.eval args s none [] s = some y) (h : (Jvm.Cond.eq (.field t O n d) u).value args s none s [] = some true) (hk : own_pl y = true := by rfl) : Fld s s.heap a O n d y := by
  obtain ⟨x, y', e1, e2, -, -⟩ := cmp_v (Or.inl h)
  have q := own_eqv e1 hu h hk
  subst q
  exact Fld.start ((fld_at ht).symm.trans e1)
end Own
section OwnArr
variable {p : Program} {l : Launch} {e : Env} {R : Room} {s : State} {m : MethodId} {args : Array Value} {below : List Frame} {meth : Method} {c : Code} {T : State} {locs : List Loc} {cells slots : Nat} {Z : State} {a0 : Array Value} {h : Heap} {a : Addr} {k : ClassId} {ty : FieldType} {z j : Int32} {vs : List Value} {dv v : Value}
theorem own_newA (A : Arr Z h a (newA k ty z) ty) (q : ¬ z < 0) (hv : vs = List.replicate z.toNatClampNeg (defaultValue ty)) (hd : dv = defaultValue ty) : Arv Z h a k ty z vs dv := by
  subst hv hd; exact (Arv.new A q).pad (pad_rep [] _ _)
theorem own_newP (X : Stand p l e R s m args below meth c T locs cells slots) (hx : p.tables.exec = Jvm.exec) (hZ : Z.Warmed39 s.vm) {aty : ArrayType} (w : (Jvm.Cond.arrayClass (newarray.typeOf aty)).before a0 Z = true) (eT : T.heap = h) {nm : String} (hnm : "[" ++ (newarray.typeOf aty).toString = nm)
    {g : JFrame} (hg : g.method = m) (hd : decode c.code g.pc = .ok (.newarray aty, 2)) {n : Int32} {rest : List Value} (hs : g.stack = .int n :: rest) (hn : ¬ n < 0) {cap : Nat} (hcap : n.toNatClampNeg ≤ cap) (hb : cap * 8 ≤ 536870912) (hc : cells + 1 ≤ R.cells) (hl : slots + cap ≤ R.slots) :
    ∃ T' h' cA, Stand p l e R s m args below meth c T' locs (cells + 1) (slots + cap) ∧ T'.heap = h' ∧ Ext h h' ∧ Arr Z h' h.size (newA cA (newarray.typeOf aty) n) (newarray.typeOf aty) ∧ Exa Z h' h.size nm ∧
      ∀ target, Steps p.tables e below (T'.setTop { g with pc := g.pc + 2, stack := .ref h.size :: rest }) target → Steps p.tables e below (T.setTop g) target := by
  subst hnm eT
  obtain ⟨cA, kA, comp, h1, h2, h3, X', st⟩ := X.newarrayPrim hx (mvA hZ w) hg hd hs hn (Nat.le_trans (Nat.mul_le_mul hcap (by cases aty <;> decide : componentBytes (newarray.typeOf aty) ≤ 8)) hb) hc (by omega)
  rw [hZ.alike.findClass] at h1
  obtain ⟨kZ, z1, -⟩ := Vm.findClass_spec h1
  obtain ⟨k', z2, z3⟩ := hZ.alike.2.2 _ _ z1
  cases h2.symm.trans z2
  have hk : kZ.kind = .array comp (newarray.typeOf aty) := by rw [← h3, z3]
  have hN : (T.heap.push (newA cA (newarray.typeOf aty) n))[T.heap.size]? = some (newA cA (newarray.typeOf aty) n) := by simp
  have hE : Ext T.heap (T.heap.push (newA cA (newarray.typeOf aty) n)) := ext_of fun a q => Array.getElem?_push_lt q |>.trans (Array.getElem?_eq_getElem q).symm
  exact ⟨_, _, cA, X'.more (Nat.le_refl _) (by omega), rfl, hE, ⟨hN, ⟨by simp [newA], kZ, z1, comp, hk⟩, by simp [newA]⟩, ⟨_, kZ, hN, h1, z1, rfl, fun q => by rw [hk] at q; cases q⟩, st⟩
theorem own_len (X : Stand p l e R s m args below meth c T locs cells slots) (hx : p.tables.exec = Jvm.exec) (hZ : Z.Warmed39 s.vm) (eT : T.heap = h) (A : Arv Z h a k ty z vs dv) {g : JFrame} (hg : g.method = m) {rest : List Value} (hs : g.stack = .ref a :: rest) (hd : decode c.code g.pc = .ok (.arraylength, 1)) :
    ∀ target, Steps p.tables e below (T.setTop { g with pc := g.pc + 1, stack := .int z :: rest }) target → Steps p.tables e below (T.setTop g) target := by
  obtain ⟨cl, A1, q1, S, q3, H, G⟩ := A
  intro target hr
  refine X.arraylength hx (cell := cl) (by rw [eT]; exact A1.1) (State.isArrayOf_alike hZ.alike A1.2.1) hg hs hd target ?_
  rw [len_of S q3]; exact hr
theorem own_iaload (X : Stand p l e R s m args below meth c T locs cells slots) (hx : p.tables.exec = Jvm.exec) (hZ : Z.Warmed39 s.vm) (eT : T.heap = h) (A : Arv Z h a k .int z vs dv) (hj : ¬ j < 0 ∧ j < z) (hv : vs.getD j.toNatClampNeg dv = v) {g : JFrame} (hg : g.method = m) {rest : List Value} (hs : g.stack = .int j :: .ref a :: rest) (hd : decode c.code g.pc = .ok (.iaload, 1)) :
    ∀ target, Steps p.tables e below (T.setTop { g with pc := g.pc + 1, stack := v :: rest }) target → Steps p.tables e below (T.setTop g) target := by
  obtain ⟨cl, A1, q1, S, q3, H, G⟩ := A
  exact fun t k => X.iaload hx (by rw [eT]; exact A1.1) (State.isArrayOf_alike hZ.alike A1.2.1) A1.2.2 (inb_of S hj) (H.at (inb_of S hj) hv) hg hs hd t k
theorem own_baload (X : Stand p l e R s m args below meth c T locs cells slots) (hx : p.tables.exec = Jvm.exec) (hZ : Z.Warmed39 s.vm) (eT : T.heap = h) (A : Arv Z h a k .byte z vs dv) (hj : ¬ j < 0 ∧ j < z) (hv : vs.getD j.toNatClampNeg dv = v) {g : JFrame} (hg : g.method = m) {rest : List Value} (hs : g.stack = .int j :: .ref a :: rest) (hd : decode c.code g.pc = .ok (.baload, 1)) :
    ∀ target, Steps p.tables e below (T.setTop { g with pc := g.pc + 1, stack := v :: rest }) target → Steps p.tables e below (T.setTop g) target := by
  obtain ⟨cl, A1, q1, S, q3, H, G⟩ := A
  exact fun t k => X.baloadBytes hx (by rw [eT]; exact A1.1) (State.isArrayOf_alike hZ.alike A1.2.1) A1.2.2 (inb_of S hj) (H.at (inb_of S hj) hv) hg hs hd t k
theorem own_caload (X : Stand p l e R s m args below meth c T locs cells slots) (hx : p.tables.exec = Jvm.exec) (hZ : Z.Warmed39 s.vm) (eT : T.heap = h) (A : Arv Z h a k .char z vs dv) (hj : ¬ j < 0 ∧ j < z) (hv : vs.getD j.toNatClampNeg dv = v) {g : JFrame} (hg : g.method = m) {rest : List Value} (hs : g.stack = .int j :: .ref a :: rest) (hd : decode c.code g.pc = .ok (.caload, 1)) :
    ∀ target, Steps p.tables e below (T.setTop { g with pc := g.pc + 1, stack := v :: rest }) target → Steps p.tables e below (T.setTop g) target := by
  obtain ⟨cl, A1, q1, S, q3, H, G⟩ := A
  exact fun t k => X.caload hx (by rw [eT]; exact A1.1) (State.isArrayOf_alike hZ.alike A1.2.1) A1.2.2 (inb_of S hj) (H.at (inb_of S hj) hv) hg hs hd t k
theorem own_aaload (X : Stand p l e R s m args below meth c T locs cells slots) (hx : p.tables.exec = Jvm.exec) (hZ : Z.Warmed39 s.vm) (eT : T.heap = h) (A : Arv Z h a k ty z vs dv) (hty : ty.isReference = true) (hj : ¬ j < 0 ∧ j < z) (hv : vs.getD j.toNatClampNeg dv = v) {g : JFrame} (hg : g.method = m) {rest : List Value} (hs : g.stack = .int j :: .ref a :: rest) (hd : decode c.code g.pc = .ok (.aaload, 1)) :
    ∀ target, Steps p.tables e below (T.setTop { g with pc := g.pc + 1, stack := v :: rest }) target → Steps p.tables e below (T.setTop g) target := by
  obtain ⟨cl, A1, q1, S, q3, H, G⟩ := A
  exact fun t k => X.aaload hx (by rw [eT]; exact A1.1) (State.isArrayOf_alike hZ.alike A1.2.1) hty A1.2.2 (inb_of S hj) (H.at (inb_of S hj) hv) hg hs hd t k
theorem own_stB (X : Stand p l e R s m args below meth c T locs cells slots) (hx : p.tables.exec = Jvm.exec) (hZ : Z.Warmed39 s.vm) (eT : T.heap = h) (A : Arv Z h a k .byte z vs dv) {x x' : Int32} (i : Nat) (hn : nar .byte x = x') (hji : j.toNatClampNeg = i) (hj : ¬ j < 0 ∧ j < z) (hi : i < vs.length) {g : JFrame} (hg : g.method = m) {rest : List Value} (hs : g.stack = .int x :: .int j :: .ref a :: rest) (hd : decode c.code g.pc = .ok (.bastore, 1)) :
    ∃ T' h', Stand p l e R s m args below meth c T' (locs ++ [⟨a, i⟩]) cells slots ∧ T'.heap = h' ∧ Wr h h' a i (.int x') ∧ Arv Z h' a k .byte z (vs.set i (.int x')) dv ∧ ∀ target, Steps p.tables e below (T'.setTop { g with pc := g.pc + 1, stack := rest }) target → Steps p.tables e below (T.setTop g) target := by
  obtain ⟨cl, A1, q1, S, q3, H, G⟩ := A
  obtain ⟨T', h', X', e', W, st⟩ := stB X hx hZ eT A1 (inb_of S hj) hg hs hd
  subst hn hji
  exact ⟨T', h', X', e', W, Arv.set A1 q1 S q3 H G (fits_byte_narrow x) W _ rfl hi, st⟩
theorem own_stC (X : Stand p l e R s m args below meth c T locs cells slots) (hx : p.tables.exec = Jvm.exec) (hZ : Z.Warmed39 s.vm) (eT : T.heap = h) (A : Arv Z h a k .char z vs dv) {x x' : Int32} (i : Nat) (hn : nar .char x = x') (hji : j.toNatClampNeg = i) (hj : ¬ j < 0 ∧ j < z) (hi : i < vs.length) {g : JFrame} (hg : g.method = m) {rest : List Value} (hs : g.stack = .int x :: .int j :: .ref a :: rest) (hd : decode c.code g.pc = .ok (.castore, 1)) :
    ∃ T' h', Stand p l e R s m args below meth c T' (locs ++ [⟨a, i⟩]) cells slots ∧ T'.heap = h' ∧ Wr h h' a i (.int x') ∧ Arv Z h' a k .char z (vs.set i (.int x')) dv ∧ ∀ target, Steps p.tables e below (T'.setTop { g with pc := g.pc + 1, stack := rest }) target → Steps p.tables e below (T.setTop g) target := by
  obtain ⟨cl, A1, q1, S, q3, H, G⟩ := A
  obtain ⟨T', h', X', e', W, st⟩ := stC X hx hZ eT A1 (inb_of S hj) hg hs hd
  subst hn hji
  exact ⟨T', h', X', e', W, Arv.set A1 q1 S q3 H G (fits_nar_char x) W _ rfl hi, st⟩
theorem own_stI (X : Stand p l e R s m args below meth c T locs cells slots) (hx : p.tables.exec = Jvm.exec) (hZ : Z.Warmed39 s.vm) (eT : T.heap = h) (A : Arv Z h a k .int z vs dv) {x : Int32} (i : Nat) (hji : j.toNatClampNeg = i) (hj : ¬ j < 0 ∧ j < z) (hi : i < vs.length) {g : JFrame} (hg : g.method = m) {rest : List Value} (hs : g.stack = .int x :: .int j :: .ref a :: rest) (hd : decode c.code g.pc = .ok (.iastore, 1)) :
    ∃ T' h', Stand p l e R s m args below meth c T' (locs ++ [⟨a, i⟩]) cells slots ∧ T'.heap = h' ∧ Wr h h' a i (.int x) ∧ Arv Z h' a k .int z (vs.set i (.int x)) dv ∧ ∀ target, Steps p.tables e below (T'.setTop { g with pc := g.pc + 1, stack := rest }) target → Steps p.tables e below (T.setTop g) target := by
  obtain ⟨cl, A1, q1, S, q3, H, G⟩ := A
  obtain ⟨T', h', X', e', W, st⟩ := stI X hx hZ eT A1 (inb_of S hj) hg hs hd
  subst hji
  exact ⟨T', h', X', e', W, Arv.set A1 q1 S q3 H G rfl W _ rfl hi, st⟩
theorem own_stR (X : Stand p l e R s m args below meth c T locs cells slots) (hx : p.tables.exec = Jvm.exec) (hZ : Z.Warmed39 s.vm) (eT : T.heap = h) (A : Arv Z h a k ty z vs dv) (hty : ty.isReference = true) (i : Nat) (F : Sto Z h a v) (hf : fits ty v = true) (hji : j.toNatClampNeg = i) (hj : ¬ j < 0 ∧ j < z) (hi : i < vs.length) {g : JFrame} (hg : g.method = m) {rest : List Value} (hs : g.stack = v :: .int j :: .ref a :: rest) (hd : decode c.code g.pc = .ok (.aastore, 1)) :
    ∃ T' h', Stand p l e R s m args below meth c T' (locs ++ [⟨a, i⟩]) cells slots ∧ T'.heap = h' ∧ Wr h h' a i v ∧ Arv Z h' a k ty z (vs.set i v) dv ∧ ∀ target, Steps p.tables e below (T'.setTop { g with pc := g.pc + 1, stack := rest }) target → Steps p.tables e below (T.setTop g) target := by
  obtain ⟨cl, A1, q1, S, q3, H, G⟩ := A
  obtain ⟨T', h', X', e', W, st⟩ := stR X hx hZ eT A1 (inb_of S hj) hty F hg hs hd
  subst hji
  exact ⟨T', h', X', e', W, Arv.set A1 q1 S q3 H G hf W _ rfl hi, st⟩
theorem own_sto {C : String} {y : Addr} (A : Arv Z h a k ty z vs dv) (O : Ovr Z k C) (I : Ins Z h y C true) : Sto Z h a (.ref y) := by
  obtain ⟨cl, A1, q1, S, q3, H, G⟩ := A
  exact Sto.ofV A1 q1 O I
theorem own_narB (x : Int32) : nar .byte (x.toInt8.toInt32) = x.toInt8.toInt32 := Value.int.inj (XT.narrow_b x)
theorem own_narC (x : Int32) : nar .char (x.toUInt32.toUInt16.toUInt32.toInt32) = x.toUInt32.toUInt16.toUInt32.toInt32 := Value.int.inj (XT.narrow_c x)
theorem own_fitc {cl : Cell} (A : Arr Z h a cl ty) (H : Has cl vs dv) (G : ∀ i, i < cl.slots.size → fits ty (vs.getD i dv) = true) : FitC Z cl := fun i v hv => by
  obtain ⟨hi, q0⟩ := Array.getElem?_eq_some_iff.mp hv
  have q := G i hi
  have q2 := (H i hi).symm.trans hv
  rw [Option.some.inj q2] at q
  obtain ⟨hs, k, hk, comp, hkind⟩ := A.2.1
  simp [State.fitsSlot, State.slotType?, hk, hkind]; exact q
theorem own_clone (X : Stand p l e R s m args below meth c T locs cells slots) (hx : p.tables.exec = Jvm.exec) (hZ : Z.Warmed39 s.vm) {own ad : String} {index : Nat} (hown : s.vm.findClass own = some m.cls) (eT : T.heap = h)
    (w1 : (Jvm.Cond.methodLink own index ⟨ad, "clone", "()Ljava/lang/Object;"⟩).before a0 Z = true) (w2 : (Jvm.Cond.sameMethod ad "java/lang/Object" "clone" "()Ljava/lang/Object;").before a0 Z = true) (w3 : (Jvm.Cond.native ⟨"java/lang/Object", "clone", "()Ljava/lang/Object;"⟩).before a0 Z = true)
    (w4 : (Jvm.Cond.instanceMethod ⟨"java/lang/Object", "clone", "()Ljava/lang/Object;"⟩).before a0 Z = true) (w5 : (Jvm.Cond.selects ad ⟨ad, "clone", "()Ljava/lang/Object;"⟩ ⟨"java/lang/Object", "clone", "()Ljava/lang/Object;"⟩).before a0 Z = true) (w6 : (Jvm.Cond.castable ad "java/lang/Cloneable").before a0 Z = true)
    (A : Arv Z h a k ty z vs dv) (E : Exa Z h a ad) {g : JFrame} (hg : g.method = m) (hsize : g.locals.size = c.maxLocals) {rest : List Value} (hs : g.stack = .ref a :: rest) (hd : decode c.code g.pc = .ok (.invokevirtual index, 3))
    (hf : 1 ≤ R.frames) {W cap : Nat} (hW : 2 * g.monitorRoom + (rest.map fun v => v.category).sum ≤ W) (hl : W + 14 ≤ R.locals) (hcap : z.toNatClampNeg ≤ cap) (hc : cells + 1 ≤ R.cells) (hsl : slots + cap ≤ R.slots) :
    ∃ T' h', Stand p l e R s m args below meth c T' locs (cells + 1) (slots + cap) ∧ T'.heap = h' ∧ Ext h h' ∧ Arv Z h' h.size k ty z vs dv ∧ Exa Z h' h.size ad ∧
      ∀ target, Steps p.tables e below (T'.setTop { g with pc := g.pc + 3, stack := .ref h.size :: rest }) target → Steps p.tables e below (T.setTop g) target := by
  obtain ⟨cl, A1, q1, S, q3, H, G⟩ := A
  obtain ⟨T', h', X', e', E', A', E2, st⟩ := cloneA X hx hZ hown w1 w2 w3 w4 w5 w6 eT A1 E (own_fitc A1 H G) hg hsize hs hd hf hW hl (by rw [S]; exact hcap) hc hsl
  exact ⟨T', h', X', e', E', ⟨_, A', q1, S, q3, H, G⟩, E2, st⟩
end OwnArr
section OwnCase
variable {s : State} {args : Array Value} {t u : Term} {a : Addr} {ty : FieldType} {n j : Int32} {vs : List Value} {dv v : Value} {cl : Cell}
theorem own_ev {y : Value} (hb : u.eval args s none [] s = some y) (h : (Jvm.Cond.eq t u).value args s none s [] = some true) (hk : own_pl y = true := by rfl) : t.eval args s none [] s = some y := by
  obtain ⟨x, y', e1, e2, -, -⟩ := cmp_v (Or.inl h)
  rw [own_eqv e1 hb h hk] at e1; exact e1
theorem own_ev' {y : Value} (hb : t.eval args s none [] s = some y) (h : (Jvm.Cond.eq t u).value args s none s [] = some true) (hk : own_pl y = true := by rfl) : u.eval args s none [] s = some y := by
  obtain ⟨x, y', e1, e2, -, -⟩ := cmp_v (Or.inl h)
  cases hb.symm.trans e1
  cases y <;> cases y' <;> simp [Jvm.Cond.value, e1, e2, own_pl] at h hk ⊢ <;> simp_all
theorem own_elem (ev : t.eval args s none [] s = some (.ref a)) (hu : u.eval args s none [] s = some v) (h : (Jvm.Cond.eq (.elem t (.int j)) u).value args s none s [] = some true) (hc : s.heap[a]? = some cl) (hk : own_pl v = true := by rfl) : cl.slots[j.toNatClampNeg]? = some v := by
  have e1 := own_ev hu h hk
  obtain ⟨c', e3, e4, e5⟩ := elem_at e1 ev (Term.int_eval j)
  cases hc.symm.trans e3; exact e5
theorem own_arr (hf : Fit s) (ev : t.eval args s none [] s = some (.ref a)) (h1 : (Jvm.Cond.arrayOf t ty).value args s none s [] = some true) (h2 : (Jvm.Cond.eq (.length t) (.int n)).value args s none s [] = some true) (hn : ¬ n < 0) (hl : n.toNatClampNeg = vs.length)
    (he : ∀ cl : Cell, s.heap[a]? = some cl → s.arrayAt? a = some cl → cl.slots.size = n.toNatClampNeg → HasL cl 0 vs) : ∃ k, Arv s s.heap a k ty n vs dv := by
  obtain ⟨cl, A⟩ := Arr.start ev h1
  have e1 := own_ev (Term.int_eval n) h2
  obtain ⟨a', cl', b1, b2, b3⟩ := Term.length_spec e1
  cases ev.symm.trans b1
  have hc' := (State.arrayAt?_spec b2).1
  cases A.1.symm.trans hc'
  have hsz : cl.slots.size.toInt32 = n := (Value.int.inj b3).symm
  have hlt : cl.slots.size < 2 ^ 31 := by
    by_cases q : cl.slots.size < 2147483648
    · exact q
    · simp [Term.eval, ev, b2, q] at e1
  have hS : cl.slots.size = n.toNatClampNeg := by rw [← hsz]; simp only [Int32.toNatClampNeg, len_toInt hlt]; rfl
  exact ⟨_, Arv.start hf A hlt hsz hn hl (he cl hc' b2 hS)⟩
theorem own_allat {C nm d : String} {i : Nat} {b : Int32} (hi : j.toNatClampNeg = i) (hj : ¬ j < 0) (ev : (Term.static C nm d).eval args s none [] s = some (.ref a)) (hc : s.heap[a]? = some cl) (ha : s.arrayAt? a = some cl) (hlt : i < cl.slots.size) (hb : ¬ b ≤ j)
    (h : (Jvm.Cond.all (.static C nm d) (.or (.le (.int b) (.index 0)) (.eq (.elem (.static C nm d) (.index 0)) (.index 0)))).value args s none s [] = some true) : cl.slots[i]? = some (.int j) := by
  have h' := Cond.all_elim ev ha h i hlt
  subst hi
  have e1 : (Term.index 0).eval args s none [j.toNatClampNeg] s = some (.int j) := idx_at hj
  have e2 : (Jvm.Cond.le (.int b) (.index 0)).value args s none s [j.toNatClampNeg] = some false := by
    rw [Cond.le_ints (Term.int_eval b) e1]; simp [hb]
  rw [Cond.or_of_right e2] at h'
  obtain ⟨x, y, q1, q2, -, -⟩ := cmp_v (Or.inl h')
  have q := own_eqv q1 e1 h'
  subst q
  obtain ⟨c', e3, e4, e5⟩ := elem_at q1 (show (Term.static C nm d).eval args s none [j.toNatClampNeg] s = some (.ref a) from ev) e1
  cases hc.symm.trans e3; exact e5
end OwnCase
theorem own_bm32 {n : Int} (h1 : -2147483648 ≤ n) (h2 : n < 2147483648) : n.bmod (2 ^ 32) = n := Int.bmod_eq_of_le (by omega) (by omega)
theorem own_modlt (x : Int32) (n : Int32) (hn : 0 < n.toInt) : 0 ≤ ((x &&& 2147483647) % n).toInt ∧ ((x &&& 2147483647) % n).toInt < n.toInt := by
  have e := Jvm.Kit.i32_mask x 2147483647 (k := 31) (by decide) (by decide)
  rw [Int32.toInt_mod, e]
  have h0 : 0 ≤ x.toInt % 2 ^ 31 := Int.emod_nonneg _ (by decide)
  rw [Int.tmod_eq_emod_of_nonneg h0]
  exact ⟨Int.emod_nonneg _ (by omega), Int.emod_lt_of_pos _ hn⟩
theorem own_i32 {x : Int32} {k : Int32} (h : x.toInt = k.toInt) : x = k := Int32.toInt_inj.mp h
theorem own_in2 {x : Int32} (h : 0 ≤ x.toInt ∧ x.toInt < 2) : x = 0 ∨ x = 1 := by
  rcases (by omega : x.toInt = 0 ∨ x.toInt = 1) with q | q
  · exact .inl (own_i32 (k := 0) q)
  · exact .inr (own_i32 (k := 1) q)
theorem own_in3 {x : Int32} (h : 0 ≤ x.toInt ∧ x.toInt < 3) : x = 0 ∨ x = 1 ∨ x = 2 := by
  rcases (by omega : x.toInt = 0 ∨ x.toInt = 1 ∨ x.toInt = 2) with q | q | q
  · exact .inl (own_i32 (k := 0) q)
  · exact .inr (.inl (own_i32 (k := 1) q))
  · exact .inr (.inr (own_i32 (k := 2) q))
theorem own_in4 {x : Int32} (h : 0 ≤ x.toInt ∧ x.toInt < 4) : x = 0 ∨ x = 1 ∨ x = 2 ∨ x = 3 := by
  rcases (by omega : x.toInt = 0 ∨ x.toInt = 1 ∨ x.toInt = 2 ∨ x.toInt = 3) with q | q | q | q
  · exact .inl (own_i32 (k := 0) q)
  · exact .inr (.inl (own_i32 (k := 1) q))
  · exact .inr (.inr (.inl (own_i32 (k := 2) q)))
  · exact .inr (.inr (.inr (own_i32 (k := 3) q)))
theorem own_in5 {x : Int32} (h : 0 ≤ x.toInt ∧ x.toInt < 5) : x = 0 ∨ x = 1 ∨ x = 2 ∨ x = 3 ∨ x = 4 := by
  rcases (by omega : x.toInt = 0 ∨ x.toInt = 1 ∨ x.toInt = 2 ∨ x.toInt = 3 ∨ x.toInt = 4) with q | q | q | q | q
  · exact .inl (own_i32 (k := 0) q)
  · exact .inr (.inl (own_i32 (k := 1) q))
  · exact .inr (.inr (.inl (own_i32 (k := 2) q)))
  · exact .inr (.inr (.inr (.inl (own_i32 (k := 3) q))))
  · exact .inr (.inr (.inr (.inr (own_i32 (k := 4) q))))
theorem own_in6 {x : Int32} (h : 0 ≤ x.toInt ∧ x.toInt < 6) : x = 0 ∨ x = 1 ∨ x = 2 ∨ x = 3 ∨ x = 4 ∨ x = 5 := by
  rcases (by omega : x.toInt = 0 ∨ x.toInt = 1 ∨ x.toInt = 2 ∨ x.toInt = 3 ∨ x.toInt = 4 ∨ x.toInt = 5) with q | q | q | q | q | q
  · exact .inl (own_i32 (k := 0) q)
  · exact .inr (.inl (own_i32 (k := 1) q))
  · exact .inr (.inr (.inl (own_i32 (k := 2) q)))
  · exact .inr (.inr (.inr (.inl (own_i32 (k := 3) q))))
  · exact .inr (.inr (.inr (.inr (.inl (own_i32 (k := 4) q)))))
  · exact .inr (.inr (.inr (.inr (.inr (own_i32 (k := 5) q)))))
theorem own_in7 {x : Int32} (h : 0 ≤ x.toInt ∧ x.toInt < 7) : x = 0 ∨ x = 1 ∨ x = 2 ∨ x = 3 ∨ x = 4 ∨ x = 5 ∨ x = 6 := by
  rcases (by omega : x.toInt = 0 ∨ x.toInt = 1 ∨ x.toInt = 2 ∨ x.toInt = 3 ∨ x.toInt = 4 ∨ x.toInt = 5 ∨ x.toInt = 6) with q | q | q | q | q | q | q
  · exact .inl (own_i32 (k := 0) q)
  · exact .inr (.inl (own_i32 (k := 1) q))
  · exact .inr (.inr (.inl (own_i32 (k := 2) q)))
  · exact .inr (.inr (.inr (.inl (own_i32 (k := 3) q))))
  · exact .inr (.inr (.inr (.inr (.inl (own_i32 (k := 4) q)))))
  · exact .inr (.inr (.inr (.inr (.inr (.inl (own_i32 (k := 5) q))))))
  · exact .inr (.inr (.inr (.inr (.inr (.inr (own_i32 (k := 6) q))))))
theorem own_ef0 (m : MethodId) (x0 : Int32) : entryFrame m #[(.int x0)] maxLocals = mkF m 0 #[.val (.int x0), .unset, .unset] [] := by first | (simp [entryFrame, mkF, argsToLocals, Value.category, maxLocals]; done) | rfl
theorem own_ef1 (m : MethodId) (x0 : Int32) : entryFrame m #[(.int x0)] 2 = mkF m 0 #[.val (.int x0), .unset] [] := by first | (simp [entryFrame, mkF, argsToLocals, Value.category]; done) | rfl
theorem dd0_0 : decode method_2_code 0 = .ok (.iload_n 0, 1) := by decide +kernel
theorem dd0_1 : decode method_2_code 1 = .ok (.ldc 7, 2) := by decide +kernel
theorem dd0_3 : decode method_2_code 3 = .ok (.iand, 1) := by decide +kernel
theorem dd0_4 : decode method_2_code 4 = .ok (.iconst 5, 1) := by decide +kernel
theorem dd0_5 : decode method_2_code 5 = .ok (.irem, 1) := by decide +kernel
theorem dd0_6 : decode method_2_code 6 = .ok (.istore_n 1, 1) := by decide +kernel
theorem dd0_7 : decode method_2_code 7 = .ok (.iload_n 1, 1) := by decide +kernel
theorem dd0_8 : decode method_2_code 8 = .ok (.ifCond .ne 7, 3) := by decide +kernel
theorem dd0_11 : decode method_2_code 11 = .ok (.getstatic 8, 3) := by decide +kernel
theorem dd0_14 : decode method_2_code 14 = .ok (.areturn, 1) := by decide +kernel
theorem dd0_15 : decode method_2_code 15 = .ok (.iload_n 1, 1) := by decide +kernel
theorem dd0_16 : decode method_2_code 16 = .ok (.iconst 1, 1) := by decide +kernel
theorem dd0_17 : decode method_2_code 17 = .ok (.if_icmp .ne 7, 3) := by decide +kernel
theorem dd0_20 : decode method_2_code 20 = .ok (.getstatic 14, 3) := by decide +kernel
theorem dd0_23 : decode method_2_code 23 = .ok (.areturn, 1) := by decide +kernel
theorem dd0_24 : decode method_2_code 24 = .ok (.iload_n 1, 1) := by decide +kernel
theorem dd0_25 : decode method_2_code 25 = .ok (.iconst 2, 1) := by decide +kernel
theorem dd0_26 : decode method_2_code 26 = .ok (.if_icmp .ne 7, 3) := by decide +kernel
theorem dd0_29 : decode method_2_code 29 = .ok (.getstatic 17, 3) := by decide +kernel
theorem dd0_32 : decode method_2_code 32 = .ok (.areturn, 1) := by decide +kernel
theorem dd0_33 : decode method_2_code 33 = .ok (.iload_n 1, 1) := by decide +kernel
theorem dd0_34 : decode method_2_code 34 = .ok (.iconst 3, 1) := by decide +kernel
theorem dd0_35 : decode method_2_code 35 = .ok (.if_icmp .ne 7, 3) := by decide +kernel
theorem dd0_38 : decode method_2_code 38 = .ok (.getstatic 20, 3) := by decide +kernel
theorem dd0_41 : decode method_2_code 41 = .ok (.areturn, 1) := by decide +kernel
theorem dd0_42 : decode method_2_code 42 = .ok (.getstatic 23, 3) := by decide +kernel
theorem dd0_45 : decode method_2_code 45 = .ok (.areturn, 1) := by decide +kernel
def own_Q2 (Z : State) (in_1 : Int32) (ob_2 : Addr) (ob_7 : Addr) (ob_8 : Addr) (ob_5 : Addr) (ob_11 : Addr) (h0 : Heap) (n0 : Nat) (v : Option Value) (h : Heap) (L : List Loc) : Prop := ((((in_1 &&& 2147483647) % 5) = 0) ∧ v = some (.ref ob_2) ∧ Fr n0 L ∧ h = h0) ∨ ((((in_1 &&& 2147483647) % 5) = 1) ∧ v = some (.ref ob_7) ∧ Fr n0 L ∧ h = h0) ∨ ((((in_1 &&& 2147483647) % 5) = 2) ∧ v = some (.ref ob_8) ∧ Fr n0 L ∧ h = h0) ∨ ((((in_1 &&& 2147483647) % 5) = 3) ∧ v = some (.ref ob_5) ∧ Fr n0 L ∧ h = h0) ∨ ((((in_1 &&& 2147483647) % 5) = 4) ∧ v = some (.ref ob_11) ∧ Fr n0 L ∧ h = h0)
theorem own_pn0 : plainFor (⟨"com/example/latente/latente/query/AggregateIsComputedPinLaw", "pick", "(I)Lcom/example/latente/latente/query/Aggregate;"⟩ : MethodName) = true := by decide +kernel
set_option maxRecDepth 65536 in
set_option maxHeartbeats 40000000 in
theorem own_rm2 (l : Launch) (Z : State) (a0 : Array Value) (hw : ∀ d ∈ tables_1, d.before a0 Z = true) (ws : List Jvm.Cond) (in_1 : Int32) (ob_2 : Addr) (ob_7 : Addr) (ob_8 : Addr) (ob_5 : Addr) (ob_11 : Addr) (h0 : Heap) (n0 : Nat) (Z0 : n0 ≤ h0.size) (O0 : Old Z n0 h0) (I19 : Sta Z Z.heap "com/example/latente/latente/query/Aggregate" "COUNT" "Lcom/example/latente/latente/query/Aggregate;" (.ref ob_2)) (I26 : Sta Z Z.heap "com/example/latente/latente/query/Aggregate" "SUM" "Lcom/example/latente/latente/query/Aggregate;" (.ref ob_7)) (I33 : Sta Z Z.heap "com/example/latente/latente/query/Aggregate" "AVG" "Lcom/example/latente/latente/query/Aggregate;" (.ref ob_8)) (I40 : Sta Z Z.heap "com/example/latente/latente/query/Aggregate" "MIN" "Lcom/example/latente/latente/query/Aggregate;" (.ref ob_5)) (I47 : Sta Z Z.heap "com/example/latente/latente/query/Aggregate" "MAX" "Lcom/example/latente/latente/query/Aggregate;" (.ref ob_11)) :
    own_Met l Z h0 (⟨"com/example/latente/latente/query/AggregateIsComputedPinLaw", "pick", "(I)Lcom/example/latente/latente/query/Aggregate;"⟩ : MethodName) method_2_code 2 (Option.some (FieldType.object "com/example/latente/latente/query/Aggregate")) ws ({ frames := 0, cells := 0, slots := 0, locals := 0 } : Room) #[(.int in_1)] (own_Q2 Z in_1 ob_2 ob_7 ob_8 ob_5 ob_11 h0 n0) 0 0 := by
  refine MetFree.of_bodySF own_pn0 hisR ?_
  intro p e s m args below meth c s₁ Bd hml0 hP hK
  obtain ⟨rfl, hZ, hh⟩ := hP
  have hx := Bd.exec
  have hby := Bd.bytes
  have hml : c.maxLocals = 2 := hml0
  have hown : s.vm.findClass "com/example/latente/latente/query/AggregateIsComputedPinLaw" = some m.cls := findClass_of_methodNamed Bd.named
  have hnm := (name_of_methodNamed Bd.named Bd.method).1
  have X0 : Stand p l e ({ frames := 0, cells := 0, slots := 0, locals := 0 } : Room) s m #[(.int in_1)] below meth c s₁ [] 0 0 := Stand.of_body Bd
  have e0 : s₁.heap = h0 := by rw [← hh, Bd.state]; rfl
  have N0 := Fr.nil n0
  show own_G p e below (s₁.setTop (entryFrame m #[(.int in_1)] 2)) (own_P s (own_Q2 Z in_1 ob_2 ob_7 ob_8 ob_5 ob_11 h0 n0) 0 0)
  refine own_cast (own_ef1 m in_1) ?_
  show own_G p e below (s₁.setTop (mkF m 0 #[iv in_1, .unset] [])) _
  refine oS (fun _ => XS.iloadN X0.here hx rfl (hb hby dd0_0) rfl) ?_
  refine oS (fun _ => X0.ldcI hx hown (mvT hZ (oW hw 4 rfl)) rfl (hb hby dd0_1)) ?_
  show own_G p e below (s₁.setTop (mkF m 3 #[iv in_1, .unset] [(.int 2147483647), (.int in_1)])) _
  refine oS (fun _ => XS.iand X0.here hx rfl (hb hby dd0_3) rfl) ?_
  refine oS (fun _ => XS.iconst X0.here hx rfl (hb hby dd0_4) ) ?_
  refine oS (fun _ => iremM X0 hx rfl (hb hby dd0_5) rfl (by decide)) ?_
  show own_G p e below (s₁.setTop (mkF m 6 #[iv in_1, .unset] [(.int ((in_1 &&& 2147483647) % 5))])) _
  rcases own_in5 (own_modlt in_1 5 (by decide)) with q13 | q14 | q15 | q16 | q17
  · skip
    refine own_cast (g' := (mkF m 6 #[iv in_1, .unset] [(.int 0)])) (by rw [q13]) ?_
    show own_G p e below (s₁.setTop (mkF m 6 #[iv in_1, .unset] [(.int 0)])) _
    refine oS (fun _ => XS.istoreN X0.here hx rfl (hb hby dd0_6) rfl (l' := #[iv in_1, iv 0]) rfl) ?_
    refine oS (fun _ => XS.iloadN X0.here hx rfl (hb hby dd0_7) rfl) ?_
    refine oS (fun _ => XS.ifNo X0.here hx rfl (hb hby dd0_8) rfl (XT.i0_ne_f (by decide))) ?_
    show own_G p e below (s₁.setTop (mkF m 11 #[iv in_1, iv 0] [])) _
    have F20 : Sta Z h0 "com/example/latente/latente/query/Aggregate" "COUNT" "Lcom/example/latente/latente/query/Aggregate;" (.ref ob_2) := Sta.ext O0.2 I19
    obtain ⟨T21, X22, e23, s24⟩ := getS X0 hx hZ hown (host := "") (oW hw 5 rfl) Via.refl e0 F20 (g := (mkF m 11 #[iv in_1, iv 0] [])) rfl (hb hby dd0_11)
    refine oS s24 ?_
    show own_G p e below (T21.setTop (mkF m 14 #[iv in_1, iv 0] [(.ref ob_2)])) _
    exact own_retA X22 hx Bd.notSynchronized Bd.returns rfl rfl (hb hby dd0_14) e23 (by decide) (by decide) (Or.inl ⟨q13, rfl, N0, rfl⟩)
  · skip
    refine own_cast (g' := (mkF m 6 #[iv in_1, .unset] [(.int 1)])) (by rw [q14]) ?_
    show own_G p e below (s₁.setTop (mkF m 6 #[iv in_1, .unset] [(.int 1)])) _
    refine oS (fun _ => XS.istoreN X0.here hx rfl (hb hby dd0_6) rfl (l' := #[iv in_1, iv 1]) rfl) ?_
    refine oS (fun _ => XS.iloadN X0.here hx rfl (hb hby dd0_7) rfl) ?_
    refine oS (fun _ => XS.ifYes X0.here hx rfl (pc0 := 8) (pc' := 15) rfl (hb hby dd0_8) rfl (XT.i0_ne_t (by decide)) (by decide) (by decide)) ?_
    show own_G p e below (s₁.setTop (mkF m 15 #[iv in_1, iv 1] [])) _
    refine oS (fun _ => XS.iloadN X0.here hx rfl (hb hby dd0_15) rfl) ?_
    refine oS (fun _ => XS.iconst X0.here hx rfl (hb hby dd0_16) ) ?_
    refine oS (fun _ => XS.icmpNo X0.here hx rfl (hb hby dd0_17) rfl (XT.ii_ne_f (by decide))) ?_
    show own_G p e below (s₁.setTop (mkF m 20 #[iv in_1, iv 1] [])) _
    have F27 : Sta Z h0 "com/example/latente/latente/query/Aggregate" "SUM" "Lcom/example/latente/latente/query/Aggregate;" (.ref ob_7) := Sta.ext O0.2 I26
    obtain ⟨T28, X29, e30, s31⟩ := getS X0 hx hZ hown (host := "") (oW hw 41 rfl) Via.refl e0 F27 (g := (mkF m 20 #[iv in_1, iv 1] [])) rfl (hb hby dd0_20)
    refine oS s31 ?_
    show own_G p e below (T28.setTop (mkF m 23 #[iv in_1, iv 1] [(.ref ob_7)])) _
    exact own_retA X29 hx Bd.notSynchronized Bd.returns rfl rfl (hb hby dd0_23) e30 (by decide) (by decide) (Or.inr (Or.inl ⟨q14, rfl, N0, rfl⟩))
  · skip
    refine own_cast (g' := (mkF m 6 #[iv in_1, .unset] [(.int 2)])) (by rw [q15]) ?_
    show own_G p e below (s₁.setTop (mkF m 6 #[iv in_1, .unset] [(.int 2)])) _
    refine oS (fun _ => XS.istoreN X0.here hx rfl (hb hby dd0_6) rfl (l' := #[iv in_1, iv 2]) rfl) ?_
    refine oS (fun _ => XS.iloadN X0.here hx rfl (hb hby dd0_7) rfl) ?_
    refine oS (fun _ => XS.ifYes X0.here hx rfl (pc0 := 8) (pc' := 15) rfl (hb hby dd0_8) rfl (XT.i0_ne_t (by decide)) (by decide) (by decide)) ?_
    show own_G p e below (s₁.setTop (mkF m 15 #[iv in_1, iv 2] [])) _
    refine oS (fun _ => XS.iloadN X0.here hx rfl (hb hby dd0_15) rfl) ?_
    refine oS (fun _ => XS.iconst X0.here hx rfl (hb hby dd0_16) ) ?_
    refine oS (fun _ => XS.icmpYes X0.here hx rfl (pc0 := 17) (pc' := 24) rfl (hb hby dd0_17) rfl (XT.ii_ne_t (by decide)) (by decide) (by decide)) ?_
    show own_G p e below (s₁.setTop (mkF m 24 #[iv in_1, iv 2] [])) _
    refine oS (fun _ => XS.iloadN X0.here hx rfl (hb hby dd0_24) rfl) ?_
    refine oS (fun _ => XS.iconst X0.here hx rfl (hb hby dd0_25) ) ?_
    refine oS (fun _ => XS.icmpNo X0.here hx rfl (hb hby dd0_26) rfl (XT.ii_ne_f (by decide))) ?_
    show own_G p e below (s₁.setTop (mkF m 29 #[iv in_1, iv 2] [])) _
    have F34 : Sta Z h0 "com/example/latente/latente/query/Aggregate" "AVG" "Lcom/example/latente/latente/query/Aggregate;" (.ref ob_8) := Sta.ext O0.2 I33
    obtain ⟨T35, X36, e37, s38⟩ := getS X0 hx hZ hown (host := "") (oW hw 54 rfl) Via.refl e0 F34 (g := (mkF m 29 #[iv in_1, iv 2] [])) rfl (hb hby dd0_29)
    refine oS s38 ?_
    show own_G p e below (T35.setTop (mkF m 32 #[iv in_1, iv 2] [(.ref ob_8)])) _
    exact own_retA X36 hx Bd.notSynchronized Bd.returns rfl rfl (hb hby dd0_32) e37 (by decide) (by decide) (Or.inr (Or.inr (Or.inl ⟨q15, rfl, N0, rfl⟩)))
  · skip
    refine own_cast (g' := (mkF m 6 #[iv in_1, .unset] [(.int 3)])) (by rw [q16]) ?_
    show own_G p e below (s₁.setTop (mkF m 6 #[iv in_1, .unset] [(.int 3)])) _
    refine oS (fun _ => XS.istoreN X0.here hx rfl (hb hby dd0_6) rfl (l' := #[iv in_1, iv 3]) rfl) ?_
    refine oS (fun _ => XS.iloadN X0.here hx rfl (hb hby dd0_7) rfl) ?_
    refine oS (fun _ => XS.ifYes X0.here hx rfl (pc0 := 8) (pc' := 15) rfl (hb hby dd0_8) rfl (XT.i0_ne_t (by decide)) (by decide) (by decide)) ?_
    show own_G p e below (s₁.setTop (mkF m 15 #[iv in_1, iv 3] [])) _
    refine oS (fun _ => XS.iloadN X0.here hx rfl (hb hby dd0_15) rfl) ?_
    refine oS (fun _ => XS.iconst X0.here hx rfl (hb hby dd0_16) ) ?_
    refine oS (fun _ => XS.icmpYes X0.here hx rfl (pc0 := 17) (pc' := 24) rfl (hb hby dd0_17) rfl (XT.ii_ne_t (by decide)) (by decide) (by decide)) ?_
    show own_G p e below (s₁.setTop (mkF m 24 #[iv in_1, iv 3] [])) _
    refine oS (fun _ => XS.iloadN X0.here hx rfl (hb hby dd0_24) rfl) ?_
    refine oS (fun _ => XS.iconst X0.here hx rfl (hb hby dd0_25) ) ?_
    refine oS (fun _ => XS.icmpYes X0.here hx rfl (pc0 := 26) (pc' := 33) rfl (hb hby dd0_26) rfl (XT.ii_ne_t (by decide)) (by decide) (by decide)) ?_
    show own_G p e below (s₁.setTop (mkF m 33 #[iv in_1, iv 3] [])) _
    refine oS (fun _ => XS.iloadN X0.here hx rfl (hb hby dd0_33) rfl) ?_
    refine oS (fun _ => XS.iconst X0.here hx rfl (hb hby dd0_34) ) ?_
    refine oS (fun _ => XS.icmpNo X0.here hx rfl (hb hby dd0_35) rfl (XT.ii_ne_f (by decide))) ?_
    show own_G p e below (s₁.setTop (mkF m 38 #[iv in_1, iv 3] [])) _
    have F41 : Sta Z h0 "com/example/latente/latente/query/Aggregate" "MIN" "Lcom/example/latente/latente/query/Aggregate;" (.ref ob_5) := Sta.ext O0.2 I40
    obtain ⟨T42, X43, e44, s45⟩ := getS X0 hx hZ hown (host := "") (oW hw 33 rfl) Via.refl e0 F41 (g := (mkF m 38 #[iv in_1, iv 3] [])) rfl (hb hby dd0_38)
    refine oS s45 ?_
    show own_G p e below (T42.setTop (mkF m 41 #[iv in_1, iv 3] [(.ref ob_5)])) _
    exact own_retA X43 hx Bd.notSynchronized Bd.returns rfl rfl (hb hby dd0_41) e44 (by decide) (by decide) (Or.inr (Or.inr (Or.inr (Or.inl ⟨q16, rfl, N0, rfl⟩))))
  · skip
    refine own_cast (g' := (mkF m 6 #[iv in_1, .unset] [(.int 4)])) (by rw [q17]) ?_
    show own_G p e below (s₁.setTop (mkF m 6 #[iv in_1, .unset] [(.int 4)])) _
    refine oS (fun _ => XS.istoreN X0.here hx rfl (hb hby dd0_6) rfl (l' := #[iv in_1, iv 4]) rfl) ?_
    refine oS (fun _ => XS.iloadN X0.here hx rfl (hb hby dd0_7) rfl) ?_
    refine oS (fun _ => XS.ifYes X0.here hx rfl (pc0 := 8) (pc' := 15) rfl (hb hby dd0_8) rfl (XT.i0_ne_t (by decide)) (by decide) (by decide)) ?_
    show own_G p e below (s₁.setTop (mkF m 15 #[iv in_1, iv 4] [])) _
    refine oS (fun _ => XS.iloadN X0.here hx rfl (hb hby dd0_15) rfl) ?_
    refine oS (fun _ => XS.iconst X0.here hx rfl (hb hby dd0_16) ) ?_
    refine oS (fun _ => XS.icmpYes X0.here hx rfl (pc0 := 17) (pc' := 24) rfl (hb hby dd0_17) rfl (XT.ii_ne_t (by decide)) (by decide) (by decide)) ?_
    show own_G p e below (s₁.setTop (mkF m 24 #[iv in_1, iv 4] [])) _
    refine oS (fun _ => XS.iloadN X0.here hx rfl (hb hby dd0_24) rfl) ?_
    refine oS (fun _ => XS.iconst X0.here hx rfl (hb hby dd0_25) ) ?_
    refine oS (fun _ => XS.icmpYes X0.here hx rfl (pc0 := 26) (pc' := 33) rfl (hb hby dd0_26) rfl (XT.ii_ne_t (by decide)) (by decide) (by decide)) ?_
    show own_G p e below (s₁.setTop (mkF m 33 #[iv in_1, iv 4] [])) _
    refine oS (fun _ => XS.iloadN X0.here hx rfl (hb hby dd0_33) rfl) ?_
    refine oS (fun _ => XS.iconst X0.here hx rfl (hb hby dd0_34) ) ?_
    refine oS (fun _ => XS.icmpYes X0.here hx rfl (pc0 := 35) (pc' := 42) rfl (hb hby dd0_35) rfl (XT.ii_ne_t (by decide)) (by decide) (by decide)) ?_
    show own_G p e below (s₁.setTop (mkF m 42 #[iv in_1, iv 4] [])) _
    have F48 : Sta Z h0 "com/example/latente/latente/query/Aggregate" "MAX" "Lcom/example/latente/latente/query/Aggregate;" (.ref ob_11) := Sta.ext O0.2 I47
    obtain ⟨T49, X50, e51, s52⟩ := getS X0 hx hZ hown (host := "") (oW hw 52 rfl) Via.refl e0 F48 (g := (mkF m 42 #[iv in_1, iv 4] [])) rfl (hb hby dd0_42)
    refine oS s52 ?_
    show own_G p e below (T49.setTop (mkF m 45 #[iv in_1, iv 4] [(.ref ob_11)])) _
    exact own_retA X50 hx Bd.notSynchronized Bd.returns rfl rfl (hb hby dd0_45) e51 (by decide) (by decide) (Or.inr (Or.inr (Or.inr (Or.inr (⟨q17, rfl, N0, rfl⟩)))))
theorem own_pd0 : parseMethodDescriptor "(I)Lcom/example/latente/latente/query/Aggregate;" = some ⟨[.int], (some (.object "com/example/latente/latente/query/Aggregate"))⟩ := by decide +kernel
theorem own_ef2 (m : MethodId) (x0 : Addr) (x1 : Addr) : entryFrame m #[(.ref x0), (.ref x1)] 2 = mkF m 0 #[.val (.ref x0), .val (.ref x1)] [] := by first | (simp [entryFrame, mkF, argsToLocals, Value.category]; done) | rfl
theorem dd1_0 : decode prog_5_method_5_code 0 = .ok (.aload_n 0, 1) := by decide +kernel
theorem own_ef3 (m : MethodId) (x0 : Addr) : entryFrame m #[(.ref x0)] 1 = mkF m 0 #[.val (.ref x0)] [] := by first | (simp [entryFrame, mkF, argsToLocals, Value.category]; done) | rfl
theorem dd2_0 : decode jdk_37_method_2_code 0 = .ok (.aload_n 0, 1) := by decide +kernel
theorem dd2_1 : decode jdk_37_method_2_code 1 = .ok (.getfield 7, 3) := by decide +kernel
theorem dd2_4 : decode jdk_37_method_2_code 4 = .ok (.ireturn, 1) := by decide +kernel
def own_Q4 (Z : State) (ob_2 : Addr) (h0 : Heap) (n0 : Nat) (v : Option Value) (h : Heap) (L : List Loc) : Prop := (v = some (.int 0) ∧ Fr n0 L ∧ h = h0)
theorem own_pn1 : plainFor (⟨"java/lang/Enum", "ordinal", "()I"⟩ : MethodName) = true := by decide +kernel
set_option maxRecDepth 65536 in
set_option maxHeartbeats 40000000 in
theorem own_rm4 (l : Launch) (Z : State) (a0 : Array Value) (hw : ∀ d ∈ tables_1, d.before a0 Z = true) (ws : List Jvm.Cond) (ob_2 : Addr) (h0 : Heap) (n0 : Nat) (Z0 : n0 ≤ h0.size) (O0 : Old Z n0 h0) (I86 : Fld Z Z.heap ob_2 "java/lang/Enum" "ordinal" "I" (.int 0)) :
    own_Met l Z h0 (⟨"java/lang/Enum", "ordinal", "()I"⟩ : MethodName) jdk_37_method_2_code 1 (Option.some FieldType.int) ws ({ frames := 0, cells := 0, slots := 0, locals := 0 } : Room) #[(.ref ob_2)] (own_Q4 Z ob_2 h0 n0) 0 0 := by
  refine MetFree.of_bodySF own_pn1 hisR ?_
  intro p e s m args below meth c s₁ Bd hml0 hP hK
  obtain ⟨rfl, hZ, hh⟩ := hP
  have hx := Bd.exec
  have hby := Bd.bytes
  have hml : c.maxLocals = 1 := hml0
  have hown : s.vm.findClass "java/lang/Enum" = some m.cls := findClass_of_methodNamed Bd.named
  have hnm := (name_of_methodNamed Bd.named Bd.method).1
  have X0 : Stand p l e ({ frames := 0, cells := 0, slots := 0, locals := 0 } : Room) s m #[(.ref ob_2)] below meth c s₁ [] 0 0 := Stand.of_body Bd
  have e0 : s₁.heap = h0 := by rw [← hh, Bd.state]; rfl
  have N0 := Fr.nil n0
  show own_G p e below (s₁.setTop (entryFrame m #[(.ref ob_2)] 1)) (own_P s (own_Q4 Z ob_2 h0 n0) 0 0)
  refine own_cast (own_ef3 m ob_2) ?_
  show own_G p e below (s₁.setTop (mkF m 0 #[rv ob_2] [])) _
  refine oS (fun _ => XS.aloadN X0.here hx rfl (hb hby dd2_0) rfl rfl) ?_
  have F87 : Fld Z h0 ob_2 "java/lang/Enum" "ordinal" "I" (.int 0) := Fld.ext O0.2 I86
  obtain ⟨T88, X89, e90, s91⟩ := getF X0 hx hZ hown (host := "") (Or.inl (oW hw 23 rfl)) Via.refl e0 F87 (g := (mkF m 1 #[rv ob_2] [(.ref ob_2)])) rfl rfl (hb hby dd2_1)
  refine oS s91 ?_
  show own_G p e below (T88.setTop (mkF m 4 #[rv ob_2] [(.int 0)])) _
  exact own_retI X89 hx Bd.notSynchronized Bd.returns (hb hby dd2_4) e90 (by decide) (by decide) (⟨rfl, N0, rfl⟩)
theorem own_pd1 : parseMethodDescriptor "()I" = some ⟨[], (some .int)⟩ := by decide +kernel
theorem dd1_1 : decode prog_5_method_5_code 1 = .ok (.invokevirtual 52, 3) := by decide +kernel
theorem dd1_4 : decode prog_5_method_5_code 4 = .ok (.tableswitch 52 0 2 #[28, 32, 37], 28) := by decide +kernel
theorem dd1_32 : decode prog_5_method_5_code 32 = .ok (.getstatic 56, 3) := by decide +kernel
theorem dd1_35 : decode prog_5_method_5_code 35 = .ok (.areturn, 1) := by decide +kernel
def own_Q3 (Z : State) (ob_2 : Addr) (ob_3 : Addr) (ob_4 : Addr) (h0 : Heap) (n0 : Nat) (v : Option Value) (h : Heap) (L : List Loc) : Prop := (v = some (.ref ob_4) ∧ Fr n0 L ∧ h = h0)
theorem own_pn2 : plainFor (⟨"com/example/latente/latente/query/Aggregate", "resultType", "(Lcom/example/latente/latente/mapping/BasicType;)Lcom/example/latente/latente/mapping/BasicType;"⟩ : MethodName) = true := by decide +kernel
set_option maxRecDepth 65536 in
set_option maxHeartbeats 40000000 in
theorem own_rm3 (l : Launch) (Z : State) (a0 : Array Value) (hw : ∀ d ∈ tables_1, d.before a0 Z = true) (ws : List Jvm.Cond) (ob_2 : Addr) (ob_3 : Addr) (ob_4 : Addr) (h0 : Heap) (n0 : Nat) (Z0 : n0 ≤ h0.size) (O0 : Old Z n0 h0) (I85 : Fld Z Z.heap ob_2 "java/lang/Enum" "ordinal" "I" (.int 0)) (I101 : Exa Z Z.heap ob_2 "com/example/latente/latente/query/Aggregate") (I109 : Sta Z Z.heap "com/example/latente/latente/mapping/BasicType" "LONG" "Lcom/example/latente/latente/mapping/BasicType;" (.ref ob_4)) :
    own_Met l Z h0 (⟨"com/example/latente/latente/query/Aggregate", "resultType", "(Lcom/example/latente/latente/mapping/BasicType;)Lcom/example/latente/latente/mapping/BasicType;"⟩ : MethodName) prog_5_method_5_code 2 (Option.some (FieldType.object "com/example/latente/latente/mapping/BasicType")) ws ({ frames := 1, cells := 0, slots := 0, locals := 12 } : Room) #[(.ref ob_2), (.ref ob_3)] (own_Q3 Z ob_2 ob_3 ob_4 h0 n0) 0 0 := by
  refine MetFree.of_bodySF own_pn2 hisR ?_
  intro p e s m args below meth c s₁ Bd hml0 hP hK
  obtain ⟨rfl, hZ, hh⟩ := hP
  have hx := Bd.exec
  have hby := Bd.bytes
  have hml : c.maxLocals = 2 := hml0
  have hown : s.vm.findClass "com/example/latente/latente/query/Aggregate" = some m.cls := findClass_of_methodNamed Bd.named
  have hnm := (name_of_methodNamed Bd.named Bd.method).1
  have X0 : Stand p l e ({ frames := 1, cells := 0, slots := 0, locals := 12 } : Room) s m #[(.ref ob_2), (.ref ob_3)] below meth c s₁ [] 0 0 := Stand.of_body Bd
  have e0 : s₁.heap = h0 := by rw [← hh, Bd.state]; rfl
  have N0 := Fr.nil n0
  show own_G p e below (s₁.setTop (entryFrame m #[(.ref ob_2), (.ref ob_3)] 2)) (own_P s (own_Q3 Z ob_2 ob_3 ob_4 h0 n0) 0 0)
  refine own_cast (own_ef2 m ob_2 ob_3) ?_
  show own_G p e below (s₁.setTop (mkF m 0 #[rv ob_2, rv ob_3] [])) _
  refine oS (fun _ => XS.aloadN X0.here hx rfl (hb hby dd1_0) rfl rfl) ?_
  have F102 : Exa Z h0 ob_2 "com/example/latente/latente/query/Aggregate" := Exa.ext O0.2 I101
  obtain ⟨T92, h93, v94, L95, X96, e97, q98, s99⟩ := own_callU X0 hx hZ hown e0 (y := (⟨"com/example/latente/latente/query/Aggregate", "ordinal", "()I"⟩ : MethodName)) (z := (⟨"java/lang/Enum", "ordinal", "()I"⟩ : MethodName)) (C := "com/example/latente/latente/query/Aggregate") (owner := "java/lang/Enum") (b := ob_2) (oW hw 16 rfl) (oW hw 17 rfl) (oW hw 18 rfl) (oW hw 20 rfl) (oW hw 19 rfl) (oW hw 21 rfl) (oW hw 22 rfl) (by decide) F102 (W := 0) (own_rm4 l Z a0 hw [] ob_2 h0 n0 Z0 O0 I85) (by decide) (by decide) (by decide) (by decide) (g := (mkF m 1 #[rv ob_2, rv ob_3] [(.ref ob_2)])) rfl (by rw [hml]; rfl) (argsL := []) (rest := []) rfl (lenOf own_pd1 rfl) rfl (by show 2 * 0 + _ ≤ _; exact Nat.le_of_eq rfl) (hb hby dd1_1)
  refine oS s99 ?_
  obtain ⟨rfl, N103, K104⟩ := q98
  have N105 := Fr.app N0 N103
  have e106 := e97.trans K104
  show own_G p e below (T92.setTop (mkF m 4 #[rv ob_2, rv ob_3] [(.int 0)])) _
  have u107 : ∀ t, Steps p.tables e below (T92.setTop (mkF m 32 #[rv ob_2, rv ob_3] [])) t → Steps p.tables e below (T92.setTop (mkF m 4 #[rv ob_2, rv ob_3] [(.int 0)])) t := fun t hr => XS.tswIn X96.here hx (g := (mkF m 4 #[rv ob_2, rv ob_3] [(.int 0)])) rfl (pc0 := 4) (pc' := 32) rfl (hb hby dd1_4) rfl (by decide +kernel) (o := 28) (by decide +kernel) (by decide) (by decide) hr
  refine oS u107 ?_
  have F110 : Sta Z h0 "com/example/latente/latente/mapping/BasicType" "LONG" "Lcom/example/latente/latente/mapping/BasicType;" (.ref ob_4) := Sta.ext O0.2 I109
  obtain ⟨T111, X112, e113, s114⟩ := getS X96 hx hZ hown (host := "") (oW hw 25 rfl) Via.refl e106 F110 (g := (mkF m 32 #[rv ob_2, rv ob_3] [])) rfl (hb hby dd1_32)
  refine oS s114 ?_
  show own_G p e below (T111.setTop (mkF m 35 #[rv ob_2, rv ob_3] [(.ref ob_4)])) _
  exact own_retA X112 hx Bd.notSynchronized Bd.returns rfl rfl (hb hby dd1_35) e113 (by decide) (by decide) (⟨rfl, N105, rfl⟩)
theorem own_pd2 : parseMethodDescriptor "(Lcom/example/latente/latente/mapping/BasicType;)Lcom/example/latente/latente/mapping/BasicType;" = some ⟨[(.object "com/example/latente/latente/mapping/BasicType")], (some (.object "com/example/latente/latente/mapping/BasicType"))⟩ := by decide +kernel
theorem dd3_0 : decode prog_5_method_7_code 0 = .ok (.aload_n 0, 1) := by decide +kernel
theorem dd3_1 : decode prog_5_method_7_code 1 = .ok (.getstatic 3, 3) := by decide +kernel
theorem dd3_4 : decode prog_5_method_7_code 4 = .ok (.if_acmp .eq 17, 3) := by decide +kernel
theorem dd3_21 : decode prog_5_method_7_code 21 = .ok (.iconst 1, 1) := by decide +kernel
theorem dd3_22 : decode prog_5_method_7_code 22 = .ok (.goto 4, 3) := by decide +kernel
theorem dd3_26 : decode prog_5_method_7_code 26 = .ok (.ireturn, 1) := by decide +kernel
def own_Q5 (Z : State) (ob_2 : Addr) (h0 : Heap) (n0 : Nat) (v : Option Value) (h : Heap) (L : List Loc) : Prop := (v = some (.int 1) ∧ Fr n0 L ∧ h = h0)
theorem own_pn3 : plainFor (⟨"com/example/latente/latente/query/Aggregate", "isComputed", "()Z"⟩ : MethodName) = true := by decide +kernel
set_option maxRecDepth 65536 in
set_option maxHeartbeats 40000000 in
theorem own_rm5 (l : Launch) (Z : State) (a0 : Array Value) (hw : ∀ d ∈ tables_1, d.before a0 Z = true) (ws : List Jvm.Cond) (ob_2 : Addr) (h0 : Heap) (n0 : Nat) (Z0 : n0 ≤ h0.size) (O0 : Old Z n0 h0) (I137 : Sta Z Z.heap "com/example/latente/latente/query/Aggregate" "COUNT" "Lcom/example/latente/latente/query/Aggregate;" (.ref ob_2)) :
    own_Met l Z h0 (⟨"com/example/latente/latente/query/Aggregate", "isComputed", "()Z"⟩ : MethodName) prog_5_method_7_code 1 (Option.some FieldType.boolean) ws ({ frames := 0, cells := 0, slots := 0, locals := 0 } : Room) #[(.ref ob_2)] (own_Q5 Z ob_2 h0 n0) 0 0 := by
  refine MetFree.of_bodySF own_pn3 hisR ?_
  intro p e s m args below meth c s₁ Bd hml0 hP hK
  obtain ⟨rfl, hZ, hh⟩ := hP
  have hx := Bd.exec
  have hby := Bd.bytes
  have hml : c.maxLocals = 1 := hml0
  have hown : s.vm.findClass "com/example/latente/latente/query/Aggregate" = some m.cls := findClass_of_methodNamed Bd.named
  have hnm := (name_of_methodNamed Bd.named Bd.method).1
  have X0 : Stand p l e ({ frames := 0, cells := 0, slots := 0, locals := 0 } : Room) s m #[(.ref ob_2)] below meth c s₁ [] 0 0 := Stand.of_body Bd
  have e0 : s₁.heap = h0 := by rw [← hh, Bd.state]; rfl
  have N0 := Fr.nil n0
  show own_G p e below (s₁.setTop (entryFrame m #[(.ref ob_2)] 1)) (own_P s (own_Q5 Z ob_2 h0 n0) 0 0)
  refine own_cast (own_ef3 m ob_2) ?_
  show own_G p e below (s₁.setTop (mkF m 0 #[rv ob_2] [])) _
  refine oS (fun _ => XS.aloadN X0.here hx rfl (hb hby dd3_0) rfl rfl) ?_
  have F138 : Sta Z h0 "com/example/latente/latente/query/Aggregate" "COUNT" "Lcom/example/latente/latente/query/Aggregate;" (.ref ob_2) := Sta.ext O0.2 I137
  obtain ⟨T139, X140, e141, s142⟩ := getS X0 hx hZ hown (host := "") (oW hw 32 rfl) Via.refl e0 F138 (g := (mkF m 1 #[rv ob_2] [(.ref ob_2)])) rfl (hb hby dd3_1)
  refine oS s142 ?_
  show own_G p e below (T139.setTop (mkF m 4 #[rv ob_2] [(.ref ob_2), (.ref ob_2)])) _
  refine oS (fun _ => XT.acmpYes X140.here hx rfl (pc0 := 4) (pc' := 21) rfl (hb hby dd3_4) rfl rfl rfl (XT.aa_eq_t rfl) (by decide) (by decide)) ?_
  show own_G p e below (T139.setTop (mkF m 21 #[rv ob_2] [])) _
  refine oS (fun _ => XS.iconst X140.here hx rfl (hb hby dd3_21) ) ?_
  refine oS (fun _ => XS.goto X140.here hx rfl (pc0 := 22) (pc' := 26) rfl (hb hby dd3_22) (by decide) (by decide)) ?_
  show own_G p e below (T139.setTop (mkF m 26 #[rv ob_2] [(.int 1)])) _
  exact own_retN X140 hx (t := .boolean) Bd.notSynchronized Bd.returns (by simp) (hb hby dd3_26) (by decide) e141 (by decide) (by decide) (⟨rfl, N0, rfl⟩)
theorem own_pd3 : parseMethodDescriptor "()Z" = some ⟨[], (some .boolean)⟩ := by decide +kernel
def own_Q7 (Z : State) (ob_7 : Addr) (h0 : Heap) (n0 : Nat) (v : Option Value) (h : Heap) (L : List Loc) : Prop := (v = some (.int 1) ∧ Fr n0 L ∧ h = h0)
set_option maxRecDepth 65536 in
set_option maxHeartbeats 40000000 in
theorem own_rm7 (l : Launch) (Z : State) (a0 : Array Value) (hw : ∀ d ∈ tables_1, d.before a0 Z = true) (ws : List Jvm.Cond) (ob_7 : Addr) (h0 : Heap) (n0 : Nat) (Z0 : n0 ≤ h0.size) (O0 : Old Z n0 h0) (I164 : Fld Z Z.heap ob_7 "java/lang/Enum" "ordinal" "I" (.int 1)) :
    own_Met l Z h0 (⟨"java/lang/Enum", "ordinal", "()I"⟩ : MethodName) jdk_37_method_2_code 1 (Option.some FieldType.int) ws ({ frames := 0, cells := 0, slots := 0, locals := 0 } : Room) #[(.ref ob_7)] (own_Q7 Z ob_7 h0 n0) 0 0 := by
  refine MetFree.of_bodySF own_pn1 hisR ?_
  intro p e s m args below meth c s₁ Bd hml0 hP hK
  obtain ⟨rfl, hZ, hh⟩ := hP
  have hx := Bd.exec
  have hby := Bd.bytes
  have hml : c.maxLocals = 1 := hml0
  have hown : s.vm.findClass "java/lang/Enum" = some m.cls := findClass_of_methodNamed Bd.named
  have hnm := (name_of_methodNamed Bd.named Bd.method).1
  have X0 : Stand p l e ({ frames := 0, cells := 0, slots := 0, locals := 0 } : Room) s m #[(.ref ob_7)] below meth c s₁ [] 0 0 := Stand.of_body Bd
  have e0 : s₁.heap = h0 := by rw [← hh, Bd.state]; rfl
  have N0 := Fr.nil n0
  show own_G p e below (s₁.setTop (entryFrame m #[(.ref ob_7)] 1)) (own_P s (own_Q7 Z ob_7 h0 n0) 0 0)
  refine own_cast (own_ef3 m ob_7) ?_
  show own_G p e below (s₁.setTop (mkF m 0 #[rv ob_7] [])) _
  refine oS (fun _ => XS.aloadN X0.here hx rfl (hb hby dd2_0) rfl rfl) ?_
  have F165 : Fld Z h0 ob_7 "java/lang/Enum" "ordinal" "I" (.int 1) := Fld.ext O0.2 I164
  obtain ⟨T166, X167, e168, s169⟩ := getF X0 hx hZ hown (host := "") (Or.inl (oW hw 23 rfl)) Via.refl e0 F165 (g := (mkF m 1 #[rv ob_7] [(.ref ob_7)])) rfl rfl (hb hby dd2_1)
  refine oS s169 ?_
  show own_G p e below (T166.setTop (mkF m 4 #[rv ob_7] [(.int 1)])) _
  exact own_retI X167 hx Bd.notSynchronized Bd.returns (hb hby dd2_4) e168 (by decide) (by decide) (⟨rfl, N0, rfl⟩)
theorem dd1_36 : decode prog_5_method_5_code 36 = .ok (.aload_n 1, 1) := by decide +kernel
theorem dd4_0 : decode prog_5_method_6_code 0 = .ok (.aload_n 0, 1) := by decide +kernel
theorem dd4_1 : decode prog_5_method_6_code 1 = .ok (.ifnonnull 5, 3) := by decide +kernel
theorem dd4_6 : decode prog_5_method_6_code 6 = .ok (.getstatic 72, 3) := by decide +kernel
theorem dd4_9 : decode prog_5_method_6_code 9 = .ok (.aload_n 0, 1) := by decide +kernel
theorem dd4_10 : decode prog_5_method_6_code 10 = .ok (.invokevirtual 78, 3) := by decide +kernel
theorem dd4_13 : decode prog_5_method_6_code 13 = .ok (.iaload, 1) := by decide +kernel
theorem dd4_14 : decode prog_5_method_6_code 14 = .ok (.tableswitch 50 1 6 #[38, 38, 38, 42, 42, 46], 38) := by decide +kernel
theorem dd4_52 : decode prog_5_method_6_code 52 = .ok (.getstatic 56, 3) := by decide +kernel
theorem dd4_55 : decode prog_5_method_6_code 55 = .ok (.areturn, 1) := by decide +kernel
def own_Q8 (Z : State) (ob_3 : Addr) (ob_9 : Addr) (kk_10 : ClassId) (ob_4 : Addr) (h0 : Heap) (n0 : Nat) (v : Option Value) (h : Heap) (L : List Loc) : Prop := (v = some (.ref ob_4) ∧ Fr n0 L ∧ h = h0)
theorem own_pn4 : plainFor (⟨"com/example/latente/latente/query/Aggregate", "sumType", "(Lcom/example/latente/latente/mapping/BasicType;)Lcom/example/latente/latente/mapping/BasicType;"⟩ : MethodName) = true := by decide +kernel
set_option maxRecDepth 65536 in
set_option maxHeartbeats 40000000 in
theorem own_rm8 (l : Launch) (Z : State) (a0 : Array Value) (hw : ∀ d ∈ tables_1, d.before a0 Z = true) (ws : List Jvm.Cond) (ob_3 : Addr) (ob_9 : Addr) (kk_10 : ClassId) (ob_4 : Addr) (h0 : Heap) (n0 : Nat) (Z0 : n0 ≤ h0.size) (O0 : Old Z n0 h0) (I188 : Sta Z Z.heap "com/example/latente/latente/query/Aggregate$1" "$SwitchMap$com$example$latente$latente$mapping$BasicType" "[I" (.ref ob_9)) (I195 : Fld Z Z.heap ob_3 "java/lang/Enum" "ordinal" "I" (.int 1)) (I206 : Exa Z Z.heap ob_3 "com/example/latente/latente/mapping/BasicType") (I214 : Arv Z Z.heap ob_9 kk_10 FieldType.int 10 [(.int 0), (.int 1), (.int 2), (.int 3), (.int 4), (.int 5), (.int 0), (.int 6), (.int 0), (.int 0)] (.int 0)) (I218 : Sta Z Z.heap "com/example/latente/latente/mapping/BasicType" "LONG" "Lcom/example/latente/latente/mapping/BasicType;" (.ref ob_4)) :
    own_Met l Z h0 (⟨"com/example/latente/latente/query/Aggregate", "sumType", "(Lcom/example/latente/latente/mapping/BasicType;)Lcom/example/latente/latente/mapping/BasicType;"⟩ : MethodName) prog_5_method_6_code 1 (Option.some (FieldType.object "com/example/latente/latente/mapping/BasicType")) ws ({ frames := 1, cells := 0, slots := 0, locals := 13 } : Room) #[(.ref ob_3)] (own_Q8 Z ob_3 ob_9 kk_10 ob_4 h0 n0) 0 0 := by
  refine MetFree.of_bodySF own_pn4 hisR ?_
  intro p e s m args below meth c s₁ Bd hml0 hP hK
  obtain ⟨rfl, hZ, hh⟩ := hP
  have hx := Bd.exec
  have hby := Bd.bytes
  have hml : c.maxLocals = 1 := hml0
  have hown : s.vm.findClass "com/example/latente/latente/query/Aggregate" = some m.cls := findClass_of_methodNamed Bd.named
  have hnm := (name_of_methodNamed Bd.named Bd.method).1
  have X0 : Stand p l e ({ frames := 1, cells := 0, slots := 0, locals := 13 } : Room) s m #[(.ref ob_3)] below meth c s₁ [] 0 0 := Stand.of_body Bd
  have e0 : s₁.heap = h0 := by rw [← hh, Bd.state]; rfl
  have N0 := Fr.nil n0
  show own_G p e below (s₁.setTop (entryFrame m #[(.ref ob_3)] 1)) (own_P s (own_Q8 Z ob_3 ob_9 kk_10 ob_4 h0 n0) 0 0)
  refine own_cast (own_ef3 m ob_3) ?_
  show own_G p e below (s₁.setTop (mkF m 0 #[rv ob_3] [])) _
  refine oS (fun _ => XS.aloadN X0.here hx rfl (hb hby dd4_0) rfl rfl) ?_
  refine oS (fun _ => XT.ifnonnullYes X0.here hx rfl (pc0 := 1) (pc' := 6) rfl (hb hby dd4_1) rfl (by decide) (by decide)) ?_
  show own_G p e below (s₁.setTop (mkF m 6 #[rv ob_3] [])) _
  have F189 : Sta Z h0 "com/example/latente/latente/query/Aggregate$1" "$SwitchMap$com$example$latente$latente$mapping$BasicType" "[I" (.ref ob_9) := Sta.ext O0.2 I188
  obtain ⟨T190, X191, e192, s193⟩ := getS X0 hx hZ hown (host := "") (oW hw 45 rfl) Via.refl e0 F189 (g := (mkF m 6 #[rv ob_3] [])) rfl (hb hby dd4_6)
  refine oS s193 ?_
  show own_G p e below (T190.setTop (mkF m 9 #[rv ob_3] [(.ref ob_9)])) _
  refine oS (fun _ => XS.aloadN X191.here hx rfl (hb hby dd4_9) rfl rfl) ?_
  have F207 : Exa Z h0 ob_3 "com/example/latente/latente/mapping/BasicType" := Exa.ext O0.2 I206
  obtain ⟨T196, h197, v198, L199, X200, e201, q202, s203⟩ := own_callU X191 hx hZ hown e192 (y := (⟨"com/example/latente/latente/mapping/BasicType", "ordinal", "()I"⟩ : MethodName)) (z := (⟨"java/lang/Enum", "ordinal", "()I"⟩ : MethodName)) (C := "com/example/latente/latente/mapping/BasicType") (owner := "java/lang/Enum") (b := ob_3) (oW hw 48 rfl) (oW hw 49 rfl) (oW hw 18 rfl) (oW hw 50 rfl) (oW hw 19 rfl) (oW hw 21 rfl) (oW hw 22 rfl) (by decide) F207 (W := 1) (own_rm7 l Z a0 hw [] ob_3 h0 n0 Z0 O0 I195) (by decide) (by decide) (by decide) (by decide) (g := (mkF m 10 #[rv ob_3] [(.ref ob_3), (.ref ob_9)])) rfl (by rw [hml]; rfl) (argsL := []) (rest := [(.ref ob_9)]) rfl (lenOf own_pd1 rfl) rfl (by show 2 * 0 + _ ≤ _; exact Nat.le_of_eq rfl) (hb hby dd4_10)
  refine oS s203 ?_
  obtain ⟨rfl, N208, K209⟩ := q202
  have N210 := Fr.app N0 N208
  have e211 := e201.trans K209
  show own_G p e below (T196.setTop (mkF m 13 #[rv ob_3] [(.int 1), (.ref ob_9)])) _
  have F215 : Arv Z h0 ob_9 kk_10 FieldType.int 10 [(.int 0), (.int 1), (.int 2), (.int 3), (.int 4), (.int 5), (.int 0), (.int 6), (.int 0), (.int 0)] (.int 0) := I214.ext O0.2
  refine oS (own_iaload X200 hx hZ e211 F215 (by decide) (v := (.int 1)) rfl rfl rfl (hb hby dd4_13)) ?_
  show own_G p e below (T196.setTop (mkF m 14 #[rv ob_3] [(.int 1)])) _
  have u216 : ∀ t, Steps p.tables e below (T196.setTop (mkF m 52 #[rv ob_3] [])) t → Steps p.tables e below (T196.setTop (mkF m 14 #[rv ob_3] [(.int 1)])) t := fun t hr => XS.tswIn X200.here hx (g := (mkF m 14 #[rv ob_3] [(.int 1)])) rfl (pc0 := 14) (pc' := 52) rfl (hb hby dd4_14) rfl (by decide +kernel) (o := 38) (by decide +kernel) (by decide) (by decide) hr
  refine oS u216 ?_
  have F219 : Sta Z h0 "com/example/latente/latente/mapping/BasicType" "LONG" "Lcom/example/latente/latente/mapping/BasicType;" (.ref ob_4) := Sta.ext O0.2 I218
  obtain ⟨T220, X221, e222, s223⟩ := getS X200 hx hZ hown (host := "") (oW hw 25 rfl) Via.refl e211 F219 (g := (mkF m 52 #[rv ob_3] [])) rfl (hb hby dd4_52)
  refine oS s223 ?_
  show own_G p e below (T220.setTop (mkF m 55 #[rv ob_3] [(.ref ob_4)])) _
  exact own_retA X221 hx Bd.notSynchronized Bd.returns rfl rfl (hb hby dd4_55) e222 (by decide) (by decide) (⟨rfl, N210, rfl⟩)
theorem dd1_37 : decode prog_5_method_5_code 37 = .ok (.invokestatic 62, 3) := by decide +kernel
theorem dd1_40 : decode prog_5_method_5_code 40 = .ok (.areturn, 1) := by decide +kernel
def own_Q6 (Z : State) (ob_7 : Addr) (ob_3 : Addr) (ob_9 : Addr) (kk_10 : ClassId) (ob_4 : Addr) (h0 : Heap) (n0 : Nat) (v : Option Value) (h : Heap) (L : List Loc) : Prop := (v = some (.ref ob_4) ∧ Fr n0 L ∧ h = h0)
set_option maxRecDepth 65536 in
set_option maxHeartbeats 40000000 in
theorem own_rm6 (l : Launch) (Z : State) (a0 : Array Value) (hw : ∀ d ∈ tables_1, d.before a0 Z = true) (ws : List Jvm.Cond) (ob_7 : Addr) (ob_3 : Addr) (ob_9 : Addr) (kk_10 : ClassId) (ob_4 : Addr) (h0 : Heap) (n0 : Nat) (Z0 : n0 ≤ h0.size) (O0 : Old Z n0 h0) (I163 : Fld Z Z.heap ob_7 "java/lang/Enum" "ordinal" "I" (.int 1)) (I179 : Exa Z Z.heap ob_7 "com/example/latente/latente/query/Aggregate") (I187 : Sta Z Z.heap "com/example/latente/latente/query/Aggregate$1" "$SwitchMap$com$example$latente$latente$mapping$BasicType" "[I" (.ref ob_9)) (I194 : Fld Z Z.heap ob_3 "java/lang/Enum" "ordinal" "I" (.int 1)) (I205 : Exa Z Z.heap ob_3 "com/example/latente/latente/mapping/BasicType") (I213 : Arv Z Z.heap ob_9 kk_10 FieldType.int 10 [(.int 0), (.int 1), (.int 2), (.int 3), (.int 4), (.int 5), (.int 0), (.int 6), (.int 0), (.int 0)] (.int 0)) (I217 : Sta Z Z.heap "com/example/latente/latente/mapping/BasicType" "LONG" "Lcom/example/latente/latente/mapping/BasicType;" (.ref ob_4)) :
    own_Met l Z h0 (⟨"com/example/latente/latente/query/Aggregate", "resultType", "(Lcom/example/latente/latente/mapping/BasicType;)Lcom/example/latente/latente/mapping/BasicType;"⟩ : MethodName) prog_5_method_5_code 2 (Option.some (FieldType.object "com/example/latente/latente/mapping/BasicType")) ws ({ frames := 2, cells := 0, slots := 0, locals := 25 } : Room) #[(.ref ob_7), (.ref ob_3)] (own_Q6 Z ob_7 ob_3 ob_9 kk_10 ob_4 h0 n0) 0 0 := by
  refine MetFree.of_bodySF own_pn2 hisR ?_
  intro p e s m args below meth c s₁ Bd hml0 hP hK
  obtain ⟨rfl, hZ, hh⟩ := hP
  have hx := Bd.exec
  have hby := Bd.bytes
  have hml : c.maxLocals = 2 := hml0
  have hown : s.vm.findClass "com/example/latente/latente/query/Aggregate" = some m.cls := findClass_of_methodNamed Bd.named
  have hnm := (name_of_methodNamed Bd.named Bd.method).1
  have X0 : Stand p l e ({ frames := 2, cells := 0, slots := 0, locals := 25 } : Room) s m #[(.ref ob_7), (.ref ob_3)] below meth c s₁ [] 0 0 := Stand.of_body Bd
  have e0 : s₁.heap = h0 := by rw [← hh, Bd.state]; rfl
  have N0 := Fr.nil n0
  show own_G p e below (s₁.setTop (entryFrame m #[(.ref ob_7), (.ref ob_3)] 2)) (own_P s (own_Q6 Z ob_7 ob_3 ob_9 kk_10 ob_4 h0 n0) 0 0)
  refine own_cast (own_ef2 m ob_7 ob_3) ?_
  show own_G p e below (s₁.setTop (mkF m 0 #[rv ob_7, rv ob_3] [])) _
  refine oS (fun _ => XS.aloadN X0.here hx rfl (hb hby dd1_0) rfl rfl) ?_
  have F180 : Exa Z h0 ob_7 "com/example/latente/latente/query/Aggregate" := Exa.ext O0.2 I179
  obtain ⟨T170, h171, v172, L173, X174, e175, q176, s177⟩ := own_callU X0 hx hZ hown e0 (y := (⟨"com/example/latente/latente/query/Aggregate", "ordinal", "()I"⟩ : MethodName)) (z := (⟨"java/lang/Enum", "ordinal", "()I"⟩ : MethodName)) (C := "com/example/latente/latente/query/Aggregate") (owner := "java/lang/Enum") (b := ob_7) (oW hw 16 rfl) (oW hw 17 rfl) (oW hw 18 rfl) (oW hw 20 rfl) (oW hw 19 rfl) (oW hw 21 rfl) (oW hw 22 rfl) (by decide) F180 (W := 0) (own_rm7 l Z a0 hw [] ob_7 h0 n0 Z0 O0 I163) (by decide) (by decide) (by decide) (by decide) (g := (mkF m 1 #[rv ob_7, rv ob_3] [(.ref ob_7)])) rfl (by rw [hml]; rfl) (argsL := []) (rest := []) rfl (lenOf own_pd1 rfl) rfl (by show 2 * 0 + _ ≤ _; exact Nat.le_of_eq rfl) (hb hby dd1_1)
  refine oS s177 ?_
  obtain ⟨rfl, N181, K182⟩ := q176
  have N183 := Fr.app N0 N181
  have e184 := e175.trans K182
  show own_G p e below (T170.setTop (mkF m 4 #[rv ob_7, rv ob_3] [(.int 1)])) _
  have u185 : ∀ t, Steps p.tables e below (T170.setTop (mkF m 36 #[rv ob_7, rv ob_3] [])) t → Steps p.tables e below (T170.setTop (mkF m 4 #[rv ob_7, rv ob_3] [(.int 1)])) t := fun t hr => XS.tswIn X174.here hx (g := (mkF m 4 #[rv ob_7, rv ob_3] [(.int 1)])) rfl (pc0 := 4) (pc' := 36) rfl (hb hby dd1_4) rfl (by decide +kernel) (o := 32) (by decide +kernel) (by decide) (by decide) hr
  refine oS u185 ?_
  refine oS (fun _ => XS.aloadN X174.here hx rfl (hb hby dd1_36) rfl rfl) ?_
  obtain ⟨T224, h225, v226, L227, X228, e229, q230, s231⟩ := own_callS X174 hx hZ hown e184 (y := (⟨"com/example/latente/latente/query/Aggregate", "sumType", "(Lcom/example/latente/latente/mapping/BasicType;)Lcom/example/latente/latente/mapping/BasicType;"⟩ : MethodName)) (oW hw 42 rfl) (oW hw 43 rfl) (oW hw 6 rfl) (oW hw 44 rfl) (by decide) (W := 0) (own_rm8 l Z a0 hw [] ob_3 ob_9 kk_10 ob_4 h0 n0 Z0 O0 I187 I194 I205 I213 I217) (by decide) (by decide) (by decide) (by decide) (g := (mkF m 37 #[rv ob_7, rv ob_3] [(.ref ob_3)])) rfl (by rw [hml]; rfl) (argsL := [(.ref ob_3)]) (rest := []) rfl (lenOf own_pd2 rfl) rfl (by show 2 * 0 + _ ≤ _; exact Nat.le_of_eq rfl) (hb hby dd1_37)
  refine oS s231 ?_
  obtain ⟨rfl, N232, K233⟩ := q230
  have N234 := Fr.app N183 N232
  have e235 := e229.trans K233
  show own_G p e below (T224.setTop (mkF m 40 #[rv ob_7, rv ob_3] [(.ref ob_4)])) _
  exact own_retA X228 hx Bd.notSynchronized Bd.returns rfl rfl (hb hby dd1_40) e235 (by decide) (by decide) (⟨rfl, N234, rfl⟩)
theorem dd3_7 : decode prog_5_method_7_code 7 = .ok (.aload_n 0, 1) := by decide +kernel
theorem dd3_8 : decode prog_5_method_7_code 8 = .ok (.getstatic 7, 3) := by decide +kernel
theorem dd3_11 : decode prog_5_method_7_code 11 = .ok (.if_acmp .eq 10, 3) := by decide +kernel
def own_Q9 (Z : State) (ob_7 : Addr) (ob_2 : Addr) (h0 : Heap) (n0 : Nat) (v : Option Value) (h : Heap) (L : List Loc) : Prop := (v = some (.int 1) ∧ Fr n0 L ∧ h = h0)
set_option maxRecDepth 65536 in
set_option maxHeartbeats 40000000 in
theorem own_rm9 (l : Launch) (Z : State) (a0 : Array Value) (hw : ∀ d ∈ tables_1, d.before a0 Z = true) (ws : List Jvm.Cond) (ob_7 : Addr) (ob_2 : Addr) (h0 : Heap) (n0 : Nat) (Z0 : n0 ≤ h0.size) (O0 : Old Z n0 h0) (I256 : Sta Z Z.heap "com/example/latente/latente/query/Aggregate" "COUNT" "Lcom/example/latente/latente/query/Aggregate;" (.ref ob_2)) (I265 : ob_7 ≠ ob_2) (I266 : Sta Z Z.heap "com/example/latente/latente/query/Aggregate" "SUM" "Lcom/example/latente/latente/query/Aggregate;" (.ref ob_7)) :
    own_Met l Z h0 (⟨"com/example/latente/latente/query/Aggregate", "isComputed", "()Z"⟩ : MethodName) prog_5_method_7_code 1 (Option.some FieldType.boolean) ws ({ frames := 0, cells := 0, slots := 0, locals := 0 } : Room) #[(.ref ob_7)] (own_Q9 Z ob_7 ob_2 h0 n0) 0 0 := by
  refine MetFree.of_bodySF own_pn3 hisR ?_
  intro p e s m args below meth c s₁ Bd hml0 hP hK
  obtain ⟨rfl, hZ, hh⟩ := hP
  have hx := Bd.exec
  have hby := Bd.bytes
  have hml : c.maxLocals = 1 := hml0
  have hown : s.vm.findClass "com/example/latente/latente/query/Aggregate" = some m.cls := findClass_of_methodNamed Bd.named
  have hnm := (name_of_methodNamed Bd.named Bd.method).1
  have X0 : Stand p l e ({ frames := 0, cells := 0, slots := 0, locals := 0 } : Room) s m #[(.ref ob_7)] below meth c s₁ [] 0 0 := Stand.of_body Bd
  have e0 : s₁.heap = h0 := by rw [← hh, Bd.state]; rfl
  have N0 := Fr.nil n0
  show own_G p e below (s₁.setTop (entryFrame m #[(.ref ob_7)] 1)) (own_P s (own_Q9 Z ob_7 ob_2 h0 n0) 0 0)
  refine own_cast (own_ef3 m ob_7) ?_
  show own_G p e below (s₁.setTop (mkF m 0 #[rv ob_7] [])) _
  refine oS (fun _ => XS.aloadN X0.here hx rfl (hb hby dd3_0) rfl rfl) ?_
  have F257 : Sta Z h0 "com/example/latente/latente/query/Aggregate" "COUNT" "Lcom/example/latente/latente/query/Aggregate;" (.ref ob_2) := Sta.ext O0.2 I256
  obtain ⟨T258, X259, e260, s261⟩ := getS X0 hx hZ hown (host := "") (oW hw 32 rfl) Via.refl e0 F257 (g := (mkF m 1 #[rv ob_7] [(.ref ob_7)])) rfl (hb hby dd3_1)
  refine oS s261 ?_
  show own_G p e below (T258.setTop (mkF m 4 #[rv ob_7] [(.ref ob_2), (.ref ob_7)])) _
  refine oS (fun _ => XT.acmpNo X259.here hx rfl (hb hby dd3_4) rfl rfl rfl (XT.aa_eq_f (own_rne I265))) ?_
  show own_G p e below (T258.setTop (mkF m 7 #[rv ob_7] [])) _
  refine oS (fun _ => XS.aloadN X259.here hx rfl (hb hby dd3_7) rfl rfl) ?_
  have F267 : Sta Z h0 "com/example/latente/latente/query/Aggregate" "SUM" "Lcom/example/latente/latente/query/Aggregate;" (.ref ob_7) := Sta.ext O0.2 I266
  obtain ⟨T268, X269, e270, s271⟩ := getS X259 hx hZ hown (host := "") (oW hw 37 rfl) Via.refl e260 F267 (g := (mkF m 8 #[rv ob_7] [(.ref ob_7)])) rfl (hb hby dd3_8)
  refine oS s271 ?_
  show own_G p e below (T268.setTop (mkF m 11 #[rv ob_7] [(.ref ob_7), (.ref ob_7)])) _
  refine oS (fun _ => XT.acmpYes X269.here hx rfl (pc0 := 11) (pc' := 21) rfl (hb hby dd3_11) rfl rfl rfl (XT.aa_eq_t rfl) (by decide) (by decide)) ?_
  show own_G p e below (T268.setTop (mkF m 21 #[rv ob_7] [])) _
  refine oS (fun _ => XS.iconst X269.here hx rfl (hb hby dd3_21) ) ?_
  refine oS (fun _ => XS.goto X269.here hx rfl (pc0 := 22) (pc' := 26) rfl (hb hby dd3_22) (by decide) (by decide)) ?_
  show own_G p e below (T268.setTop (mkF m 26 #[rv ob_7] [(.int 1)])) _
  exact own_retN X269 hx (t := .boolean) Bd.notSynchronized Bd.returns (by simp) (hb hby dd3_26) (by decide) e270 (by decide) (by decide) (⟨rfl, N0, rfl⟩)
def own_Q11 (Z : State) (ob_8 : Addr) (h0 : Heap) (n0 : Nat) (v : Option Value) (h : Heap) (L : List Loc) : Prop := (v = some (.int 2) ∧ Fr n0 L ∧ h = h0)
set_option maxRecDepth 65536 in
set_option maxHeartbeats 40000000 in
theorem own_rm11 (l : Launch) (Z : State) (a0 : Array Value) (hw : ∀ d ∈ tables_1, d.before a0 Z = true) (ws : List Jvm.Cond) (ob_8 : Addr) (h0 : Heap) (n0 : Nat) (Z0 : n0 ≤ h0.size) (O0 : Old Z n0 h0) (I293 : Fld Z Z.heap ob_8 "java/lang/Enum" "ordinal" "I" (.int 2)) :
    own_Met l Z h0 (⟨"java/lang/Enum", "ordinal", "()I"⟩ : MethodName) jdk_37_method_2_code 1 (Option.some FieldType.int) ws ({ frames := 0, cells := 0, slots := 0, locals := 0 } : Room) #[(.ref ob_8)] (own_Q11 Z ob_8 h0 n0) 0 0 := by
  refine MetFree.of_bodySF own_pn1 hisR ?_
  intro p e s m args below meth c s₁ Bd hml0 hP hK
  obtain ⟨rfl, hZ, hh⟩ := hP
  have hx := Bd.exec
  have hby := Bd.bytes
  have hml : c.maxLocals = 1 := hml0
  have hown : s.vm.findClass "java/lang/Enum" = some m.cls := findClass_of_methodNamed Bd.named
  have hnm := (name_of_methodNamed Bd.named Bd.method).1
  have X0 : Stand p l e ({ frames := 0, cells := 0, slots := 0, locals := 0 } : Room) s m #[(.ref ob_8)] below meth c s₁ [] 0 0 := Stand.of_body Bd
  have e0 : s₁.heap = h0 := by rw [← hh, Bd.state]; rfl
  have N0 := Fr.nil n0
  show own_G p e below (s₁.setTop (entryFrame m #[(.ref ob_8)] 1)) (own_P s (own_Q11 Z ob_8 h0 n0) 0 0)
  refine own_cast (own_ef3 m ob_8) ?_
  show own_G p e below (s₁.setTop (mkF m 0 #[rv ob_8] [])) _
  refine oS (fun _ => XS.aloadN X0.here hx rfl (hb hby dd2_0) rfl rfl) ?_
  have F294 : Fld Z h0 ob_8 "java/lang/Enum" "ordinal" "I" (.int 2) := Fld.ext O0.2 I293
  obtain ⟨T295, X296, e297, s298⟩ := getF X0 hx hZ hown (host := "") (Or.inl (oW hw 23 rfl)) Via.refl e0 F294 (g := (mkF m 1 #[rv ob_8] [(.ref ob_8)])) rfl rfl (hb hby dd2_1)
  refine oS s298 ?_
  show own_G p e below (T295.setTop (mkF m 4 #[rv ob_8] [(.int 2)])) _
  exact own_retI X296 hx Bd.notSynchronized Bd.returns (hb hby dd2_4) e297 (by decide) (by decide) (⟨rfl, N0, rfl⟩)
theorem dd1_41 : decode prog_5_method_5_code 41 = .ok (.aload_n 1, 1) := by decide +kernel
theorem dd1_42 : decode prog_5_method_5_code 42 = .ok (.invokestatic 62, 3) := by decide +kernel
theorem dd1_45 : decode prog_5_method_5_code 45 = .ok (.ifnonnull 7, 3) := by decide +kernel
theorem dd1_52 : decode prog_5_method_5_code 52 = .ok (.getstatic 66, 3) := by decide +kernel
theorem dd1_55 : decode prog_5_method_5_code 55 = .ok (.areturn, 1) := by decide +kernel
def own_Q10 (Z : State) (ob_8 : Addr) (ob_3 : Addr) (ob_9 : Addr) (kk_10 : ClassId) (ob_4 : Addr) (ob_12 : Addr) (h0 : Heap) (n0 : Nat) (v : Option Value) (h : Heap) (L : List Loc) : Prop := (v = some (.ref ob_12) ∧ Fr n0 L ∧ h = h0)
set_option maxRecDepth 65536 in
set_option maxHeartbeats 40000000 in
theorem own_rm10 (l : Launch) (Z : State) (a0 : Array Value) (hw : ∀ d ∈ tables_1, d.before a0 Z = true) (ws : List Jvm.Cond) (ob_8 : Addr) (ob_3 : Addr) (ob_9 : Addr) (kk_10 : ClassId) (ob_4 : Addr) (ob_12 : Addr) (h0 : Heap) (n0 : Nat) (Z0 : n0 ≤ h0.size) (O0 : Old Z n0 h0) (I292 : Fld Z Z.heap ob_8 "java/lang/Enum" "ordinal" "I" (.int 2)) (I308 : Exa Z Z.heap ob_8 "com/example/latente/latente/query/Aggregate") (I315 : Sta Z Z.heap "com/example/latente/latente/query/Aggregate$1" "$SwitchMap$com$example$latente$latente$mapping$BasicType" "[I" (.ref ob_9)) (I316 : Fld Z Z.heap ob_3 "java/lang/Enum" "ordinal" "I" (.int 1)) (I317 : Exa Z Z.heap ob_3 "com/example/latente/latente/mapping/BasicType") (I318 : Arv Z Z.heap ob_9 kk_10 FieldType.int 10 [(.int 0), (.int 1), (.int 2), (.int 3), (.int 4), (.int 5), (.int 0), (.int 6), (.int 0), (.int 0)] (.int 0)) (I319 : Sta Z Z.heap "com/example/latente/latente/mapping/BasicType" "LONG" "Lcom/example/latente/latente/mapping/BasicType;" (.ref ob_4)) (I333 : Sta Z Z.heap "com/example/latente/latente/mapping/BasicType" "DOUBLE" "Lcom/example/latente/latente/mapping/BasicType;" (.ref ob_12)) :
    own_Met l Z h0 (⟨"com/example/latente/latente/query/Aggregate", "resultType", "(Lcom/example/latente/latente/mapping/BasicType;)Lcom/example/latente/latente/mapping/BasicType;"⟩ : MethodName) prog_5_method_5_code 2 (Option.some (FieldType.object "com/example/latente/latente/mapping/BasicType")) ws ({ frames := 2, cells := 0, slots := 0, locals := 25 } : Room) #[(.ref ob_8), (.ref ob_3)] (own_Q10 Z ob_8 ob_3 ob_9 kk_10 ob_4 ob_12 h0 n0) 0 0 := by
  refine MetFree.of_bodySF own_pn2 hisR ?_
  intro p e s m args below meth c s₁ Bd hml0 hP hK
  obtain ⟨rfl, hZ, hh⟩ := hP
  have hx := Bd.exec
  have hby := Bd.bytes
  have hml : c.maxLocals = 2 := hml0
  have hown : s.vm.findClass "com/example/latente/latente/query/Aggregate" = some m.cls := findClass_of_methodNamed Bd.named
  have hnm := (name_of_methodNamed Bd.named Bd.method).1
  have X0 : Stand p l e ({ frames := 2, cells := 0, slots := 0, locals := 25 } : Room) s m #[(.ref ob_8), (.ref ob_3)] below meth c s₁ [] 0 0 := Stand.of_body Bd
  have e0 : s₁.heap = h0 := by rw [← hh, Bd.state]; rfl
  have N0 := Fr.nil n0
  show own_G p e below (s₁.setTop (entryFrame m #[(.ref ob_8), (.ref ob_3)] 2)) (own_P s (own_Q10 Z ob_8 ob_3 ob_9 kk_10 ob_4 ob_12 h0 n0) 0 0)
  refine own_cast (own_ef2 m ob_8 ob_3) ?_
  show own_G p e below (s₁.setTop (mkF m 0 #[rv ob_8, rv ob_3] [])) _
  refine oS (fun _ => XS.aloadN X0.here hx rfl (hb hby dd1_0) rfl rfl) ?_
  have F309 : Exa Z h0 ob_8 "com/example/latente/latente/query/Aggregate" := Exa.ext O0.2 I308
  obtain ⟨T299, h300, v301, L302, X303, e304, q305, s306⟩ := own_callU X0 hx hZ hown e0 (y := (⟨"com/example/latente/latente/query/Aggregate", "ordinal", "()I"⟩ : MethodName)) (z := (⟨"java/lang/Enum", "ordinal", "()I"⟩ : MethodName)) (C := "com/example/latente/latente/query/Aggregate") (owner := "java/lang/Enum") (b := ob_8) (oW hw 16 rfl) (oW hw 17 rfl) (oW hw 18 rfl) (oW hw 20 rfl) (oW hw 19 rfl) (oW hw 21 rfl) (oW hw 22 rfl) (by decide) F309 (W := 0) (own_rm11 l Z a0 hw [] ob_8 h0 n0 Z0 O0 I292) (by decide) (by decide) (by decide) (by decide) (g := (mkF m 1 #[rv ob_8, rv ob_3] [(.ref ob_8)])) rfl (by rw [hml]; rfl) (argsL := []) (rest := []) rfl (lenOf own_pd1 rfl) rfl (by show 2 * 0 + _ ≤ _; exact Nat.le_of_eq rfl) (hb hby dd1_1)
  refine oS s306 ?_
  obtain ⟨rfl, N310, K311⟩ := q305
  have N312 := Fr.app N0 N310
  have e313 := e304.trans K311
  show own_G p e below (T299.setTop (mkF m 4 #[rv ob_8, rv ob_3] [(.int 2)])) _
  have u314 : ∀ t, Steps p.tables e below (T299.setTop (mkF m 41 #[rv ob_8, rv ob_3] [])) t → Steps p.tables e below (T299.setTop (mkF m 4 #[rv ob_8, rv ob_3] [(.int 2)])) t := fun t hr => XS.tswIn X303.here hx (g := (mkF m 4 #[rv ob_8, rv ob_3] [(.int 2)])) rfl (pc0 := 4) (pc' := 41) rfl (hb hby dd1_4) rfl (by decide +kernel) (o := 37) (by decide +kernel) (by decide) (by decide) hr
  refine oS u314 ?_
  refine oS (fun _ => XS.aloadN X303.here hx rfl (hb hby dd1_41) rfl rfl) ?_
  obtain ⟨T320, h321, v322, L323, X324, e325, q326, s327⟩ := own_callS X303 hx hZ hown e313 (y := (⟨"com/example/latente/latente/query/Aggregate", "sumType", "(Lcom/example/latente/latente/mapping/BasicType;)Lcom/example/latente/latente/mapping/BasicType;"⟩ : MethodName)) (oW hw 42 rfl) (oW hw 43 rfl) (oW hw 6 rfl) (oW hw 44 rfl) (by decide) (W := 0) (own_rm8 l Z a0 hw [] ob_3 ob_9 kk_10 ob_4 h0 n0 Z0 O0 I315 I316 I317 I318 I319) (by decide) (by decide) (by decide) (by decide) (g := (mkF m 42 #[rv ob_8, rv ob_3] [(.ref ob_3)])) rfl (by rw [hml]; rfl) (argsL := [(.ref ob_3)]) (rest := []) rfl (lenOf own_pd2 rfl) rfl (by show 2 * 0 + _ ≤ _; exact Nat.le_of_eq rfl) (hb hby dd1_42)
  refine oS s327 ?_
  obtain ⟨rfl, N328, K329⟩ := q326
  have N330 := Fr.app N312 N328
  have e331 := e325.trans K329
  show own_G p e below (T320.setTop (mkF m 45 #[rv ob_8, rv ob_3] [(.ref ob_4)])) _
  refine oS (fun _ => XT.ifnonnullYes X324.here hx rfl (pc0 := 45) (pc' := 52) rfl (hb hby dd1_45) rfl (by decide) (by decide)) ?_
  show own_G p e below (T320.setTop (mkF m 52 #[rv ob_8, rv ob_3] [])) _
  have F334 : Sta Z h0 "com/example/latente/latente/mapping/BasicType" "DOUBLE" "Lcom/example/latente/latente/mapping/BasicType;" (.ref ob_12) := Sta.ext O0.2 I333
  obtain ⟨T335, X336, e337, s338⟩ := getS X324 hx hZ hown (host := "") (oW hw 55 rfl) Via.refl e331 F334 (g := (mkF m 52 #[rv ob_8, rv ob_3] [])) rfl (hb hby dd1_52)
  refine oS s338 ?_
  show own_G p e below (T335.setTop (mkF m 55 #[rv ob_8, rv ob_3] [(.ref ob_12)])) _
  exact own_retA X336 hx Bd.notSynchronized Bd.returns rfl rfl (hb hby dd1_55) e337 (by decide) (by decide) (⟨rfl, N330, rfl⟩)
theorem dd3_14 : decode prog_5_method_7_code 14 = .ok (.aload_n 0, 1) := by decide +kernel
theorem dd3_15 : decode prog_5_method_7_code 15 = .ok (.getstatic 10, 3) := by decide +kernel
theorem dd3_18 : decode prog_5_method_7_code 18 = .ok (.if_acmp .ne 7, 3) := by decide +kernel
def own_Q12 (Z : State) (ob_8 : Addr) (ob_2 : Addr) (ob_7 : Addr) (h0 : Heap) (n0 : Nat) (v : Option Value) (h : Heap) (L : List Loc) : Prop := (v = some (.int 1) ∧ Fr n0 L ∧ h = h0)
set_option maxRecDepth 65536 in
set_option maxHeartbeats 40000000 in
theorem own_rm12 (l : Launch) (Z : State) (a0 : Array Value) (hw : ∀ d ∈ tables_1, d.before a0 Z = true) (ws : List Jvm.Cond) (ob_8 : Addr) (ob_2 : Addr) (ob_7 : Addr) (h0 : Heap) (n0 : Nat) (Z0 : n0 ≤ h0.size) (O0 : Old Z n0 h0) (I363 : Sta Z Z.heap "com/example/latente/latente/query/Aggregate" "COUNT" "Lcom/example/latente/latente/query/Aggregate;" (.ref ob_2)) (I369 : ob_8 ≠ ob_2) (I370 : Sta Z Z.heap "com/example/latente/latente/query/Aggregate" "SUM" "Lcom/example/latente/latente/query/Aggregate;" (.ref ob_7)) (I378 : ob_8 ≠ ob_7) (I379 : Sta Z Z.heap "com/example/latente/latente/query/Aggregate" "AVG" "Lcom/example/latente/latente/query/Aggregate;" (.ref ob_8)) :
    own_Met l Z h0 (⟨"com/example/latente/latente/query/Aggregate", "isComputed", "()Z"⟩ : MethodName) prog_5_method_7_code 1 (Option.some FieldType.boolean) ws ({ frames := 0, cells := 0, slots := 0, locals := 0 } : Room) #[(.ref ob_8)] (own_Q12 Z ob_8 ob_2 ob_7 h0 n0) 0 0 := by
  refine MetFree.of_bodySF own_pn3 hisR ?_
  intro p e s m args below meth c s₁ Bd hml0 hP hK
  obtain ⟨rfl, hZ, hh⟩ := hP
  have hx := Bd.exec
  have hby := Bd.bytes
  have hml : c.maxLocals = 1 := hml0
  have hown : s.vm.findClass "com/example/latente/latente/query/Aggregate" = some m.cls := findClass_of_methodNamed Bd.named
  have hnm := (name_of_methodNamed Bd.named Bd.method).1
  have X0 : Stand p l e ({ frames := 0, cells := 0, slots := 0, locals := 0 } : Room) s m #[(.ref ob_8)] below meth c s₁ [] 0 0 := Stand.of_body Bd
  have e0 : s₁.heap = h0 := by rw [← hh, Bd.state]; rfl
  have N0 := Fr.nil n0
  show own_G p e below (s₁.setTop (entryFrame m #[(.ref ob_8)] 1)) (own_P s (own_Q12 Z ob_8 ob_2 ob_7 h0 n0) 0 0)
  refine own_cast (own_ef3 m ob_8) ?_
  show own_G p e below (s₁.setTop (mkF m 0 #[rv ob_8] [])) _
  refine oS (fun _ => XS.aloadN X0.here hx rfl (hb hby dd3_0) rfl rfl) ?_
  have F364 : Sta Z h0 "com/example/latente/latente/query/Aggregate" "COUNT" "Lcom/example/latente/latente/query/Aggregate;" (.ref ob_2) := Sta.ext O0.2 I363
  obtain ⟨T365, X366, e367, s368⟩ := getS X0 hx hZ hown (host := "") (oW hw 32 rfl) Via.refl e0 F364 (g := (mkF m 1 #[rv ob_8] [(.ref ob_8)])) rfl (hb hby dd3_1)
  refine oS s368 ?_
  show own_G p e below (T365.setTop (mkF m 4 #[rv ob_8] [(.ref ob_2), (.ref ob_8)])) _
  refine oS (fun _ => XT.acmpNo X366.here hx rfl (hb hby dd3_4) rfl rfl rfl (XT.aa_eq_f (own_rne I369))) ?_
  show own_G p e below (T365.setTop (mkF m 7 #[rv ob_8] [])) _
  refine oS (fun _ => XS.aloadN X366.here hx rfl (hb hby dd3_7) rfl rfl) ?_
  have F371 : Sta Z h0 "com/example/latente/latente/query/Aggregate" "SUM" "Lcom/example/latente/latente/query/Aggregate;" (.ref ob_7) := Sta.ext O0.2 I370
  obtain ⟨T372, X373, e374, s375⟩ := getS X366 hx hZ hown (host := "") (oW hw 37 rfl) Via.refl e367 F371 (g := (mkF m 8 #[rv ob_8] [(.ref ob_8)])) rfl (hb hby dd3_8)
  refine oS s375 ?_
  show own_G p e below (T372.setTop (mkF m 11 #[rv ob_8] [(.ref ob_7), (.ref ob_8)])) _
  refine oS (fun _ => XT.acmpNo X373.here hx rfl (hb hby dd3_11) rfl rfl rfl (XT.aa_eq_f (own_rne I378))) ?_
  show own_G p e below (T372.setTop (mkF m 14 #[rv ob_8] [])) _
  refine oS (fun _ => XS.aloadN X373.here hx rfl (hb hby dd3_14) rfl rfl) ?_
  have F380 : Sta Z h0 "com/example/latente/latente/query/Aggregate" "AVG" "Lcom/example/latente/latente/query/Aggregate;" (.ref ob_8) := Sta.ext O0.2 I379
  obtain ⟨T381, X382, e383, s384⟩ := getS X373 hx hZ hown (host := "") (oW hw 39 rfl) Via.refl e374 F380 (g := (mkF m 15 #[rv ob_8] [(.ref ob_8)])) rfl (hb hby dd3_15)
  refine oS s384 ?_
  show own_G p e below (T381.setTop (mkF m 18 #[rv ob_8] [(.ref ob_8), (.ref ob_8)])) _
  refine oS (fun _ => XT.acmpNo X382.here hx rfl (hb hby dd3_18) rfl rfl rfl (XT.aa_ne_f rfl)) ?_
  show own_G p e below (T381.setTop (mkF m 21 #[rv ob_8] [])) _
  refine oS (fun _ => XS.iconst X382.here hx rfl (hb hby dd3_21) ) ?_
  refine oS (fun _ => XS.goto X382.here hx rfl (pc0 := 22) (pc' := 26) rfl (hb hby dd3_22) (by decide) (by decide)) ?_
  show own_G p e below (T381.setTop (mkF m 26 #[rv ob_8] [(.int 1)])) _
  exact own_retN X382 hx (t := .boolean) Bd.notSynchronized Bd.returns (by simp) (hb hby dd3_26) (by decide) e383 (by decide) (by decide) (⟨rfl, N0, rfl⟩)
def own_Q14 (Z : State) (ob_5 : Addr) (h0 : Heap) (n0 : Nat) (v : Option Value) (h : Heap) (L : List Loc) : Prop := (v = some (.int 3) ∧ Fr n0 L ∧ h = h0)
set_option maxRecDepth 65536 in
set_option maxHeartbeats 40000000 in
theorem own_rm14 (l : Launch) (Z : State) (a0 : Array Value) (hw : ∀ d ∈ tables_1, d.before a0 Z = true) (ws : List Jvm.Cond) (ob_5 : Addr) (h0 : Heap) (n0 : Nat) (Z0 : n0 ≤ h0.size) (O0 : Old Z n0 h0) (I406 : Fld Z Z.heap ob_5 "java/lang/Enum" "ordinal" "I" (.int 3)) :
    own_Met l Z h0 (⟨"java/lang/Enum", "ordinal", "()I"⟩ : MethodName) jdk_37_method_2_code 1 (Option.some FieldType.int) ws ({ frames := 0, cells := 0, slots := 0, locals := 0 } : Room) #[(.ref ob_5)] (own_Q14 Z ob_5 h0 n0) 0 0 := by
  refine MetFree.of_bodySF own_pn1 hisR ?_
  intro p e s m args below meth c s₁ Bd hml0 hP hK
  obtain ⟨rfl, hZ, hh⟩ := hP
  have hx := Bd.exec
  have hby := Bd.bytes
  have hml : c.maxLocals = 1 := hml0
  have hown : s.vm.findClass "java/lang/Enum" = some m.cls := findClass_of_methodNamed Bd.named
  have hnm := (name_of_methodNamed Bd.named Bd.method).1
  have X0 : Stand p l e ({ frames := 0, cells := 0, slots := 0, locals := 0 } : Room) s m #[(.ref ob_5)] below meth c s₁ [] 0 0 := Stand.of_body Bd
  have e0 : s₁.heap = h0 := by rw [← hh, Bd.state]; rfl
  have N0 := Fr.nil n0
  show own_G p e below (s₁.setTop (entryFrame m #[(.ref ob_5)] 1)) (own_P s (own_Q14 Z ob_5 h0 n0) 0 0)
  refine own_cast (own_ef3 m ob_5) ?_
  show own_G p e below (s₁.setTop (mkF m 0 #[rv ob_5] [])) _
  refine oS (fun _ => XS.aloadN X0.here hx rfl (hb hby dd2_0) rfl rfl) ?_
  have F407 : Fld Z h0 ob_5 "java/lang/Enum" "ordinal" "I" (.int 3) := Fld.ext O0.2 I406
  obtain ⟨T408, X409, e410, s411⟩ := getF X0 hx hZ hown (host := "") (Or.inl (oW hw 23 rfl)) Via.refl e0 F407 (g := (mkF m 1 #[rv ob_5] [(.ref ob_5)])) rfl rfl (hb hby dd2_1)
  refine oS s411 ?_
  show own_G p e below (T408.setTop (mkF m 4 #[rv ob_5] [(.int 3)])) _
  exact own_retI X409 hx Bd.notSynchronized Bd.returns (hb hby dd2_4) e410 (by decide) (by decide) (⟨rfl, N0, rfl⟩)
theorem dd1_56 : decode prog_5_method_5_code 56 = .ok (.aload_n 1, 1) := by decide +kernel
theorem dd1_57 : decode prog_5_method_5_code 57 = .ok (.ifnull 10, 3) := by decide +kernel
theorem dd1_60 : decode prog_5_method_5_code 60 = .ok (.aload_n 1, 1) := by decide +kernel
theorem dd1_61 : decode prog_5_method_5_code 61 = .ok (.getstatic 69, 3) := by decide +kernel
theorem dd1_64 : decode prog_5_method_5_code 64 = .ok (.if_acmp .ne 7, 3) := by decide +kernel
theorem dd1_71 : decode prog_5_method_5_code 71 = .ok (.aload_n 1, 1) := by decide +kernel
theorem dd1_72 : decode prog_5_method_5_code 72 = .ok (.areturn, 1) := by decide +kernel
def own_Q13 (Z : State) (ob_5 : Addr) (ob_3 : Addr) (ob_6 : Addr) (h0 : Heap) (n0 : Nat) (v : Option Value) (h : Heap) (L : List Loc) : Prop := (v = some (.ref ob_3) ∧ Fr n0 L ∧ h = h0)
set_option maxRecDepth 65536 in
set_option maxHeartbeats 40000000 in
theorem own_rm13 (l : Launch) (Z : State) (a0 : Array Value) (hw : ∀ d ∈ tables_1, d.before a0 Z = true) (ws : List Jvm.Cond) (ob_5 : Addr) (ob_3 : Addr) (ob_6 : Addr) (h0 : Heap) (n0 : Nat) (Z0 : n0 ≤ h0.size) (O0 : Old Z n0 h0) (I405 : Fld Z Z.heap ob_5 "java/lang/Enum" "ordinal" "I" (.int 3)) (I421 : Exa Z Z.heap ob_5 "com/example/latente/latente/query/Aggregate") (I429 : Sta Z Z.heap "com/example/latente/latente/mapping/BasicType" "BOOLEAN" "Lcom/example/latente/latente/mapping/BasicType;" (.ref ob_6)) (I439 : ob_3 ≠ ob_6) :
    own_Met l Z h0 (⟨"com/example/latente/latente/query/Aggregate", "resultType", "(Lcom/example/latente/latente/mapping/BasicType;)Lcom/example/latente/latente/mapping/BasicType;"⟩ : MethodName) prog_5_method_5_code 2 (Option.some (FieldType.object "com/example/latente/latente/mapping/BasicType")) ws ({ frames := 1, cells := 0, slots := 0, locals := 12 } : Room) #[(.ref ob_5), (.ref ob_3)] (own_Q13 Z ob_5 ob_3 ob_6 h0 n0) 0 0 := by
  refine MetFree.of_bodySF own_pn2 hisR ?_
  intro p e s m args below meth c s₁ Bd hml0 hP hK
  obtain ⟨rfl, hZ, hh⟩ := hP
  have hx := Bd.exec
  have hby := Bd.bytes
  have hml : c.maxLocals = 2 := hml0
  have hown : s.vm.findClass "com/example/latente/latente/query/Aggregate" = some m.cls := findClass_of_methodNamed Bd.named
  have hnm := (name_of_methodNamed Bd.named Bd.method).1
  have X0 : Stand p l e ({ frames := 1, cells := 0, slots := 0, locals := 12 } : Room) s m #[(.ref ob_5), (.ref ob_3)] below meth c s₁ [] 0 0 := Stand.of_body Bd
  have e0 : s₁.heap = h0 := by rw [← hh, Bd.state]; rfl
  have N0 := Fr.nil n0
  show own_G p e below (s₁.setTop (entryFrame m #[(.ref ob_5), (.ref ob_3)] 2)) (own_P s (own_Q13 Z ob_5 ob_3 ob_6 h0 n0) 0 0)
  refine own_cast (own_ef2 m ob_5 ob_3) ?_
  show own_G p e below (s₁.setTop (mkF m 0 #[rv ob_5, rv ob_3] [])) _
  refine oS (fun _ => XS.aloadN X0.here hx rfl (hb hby dd1_0) rfl rfl) ?_
  have F422 : Exa Z h0 ob_5 "com/example/latente/latente/query/Aggregate" := Exa.ext O0.2 I421
  obtain ⟨T412, h413, v414, L415, X416, e417, q418, s419⟩ := own_callU X0 hx hZ hown e0 (y := (⟨"com/example/latente/latente/query/Aggregate", "ordinal", "()I"⟩ : MethodName)) (z := (⟨"java/lang/Enum", "ordinal", "()I"⟩ : MethodName)) (C := "com/example/latente/latente/query/Aggregate") (owner := "java/lang/Enum") (b := ob_5) (oW hw 16 rfl) (oW hw 17 rfl) (oW hw 18 rfl) (oW hw 20 rfl) (oW hw 19 rfl) (oW hw 21 rfl) (oW hw 22 rfl) (by decide) F422 (W := 0) (own_rm14 l Z a0 hw [] ob_5 h0 n0 Z0 O0 I405) (by decide) (by decide) (by decide) (by decide) (g := (mkF m 1 #[rv ob_5, rv ob_3] [(.ref ob_5)])) rfl (by rw [hml]; rfl) (argsL := []) (rest := []) rfl (lenOf own_pd1 rfl) rfl (by show 2 * 0 + _ ≤ _; exact Nat.le_of_eq rfl) (hb hby dd1_1)
  refine oS s419 ?_
  obtain ⟨rfl, N423, K424⟩ := q418
  have N425 := Fr.app N0 N423
  have e426 := e417.trans K424
  show own_G p e below (T412.setTop (mkF m 4 #[rv ob_5, rv ob_3] [(.int 3)])) _
  have u427 : ∀ t, Steps p.tables e below (T412.setTop (mkF m 56 #[rv ob_5, rv ob_3] [])) t → Steps p.tables e below (T412.setTop (mkF m 4 #[rv ob_5, rv ob_3] [(.int 3)])) t := fun t hr => XS.tswOut X416.here hx (g := (mkF m 4 #[rv ob_5, rv ob_3] [(.int 3)])) rfl (pc0 := 4) (pc' := 56) rfl (hb hby dd1_4) rfl (by decide +kernel) (by decide) (by decide) hr
  refine oS u427 ?_
  refine oS (fun _ => XS.aloadN X416.here hx rfl (hb hby dd1_56) rfl rfl) ?_
  refine oS (fun _ => XS.ifnullNo X416.here hx rfl (hb hby dd1_57) rfl) ?_
  show own_G p e below (T412.setTop (mkF m 60 #[rv ob_5, rv ob_3] [])) _
  refine oS (fun _ => XS.aloadN X416.here hx rfl (hb hby dd1_60) rfl rfl) ?_
  have F430 : Sta Z h0 "com/example/latente/latente/mapping/BasicType" "BOOLEAN" "Lcom/example/latente/latente/mapping/BasicType;" (.ref ob_6) := Sta.ext O0.2 I429
  obtain ⟨T431, X432, e433, s434⟩ := getS X416 hx hZ hown (host := "") (oW hw 35 rfl) Via.refl e426 F430 (g := (mkF m 61 #[rv ob_5, rv ob_3] [(.ref ob_3)])) rfl (hb hby dd1_61)
  refine oS s434 ?_
  show own_G p e below (T431.setTop (mkF m 64 #[rv ob_5, rv ob_3] [(.ref ob_6), (.ref ob_3)])) _
  refine oS (fun _ => XT.acmpYes X432.here hx rfl (pc0 := 64) (pc' := 71) rfl (hb hby dd1_64) rfl rfl rfl (XT.aa_ne_t (own_rne I439)) (by decide) (by decide)) ?_
  show own_G p e below (T431.setTop (mkF m 71 #[rv ob_5, rv ob_3] [])) _
  refine oS (fun _ => XS.aloadN X432.here hx rfl (hb hby dd1_71) rfl rfl) ?_
  exact own_retA X432 hx Bd.notSynchronized Bd.returns rfl rfl (hb hby dd1_72) e433 (by decide) (by decide) (⟨rfl, N425, rfl⟩)
theorem dd3_25 : decode prog_5_method_7_code 25 = .ok (.iconst 0, 1) := by decide +kernel
def own_Q15 (Z : State) (ob_5 : Addr) (ob_2 : Addr) (ob_7 : Addr) (ob_8 : Addr) (h0 : Heap) (n0 : Nat) (v : Option Value) (h : Heap) (L : List Loc) : Prop := (v = some (.int 0) ∧ Fr n0 L ∧ h = h0)
set_option maxRecDepth 65536 in
set_option maxHeartbeats 40000000 in
theorem own_rm15 (l : Launch) (Z : State) (a0 : Array Value) (hw : ∀ d ∈ tables_1, d.before a0 Z = true) (ws : List Jvm.Cond) (ob_5 : Addr) (ob_2 : Addr) (ob_7 : Addr) (ob_8 : Addr) (h0 : Heap) (n0 : Nat) (Z0 : n0 ≤ h0.size) (O0 : Old Z n0 h0) (I462 : Sta Z Z.heap "com/example/latente/latente/query/Aggregate" "COUNT" "Lcom/example/latente/latente/query/Aggregate;" (.ref ob_2)) (I468 : ob_5 ≠ ob_2) (I469 : Sta Z Z.heap "com/example/latente/latente/query/Aggregate" "SUM" "Lcom/example/latente/latente/query/Aggregate;" (.ref ob_7)) (I475 : ob_5 ≠ ob_7) (I476 : Sta Z Z.heap "com/example/latente/latente/query/Aggregate" "AVG" "Lcom/example/latente/latente/query/Aggregate;" (.ref ob_8)) (I484 : ob_5 ≠ ob_8) :
    own_Met l Z h0 (⟨"com/example/latente/latente/query/Aggregate", "isComputed", "()Z"⟩ : MethodName) prog_5_method_7_code 1 (Option.some FieldType.boolean) ws ({ frames := 0, cells := 0, slots := 0, locals := 0 } : Room) #[(.ref ob_5)] (own_Q15 Z ob_5 ob_2 ob_7 ob_8 h0 n0) 0 0 := by
  refine MetFree.of_bodySF own_pn3 hisR ?_
  intro p e s m args below meth c s₁ Bd hml0 hP hK
  obtain ⟨rfl, hZ, hh⟩ := hP
  have hx := Bd.exec
  have hby := Bd.bytes
  have hml : c.maxLocals = 1 := hml0
  have hown : s.vm.findClass "com/example/latente/latente/query/Aggregate" = some m.cls := findClass_of_methodNamed Bd.named
  have hnm := (name_of_methodNamed Bd.named Bd.method).1
  have X0 : Stand p l e ({ frames := 0, cells := 0, slots := 0, locals := 0 } : Room) s m #[(.ref ob_5)] below meth c s₁ [] 0 0 := Stand.of_body Bd
  have e0 : s₁.heap = h0 := by rw [← hh, Bd.state]; rfl
  have N0 := Fr.nil n0
  show own_G p e below (s₁.setTop (entryFrame m #[(.ref ob_5)] 1)) (own_P s (own_Q15 Z ob_5 ob_2 ob_7 ob_8 h0 n0) 0 0)
  refine own_cast (own_ef3 m ob_5) ?_
  show own_G p e below (s₁.setTop (mkF m 0 #[rv ob_5] [])) _
  refine oS (fun _ => XS.aloadN X0.here hx rfl (hb hby dd3_0) rfl rfl) ?_
  have F463 : Sta Z h0 "com/example/latente/latente/query/Aggregate" "COUNT" "Lcom/example/latente/latente/query/Aggregate;" (.ref ob_2) := Sta.ext O0.2 I462
  obtain ⟨T464, X465, e466, s467⟩ := getS X0 hx hZ hown (host := "") (oW hw 32 rfl) Via.refl e0 F463 (g := (mkF m 1 #[rv ob_5] [(.ref ob_5)])) rfl (hb hby dd3_1)
  refine oS s467 ?_
  show own_G p e below (T464.setTop (mkF m 4 #[rv ob_5] [(.ref ob_2), (.ref ob_5)])) _
  refine oS (fun _ => XT.acmpNo X465.here hx rfl (hb hby dd3_4) rfl rfl rfl (XT.aa_eq_f (own_rne I468))) ?_
  show own_G p e below (T464.setTop (mkF m 7 #[rv ob_5] [])) _
  refine oS (fun _ => XS.aloadN X465.here hx rfl (hb hby dd3_7) rfl rfl) ?_
  have F470 : Sta Z h0 "com/example/latente/latente/query/Aggregate" "SUM" "Lcom/example/latente/latente/query/Aggregate;" (.ref ob_7) := Sta.ext O0.2 I469
  obtain ⟨T471, X472, e473, s474⟩ := getS X465 hx hZ hown (host := "") (oW hw 37 rfl) Via.refl e466 F470 (g := (mkF m 8 #[rv ob_5] [(.ref ob_5)])) rfl (hb hby dd3_8)
  refine oS s474 ?_
  show own_G p e below (T471.setTop (mkF m 11 #[rv ob_5] [(.ref ob_7), (.ref ob_5)])) _
  refine oS (fun _ => XT.acmpNo X472.here hx rfl (hb hby dd3_11) rfl rfl rfl (XT.aa_eq_f (own_rne I475))) ?_
  show own_G p e below (T471.setTop (mkF m 14 #[rv ob_5] [])) _
  refine oS (fun _ => XS.aloadN X472.here hx rfl (hb hby dd3_14) rfl rfl) ?_
  have F477 : Sta Z h0 "com/example/latente/latente/query/Aggregate" "AVG" "Lcom/example/latente/latente/query/Aggregate;" (.ref ob_8) := Sta.ext O0.2 I476
  obtain ⟨T478, X479, e480, s481⟩ := getS X472 hx hZ hown (host := "") (oW hw 39 rfl) Via.refl e473 F477 (g := (mkF m 15 #[rv ob_5] [(.ref ob_5)])) rfl (hb hby dd3_15)
  refine oS s481 ?_
  show own_G p e below (T478.setTop (mkF m 18 #[rv ob_5] [(.ref ob_8), (.ref ob_5)])) _
  refine oS (fun _ => XT.acmpYes X479.here hx rfl (pc0 := 18) (pc' := 25) rfl (hb hby dd3_18) rfl rfl rfl (XT.aa_ne_t (own_rne I484)) (by decide) (by decide)) ?_
  show own_G p e below (T478.setTop (mkF m 25 #[rv ob_5] [])) _
  refine oS (fun _ => XS.iconst X479.here hx rfl (hb hby dd3_25) ) ?_
  exact own_retN X479 hx (t := .boolean) Bd.notSynchronized Bd.returns (by simp) (hb hby dd3_26) (by decide) e480 (by decide) (by decide) (⟨rfl, N0, rfl⟩)
def own_Q17 (Z : State) (ob_11 : Addr) (h0 : Heap) (n0 : Nat) (v : Option Value) (h : Heap) (L : List Loc) : Prop := (v = some (.int 4) ∧ Fr n0 L ∧ h = h0)
set_option maxRecDepth 65536 in
set_option maxHeartbeats 40000000 in
theorem own_rm17 (l : Launch) (Z : State) (a0 : Array Value) (hw : ∀ d ∈ tables_1, d.before a0 Z = true) (ws : List Jvm.Cond) (ob_11 : Addr) (h0 : Heap) (n0 : Nat) (Z0 : n0 ≤ h0.size) (O0 : Old Z n0 h0) (I506 : Fld Z Z.heap ob_11 "java/lang/Enum" "ordinal" "I" (.int 4)) :
    own_Met l Z h0 (⟨"java/lang/Enum", "ordinal", "()I"⟩ : MethodName) jdk_37_method_2_code 1 (Option.some FieldType.int) ws ({ frames := 0, cells := 0, slots := 0, locals := 0 } : Room) #[(.ref ob_11)] (own_Q17 Z ob_11 h0 n0) 0 0 := by
  refine MetFree.of_bodySF own_pn1 hisR ?_
  intro p e s m args below meth c s₁ Bd hml0 hP hK
  obtain ⟨rfl, hZ, hh⟩ := hP
  have hx := Bd.exec
  have hby := Bd.bytes
  have hml : c.maxLocals = 1 := hml0
  have hown : s.vm.findClass "java/lang/Enum" = some m.cls := findClass_of_methodNamed Bd.named
  have hnm := (name_of_methodNamed Bd.named Bd.method).1
  have X0 : Stand p l e ({ frames := 0, cells := 0, slots := 0, locals := 0 } : Room) s m #[(.ref ob_11)] below meth c s₁ [] 0 0 := Stand.of_body Bd
  have e0 : s₁.heap = h0 := by rw [← hh, Bd.state]; rfl
  have N0 := Fr.nil n0
  show own_G p e below (s₁.setTop (entryFrame m #[(.ref ob_11)] 1)) (own_P s (own_Q17 Z ob_11 h0 n0) 0 0)
  refine own_cast (own_ef3 m ob_11) ?_
  show own_G p e below (s₁.setTop (mkF m 0 #[rv ob_11] [])) _
  refine oS (fun _ => XS.aloadN X0.here hx rfl (hb hby dd2_0) rfl rfl) ?_
  have F507 : Fld Z h0 ob_11 "java/lang/Enum" "ordinal" "I" (.int 4) := Fld.ext O0.2 I506
  obtain ⟨T508, X509, e510, s511⟩ := getF X0 hx hZ hown (host := "") (Or.inl (oW hw 23 rfl)) Via.refl e0 F507 (g := (mkF m 1 #[rv ob_11] [(.ref ob_11)])) rfl rfl (hb hby dd2_1)
  refine oS s511 ?_
  show own_G p e below (T508.setTop (mkF m 4 #[rv ob_11] [(.int 4)])) _
  exact own_retI X509 hx Bd.notSynchronized Bd.returns (hb hby dd2_4) e510 (by decide) (by decide) (⟨rfl, N0, rfl⟩)
def own_Q16 (Z : State) (ob_11 : Addr) (ob_3 : Addr) (ob_6 : Addr) (h0 : Heap) (n0 : Nat) (v : Option Value) (h : Heap) (L : List Loc) : Prop := (v = some (.ref ob_3) ∧ Fr n0 L ∧ h = h0)
set_option maxRecDepth 65536 in
set_option maxHeartbeats 40000000 in
theorem own_rm16 (l : Launch) (Z : State) (a0 : Array Value) (hw : ∀ d ∈ tables_1, d.before a0 Z = true) (ws : List Jvm.Cond) (ob_11 : Addr) (ob_3 : Addr) (ob_6 : Addr) (h0 : Heap) (n0 : Nat) (Z0 : n0 ≤ h0.size) (O0 : Old Z n0 h0) (I505 : Fld Z Z.heap ob_11 "java/lang/Enum" "ordinal" "I" (.int 4)) (I521 : Exa Z Z.heap ob_11 "com/example/latente/latente/query/Aggregate") (I528 : Sta Z Z.heap "com/example/latente/latente/mapping/BasicType" "BOOLEAN" "Lcom/example/latente/latente/mapping/BasicType;" (.ref ob_6)) (I537 : ob_3 ≠ ob_6) :
    own_Met l Z h0 (⟨"com/example/latente/latente/query/Aggregate", "resultType", "(Lcom/example/latente/latente/mapping/BasicType;)Lcom/example/latente/latente/mapping/BasicType;"⟩ : MethodName) prog_5_method_5_code 2 (Option.some (FieldType.object "com/example/latente/latente/mapping/BasicType")) ws ({ frames := 1, cells := 0, slots := 0, locals := 12 } : Room) #[(.ref ob_11), (.ref ob_3)] (own_Q16 Z ob_11 ob_3 ob_6 h0 n0) 0 0 := by
  refine MetFree.of_bodySF own_pn2 hisR ?_
  intro p e s m args below meth c s₁ Bd hml0 hP hK
  obtain ⟨rfl, hZ, hh⟩ := hP
  have hx := Bd.exec
  have hby := Bd.bytes
  have hml : c.maxLocals = 2 := hml0
  have hown : s.vm.findClass "com/example/latente/latente/query/Aggregate" = some m.cls := findClass_of_methodNamed Bd.named
  have hnm := (name_of_methodNamed Bd.named Bd.method).1
  have X0 : Stand p l e ({ frames := 1, cells := 0, slots := 0, locals := 12 } : Room) s m #[(.ref ob_11), (.ref ob_3)] below meth c s₁ [] 0 0 := Stand.of_body Bd
  have e0 : s₁.heap = h0 := by rw [← hh, Bd.state]; rfl
  have N0 := Fr.nil n0
  show own_G p e below (s₁.setTop (entryFrame m #[(.ref ob_11), (.ref ob_3)] 2)) (own_P s (own_Q16 Z ob_11 ob_3 ob_6 h0 n0) 0 0)
  refine own_cast (own_ef2 m ob_11 ob_3) ?_
  show own_G p e below (s₁.setTop (mkF m 0 #[rv ob_11, rv ob_3] [])) _
  refine oS (fun _ => XS.aloadN X0.here hx rfl (hb hby dd1_0) rfl rfl) ?_
  have F522 : Exa Z h0 ob_11 "com/example/latente/latente/query/Aggregate" := Exa.ext O0.2 I521
  obtain ⟨T512, h513, v514, L515, X516, e517, q518, s519⟩ := own_callU X0 hx hZ hown e0 (y := (⟨"com/example/latente/latente/query/Aggregate", "ordinal", "()I"⟩ : MethodName)) (z := (⟨"java/lang/Enum", "ordinal", "()I"⟩ : MethodName)) (C := "com/example/latente/latente/query/Aggregate") (owner := "java/lang/Enum") (b := ob_11) (oW hw 16 rfl) (oW hw 17 rfl) (oW hw 18 rfl) (oW hw 20 rfl) (oW hw 19 rfl) (oW hw 21 rfl) (oW hw 22 rfl) (by decide) F522 (W := 0) (own_rm17 l Z a0 hw [] ob_11 h0 n0 Z0 O0 I505) (by decide) (by decide) (by decide) (by decide) (g := (mkF m 1 #[rv ob_11, rv ob_3] [(.ref ob_11)])) rfl (by rw [hml]; rfl) (argsL := []) (rest := []) rfl (lenOf own_pd1 rfl) rfl (by show 2 * 0 + _ ≤ _; exact Nat.le_of_eq rfl) (hb hby dd1_1)
  refine oS s519 ?_
  obtain ⟨rfl, N523, K524⟩ := q518
  have N525 := Fr.app N0 N523
  have e526 := e517.trans K524
  show own_G p e below (T512.setTop (mkF m 4 #[rv ob_11, rv ob_3] [(.int 4)])) _
  have u527 : ∀ t, Steps p.tables e below (T512.setTop (mkF m 56 #[rv ob_11, rv ob_3] [])) t → Steps p.tables e below (T512.setTop (mkF m 4 #[rv ob_11, rv ob_3] [(.int 4)])) t := fun t hr => XS.tswOut X516.here hx (g := (mkF m 4 #[rv ob_11, rv ob_3] [(.int 4)])) rfl (pc0 := 4) (pc' := 56) rfl (hb hby dd1_4) rfl (by decide +kernel) (by decide) (by decide) hr
  refine oS u527 ?_
  refine oS (fun _ => XS.aloadN X516.here hx rfl (hb hby dd1_56) rfl rfl) ?_
  refine oS (fun _ => XS.ifnullNo X516.here hx rfl (hb hby dd1_57) rfl) ?_
  show own_G p e below (T512.setTop (mkF m 60 #[rv ob_11, rv ob_3] [])) _
  refine oS (fun _ => XS.aloadN X516.here hx rfl (hb hby dd1_60) rfl rfl) ?_
  have F529 : Sta Z h0 "com/example/latente/latente/mapping/BasicType" "BOOLEAN" "Lcom/example/latente/latente/mapping/BasicType;" (.ref ob_6) := Sta.ext O0.2 I528
  obtain ⟨T530, X531, e532, s533⟩ := getS X516 hx hZ hown (host := "") (oW hw 35 rfl) Via.refl e526 F529 (g := (mkF m 61 #[rv ob_11, rv ob_3] [(.ref ob_3)])) rfl (hb hby dd1_61)
  refine oS s533 ?_
  show own_G p e below (T530.setTop (mkF m 64 #[rv ob_11, rv ob_3] [(.ref ob_6), (.ref ob_3)])) _
  refine oS (fun _ => XT.acmpYes X531.here hx rfl (pc0 := 64) (pc' := 71) rfl (hb hby dd1_64) rfl rfl rfl (XT.aa_ne_t (own_rne I537)) (by decide) (by decide)) ?_
  show own_G p e below (T530.setTop (mkF m 71 #[rv ob_11, rv ob_3] [])) _
  refine oS (fun _ => XS.aloadN X531.here hx rfl (hb hby dd1_71) rfl rfl) ?_
  exact own_retA X531 hx Bd.notSynchronized Bd.returns rfl rfl (hb hby dd1_72) e532 (by decide) (by decide) (⟨rfl, N525, rfl⟩)
def own_Q1 (Z : State) (in_1 : Int32) (ob_2 : Addr) (ob_7 : Addr) (ob_8 : Addr) (ob_5 : Addr) (ob_11 : Addr) (ob_3 : Addr) (ob_4 : Addr) (ob_9 : Addr) (kk_10 : ClassId) (ob_12 : Addr) (ob_6 : Addr) (h0 : Heap) (n0 : Nat) (v : Option Value) (h : Heap) (L : List Loc) : Prop := (v = some (.int 1) ∧ Fr n0 L)
theorem own_pn5 : plainFor x = true := by decide +kernel
set_option maxRecDepth 65536 in
set_option maxHeartbeats 40000000 in
theorem own_rm1 (l : Launch) (Z : State) (a0 : Array Value) (hw : ∀ d ∈ tables_1, d.before a0 Z = true) (ws : List Jvm.Cond) (in_1 : Int32) (ob_2 : Addr) (ob_7 : Addr) (ob_8 : Addr) (ob_5 : Addr) (ob_11 : Addr) (ob_3 : Addr) (ob_4 : Addr) (ob_9 : Addr) (kk_10 : ClassId) (ob_12 : Addr) (ob_6 : Addr) (h0 : Heap) (n0 : Nat) (Z0 : n0 ≤ h0.size) (O0 : Old Z n0 h0) (I18 : Sta Z Z.heap "com/example/latente/latente/query/Aggregate" "COUNT" "Lcom/example/latente/latente/query/Aggregate;" (.ref ob_2)) (I25 : Sta Z Z.heap "com/example/latente/latente/query/Aggregate" "SUM" "Lcom/example/latente/latente/query/Aggregate;" (.ref ob_7)) (I32 : Sta Z Z.heap "com/example/latente/latente/query/Aggregate" "AVG" "Lcom/example/latente/latente/query/Aggregate;" (.ref ob_8)) (I39 : Sta Z Z.heap "com/example/latente/latente/query/Aggregate" "MIN" "Lcom/example/latente/latente/query/Aggregate;" (.ref ob_5)) (I46 : Sta Z Z.heap "com/example/latente/latente/query/Aggregate" "MAX" "Lcom/example/latente/latente/query/Aggregate;" (.ref ob_11)) (I78 : Sta Z Z.heap "com/example/latente/latente/mapping/BasicType" "INTEGER" "Lcom/example/latente/latente/mapping/BasicType;" (.ref ob_3)) (I84 : Fld Z Z.heap ob_2 "java/lang/Enum" "ordinal" "I" (.int 0)) (I100 : Exa Z Z.heap ob_2 "com/example/latente/latente/query/Aggregate") (I108 : Sta Z Z.heap "com/example/latente/latente/mapping/BasicType" "LONG" "Lcom/example/latente/latente/mapping/BasicType;" (.ref ob_4)) (I132 : Fld Z Z.heap ob_4 "java/lang/Enum" "ordinal" "I" (.int 2)) (I134 : Fld Z Z.heap ob_3 "java/lang/Enum" "ordinal" "I" (.int 1)) (I162 : Fld Z Z.heap ob_7 "java/lang/Enum" "ordinal" "I" (.int 1)) (I178 : Exa Z Z.heap ob_7 "com/example/latente/latente/query/Aggregate") (I186 : Sta Z Z.heap "com/example/latente/latente/query/Aggregate$1" "$SwitchMap$com$example$latente$latente$mapping$BasicType" "[I" (.ref ob_9)) (I204 : Exa Z Z.heap ob_3 "com/example/latente/latente/mapping/BasicType") (I212 : Arv Z Z.heap ob_9 kk_10 FieldType.int 10 [(.int 0), (.int 1), (.int 2), (.int 3), (.int 4), (.int 5), (.int 0), (.int 6), (.int 0), (.int 0)] (.int 0)) (I291 : Fld Z Z.heap ob_8 "java/lang/Enum" "ordinal" "I" (.int 2)) (I307 : Exa Z Z.heap ob_8 "com/example/latente/latente/query/Aggregate") (I332 : Sta Z Z.heap "com/example/latente/latente/mapping/BasicType" "DOUBLE" "Lcom/example/latente/latente/mapping/BasicType;" (.ref ob_12)) (I356 : Fld Z Z.heap ob_12 "java/lang/Enum" "ordinal" "I" (.int 4)) (I404 : Fld Z Z.heap ob_5 "java/lang/Enum" "ordinal" "I" (.int 3)) (I420 : Exa Z Z.heap ob_5 "com/example/latente/latente/query/Aggregate") (I428 : Sta Z Z.heap "com/example/latente/latente/mapping/BasicType" "BOOLEAN" "Lcom/example/latente/latente/mapping/BasicType;" (.ref ob_6)) (I436 : Fld Z Z.heap ob_6 "java/lang/Enum" "ordinal" "I" (.int 6)) (I504 : Fld Z Z.heap ob_11 "java/lang/Enum" "ordinal" "I" (.int 4)) (I520 : Exa Z Z.heap ob_11 "com/example/latente/latente/query/Aggregate") :
    own_Met l Z h0 x code maxLocals ret ws room_1 #[(.int in_1)] (own_Q1 Z in_1 ob_2 ob_7 ob_8 ob_5 ob_11 ob_3 ob_4 ob_9 kk_10 ob_12 ob_6 h0 n0) 0 0 := by
  refine MetFree.of_bodySF own_pn5 hisR ?_
  intro p e s m args below meth c s₁ Bd hml0 hP hK
  obtain ⟨rfl, hZ, hh⟩ := hP
  have hx := Bd.exec
  have hby := Bd.bytes
  have hml : c.maxLocals = 3 := hml0
  have hown : s.vm.findClass "com/example/latente/latente/query/AggregateIsComputedPinLaw" = some m.cls := findClass_of_methodNamed Bd.named
  have hnm := (name_of_methodNamed Bd.named Bd.method).1
  have X0 : Stand p l e room_1 s m #[(.int in_1)] below meth c s₁ [] 0 0 := Stand.of_body Bd
  have e0 : s₁.heap = h0 := by rw [← hh, Bd.state]; rfl
  have N0 := Fr.nil n0
  show own_G p e below (s₁.setTop (entryFrame m #[(.int in_1)] maxLocals)) (own_P s (own_Q1 Z in_1 ob_2 ob_7 ob_8 ob_5 ob_11 ob_3 ob_4 ob_9 kk_10 ob_12 ob_6 h0 n0) 0 0)
  refine own_cast (own_ef0 m in_1) ?_
  show own_G p e below (s₁.setTop (mkF m 0 #[iv in_1, .unset, .unset] [])) _
  refine oS (fun _ => XS.iloadN X0.here hx rfl (hb hby at_0) rfl) ?_
  obtain ⟨T53, h54, v55, L56, X57, e58, q59, s60⟩ := own_callS X0 hx hZ hown e0 (y := (⟨"com/example/latente/latente/query/AggregateIsComputedPinLaw", "pick", "(I)Lcom/example/latente/latente/query/Aggregate;"⟩ : MethodName)) (oW hw 0 rfl) (oW hw 1 rfl) (oW hw 2 rfl) (oW hw 3 rfl) (by decide) (W := 0) (own_rm2 l Z a0 hw [] in_1 ob_2 ob_7 ob_8 ob_5 ob_11 h0 n0 Z0 O0 I18 I25 I32 I39 I46) (by decide) (by decide) (by decide) (by decide) (g := (mkF m 1 #[iv in_1, .unset, .unset] [(.int in_1)])) rfl (by rw [hml]; rfl) (argsL := [(.int in_1)]) (rest := []) rfl (lenOf own_pd0 rfl) rfl (by show 2 * 0 + _ ≤ _; exact Nat.le_of_eq rfl) (hb hby at_1)
  refine oS s60 ?_
  rcases q59 with ⟨b61, rfl, N62, K63⟩ | ⟨b64, rfl, N65, K66⟩ | ⟨b67, rfl, N68, K69⟩ | ⟨b70, rfl, N71, K72⟩ | ⟨b73, rfl, N74, K75⟩
  · skip
    have N76 := Fr.app N0 N62
    have e77 := e58.trans K63
    show own_G p e below (T53.setTop (mkF m 4 #[iv in_1, .unset, .unset] [(.ref ob_2)])) _
    refine oS (fun _ => XS.astoreN X57.here hx rfl (hb hby at_4) rfl rfl (l' := #[iv in_1, rv ob_2, .unset]) rfl) ?_
    refine oS (fun _ => XS.aloadN X57.here hx rfl (hb hby at_5) rfl rfl) ?_
    have F79 : Sta Z h0 "com/example/latente/latente/mapping/BasicType" "INTEGER" "Lcom/example/latente/latente/mapping/BasicType;" (.ref ob_3) := Sta.ext O0.2 I78
    obtain ⟨T80, X81, e82, s83⟩ := getS X57 hx hZ hown (host := "") (oW hw 8 rfl) Via.refl e77 F79 (g := (mkF m 6 #[iv in_1, rv ob_2, .unset] [(.ref ob_2)])) rfl (hb hby at_6)
    refine oS s83 ?_
    show own_G p e below (T80.setTop (mkF m 9 #[iv in_1, rv ob_2, .unset] [(.ref ob_3), (.ref ob_2)])) _
    have F123 : Exa Z h0 ob_2 "com/example/latente/latente/query/Aggregate" := Exa.ext O0.2 I100
    obtain ⟨T115, h116, v117, L118, X119, e120, q121, s122⟩ := own_callV X81 hx hZ hown e82 (y := (⟨"com/example/latente/latente/query/Aggregate", "resultType", "(Lcom/example/latente/latente/mapping/BasicType;)Lcom/example/latente/latente/mapping/BasicType;"⟩ : MethodName)) (z := (⟨"com/example/latente/latente/query/Aggregate", "resultType", "(Lcom/example/latente/latente/mapping/BasicType;)Lcom/example/latente/latente/mapping/BasicType;"⟩ : MethodName)) (C := "com/example/latente/latente/query/Aggregate") (b := ob_2) (oW hw 11 rfl) (oW hw 12 rfl) (notFace_of_selects (args := #[]) (mvT hZ (oW hw 14 rfl))) (oW hw 14 rfl) (oW hw 13 rfl) (oW hw 6 rfl) (oW hw 15 rfl) (by decide) F123 (W := 0) (own_rm3 l Z a0 hw [] ob_2 ob_3 ob_4 h0 n0 Z0 O0 I84 I100 I108) (by decide) (by decide) (by decide) (by decide) (g := (mkF m 9 #[iv in_1, rv ob_2, .unset] [(.ref ob_3), (.ref ob_2)])) rfl (by rw [hml]; rfl) (argsL := [(.ref ob_3)]) (rest := []) rfl (lenOf own_pd2 rfl) rfl (by show 2 * 0 + _ ≤ _; exact Nat.le_of_eq rfl) (hb hby at_9)
    refine oS s122 ?_
    obtain ⟨rfl, N124, K125⟩ := q121
    have N126 := Fr.app N76 N124
    have e127 := e120.trans K125
    show own_G p e below (T115.setTop (mkF m 12 #[iv in_1, rv ob_2, .unset] [(.ref ob_4)])) _
    obtain ⟨T128, X129, e130, s131⟩ := getS X119 hx hZ hown (host := "") (oW hw 8 rfl) Via.refl e127 F79 (g := (mkF m 12 #[iv in_1, rv ob_2, .unset] [(.ref ob_4)])) rfl (hb hby at_12)
    refine oS s131 ?_
    show own_G p e below (T128.setTop (mkF m 15 #[iv in_1, rv ob_2, .unset] [(.ref ob_3), (.ref ob_4)])) _
    have F133 : Fld Z h0 ob_4 "java/lang/Enum" "ordinal" "I" (.int 2) := Fld.ext O0.2 I132
    have F135 : Fld Z h0 ob_3 "java/lang/Enum" "ordinal" "I" (.int 1) := Fld.ext O0.2 I134
    have N136 : ob_4 ≠ ob_3 := Fld.ne F133 F135 (by decide)
    refine oS (fun _ => XT.acmpYes X129.here hx rfl (pc0 := 15) (pc' := 22) rfl (hb hby at_15) rfl rfl rfl (XT.aa_ne_t (own_rne N136)) (by decide) (by decide)) ?_
    show own_G p e below (T128.setTop (mkF m 22 #[iv in_1, rv ob_2, .unset] [])) _
    refine oS (fun _ => XS.iconst X129.here hx rfl (hb hby at_22) ) ?_
    refine oS (fun _ => XS.istoreN X129.here hx rfl (hb hby at_23) rfl (l' := #[iv in_1, rv ob_2, iv 0]) rfl) ?_
    refine oS (fun _ => XS.aloadN X129.here hx rfl (hb hby at_24) rfl rfl) ?_
    obtain ⟨T143, h144, v145, L146, X147, e148, q149, s150⟩ := own_callV X129 hx hZ hown e130 (y := (⟨"com/example/latente/latente/query/Aggregate", "isComputed", "()Z"⟩ : MethodName)) (z := (⟨"com/example/latente/latente/query/Aggregate", "isComputed", "()Z"⟩ : MethodName)) (C := "com/example/latente/latente/query/Aggregate") (b := ob_2) (oW hw 27 rfl) (oW hw 28 rfl) (notFace_of_selects (args := #[]) (mvT hZ (oW hw 30 rfl))) (oW hw 30 rfl) (oW hw 29 rfl) (oW hw 6 rfl) (oW hw 31 rfl) (by decide) F123 (W := 0) (own_rm5 l Z a0 hw [] ob_2 h0 n0 Z0 O0 I18) (by decide) (by decide) (by decide) (by decide) (g := (mkF m 25 #[iv in_1, rv ob_2, iv 0] [(.ref ob_2)])) rfl (by rw [hml]; rfl) (argsL := []) (rest := []) rfl (lenOf own_pd3 rfl) rfl (by show 2 * 0 + _ ≤ _; exact Nat.le_of_eq rfl) (hb hby at_25)
    refine oS s150 ?_
    obtain ⟨rfl, N151, K152⟩ := q149
    have N153 := Fr.app N126 N151
    have e154 := e148.trans K152
    show own_G p e below (T143.setTop (mkF m 28 #[iv in_1, rv ob_2, iv 0] [(.int 1)])) _
    refine oS (fun _ => XS.iloadN X147.here hx rfl (hb hby at_28) rfl) ?_
    refine oS (fun _ => XS.ifNo X147.here hx rfl (hb hby at_29) rfl (XT.i0_ne_f (by decide))) ?_
    show own_G p e below (T143.setTop (mkF m 32 #[iv in_1, rv ob_2, iv 0] [(.int 1)])) _
    refine oS (fun _ => XS.iconst X147.here hx rfl (hb hby at_32) ) ?_
    refine oS (fun _ => XS.goto X147.here hx rfl (pc0 := 33) (pc' := 37) rfl (hb hby at_33) (by decide) (by decide)) ?_
    show own_G p e below (T143.setTop (mkF m 37 #[iv in_1, rv ob_2, iv 0] [(.int 1), (.int 1)])) _
    refine oS (fun _ => XS.icmpNo X147.here hx rfl (hb hby at_37) rfl (XT.ii_ne_f (by decide))) ?_
    show own_G p e below (T143.setTop (mkF m 40 #[iv in_1, rv ob_2, iv 0] [])) _
    refine oS (fun _ => XS.iconst X147.here hx rfl (hb hby at_40) ) ?_
    refine oS (fun _ => XS.goto X147.here hx rfl (pc0 := 41) (pc' := 45) rfl (hb hby at_41) (by decide) (by decide)) ?_
    show own_G p e below (T143.setTop (mkF m 45 #[iv in_1, rv ob_2, iv 0] [(.int 1)])) _
    exact own_retN X147 hx (t := .boolean) Bd.notSynchronized Bd.returns (by simp) (hb hby at_45) (by decide) e154 (by decide) (by decide) (⟨rfl, N153⟩)
  · skip
    have N155 := Fr.app N0 N65
    have e156 := e58.trans K66
    show own_G p e below (T53.setTop (mkF m 4 #[iv in_1, .unset, .unset] [(.ref ob_7)])) _
    refine oS (fun _ => XS.astoreN X57.here hx rfl (hb hby at_4) rfl rfl (l' := #[iv in_1, rv ob_7, .unset]) rfl) ?_
    refine oS (fun _ => XS.aloadN X57.here hx rfl (hb hby at_5) rfl rfl) ?_
    have F157 : Sta Z h0 "com/example/latente/latente/mapping/BasicType" "INTEGER" "Lcom/example/latente/latente/mapping/BasicType;" (.ref ob_3) := Sta.ext O0.2 I78
    obtain ⟨T158, X159, e160, s161⟩ := getS X57 hx hZ hown (host := "") (oW hw 8 rfl) Via.refl e156 F157 (g := (mkF m 6 #[iv in_1, rv ob_7, .unset] [(.ref ob_7)])) rfl (hb hby at_6)
    refine oS s161 ?_
    show own_G p e below (T158.setTop (mkF m 9 #[iv in_1, rv ob_7, .unset] [(.ref ob_3), (.ref ob_7)])) _
    have F244 : Exa Z h0 ob_7 "com/example/latente/latente/query/Aggregate" := Exa.ext O0.2 I178
    obtain ⟨T236, h237, v238, L239, X240, e241, q242, s243⟩ := own_callV X159 hx hZ hown e160 (y := (⟨"com/example/latente/latente/query/Aggregate", "resultType", "(Lcom/example/latente/latente/mapping/BasicType;)Lcom/example/latente/latente/mapping/BasicType;"⟩ : MethodName)) (z := (⟨"com/example/latente/latente/query/Aggregate", "resultType", "(Lcom/example/latente/latente/mapping/BasicType;)Lcom/example/latente/latente/mapping/BasicType;"⟩ : MethodName)) (C := "com/example/latente/latente/query/Aggregate") (b := ob_7) (oW hw 11 rfl) (oW hw 12 rfl) (notFace_of_selects (args := #[]) (mvT hZ (oW hw 14 rfl))) (oW hw 14 rfl) (oW hw 13 rfl) (oW hw 6 rfl) (oW hw 15 rfl) (by decide) F244 (W := 0) (own_rm6 l Z a0 hw [] ob_7 ob_3 ob_9 kk_10 ob_4 h0 n0 Z0 O0 I162 I178 I186 I134 I204 I212 I108) (by decide) (by decide) (by decide) (by decide) (g := (mkF m 9 #[iv in_1, rv ob_7, .unset] [(.ref ob_3), (.ref ob_7)])) rfl (by rw [hml]; rfl) (argsL := [(.ref ob_3)]) (rest := []) rfl (lenOf own_pd2 rfl) rfl (by show 2 * 0 + _ ≤ _; exact Nat.le_of_eq rfl) (hb hby at_9)
    refine oS s243 ?_
    obtain ⟨rfl, N245, K246⟩ := q242
    have N247 := Fr.app N155 N245
    have e248 := e241.trans K246
    show own_G p e below (T236.setTop (mkF m 12 #[iv in_1, rv ob_7, .unset] [(.ref ob_4)])) _
    obtain ⟨T249, X250, e251, s252⟩ := getS X240 hx hZ hown (host := "") (oW hw 8 rfl) Via.refl e248 F157 (g := (mkF m 12 #[iv in_1, rv ob_7, .unset] [(.ref ob_4)])) rfl (hb hby at_12)
    refine oS s252 ?_
    show own_G p e below (T249.setTop (mkF m 15 #[iv in_1, rv ob_7, .unset] [(.ref ob_3), (.ref ob_4)])) _
    have F253 : Fld Z h0 ob_4 "java/lang/Enum" "ordinal" "I" (.int 2) := Fld.ext O0.2 I132
    have F254 : Fld Z h0 ob_3 "java/lang/Enum" "ordinal" "I" (.int 1) := Fld.ext O0.2 I134
    have N255 : ob_4 ≠ ob_3 := Fld.ne F253 F254 (by decide)
    refine oS (fun _ => XT.acmpYes X250.here hx rfl (pc0 := 15) (pc' := 22) rfl (hb hby at_15) rfl rfl rfl (XT.aa_ne_t (own_rne N255)) (by decide) (by decide)) ?_
    show own_G p e below (T249.setTop (mkF m 22 #[iv in_1, rv ob_7, .unset] [])) _
    refine oS (fun _ => XS.iconst X250.here hx rfl (hb hby at_22) ) ?_
    refine oS (fun _ => XS.istoreN X250.here hx rfl (hb hby at_23) rfl (l' := #[iv in_1, rv ob_7, iv 0]) rfl) ?_
    refine oS (fun _ => XS.aloadN X250.here hx rfl (hb hby at_24) rfl rfl) ?_
    have F262 : Fld Z h0 ob_7 "java/lang/Enum" "ordinal" "I" (.int 1) := Fld.ext O0.2 I162
    have F263 : Fld Z h0 ob_2 "java/lang/Enum" "ordinal" "I" (.int 0) := Fld.ext O0.2 I84
    have N264 : ob_7 ≠ ob_2 := Fld.ne F262 F263 (by decide)
    obtain ⟨T272, h273, v274, L275, X276, e277, q278, s279⟩ := own_callV X250 hx hZ hown e251 (y := (⟨"com/example/latente/latente/query/Aggregate", "isComputed", "()Z"⟩ : MethodName)) (z := (⟨"com/example/latente/latente/query/Aggregate", "isComputed", "()Z"⟩ : MethodName)) (C := "com/example/latente/latente/query/Aggregate") (b := ob_7) (oW hw 27 rfl) (oW hw 28 rfl) (notFace_of_selects (args := #[]) (mvT hZ (oW hw 30 rfl))) (oW hw 30 rfl) (oW hw 29 rfl) (oW hw 6 rfl) (oW hw 31 rfl) (by decide) F244 (W := 0) (own_rm9 l Z a0 hw [] ob_7 ob_2 h0 n0 Z0 O0 I18 N264 I25) (by decide) (by decide) (by decide) (by decide) (g := (mkF m 25 #[iv in_1, rv ob_7, iv 0] [(.ref ob_7)])) rfl (by rw [hml]; rfl) (argsL := []) (rest := []) rfl (lenOf own_pd3 rfl) rfl (by show 2 * 0 + _ ≤ _; exact Nat.le_of_eq rfl) (hb hby at_25)
    refine oS s279 ?_
    obtain ⟨rfl, N280, K281⟩ := q278
    have N282 := Fr.app N247 N280
    have e283 := e277.trans K281
    show own_G p e below (T272.setTop (mkF m 28 #[iv in_1, rv ob_7, iv 0] [(.int 1)])) _
    refine oS (fun _ => XS.iloadN X276.here hx rfl (hb hby at_28) rfl) ?_
    refine oS (fun _ => XS.ifNo X276.here hx rfl (hb hby at_29) rfl (XT.i0_ne_f (by decide))) ?_
    show own_G p e below (T272.setTop (mkF m 32 #[iv in_1, rv ob_7, iv 0] [(.int 1)])) _
    refine oS (fun _ => XS.iconst X276.here hx rfl (hb hby at_32) ) ?_
    refine oS (fun _ => XS.goto X276.here hx rfl (pc0 := 33) (pc' := 37) rfl (hb hby at_33) (by decide) (by decide)) ?_
    show own_G p e below (T272.setTop (mkF m 37 #[iv in_1, rv ob_7, iv 0] [(.int 1), (.int 1)])) _
    refine oS (fun _ => XS.icmpNo X276.here hx rfl (hb hby at_37) rfl (XT.ii_ne_f (by decide))) ?_
    show own_G p e below (T272.setTop (mkF m 40 #[iv in_1, rv ob_7, iv 0] [])) _
    refine oS (fun _ => XS.iconst X276.here hx rfl (hb hby at_40) ) ?_
    refine oS (fun _ => XS.goto X276.here hx rfl (pc0 := 41) (pc' := 45) rfl (hb hby at_41) (by decide) (by decide)) ?_
    show own_G p e below (T272.setTop (mkF m 45 #[iv in_1, rv ob_7, iv 0] [(.int 1)])) _
    exact own_retN X276 hx (t := .boolean) Bd.notSynchronized Bd.returns (by simp) (hb hby at_45) (by decide) e283 (by decide) (by decide) (⟨rfl, N282⟩)
  · skip
    have N284 := Fr.app N0 N68
    have e285 := e58.trans K69
    show own_G p e below (T53.setTop (mkF m 4 #[iv in_1, .unset, .unset] [(.ref ob_8)])) _
    refine oS (fun _ => XS.astoreN X57.here hx rfl (hb hby at_4) rfl rfl (l' := #[iv in_1, rv ob_8, .unset]) rfl) ?_
    refine oS (fun _ => XS.aloadN X57.here hx rfl (hb hby at_5) rfl rfl) ?_
    have F286 : Sta Z h0 "com/example/latente/latente/mapping/BasicType" "INTEGER" "Lcom/example/latente/latente/mapping/BasicType;" (.ref ob_3) := Sta.ext O0.2 I78
    obtain ⟨T287, X288, e289, s290⟩ := getS X57 hx hZ hown (host := "") (oW hw 8 rfl) Via.refl e285 F286 (g := (mkF m 6 #[iv in_1, rv ob_8, .unset] [(.ref ob_8)])) rfl (hb hby at_6)
    refine oS s290 ?_
    show own_G p e below (T287.setTop (mkF m 9 #[iv in_1, rv ob_8, .unset] [(.ref ob_3), (.ref ob_8)])) _
    have F347 : Exa Z h0 ob_8 "com/example/latente/latente/query/Aggregate" := Exa.ext O0.2 I307
    obtain ⟨T339, h340, v341, L342, X343, e344, q345, s346⟩ := own_callV X288 hx hZ hown e289 (y := (⟨"com/example/latente/latente/query/Aggregate", "resultType", "(Lcom/example/latente/latente/mapping/BasicType;)Lcom/example/latente/latente/mapping/BasicType;"⟩ : MethodName)) (z := (⟨"com/example/latente/latente/query/Aggregate", "resultType", "(Lcom/example/latente/latente/mapping/BasicType;)Lcom/example/latente/latente/mapping/BasicType;"⟩ : MethodName)) (C := "com/example/latente/latente/query/Aggregate") (b := ob_8) (oW hw 11 rfl) (oW hw 12 rfl) (notFace_of_selects (args := #[]) (mvT hZ (oW hw 14 rfl))) (oW hw 14 rfl) (oW hw 13 rfl) (oW hw 6 rfl) (oW hw 15 rfl) (by decide) F347 (W := 0) (own_rm10 l Z a0 hw [] ob_8 ob_3 ob_9 kk_10 ob_4 ob_12 h0 n0 Z0 O0 I291 I307 I186 I134 I204 I212 I108 I332) (by decide) (by decide) (by decide) (by decide) (g := (mkF m 9 #[iv in_1, rv ob_8, .unset] [(.ref ob_3), (.ref ob_8)])) rfl (by rw [hml]; rfl) (argsL := [(.ref ob_3)]) (rest := []) rfl (lenOf own_pd2 rfl) rfl (by show 2 * 0 + _ ≤ _; exact Nat.le_of_eq rfl) (hb hby at_9)
    refine oS s346 ?_
    obtain ⟨rfl, N348, K349⟩ := q345
    have N350 := Fr.app N284 N348
    have e351 := e344.trans K349
    show own_G p e below (T339.setTop (mkF m 12 #[iv in_1, rv ob_8, .unset] [(.ref ob_12)])) _
    obtain ⟨T352, X353, e354, s355⟩ := getS X343 hx hZ hown (host := "") (oW hw 8 rfl) Via.refl e351 F286 (g := (mkF m 12 #[iv in_1, rv ob_8, .unset] [(.ref ob_12)])) rfl (hb hby at_12)
    refine oS s355 ?_
    show own_G p e below (T352.setTop (mkF m 15 #[iv in_1, rv ob_8, .unset] [(.ref ob_3), (.ref ob_12)])) _
    have F357 : Fld Z h0 ob_12 "java/lang/Enum" "ordinal" "I" (.int 4) := Fld.ext O0.2 I356
    have F358 : Fld Z h0 ob_3 "java/lang/Enum" "ordinal" "I" (.int 1) := Fld.ext O0.2 I134
    have N359 : ob_12 ≠ ob_3 := Fld.ne F357 F358 (by decide)
    refine oS (fun _ => XT.acmpYes X353.here hx rfl (pc0 := 15) (pc' := 22) rfl (hb hby at_15) rfl rfl rfl (XT.aa_ne_t (own_rne N359)) (by decide) (by decide)) ?_
    show own_G p e below (T352.setTop (mkF m 22 #[iv in_1, rv ob_8, .unset] [])) _
    refine oS (fun _ => XS.iconst X353.here hx rfl (hb hby at_22) ) ?_
    refine oS (fun _ => XS.istoreN X353.here hx rfl (hb hby at_23) rfl (l' := #[iv in_1, rv ob_8, iv 0]) rfl) ?_
    refine oS (fun _ => XS.aloadN X353.here hx rfl (hb hby at_24) rfl rfl) ?_
    have F360 : Fld Z h0 ob_8 "java/lang/Enum" "ordinal" "I" (.int 2) := Fld.ext O0.2 I291
    have F361 : Fld Z h0 ob_2 "java/lang/Enum" "ordinal" "I" (.int 0) := Fld.ext O0.2 I84
    have N362 : ob_8 ≠ ob_2 := Fld.ne F360 F361 (by decide)
    have F376 : Fld Z h0 ob_7 "java/lang/Enum" "ordinal" "I" (.int 1) := Fld.ext O0.2 I162
    have N377 : ob_8 ≠ ob_7 := Fld.ne F360 F376 (by decide)
    obtain ⟨T385, h386, v387, L388, X389, e390, q391, s392⟩ := own_callV X353 hx hZ hown e354 (y := (⟨"com/example/latente/latente/query/Aggregate", "isComputed", "()Z"⟩ : MethodName)) (z := (⟨"com/example/latente/latente/query/Aggregate", "isComputed", "()Z"⟩ : MethodName)) (C := "com/example/latente/latente/query/Aggregate") (b := ob_8) (oW hw 27 rfl) (oW hw 28 rfl) (notFace_of_selects (args := #[]) (mvT hZ (oW hw 30 rfl))) (oW hw 30 rfl) (oW hw 29 rfl) (oW hw 6 rfl) (oW hw 31 rfl) (by decide) F347 (W := 0) (own_rm12 l Z a0 hw [] ob_8 ob_2 ob_7 h0 n0 Z0 O0 I18 N362 I25 N377 I32) (by decide) (by decide) (by decide) (by decide) (g := (mkF m 25 #[iv in_1, rv ob_8, iv 0] [(.ref ob_8)])) rfl (by rw [hml]; rfl) (argsL := []) (rest := []) rfl (lenOf own_pd3 rfl) rfl (by show 2 * 0 + _ ≤ _; exact Nat.le_of_eq rfl) (hb hby at_25)
    refine oS s392 ?_
    obtain ⟨rfl, N393, K394⟩ := q391
    have N395 := Fr.app N350 N393
    have e396 := e390.trans K394
    show own_G p e below (T385.setTop (mkF m 28 #[iv in_1, rv ob_8, iv 0] [(.int 1)])) _
    refine oS (fun _ => XS.iloadN X389.here hx rfl (hb hby at_28) rfl) ?_
    refine oS (fun _ => XS.ifNo X389.here hx rfl (hb hby at_29) rfl (XT.i0_ne_f (by decide))) ?_
    show own_G p e below (T385.setTop (mkF m 32 #[iv in_1, rv ob_8, iv 0] [(.int 1)])) _
    refine oS (fun _ => XS.iconst X389.here hx rfl (hb hby at_32) ) ?_
    refine oS (fun _ => XS.goto X389.here hx rfl (pc0 := 33) (pc' := 37) rfl (hb hby at_33) (by decide) (by decide)) ?_
    show own_G p e below (T385.setTop (mkF m 37 #[iv in_1, rv ob_8, iv 0] [(.int 1), (.int 1)])) _
    refine oS (fun _ => XS.icmpNo X389.here hx rfl (hb hby at_37) rfl (XT.ii_ne_f (by decide))) ?_
    show own_G p e below (T385.setTop (mkF m 40 #[iv in_1, rv ob_8, iv 0] [])) _
    refine oS (fun _ => XS.iconst X389.here hx rfl (hb hby at_40) ) ?_
    refine oS (fun _ => XS.goto X389.here hx rfl (pc0 := 41) (pc' := 45) rfl (hb hby at_41) (by decide) (by decide)) ?_
    show own_G p e below (T385.setTop (mkF m 45 #[iv in_1, rv ob_8, iv 0] [(.int 1)])) _
    exact own_retN X389 hx (t := .boolean) Bd.notSynchronized Bd.returns (by simp) (hb hby at_45) (by decide) e396 (by decide) (by decide) (⟨rfl, N395⟩)
  · skip
    have N397 := Fr.app N0 N71
    have e398 := e58.trans K72
    show own_G p e below (T53.setTop (mkF m 4 #[iv in_1, .unset, .unset] [(.ref ob_5)])) _
    refine oS (fun _ => XS.astoreN X57.here hx rfl (hb hby at_4) rfl rfl (l' := #[iv in_1, rv ob_5, .unset]) rfl) ?_
    refine oS (fun _ => XS.aloadN X57.here hx rfl (hb hby at_5) rfl rfl) ?_
    have F399 : Sta Z h0 "com/example/latente/latente/mapping/BasicType" "INTEGER" "Lcom/example/latente/latente/mapping/BasicType;" (.ref ob_3) := Sta.ext O0.2 I78
    obtain ⟨T400, X401, e402, s403⟩ := getS X57 hx hZ hown (host := "") (oW hw 8 rfl) Via.refl e398 F399 (g := (mkF m 6 #[iv in_1, rv ob_5, .unset] [(.ref ob_5)])) rfl (hb hby at_6)
    refine oS s403 ?_
    show own_G p e below (T400.setTop (mkF m 9 #[iv in_1, rv ob_5, .unset] [(.ref ob_3), (.ref ob_5)])) _
    have F435 : Fld Z h0 ob_3 "java/lang/Enum" "ordinal" "I" (.int 1) := Fld.ext O0.2 I134
    have F437 : Fld Z h0 ob_6 "java/lang/Enum" "ordinal" "I" (.int 6) := Fld.ext O0.2 I436
    have N438 : ob_3 ≠ ob_6 := Fld.ne F435 F437 (by decide)
    have F448 : Exa Z h0 ob_5 "com/example/latente/latente/query/Aggregate" := Exa.ext O0.2 I420
    obtain ⟨T440, h441, v442, L443, X444, e445, q446, s447⟩ := own_callV X401 hx hZ hown e402 (y := (⟨"com/example/latente/latente/query/Aggregate", "resultType", "(Lcom/example/latente/latente/mapping/BasicType;)Lcom/example/latente/latente/mapping/BasicType;"⟩ : MethodName)) (z := (⟨"com/example/latente/latente/query/Aggregate", "resultType", "(Lcom/example/latente/latente/mapping/BasicType;)Lcom/example/latente/latente/mapping/BasicType;"⟩ : MethodName)) (C := "com/example/latente/latente/query/Aggregate") (b := ob_5) (oW hw 11 rfl) (oW hw 12 rfl) (notFace_of_selects (args := #[]) (mvT hZ (oW hw 14 rfl))) (oW hw 14 rfl) (oW hw 13 rfl) (oW hw 6 rfl) (oW hw 15 rfl) (by decide) F448 (W := 0) (own_rm13 l Z a0 hw [] ob_5 ob_3 ob_6 h0 n0 Z0 O0 I404 I420 I428 N438) (by decide) (by decide) (by decide) (by decide) (g := (mkF m 9 #[iv in_1, rv ob_5, .unset] [(.ref ob_3), (.ref ob_5)])) rfl (by rw [hml]; rfl) (argsL := [(.ref ob_3)]) (rest := []) rfl (lenOf own_pd2 rfl) rfl (by show 2 * 0 + _ ≤ _; exact Nat.le_of_eq rfl) (hb hby at_9)
    refine oS s447 ?_
    obtain ⟨rfl, N449, K450⟩ := q446
    have N451 := Fr.app N397 N449
    have e452 := e445.trans K450
    show own_G p e below (T440.setTop (mkF m 12 #[iv in_1, rv ob_5, .unset] [(.ref ob_3)])) _
    obtain ⟨T453, X454, e455, s456⟩ := getS X444 hx hZ hown (host := "") (oW hw 8 rfl) Via.refl e452 F399 (g := (mkF m 12 #[iv in_1, rv ob_5, .unset] [(.ref ob_3)])) rfl (hb hby at_12)
    refine oS s456 ?_
    show own_G p e below (T453.setTop (mkF m 15 #[iv in_1, rv ob_5, .unset] [(.ref ob_3), (.ref ob_3)])) _
    refine oS (fun _ => XT.acmpNo X454.here hx rfl (hb hby at_15) rfl rfl rfl (XT.aa_ne_f rfl)) ?_
    show own_G p e below (T453.setTop (mkF m 18 #[iv in_1, rv ob_5, .unset] [])) _
    refine oS (fun _ => XS.iconst X454.here hx rfl (hb hby at_18) ) ?_
    refine oS (fun _ => XS.goto X454.here hx rfl (pc0 := 19) (pc' := 23) rfl (hb hby at_19) (by decide) (by decide)) ?_
    show own_G p e below (T453.setTop (mkF m 23 #[iv in_1, rv ob_5, .unset] [(.int 1)])) _
    refine oS (fun _ => XS.istoreN X454.here hx rfl (hb hby at_23) rfl (l' := #[iv in_1, rv ob_5, iv 1]) rfl) ?_
    refine oS (fun _ => XS.aloadN X454.here hx rfl (hb hby at_24) rfl rfl) ?_
    have F457 : Fld Z h0 ob_5 "java/lang/Enum" "ordinal" "I" (.int 3) := Fld.ext O0.2 I404
    have F458 : Fld Z h0 ob_2 "java/lang/Enum" "ordinal" "I" (.int 0) := Fld.ext O0.2 I84
    have N459 : ob_5 ≠ ob_2 := Fld.ne F457 F458 (by decide)
    have F460 : Fld Z h0 ob_7 "java/lang/Enum" "ordinal" "I" (.int 1) := Fld.ext O0.2 I162
    have N461 : ob_5 ≠ ob_7 := Fld.ne F457 F460 (by decide)
    have F482 : Fld Z h0 ob_8 "java/lang/Enum" "ordinal" "I" (.int 2) := Fld.ext O0.2 I291
    have N483 : ob_5 ≠ ob_8 := Fld.ne F457 F482 (by decide)
    obtain ⟨T485, h486, v487, L488, X489, e490, q491, s492⟩ := own_callV X454 hx hZ hown e455 (y := (⟨"com/example/latente/latente/query/Aggregate", "isComputed", "()Z"⟩ : MethodName)) (z := (⟨"com/example/latente/latente/query/Aggregate", "isComputed", "()Z"⟩ : MethodName)) (C := "com/example/latente/latente/query/Aggregate") (b := ob_5) (oW hw 27 rfl) (oW hw 28 rfl) (notFace_of_selects (args := #[]) (mvT hZ (oW hw 30 rfl))) (oW hw 30 rfl) (oW hw 29 rfl) (oW hw 6 rfl) (oW hw 31 rfl) (by decide) F448 (W := 0) (own_rm15 l Z a0 hw [] ob_5 ob_2 ob_7 ob_8 h0 n0 Z0 O0 I18 N459 I25 N461 I32 N483) (by decide) (by decide) (by decide) (by decide) (g := (mkF m 25 #[iv in_1, rv ob_5, iv 1] [(.ref ob_5)])) rfl (by rw [hml]; rfl) (argsL := []) (rest := []) rfl (lenOf own_pd3 rfl) rfl (by show 2 * 0 + _ ≤ _; exact Nat.le_of_eq rfl) (hb hby at_25)
    refine oS s492 ?_
    obtain ⟨rfl, N493, K494⟩ := q491
    have N495 := Fr.app N451 N493
    have e496 := e490.trans K494
    show own_G p e below (T485.setTop (mkF m 28 #[iv in_1, rv ob_5, iv 1] [(.int 0)])) _
    refine oS (fun _ => XS.iloadN X489.here hx rfl (hb hby at_28) rfl) ?_
    refine oS (fun _ => XS.ifYes X489.here hx rfl (pc0 := 29) (pc' := 36) rfl (hb hby at_29) rfl (XT.i0_ne_t (by decide)) (by decide) (by decide)) ?_
    show own_G p e below (T485.setTop (mkF m 36 #[iv in_1, rv ob_5, iv 1] [(.int 0)])) _
    refine oS (fun _ => XS.iconst X489.here hx rfl (hb hby at_36) ) ?_
    refine oS (fun _ => XS.icmpNo X489.here hx rfl (hb hby at_37) rfl (XT.ii_ne_f (by decide))) ?_
    show own_G p e below (T485.setTop (mkF m 40 #[iv in_1, rv ob_5, iv 1] [])) _
    refine oS (fun _ => XS.iconst X489.here hx rfl (hb hby at_40) ) ?_
    refine oS (fun _ => XS.goto X489.here hx rfl (pc0 := 41) (pc' := 45) rfl (hb hby at_41) (by decide) (by decide)) ?_
    show own_G p e below (T485.setTop (mkF m 45 #[iv in_1, rv ob_5, iv 1] [(.int 1)])) _
    exact own_retN X489 hx (t := .boolean) Bd.notSynchronized Bd.returns (by simp) (hb hby at_45) (by decide) e496 (by decide) (by decide) (⟨rfl, N495⟩)
  · skip
    have N497 := Fr.app N0 N74
    have e498 := e58.trans K75
    show own_G p e below (T53.setTop (mkF m 4 #[iv in_1, .unset, .unset] [(.ref ob_11)])) _
    refine oS (fun _ => XS.astoreN X57.here hx rfl (hb hby at_4) rfl rfl (l' := #[iv in_1, rv ob_11, .unset]) rfl) ?_
    refine oS (fun _ => XS.aloadN X57.here hx rfl (hb hby at_5) rfl rfl) ?_
    have F499 : Sta Z h0 "com/example/latente/latente/mapping/BasicType" "INTEGER" "Lcom/example/latente/latente/mapping/BasicType;" (.ref ob_3) := Sta.ext O0.2 I78
    obtain ⟨T500, X501, e502, s503⟩ := getS X57 hx hZ hown (host := "") (oW hw 8 rfl) Via.refl e498 F499 (g := (mkF m 6 #[iv in_1, rv ob_11, .unset] [(.ref ob_11)])) rfl (hb hby at_6)
    refine oS s503 ?_
    show own_G p e below (T500.setTop (mkF m 9 #[iv in_1, rv ob_11, .unset] [(.ref ob_3), (.ref ob_11)])) _
    have F534 : Fld Z h0 ob_3 "java/lang/Enum" "ordinal" "I" (.int 1) := Fld.ext O0.2 I134
    have F535 : Fld Z h0 ob_6 "java/lang/Enum" "ordinal" "I" (.int 6) := Fld.ext O0.2 I436
    have N536 : ob_3 ≠ ob_6 := Fld.ne F534 F535 (by decide)
    have F546 : Exa Z h0 ob_11 "com/example/latente/latente/query/Aggregate" := Exa.ext O0.2 I520
    obtain ⟨T538, h539, v540, L541, X542, e543, q544, s545⟩ := own_callV X501 hx hZ hown e502 (y := (⟨"com/example/latente/latente/query/Aggregate", "resultType", "(Lcom/example/latente/latente/mapping/BasicType;)Lcom/example/latente/latente/mapping/BasicType;"⟩ : MethodName)) (z := (⟨"com/example/latente/latente/query/Aggregate", "resultType", "(Lcom/example/latente/latente/mapping/BasicType;)Lcom/example/latente/latente/mapping/BasicType;"⟩ : MethodName)) (C := "com/example/latente/latente/query/Aggregate") (b := ob_11) (oW hw 11 rfl) (oW hw 12 rfl) (notFace_of_selects (args := #[]) (mvT hZ (oW hw 14 rfl))) (oW hw 14 rfl) (oW hw 13 rfl) (oW hw 6 rfl) (oW hw 15 rfl) (by decide) F546 (W := 0) (own_rm16 l Z a0 hw [] ob_11 ob_3 ob_6 h0 n0 Z0 O0 I504 I520 I428 N536) (by decide) (by decide) (by decide) (by decide) (g := (mkF m 9 #[iv in_1, rv ob_11, .unset] [(.ref ob_3), (.ref ob_11)])) rfl (by rw [hml]; rfl) (argsL := [(.ref ob_3)]) (rest := []) rfl (lenOf own_pd2 rfl) rfl (by show 2 * 0 + _ ≤ _; exact Nat.le_of_eq rfl) (hb hby at_9)
    refine oS s545 ?_
    obtain ⟨rfl, N547, K548⟩ := q544
    have N549 := Fr.app N497 N547
    have e550 := e543.trans K548
    show own_G p e below (T538.setTop (mkF m 12 #[iv in_1, rv ob_11, .unset] [(.ref ob_3)])) _
    obtain ⟨T551, X552, e553, s554⟩ := getS X542 hx hZ hown (host := "") (oW hw 8 rfl) Via.refl e550 F499 (g := (mkF m 12 #[iv in_1, rv ob_11, .unset] [(.ref ob_3)])) rfl (hb hby at_12)
    refine oS s554 ?_
    show own_G p e below (T551.setTop (mkF m 15 #[iv in_1, rv ob_11, .unset] [(.ref ob_3), (.ref ob_3)])) _
    refine oS (fun _ => XT.acmpNo X552.here hx rfl (hb hby at_15) rfl rfl rfl (XT.aa_ne_f rfl)) ?_
    show own_G p e below (T551.setTop (mkF m 18 #[iv in_1, rv ob_11, .unset] [])) _
    refine oS (fun _ => XS.iconst X552.here hx rfl (hb hby at_18) ) ?_
    refine oS (fun _ => XS.goto X552.here hx rfl (pc0 := 19) (pc' := 23) rfl (hb hby at_19) (by decide) (by decide)) ?_
    show own_G p e below (T551.setTop (mkF m 23 #[iv in_1, rv ob_11, .unset] [(.int 1)])) _
    refine oS (fun _ => XS.istoreN X552.here hx rfl (hb hby at_23) rfl (l' := #[iv in_1, rv ob_11, iv 1]) rfl) ?_
    refine oS (fun _ => XS.aloadN X552.here hx rfl (hb hby at_24) rfl rfl) ?_
    have F555 : Fld Z h0 ob_11 "java/lang/Enum" "ordinal" "I" (.int 4) := Fld.ext O0.2 I504
    have F556 : Fld Z h0 ob_2 "java/lang/Enum" "ordinal" "I" (.int 0) := Fld.ext O0.2 I84
    have N557 : ob_11 ≠ ob_2 := Fld.ne F555 F556 (by decide)
    have F558 : Fld Z h0 ob_7 "java/lang/Enum" "ordinal" "I" (.int 1) := Fld.ext O0.2 I162
    have N559 : ob_11 ≠ ob_7 := Fld.ne F555 F558 (by decide)
    have F560 : Fld Z h0 ob_8 "java/lang/Enum" "ordinal" "I" (.int 2) := Fld.ext O0.2 I291
    have N561 : ob_11 ≠ ob_8 := Fld.ne F555 F560 (by decide)
    obtain ⟨T562, h563, v564, L565, X566, e567, q568, s569⟩ := own_callV X552 hx hZ hown e553 (y := (⟨"com/example/latente/latente/query/Aggregate", "isComputed", "()Z"⟩ : MethodName)) (z := (⟨"com/example/latente/latente/query/Aggregate", "isComputed", "()Z"⟩ : MethodName)) (C := "com/example/latente/latente/query/Aggregate") (b := ob_11) (oW hw 27 rfl) (oW hw 28 rfl) (notFace_of_selects (args := #[]) (mvT hZ (oW hw 30 rfl))) (oW hw 30 rfl) (oW hw 29 rfl) (oW hw 6 rfl) (oW hw 31 rfl) (by decide) F546 (W := 0) (own_rm15 l Z a0 hw [] ob_11 ob_2 ob_7 ob_8 h0 n0 Z0 O0 I18 N557 I25 N559 I32 N561) (by decide) (by decide) (by decide) (by decide) (g := (mkF m 25 #[iv in_1, rv ob_11, iv 1] [(.ref ob_11)])) rfl (by rw [hml]; rfl) (argsL := []) (rest := []) rfl (lenOf own_pd3 rfl) rfl (by show 2 * 0 + _ ≤ _; exact Nat.le_of_eq rfl) (hb hby at_25)
    refine oS s569 ?_
    obtain ⟨rfl, N570, K571⟩ := q568
    have N572 := Fr.app N549 N570
    have e573 := e567.trans K571
    show own_G p e below (T562.setTop (mkF m 28 #[iv in_1, rv ob_11, iv 1] [(.int 0)])) _
    refine oS (fun _ => XS.iloadN X566.here hx rfl (hb hby at_28) rfl) ?_
    refine oS (fun _ => XS.ifYes X566.here hx rfl (pc0 := 29) (pc' := 36) rfl (hb hby at_29) rfl (XT.i0_ne_t (by decide)) (by decide) (by decide)) ?_
    show own_G p e below (T562.setTop (mkF m 36 #[iv in_1, rv ob_11, iv 1] [(.int 0)])) _
    refine oS (fun _ => XS.iconst X566.here hx rfl (hb hby at_36) ) ?_
    refine oS (fun _ => XS.icmpNo X566.here hx rfl (hb hby at_37) rfl (XT.ii_ne_f (by decide))) ?_
    show own_G p e below (T562.setTop (mkF m 40 #[iv in_1, rv ob_11, iv 1] [])) _
    refine oS (fun _ => XS.iconst X566.here hx rfl (hb hby at_40) ) ?_
    refine oS (fun _ => XS.goto X566.here hx rfl (pc0 := 41) (pc' := 45) rfl (hb hby at_41) (by decide) (by decide)) ?_
    show own_G p e below (T562.setTop (mkF m 45 #[iv in_1, rv ob_11, iv 1] [(.int 1)])) _
    exact own_retN X566 hx (t := .boolean) Bd.notSynchronized Bd.returns (by simp) (hb hby at_45) (by decide) e573 (by decide) (by decide) (⟨rfl, N572⟩)
set_option maxRecDepth 65536 in
set_option maxHeartbeats 40000000 in
theorem comes_1 {Post : Tables → Env → Array Value → State → Outcome → State → Prop} (hpost : ∀ tb e args s v u, (limb_1_1.after args s (.returned v) u = true ∧ limb_1_2.after args s (.returned v) u = true ∧ True) → FrameEnd s (.returned v) u (Jvm.fieldLocs frame_1_writes args s ++ Jvm.arrayLocs frame_1_arrays args s ++ Jvm.staticLocs frame_1_statics s) 0 0 → Post tb e args s (.returned v) u) :
    ArmFor flags0 classFile x code maxLocals ret World_1 tables_1 room_1 Calls_1 rest_1 Pre_1 Post := by
  intro l hfl _ _ p e ha hc hk s m args below hf hA hF happ hP
  obtain ⟨hcalls, hrest, hpre⟩ := hP
  obtain ⟨-, -, -, hnamed, -, -, -, hat⟩ := (Spec.applies_iff hf).mp happ
  obtain ⟨hg, hn⟩ := and_e (Cond.before_iff.mp (show (Jvm.Cond.and given_1 narrow_1).before args s = true from hpre))
  obtain ⟨g0, gg0⟩ := and_e hg
  obtain ⟨w0, rfl⟩ : ∃ w0 : Value, args = #[w0] := by
    have hs : args.size = 1 := by simpa [Cond.value, given_1] using g0
    obtain ⟨L⟩ := args
    match L, hs with
    | [w0], _ => exact ⟨w0, rfl⟩
  have hw := fun d (hd : d ∈ tables_1) => atoms_spec (ws := Jvm.Cond.code x code maxLocals ret :: tables_1) hat d (List.mem_cons_of_mem _ hd)
  have hfit : Fit s := fun {y c} hc i hi => by
    obtain ⟨ha, rfl⟩ := Array.getElem?_eq_some_iff.mp hc
    have q := List.all_eq_true.mp ((Array.all_eq_true_iff_forall_mem.mp hF) _ (Array.getElem_mem ha)) i (List.mem_range.mpr hi)
    simpa [Array.getElem?_eq_getElem hi] using q
  obtain ⟨in_1, ea0⟩ := is_v gg0
  obtain rfl : w0 = (.int in_1) := Option.some.inj ea0
  obtain ⟨c0, r0⟩ := and_e hn
  obtain ⟨c1, r1⟩ := and_e r0
  obtain ⟨c2, r2⟩ := and_e r1
  obtain ⟨c3, r3⟩ := and_e r2
  obtain ⟨c4, r4⟩ := and_e r3
  obtain ⟨c5, r5⟩ := and_e r4
  obtain ⟨c6, r6⟩ := and_e r5
  obtain ⟨c7, r7⟩ := and_e r6
  obtain ⟨c8, r8⟩ := and_e r7
  obtain ⟨c9, r9⟩ := and_e r8
  obtain ⟨c10, r10⟩ := and_e r9
  obtain ⟨c11, r11⟩ := and_e r10
  obtain ⟨c12, r12⟩ := and_e r11
  obtain ⟨c13, r13⟩ := and_e r12
  obtain ⟨c14, r14⟩ := and_e r13
  obtain ⟨c15, r15⟩ := and_e r14
  obtain ⟨c16, r16⟩ := and_e r15
  obtain ⟨c17, r17⟩ := and_e r16
  obtain ⟨c18, r18⟩ := and_e r17
  obtain ⟨c19, r19⟩ := and_e r18
  obtain ⟨c20, r20⟩ := and_e r19
  obtain ⟨c21, r21⟩ := and_e r20
  obtain ⟨c22, r22⟩ := and_e r21
  obtain ⟨c23, c24⟩ := and_e r22
  obtain ⟨ob_2, ev_ob_2⟩ := exa_v c0
  obtain ⟨ob_3, ev_ob_3⟩ := exa_v c1
  obtain ⟨ob_4, ev_ob_4⟩ := exa_v c3
  obtain ⟨ob_5, ev_ob_5⟩ := exa_v c6
  obtain ⟨ob_6, ev_ob_6⟩ := exa_v c8
  obtain ⟨ob_7, ev_ob_7⟩ := exa_v c10
  obtain ⟨ob_8, ev_ob_8⟩ := exa_v c12
  obtain ⟨ob_9, ev_ob_9⟩ := arr_v c14
  obtain ⟨kk_10, ar_ob_9⟩ := own_arr (vs := [(.int 0), (.int 1), (.int 2), (.int 3), (.int 4), (.int 5), (.int 0), (.int 6), (.int 0), (.int 0)]) (dv := (.int 0)) hfit ev_ob_9 c14 c15 (by decide) rfl (fun cl hc ha hz => ⟨own_allat (j := 0) (by decide) (by decide) ev_ob_9 hc ha (by rw [hz]; decide) (by decide) c20, own_allat (j := 1) (by decide) (by decide) ev_ob_9 hc ha (by rw [hz]; decide) (by decide) c20, own_allat (j := 2) (by decide) (by decide) ev_ob_9 hc ha (by rw [hz]; decide) (by decide) c20, own_allat (j := 3) (by decide) (by decide) ev_ob_9 hc ha (by rw [hz]; decide) (by decide) c20, own_allat (j := 4) (by decide) (by decide) ev_ob_9 hc ha (by rw [hz]; decide) (by decide) c20, own_allat (j := 5) (by decide) (by decide) ev_ob_9 hc ha (by rw [hz]; decide) (by decide) c20, own_elem (j := 6) ev_ob_9 (Term.int_eval 0) c21 hc, own_elem (j := 7) ev_ob_9 (Term.int_eval 6) c22 hc, own_elem (j := 8) ev_ob_9 (Term.int_eval 0) c23 hc, own_elem (j := 9) ev_ob_9 (Term.int_eval 0) c24 hc, trivial⟩)
  obtain ⟨ob_11, ev_ob_11⟩ := exa_v c16
  obtain ⟨ob_12, ev_ob_12⟩ := exa_v c18
  obtain ⟨n, o, h1, h2, h3, _, L, rfl, ⟨rfl, N⟩, hq⟩ := own_rm1 l s _ hw tables_1 in_1 ob_2 ob_7 ob_8 ob_5 ob_11 ob_3 ob_4 ob_9 kk_10 ob_12 ob_6 s.heap s.heap.size (Nat.le_refl _) (Old.start s) (Sta.start ev_ob_2 (Or.inr ⟨(oW hw 6 rfl), (oW hw 7 rfl)⟩)) (Sta.start ev_ob_7 (Or.inr ⟨(oW hw 6 rfl), (oW hw 38 rfl)⟩)) (Sta.start ev_ob_8 (Or.inr ⟨(oW hw 6 rfl), (oW hw 40 rfl)⟩)) (Sta.start ev_ob_5 (Or.inr ⟨(oW hw 6 rfl), (oW hw 34 rfl)⟩)) (Sta.start ev_ob_11 (Or.inr ⟨(oW hw 6 rfl), (oW hw 53 rfl)⟩)) (Sta.start ev_ob_3 (Or.inr ⟨(oW hw 9 rfl), (oW hw 10 rfl)⟩)) (own_fv ev_ob_2 (Term.int_eval 0) c2) (Exa.start ev_ob_2 c0) (Sta.start ev_ob_4 (Or.inr ⟨(oW hw 9 rfl), (oW hw 26 rfl)⟩)) (own_fv ev_ob_4 (Term.int_eval 2) c4) (own_fv ev_ob_3 (Term.int_eval 1) c5) (own_fv ev_ob_7 (Term.int_eval 1) c11) (Exa.start ev_ob_7 c10) (Sta.start ev_ob_9 (Or.inr ⟨(oW hw 46 rfl), (oW hw 47 rfl)⟩)) (Exa.start ev_ob_3 c1) ar_ob_9 (own_fv ev_ob_8 (Term.int_eval 2) c13) (Exa.start ev_ob_8 c12) (Sta.start ev_ob_12 (Or.inr ⟨(oW hw 9 rfl), (oW hw 56 rfl)⟩)) (own_fv ev_ob_12 (Term.int_eval 4) c19) (own_fv ev_ob_5 (Term.int_eval 3) c7) (Exa.start ev_ob_5 c6) (Sta.start ev_ob_6 (Or.inr ⟨(oW hw 9 rfl), (oW hw 36 rfl)⟩)) (own_fv ev_ob_6 (Term.int_eval 6) c9) (own_fv ev_ob_11 (Term.int_eval 4) c17) (Exa.start ev_ob_11 c16) p e ha hc hk s m _ below hf ((Spec.applies_iff_loose hf).mp happ).1 ⟨rfl, State.Warmed39.refl s, rfl⟩ trivial
  refine ⟨n, _, h1, h2, h3, hpost _ _ _ _ _ _ ⟨Cond.after_iff.mpr rfl, Cond.after_iff.mpr (eq_i res_at (Term.int_eval (1)) rfl), trivial⟩ ⟨hq.1, hq.2.1, (hq.2.2.sift fun y hy => Or.inr (N y hy)).mono (by decide) (by decide)⟩⟩
theorem main_1_1 : Claimed_1_1 := comes_1 fun _ _ _ _ _ _ h hF => ⟨h.1, hF⟩
theorem main_1_2 : Claimed_1_2 := comes_1 fun _ _ _ _ _ _ h hF => ⟨h.2.1, hF⟩
end Jvm.Pilot.@@N@@
namespace Jvm.Pilot.@@N@@
open Jvm Jvm.ClassFile Sem Op Lib Jvm.Free Jvm.Stand Jvm.Pilot.@@N@@.Jvm.D
/-! MADE BY PROGRAM (witnessworld.py) out of the Statement's table words and the real class files: 14 classes; the members and pool entries that the words name. The judged class is class 1, her method 2. -/
namespace start1
open Jvm.ClassFile
def u (s : String) : CpInfo := .utf8 (stringToUtf16 s)
/-- a pool by its gaps: so many unusable entries, then the entry; so many at the end -/
def gap : Nat → List CpInfo → List CpInfo
  | 0, r => r
  | n + 1, r => .unusable :: gap n r
def poolList (es : List (Nat × CpInfo)) (last : Nat) : List CpInfo := es.foldr (fun e r => gap e.1 (e.2 :: r)) (gap last [])
def pool (es : List (Nat × CpInfo)) (last : Nat) : Array CpInfo := ⟨poolList es last⟩
def fileOf (pool : Array CpInfo) (this : Nat) (attrs : Array Attribute := #[]) (ms : Array MethodInfo := #[]) (fl : Nat := 33) (sup : Nat := 0) (ifs : Array Nat := #[]) (fds : Array FieldInfo := #[]) : ClassFile where
  minorVersion := 0
  majorVersion := 65
  constantPool := pool
  accessFlags := fl
  thisClass := this
  superClass := sup
  interfaces := ifs
  fields := fds
  methods := ms
  attributes := attrs
def plain (name : String) (sup : Option ClassId) : Class where
  name := name
  kind := .ordinary
  loader := none
  accessFlags := 33
  super := sup
  interfaces := #[]
  cf := none
  fields := #[]
  methods := #[]
  instanceTypes := #[]
  staticTypes := #[]
  resolved := #[]
  callSites := []
  init := .initialized
  statics := none
  mirror := none

def pool0 : Array CpInfo := pool [(5, u "<init>"), (0, u "()V"), (1, .class_ 10), (1, u "java/lang/Object")] 113

def k0m0 : Method := { name := "<init>", desc := "()V", sig := { parameters := [], returnType := none }, accessFlags := 1, code := none }
/-- java/lang/Object -/
def k0 : Class := { plain "java/lang/Object" none with
  accessFlags := 33
  interfaces := #[]
  cf := some (fileOf pool0 8 #[] #[{ accessFlags := 1, nameIndex := 5, descriptorIndex := 6, attributes := #[] }] 33 0 #[] #[])
  fields := #[]
  methods := #[k0m0]
  instanceTypes := #[]
  staticTypes := #[]
  resolved := Array.replicate 124 none
  statics := none }

def pool1 : Array CpInfo := pool [(2, .class_ 4), (1, u "java/lang/Object"), (0, u "<init>"), (0, u "()V"), (0, .integer 2147483647), (0, .fieldref 9 10), (0, .class_ 11), (0, .nameAndType 12 13), (0, u "com/example/latente/latente/query/Aggregate"), (0, u "COUNT"), (0, u "Lcom/example/latente/latente/query/Aggregate;"), (0, .fieldref 9 15), (0, .nameAndType 16 13), (0, u "SUM"), (0, .fieldref 9 18), (0, .nameAndType 19 13), (0, u "AVG"), (0, .fieldref 9 21), (0, .nameAndType 22 13), (0, u "MIN"), (0, .fieldref 9 24), (0, .nameAndType 25 13), (0, u "MAX"), (0, .methodref 27 28), (0, .class_ 29), (0, .nameAndType 30 31), (0, u "com/example/latente/latente/query/AggregateIsComputedPinLaw"), (0, u "pick"), (0, u "(I)Lcom/example/latente/latente/query/Aggregate;"), (0, .fieldref 33 34), (0, .class_ 35), (0, .nameAndType 36 37), (0, u "com/example/latente/latente/mapping/BasicType"), (0, u "INTEGER"), (0, u "Lcom/example/latente/latente/mapping/BasicType;"), (0, .methodref 9 39), (0, .nameAndType 40 41), (0, u "resultType"), (0, u "(Lcom/example/latente/latente/mapping/BasicType;)Lcom/example/latente/latente/mapping/BasicType;"), (0, .methodref 9 43), (0, .nameAndType 44 45), (0, u "isComputed"), (0, u "()Z"), (3, u "law"), (0, u "(I)Z")] 2

def k1m0 : Method := { name := "<init>", desc := "()V", sig := { parameters := [], returnType := none }, accessFlags := 1, code := none }
def k1c1 : Code := { maxStack := 2, maxLocals := 2, code := method_2_code, exceptionTable := #[], attributes := #[] }
def k1m1 : Method := { name := "pick", desc := "(I)Lcom/example/latente/latente/query/Aggregate;", sig := { parameters := [.int], returnType := some (.object "com/example/latente/latente/query/Aggregate") }, accessFlags := 10, code := some k1c1 }
def k1c2 : Code := { maxStack := 2, maxLocals := 3, code := code, exceptionTable := #[], attributes := #[] }
def k1m2 : Method := { name := "law", desc := "(I)Z", sig := { parameters := [.int], returnType := some .boolean }, accessFlags := 9, code := some k1c2 }
/-- com/example/latente/latente/query/AggregateIsComputedPinLaw -/
def k1 : Class := { plain "com/example/latente/latente/query/AggregateIsComputedPinLaw" (some 0) with
  accessFlags := 49
  interfaces := #[]
  cf := some (fileOf pool1 27 #[] #[{ accessFlags := 1, nameIndex := 5, descriptorIndex := 6, attributes := #[] }, { accessFlags := 10, nameIndex := 30, descriptorIndex := 31, attributes := #[] }, { accessFlags := 9, nameIndex := 49, descriptorIndex := 50, attributes := #[] }] 49 2 #[] #[])
  fields := #[]
  methods := #[k1m0, k1m1, k1m2]
  instanceTypes := #[]
  staticTypes := #[]
  resolved := Array.replicate 53 none
  statics := none }

def pool2 : Array CpInfo := pool [(1, .class_ 2), (0, u "java/lang/constant/Constable"), (0, .class_ 4), (0, u "java/lang/Object")] 6

/-- java/lang/constant/Constable -/
def k2 : Class := { plain "java/lang/constant/Constable" (some 0) with
  accessFlags := 1537
  interfaces := #[]
  cf := some (fileOf pool2 1 #[] #[] 1537 3 #[] #[])
  fields := #[]
  methods := #[]
  instanceTypes := #[]
  staticTypes := #[]
  resolved := Array.replicate 11 none
  statics := none }

def pool3 : Array CpInfo := pool [(1, .class_ 2), (0, u "java/lang/Comparable"), (0, .class_ 4), (0, u "java/lang/Object")] 7

/-- java/lang/Comparable -/
def k3 : Class := { plain "java/lang/Comparable" (some 0) with
  accessFlags := 1537
  interfaces := #[]
  cf := some (fileOf pool3 1 #[] #[] 1537 3 #[] #[])
  fields := #[]
  methods := #[]
  instanceTypes := #[]
  staticTypes := #[]
  resolved := Array.replicate 12 none
  statics := none }

def pool4 : Array CpInfo := pool [(1, .class_ 2), (0, u "java/io/Serializable"), (0, .class_ 4), (0, u "java/lang/Object")] 2

/-- java/io/Serializable -/
def k4 : Class := { plain "java/io/Serializable" (some 0) with
  accessFlags := 1537
  interfaces := #[]
  cf := some (fileOf pool4 1 #[] #[] 1537 3 #[] #[])
  fields := #[]
  methods := #[]
  instanceTypes := #[]
  staticTypes := #[]
  resolved := Array.replicate 7 none
  statics := none }

def pool5 : Array CpInfo := pool [(2, .class_ 4), (1, u "java/lang/Enum"), (0, u "name"), (0, u "Ljava/lang/String;"), (0, .fieldref 2 8), (0, .nameAndType 9 10), (0, u "ordinal"), (0, u "I"), (1, .class_ 14), (1, u "java/lang/Object"), (4, u "hash"), (86, .class_ 108), (1, u "java/lang/Enum$EnumDesc"), (2, .class_ 112), (0, u "java/lang/constant/Constable"), (0, .class_ 114), (0, u "java/lang/Comparable"), (0, .class_ 116), (0, u "java/io/Serializable"), (9, u "()I")] 77

def k5c0 : Code := { maxStack := 1, maxLocals := 1, code := jdk_37_method_2_code, exceptionTable := #[], attributes := #[] }
def k5m0 : Method := { name := "ordinal", desc := "()I", sig := { parameters := [], returnType := some .int }, accessFlags := 17, code := some k5c0 }
/-- java/lang/Enum -/
def k5 : Class := { plain "java/lang/Enum" (some 0) with
  accessFlags := 1057
  interfaces := #[2, 3, 4]
  cf := some (fileOf pool5 2 #[.nestMembers #[106]] #[{ accessFlags := 17, nameIndex := 9, descriptorIndex := 126, attributes := #[] }] 1057 12 #[111, 113, 115] #[{ accessFlags := 18, nameIndex := 5, descriptorIndex := 6, attributes := #[] }, { accessFlags := 18, nameIndex := 9, descriptorIndex := 10, attributes := #[] }, { accessFlags := 2, nameIndex := 19, descriptorIndex := 10, attributes := #[] }])
  fields := #[{ name := "name", type := (.object "java/lang/String"), accessFlags := 18, slot := 0, constantValue := 0 }, { name := "ordinal", type := .int, accessFlags := 18, slot := 1, constantValue := 0 }, { name := "hash", type := .int, accessFlags := 2, slot := 2, constantValue := 0 }]
  methods := #[k5m0]
  instanceTypes := #[(.object "java/lang/String"), .int, .int]
  staticTypes := #[]
  resolved := Array.replicate 204 none
  statics := none }

def pool6 : Array CpInfo := pool [(1, .class_ 2), (0, u "com/example/latente/latente/query/Aggregate"), (0, .fieldref 1 4), (0, .nameAndType 5 6), (0, u "COUNT"), (0, u "Lcom/example/latente/latente/query/Aggregate;"), (0, .fieldref 1 8), (0, .nameAndType 9 6), (0, u "SUM"), (0, .fieldref 1 11), (0, .nameAndType 12 6), (0, u "AVG"), (2, u "MIN"), (2, u "MAX"), (2, u "$VALUES"), (0, u "[Lcom/example/latente/latente/query/Aggregate;"), (6, .class_ 31), (1, u "java/lang/Enum"), (20, .methodref 1 53), (0, .nameAndType 54 55), (0, u "ordinal"), (0, u "()I"), (0, .fieldref 57 58), (0, .class_ 59), (0, .nameAndType 60 61), (0, u "com/example/latente/latente/mapping/BasicType"), (0, u "LONG"), (0, u "Lcom/example/latente/latente/mapping/BasicType;"), (0, .methodref 1 63), (0, .nameAndType 64 65), (0, u "sumType"), (0, u "(Lcom/example/latente/latente/mapping/BasicType;)Lcom/example/latente/latente/mapping/BasicType;"), (0, .fieldref 57 67), (0, .nameAndType 68 61), (0, u "DOUBLE"), (0, .fieldref 57 70), (0, .nameAndType 71 61), (0, u "BOOLEAN"), (0, .fieldref 73 74), (0, .class_ 75), (0, .nameAndType 76 77), (0, u "com/example/latente/latente/query/Aggregate$1"), (0, u "$SwitchMap$com$example$latente$latente$mapping$BasicType"), (0, u "[I"), (0, .methodref 57 53), (30, u "resultType"), (0, u "isComputed"), (0, u "()Z")] 7

def k6c0 : Code := { maxStack := 2, maxLocals := 2, code := prog_5_method_5_code, exceptionTable := #[], attributes := #[] }
def k6m0 : Method := { name := "resultType", desc := "(Lcom/example/latente/latente/mapping/BasicType;)Lcom/example/latente/latente/mapping/BasicType;", sig := { parameters := [(.object "com/example/latente/latente/mapping/BasicType")], returnType := some (.object "com/example/latente/latente/mapping/BasicType") }, accessFlags := 0, code := some k6c0 }
def k6c1 : Code := { maxStack := 2, maxLocals := 1, code := prog_5_method_6_code, exceptionTable := #[], attributes := #[] }
def k6m1 : Method := { name := "sumType", desc := "(Lcom/example/latente/latente/mapping/BasicType;)Lcom/example/latente/latente/mapping/BasicType;", sig := { parameters := [(.object "com/example/latente/latente/mapping/BasicType")], returnType := some (.object "com/example/latente/latente/mapping/BasicType") }, accessFlags := 10, code := some k6c1 }
def k6c2 : Code := { maxStack := 2, maxLocals := 1, code := prog_5_method_7_code, exceptionTable := #[], attributes := #[] }
def k6m2 : Method := { name := "isComputed", desc := "()Z", sig := { parameters := [], returnType := some .boolean }, accessFlags := 0, code := some k6c2 }
/-- com/example/latente/latente/query/Aggregate -/
def k6 : Class := { plain "com/example/latente/latente/query/Aggregate" (some 5) with
  accessFlags := 16432
  interfaces := #[]
  cf := some (fileOf pool6 1 #[.nestMembers #[73]] #[{ accessFlags := 0, nameIndex := 109, descriptorIndex := 65, attributes := #[] }, { accessFlags := 10, nameIndex := 64, descriptorIndex := 65, attributes := #[] }, { accessFlags := 0, nameIndex := 110, descriptorIndex := 111, attributes := #[] }] 16432 29 #[] #[{ accessFlags := 16409, nameIndex := 5, descriptorIndex := 6, attributes := #[] }, { accessFlags := 16409, nameIndex := 9, descriptorIndex := 6, attributes := #[] }, { accessFlags := 16409, nameIndex := 12, descriptorIndex := 6, attributes := #[] }, { accessFlags := 16409, nameIndex := 15, descriptorIndex := 6, attributes := #[] }, { accessFlags := 16409, nameIndex := 18, descriptorIndex := 6, attributes := #[] }, { accessFlags := 4122, nameIndex := 21, descriptorIndex := 22, attributes := #[] }])
  fields := #[{ name := "COUNT", type := (.object "com/example/latente/latente/query/Aggregate"), accessFlags := 16409, slot := 0, constantValue := 0 }, { name := "SUM", type := (.object "com/example/latente/latente/query/Aggregate"), accessFlags := 16409, slot := 1, constantValue := 0 }, { name := "AVG", type := (.object "com/example/latente/latente/query/Aggregate"), accessFlags := 16409, slot := 2, constantValue := 0 }, { name := "MIN", type := (.object "com/example/latente/latente/query/Aggregate"), accessFlags := 16409, slot := 3, constantValue := 0 }, { name := "MAX", type := (.object "com/example/latente/latente/query/Aggregate"), accessFlags := 16409, slot := 4, constantValue := 0 }, { name := "$VALUES", type := (.array (.object "com/example/latente/latente/query/Aggregate")), accessFlags := 4122, slot := 5, constantValue := 0 }]
  methods := #[k6m0, k6m1, k6m2]
  instanceTypes := #[(.object "java/lang/String"), .int, .int]
  staticTypes := #[(.object "com/example/latente/latente/query/Aggregate"), (.object "com/example/latente/latente/query/Aggregate"), (.object "com/example/latente/latente/query/Aggregate"), (.object "com/example/latente/latente/query/Aggregate"), (.object "com/example/latente/latente/query/Aggregate"), (.array (.object "com/example/latente/latente/query/Aggregate"))]
  resolved := Array.replicate 119 none
  statics := some 0 }

def pool7 : Array CpInfo := pool [(1, .class_ 2), (0, u "com/example/latente/latente/mapping/BasicType"), (2, u "STRING"), (0, u "Lcom/example/latente/latente/mapping/BasicType;"), (2, u "INTEGER"), (2, u "LONG"), (2, u "SHORT"), (2, u "DOUBLE"), (2, u "FLOAT"), (2, u "BOOLEAN"), (2, u "BIG_DECIMAL"), (2, u "LOCAL_DATE"), (2, u "LOCAL_DATE_TIME"), (2, u "$VALUES"), (0, u "[Lcom/example/latente/latente/mapping/BasicType;"), (6, .class_ 46), (1, u "java/lang/Enum"), (8, u "objectClass"), (0, u "Ljava/lang/Class;"), (2, u "primitiveClass"), (2, u "sqlType"), (0, u "I")] 69

/-- com/example/latente/latente/mapping/BasicType -/
def k7 : Class := { plain "com/example/latente/latente/mapping/BasicType" (some 5) with
  accessFlags := 16433
  interfaces := #[]
  cf := some (fileOf pool7 1 #[] #[] 16433 44 #[] #[{ accessFlags := 16409, nameIndex := 5, descriptorIndex := 6, attributes := #[] }, { accessFlags := 16409, nameIndex := 9, descriptorIndex := 6, attributes := #[] }, { accessFlags := 16409, nameIndex := 12, descriptorIndex := 6, attributes := #[] }, { accessFlags := 16409, nameIndex := 15, descriptorIndex := 6, attributes := #[] }, { accessFlags := 16409, nameIndex := 18, descriptorIndex := 6, attributes := #[] }, { accessFlags := 16409, nameIndex := 21, descriptorIndex := 6, attributes := #[] }, { accessFlags := 16409, nameIndex := 24, descriptorIndex := 6, attributes := #[] }, { accessFlags := 16409, nameIndex := 27, descriptorIndex := 6, attributes := #[] }, { accessFlags := 16409, nameIndex := 30, descriptorIndex := 6, attributes := #[] }, { accessFlags := 16409, nameIndex := 33, descriptorIndex := 6, attributes := #[] }, { accessFlags := 18, nameIndex := 55, descriptorIndex := 56, attributes := #[] }, { accessFlags := 18, nameIndex := 59, descriptorIndex := 56, attributes := #[] }, { accessFlags := 18, nameIndex := 62, descriptorIndex := 63, attributes := #[] }, { accessFlags := 4122, nameIndex := 36, descriptorIndex := 37, attributes := #[] }])
  fields := #[{ name := "STRING", type := (.object "com/example/latente/latente/mapping/BasicType"), accessFlags := 16409, slot := 0, constantValue := 0 }, { name := "INTEGER", type := (.object "com/example/latente/latente/mapping/BasicType"), accessFlags := 16409, slot := 1, constantValue := 0 }, { name := "LONG", type := (.object "com/example/latente/latente/mapping/BasicType"), accessFlags := 16409, slot := 2, constantValue := 0 }, { name := "SHORT", type := (.object "com/example/latente/latente/mapping/BasicType"), accessFlags := 16409, slot := 3, constantValue := 0 }, { name := "DOUBLE", type := (.object "com/example/latente/latente/mapping/BasicType"), accessFlags := 16409, slot := 4, constantValue := 0 }, { name := "FLOAT", type := (.object "com/example/latente/latente/mapping/BasicType"), accessFlags := 16409, slot := 5, constantValue := 0 }, { name := "BOOLEAN", type := (.object "com/example/latente/latente/mapping/BasicType"), accessFlags := 16409, slot := 6, constantValue := 0 }, { name := "BIG_DECIMAL", type := (.object "com/example/latente/latente/mapping/BasicType"), accessFlags := 16409, slot := 7, constantValue := 0 }, { name := "LOCAL_DATE", type := (.object "com/example/latente/latente/mapping/BasicType"), accessFlags := 16409, slot := 8, constantValue := 0 }, { name := "LOCAL_DATE_TIME", type := (.object "com/example/latente/latente/mapping/BasicType"), accessFlags := 16409, slot := 9, constantValue := 0 }, { name := "objectClass", type := (.object "java/lang/Class"), accessFlags := 18, slot := 3, constantValue := 0 }, { name := "primitiveClass", type := (.object "java/lang/Class"), accessFlags := 18, slot := 4, constantValue := 0 }, { name := "sqlType", type := .int, accessFlags := 18, slot := 5, constantValue := 0 }, { name := "$VALUES", type := (.array (.object "com/example/latente/latente/mapping/BasicType")), accessFlags := 4122, slot := 10, constantValue := 0 }]
  methods := #[]
  instanceTypes := #[(.object "java/lang/String"), .int, .int, (.object "java/lang/Class"), (.object "java/lang/Class"), .int]
  staticTypes := #[(.object "com/example/latente/latente/mapping/BasicType"), (.object "com/example/latente/latente/mapping/BasicType"), (.object "com/example/latente/latente/mapping/BasicType"), (.object "com/example/latente/latente/mapping/BasicType"), (.object "com/example/latente/latente/mapping/BasicType"), (.object "com/example/latente/latente/mapping/BasicType"), (.object "com/example/latente/latente/mapping/BasicType"), (.object "com/example/latente/latente/mapping/BasicType"), (.object "com/example/latente/latente/mapping/BasicType"), (.object "com/example/latente/latente/mapping/BasicType"), (.array (.object "com/example/latente/latente/mapping/BasicType"))]
  resolved := Array.replicate 133 none
  statics := some 1 }

def pool8 : Array CpInfo := pool [(8, .class_ 10), (1, u "com/example/latente/latente/query/Aggregate$1"), (0, u "$SwitchMap$com$example$latente$latente$mapping$BasicType"), (0, u "[I"), (25, .class_ 39), (0, u "java/lang/Object"), (8, .class_ 49), (0, u "com/example/latente/latente/query/Aggregate")] 2

/-- com/example/latente/latente/query/Aggregate$1 -/
def k8 : Class := { plain "com/example/latente/latente/query/Aggregate$1" (some 0) with
  accessFlags := 4128
  interfaces := #[]
  cf := some (fileOf pool8 8 #[.nestHost 48] #[] 4128 38 #[] #[{ accessFlags := 4120, nameIndex := 11, descriptorIndex := 12, attributes := #[] }])
  fields := #[{ name := "$SwitchMap$com$example$latente$latente$mapping$BasicType", type := (.array .int), accessFlags := 4120, slot := 0, constantValue := 0 }]
  methods := #[]
  instanceTypes := #[]
  staticTypes := #[(.array .int)]
  resolved := Array.replicate 52 none
  statics := some 2 }

def pool9 : Array CpInfo := pool [(1, u "java/lang/Cloneable"), (0, .class_ 1), (0, u "java/lang/Object"), (0, .class_ 3)] 3

/-- java/lang/Cloneable -/
def k9 : Class := { plain "java/lang/Cloneable" (some 0) with
  accessFlags := 1537
  interfaces := #[]
  cf := some (fileOf pool9 2 #[] #[] 1537 4 #[] #[])
  fields := #[]
  methods := #[]
  instanceTypes := #[]
  staticTypes := #[]
  resolved := Array.replicate 8 none
  statics := none }

/-- the primitive byte -/
def k10 : Class := { plain "byte" none with kind := .primitive 'B', accessFlags := 0x411 }
/-- [B -/
def k11 : Class := { plain "[B" (some 0) with kind := .array 10 .byte, interfaces := #[9, 4], accessFlags := 1041 }

/-- the primitive int -/
def k12 : Class := { plain "int" none with kind := .primitive 'I', accessFlags := 0x411 }
/-- [I -/
def k13 : Class := { plain "[I" (some 0) with kind := .array 12 .int, interfaces := #[9, 4], accessFlags := 1041 }

def heap : Heap := #[{ cls := 6, slots := #[.ref 3, .ref 8, .ref 9, .ref 6, .ref 11, .null], vm := .statics 6 },
  { cls := 7, slots := #[.null, .ref 4, .ref 5, .null, .ref 12, .null, .ref 7, .null, .null, .null, .null], vm := .statics 7 },
  { cls := 8, slots := #[.ref 10], vm := .statics 8 },
  { cls := 6, slots := #[.null, .int 0, .int 0], vm := .none },
  { cls := 7, slots := #[.null, .int 1, .int 0, .null, .null, .int 0], vm := .none },
  { cls := 7, slots := #[.null, .int 2, .int 0, .null, .null, .int 0], vm := .none },
  { cls := 6, slots := #[.null, .int 3, .int 0], vm := .none },
  { cls := 7, slots := #[.null, .int 6, .int 0, .null, .null, .int 0], vm := .none },
  { cls := 6, slots := #[.null, .int 1, .int 0], vm := .none },
  { cls := 6, slots := #[.null, .int 2, .int 0], vm := .none },
  { cls := 13, slots := #[.int 0, .int 1, .int 2, .int 3, .int 4, .int 5, .int 0, .int 6, .int 0, .int 0], vm := .none },
  { cls := 6, slots := #[.null, .int 4, .int 0], vm := .none },
  { cls := 7, slots := #[.null, .int 4, .int 0, .null, .null, .int 0], vm := .none }]
def classes : Array Class := #[k0, k1, k2, k3, k4, k5, k6, k7, k8, k9, k10, k11, k12, k13]
def interned : List (Array UInt16 × Addr) := []
def slotsUsed : Nat := 67
def theMethod : MethodId := ⟨1, 2⟩
def args0 : Array Value := #[.int 5]
def aboutOver (below : List Frame) : State where
  vm := { classes := classes, interned := interned.toArray }
  heap := heap
  slotsUsed := slotsUsed
  threads := #[{ frames := .invoking theMethod args0 :: below }]
def below0 : List Frame := [.native { method := ⟨0, 0⟩, args := #[] }]
def about1 : State := aboutOver below0
def p0 : Program := .bare "" "" ""
def e0 : Env := launch0.env 0 0 0
theorem w_frames : about1.frames = Frame.invoking theMethod args0 :: below0 := rfl
set_option maxRecDepth 65536 in
theorem w_args : argsFit about1.vm theMethod args0 = true := by decide +kernel
set_option maxRecDepth 65536 in
theorem w_heap : heapFits about1 = true := by decide +kernel
set_option maxRecDepth 65536 in
theorem w_runnable : about1.curStatus? = some .runnable := by decide +kernel
set_option maxRecDepth 65536 in
theorem w_alone : about1.alone = true := by decide +kernel
set_option maxRecDepth 65536 in
theorem w_named : about1.methodNamed? x = some theMethod := by decide +kernel
set_option maxRecDepth 65536 in
theorem w_hears : about1.hears theMethod below0 = true := by decide +kernel
set_option maxRecDepth 65536 in
theorem w_ripe : about1.ripe theMethod args0 below0 = true := by decide +kernel
theorem w_running : about1.status = .running := rfl
set_option maxRecDepth 65536 in
theorem w_room : about1.hasRoom e0.platform room_1 = true :=
  launch0.hasRoom_least _ room_1 (by decide +kernel) (by decide +kernel) (by decide +kernel) (by decide +kernel) (by decide +kernel) (by decide +kernel)
theorem allAtoms_all (ts : List Jvm.Cond) (a : Array Jvm.Value) (st : Jvm.State) : (allAtoms ts).before a st = ts.all (fun c => c.before a st) := by
  induction ts with
  | nil => rfl
  | cons c t ih =>
    show (Jvm.Cond.and c (allAtoms t)).before a st = _
    rw [Jvm.Cond.before_and, ih, List.all_cons]
def words1 : List Jvm.Cond := Jvm.Cond.code x code maxLocals ret :: tables_1
/-- a 'code' word, met by the world's own term for the bytes: nothing is compared byte by byte -/
theorem code_word {y : MethodName} {bytes : ByteArray} {mx : Nat} {rt : Option FieldType} {a : Array Value} {s : State} {m : MethodId} {meth : Method} {c : Code} (h1 : s.methodNamed? y = some m) (h2 : s.vm.method? m = some meth) (h3 : meth.code = some c) (h4 : c.code = bytes)
    (h5 : (c.maxLocals == mx && c.exceptionTable.isEmpty && decide (c.maxStack ≤ mostOperands) && decide (meth.sig.returnType = rt) && !meth.locks && decide (parseMethodDescriptor y.desc = some meth.sig)) = true) : (Jvm.Cond.code y bytes mx rt).before a s = true := by
  simp only [Bool.and_eq_true, beq_iff_eq, Bool.not_eq_true', decide_eq_true_eq] at h5
  obtain ⟨⟨⟨⟨⟨g1, g2⟩, g3⟩, g4⟩, g5⟩, g6⟩ := h5
  simp [Cond.before, Cond.holds, Cond.value, h1, h2, h3, h4, g1, g2, g3, g4, g5, g6]
def isCode : Jvm.Cond → Bool
  | .code _ _ _ _ => true
  | _ => false
theorem all_split {L : List Jvm.Cond} {P : Jvm.Cond → Bool} (h1 : L.all (fun c => isCode c || P c) = true) (h2 : ∀ c ∈ L.filter isCode, P c = true) : L.all P = true := by
  refine List.all_eq_true.mpr fun c hc => ?_
  have h := List.all_eq_true.mp h1 c hc
  rcases Bool.eq_false_or_eq_true (isCode c) with hi | hi
  · exact h2 c (List.mem_filter.mpr ⟨hc, hi⟩)
  · simpa [hi] using h
set_option maxRecDepth 65536 in
theorem w_c0 : (Jvm.Cond.code x code maxLocals ret).before args0 about1 = true := code_word (m := ⟨1, 2⟩) (meth := k1m2) (c := k1c2) (by decide +kernel) rfl rfl rfl (by decide +kernel)
set_option maxRecDepth 65536 in
theorem w_c1 : (Jvm.Cond.code ({ cls := "com/example/latente/latente/query/AggregateIsComputedPinLaw", name := "pick", desc := "(I)Lcom/example/latente/latente/query/Aggregate;" } : Jvm.MethodName) method_2_code (2 : Nat) (Option.some (Jvm.ClassFile.FieldType.object "com/example/latente/latente/query/Aggregate"))).before args0 about1 = true := code_word (m := ⟨1, 1⟩) (meth := k1m1) (c := k1c1) (by decide +kernel) rfl rfl rfl (by decide +kernel)
set_option maxRecDepth 65536 in
theorem w_c2 : (Jvm.Cond.code ({ cls := "com/example/latente/latente/query/Aggregate", name := "resultType", desc := "(Lcom/example/latente/latente/mapping/BasicType;)Lcom/example/latente/latente/mapping/BasicType;" } : Jvm.MethodName) prog_5_method_5_code (2 : Nat) (Option.some (Jvm.ClassFile.FieldType.object "com/example/latente/latente/mapping/BasicType"))).before args0 about1 = true := code_word (m := ⟨6, 0⟩) (meth := k6m0) (c := k6c0) (by decide +kernel) rfl rfl rfl (by decide +kernel)
set_option maxRecDepth 65536 in
theorem w_c3 : (Jvm.Cond.code ({ cls := "java/lang/Enum", name := "ordinal", desc := "()I" } : Jvm.MethodName) jdk_37_method_2_code (1 : Nat) (Option.some Jvm.ClassFile.FieldType.int)).before args0 about1 = true := code_word (m := ⟨5, 0⟩) (meth := k5m0) (c := k5c0) (by decide +kernel) rfl rfl rfl (by decide +kernel)
set_option maxRecDepth 65536 in
theorem w_c4 : (Jvm.Cond.code ({ cls := "com/example/latente/latente/query/Aggregate", name := "isComputed", desc := "()Z" } : Jvm.MethodName) prog_5_method_7_code (1 : Nat) (Option.some Jvm.ClassFile.FieldType.boolean)).before args0 about1 = true := code_word (m := ⟨6, 2⟩) (meth := k6m2) (c := k6c2) (by decide +kernel) rfl rfl rfl (by decide +kernel)
set_option maxRecDepth 65536 in
theorem w_c5 : (Jvm.Cond.code ({ cls := "com/example/latente/latente/query/Aggregate", name := "sumType", desc := "(Lcom/example/latente/latente/mapping/BasicType;)Lcom/example/latente/latente/mapping/BasicType;" } : Jvm.MethodName) prog_5_method_6_code (1 : Nat) (Option.some (Jvm.ClassFile.FieldType.object "com/example/latente/latente/mapping/BasicType"))).before args0 about1 = true := code_word (m := ⟨6, 1⟩) (meth := k6m1) (c := k6c1) (by decide +kernel) rfl rfl rfl (by decide +kernel)
def codes1 : List Jvm.Cond := [Jvm.Cond.code x code maxLocals ret, Jvm.Cond.code ({ cls := "com/example/latente/latente/query/AggregateIsComputedPinLaw", name := "pick", desc := "(I)Lcom/example/latente/latente/query/Aggregate;" } : Jvm.MethodName) method_2_code (2 : Nat) (Option.some (Jvm.ClassFile.FieldType.object "com/example/latente/latente/query/Aggregate")), Jvm.Cond.code ({ cls := "com/example/latente/latente/query/Aggregate", name := "resultType", desc := "(Lcom/example/latente/latente/mapping/BasicType;)Lcom/example/latente/latente/mapping/BasicType;" } : Jvm.MethodName) prog_5_method_5_code (2 : Nat) (Option.some (Jvm.ClassFile.FieldType.object "com/example/latente/latente/mapping/BasicType")), Jvm.Cond.code ({ cls := "java/lang/Enum", name := "ordinal", desc := "()I" } : Jvm.MethodName) jdk_37_method_2_code (1 : Nat) (Option.some Jvm.ClassFile.FieldType.int), Jvm.Cond.code ({ cls := "com/example/latente/latente/query/Aggregate", name := "isComputed", desc := "()Z" } : Jvm.MethodName) prog_5_method_7_code (1 : Nat) (Option.some Jvm.ClassFile.FieldType.boolean), Jvm.Cond.code ({ cls := "com/example/latente/latente/query/Aggregate", name := "sumType", desc := "(Lcom/example/latente/latente/mapping/BasicType;)Lcom/example/latente/latente/mapping/BasicType;" } : Jvm.MethodName) prog_5_method_6_code (1 : Nat) (Option.some (Jvm.ClassFile.FieldType.object "com/example/latente/latente/mapping/BasicType"))]
set_option maxRecDepth 65536 in
theorem codes_eq : words1.filter isCode = codes1 := rfl
theorem w_codes : ∀ c ∈ words1.filter isCode, c.before args0 about1 = true := by
  rw [codes_eq]
  intro c hc
  simp only [codes1, List.mem_cons, List.not_mem_nil, or_false] at hc
  rcases hc with rfl | rfl | rfl | rfl | rfl | rfl
  · exact w_c0
  · exact w_c1
  · exact w_c2
  · exact w_c3
  · exact w_c4
  · exact w_c5
set_option maxRecDepth 65536 in
theorem w_t1 : (words1.take 24).all (fun c => isCode c || c.before args0 about1) = true := by decide +kernel
set_option maxRecDepth 65536 in
theorem w_t2 : ((words1.drop 24).take 24).all (fun c => isCode c || c.before args0 about1) = true := by decide +kernel
set_option maxRecDepth 65536 in
theorem w_t3 : ((words1.drop 24).drop 24).all (fun c => isCode c || c.before args0 about1) = true := by decide +kernel
theorem w_tables : (allAtoms (Jvm.Cond.code x code maxLocals ret :: tables_1)).before args0 about1 = true := by
  rw [allAtoms_all]
  show words1.all (fun c => c.before args0 about1) = true
  refine all_split ?_ w_codes
  rw [← List.take_append_drop 24 words1, List.all_append, w_t1, ← List.take_append_drop 24 (words1.drop 24), List.all_append, w_t2, w_t3]
  rfl
set_option maxRecDepth 65536 in
theorem w_case : (Jvm.Cond.and given_1 narrow_1).before args0 about1 = true := by decide +kernel
theorem w_applies : (headSpec (Jvm.Cond.code x code maxLocals ret :: tables_1) room_1).applies x e0.platform about1 = true :=
  (Spec.applies_iff w_frames).mpr ⟨w_running, w_runnable, w_alone, w_named, w_hears, w_ripe, w_room, w_tables⟩
theorem atStart : AtStart classFile x code maxLocals ret World_1 tables_1 room_1 Calls_1 rest_1 Pre_1 launch0 p0 e0 about1 theMethod args0 below0 :=
  ⟨lists_1, trivial, launch0.admits_env _ _ _, launch0.least_env, fairChoices_fair.cas, fairChoices_fair.clock, w_frames, w_args, w_heap, w_applies, trivial, trivial, w_case⟩
end start1
theorem witness_1 : WitnessClaimed_1 := ⟨start1.p0, start1.e0, start1.about1, start1.theMethod, start1.args0, start1.below0, start1.atStart⟩
end Jvm.Pilot.@@N@@
