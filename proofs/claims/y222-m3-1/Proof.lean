import JvmDerived
import JvmDerived.Pilot.@@N@@Statement
import JvmDerived.Pilot.@@N@@Code
set_option linter.unusedVariables false
set_option linter.unusedSimpArgs false
@@BLOCK:NumsL.lean.txt@@
namespace Jvm.Pilot.@@N@@
open Jvm Jvm.ClassFile Sem Op Lib Jvm.Free Jvm.Stand Jvm.LawKit Jvm.RoadKit Bundle Jvm.Pilot.@@N@@.Jvm.D
section Own
variable {p : Program} {l : Launch} {e : Env} {R : Room} {s : State} {m : MethodId} {args : Array Value} {below : List Frame} {meth : Method} {c : Code} {T : State} {locs : List Loc} {cells slots : Nat} {Z : State} {a0 : Array Value} {h : Heap}
/-- a walk that goes forward: from S the run comes to an end of which P holds -/
def own_G (p : Program) (e : Env) (below : List Frame) (S : State) (P : Outcome → State → Prop) : Prop :=
  ∃ s₂ o, Steps p.tables e below S s₂ ∧ s₂.status = .running ∧ Ended s₂ below o ∧ P o s₂
/-- what a body leaves -/
def own_P (s : State) (Q : Option Value → Heap → List Loc → Prop) (kc ks : Nat) (o : Outcome) (U : State) : Prop := ∃ v L, o = .returned v ∧ Q v U.heap L ∧ FrameEnd s o U L kc ks
theorem oS {S S' : State} {P : Outcome → State → Prop} (k : ∀ t, Steps p.tables e below S' t → Steps p.tables e below S t) (h : own_G p e below S' P) : own_G p e below S P := by
  obtain ⟨s2, o, h1, h2⟩ := h; exact ⟨s2, o, k _ h1, h2⟩
theorem oW {Z : State} {a0 : Array Value} (hw : ∀ d ∈ tables_1, d.before a0 Z = true) (i : Nat) {d : Jvm.Cond} (q : tables_1[i]? = some d) : d.before a0 Z = true := hw _ (List.mem_of_getElem? q)
theorem own_cast {g g' : JFrame} {P : Outcome → State → Prop} (q : g = g') (k : own_G p e below (T.setTop g') P) : own_G p e below (T.setTop g) P := q ▸ k
theorem own_leave (X : Stand p l e R s m args below meth c T locs cells slots) {g : JFrame} {v : Option Value} {Q : Option Value → Heap → List Loc → Prop} {kc ks : Nat} (hlocks : meth.locks = false) (hv : meth.sig.returnType = none → v = none)
    (k : ∀ fs, (∀ (f : JFrame) (acts : List Action), f.method = m → f.locked = none → f.entered = [] → (doReturn e (T.setTop f) acts v).1 = T.setFrames fs) → Steps p.tables e below (T.setTop g) (T.setFrames fs))
    (eT : T.heap = h) (hc : cells ≤ kc) (hs : slots ≤ ks) (hq : Q v h locs) : own_G p e below (T.setTop g) (own_P s Q kc ks) := by
  obtain ⟨fs, hr, hrun, hended, hW, hsame⟩ := X.leave (v := v) hv hlocks
  exact ⟨_, _, k fs hr, hrun, hended, _, _, rfl, by show Q v T.heap locs; rw [eT]; exact hq, ⟨_, rfl⟩, hW, hsame.mono hc hs⟩
theorem own_retN (X : Stand p l e R s m args below meth c T locs cells slots) (hx : p.tables.exec = Jvm.exec) {pc : Nat} {Ls : Array Slot} {z : Int32} {t : FieldType} {rest : List Value} {Q : Option Value → Heap → List Loc → Prop} {kc ks : Nat} (hlocks : meth.locks = false) (hret : meth.sig.returnType = some t) (ht : t = .boolean ∨ t = .byte ∨ t = .char ∨ t = .short)
    (hd : decode c.code pc = .ok (.ireturn, 1)) (hn : nar t z = z) (eT : T.heap = h) (hc : cells ≤ kc) (hs : slots ≤ ks) (hq : Q (some (.int z)) h locs) : own_G p e below (T.setTop (mkF m pc Ls (.int z :: rest))) (own_P s Q kc ks) :=
  own_leave X (v := some (.int z)) hlocks (fun q => by rw [hret] at q; cases q) (fun fs hl => retN X hx hret ht hd (by rw [hn]; exact hl)) eT hc hs hq
theorem own_retI (X : Stand p l e R s m args below meth c T locs cells slots) (hx : p.tables.exec = Jvm.exec) {pc : Nat} {Ls : Array Slot} {z : Int32} {rest : List Value} {Q : Option Value → Heap → List Loc → Prop} {kc ks : Nat} (hlocks : meth.locks = false) (hret : meth.sig.returnType = some .int)
    (hd : decode c.code pc = .ok (.ireturn, 1)) (eT : T.heap = h) (hc : cells ≤ kc) (hs : slots ≤ ks) (hq : Q (some (.int z)) h locs) : own_G p e below (T.setTop (mkF m pc Ls (.int z :: rest))) (own_P s Q kc ks) :=
  own_leave X (v := some (.int z)) hlocks (fun q => by rw [hret] at q; cases q) (fun fs hl => retOut X hx hret rfl (Or.inl ⟨rfl, Or.inl rfl, _, rfl⟩) hd hl) eT hc hs hq
theorem own_retL (X : Stand p l e R s m args below meth c T locs cells slots) (hx : p.tables.exec = Jvm.exec) {pc : Nat} {Ls : Array Slot} {z : Int64} {rest : List Value} {Q : Option Value → Heap → List Loc → Prop} {kc ks : Nat} (hlocks : meth.locks = false) (hret : meth.sig.returnType = some .long)
    (hd : decode c.code pc = .ok (.lreturn, 1)) (eT : T.heap = h) (hc : cells ≤ kc) (hs : slots ≤ ks) (hq : Q (some (.long z)) h locs) : own_G p e below (T.setTop (mkF m pc Ls (.long z :: rest))) (own_P s Q kc ks) :=
  own_leave X (v := some (.long z)) hlocks (fun q => by rw [hret] at q; cases q) (fun fs hl => retOut X hx hret rfl (Or.inr (Or.inl ⟨rfl, rfl, _, rfl⟩)) hd hl) eT hc hs hq
theorem own_narR {t : FieldType} {w : Value} (h : w.isRef = true) : narrow t w = w := by
  rcases ref_cases h with rfl | ⟨a, rfl⟩ <;> cases t <;> rfl
theorem own_retA (X : Stand p l e R s m args below meth c T locs cells slots) (hx : p.tables.exec = Jvm.exec) {pc : Nat} {Ls : Array Slot} {w : Value} {t : FieldType} {rest : List Value} {Q : Option Value → Heap → List Loc → Prop} {kc ks : Nat} (hlocks : meth.locks = false) (hret : meth.sig.returnType = some t) (ht : t.isReference = true) (hw : w.isRef = true)
    (hd : decode c.code pc = .ok (.areturn, 1)) (eT : T.heap = h) (hc : cells ≤ kc) (hs : slots ≤ ks) (hq : Q (some w) h locs) : own_G p e below (T.setTop (mkF m pc Ls (w :: rest))) (own_P s Q kc ks) :=
  own_leave X (v := some w) hlocks (fun q => by rw [hret] at q; cases q) (fun fs hl => retOut X hx hret (own_narR hw) (Or.inr (Or.inr (Or.inr (Or.inr ⟨rfl, ht, hw⟩)))) hd hl) eT hc hs hq
theorem own_retV (X : Stand p l e R s m args below meth c T locs cells slots) (hx : p.tables.exec = Jvm.exec) {pc : Nat} {Ls : Array Slot} {Q : Option Value → Heap → List Loc → Prop} {kc ks : Nat} (hlocks : meth.locks = false) (hret : meth.sig.returnType = none)
    (hd : decode c.code pc = .ok (.return_, 1)) (eT : T.heap = h) (hc : cells ≤ kc) (hs : slots ≤ ks) (hq : Q none h locs) : own_G p e below (T.setTop (mkF m pc Ls [])) (own_P s Q kc ks) :=
  own_leave X (v := none) hlocks (fun _ => rfl) (fun fs hl => X.returnOut hx hret hd hl) eT hc hs hq
abbrev own_Met (l : Launch) (Z : State) (h : Heap) (y : MethodName) (bytes : ByteArray) (maxL : Nat) (ret : Option FieldType) (ws : List Jvm.Cond) (rm : Room) (as' : Array Value) (Q : Option Value → Heap → List Loc → Prop) (kc ks : Nat) : Prop :=
  MetFree l y (head1 (Jvm.Cond.code y bytes maxL ret :: ws) rm) (fun a U => a = as' ∧ Z.Warmed39 U.vm ∧ U.heap = h) (fun _ _ _ _ _ => True) (fun _ U o U' => ∃ v L, o = .returned v ∧ Q v U'.heap L ∧ FrameEnd U o U' L kc ks)
variable {own : String} {index : Nat} {y : MethodName} {bytes : ByteArray} {maxL : Nat} {ret : Option FieldType} {rm : Room} {W : Nat} {as' : Array Value} {Q : Option Value → Heap → List Loc → Prop}
abbrev own_After (p : Program) (l : Launch) (e : Env) (R : Room) (s : State) (m : MethodId) (args : Array Value) (below : List Frame) (meth : Method) (c : Code) (T : State) (locs : List Loc) (kc ks : Nat) (g : JFrame) (rest : List Value) (Q : Option Value → Heap → List Loc → Prop) (len : Nat := 3) : Prop :=
  ∃ (T' : State) (h' : Heap) (v : Option Value) (L : List Loc), Stand p l e R s m args below meth c T' (locs ++ L) kc ks ∧ T'.heap = h' ∧ Q v h' L ∧ ∀ target, Steps p.tables e below (T'.setTop { g with pc := g.pc + len, stack := v.toList ++ rest }) target → Steps p.tables e below (T.setTop g) target
theorem own_callS (X : Stand p l e R s m args below meth c T locs cells slots) (hx : p.tables.exec = Jvm.exec) (hZ : Z.Warmed39 s.vm) (hown : s.vm.findClass own = some m.cls) (eT : T.heap = h)
    (w1 : (Jvm.Cond.methodLink own index y).before a0 Z = true) (w2 : (Jvm.Cond.static y).before a0 Z = true) (w3 : (Jvm.Cond.initialized y.cls).before a0 Z = true) (w4 : (Jvm.Cond.code y bytes maxL ret).before a0 Z = true) (hy : y.cls ≠ "java/lang/invoke/MethodHandle" ∧ y.cls ≠ "java/lang/invoke/VarHandle")
    (hM : own_Met l Z h y bytes maxL ret [] rm as' Q rm.cells rm.slots)
    (hf : rm.frames + 1 ≤ R.frames) (hl : W + (maxL + 11) + rm.locals ≤ R.locals) (hc : cells + rm.cells ≤ R.cells) (hsl : slots + rm.slots ≤ R.slots)
    {g : JFrame} (hg : g.method = m) (hsize : g.locals.size = c.maxLocals) {argsL rest : List Value} (has : argsL.toArray = as') (hlen : ∀ sig, parseMethodDescriptor y.desc = some sig → argsL.length = sig.parameters.length)
    (hstack : g.stack = argsL.reverse ++ rest) (hW : 2 * g.monitorRoom + (rest.map fun v => v.category).sum ≤ W) (hd : decode c.code g.pc = .ok (.invokestatic index, 3)) :
    own_After p l e R s m args below meth c T locs (cells + rm.cells) (slots + rm.slots) g rest Q := by
  obtain ⟨v, vm1, ⟨T', L', k', n'⟩, -, X', ⟨Lc, hQ, l1, y1, z1⟩, st⟩ := Jvm.LawKit.callS X hx (y := y) hown (mvT hZ w1) (mvT hZ w2) (mvT hZ w3) (mvT hZ w4) hy (backOf (W := W) hM hZ w4 w3 hf hl) hg hsize hlen hstack hW hd (fun _ _ => ⟨has, eT, hc, hsl⟩)
  dsimp only [Pt.U, Pt.locs, Pt.cells, Pt.slots] at X' l1 y1 z1 st hQ
  subst l1 y1 z1
  exact ⟨T', _, v, Lc, X', rfl, hQ, st⟩
theorem own_callV (X : Stand p l e R s m args below meth c T locs cells slots) (hx : p.tables.exec = Jvm.exec) (hZ : Z.Warmed39 s.vm) (hown : s.vm.findClass own = some m.cls) (eT : T.heap = h) {z : MethodName} {C : String} {b : Addr}
    (w1 : (Jvm.Cond.methodLink own index y).before a0 Z = true) (w2 : (Jvm.Cond.declares y).before a0 Z = true) (nf : NotFace s y) (w3 : (Jvm.Cond.selects C y z).before a0 Z = true) (w5 : (Jvm.Cond.instanceMethod z).before a0 Z = true) (w6 : (Jvm.Cond.initialized z.cls).before a0 Z = true) (w4 : (Jvm.Cond.code z bytes maxL ret).before a0 Z = true) (hy : y.cls ≠ "java/lang/invoke/MethodHandle" ∧ y.cls ≠ "java/lang/invoke/VarHandle")
    (E : Exa Z h b C) (hM : own_Met l Z h z bytes maxL ret [] rm as' Q rm.cells rm.slots)
    (hf : rm.frames + 1 ≤ R.frames) (hl : W + (maxL + 11) + rm.locals ≤ R.locals) (hc : cells + rm.cells ≤ R.cells) (hsl : slots + rm.slots ≤ R.slots)
    {g : JFrame} (hg : g.method = m) (hsize : g.locals.size = c.maxLocals) {argsL rest : List Value} (has : (.ref b :: argsL).toArray = as') (hlen : ∀ sig, parseMethodDescriptor y.desc = some sig → argsL.length = sig.parameters.length)
    (hstack : g.stack = argsL.reverse ++ .ref b :: rest) (hW : 2 * g.monitorRoom + (rest.map fun v => v.category).sum ≤ W) (hd : decode c.code g.pc = .ok (.invokevirtual index, 3)) :
    own_After p l e R s m args below meth c T locs (cells + rm.cells) (slots + rm.slots) g rest Q := by
  obtain ⟨cq, kq, q1, q2, q3⟩ := isOf hZ eT E
  obtain ⟨v, vm1, ⟨T', L', k', n'⟩, -, X', ⟨Lc, hQ, l1, y1, z1⟩, st⟩ := X.virtualBack hx (y := y) (z := z) hown (mvT hZ w1) (mvT hZ w2) nf (mvT hZ w3) (mvT hZ w5) hy (backOf (W := W) hM hZ w4 w6 hf hl) q1 q3 hg hsize (Steps.refl _) hlen hstack hW hd (fun _ _ => ⟨has, eT, hc, hsl⟩)
  dsimp only [Pt.U, Pt.locs, Pt.cells, Pt.slots] at X' l1 y1 z1 st hQ
  subst l1 y1 z1
  exact ⟨T', _, v, Lc, X', rfl, hQ, fun _ k => st.trans k⟩
theorem own_callU (X : Stand p l e R s m args below meth c T locs cells slots) (hx : p.tables.exec = Jvm.exec) (hZ : Z.Warmed39 s.vm) (hown : s.vm.findClass own = some m.cls) (eT : T.heap = h) {z : MethodName} {C owner : String} {b : Addr}
    (w1 : (Jvm.Cond.methodLink own index y).before a0 Z = true) (w2 : (Jvm.Cond.sameMethod y.cls owner y.name y.desc).before a0 Z = true) (w7 : (Jvm.Cond.declares ⟨owner, y.name, y.desc⟩).before a0 Z = true) (w3 : (Jvm.Cond.selects C y z).before a0 Z = true) (w5 : (Jvm.Cond.instanceMethod z).before a0 Z = true) (w6 : (Jvm.Cond.initialized z.cls).before a0 Z = true) (w4 : (Jvm.Cond.code z bytes maxL ret).before a0 Z = true) (hy : owner ≠ "java/lang/invoke/MethodHandle" ∧ owner ≠ "java/lang/invoke/VarHandle")
    (E : Exa Z h b C) (hM : own_Met l Z h z bytes maxL ret [] rm as' Q rm.cells rm.slots)
    (hf : rm.frames + 1 ≤ R.frames) (hl : W + (maxL + 11) + rm.locals ≤ R.locals) (hc : cells + rm.cells ≤ R.cells) (hsl : slots + rm.slots ≤ R.slots)
    {g : JFrame} (hg : g.method = m) (hsize : g.locals.size = c.maxLocals) {argsL rest : List Value} (has : (.ref b :: argsL).toArray = as') (hlen : ∀ sig, parseMethodDescriptor y.desc = some sig → argsL.length = sig.parameters.length)
    (hstack : g.stack = argsL.reverse ++ .ref b :: rest) (hW : 2 * g.monitorRoom + (rest.map fun v => v.category).sum ≤ W) (hd : decode c.code g.pc = .ok (.invokevirtual index, 3)) :
    own_After p l e R s m args below meth c T locs (cells + rm.cells) (slots + rm.slots) g rest Q := by
  obtain ⟨cq, kq, q1, q2, q3⟩ := isOf hZ eT E
  obtain ⟨v, vm1, ⟨T', L', k', n'⟩, -, X', ⟨Lc, hQ, l1, y1, z1⟩, st⟩ := X.virtualBackUp hx (x := y) (y := z) (owner := owner) hown (mvT hZ w1) (mvT hZ w2) (mvT hZ w7) hy (mvT hZ w3) (mvT hZ w5) (backOf (W := W) hM hZ w4 w6 hf hl) q1 q3 hg hsize (Steps.refl _) hlen hstack hW hd (fun _ _ => ⟨has, eT, hc, hsl⟩)
  dsimp only [Pt.U, Pt.locs, Pt.cells, Pt.slots] at X' l1 y1 z1 st hQ
  subst l1 y1 z1
  exact ⟨T', _, v, Lc, X', rfl, hQ, fun _ k => st.trans k⟩
theorem own_callN (X : Stand p l e R s m args below meth c T locs cells slots) (hx : p.tables.exec = Jvm.exec) (hZ : Z.Warmed39 s.vm) (hown : s.vm.findClass own = some m.cls) (eT : T.heap = h) {b : Addr} (hy1 : y.name = "<init>")
    (w1 : (Jvm.Cond.methodLink own index y).before a0 Z = true) (w5 : (Jvm.Cond.instanceMethod y).before a0 Z = true) (w6 : (Jvm.Cond.initialized y.cls).before a0 Z = true) (w4 : (Jvm.Cond.code y bytes maxL none).before a0 Z = true) (hy : y.cls ≠ "java/lang/invoke/MethodHandle" ∧ y.cls ≠ "java/lang/invoke/VarHandle")
    (hM : own_Met l Z h y bytes maxL none [] rm as' Q rm.cells rm.slots)
    (hf : rm.frames + 1 ≤ R.frames) (hl : W + (maxL + 11) + rm.locals ≤ R.locals) (hc : cells + rm.cells ≤ R.cells) (hsl : slots + rm.slots ≤ R.slots)
    {g : JFrame} (hg : g.method = m) (hsize : g.locals.size = c.maxLocals) {argsL rest : List Value} (has : (.ref b :: argsL).toArray = as') (hlen : ∀ sig, parseMethodDescriptor y.desc = some sig → argsL.length = sig.parameters.length)
    (hstack : g.stack = argsL.reverse ++ .ref b :: rest) (hW : 2 * g.monitorRoom + (rest.map fun v => v.category).sum ≤ W) (hd : decode c.code g.pc = .ok (.invokespecial index, 3)) :
    own_After p l e R s m args below meth c T locs (cells + rm.cells) (slots + rm.slots) g rest Q := by
  obtain ⟨v, vm1, ⟨T', L', k', n'⟩, -, X', ⟨Lc, hQ, l1, y1, z1⟩, st⟩ := X.specialBack hx (y := y) hy1 hown (mvT hZ w1) (mvT hZ w5) (mvT hZ w4) hy (backOf (W := W) hM hZ w4 w6 hf hl) hg hsize (Steps.refl _) hlen hstack hW hd (fun _ _ => ⟨has, eT, hc, hsl⟩)
  dsimp only [Pt.U, Pt.locs, Pt.cells, Pt.slots] at X' l1 y1 z1 st hQ
  subst l1 y1 z1
  exact ⟨T', _, v, Lc, X', rfl, hQ, fun _ k => st.trans k⟩
theorem own_callI (X : Stand p l e R s m args below meth c T locs cells slots) (hx : p.tables.exec = Jvm.exec) (hZ : Z.Warmed39 s.vm) (hown : s.vm.findClass own = some m.cls) (eT : T.heap = h) {z : MethodName} {C : String} {b : Addr} {count : Nat}
    (w1 : (Jvm.Cond.methodLink own index y).before a0 Z = true) (w2 : (Jvm.Cond.declares y).before a0 Z = true) (w7 : (Jvm.Cond.interfaceMethod y.cls y.cls y.name y.desc).before a0 Z = true) (h7 : ((Jvm.Cond.interfaceMethod y.cls y.cls y.name y.desc).onTables && (Jvm.Cond.interfaceMethod y.cls y.cls y.name y.desc).keepsFace) = true) (w3 : (Jvm.Cond.selects C y z).before a0 Z = true) (w5 : (Jvm.Cond.instanceMethod z).before a0 Z = true) (w8 : (Jvm.Cond.publicMethod z).before a0 Z = true) (w9 : (Jvm.Cond.unhidden C y.name y.desc).before a0 Z = true) (w10 : (Jvm.Cond.castable C y.cls).before a0 Z = true) (w6 : (Jvm.Cond.initialized z.cls).before a0 Z = true) (w4 : (Jvm.Cond.code z bytes maxL ret).before a0 Z = true) (hy : y.cls ≠ "java/lang/invoke/MethodHandle" ∧ y.cls ≠ "java/lang/invoke/VarHandle")
    (E : Exa Z h b C) (hM : own_Met l Z h z bytes maxL ret [] rm as' Q rm.cells rm.slots)
    (hf : rm.frames + 1 ≤ R.frames) (hl : W + (maxL + 11) + rm.locals ≤ R.locals) (hc : cells + rm.cells ≤ R.cells) (hsl : slots + rm.slots ≤ R.slots)
    {g : JFrame} (hg : g.method = m) (hsize : g.locals.size = c.maxLocals) {argsL rest : List Value} (has : (.ref b :: argsL).toArray = as') (hlen : ∀ sig, parseMethodDescriptor y.desc = some sig → argsL.length = sig.parameters.length)
    (hstack : g.stack = argsL.reverse ++ .ref b :: rest) (hW : 2 * g.monitorRoom + (rest.map fun v => v.category).sum ≤ W) (hd : decode c.code g.pc = .ok (.invokeinterface index count, 5)) :
    own_After p l e R s m args below meth c T locs (cells + rm.cells) (slots + rm.slots) g rest Q 5 := by
  obtain ⟨cq, kq, q1, q2, q3⟩ := isOf hZ eT E
  obtain ⟨v, vm1, ⟨T', L', k', n'⟩, -, X', ⟨Lc, hQ, l1, y1, z1⟩, st⟩ := X.interfaceBack hx (xi := y) (y := z) hown (mvT hZ w1) (mvT hZ w2) (mvT hZ w7 h7) (mvT hZ w3) (mvT hZ w5) (mvT hZ w8) (mvT hZ w9) (mvT hZ w10) hy (backOf (W := W) hM hZ w4 w6 hf hl) q1 q2 q3 hg hsize (Steps.refl _) hlen hstack hW hd (fun _ _ => ⟨has, eT, hc, hsl⟩)
  dsimp only [Pt.U, Pt.locs, Pt.cells, Pt.slots] at X' l1 y1 z1 st hQ
  subst l1 y1 z1
  exact ⟨T', _, v, Lc, X', rfl, hQ, fun _ k => st.trans k⟩
theorem own_callP (X : Stand p l e R s m args below meth c T locs cells slots) (hx : p.tables.exec = Jvm.exec) (hZ : Z.Warmed39 s.vm) (hown : s.vm.findClass own = some m.cls) (eT : T.heap = h) {b : Addr} {C : String}
    (w1 : (Jvm.Cond.methodLink own index y).before a0 Z = true) (w5 : (Jvm.Cond.instanceMethod y).before a0 Z = true) (w3 : (Jvm.Cond.selects y.cls y y).before a0 Z = true) (w7 : (Jvm.Cond.privateMethod y).before a0 Z = true) (w6 : (Jvm.Cond.initialized y.cls).before a0 Z = true) (w4 : (Jvm.Cond.code y bytes maxL ret).before a0 Z = true) (hy : y.cls ≠ "java/lang/invoke/MethodHandle" ∧ y.cls ≠ "java/lang/invoke/VarHandle")
    (E : Exa Z h b C) (hM : own_Met l Z h y bytes maxL ret [] rm as' Q rm.cells rm.slots)
    (hf : rm.frames + 1 ≤ R.frames) (hl : W + (maxL + 11) + rm.locals ≤ R.locals) (hc : cells + rm.cells ≤ R.cells) (hsl : slots + rm.slots ≤ R.slots)
    {g : JFrame} (hg : g.method = m) (hsize : g.locals.size = c.maxLocals) {argsL rest : List Value} (has : (.ref b :: argsL).toArray = as') (hlen : ∀ sig, parseMethodDescriptor y.desc = some sig → argsL.length = sig.parameters.length)
    (hstack : g.stack = argsL.reverse ++ .ref b :: rest) (hW : 2 * g.monitorRoom + (rest.map fun v => v.category).sum ≤ W) (hd : decode c.code g.pc = .ok (.invokevirtual index, 3)) :
    own_After p l e R s m args below meth c T locs (cells + rm.cells) (slots + rm.slots) g rest Q := by
  obtain ⟨cell, hcell, hobj⟩ := E.cell
  obtain ⟨v, vm1, ⟨T', L', k', n'⟩, -, X', ⟨Lc, hQ, l1, y1, z1⟩, st⟩ := X.privateBack hx (y := y) hown (mvT hZ w1) (mvT hZ w5) (mvT hZ w3) (Cond.privateMethod_at (mvP (args := #[]) hZ w7)) (mvT hZ w4) hy (backOf (W := W) hM hZ w4 w6 hf hl) hg hsize (Steps.refl _) (by rw [eT]; exact hcell) hobj hlen hstack hW hd (fun _ _ => ⟨has, eT, hc, hsl⟩)
  dsimp only [Pt.U, Pt.locs, Pt.cells, Pt.slots] at X' l1 y1 z1 st hQ
  subst l1 y1 z1
  exact ⟨T', _, v, Lc, X', rfl, hQ, fun _ k => st.trans k⟩
theorem own_lsw (X : Stand p l e R s m args below meth c T locs cells slots) (hx : p.tables.exec = Jvm.exec) {g : JFrame} (hg : g.method = m) {k : Int32} {rest : List Value} (hs : g.stack = .int k :: rest) {dflt : Int} {pairs : Array (Int × Int)} {len : Nat} (hd : decode c.code g.pc = .ok (.lookupswitch dflt pairs, len))
    (hsorted : (pairs.toList.zip (pairs.toList.drop 1)).all (fun (a, next) => a.1 < next.1) = true) {a off : Int} (hfind : pairs.find? (·.1 == k.toInt) = some (a, off)) {pc0 pc' : Nat} (hpc : g.pc = pc0) (ho : 0 ≤ (pc0 : Int) + off) (hp : ((pc0 : Int) + off).toNat = pc') :
    ∀ t, Steps p.tables e below (T.setTop { g with pc := pc', stack := rest }) t → Steps p.tables e below (T.setTop g) t := by
  subst hpc hp; exact fun t hr => X.lookupswitchHit hx hg hs hd hsorted hfind ho t hr
theorem own_rne {a b : Addr} (h : a ≠ b) : ¬ (Value.ref a = Value.ref b) := fun q => h (Value.ref.inj q)
def own_pl : Value → Bool
  | .int _ => true
  | .ref _ => true
  | .null => true
  | .long _ => true
  | _ => false
theorem own_eqv {args : Array Value} {f : State} {o : Option Outcome} {idx : List Nat} {t u : Term} {x y : Value} (ha : t.eval args f o idx s = some x) (hb : u.eval args f o idx s = some y) (h : (Jvm.Cond.eq t u).value args f o s idx = some true) (hk : own_pl y = true := by rfl) : x = y := by
  cases x <;> cases y <;> simp [Jvm.Cond.value, ha, hb, own_pl] at h hk ⊢ <;> first | exact h | exact h.symm
theorem own_fv {args : Array Value} {t u : Term} {O n d : String} {a : Addr} {y : Value} (ht : t.eval args s none [] s = some (.ref a)) (hu : u.eval args s none [] s = some y) (h : (Jvm.Cond.eq (.field t O n d) u).value args s none s [] = some true) (hk : own_pl y = true := by rfl) : Fld s s.heap a O n d y := by
  obtain ⟨x, y', e1, e2, -, -⟩ := cmp_v (Or.inl h)
  have q := own_eqv e1 hu h hk
  subst q
  exact Fld.start ((fld_at ht).symm.trans e1)
end Own
section OwnArr
variable {p : Program} {l : Launch} {e : Env} {R : Room} {s : State} {m : MethodId} {args : Array Value} {below : List Frame} {meth : Method} {c : Code} {T : State} {locs : List Loc} {cells slots : Nat} {Z : State} {a0 : Array Value} {h : Heap} {a : Addr} {k : ClassId} {ty : FieldType} {z j : Int32} {vs : List Value} {dv v : Value}
theorem own_newA (A : Arr Z h a (newA k ty z) ty) (q : ¬ z < 0) (hv : vs = List.replicate z.toNatClampNeg (defaultValue ty)) (hd : dv = defaultValue ty) : Arv Z h a k ty z vs dv := by
  subst hv hd; exact (Arv.new A q).pad (pad_rep [] _ _)
theorem own_newP (X : Stand p l e R s m args below meth c T locs cells slots) (hx : p.tables.exec = Jvm.exec) (hZ : Z.Warmed39 s.vm) {aty : ArrayType} (w : (Jvm.Cond.arrayClass (newarray.typeOf aty)).before a0 Z = true) (eT : T.heap = h) {nm : String} (hnm : "[" ++ (newarray.typeOf aty).toString = nm)
    {g : JFrame} (hg : g.method = m) (hd : decode c.code g.pc = .ok (.newarray aty, 2)) {n : Int32} {rest : List Value} (hs : g.stack = .int n :: rest) (hn : ¬ n < 0) {cap : Nat} (hcap : n.toNatClampNeg ≤ cap) (hb : cap * 8 ≤ 536870912) (hc : cells + 1 ≤ R.cells) (hl : slots + cap ≤ R.slots) :
    ∃ T' h' cA, Stand p l e R s m args below meth c T' locs (cells + 1) (slots + cap) ∧ T'.heap = h' ∧ Ext h h' ∧ Arr Z h' h.size (newA cA (newarray.typeOf aty) n) (newarray.typeOf aty) ∧ Exa Z h' h.size nm ∧
      ∀ target, Steps p.tables e below (T'.setTop { g with pc := g.pc + 2, stack := .ref h.size :: rest }) target → Steps p.tables e below (T.setTop g) target := by
  subst hnm eT
  obtain ⟨cA, kA, comp, h1, h2, h3, X', st⟩ := X.newarrayPrim hx (mvA hZ w) hg hd hs hn (Nat.le_trans (Nat.mul_le_mul hcap (by cases aty <;> decide : componentBytes (newarray.typeOf aty) ≤ 8)) hb) hc (by omega)
  rw [hZ.alike.findClass] at h1
  obtain ⟨kZ, z1, -⟩ := Vm.findClass_spec h1
  obtain ⟨k', z2, z3⟩ := hZ.alike.2.2 _ _ z1
  cases h2.symm.trans z2
  have hk : kZ.kind = .array comp (newarray.typeOf aty) := by rw [← h3, z3]
  have hN : (T.heap.push (newA cA (newarray.typeOf aty) n))[T.heap.size]? = some (newA cA (newarray.typeOf aty) n) := by simp
  have hE : Ext T.heap (T.heap.push (newA cA (newarray.typeOf aty) n)) := ext_of fun a q => Array.getElem?_push_lt q |>.trans (Array.getElem?_eq_getElem q).symm
  exact ⟨_, _, cA, X'.more (Nat.le_refl _) (by omega), rfl, hE, ⟨hN, ⟨by simp [newA], kZ, z1, comp, hk⟩, by simp [newA]⟩, ⟨_, kZ, hN, h1, z1, rfl, fun q => by rw [hk] at q; cases q⟩, st⟩
theorem own_len (X : Stand p l e R s m args below meth c T locs cells slots) (hx : p.tables.exec = Jvm.exec) (hZ : Z.Warmed39 s.vm) (eT : T.heap = h) (A : Arv Z h a k ty z vs dv) {g : JFrame} (hg : g.method = m) {rest : List Value} (hs : g.stack = .ref a :: rest) (hd : decode c.code g.pc = .ok (.arraylength, 1)) :
    ∀ target, Steps p.tables e below (T.setTop { g with pc := g.pc + 1, stack := .int z :: rest }) target → Steps p.tables e below (T.setTop g) target := by
  obtain ⟨cl, A1, q1, S, q3, H, G⟩ := A
  intro target hr
  refine X.arraylength hx (cell := cl) (by rw [eT]; exact A1.1) (State.isArrayOf_alike hZ.alike A1.2.1) hg hs hd target ?_
  rw [len_of S q3]; exact hr
theorem own_iaload (X : Stand p l e R s m args below meth c T locs cells slots) (hx : p.tables.exec = Jvm.exec) (hZ : Z.Warmed39 s.vm) (eT : T.heap = h) (A : Arv Z h a k .int z vs dv) (hj : ¬ j < 0 ∧ j < z) (hv : vs.getD j.toNatClampNeg dv = v) {g : JFrame} (hg : g.method = m) {rest : List Value} (hs : g.stack = .int j :: .ref a :: rest) (hd : decode c.code g.pc = .ok (.iaload, 1)) :
    ∀ target, Steps p.tables e below (T.setTop { g with pc := g.pc + 1, stack := v :: rest }) target → Steps p.tables e below (T.setTop g) target := by
  obtain ⟨cl, A1, q1, S, q3, H, G⟩ := A
  exact fun t k => X.iaload hx (by rw [eT]; exact A1.1) (State.isArrayOf_alike hZ.alike A1.2.1) A1.2.2 (inb_of S hj) (H.at (inb_of S hj) hv) hg hs hd t k
theorem own_baload (X : Stand p l e R s m args below meth c T locs cells slots) (hx : p.tables.exec = Jvm.exec) (hZ : Z.Warmed39 s.vm) (eT : T.heap = h) (A : Arv Z h a k .byte z vs dv) (hj : ¬ j < 0 ∧ j < z) (hv : vs.getD j.toNatClampNeg dv = v) {g : JFrame} (hg : g.method = m) {rest : List Value} (hs : g.stack = .int j :: .ref a :: rest) (hd : decode c.code g.pc = .ok (.baload, 1)) :
    ∀ target, Steps p.tables e below (T.setTop { g with pc := g.pc + 1, stack := v :: rest }) target → Steps p.tables e below (T.setTop g) target := by
  obtain ⟨cl, A1, q1, S, q3, H, G⟩ := A
  exact fun t k => X.baloadBytes hx (by rw [eT]; exact A1.1) (State.isArrayOf_alike hZ.alike A1.2.1) A1.2.2 (inb_of S hj) (H.at (inb_of S hj) hv) hg hs hd t k
theorem own_caload (X : Stand p l e R s m args below meth c T locs cells slots) (hx : p.tables.exec = Jvm.exec) (hZ : Z.Warmed39 s.vm) (eT : T.heap = h) (A : Arv Z h a k .char z vs dv) (hj : ¬ j < 0 ∧ j < z) (hv : vs.getD j.toNatClampNeg dv = v) {g : JFrame} (hg : g.method = m) {rest : List Value} (hs : g.stack = .int j :: .ref a :: rest) (hd : decode c.code g.pc = .ok (.caload, 1)) :
    ∀ target, Steps p.tables e below (T.setTop { g with pc := g.pc + 1, stack := v :: rest }) target → Steps p.tables e below (T.setTop g) target := by
  obtain ⟨cl, A1, q1, S, q3, H, G⟩ := A
  exact fun t k => X.caload hx (by rw [eT]; exact A1.1) (State.isArrayOf_alike hZ.alike A1.2.1) A1.2.2 (inb_of S hj) (H.at (inb_of S hj) hv) hg hs hd t k
theorem own_aaload (X : Stand p l e R s m args below meth c T locs cells slots) (hx : p.tables.exec = Jvm.exec) (hZ : Z.Warmed39 s.vm) (eT : T.heap = h) (A : Arv Z h a k ty z vs dv) (hty : ty.isReference = true) (hj : ¬ j < 0 ∧ j < z) (hv : vs.getD j.toNatClampNeg dv = v) {g : JFrame} (hg : g.method = m) {rest : List Value} (hs : g.stack = .int j :: .ref a :: rest) (hd : decode c.code g.pc = .ok (.aaload, 1)) :
    ∀ target, Steps p.tables e below (T.setTop { g with pc := g.pc + 1, stack := v :: rest }) target → Steps p.tables e below (T.setTop g) target := by
  obtain ⟨cl, A1, q1, S, q3, H, G⟩ := A
  exact fun t k => X.aaload hx (by rw [eT]; exact A1.1) (State.isArrayOf_alike hZ.alike A1.2.1) hty A1.2.2 (inb_of S hj) (H.at (inb_of S hj) hv) hg hs hd t k
theorem own_stB (X : Stand p l e R s m args below meth c T locs cells slots) (hx : p.tables.exec = Jvm.exec) (hZ : Z.Warmed39 s.vm) (eT : T.heap = h) (A : Arv Z h a k .byte z vs dv) {x x' : Int32} (i : Nat) (hn : nar .byte x = x') (hji : j.toNatClampNeg = i) (hj : ¬ j < 0 ∧ j < z) (hi : i < vs.length) {g : JFrame} (hg : g.method = m) {rest : List Value} (hs : g.stack = .int x :: .int j :: .ref a :: rest) (hd : decode c.code g.pc = .ok (.bastore, 1)) :
    ∃ T' h', Stand p l e R s m args below meth c T' (locs ++ [⟨a, i⟩]) cells slots ∧ T'.heap = h' ∧ Wr h h' a i (.int x') ∧ Arv Z h' a k .byte z (vs.set i (.int x')) dv ∧ ∀ target, Steps p.tables e below (T'.setTop { g with pc := g.pc + 1, stack := rest }) target → Steps p.tables e below (T.setTop g) target := by
  obtain ⟨cl, A1, q1, S, q3, H, G⟩ := A
  obtain ⟨T', h', X', e', W, st⟩ := stB X hx hZ eT A1 (inb_of S hj) hg hs hd
  subst hn hji
  exact ⟨T', h', X', e', W, Arv.set A1 q1 S q3 H G (fits_byte_narrow x) W _ rfl hi, st⟩
theorem own_stC (X : Stand p l e R s m args below meth c T locs cells slots) (hx : p.tables.exec = Jvm.exec) (hZ : Z.Warmed39 s.vm) (eT : T.heap = h) (A : Arv Z h a k .char z vs dv) {x x' : Int32} (i : Nat) (hn : nar .char x = x') (hji : j.toNatClampNeg = i) (hj : ¬ j < 0 ∧ j < z) (hi : i < vs.length) {g : JFrame} (hg : g.method = m) {rest : List Value} (hs : g.stack = .int x :: .int j :: .ref a :: rest) (hd : decode c.code g.pc = .ok (.castore, 1)) :
    ∃ T' h', Stand p l e R s m args below meth c T' (locs ++ [⟨a, i⟩]) cells slots ∧ T'.heap = h' ∧ Wr h h' a i (.int x') ∧ Arv Z h' a k .char z (vs.set i (.int x')) dv ∧ ∀ target, Steps p.tables e below (T'.setTop { g with pc := g.pc + 1, stack := rest }) target → Steps p.tables e below (T.setTop g) target := by
  obtain ⟨cl, A1, q1, S, q3, H, G⟩ := A
  obtain ⟨T', h', X', e', W, st⟩ := stC X hx hZ eT A1 (inb_of S hj) hg hs hd
  subst hn hji
  exact ⟨T', h', X', e', W, Arv.set A1 q1 S q3 H G (fits_nar_char x) W _ rfl hi, st⟩
theorem own_stI (X : Stand p l e R s m args below meth c T locs cells slots) (hx : p.tables.exec = Jvm.exec) (hZ : Z.Warmed39 s.vm) (eT : T.heap = h) (A : Arv Z h a k .int z vs dv) {x : Int32} (i : Nat) (hji : j.toNatClampNeg = i) (hj : ¬ j < 0 ∧ j < z) (hi : i < vs.length) {g : JFrame} (hg : g.method = m) {rest : List Value} (hs : g.stack = .int x :: .int j :: .ref a :: rest) (hd : decode c.code g.pc = .ok (.iastore, 1)) :
    ∃ T' h', Stand p l e R s m args below meth c T' (locs ++ [⟨a, i⟩]) cells slots ∧ T'.heap = h' ∧ Wr h h' a i (.int x) ∧ Arv Z h' a k .int z (vs.set i (.int x)) dv ∧ ∀ target, Steps p.tables e below (T'.setTop { g with pc := g.pc + 1, stack := rest }) target → Steps p.tables e below (T.setTop g) target := by
  obtain ⟨cl, A1, q1, S, q3, H, G⟩ := A
  obtain ⟨T', h', X', e', W, st⟩ := stI X hx hZ eT A1 (inb_of S hj) hg hs hd
  subst hji
  exact ⟨T', h', X', e', W, Arv.set A1 q1 S q3 H G rfl W _ rfl hi, st⟩
theorem own_stR (X : Stand p l e R s m args below meth c T locs cells slots) (hx : p.tables.exec = Jvm.exec) (hZ : Z.Warmed39 s.vm) (eT : T.heap = h) (A : Arv Z h a k ty z vs dv) (hty : ty.isReference = true) (i : Nat) (F : Sto Z h a v) (hf : fits ty v = true) (hji : j.toNatClampNeg = i) (hj : ¬ j < 0 ∧ j < z) (hi : i < vs.length) {g : JFrame} (hg : g.method = m) {rest : List Value} (hs : g.stack = v :: .int j :: .ref a :: rest) (hd : decode c.code g.pc = .ok (.aastore, 1)) :
    ∃ T' h', Stand p l e R s m args below meth c T' (locs ++ [⟨a, i⟩]) cells slots ∧ T'.heap = h' ∧ Wr h h' a i v ∧ Arv Z h' a k ty z (vs.set i v) dv ∧ ∀ target, Steps p.tables e below (T'.setTop { g with pc := g.pc + 1, stack := rest }) target → Steps p.tables e below (T.setTop g) target := by
  obtain ⟨cl, A1, q1, S, q3, H, G⟩ := A
  obtain ⟨T', h', X', e', W, st⟩ := stR X hx hZ eT A1 (inb_of S hj) hty F hg hs hd
  subst hji
  exact ⟨T', h', X', e', W, Arv.set A1 q1 S q3 H G hf W _ rfl hi, st⟩
theorem own_sto {C : String} {y : Addr} (A : Arv Z h a k ty z vs dv) (O : Ovr Z k C) (I : Ins Z h y C true) : Sto Z h a (.ref y) := by
  obtain ⟨cl, A1, q1, S, q3, H, G⟩ := A
  exact Sto.ofV A1 q1 O I
theorem own_narB (x : Int32) : nar .byte (x.toInt8.toInt32) = x.toInt8.toInt32 := Value.int.inj (XT.narrow_b x)
theorem own_narC (x : Int32) : nar .char (x.toUInt32.toUInt16.toUInt32.toInt32) = x.toUInt32.toUInt16.toUInt32.toInt32 := Value.int.inj (XT.narrow_c x)
theorem own_fitc {cl : Cell} (A : Arr Z h a cl ty) (H : Has cl vs dv) (G : ∀ i, i < cl.slots.size → fits ty (vs.getD i dv) = true) : FitC Z cl := fun i v hv => by
  obtain ⟨hi, q0⟩ := Array.getElem?_eq_some_iff.mp hv
  have q := G i hi
  have q2 := (H i hi).symm.trans hv
  rw [Option.some.inj q2] at q
  obtain ⟨hs, k, hk, comp, hkind⟩ := A.2.1
  simp [State.fitsSlot, State.slotType?, hk, hkind]; exact q
theorem own_clone (X : Stand p l e R s m args below meth c T locs cells slots) (hx : p.tables.exec = Jvm.exec) (hZ : Z.Warmed39 s.vm) {own ad : String} {index : Nat} (hown : s.vm.findClass own = some m.cls) (eT : T.heap = h)
    (w1 : (Jvm.Cond.methodLink own index ⟨ad, "clone", "()Ljava/lang/Object;"⟩).before a0 Z = true) (w2 : (Jvm.Cond.sameMethod ad "java/lang/Object" "clone" "()Ljava/lang/Object;").before a0 Z = true) (w3 : (Jvm.Cond.native ⟨"java/lang/Object", "clone", "()Ljava/lang/Object;"⟩).before a0 Z = true)
    (w4 : (Jvm.Cond.instanceMethod ⟨"java/lang/Object", "clone", "()Ljava/lang/Object;"⟩).before a0 Z = true) (w5 : (Jvm.Cond.selects ad ⟨ad, "clone", "()Ljava/lang/Object;"⟩ ⟨"java/lang/Object", "clone", "()Ljava/lang/Object;"⟩).before a0 Z = true) (w6 : (Jvm.Cond.castable ad "java/lang/Cloneable").before a0 Z = true)
    (A : Arv Z h a k ty z vs dv) (E : Exa Z h a ad) {g : JFrame} (hg : g.method = m) (hsize : g.locals.size = c.maxLocals) {rest : List Value} (hs : g.stack = .ref a :: rest) (hd : decode c.code g.pc = .ok (.invokevirtual index, 3))
    (hf : 1 ≤ R.frames) {W cap : Nat} (hW : 2 * g.monitorRoom + (rest.map fun v => v.category).sum ≤ W) (hl : W + 14 ≤ R.locals) (hcap : z.toNatClampNeg ≤ cap) (hc : cells + 1 ≤ R.cells) (hsl : slots + cap ≤ R.slots) :
    ∃ T' h', Stand p l e R s m args below meth c T' locs (cells + 1) (slots + cap) ∧ T'.heap = h' ∧ Ext h h' ∧ Arv Z h' h.size k ty z vs dv ∧ Exa Z h' h.size ad ∧
      ∀ target, Steps p.tables e below (T'.setTop { g with pc := g.pc + 3, stack := .ref h.size :: rest }) target → Steps p.tables e below (T.setTop g) target := by
  obtain ⟨cl, A1, q1, S, q3, H, G⟩ := A
  obtain ⟨T', h', X', e', E', A', E2, st⟩ := cloneA X hx hZ hown w1 w2 w3 w4 w5 w6 eT A1 E (own_fitc A1 H G) hg hsize hs hd hf hW hl (by rw [S]; exact hcap) hc hsl
  exact ⟨T', h', X', e', E', ⟨_, A', q1, S, q3, H, G⟩, E2, st⟩
end OwnArr
section OwnCase
variable {s : State} {args : Array Value} {t u : Term} {a : Addr} {ty : FieldType} {n j : Int32} {vs : List Value} {dv v : Value} {cl : Cell}
theorem own_ev {y : Value} (hb : u.eval args s none [] s = some y) (h : (Jvm.Cond.eq t u).value args s none s [] = some true) (hk : own_pl y = true := by rfl) : t.eval args s none [] s = some y := by
  obtain ⟨x, y', e1, e2, -, -⟩ := cmp_v (Or.inl h)
  rw [own_eqv e1 hb h hk] at e1; exact e1
theorem own_ev' {y : Value} (hb : t.eval args s none [] s = some y) (h : (Jvm.Cond.eq t u).value args s none s [] = some true) (hk : own_pl y = true := by rfl) : u.eval args s none [] s = some y := by
  obtain ⟨x, y', e1, e2, -, -⟩ := cmp_v (Or.inl h)
  cases hb.symm.trans e1
  cases y <;> cases y' <;> simp [Jvm.Cond.value, e1, e2, own_pl] at h hk ⊢ <;> simp_all
theorem own_elem (ev : t.eval args s none [] s = some (.ref a)) (hu : u.eval args s none [] s = some v) (h : (Jvm.Cond.eq (.elem t (.int j)) u).value args s none s [] = some true) (hc : s.heap[a]? = some cl) (hk : own_pl v = true := by rfl) : cl.slots[j.toNatClampNeg]? = some v := by
  have e1 := own_ev hu h hk
  obtain ⟨c', e3, e4, e5⟩ := elem_at e1 ev (Term.int_eval j)
  cases hc.symm.trans e3; exact e5
theorem own_arr (hf : Fit s) (ev : t.eval args s none [] s = some (.ref a)) (h1 : (Jvm.Cond.arrayOf t ty).value args s none s [] = some true) (h2 : (Jvm.Cond.eq (.length t) (.int n)).value args s none s [] = some true) (hn : ¬ n < 0) (hl : n.toNatClampNeg = vs.length)
    (he : ∀ cl : Cell, s.heap[a]? = some cl → s.arrayAt? a = some cl → cl.slots.size = n.toNatClampNeg → HasL cl 0 vs) : ∃ k, Arv s s.heap a k ty n vs dv := by
  obtain ⟨cl, A⟩ := Arr.start ev h1
  have e1 := own_ev (Term.int_eval n) h2
  obtain ⟨a', cl', b1, b2, b3⟩ := Term.length_spec e1
  cases ev.symm.trans b1
  have hc' := (State.arrayAt?_spec b2).1
  cases A.1.symm.trans hc'
  have hsz : cl.slots.size.toInt32 = n := (Value.int.inj b3).symm
  have hlt : cl.slots.size < 2 ^ 31 := by
    by_cases q : cl.slots.size < 2147483648
    · exact q
    · simp [Term.eval, ev, b2, q] at e1
  have hS : cl.slots.size = n.toNatClampNeg := by rw [← hsz]; simp only [Int32.toNatClampNeg, len_toInt hlt]; rfl
  exact ⟨_, Arv.start hf A hlt hsz hn hl (he cl hc' b2 hS)⟩
theorem own_allat {C nm d : String} {i : Nat} {b : Int32} (hi : j.toNatClampNeg = i) (hj : ¬ j < 0) (ev : (Term.static C nm d).eval args s none [] s = some (.ref a)) (hc : s.heap[a]? = some cl) (ha : s.arrayAt? a = some cl) (hlt : i < cl.slots.size) (hb : ¬ b ≤ j)
    (h : (Jvm.Cond.all (.static C nm d) (.or (.le (.int b) (.index 0)) (.eq (.elem (.static C nm d) (.index 0)) (.index 0)))).value args s none s [] = some true) : cl.slots[i]? = some (.int j) := by
  have h' := Cond.all_elim ev ha h i hlt
  subst hi
  have e1 : (Term.index 0).eval args s none [j.toNatClampNeg] s = some (.int j) := idx_at hj
  have e2 : (Jvm.Cond.le (.int b) (.index 0)).value args s none s [j.toNatClampNeg] = some false := by
    rw [Cond.le_ints (Term.int_eval b) e1]; simp [hb]
  rw [Cond.or_of_right e2] at h'
  obtain ⟨x, y, q1, q2, -, -⟩ := cmp_v (Or.inl h')
  have q := own_eqv q1 e1 h'
  subst q
  obtain ⟨c', e3, e4, e5⟩ := elem_at q1 (show (Term.static C nm d).eval args s none [j.toNatClampNeg] s = some (.ref a) from ev) e1
  cases hc.symm.trans e3; exact e5
end OwnCase
section OwnWide
variable {p : Program} {l : Launch} {e : Env} {R : Room} {s : State} {m : MethodId} {args : Array Value} {below : List Frame} {meth : Method} {c : Code} {T : State} {locs : List Loc} {cells slots : Nat} {Z : State} {a0 : Array Value} {h : Heap} {vm0 : Vm} {EL : List (String × Nat)} {sf : List Addr}
def own_PW (Z : State) (EL : List (String × Nat)) (s : State) (Q : Option Value → Heap → List Loc → Prop) (kc ks : Nat) (o : Outcome) (U : State) : Prop := ∃ v L, o = .returned v ∧ Q v U.heap L ∧ CHr Z EL s.vm s.heap U.vm U.heap ∧ ReturnedEndW s o U L kc ks
abbrev own_MetW (l : Launch) (Z : State) (EL : List (String × Nat)) (sf : List Addr) (h : Heap) (y : MethodName) (bytes : ByteArray) (maxL : Nat) (ret : Option FieldType) (ws : List Jvm.Cond) (rm : Room) (as' : Array Value) (Q : Option Value → Heap → List Loc → Prop) (kc ks : Nat) : Prop :=
  MetFree l y (head1 (Jvm.Cond.code y bytes maxL ret :: ws) rm) (fun a U => a = as' ∧ Z.Warmed39 U.vm ∧ U.heap = h ∧ CHv Z EL U.vm h ∧ ∀ x ∈ sf, Safe Z EL U.vm h x) (fun _ _ _ _ _ => True) (fun _ U o U' => ∃ v L, o = .returned v ∧ Q v U'.heap L ∧ CHr Z EL U.vm U.heap U'.vm U'.heap ∧ ReturnedEndW U o U' L kc ks)
theorem own_safe0 {x : Addr} {vm : Vm} : Safe Z [] vm h x := fun ⟨_, hp, _⟩ => nomatch hp
theorem own_leaveW (X : Stand p l e R (s.setVm vm0) m args below meth c T locs cells slots) {g : JFrame} {v : Option Value} {Q : Option Value → Heap → List Loc → Prop} {kc ks : Nat} (hlocks : meth.locks = false) (hv : meth.sig.returnType = none → v = none)
    (k : ∀ fs, (∀ (f : JFrame) (acts : List Action), f.method = m → f.locked = none → f.entered = [] → (doReturn e (T.setTop f) acts v).1 = T.setFrames fs) → Steps p.tables e below (T.setTop g) (T.setFrames fs))
    {n : Nat} (hS : s.Since vm0 n) (hZ : Z.Warmed39 (s.setVm vm0).vm) (hEL : EW Z a0 EL) {h0 : Heap} (hh : s.heap = h0) (hR : CHr Z EL s.vm h0 vm0 h) (eT : T.heap = h) (hn : n ≤ h.size) (hc : cells ≤ kc) (hs : slots ≤ ks) (hq : Q v h locs) : own_G p e below (T.setTop g) (own_PW Z EL s Q kc ks) := by
  obtain ⟨fs, hr, hrun, hended, hW⟩ := X.leaveW hS (by rw [eT]; exact hn) (v := v) hv hlocks
  have A := CHv.at (h := h) X hZ hEL hR.1
  exact ⟨_, _, k fs hr, hrun, hended, _, _, rfl, by show Q v T.heap locs; rw [eT]; exact hq, by show CHr Z EL s.vm s.heap T.vm T.heap; rw [eT, hh]; exact hR.trans A, hW.1, hW.2.1, hW.2.2.1, hW.2.2.2.mono hc hs⟩
theorem own_retNW (X : Stand p l e R (s.setVm vm0) m args below meth c T locs cells slots) (hx : p.tables.exec = Jvm.exec) {pc : Nat} {Ls : Array Slot} {z : Int32} {t : FieldType} {rest : List Value} {Q : Option Value → Heap → List Loc → Prop} {kc ks : Nat} (hlocks : meth.locks = false) (hret : meth.sig.returnType = some t) (ht : t = .boolean ∨ t = .byte ∨ t = .char ∨ t = .short)
    (hd : decode c.code pc = .ok (.ireturn, 1)) (hn : nar t z = z) {n : Nat} (hS : s.Since vm0 n) (hZ : Z.Warmed39 (s.setVm vm0).vm) (hEL : EW Z a0 EL) {h0 : Heap} (hh : s.heap = h0) (hR : CHr Z EL s.vm h0 vm0 h) (eT : T.heap = h) (hk : n ≤ h.size) (hc : cells ≤ kc) (hs : slots ≤ ks) (hq : Q (some (.int z)) h locs) : own_G p e below (T.setTop (mkF m pc Ls (.int z :: rest))) (own_PW Z EL s Q kc ks) :=
  own_leaveW X (v := some (.int z)) hlocks (fun q => by rw [hret] at q; cases q) (fun fs hl => retN X hx hret ht hd (by rw [hn]; exact hl)) hS hZ hEL hh hR eT hk hc hs hq
theorem own_retIW (X : Stand p l e R (s.setVm vm0) m args below meth c T locs cells slots) (hx : p.tables.exec = Jvm.exec) {pc : Nat} {Ls : Array Slot} {z : Int32} {rest : List Value} {Q : Option Value → Heap → List Loc → Prop} {kc ks : Nat} (hlocks : meth.locks = false) (hret : meth.sig.returnType = some .int)
    (hd : decode c.code pc = .ok (.ireturn, 1)) {n : Nat} (hS : s.Since vm0 n) (hZ : Z.Warmed39 (s.setVm vm0).vm) (hEL : EW Z a0 EL) {h0 : Heap} (hh : s.heap = h0) (hR : CHr Z EL s.vm h0 vm0 h) (eT : T.heap = h) (hk : n ≤ h.size) (hc : cells ≤ kc) (hs : slots ≤ ks) (hq : Q (some (.int z)) h locs) : own_G p e below (T.setTop (mkF m pc Ls (.int z :: rest))) (own_PW Z EL s Q kc ks) :=
  own_leaveW X (v := some (.int z)) hlocks (fun q => by rw [hret] at q; cases q) (fun fs hl => retOut X hx hret rfl (Or.inl ⟨rfl, Or.inl rfl, _, rfl⟩) hd hl) hS hZ hEL hh hR eT hk hc hs hq
theorem own_retAW (X : Stand p l e R (s.setVm vm0) m args below meth c T locs cells slots) (hx : p.tables.exec = Jvm.exec) {pc : Nat} {Ls : Array Slot} {w : Value} {t : FieldType} {rest : List Value} {Q : Option Value → Heap → List Loc → Prop} {kc ks : Nat} (hlocks : meth.locks = false) (hret : meth.sig.returnType = some t) (ht : t.isReference = true) (hw : w.isRef = true)
    (hd : decode c.code pc = .ok (.areturn, 1)) {n : Nat} (hS : s.Since vm0 n) (hZ : Z.Warmed39 (s.setVm vm0).vm) (hEL : EW Z a0 EL) {h0 : Heap} (hh : s.heap = h0) (hR : CHr Z EL s.vm h0 vm0 h) (eT : T.heap = h) (hk : n ≤ h.size) (hc : cells ≤ kc) (hs : slots ≤ ks) (hq : Q (some w) h locs) : own_G p e below (T.setTop (mkF m pc Ls (w :: rest))) (own_PW Z EL s Q kc ks) :=
  own_leaveW X (v := some w) hlocks (fun q => by rw [hret] at q; cases q) (fun fs hl => retOut X hx hret (own_narR hw) (Or.inr (Or.inr (Or.inr (Or.inr ⟨rfl, ht, hw⟩)))) hd hl) hS hZ hEL hh hR eT hk hc hs hq
theorem own_retVW (X : Stand p l e R (s.setVm vm0) m args below meth c T locs cells slots) (hx : p.tables.exec = Jvm.exec) {pc : Nat} {Ls : Array Slot} {Q : Option Value → Heap → List Loc → Prop} {kc ks : Nat} (hlocks : meth.locks = false) (hret : meth.sig.returnType = none)
    (hd : decode c.code pc = .ok (.return_, 1)) {n : Nat} (hS : s.Since vm0 n) (hZ : Z.Warmed39 (s.setVm vm0).vm) (hEL : EW Z a0 EL) {h0 : Heap} (hh : s.heap = h0) (hR : CHr Z EL s.vm h0 vm0 h) (eT : T.heap = h) (hk : n ≤ h.size) (hc : cells ≤ kc) (hs : slots ≤ ks) (hq : Q none h locs) : own_G p e below (T.setTop (mkF m pc Ls [])) (own_PW Z EL s Q kc ks) :=
  own_leaveW X (v := none) hlocks (fun _ => rfl) (fun fs hl => X.returnOut hx hret hd hl) hS hZ hEL hh hR eT hk hc hs hq
variable {own : String} {index : Nat} {y : MethodName} {bytes : ByteArray} {maxL : Nat} {ret : Option FieldType} {rm : Room} {W : Nat} {as' : Array Value} {Q : Option Value → Heap → List Loc → Prop}
theorem own_backW {len : Nat} (hM : own_MetW l Z EL sf h y bytes maxL ret [] rm as' Q rm.cells rm.slots)
    (hZ : Z.Warmed39 vm0) (wc : (Jvm.Cond.code y bytes maxL ret).before a0 Z = true) (wz : (Jvm.Cond.initialized y.cls).before a0 Z = true) (hf : rm.frames + 1 ≤ R.frames) (hl : W + (maxL + 11) + rm.locals ≤ R.locals) (hEL : EW Z a0 EL) (H : CHv Z EL vm0 h) (hsf : ∀ x ∈ sf, Safe Z EL vm0 h x) (hlt : ∀ x ∈ sf, x < h.size) :
    BackS l R p e below (s.setVm vm0) args y len W (fun A a => a = as' ∧ A.U.heap = h ∧ A.cells + rm.cells ≤ R.cells ∧ A.slots + rm.slots ≤ R.slots)
      (fun A _ v B => ∃ L, Q v B.U.heap L ∧ B.locs = A.locs ++ L ∧ B.cells = A.cells + rm.cells ∧ B.slots = A.slots + rm.slots ∧ CHr Z EL vm0 h B.U.vm B.U.heap) :=
  BackS.of_freeW (bytes := bytes) (maxL := maxL) (ret := ret) (E := fun _ first o t L k n => k = rm.cells ∧ n = rm.slots ∧ (∃ v, o = .returned v ∧ Q v t.heap L) ∧ CHr Z EL first.vm first.heap t.vm t.heap) hM hf hl
    (fun m meth c A a Y hp => have hU : Z.Warmed39 A.U.vm := wtrans (s := s.setVm vm0) hZ Y.warmed
      ⟨by show (Jvm.Cond.and _ .tt).before a A.U = true; rw [Cond.before_and, mv hU wc]; rfl, mv hU wc, mv hU wz, hp.2.2.1, hp.2.2.2⟩)
    (fun m meth c A a g mk Y hp => ⟨hp.1, wtrans (s := s.setVm vm0) hZ Y.warmed, hp.2.1, (CHv.at Y hZ hEL H).1, fun x q => (CHv.at Y hZ hEL H).safe (hlt x q) (hsf x q)⟩) (fun _ _ _ _ _ _ _ _ _ => trivial)
    (fun _ _ _ _ ⟨v, L, h1, h2, h3, h4⟩ => ⟨L, _, _, h4, rfl, rfl, ⟨v, h1, h2⟩, h3⟩)
    (fun m meth c A a g mk v t L k n Y hp _ _ ⟨e1, e2, ⟨v', e3, e4⟩, e5⟩ => by
      cases e3; subst e1 e2
      refine ⟨L, e4, rfl, rfl, rfl, (CHv.at Y hZ hEL H).trans ?_⟩
      rw [← hp.2.1]; exact e5)
abbrev own_AfterW (p : Program) (l : Launch) (e : Env) (R : Room) (s : State) (Z : State) (EL : List (String × Nat)) (own : String) (vm0 : Vm) (h : Heap) (m : MethodId) (args : Array Value) (below : List Frame) (meth : Method) (c : Code) (T : State) (locs : List Loc) (kc ks : Nat) (g : JFrame) (rest : List Value) (Q : Option Value → Heap → List Loc → Prop) (len : Nat := 3) : Prop :=
  ∃ (T' : State) (h' : Heap) (v : Option Value) (L : List Loc), Stand p l e R (s.setVm T'.vm) m args below meth c T' (locs ++ L) kc ks ∧ T'.heap = h' ∧ Q v h' L ∧ s.Since T'.vm h'.size ∧ Z.Warmed39 (s.setVm T'.vm).vm ∧ (s.setVm T'.vm).vm.findClass own = some m.cls ∧ CHr Z EL vm0 h T'.vm h' ∧
    ∀ target, Steps p.tables e below (T'.setTop { g with pc := g.pc + len, stack := v.toList ++ rest }) target → Steps p.tables e below (T.setTop g) target
theorem own_callSW (X : Stand p l e R (s.setVm vm0) m args below meth c T locs cells slots) (hx : p.tables.exec = Jvm.exec) (hZ : Z.Warmed39 (s.setVm vm0).vm) (hown : (s.setVm vm0).vm.findClass own = some m.cls) (eT : T.heap = h)
    (w1 : (Jvm.Cond.methodLink own index y).before a0 Z = true) (w2 : (Jvm.Cond.static y).before a0 Z = true) (w3 : (Jvm.Cond.initialized y.cls).before a0 Z = true) (w4 : (Jvm.Cond.code y bytes maxL ret).before a0 Z = true) (hy : y.cls ≠ "java/lang/invoke/MethodHandle" ∧ y.cls ≠ "java/lang/invoke/VarHandle")
    {k0 : Nat} (hS : s.Since vm0 k0) (hk : k0 ≤ h.size) (hEL : EW Z a0 EL) (H : CHv Z EL vm0 h) (hsf : ∀ x ∈ sf, Safe Z EL vm0 h x) (hlt : ∀ x ∈ sf, x < h.size)
    (hM : own_MetW l Z EL sf h y bytes maxL ret [] rm as' Q rm.cells rm.slots)
    (hf : rm.frames + 1 ≤ R.frames) (hl : W + (maxL + 11) + rm.locals ≤ R.locals) (hc : cells + rm.cells ≤ R.cells) (hsl : slots + rm.slots ≤ R.slots)
    {g : JFrame} (hg : g.method = m) (hsize : g.locals.size = c.maxLocals) {argsL rest : List Value} (has : argsL.toArray = as') (hlen : ∀ sig, parseMethodDescriptor y.desc = some sig → argsL.length = sig.parameters.length)
    (hstack : g.stack = argsL.reverse ++ rest) (hW : 2 * g.monitorRoom + (rest.map fun v => v.category).sum ≤ W) (hd : decode c.code g.pc = .ok (.invokestatic index, 3)) :
    own_AfterW p l e R s Z EL own vm0 h m args below meth c T locs (cells + rm.cells) (slots + rm.slots) g rest Q := by
  obtain ⟨v, vm1, ⟨T', L', k', n'⟩, -, X', hS', hg', ⟨Lc, hQ, l1, y1, z1, hC⟩, st⟩ := callSS X hx (y := y) hown (mvT hZ w1) (mvT hZ w2) (mvT hZ w3) (mvT hZ w4) hy (own_backW (W := W) hM hZ w4 w3 hf hl hEL H hsf hlt) hg hsize hlen hstack hW hd (fun _ _ => ⟨has, eT, hc, hsl⟩)
  dsimp only [Pt.U, Pt.locs, Pt.cells, Pt.slots] at X' l1 y1 z1 st hQ hS' hg' hC
  subst l1 y1 z1
  obtain ⟨X2, hS2, hZ2, hown2⟩ := rebS hS (n1 := T.heap.size) (by rw [eT]; exact hk) X' hS' hg' hZ hown
  exact ⟨T', _, v, Lc, X2, rfl, hQ, hS2, hZ2, hown2, hC, fun _ k => st.trans k⟩
theorem own_callNW (X : Stand p l e R (s.setVm vm0) m args below meth c T locs cells slots) (hx : p.tables.exec = Jvm.exec) (hZ : Z.Warmed39 (s.setVm vm0).vm) (hown : (s.setVm vm0).vm.findClass own = some m.cls) (eT : T.heap = h) {b : Addr} (hy1 : y.name = "<init>")
    (w1 : (Jvm.Cond.methodLink own index y).before a0 Z = true) (w5 : (Jvm.Cond.instanceMethod y).before a0 Z = true) (w6 : (Jvm.Cond.initialized y.cls).before a0 Z = true) (w4 : (Jvm.Cond.code y bytes maxL none).before a0 Z = true) (hy : y.cls ≠ "java/lang/invoke/MethodHandle" ∧ y.cls ≠ "java/lang/invoke/VarHandle")
    {k0 : Nat} (hS : s.Since vm0 k0) (hk : k0 ≤ h.size) (hEL : EW Z a0 EL) (H : CHv Z EL vm0 h) (hsf : ∀ x ∈ sf, Safe Z EL vm0 h x) (hlt : ∀ x ∈ sf, x < h.size)
    (hM : own_MetW l Z EL sf h y bytes maxL none [] rm as' Q rm.cells rm.slots)
    (hf : rm.frames + 1 ≤ R.frames) (hl : W + (maxL + 11) + rm.locals ≤ R.locals) (hc : cells + rm.cells ≤ R.cells) (hsl : slots + rm.slots ≤ R.slots)
    {g : JFrame} (hg : g.method = m) (hsize : g.locals.size = c.maxLocals) {argsL rest : List Value} (has : (.ref b :: argsL).toArray = as') (hlen : ∀ sig, parseMethodDescriptor y.desc = some sig → argsL.length = sig.parameters.length)
    (hstack : g.stack = argsL.reverse ++ .ref b :: rest) (hW : 2 * g.monitorRoom + (rest.map fun v => v.category).sum ≤ W) (hd : decode c.code g.pc = .ok (.invokespecial index, 3)) :
    own_AfterW p l e R s Z EL own vm0 h m args below meth c T locs (cells + rm.cells) (slots + rm.slots) g rest Q := by
  obtain ⟨v, vm1, ⟨T', L', k', n'⟩, -, X', hS', hg', ⟨Lc, hQ, l1, y1, z1, hC⟩, st⟩ := X.specialBackS hx (y := y) hy1 hown (mvT hZ w1) (mvT hZ w5) (mvT hZ w4) hy (own_backW (W := W) hM hZ w4 w6 hf hl hEL H hsf hlt) hg hsize (Steps.refl _) hlen hstack hW hd (fun _ _ => ⟨has, eT, hc, hsl⟩)
  dsimp only [Pt.U, Pt.locs, Pt.cells, Pt.slots] at X' l1 y1 z1 st hQ hS' hg' hC
  subst l1 y1 z1
  obtain ⟨X2, hS2, hZ2, hown2⟩ := rebS hS (n1 := T.heap.size) (by rw [eT]; exact hk) X' hS' hg' hZ hown
  exact ⟨T', _, v, Lc, X2, rfl, hQ, hS2, hZ2, hown2, hC, fun _ k => st.trans k⟩
theorem own_sk (wS : ∀ d ∈ tables_1, d.before a0 Z = true) (h : Bundle.stringAtoms.all (fun w => tables_1.contains w) = true := by decide +kernel) : ∀ a ∈ Bundle.stringAtoms, a.before a0 Z = true := fun a ha => wS a (by
  have q := List.all_eq_true.mp h a ha
  exact List.contains_iff_mem.mp q)
end OwnWide
theorem own_bm32 {n : Int} (h1 : -2147483648 ≤ n) (h2 : n < 2147483648) : n.bmod (2 ^ 32) = n := Int.bmod_eq_of_le (by omega) (by omega)
theorem own_modlt (x : Int32) (n : Int32) (hn : 0 < n.toInt) : 0 ≤ ((x &&& 2147483647) % n).toInt ∧ ((x &&& 2147483647) % n).toInt < n.toInt := by
  have e := Jvm.Kit.i32_mask x 2147483647 (k := 31) (by decide) (by decide)
  rw [Int32.toInt_mod, e]
  have h0 : 0 ≤ x.toInt % 2 ^ 31 := Int.emod_nonneg _ (by decide)
  rw [Int.tmod_eq_emod_of_nonneg h0]
  exact ⟨Int.emod_nonneg _ (by omega), Int.emod_lt_of_pos _ hn⟩
theorem own_i32 {x : Int32} {k : Int32} (h : x.toInt = k.toInt) : x = k := Int32.toInt_inj.mp h
theorem own_in2 {x : Int32} (h : 0 ≤ x.toInt ∧ x.toInt < 2) : x = 0 ∨ x = 1 := by
  rcases (by omega : x.toInt = 0 ∨ x.toInt = 1) with q | q
  · exact .inl (own_i32 (k := 0) q)
  · exact .inr (own_i32 (k := 1) q)
theorem own_in3 {x : Int32} (h : 0 ≤ x.toInt ∧ x.toInt < 3) : x = 0 ∨ x = 1 ∨ x = 2 := by
  rcases (by omega : x.toInt = 0 ∨ x.toInt = 1 ∨ x.toInt = 2) with q | q | q
  · exact .inl (own_i32 (k := 0) q)
  · exact .inr (.inl (own_i32 (k := 1) q))
  · exact .inr (.inr (own_i32 (k := 2) q))
theorem own_in4 {x : Int32} (h : 0 ≤ x.toInt ∧ x.toInt < 4) : x = 0 ∨ x = 1 ∨ x = 2 ∨ x = 3 := by
  rcases (by omega : x.toInt = 0 ∨ x.toInt = 1 ∨ x.toInt = 2 ∨ x.toInt = 3) with q | q | q | q
  · exact .inl (own_i32 (k := 0) q)
  · exact .inr (.inl (own_i32 (k := 1) q))
  · exact .inr (.inr (.inl (own_i32 (k := 2) q)))
  · exact .inr (.inr (.inr (own_i32 (k := 3) q)))
theorem own_in5 {x : Int32} (h : 0 ≤ x.toInt ∧ x.toInt < 5) : x = 0 ∨ x = 1 ∨ x = 2 ∨ x = 3 ∨ x = 4 := by
  rcases (by omega : x.toInt = 0 ∨ x.toInt = 1 ∨ x.toInt = 2 ∨ x.toInt = 3 ∨ x.toInt = 4) with q | q | q | q | q
  · exact .inl (own_i32 (k := 0) q)
  · exact .inr (.inl (own_i32 (k := 1) q))
  · exact .inr (.inr (.inl (own_i32 (k := 2) q)))
  · exact .inr (.inr (.inr (.inl (own_i32 (k := 3) q))))
  · exact .inr (.inr (.inr (.inr (own_i32 (k := 4) q))))
theorem own_in6 {x : Int32} (h : 0 ≤ x.toInt ∧ x.toInt < 6) : x = 0 ∨ x = 1 ∨ x = 2 ∨ x = 3 ∨ x = 4 ∨ x = 5 := by
  rcases (by omega : x.toInt = 0 ∨ x.toInt = 1 ∨ x.toInt = 2 ∨ x.toInt = 3 ∨ x.toInt = 4 ∨ x.toInt = 5) with q | q | q | q | q | q
  · exact .inl (own_i32 (k := 0) q)
  · exact .inr (.inl (own_i32 (k := 1) q))
  · exact .inr (.inr (.inl (own_i32 (k := 2) q)))
  · exact .inr (.inr (.inr (.inl (own_i32 (k := 3) q))))
  · exact .inr (.inr (.inr (.inr (.inl (own_i32 (k := 4) q)))))
  · exact .inr (.inr (.inr (.inr (.inr (own_i32 (k := 5) q)))))
theorem own_in7 {x : Int32} (h : 0 ≤ x.toInt ∧ x.toInt < 7) : x = 0 ∨ x = 1 ∨ x = 2 ∨ x = 3 ∨ x = 4 ∨ x = 5 ∨ x = 6 := by
  rcases (by omega : x.toInt = 0 ∨ x.toInt = 1 ∨ x.toInt = 2 ∨ x.toInt = 3 ∨ x.toInt = 4 ∨ x.toInt = 5 ∨ x.toInt = 6) with q | q | q | q | q | q | q
  · exact .inl (own_i32 (k := 0) q)
  · exact .inr (.inl (own_i32 (k := 1) q))
  · exact .inr (.inr (.inl (own_i32 (k := 2) q)))
  · exact .inr (.inr (.inr (.inl (own_i32 (k := 3) q))))
  · exact .inr (.inr (.inr (.inr (.inl (own_i32 (k := 4) q)))))
  · exact .inr (.inr (.inr (.inr (.inr (.inl (own_i32 (k := 5) q))))))
  · exact .inr (.inr (.inr (.inr (.inr (.inr (own_i32 (k := 6) q))))))
theorem own_chr (x : Int32) : ∃ z : Int32, z = (x &&& 255).toUInt32.toUInt16.toUInt32.toInt32 ∧ ¬ (z < 0) ∧ ¬ (255 < z) ∧ nar .char z = z := by
  refine ⟨_, rfl, ?_, ?_, own_narC _⟩
  all_goals
    have e := Jvm.Kit.i32_mask x 255 (k := 8) (by decide) (by decide)
    have hb : (x &&& 255).toUInt32.toUInt16.toUInt32.toInt32 = x &&& 255 := by
      have f := fits_nar_char (x &&& 255)
      apply Int32.toInt_inj.mp
      have h1 : ((x &&& 255).toUInt32.toUInt16.toUInt32.toInt32).toInt = ((x &&& 255).toBitVec.toNat % 65536 : Nat) := by
        have hm : ((x &&& 255).toUInt32.toUInt16.toUInt32.toInt32).toBitVec.toNat = (x &&& 255).toBitVec.toNat % 65536 := by
          simp only [Int32.toBitVec_and, UInt32.toBitVec_toInt32, Int32.toBitVec_toUInt32] at *
          simp
          rw [show (255 : Nat) = 2 ^ 8 - 1 from rfl, Nat.and_two_pow_sub_one_eq_mod, Nat.and_two_pow_sub_one_eq_mod]; omega
        show ((x &&& 255).toUInt32.toUInt16.toUInt32.toInt32).toBitVec.toInt = _
        rw [BitVec.toInt_eq_toNat_cond, hm, if_pos (by omega)]
      have h2 : (x &&& 255).toBitVec.toInt = (x &&& 255).toInt := rfl
      have h3 : ((x &&& 255).toBitVec.toNat : Int) = (x &&& 255).toInt := by
        rw [← h2, BitVec.toInt_eq_toNat_cond]
        have : (x &&& 255).toBitVec.toInt = x.toInt % 2 ^ 8 := e
        rw [BitVec.toInt_eq_toNat_cond] at this
        split
        · rfl
        · rename_i hc; rw [if_neg hc] at this; have := (x &&& 255).toBitVec.isLt; omega
      rw [h1]; omega
    rw [hb, Int32.lt_iff_toInt_lt, e]
    have e0 : (0 : Int32).toInt = 0 := rfl
    have e1 : (255 : Int32).toInt = 255 := rfl
    omega
theorem own_nm (x n : Int32) (hn : 0 < n.toInt) : ∃ z : Int32, z = (x &&& 2147483647) % n ∧ 0 ≤ z.toInt ∧ z.toInt < n.toInt := ⟨_, rfl, own_modlt x n hn⟩
theorem own_nq (x n : Int32) (hn : 0 < n.toInt) : ∃ z : Int32, z = (x &&& 127) % n ∧ 0 ≤ z.toInt ∧ z.toInt < n.toInt := by
  refine ⟨_, rfl, ?_⟩
  have e := Jvm.Kit.i32_mask x 127 (k := 7) (by decide) (by decide)
  rw [Int32.toInt_mod, e]
  have h0 : 0 ≤ x.toInt % 2 ^ 7 := Int.emod_nonneg _ (by decide)
  rw [Int.tmod_eq_emod_of_nonneg h0]
  exact ⟨Int.emod_nonneg _ (by omega), Int.emod_lt_of_pos _ hn⟩
theorem own_b2c {x y : Int32} (hx1 : ¬ (x < 0)) (hx2 : ¬ (255 < x)) (hy1 : ¬ (y < 0)) (hy2 : ¬ (255 < y)) (h : x.toInt8.toInt32 = y.toInt8.toInt32) : x = y := by
  have cx := c_i2b x
  have cy := c_i2b y
  rw [h] at cx
  rw [Int32.lt_iff_toInt_lt] at hx1 hx2 hy1 hy2
  have e0 : (0 : Int32).toInt = 0 := rfl
  have e1 : (255 : Int32).toInt = 255 := rfl
  apply Int32.toInt_inj.mp
  omega
abbrev own_EL : List (String × Nat) := [("java/lang/String", 7)]
theorem own_ef0 (m : MethodId) (x0 : Int32) (x1 : Int32) (x2 : Int32) (x3 : Int32) (x4 : Int32) : entryFrame m #[(.int x0), (.int x1), (.int x2), (.int x3), (.int x4)] maxLocals = mkF m 0 #[.val (.int x0), .val (.int x1), .val (.int x2), .val (.int x3), .val (.int x4), .unset, .unset, .unset, .unset, .unset, .unset, .unset, .unset, .unset, .unset, .unset, .unset, .unset] [] := by first | (simp [entryFrame, mkF, argsToLocals, Value.category, maxLocals]; done) | rfl
theorem own_ef1 (m : MethodId) (x0 : Int32) (x1 : Int32) (x2 : Int32) : entryFrame m #[(.int x0), (.int x1), (.int x2)] 3 = mkF m 0 #[.val (.int x0), .val (.int x1), .val (.int x2)] [] := by first | (simp [entryFrame, mkF, argsToLocals, Value.category]; done) | rfl
theorem dd0_0 : decode method_3_code 0 = .ok (.iload_n 0, 1) := by decide +kernel
theorem dd0_1 : decode method_3_code 1 = .ok (.ifCond .ne 14, 3) := by decide +kernel
theorem dd0_4 : decode method_3_code 4 = .ok (.new 31, 3) := by decide +kernel
theorem dd0_7 : decode method_3_code 7 = .ok (.dup, 1) := by decide +kernel
theorem dd0_8 : decode method_3_code 8 = .ok (.iconst 0, 1) := by decide +kernel
theorem dd0_9 : decode method_3_code 9 = .ok (.newarray .char, 2) := by decide +kernel
theorem own_ef2 (m : MethodId) (x0 : Addr) (x1 : Addr) : entryFrame m #[(.ref x0), (.ref x1)] 2 = mkF m 0 #[.val (.ref x0), .val (.ref x1)] [] := by first | (simp [entryFrame, mkF, argsToLocals, Value.category]; done) | rfl
theorem dd1_0 : decode jdk_42_method_3_code 0 = .ok (.aload_n 0, 1) := by decide +kernel
theorem dd1_1 : decode jdk_42_method_3_code 1 = .ok (.aload_n 1, 1) := by decide +kernel
theorem dd1_2 : decode jdk_42_method_3_code 2 = .ok (.iconst 0, 1) := by decide +kernel
theorem dd1_3 : decode jdk_42_method_3_code 3 = .ok (.aload_n 1, 1) := by decide +kernel
theorem dd1_4 : decode jdk_42_method_3_code 4 = .ok (.arraylength, 1) := by decide +kernel
theorem dd1_5 : decode jdk_42_method_3_code 5 = .ok (.aconst_null, 1) := by decide +kernel
theorem own_ef3 (m : MethodId) (x0 : Addr) (x1 : Addr) (x2 : Int32) (x3 : Int32) : entryFrame m #[(.ref x0), (.ref x1), (.int x2), (.int x3), .null] 6 = mkF m 0 #[.val (.ref x0), .val (.ref x1), .val (.int x2), .val (.int x3), .val .null, .unset] [] := by first | (simp [entryFrame, mkF, argsToLocals, Value.category]; done) | rfl
theorem dd2_0 : decode jdk_42_method_149_code 0 = .ok (.aload_n 0, 1) := by decide +kernel
theorem dd2_1 : decode jdk_42_method_149_code 1 = .ok (.invokespecial 1, 3) := by decide +kernel
theorem dd2_4 : decode jdk_42_method_149_code 4 = .ok (.iload_n 3, 1) := by decide +kernel
theorem dd2_5 : decode jdk_42_method_149_code 5 = .ok (.ifCond .ne 22, 3) := by decide +kernel
theorem dd2_8 : decode jdk_42_method_149_code 8 = .ok (.aload_n 0, 1) := by decide +kernel
theorem dd2_9 : decode jdk_42_method_149_code 9 = .ok (.ldc 7, 2) := by decide +kernel
theorem dd2_11 : decode jdk_42_method_149_code 11 = .ok (.getfield 9, 3) := by decide +kernel
theorem dd2_14 : decode jdk_42_method_149_code 14 = .ok (.putfield 9, 3) := by decide +kernel
theorem dd2_17 : decode jdk_42_method_149_code 17 = .ok (.aload_n 0, 1) := by decide +kernel
theorem dd2_18 : decode jdk_42_method_149_code 18 = .ok (.ldc 7, 2) := by decide +kernel
theorem dd2_20 : decode jdk_42_method_149_code 20 = .ok (.getfield 15, 3) := by decide +kernel
theorem dd2_23 : decode jdk_42_method_149_code 23 = .ok (.putfield 15, 3) := by decide +kernel
theorem dd2_26 : decode jdk_42_method_149_code 26 = .ok (.return_, 1) := by decide +kernel
def own_Q10 (Z : State) (ob_89 : Nat) (ob_107 : Nat) (kk_105 : ClassId) (h0 : Heap) (n0 : Nat) (v : Option Value) (h : Heap) (L : List Loc) : Prop := (∃ ob_136 : Nat, ∃ kk_137 : ClassId, v = none ∧ Fr n0 L ∧ Keep h0 h [ob_89] ∧ Fld Z h ob_89 "java/lang/String" "value" "[B" (.ref ob_136) ∧ Exa Z h ob_89 "java/lang/String" ∧ Fld Z h ob_89 "java/lang/String" "coder" "B" (.int 0) ∧ Arv Z h ob_136 kk_137 .byte 0 [] (.int 0) ∧ @LT.lt Nat instLTNat ob_136 h.size)
theorem own_pn0 : plainFor (⟨"java/lang/String", "<init>", "([CIILjava/lang/Void;)V"⟩ : MethodName) = true := by decide +kernel
set_option maxRecDepth 65536 in
set_option maxHeartbeats 40000000 in
theorem own_rm10 (l : Launch) (Z : State) (a0 : Array Value) (hw : ∀ d ∈ tables_1, d.before a0 Z = true) (hEL : EW Z a0 own_EL) (ws : List Jvm.Cond) (ob_89 : Nat) (ob_107 : Nat) (kk_105 : ClassId) (h0 : Heap) (n0 : Nat) (Z0 : n0 ≤ h0.size) (O0 : Old Z n0 h0) (I153 : @LT.lt Nat instLTNat ob_89 h0.size) (I158 : Arv Z h0 ob_107 kk_105 .char 0 [] (.int 0)) (I168 : Fld Z h0 ob_89 "java/lang/String" "value" "[B" .null) (I172 : Exa Z h0 ob_89 "java/lang/String") (I183 : n0 ≤ ob_89) (I220 : @LT.lt Nat instLTNat ob_107 h0.size) (I230 : Fld Z h0 ob_89 "java/lang/String" "coder" "B" (.int 0)) :
    own_MetW l Z own_EL [ob_89] h0 (⟨"java/lang/String", "<init>", "([CIILjava/lang/Void;)V"⟩ : MethodName) jdk_42_method_149_code 6 (Option.none : Option FieldType) ws ({ frames := 1, cells := 4, slots := 8, locals := 12 } : Room) #[(.ref ob_89), (.ref ob_107), (.int 0), (.int 0), .null] (own_Q10 Z ob_89 ob_107 kk_105 h0 n0) 4 8 := by
  refine MetFree.of_bodySF own_pn0 hisR ?_
  intro p e s m args below meth c s₁ Bd hml0 hP hK
  obtain ⟨rfl, hZ, hh, hCH, hsf⟩ := hP
  have hx := Bd.exec
  have hby := Bd.bytes
  have hml : c.maxLocals = 6 := hml0
  have hown : (s.setVm s.vm).vm.findClass "java/lang/String" = some m.cls := findClass_of_methodNamed Bd.named
  have hnm := (name_of_methodNamed Bd.named Bd.method).1
  have hZ : Z.Warmed39 (s.setVm s.vm).vm := hZ
  have hS : s.Since s.vm 0 := (State.WarmedH.refl s).since 0
  have X0 : Stand p l e ({ frames := 1, cells := 4, slots := 8, locals := 12 } : Room) (s.setVm s.vm) m #[(.ref ob_89), (.ref ob_107), (.int 0), (.int 0), .null] below meth c s₁ [] 0 0 := Stand.of_body Bd
  have e0 : s₁.heap = h0 := by rw [← hh, Bd.state]; rfl
  have hR : CHr Z own_EL s.vm h0 s.vm h0 := CHr.refl hCH
  have N0 := Fr.nil n0
  show own_G p e below (s₁.setTop (entryFrame m #[(.ref ob_89), (.ref ob_107), (.int 0), (.int 0), .null] 6)) (own_PW Z own_EL s (own_Q10 Z ob_89 ob_107 kk_105 h0 n0) 4 8)
  refine own_cast (own_ef3 m ob_89 ob_107 0 0) ?_
  show own_G p e below (s₁.setTop (mkF m 0 #[rv ob_89, rv ob_107, iv 0, iv 0, .val .null, .unset] [])) _
  refine oS (fun _ => XS.aloadN X0.here hx rfl (hb hby dd2_0) rfl rfl) ?_
  obtain ⟨T122, X123, e124, s125⟩ := initO X0 hx hZ hown (oW hw 22 rfl) (oW hw 23 rfl) (oW hw 24 rfl) e0 (g := (mkF m 1 #[rv ob_89, rv ob_107, iv 0, iv 0, .val .null, .unset] [(.ref ob_89)])) rfl (by rw [hml]; rfl) rfl (hb hby dd2_1) (by decide) (W := 0) (by show 2 * 0 + _ ≤ _; exact Nat.le_of_eq rfl) (by decide)
  refine oS s125 ?_
  show own_G p e below (T122.setTop (mkF m 4 #[rv ob_89, rv ob_107, iv 0, iv 0, .val .null, .unset] [])) _
  refine oS (fun _ => XS.iloadN X123.here hx rfl (hb hby dd2_4) rfl) ?_
  refine oS (fun _ => XS.ifNo X123.here hx rfl (hb hby dd2_5) rfl (XT.i0_ne_f (by decide))) ?_
  show own_G p e below (T122.setTop (mkF m 8 #[rv ob_89, rv ob_107, iv 0, iv 0, .val .null, .unset] [])) _
  refine oS (fun _ => XS.aloadN X123.here hx rfl (hb hby dd2_8) rfl rfl) ?_
  obtain ⟨ob_135, T126, h127, k128, ob_136, kk_137, X129, e130, E131, hS, hk, hZ, hown, F138, F139, F140, F141, y142, y143, A132, L133, M144, s134⟩ := ldcCH X123 hx hZ hown (oW hw 25 rfl) (own_sk hw) e124 hS (by omega) hEL (by decide) hR.1 (vs := []) (z := 0) ⟨by decide, by decide +kernel⟩ (by decide) rfl (g := (mkF m 9 #[rv ob_89, rv ob_107, iv 0, iv 0, .val .null, .unset] [(.ref ob_89)])) rfl (hb hby dd2_9) (n := 0) (by decide) (by decide) (by decide) (by decide)
  have z145 := E131.1
  refine oS s134 ?_
  have R146 : CHr Z own_EL s.vm h0 T126.vm h127 := hR.trans A132
  have y147 : @LT.lt Nat instLTNat ob_135 h127.size := y142
  have y148 : @LT.lt Nat instLTNat ob_136 h127.size := y143
  have y149 : @LT.lt Nat instLTNat ob_89 h0.size := by omega
  have S154 := A132.safe y149 (hsf ob_89 (by simp))
  have N155 : @Ne Nat ob_89 ob_135 := (M144 ob_89 S154).1
  have N156 : @Ne Nat ob_89 ob_136 := (M144 ob_89 S154).2
  have F159 : Arv Z h127 ob_107 kk_105 .char 0 [] (.int 0) := I158.ext E131
  have S157 : Safe Z own_EL T126.vm h127 ob_107 := Safe.arv hZ.alike F159 (by decide)
  have N160 : @Ne Nat ob_107 ob_135 := (M144 ob_107 S157).1
  have N161 : @Ne Nat ob_107 ob_136 := (M144 ob_107 S157).2
  show own_G p e below (T126.setTop (mkF m 11 #[rv ob_89, rv ob_107, iv 0, iv 0, .val .null, .unset] [(.ref ob_135), (.ref ob_89)])) _
  obtain ⟨T162, X163, e164, s165⟩ := getF X129 hx hZ hown (host := "") (Or.inl (oW hw 31 rfl)) Via.refl e130 F140 (g := (mkF m 11 #[rv ob_89, rv ob_107, iv 0, iv 0, .val .null, .unset] [(.ref ob_135), (.ref ob_89)])) rfl rfl (hb hby dd2_11)
  refine oS s165 ?_
  show own_G p e below (T162.setTop (mkF m 14 #[rv ob_89, rv ob_107, iv 0, iv 0, .val .null, .unset] [(.ref ob_136), (.ref ob_89)])) _
  have F169 : Fld Z h127 ob_89 "java/lang/String" "value" "[B" .null := Fld.ext E131 I168
  have F173 : Exa Z h127 ob_89 "java/lang/String" := Exa.ext E131 I172
  obtain ⟨T174, h175, X176, e177, W178, s179⟩ := putF X163 hx hZ hown (host := "") (Or.inl (oW hw 31 rfl)) Via.refl e164 F169 F173 (Or.inr ⟨(oW hw 27 rfl), rfl, hnm⟩) (oW hw 12 rfl) (ty := (.array .byte)) (by decide) rfl rfl (g := (mkF m 14 #[rv ob_89, rv ob_107, iv 0, iv 0, .val .null, .unset] [(.ref ob_136), (.ref ob_89)])) rfl rfl (hb hby dd2_14)
  have N180 := Fr.snoc X176 N0 I183
  have z184 := W178.size
  have F185 : Fld Z h175 ob_89 "java/lang/String" "value" "[B" (.ref ob_136) := Fld.same W178 F169
  refine oS s179 ?_
  have R186 : CHr Z own_EL s.vm h0 T126.vm h175 := R146.trans (CHr.wr W178 S154 R146.1)
  show own_G p e below (T174.setTop (mkF m 17 #[rv ob_89, rv ob_107, iv 0, iv 0, .val .null, .unset] [])) _
  refine oS (fun _ => XS.aloadN X176.here hx rfl (hb hby dd2_17) rfl rfl) ?_
  obtain ⟨ob_196, T187, h188, k189, ob_197, kk_198, X190, e191, E192, hS, hk, hZ, hown, F199, F200, F201, F202, y203, y204, A193, L194, M205, s195⟩ := ldcCH X176 hx hZ hown (oW hw 25 rfl) (own_sk hw) e177 hS (by omega) hEL (by decide) R186.1 (vs := []) (z := 0) ⟨by decide, by decide +kernel⟩ (by decide) rfl (g := (mkF m 18 #[rv ob_89, rv ob_107, iv 0, iv 0, .val .null, .unset] [(.ref ob_89)])) rfl (hb hby dd2_18) (n := 0) (by decide) (by decide) (by decide) (by decide)
  have z206 := E192.1
  refine oS s195 ?_
  have R207 : CHr Z own_EL s.vm h0 T187.vm h188 := R186.trans A193
  have y208 : @LT.lt Nat instLTNat ob_196 h188.size := y203
  have y209 : @LT.lt Nat instLTNat ob_197 h188.size := y204
  have S210 := Safe.wr W178 S154 R146.1 S154
  have y211 : @LT.lt Nat instLTNat ob_89 h175.size := by omega
  have S212 := A193.safe y211 S210
  have N213 : @Ne Nat ob_89 ob_196 := (M205 ob_89 S212).1
  have N214 : @Ne Nat ob_89 ob_197 := (M205 ob_89 S212).2
  have S215 := Safe.wr W178 S154 R146.1 S157
  have y216 : @LT.lt Nat instLTNat ob_107 h175.size := by omega
  have S221 := A193.safe y216 S215
  have N222 : @Ne Nat ob_107 ob_196 := (M205 ob_107 S221).1
  have N223 : @Ne Nat ob_107 ob_197 := (M205 ob_107 S221).2
  show own_G p e below (T187.setTop (mkF m 20 #[rv ob_89, rv ob_107, iv 0, iv 0, .val .null, .unset] [(.ref ob_196), (.ref ob_89)])) _
  obtain ⟨T224, X225, e226, s227⟩ := getF X190 hx hZ hown (host := "") (Or.inl (oW hw 32 rfl)) Via.refl e191 F200 (g := (mkF m 20 #[rv ob_89, rv ob_107, iv 0, iv 0, .val .null, .unset] [(.ref ob_196), (.ref ob_89)])) rfl rfl (hb hby dd2_20)
  refine oS s227 ?_
  show own_G p e below (T224.setTop (mkF m 23 #[rv ob_89, rv ob_107, iv 0, iv 0, .val .null, .unset] [(.int 0), (.ref ob_89)])) _
  have F231 : Fld Z h127 ob_89 "java/lang/String" "coder" "B" (.int 0) := Fld.ext E131 I230
  have F232 : Fld Z h175 ob_89 "java/lang/String" "coder" "B" (.int 0) := Fld.other W178 F231 (Or.inr (slot_ne (C := "java/lang/String") (Or.inr (oW hw 28 rfl)) (Or.inr (oW hw 27 rfl)) (by decide) (t := .byte) (t' := (.array .byte)) (by decide) (by decide)))
  have F233 : Fld Z h188 ob_89 "java/lang/String" "coder" "B" (.int 0) := Fld.ext E192 F232
  have F234 : Exa Z h175 ob_89 "java/lang/String" := Exa.wr W178 F173
  have F235 : Exa Z h188 ob_89 "java/lang/String" := Exa.ext E192 F234
  obtain ⟨T236, h237, X238, e239, W240, s241⟩ := putF X225 hx hZ hown (host := "") (Or.inl (oW hw 32 rfl)) Via.refl e226 F233 F235 (Or.inr ⟨(oW hw 28 rfl), rfl, hnm⟩) (oW hw 12 rfl) (ty := .byte) (by decide) (by decide) (by decide) (g := (mkF m 23 #[rv ob_89, rv ob_107, iv 0, iv 0, .val .null, .unset] [(.int 0), (.ref ob_89)])) rfl rfl (hb hby dd2_23)
  have N242 := Fr.snoc X238 N180 I183
  have z243 := W240.size
  have F244 : Fld Z h237 ob_89 "java/lang/String" "coder" "B" (.int 0) := Fld.same W240 F233
  refine oS s241 ?_
  have R245 : CHr Z own_EL s.vm h0 T187.vm h237 := R207.trans (CHr.wr W240 S212 R207.1)
  show own_G p e below (T236.setTop (mkF m 26 #[rv ob_89, rv ob_107, iv 0, iv 0, .val .null, .unset] [])) _
  have F246 : Fld Z h188 ob_89 "java/lang/String" "value" "[B" (.ref ob_136) := Fld.ext E192 F185
  have F247 : Fld Z h237 ob_89 "java/lang/String" "value" "[B" (.ref ob_136) := Fld.other W240 F246 (Or.inr (slot_ne (C := "java/lang/String") (Or.inr (oW hw 27 rfl)) (Or.inr (oW hw 28 rfl)) (by decide) (t := (.array .byte)) (t' := .byte) (by decide) (by decide)))
  have F248 : Exa Z h237 ob_89 "java/lang/String" := Exa.wr W240 F235
  have F249 : Arv Z h175 ob_136 kk_137 .byte 0 [] (.int 0) := F141.other W178 (Ne.symm N156)
  have F250 : Arv Z h188 ob_136 kk_137 .byte 0 [] (.int 0) := F249.ext E192
  have F251 : Arv Z h237 ob_136 kk_137 .byte 0 [] (.int 0) := F250.other W240 (Ne.symm N156)
  have y252 : @LT.lt Nat instLTNat ob_136 h237.size := by omega
  have K253 : Keep h0 h237 [ob_89] := (((((Keep.refl h0 [ob_89]).ext E131).wr W178 (Or.inl (by simp))).ext E192).wr W240 (Or.inl (by simp)))
  exact own_retVW X238 hx Bd.notSynchronized Bd.returns (hb hby dd2_26) hS hZ hEL hh R245 e239 (by omega) (by decide) (by decide) (⟨ob_136, kk_137, rfl, N242, K253, F247, F248, F244, F251, y252⟩)
theorem own_pd0 : parseMethodDescriptor "([CIILjava/lang/Void;)V" = some ⟨[(.array .char), .int, .int, (.object "java/lang/Void")], none⟩ := by decide +kernel
theorem dd1_6 : decode jdk_42_method_3_code 6 = .ok (.invokespecial 27, 3) := by decide +kernel
theorem dd1_9 : decode jdk_42_method_3_code 9 = .ok (.return_, 1) := by decide +kernel
def own_Q8 (Z : State) (ob_89 : Nat) (ob_107 : Nat) (kk_105 : ClassId) (h0 : Heap) (n0 : Nat) (v : Option Value) (h : Heap) (L : List Loc) : Prop := (∃ ob_263 : Nat, ∃ kk_264 : ClassId, v = none ∧ Fr n0 L ∧ Keep h0 h [ob_89] ∧ Fld Z h ob_89 "java/lang/String" "value" "[B" (.ref ob_263) ∧ Exa Z h ob_89 "java/lang/String" ∧ Fld Z h ob_89 "java/lang/String" "coder" "B" (.int 0) ∧ Arv Z h ob_263 kk_264 .byte 0 [] (.int 0) ∧ @LT.lt Nat instLTNat ob_263 h.size)
theorem own_pn1 : plainFor (⟨"java/lang/String", "<init>", "([C)V"⟩ : MethodName) = true := by decide +kernel
set_option maxRecDepth 65536 in
set_option maxHeartbeats 40000000 in
theorem own_rm8 (l : Launch) (Z : State) (a0 : Array Value) (hw : ∀ d ∈ tables_1, d.before a0 Z = true) (hEL : EW Z a0 own_EL) (ws : List Jvm.Cond) (ob_89 : Nat) (ob_107 : Nat) (kk_105 : ClassId) (h0 : Heap) (n0 : Nat) (Z0 : n0 ≤ h0.size) (O0 : Old Z n0 h0) (I117 : Arv Z h0 ob_107 kk_105 .char 0 [] (.int 0)) (I151 : @LT.lt Nat instLTNat ob_89 h0.size) (I167 : Fld Z h0 ob_89 "java/lang/String" "value" "[B" .null) (I171 : Exa Z h0 ob_89 "java/lang/String") (I182 : n0 ≤ ob_89) (I218 : @LT.lt Nat instLTNat ob_107 h0.size) (I229 : Fld Z h0 ob_89 "java/lang/String" "coder" "B" (.int 0)) :
    own_MetW l Z own_EL [ob_89] h0 (⟨"java/lang/String", "<init>", "([C)V"⟩ : MethodName) jdk_42_method_3_code 2 (Option.none : Option FieldType) ws ({ frames := 2, cells := 4, slots := 8, locals := 29 } : Room) #[(.ref ob_89), (.ref ob_107)] (own_Q8 Z ob_89 ob_107 kk_105 h0 n0) 4 8 := by
  refine MetFree.of_bodySF own_pn1 hisR ?_
  intro p e s m args below meth c s₁ Bd hml0 hP hK
  obtain ⟨rfl, hZ, hh, hCH, hsf⟩ := hP
  have hx := Bd.exec
  have hby := Bd.bytes
  have hml : c.maxLocals = 2 := hml0
  have hown : (s.setVm s.vm).vm.findClass "java/lang/String" = some m.cls := findClass_of_methodNamed Bd.named
  have hnm := (name_of_methodNamed Bd.named Bd.method).1
  have hZ : Z.Warmed39 (s.setVm s.vm).vm := hZ
  have hS : s.Since s.vm 0 := (State.WarmedH.refl s).since 0
  have X0 : Stand p l e ({ frames := 2, cells := 4, slots := 8, locals := 29 } : Room) (s.setVm s.vm) m #[(.ref ob_89), (.ref ob_107)] below meth c s₁ [] 0 0 := Stand.of_body Bd
  have e0 : s₁.heap = h0 := by rw [← hh, Bd.state]; rfl
  have hR : CHr Z own_EL s.vm h0 s.vm h0 := CHr.refl hCH
  have N0 := Fr.nil n0
  show own_G p e below (s₁.setTop (entryFrame m #[(.ref ob_89), (.ref ob_107)] 2)) (own_PW Z own_EL s (own_Q8 Z ob_89 ob_107 kk_105 h0 n0) 4 8)
  refine own_cast (own_ef2 m ob_89 ob_107) ?_
  show own_G p e below (s₁.setTop (mkF m 0 #[rv ob_89, rv ob_107] [])) _
  refine oS (fun _ => XS.aloadN X0.here hx rfl (hb hby dd1_0) rfl rfl) ?_
  refine oS (fun _ => XS.aloadN X0.here hx rfl (hb hby dd1_1) rfl rfl) ?_
  refine oS (fun _ => XS.iconst X0.here hx rfl (hb hby dd1_2) ) ?_
  refine oS (fun _ => XS.aloadN X0.here hx rfl (hb hby dd1_3) rfl rfl) ?_
  show own_G p e below (s₁.setTop (mkF m 4 #[rv ob_89, rv ob_107] [(.ref ob_107), (.int 0), (.ref ob_107), (.ref ob_89)])) _
  refine oS (own_len X0 hx hZ e0 I117 rfl rfl (hb hby dd1_4)) ?_
  show own_G p e below (s₁.setTop (mkF m 5 #[rv ob_89, rv ob_107] [(.int 0), (.int 0), (.ref ob_107), (.ref ob_89)])) _
  refine oS (fun _ => XS.aconstNull X0.here hx rfl (hb hby dd1_5) ) ?_
  have y152 : @LT.lt Nat instLTNat ob_89 h0.size := by omega
  have y219 : @LT.lt Nat instLTNat ob_107 h0.size := by omega
  obtain ⟨T254, h255, v256, L257, X258, e259, q260, hS, hZ, hown, A261, s262⟩ := own_callNW X0 hx hZ hown e0 (y := (⟨"java/lang/String", "<init>", "([CIILjava/lang/Void;)V"⟩ : MethodName)) (b := ob_89) (sf := [ob_89]) rfl (oW hw 18 rfl) (oW hw 19 rfl) (oW hw 13 rfl) (oW hw 21 rfl) (by decide) hS (by omega) hEL hR.1 (sfS (hsf ob_89 (by simp)) sf0) (allS I151 all0) (W := 0) (own_rm10 l Z a0 hw hEL [] ob_89 ob_107 kk_105 h0 n0 Z0 O0 y152 I117 I167 I171 I182 y219 I229) (by decide) (by decide) (by decide) (by decide) (g := (mkF m 6 #[rv ob_89, rv ob_107] [.null, (.int 0), (.int 0), (.ref ob_107), (.ref ob_89)])) rfl (by rw [hml]; rfl) (argsL := [(.ref ob_107), (.int 0), (.int 0), .null]) (rest := []) rfl (lenOf own_pd0 rfl) rfl (by show 2 * 0 + _ ≤ _; exact Nat.le_of_eq rfl) (hb hby dd1_6)
  refine oS s262 ?_
  obtain ⟨ob_263, kk_264, rfl, N265, K266, F267, F268, F269, F270, F271⟩ := q260
  have N272 := Fr.app N0 N265
  have R273 : CHr Z own_EL s.vm h0 T254.vm h255 := hR.trans A261
  have z274 := K266.1
  show own_G p e below (T254.setTop (mkF m 9 #[rv ob_89, rv ob_107] [])) _
  have K275 : Keep h0 h255 [ob_89] := ((Keep.refl h0 [ob_89]).trans K266 (allS (Or.inl (by simp)) all0))
  exact own_retVW X258 hx Bd.notSynchronized Bd.returns (hb hby dd1_9) hS hZ hEL hh R273 e259 (by omega) (by decide) (by decide) (⟨ob_263, kk_264, rfl, N272, K275, F267, F268, F269, F270, F271⟩)
theorem own_pd1 : parseMethodDescriptor "([C)V" = some ⟨[(.array .char)], none⟩ := by decide +kernel
theorem dd0_11 : decode method_3_code 11 = .ok (.invokespecial 33, 3) := by decide +kernel
theorem dd0_14 : decode method_3_code 14 = .ok (.areturn, 1) := by decide +kernel
def own_Q5 (Z : State) (in_16 : Int32) (in_17 : Int32) (h0 : Heap) (n0 : Nat) (v : Option Value) (h : Heap) (L : List Loc) : Prop := (∃ ob_89 : Nat, ∃ ob_291 : Nat, ∃ kk_292 : ClassId, v = some (.ref ob_89) ∧ Fr n0 L ∧ Keep h0 h [] ∧ h0.size ≤ ob_89 ∧ Exa Z h ob_89 "java/lang/String" ∧ Fld Z h ob_89 "java/lang/String" "value" "[B" (.ref ob_291) ∧ Fld Z h ob_89 "java/lang/String" "coder" "B" (.int 0) ∧ Arv Z h ob_291 kk_292 .byte 0 [] (.int 0) ∧ @LT.lt Nat instLTNat ob_89 h.size ∧ @LT.lt Nat instLTNat ob_291 h.size)
theorem own_pn2 : plainFor (⟨"com/example/latente/latente/query/TokenIsSymbolPinLaw", "str", "(ICC)Ljava/lang/String;"⟩ : MethodName) = true := by decide +kernel
set_option maxRecDepth 65536 in
set_option maxHeartbeats 40000000 in
theorem own_rm5 (l : Launch) (Z : State) (a0 : Array Value) (hw : ∀ d ∈ tables_1, d.before a0 Z = true) (hEL : EW Z a0 own_EL) (ws : List Jvm.Cond) (in_16 : Int32) (in_17 : Int32) (h0 : Heap) (n0 : Nat) (Z0 : n0 ≤ h0.size) (O0 : Old Z n0 h0)  :
    own_MetW l Z own_EL [] h0 (⟨"com/example/latente/latente/query/TokenIsSymbolPinLaw", "str", "(ICC)Ljava/lang/String;"⟩ : MethodName) method_3_code 3 (Option.some (FieldType.object "java/lang/String")) ws ({ frames := 3, cells := 6, slots := 12, locals := 43 } : Room) #[(.int 0), (.int in_16), (.int in_17)] (own_Q5 Z in_16 in_17 h0 n0) 6 12 := by
  refine MetFree.of_bodySF own_pn2 hisR ?_
  intro p e s m args below meth c s₁ Bd hml0 hP hK
  obtain ⟨rfl, hZ, hh, hCH, hsf⟩ := hP
  have hx := Bd.exec
  have hby := Bd.bytes
  have hml : c.maxLocals = 3 := hml0
  have hown : (s.setVm s.vm).vm.findClass "com/example/latente/latente/query/TokenIsSymbolPinLaw" = some m.cls := findClass_of_methodNamed Bd.named
  have hnm := (name_of_methodNamed Bd.named Bd.method).1
  have hZ : Z.Warmed39 (s.setVm s.vm).vm := hZ
  have hS : s.Since s.vm 0 := (State.WarmedH.refl s).since 0
  have X0 : Stand p l e ({ frames := 3, cells := 6, slots := 12, locals := 43 } : Room) (s.setVm s.vm) m #[(.int 0), (.int in_16), (.int in_17)] below meth c s₁ [] 0 0 := Stand.of_body Bd
  have e0 : s₁.heap = h0 := by rw [← hh, Bd.state]; rfl
  have hR : CHr Z own_EL s.vm h0 s.vm h0 := CHr.refl hCH
  have N0 := Fr.nil n0
  show own_G p e below (s₁.setTop (entryFrame m #[(.int 0), (.int in_16), (.int in_17)] 3)) (own_PW Z own_EL s (own_Q5 Z in_16 in_17 h0 n0) 6 12)
  refine own_cast (own_ef1 m 0 in_16 in_17) ?_
  show own_G p e below (s₁.setTop (mkF m 0 #[iv 0, iv in_16, iv in_17] [])) _
  refine oS (fun _ => XS.iloadN X0.here hx rfl (hb hby dd0_0) rfl) ?_
  refine oS (fun _ => XS.ifNo X0.here hx rfl (hb hby dd0_1) rfl (XT.i0_ne_f (by decide))) ?_
  show own_G p e below (s₁.setTop (mkF m 4 #[iv 0, iv in_16, iv in_17] [])) _
  obtain ⟨T79, h80, X81, e82, E83, A84, D85, U88, s86⟩ := newO X0 hx hZ hown (oW hw 11 rfl) (oW hw 12 rfl) (oW hw 13 rfl) e0 (g := (mkF m 4 #[iv 0, iv in_16, iv in_17] [])) rfl (hb hby dd0_4) (by decide) (by decide)
  obtain ⟨ob_89, g90⟩ : ∃ z, z = h0.size := ⟨_, rfl⟩
  rw [← g90] at A84 D85 U88 s86
  have z91 := E83.1
  have y87 : @LT.lt Nat instLTNat ob_89 h80.size := A84.lt
  refine oS s86 ?_
  have R92 : CHr Z own_EL s.vm h0 s.vm h80 := hR.trans (CHr.ext E83 hR.1)
  have F93 : Fld Z h80 ob_89 "java/lang/String" "value" "[B" .null := D85 (Or.inr (oW hw 27 rfl)) (ty := (.array .byte)) (by decide)
  have F94 : Fld Z h80 ob_89 "java/lang/String" "coder" "B" (.int 0) := D85 (Or.inr (oW hw 28 rfl)) (ty := .byte) (by decide)
  have S95 : Safe Z own_EL s.vm h0 ob_89 := Safe.new (by omega)
  show own_G p e below (T79.setTop (mkF m 7 #[iv 0, iv in_16, iv in_17] [(.ref ob_89)])) _
  refine oS (fun _ => XS.dup X81.here hx rfl (hb hby dd0_7) rfl rfl) ?_
  refine oS (fun _ => XS.iconst X81.here hx rfl (hb hby dd0_8) ) ?_
  obtain ⟨T96, h97, kk_105, X99, e100, E101, A102, B106, s103⟩ := own_newP X81 hx hZ (aty := .char) (oW hw 14 rfl) e82 (nm := "[C") rfl (g := (mkF m 9 #[iv 0, iv in_16, iv in_17] [(.int 0), (.ref ob_89), (.ref ob_89)])) rfl (hb hby dd0_9) (n := 0) (rest := [(.ref ob_89), (.ref ob_89)]) rfl (by decide) (cap := 0) (by decide) (by decide) (by decide) (by decide)
  obtain ⟨ob_107, g108⟩ : ∃ z, z = h80.size := ⟨_, rfl⟩
  rw [← g108] at A102 B106 s103
  have F109 : Arv Z h97 ob_107 kk_105 .char 0 [] (.int 0) := own_newA A102 (by decide) rfl rfl
  have z110 := E101.1
  have y104 : @LT.lt Nat instLTNat ob_107 h97.size := F109.lt
  refine oS s103 ?_
  have R111 : CHr Z own_EL s.vm h0 s.vm h97 := R92.trans (CHr.ext E101 R92.1)
  show own_G p e below (T96.setTop (mkF m 11 #[iv 0, iv in_16, iv in_17] [(.ref ob_107), (.ref ob_89), (.ref ob_89)])) _
  have y150 : @LT.lt Nat instLTNat ob_89 h97.size := by omega
  have F166 : Fld Z h97 ob_89 "java/lang/String" "value" "[B" .null := Fld.ext E101 F93
  have F170 : Exa Z h97 ob_89 "java/lang/String" := Exa.ext E101 A84
  have N181 : n0 ≤ ob_89 := by omega
  have y217 : @LT.lt Nat instLTNat ob_107 h97.size := by omega
  have F228 : Fld Z h97 ob_89 "java/lang/String" "coder" "B" (.int 0) := Fld.ext E101 F94
  have O276 : Old Z n0 h80 := O0.ext E83
  have O277 : Old Z n0 h97 := O276.ext E101
  have Z278 : n0 ≤ h97.size := by omega
  have S279 := Safe.ext E83 hR.1 S95
  have S280 := Safe.ext E101 R92.1 S279
  have y281 : @LT.lt Nat instLTNat ob_89 h97.size := by omega
  obtain ⟨T282, h283, v284, L285, X286, e287, q288, hS, hZ, hown, A289, s290⟩ := own_callNW X99 hx hZ hown e100 (y := (⟨"java/lang/String", "<init>", "([C)V"⟩ : MethodName)) (b := ob_89) (sf := [ob_89]) rfl (oW hw 15 rfl) (oW hw 16 rfl) (oW hw 13 rfl) (oW hw 17 rfl) (by decide) hS (by omega) hEL R111.1 (sfS S280 sf0) (allS y281 all0) (W := 1) (own_rm8 l Z a0 hw hEL [] ob_89 ob_107 kk_105 h97 n0 Z278 O277 F109 y150 F166 F170 N181 y217 F228) (by decide) (by decide) (by decide) (by decide) (g := (mkF m 11 #[iv 0, iv in_16, iv in_17] [(.ref ob_107), (.ref ob_89), (.ref ob_89)])) rfl (by rw [hml]; rfl) (argsL := [(.ref ob_107)]) (rest := [(.ref ob_89)]) rfl (lenOf own_pd1 rfl) rfl (by show 2 * 0 + _ ≤ _; exact Nat.le_of_eq rfl) (hb hby dd0_11)
  refine oS s290 ?_
  obtain ⟨ob_291, kk_292, rfl, N293, K294, F295, F296, F297, F298, F299⟩ := q288
  have N300 := Fr.app N0 N293
  have R301 : CHr Z own_EL s.vm h0 T282.vm h283 := R111.trans A289
  have z302 := K294.1
  show own_G p e below (T282.setTop (mkF m 14 #[iv 0, iv in_16, iv in_17] [(.ref ob_89)])) _
  have y303 : @LT.lt Nat instLTNat ob_89 h283.size := by omega
  have K304 : Keep h0 h283 [] := ((((Keep.refl h0 []).ext E83).ext E101).trans K294 (allS (Or.inr (by omega)) all0))
  exact own_retAW X286 hx Bd.notSynchronized Bd.returns rfl rfl (hb hby dd0_14) hS hZ hEL hh R301 e287 (by omega) (by decide) (by decide) (⟨ob_89, ob_291, kk_292, rfl, N300, K304, (by omega), F296, F295, F297, F298, y303, F299⟩)
theorem own_pd2 : parseMethodDescriptor "(ICC)Ljava/lang/String;" = some ⟨[.int, .char, .char], (some (.object "java/lang/String"))⟩ := by decide +kernel
theorem own_ef4 (m : MethodId) (x0 : Addr) (x1 : Addr) (x2 : Addr) (x3 : Int32) : entryFrame m #[(.ref x0), (.ref x1), (.ref x2), (.int x3)] 4 = mkF m 0 #[.val (.ref x0), .val (.ref x1), .val (.ref x2), .val (.int x3)] [] := by first | (simp [entryFrame, mkF, argsToLocals, Value.category]; done) | rfl
theorem dd3_0 : decode prog_9_method_1_code 0 = .ok (.aload_n 0, 1) := by decide +kernel
theorem own_ef5 (m : MethodId) (x0 : Addr) : entryFrame m #[(.ref x0)] 1 = mkF m 0 #[.val (.ref x0)] [] := by first | (simp [entryFrame, mkF, argsToLocals, Value.category]; done) | rfl
theorem dd4_0 : decode jdk_30_method_1_code 0 = .ok (.aload_n 0, 1) := by decide +kernel
theorem dd4_1 : decode jdk_30_method_1_code 1 = .ok (.invokespecial 1, 3) := by decide +kernel
theorem dd4_4 : decode jdk_30_method_1_code 4 = .ok (.return_, 1) := by decide +kernel
def own_Q12 (Z : State) (ob_368 : Nat) (h0 : Heap) (n0 : Nat) (v : Option Value) (h : Heap) (L : List Loc) : Prop := (v = none ∧ Fr n0 L ∧ h = h0)
theorem own_pn3 : plainFor (⟨"java/lang/Record", "<init>", "()V"⟩ : MethodName) = true := by decide +kernel
set_option maxRecDepth 65536 in
set_option maxHeartbeats 40000000 in
theorem own_rm12 (l : Launch) (Z : State) (a0 : Array Value) (hw : ∀ d ∈ tables_1, d.before a0 Z = true) (ws : List Jvm.Cond) (ob_368 : Nat) (h0 : Heap) (n0 : Nat) (Z0 : n0 ≤ h0.size) (O0 : Old Z n0 h0)  :
    own_Met l Z h0 (⟨"java/lang/Record", "<init>", "()V"⟩ : MethodName) jdk_30_method_1_code 1 (Option.none : Option FieldType) ws ({ frames := 1, cells := 0, slots := 0, locals := 12 } : Room) #[(.ref ob_368)] (own_Q12 Z ob_368 h0 n0) 0 0 := by
  refine MetFree.of_bodySF own_pn3 hisR ?_
  intro p e s m args below meth c s₁ Bd hml0 hP hK
  obtain ⟨rfl, hZ, hh⟩ := hP
  have hx := Bd.exec
  have hby := Bd.bytes
  have hml : c.maxLocals = 1 := hml0
  have hown : s.vm.findClass "java/lang/Record" = some m.cls := findClass_of_methodNamed Bd.named
  have hnm := (name_of_methodNamed Bd.named Bd.method).1
  have X0 : Stand p l e ({ frames := 1, cells := 0, slots := 0, locals := 12 } : Room) s m #[(.ref ob_368)] below meth c s₁ [] 0 0 := Stand.of_body Bd
  have e0 : s₁.heap = h0 := by rw [← hh, Bd.state]; rfl
  have N0 := Fr.nil n0
  show own_G p e below (s₁.setTop (entryFrame m #[(.ref ob_368)] 1)) (own_P s (own_Q12 Z ob_368 h0 n0) 0 0)
  refine own_cast (own_ef5 m ob_368) ?_
  show own_G p e below (s₁.setTop (mkF m 0 #[rv ob_368] [])) _
  refine oS (fun _ => XS.aloadN X0.here hx rfl (hb hby dd4_0) rfl rfl) ?_
  obtain ⟨T375, X376, e377, s378⟩ := initO X0 hx hZ hown (oW hw 44 rfl) (oW hw 23 rfl) (oW hw 24 rfl) e0 (g := (mkF m 1 #[rv ob_368] [(.ref ob_368)])) rfl (by rw [hml]; rfl) rfl (hb hby dd4_1) (by decide) (W := 0) (by show 2 * 0 + _ ≤ _; exact Nat.le_of_eq rfl) (by decide)
  refine oS s378 ?_
  show own_G p e below (T375.setTop (mkF m 4 #[rv ob_368] [])) _
  exact own_retV X376 hx Bd.notSynchronized Bd.returns (hb hby dd4_4) e377 (by decide) (by decide) (⟨rfl, N0, rfl⟩)
theorem own_pd3 : parseMethodDescriptor "()V" = some ⟨[], none⟩ := by decide +kernel
theorem dd3_1 : decode prog_9_method_1_code 1 = .ok (.invokespecial 1, 3) := by decide +kernel
theorem dd3_4 : decode prog_9_method_1_code 4 = .ok (.aload_n 0, 1) := by decide +kernel
theorem dd3_5 : decode prog_9_method_1_code 5 = .ok (.aload_n 1, 1) := by decide +kernel
theorem dd3_6 : decode prog_9_method_1_code 6 = .ok (.putfield 7, 3) := by decide +kernel
theorem dd3_9 : decode prog_9_method_1_code 9 = .ok (.aload_n 0, 1) := by decide +kernel
theorem dd3_10 : decode prog_9_method_1_code 10 = .ok (.aload_n 2, 1) := by decide +kernel
theorem dd3_11 : decode prog_9_method_1_code 11 = .ok (.putfield 13, 3) := by decide +kernel
theorem dd3_14 : decode prog_9_method_1_code 14 = .ok (.aload_n 0, 1) := by decide +kernel
theorem dd3_15 : decode prog_9_method_1_code 15 = .ok (.iload_n 3, 1) := by decide +kernel
theorem dd3_16 : decode prog_9_method_1_code 16 = .ok (.putfield 17, 3) := by decide +kernel
theorem dd3_19 : decode prog_9_method_1_code 19 = .ok (.return_, 1) := by decide +kernel
def own_Q11 (Z : State) (ob_368 : Nat) (ob_9 : Nat) (ob_314 : Nat) (in_5 : Int32) (h0 : Heap) (n0 : Nat) (v : Option Value) (h : Heap) (L : List Loc) : Prop := (v = none ∧ Fr n0 L ∧ Keep h0 h [ob_368] ∧ Fld Z h ob_368 "com/example/latente/latente/query/JpqlLexer$Token" "kind" "Lcom/example/latente/latente/query/JpqlLexer$Kind;" (.ref ob_9) ∧ Fld Z h ob_368 "com/example/latente/latente/query/JpqlLexer$Token" "text" "Ljava/lang/String;" (.ref ob_314) ∧ Exa Z h ob_368 "com/example/latente/latente/query/JpqlLexer$Token" ∧ Fld Z h ob_368 "com/example/latente/latente/query/JpqlLexer$Token" "position" "I" (.int in_5))
theorem own_pn4 : plainFor (⟨"com/example/latente/latente/query/JpqlLexer$Token", "<init>", "(Lcom/example/latente/latente/query/JpqlLexer$Kind;Ljava/lang/String;I)V"⟩ : MethodName) = true := by decide +kernel
set_option maxRecDepth 65536 in
set_option maxHeartbeats 40000000 in
theorem own_rm11 (l : Launch) (Z : State) (a0 : Array Value) (hw : ∀ d ∈ tables_1, d.before a0 Z = true) (ws : List Jvm.Cond) (ob_368 : Nat) (ob_9 : Nat) (ob_314 : Nat) (in_5 : Int32) (h0 : Heap) (n0 : Nat) (Z0 : n0 ≤ h0.size) (O0 : Old Z n0 h0) (I391 : Fld Z h0 ob_368 "com/example/latente/latente/query/JpqlLexer$Token" "kind" "Lcom/example/latente/latente/query/JpqlLexer$Kind;" .null) (I392 : Exa Z h0 ob_368 "com/example/latente/latente/query/JpqlLexer$Token") (I401 : n0 ≤ ob_368) (I404 : Fld Z h0 ob_368 "com/example/latente/latente/query/JpqlLexer$Token" "text" "Ljava/lang/String;" .null) (I416 : Fld Z h0 ob_368 "com/example/latente/latente/query/JpqlLexer$Token" "position" "I" (.int 0)) :
    own_Met l Z h0 (⟨"com/example/latente/latente/query/JpqlLexer$Token", "<init>", "(Lcom/example/latente/latente/query/JpqlLexer$Kind;Ljava/lang/String;I)V"⟩ : MethodName) prog_9_method_1_code 4 (Option.none : Option FieldType) ws ({ frames := 2, cells := 0, slots := 0, locals := 24 } : Room) #[(.ref ob_368), (.ref ob_9), (.ref ob_314), (.int in_5)] (own_Q11 Z ob_368 ob_9 ob_314 in_5 h0 n0) 0 0 := by
  refine MetFree.of_bodySF own_pn4 hisR ?_
  intro p e s m args below meth c s₁ Bd hml0 hP hK
  obtain ⟨rfl, hZ, hh⟩ := hP
  have hx := Bd.exec
  have hby := Bd.bytes
  have hml : c.maxLocals = 4 := hml0
  have hown : s.vm.findClass "com/example/latente/latente/query/JpqlLexer$Token" = some m.cls := findClass_of_methodNamed Bd.named
  have hnm := (name_of_methodNamed Bd.named Bd.method).1
  have X0 : Stand p l e ({ frames := 2, cells := 0, slots := 0, locals := 24 } : Room) s m #[(.ref ob_368), (.ref ob_9), (.ref ob_314), (.int in_5)] below meth c s₁ [] 0 0 := Stand.of_body Bd
  have e0 : s₁.heap = h0 := by rw [← hh, Bd.state]; rfl
  have N0 := Fr.nil n0
  show own_G p e below (s₁.setTop (entryFrame m #[(.ref ob_368), (.ref ob_9), (.ref ob_314), (.int in_5)] 4)) (own_P s (own_Q11 Z ob_368 ob_9 ob_314 in_5 h0 n0) 0 0)
  refine own_cast (own_ef4 m ob_368 ob_9 ob_314 in_5) ?_
  show own_G p e below (s₁.setTop (mkF m 0 #[rv ob_368, rv ob_9, rv ob_314, iv in_5] [])) _
  refine oS (fun _ => XS.aloadN X0.here hx rfl (hb hby dd3_0) rfl rfl) ?_
  obtain ⟨T379, h380, v381, L382, X383, e384, q385, s386⟩ := own_callN X0 hx hZ hown e0 (y := (⟨"java/lang/Record", "<init>", "()V"⟩ : MethodName)) (b := ob_368) rfl (oW hw 39 rfl) (oW hw 40 rfl) (oW hw 42 rfl) (oW hw 43 rfl) (by decide) (W := 0) (own_rm12 l Z a0 hw [] ob_368 h0 n0 Z0 O0 ) (by decide) (by decide) (by decide) (by decide) (g := (mkF m 1 #[rv ob_368, rv ob_9, rv ob_314, iv in_5] [(.ref ob_368)])) rfl (by rw [hml]; rfl) (argsL := []) (rest := []) rfl (lenOf own_pd3 rfl) rfl (by show 2 * 0 + _ ≤ _; exact Nat.le_of_eq rfl) (hb hby dd3_1)
  refine oS s386 ?_
  obtain ⟨rfl, N387, K388⟩ := q385
  have N389 := Fr.app N0 N387
  have e390 := e384.trans K388
  show own_G p e below (T379.setTop (mkF m 4 #[rv ob_368, rv ob_9, rv ob_314, iv in_5] [])) _
  refine oS (fun _ => XS.aloadN X383.here hx rfl (hb hby dd3_4) rfl rfl) ?_
  refine oS (fun _ => XS.aloadN X383.here hx rfl (hb hby dd3_5) rfl rfl) ?_
  obtain ⟨T393, h394, X395, e396, W397, s398⟩ := putF X383 hx hZ hown (host := "") (Or.inl (oW hw 45 rfl)) Via.refl e390 I391 I392 (Or.inr ⟨(oW hw 46 rfl), rfl, hnm⟩) (oW hw 34 rfl) (ty := (.object "com/example/latente/latente/query/JpqlLexer$Kind")) (by decide) rfl rfl (g := (mkF m 6 #[rv ob_368, rv ob_9, rv ob_314, iv in_5] [(.ref ob_9), (.ref ob_368)])) rfl rfl (hb hby dd3_6)
  have N399 := Fr.snoc X395 N389 I401
  have z402 := W397.size
  have F403 : Fld Z h394 ob_368 "com/example/latente/latente/query/JpqlLexer$Token" "kind" "Lcom/example/latente/latente/query/JpqlLexer$Kind;" (.ref ob_9) := Fld.same W397 I391
  refine oS s398 ?_
  show own_G p e below (T393.setTop (mkF m 9 #[rv ob_368, rv ob_9, rv ob_314, iv in_5] [])) _
  refine oS (fun _ => XS.aloadN X395.here hx rfl (hb hby dd3_9) rfl rfl) ?_
  refine oS (fun _ => XS.aloadN X395.here hx rfl (hb hby dd3_10) rfl rfl) ?_
  have F405 : Fld Z h394 ob_368 "com/example/latente/latente/query/JpqlLexer$Token" "text" "Ljava/lang/String;" .null := Fld.other W397 I404 (Or.inr (slot_ne (C := "com/example/latente/latente/query/JpqlLexer$Token") (Or.inr (oW hw 48 rfl)) (Or.inr (oW hw 46 rfl)) (by decide) (t := (.object "java/lang/String")) (t' := (.object "com/example/latente/latente/query/JpqlLexer$Kind")) (by decide) (by decide)))
  have F406 : Exa Z h394 ob_368 "com/example/latente/latente/query/JpqlLexer$Token" := Exa.wr W397 I392
  obtain ⟨T407, h408, X409, e410, W411, s412⟩ := putF X395 hx hZ hown (host := "") (Or.inl (oW hw 47 rfl)) Via.refl e396 F405 F406 (Or.inr ⟨(oW hw 48 rfl), rfl, hnm⟩) (oW hw 34 rfl) (ty := (.object "java/lang/String")) (by decide) rfl rfl (g := (mkF m 11 #[rv ob_368, rv ob_9, rv ob_314, iv in_5] [(.ref ob_314), (.ref ob_368)])) rfl rfl (hb hby dd3_11)
  have N413 := Fr.snoc X409 N399 I401
  have z414 := W411.size
  have F415 : Fld Z h408 ob_368 "com/example/latente/latente/query/JpqlLexer$Token" "text" "Ljava/lang/String;" (.ref ob_314) := Fld.same W411 F405
  refine oS s412 ?_
  show own_G p e below (T407.setTop (mkF m 14 #[rv ob_368, rv ob_9, rv ob_314, iv in_5] [])) _
  refine oS (fun _ => XS.aloadN X409.here hx rfl (hb hby dd3_14) rfl rfl) ?_
  refine oS (fun _ => XS.iloadN X409.here hx rfl (hb hby dd3_15) rfl) ?_
  have F417 : Fld Z h394 ob_368 "com/example/latente/latente/query/JpqlLexer$Token" "position" "I" (.int 0) := Fld.other W397 I416 (Or.inr (slot_ne (C := "com/example/latente/latente/query/JpqlLexer$Token") (Or.inr (oW hw 50 rfl)) (Or.inr (oW hw 46 rfl)) (by decide) (t := .int) (t' := (.object "com/example/latente/latente/query/JpqlLexer$Kind")) (by decide) (by decide)))
  have F418 : Fld Z h408 ob_368 "com/example/latente/latente/query/JpqlLexer$Token" "position" "I" (.int 0) := Fld.other W411 F417 (Or.inr (slot_ne (C := "com/example/latente/latente/query/JpqlLexer$Token") (Or.inr (oW hw 50 rfl)) (Or.inr (oW hw 48 rfl)) (by decide) (t := .int) (t' := (.object "java/lang/String")) (by decide) (by decide)))
  have F419 : Exa Z h408 ob_368 "com/example/latente/latente/query/JpqlLexer$Token" := Exa.wr W411 F406
  obtain ⟨T420, h421, X422, e423, W424, s425⟩ := putF X409 hx hZ hown (host := "") (Or.inl (oW hw 49 rfl)) Via.refl e410 F418 F419 (Or.inr ⟨(oW hw 50 rfl), rfl, hnm⟩) (oW hw 34 rfl) (ty := .int) (by decide) rfl rfl (g := (mkF m 16 #[rv ob_368, rv ob_9, rv ob_314, iv in_5] [(.int in_5), (.ref ob_368)])) rfl rfl (hb hby dd3_16)
  have N426 := Fr.snoc X422 N413 I401
  have z427 := W424.size
  have F428 : Fld Z h421 ob_368 "com/example/latente/latente/query/JpqlLexer$Token" "position" "I" (.int in_5) := Fld.same W424 F418
  refine oS s425 ?_
  show own_G p e below (T420.setTop (mkF m 19 #[rv ob_368, rv ob_9, rv ob_314, iv in_5] [])) _
  have F429 : Fld Z h408 ob_368 "com/example/latente/latente/query/JpqlLexer$Token" "kind" "Lcom/example/latente/latente/query/JpqlLexer$Kind;" (.ref ob_9) := Fld.other W411 F403 (Or.inr (slot_ne (C := "com/example/latente/latente/query/JpqlLexer$Token") (Or.inr (oW hw 46 rfl)) (Or.inr (oW hw 48 rfl)) (by decide) (t := (.object "com/example/latente/latente/query/JpqlLexer$Kind")) (t' := (.object "java/lang/String")) (by decide) (by decide)))
  have F430 : Fld Z h421 ob_368 "com/example/latente/latente/query/JpqlLexer$Token" "kind" "Lcom/example/latente/latente/query/JpqlLexer$Kind;" (.ref ob_9) := Fld.other W424 F429 (Or.inr (slot_ne (C := "com/example/latente/latente/query/JpqlLexer$Token") (Or.inr (oW hw 46 rfl)) (Or.inr (oW hw 50 rfl)) (by decide) (t := (.object "com/example/latente/latente/query/JpqlLexer$Kind")) (t' := .int) (by decide) (by decide)))
  have F431 : Fld Z h421 ob_368 "com/example/latente/latente/query/JpqlLexer$Token" "text" "Ljava/lang/String;" (.ref ob_314) := Fld.other W424 F415 (Or.inr (slot_ne (C := "com/example/latente/latente/query/JpqlLexer$Token") (Or.inr (oW hw 48 rfl)) (Or.inr (oW hw 50 rfl)) (by decide) (t := (.object "java/lang/String")) (t' := .int) (by decide) (by decide)))
  have F432 : Exa Z h421 ob_368 "com/example/latente/latente/query/JpqlLexer$Token" := Exa.wr W424 F419
  have K433 : Keep h0 h421 [ob_368] := ((((Keep.refl h0 [ob_368]).wr W397 (Or.inl (by simp))).wr W411 (Or.inl (by simp))).wr W424 (Or.inl (by simp)))
  exact own_retV X422 hx Bd.notSynchronized Bd.returns (hb hby dd3_19) e423 (by decide) (by decide) (⟨rfl, N426, K433, F430, F431, F432, F428⟩)
theorem own_pd4 : parseMethodDescriptor "(Lcom/example/latente/latente/query/JpqlLexer$Kind;Ljava/lang/String;I)V" = some ⟨[(.object "com/example/latente/latente/query/JpqlLexer$Kind"), (.object "java/lang/String"), .int], none⟩ := by decide +kernel
theorem dd5_0 : decode prog_9_method_3_code 0 = .ok (.aload_n 0, 1) := by decide +kernel
theorem dd5_1 : decode prog_9_method_3_code 1 = .ok (.getfield 7, 3) := by decide +kernel
theorem dd5_4 : decode prog_9_method_3_code 4 = .ok (.getstatic 32, 3) := by decide +kernel
theorem dd5_7 : decode prog_9_method_3_code 7 = .ok (.if_acmp .ne 18, 3) := by decide +kernel
theorem dd5_10 : decode prog_9_method_3_code 10 = .ok (.aload_n 0, 1) := by decide +kernel
theorem dd5_11 : decode prog_9_method_3_code 11 = .ok (.getfield 13, 3) := by decide +kernel
theorem dd5_14 : decode prog_9_method_3_code 14 = .ok (.aload_n 1, 1) := by decide +kernel
theorem own_ef6 (m : MethodId) (x0 : Addr) (x1 : Addr) : entryFrame m #[(.ref x0), (.ref x1)] 3 = mkF m 0 #[.val (.ref x0), .val (.ref x1), .unset] [] := by first | (simp [entryFrame, mkF, argsToLocals, Value.category]; done) | rfl
theorem dd6_0 : decode jdk_42_method_66_code 0 = .ok (.aload_n 0, 1) := by decide +kernel
theorem dd6_1 : decode jdk_42_method_66_code 1 = .ok (.aload_n 1, 1) := by decide +kernel
theorem dd6_2 : decode jdk_42_method_66_code 2 = .ok (.if_acmp .ne 5, 3) := by decide +kernel
theorem dd6_7 : decode jdk_42_method_66_code 7 = .ok (.aload_n 1, 1) := by decide +kernel
theorem dd6_8 : decode jdk_42_method_66_code 8 = .ok (.instanceof 10, 3) := by decide +kernel
theorem dd6_11 : decode jdk_42_method_66_code 11 = .ok (.ifCond .eq 43, 3) := by decide +kernel
theorem dd6_14 : decode jdk_42_method_66_code 14 = .ok (.aload_n 1, 1) := by decide +kernel
theorem dd6_15 : decode jdk_42_method_66_code 15 = .ok (.checkcast 10, 3) := by decide +kernel
theorem dd6_18 : decode jdk_42_method_66_code 18 = .ok (.astore_n 2, 1) := by decide +kernel
theorem dd6_19 : decode jdk_42_method_66_code 19 = .ok (.getstatic 38, 3) := by decide +kernel
theorem dd6_22 : decode jdk_42_method_66_code 22 = .ok (.ifCond .eq 14, 3) := by decide +kernel
theorem dd6_25 : decode jdk_42_method_66_code 25 = .ok (.aload_n 0, 1) := by decide +kernel
theorem dd6_26 : decode jdk_42_method_66_code 26 = .ok (.getfield 15, 3) := by decide +kernel
theorem dd6_29 : decode jdk_42_method_66_code 29 = .ok (.aload_n 2, 1) := by decide +kernel
theorem dd6_30 : decode jdk_42_method_66_code 30 = .ok (.getfield 15, 3) := by decide +kernel
theorem dd6_33 : decode jdk_42_method_66_code 33 = .ok (.if_icmp .ne 21, 3) := by decide +kernel
theorem dd6_36 : decode jdk_42_method_66_code 36 = .ok (.aload_n 0, 1) := by decide +kernel
theorem dd6_37 : decode jdk_42_method_66_code 37 = .ok (.getfield 9, 3) := by decide +kernel
theorem dd6_40 : decode jdk_42_method_66_code 40 = .ok (.aload_n 2, 1) := by decide +kernel
theorem dd6_41 : decode jdk_42_method_66_code 41 = .ok (.getfield 9, 3) := by decide +kernel
theorem dd7_0 : decode jdk_43_method_13_code 0 = .ok (.aload_n 0, 1) := by decide +kernel
theorem dd7_1 : decode jdk_43_method_13_code 1 = .ok (.arraylength, 1) := by decide +kernel
theorem dd7_2 : decode jdk_43_method_13_code 2 = .ok (.aload_n 1, 1) := by decide +kernel
theorem dd7_3 : decode jdk_43_method_13_code 3 = .ok (.arraylength, 1) := by decide +kernel
theorem dd7_4 : decode jdk_43_method_13_code 4 = .ok (.if_icmp .ne 30, 3) := by decide +kernel
theorem dd7_7 : decode jdk_43_method_13_code 7 = .ok (.iconst 0, 1) := by decide +kernel
theorem dd7_8 : decode jdk_43_method_13_code 8 = .ok (.istore_n 2, 1) := by decide +kernel
theorem dd7_9 : decode jdk_43_method_13_code 9 = .ok (.iload_n 2, 1) := by decide +kernel
theorem dd7_10 : decode jdk_43_method_13_code 10 = .ok (.aload_n 0, 1) := by decide +kernel
theorem dd7_11 : decode jdk_43_method_13_code 11 = .ok (.arraylength, 1) := by decide +kernel
theorem dd7_12 : decode jdk_43_method_13_code 12 = .ok (.if_icmp .ge 20, 3) := by decide +kernel
theorem dd7_32 : decode jdk_43_method_13_code 32 = .ok (.iconst 1, 1) := by decide +kernel
theorem dd7_33 : decode jdk_43_method_13_code 33 = .ok (.ireturn, 1) := by decide +kernel
def own_Q15 (Z : State) (ob_315 : Nat) (ob_344 : Nat) (kk_316 : ClassId) (kk_345 : ClassId) (h0 : Heap) (n0 : Nat) (v : Option Value) (h : Heap) (L : List Loc) : Prop := (v = some (.int 1) ∧ Fr n0 L ∧ h = h0)
theorem own_pn5 : plainFor (⟨"java/lang/StringLatin1", "equals", "([B[B)Z"⟩ : MethodName) = true := by decide +kernel
set_option maxRecDepth 65536 in
set_option maxHeartbeats 40000000 in
theorem own_rm15 (l : Launch) (Z : State) (a0 : Array Value) (hw : ∀ d ∈ tables_1, d.before a0 Z = true) (ws : List Jvm.Cond) (ob_315 : Nat) (ob_344 : Nat) (kk_316 : ClassId) (kk_345 : ClassId) (h0 : Heap) (n0 : Nat) (Z0 : n0 ≤ h0.size) (O0 : Old Z n0 h0) (I540 : Arv Z h0 ob_315 kk_316 .byte 0 [] (.int 0)) (I546 : Arv Z h0 ob_344 kk_345 .byte 0 [] (.int 0)) :
    own_Met l Z h0 (⟨"java/lang/StringLatin1", "equals", "([B[B)Z"⟩ : MethodName) jdk_43_method_13_code 3 (Option.some FieldType.boolean) ws ({ frames := 0, cells := 0, slots := 0, locals := 0 } : Room) #[(.ref ob_315), (.ref ob_344)] (own_Q15 Z ob_315 ob_344 kk_316 kk_345 h0 n0) 0 0 := by
  refine MetFree.of_bodySF own_pn5 hisR ?_
  intro p e s m args below meth c s₁ Bd hml0 hP hK
  obtain ⟨rfl, hZ, hh⟩ := hP
  have hx := Bd.exec
  have hby := Bd.bytes
  have hml : c.maxLocals = 3 := hml0
  have hown : s.vm.findClass "java/lang/StringLatin1" = some m.cls := findClass_of_methodNamed Bd.named
  have hnm := (name_of_methodNamed Bd.named Bd.method).1
  have X0 : Stand p l e ({ frames := 0, cells := 0, slots := 0, locals := 0 } : Room) s m #[(.ref ob_315), (.ref ob_344)] below meth c s₁ [] 0 0 := Stand.of_body Bd
  have e0 : s₁.heap = h0 := by rw [← hh, Bd.state]; rfl
  have N0 := Fr.nil n0
  show own_G p e below (s₁.setTop (entryFrame m #[(.ref ob_315), (.ref ob_344)] 3)) (own_P s (own_Q15 Z ob_315 ob_344 kk_316 kk_345 h0 n0) 0 0)
  refine own_cast (own_ef6 m ob_315 ob_344) ?_
  show own_G p e below (s₁.setTop (mkF m 0 #[rv ob_315, rv ob_344, .unset] [])) _
  refine oS (fun _ => XS.aloadN X0.here hx rfl (hb hby dd7_0) rfl rfl) ?_
  refine oS (own_len X0 hx hZ e0 I540 rfl rfl (hb hby dd7_1)) ?_
  show own_G p e below (s₁.setTop (mkF m 2 #[rv ob_315, rv ob_344, .unset] [(.int 0)])) _
  refine oS (fun _ => XS.aloadN X0.here hx rfl (hb hby dd7_2) rfl rfl) ?_
  refine oS (own_len X0 hx hZ e0 I546 rfl rfl (hb hby dd7_3)) ?_
  show own_G p e below (s₁.setTop (mkF m 4 #[rv ob_315, rv ob_344, .unset] [(.int 0), (.int 0)])) _
  refine oS (fun _ => XS.icmpNo X0.here hx rfl (hb hby dd7_4) rfl (XT.ii_ne_f (by decide))) ?_
  show own_G p e below (s₁.setTop (mkF m 7 #[rv ob_315, rv ob_344, .unset] [])) _
  refine oS (fun _ => XS.iconst X0.here hx rfl (hb hby dd7_7) ) ?_
  refine oS (fun _ => XS.istoreN X0.here hx rfl (hb hby dd7_8) rfl (l' := #[rv ob_315, rv ob_344, iv 0]) rfl) ?_
  refine oS (fun _ => XS.iloadN X0.here hx rfl (hb hby dd7_9) rfl) ?_
  refine oS (fun _ => XS.aloadN X0.here hx rfl (hb hby dd7_10) rfl rfl) ?_
  show own_G p e below (s₁.setTop (mkF m 11 #[rv ob_315, rv ob_344, iv 0] [(.ref ob_315), (.int 0)])) _
  refine oS (own_len X0 hx hZ e0 I540 rfl rfl (hb hby dd7_11)) ?_
  show own_G p e below (s₁.setTop (mkF m 12 #[rv ob_315, rv ob_344, iv 0] [(.int 0), (.int 0)])) _
  refine oS (fun _ => XS.icmpYes X0.here hx rfl (pc0 := 12) (pc' := 32) rfl (hb hby dd7_12) rfl (XT.ii_ge_t (by decide)) (by decide) (by decide)) ?_
  show own_G p e below (s₁.setTop (mkF m 32 #[rv ob_315, rv ob_344, iv 0] [])) _
  refine oS (fun _ => XS.iconst X0.here hx rfl (hb hby dd7_32) ) ?_
  exact own_retN X0 hx (t := .boolean) Bd.notSynchronized Bd.returns (by simp) (hb hby dd7_33) (by decide) e0 (by decide) (by decide) (⟨rfl, N0, rfl⟩)
theorem own_pd5 : parseMethodDescriptor "([B[B)Z" = some ⟨[(.array .byte), (.array .byte)], (some .boolean)⟩ := by decide +kernel
theorem dd6_44 : decode jdk_42_method_66_code 44 = .ok (.invokestatic 541, 3) := by decide +kernel
theorem dd6_47 : decode jdk_42_method_66_code 47 = .ok (.ifCond .eq 7, 3) := by decide +kernel
theorem dd6_50 : decode jdk_42_method_66_code 50 = .ok (.iconst 1, 1) := by decide +kernel
theorem dd6_51 : decode jdk_42_method_66_code 51 = .ok (.goto 4, 3) := by decide +kernel
theorem dd6_55 : decode jdk_42_method_66_code 55 = .ok (.ireturn, 1) := by decide +kernel
def own_Q14 (Z : State) (ob_314 : Nat) (ob_343 : Nat) (in_6 : Int32) (ob_315 : Nat) (ob_344 : Nat) (kk_316 : ClassId) (kk_345 : ClassId) (h0 : Heap) (n0 : Nat) (v : Option Value) (h : Heap) (L : List Loc) : Prop := (v = some (.int 1) ∧ Fr n0 L ∧ h = h0)
theorem own_pn6 : plainFor (⟨"java/lang/String", "equals", "(Ljava/lang/Object;)Z"⟩ : MethodName) = true := by decide +kernel
set_option maxRecDepth 65536 in
set_option maxHeartbeats 40000000 in
theorem own_rm14 (l : Launch) (Z : State) (a0 : Array Value) (hw : ∀ d ∈ tables_1, d.before a0 Z = true) (ws : List Jvm.Cond) (ob_314 : Nat) (ob_343 : Nat) (in_6 : Int32) (ob_315 : Nat) (ob_344 : Nat) (kk_316 : ClassId) (kk_345 : ClassId) (h0 : Heap) (n0 : Nat) (Z0 : n0 ≤ h0.size) (O0 : Old Z n0 h0) (I474 : @Ne Nat ob_314 ob_343) (I482 : Exa Z h0 ob_343 "java/lang/String") (I489 : Sta Z Z.heap "java/lang/String" "COMPACT_STRINGS" "Z" (.int in_6)) (I497 : ¬ (in_6 = 0)) (I503 : Fld Z h0 ob_314 "java/lang/String" "coder" "B" (.int 0)) (I512 : Fld Z h0 ob_343 "java/lang/String" "coder" "B" (.int 0)) (I521 : Fld Z h0 ob_314 "java/lang/String" "value" "[B" (.ref ob_315)) (I529 : Fld Z h0 ob_343 "java/lang/String" "value" "[B" (.ref ob_344)) (I539 : Arv Z h0 ob_315 kk_316 .byte 0 [] (.int 0)) (I545 : Arv Z h0 ob_344 kk_345 .byte 0 [] (.int 0)) :
    own_Met l Z h0 (⟨"java/lang/String", "equals", "(Ljava/lang/Object;)Z"⟩ : MethodName) jdk_42_method_66_code 3 (Option.some FieldType.boolean) ws ({ frames := 1, cells := 0, slots := 0, locals := 14 } : Room) #[(.ref ob_314), (.ref ob_343)] (own_Q14 Z ob_314 ob_343 in_6 ob_315 ob_344 kk_316 kk_345 h0 n0) 0 0 := by
  refine MetFree.of_bodySF own_pn6 hisR ?_
  intro p e s m args below meth c s₁ Bd hml0 hP hK
  obtain ⟨rfl, hZ, hh⟩ := hP
  have hx := Bd.exec
  have hby := Bd.bytes
  have hml : c.maxLocals = 3 := hml0
  have hown : s.vm.findClass "java/lang/String" = some m.cls := findClass_of_methodNamed Bd.named
  have hnm := (name_of_methodNamed Bd.named Bd.method).1
  have X0 : Stand p l e ({ frames := 1, cells := 0, slots := 0, locals := 14 } : Room) s m #[(.ref ob_314), (.ref ob_343)] below meth c s₁ [] 0 0 := Stand.of_body Bd
  have e0 : s₁.heap = h0 := by rw [← hh, Bd.state]; rfl
  have N0 := Fr.nil n0
  show own_G p e below (s₁.setTop (entryFrame m #[(.ref ob_314), (.ref ob_343)] 3)) (own_P s (own_Q14 Z ob_314 ob_343 in_6 ob_315 ob_344 kk_316 kk_345 h0 n0) 0 0)
  refine own_cast (own_ef6 m ob_314 ob_343) ?_
  show own_G p e below (s₁.setTop (mkF m 0 #[rv ob_314, rv ob_343, .unset] [])) _
  refine oS (fun _ => XS.aloadN X0.here hx rfl (hb hby dd6_0) rfl rfl) ?_
  refine oS (fun _ => XS.aloadN X0.here hx rfl (hb hby dd6_1) rfl rfl) ?_
  refine oS (fun _ => XT.acmpYes X0.here hx rfl (pc0 := 2) (pc' := 7) rfl (hb hby dd6_2) rfl rfl rfl (XT.aa_ne_t (own_rne I474)) (by decide) (by decide)) ?_
  show own_G p e below (s₁.setTop (mkF m 7 #[rv ob_314, rv ob_343, .unset] [])) _
  refine oS (fun _ => XS.aloadN X0.here hx rfl (hb hby dd6_7) rfl rfl) ?_
  obtain ⟨T475, X476, e477, s478⟩ := instY X0 hx hZ hown (oW hw 66 rfl) e0 (Ins.self I482) (g := (mkF m 8 #[rv ob_314, rv ob_343, .unset] [(.ref ob_343)])) rfl rfl (hb hby dd6_8)
  refine oS s478 ?_
  show own_G p e below (T475.setTop (mkF m 11 #[rv ob_314, rv ob_343, .unset] [(.int 1)])) _
  refine oS (fun _ => XS.ifNo X476.here hx rfl (hb hby dd6_11) rfl (XT.i0_eq_f (by decide))) ?_
  show own_G p e below (T475.setTop (mkF m 14 #[rv ob_314, rv ob_343, .unset] [])) _
  refine oS (fun _ => XS.aloadN X476.here hx rfl (hb hby dd6_14) rfl rfl) ?_
  obtain ⟨T483, X484, e485, s486⟩ := castY X476 hx hZ hown (oW hw 66 rfl) e477 (Ins.self I482) (g := (mkF m 15 #[rv ob_314, rv ob_343, .unset] [(.ref ob_343)])) rfl rfl (hb hby dd6_15)
  refine oS s486 ?_
  show own_G p e below (T483.setTop (mkF m 18 #[rv ob_314, rv ob_343, .unset] [(.ref ob_343)])) _
  refine oS (fun _ => XS.astoreN X484.here hx rfl (hb hby dd6_18) rfl rfl (l' := #[rv ob_314, rv ob_343, rv ob_343]) rfl) ?_
  have F490 : Sta Z h0 "java/lang/String" "COMPACT_STRINGS" "Z" (.int in_6) := Sta.ext O0.2 I489
  obtain ⟨T491, X492, e493, s494⟩ := getS X484 hx hZ hown (host := "") (oW hw 67 rfl) Via.refl e485 F490 (g := (mkF m 19 #[rv ob_314, rv ob_343, rv ob_343] [])) rfl (hb hby dd6_19)
  refine oS s494 ?_
  show own_G p e below (T491.setTop (mkF m 22 #[rv ob_314, rv ob_343, rv ob_343] [(.int in_6)])) _
  refine oS (fun _ => XS.ifNo X492.here hx rfl (hb hby dd6_22) rfl (XT.i0_eq_f I497)) ?_
  show own_G p e below (T491.setTop (mkF m 25 #[rv ob_314, rv ob_343, rv ob_343] [])) _
  refine oS (fun _ => XS.aloadN X492.here hx rfl (hb hby dd6_25) rfl rfl) ?_
  obtain ⟨T504, X505, e506, s507⟩ := getF X492 hx hZ hown (host := "") (Or.inl (oW hw 32 rfl)) Via.refl e493 I503 (g := (mkF m 26 #[rv ob_314, rv ob_343, rv ob_343] [(.ref ob_314)])) rfl rfl (hb hby dd6_26)
  refine oS s507 ?_
  show own_G p e below (T504.setTop (mkF m 29 #[rv ob_314, rv ob_343, rv ob_343] [(.int 0)])) _
  refine oS (fun _ => XS.aloadN X505.here hx rfl (hb hby dd6_29) rfl rfl) ?_
  obtain ⟨T513, X514, e515, s516⟩ := getF X505 hx hZ hown (host := "") (Or.inl (oW hw 32 rfl)) Via.refl e506 I512 (g := (mkF m 30 #[rv ob_314, rv ob_343, rv ob_343] [(.ref ob_343), (.int 0)])) rfl rfl (hb hby dd6_30)
  refine oS s516 ?_
  show own_G p e below (T513.setTop (mkF m 33 #[rv ob_314, rv ob_343, rv ob_343] [(.int 0), (.int 0)])) _
  refine oS (fun _ => XS.icmpNo X514.here hx rfl (hb hby dd6_33) rfl (XT.ii_ne_f (by decide))) ?_
  show own_G p e below (T513.setTop (mkF m 36 #[rv ob_314, rv ob_343, rv ob_343] [])) _
  refine oS (fun _ => XS.aloadN X514.here hx rfl (hb hby dd6_36) rfl rfl) ?_
  obtain ⟨T522, X523, e524, s525⟩ := getF X514 hx hZ hown (host := "") (Or.inl (oW hw 31 rfl)) Via.refl e515 I521 (g := (mkF m 37 #[rv ob_314, rv ob_343, rv ob_343] [(.ref ob_314)])) rfl rfl (hb hby dd6_37)
  refine oS s525 ?_
  show own_G p e below (T522.setTop (mkF m 40 #[rv ob_314, rv ob_343, rv ob_343] [(.ref ob_315)])) _
  refine oS (fun _ => XS.aloadN X523.here hx rfl (hb hby dd6_40) rfl rfl) ?_
  obtain ⟨T530, X531, e532, s533⟩ := getF X523 hx hZ hown (host := "") (Or.inl (oW hw 31 rfl)) Via.refl e524 I529 (g := (mkF m 41 #[rv ob_314, rv ob_343, rv ob_343] [(.ref ob_343), (.ref ob_315)])) rfl rfl (hb hby dd6_41)
  refine oS s533 ?_
  show own_G p e below (T530.setTop (mkF m 44 #[rv ob_314, rv ob_343, rv ob_343] [(.ref ob_344), (.ref ob_315)])) _
  obtain ⟨T547, h548, v549, L550, X551, e552, q553, s554⟩ := own_callS X531 hx hZ hown e532 (y := (⟨"java/lang/StringLatin1", "equals", "([B[B)Z"⟩ : MethodName)) (oW hw 68 rfl) (oW hw 69 rfl) (oW hw 70 rfl) (oW hw 71 rfl) (by decide) (W := 0) (own_rm15 l Z a0 hw [] ob_315 ob_344 kk_316 kk_345 h0 n0 Z0 O0 I539 I545) (by decide) (by decide) (by decide) (by decide) (g := (mkF m 44 #[rv ob_314, rv ob_343, rv ob_343] [(.ref ob_344), (.ref ob_315)])) rfl (by rw [hml]; rfl) (argsL := [(.ref ob_315), (.ref ob_344)]) (rest := []) rfl (lenOf own_pd5 rfl) rfl (by show 2 * 0 + _ ≤ _; exact Nat.le_of_eq rfl) (hb hby dd6_44)
  refine oS s554 ?_
  obtain ⟨rfl, N555, K556⟩ := q553
  have N557 := Fr.app N0 N555
  have e558 := e552.trans K556
  show own_G p e below (T547.setTop (mkF m 47 #[rv ob_314, rv ob_343, rv ob_343] [(.int 1)])) _
  refine oS (fun _ => XS.ifNo X551.here hx rfl (hb hby dd6_47) rfl (XT.i0_eq_f (by decide))) ?_
  show own_G p e below (T547.setTop (mkF m 50 #[rv ob_314, rv ob_343, rv ob_343] [])) _
  refine oS (fun _ => XS.iconst X551.here hx rfl (hb hby dd6_50) ) ?_
  refine oS (fun _ => XS.goto X551.here hx rfl (pc0 := 51) (pc' := 55) rfl (hb hby dd6_51) (by decide) (by decide)) ?_
  show own_G p e below (T547.setTop (mkF m 55 #[rv ob_314, rv ob_343, rv ob_343] [(.int 1)])) _
  exact own_retN X551 hx (t := .boolean) Bd.notSynchronized Bd.returns (by simp) (hb hby dd6_55) (by decide) e558 (by decide) (by decide) (⟨rfl, N557, rfl⟩)
theorem own_pd6 : parseMethodDescriptor "(Ljava/lang/Object;)Z" = some ⟨[(.object "java/lang/Object")], (some .boolean)⟩ := by decide +kernel
theorem dd5_15 : decode prog_9_method_3_code 15 = .ok (.invokevirtual 35, 3) := by decide +kernel
theorem dd5_18 : decode prog_9_method_3_code 18 = .ok (.ifCond .eq 7, 3) := by decide +kernel
theorem dd5_21 : decode prog_9_method_3_code 21 = .ok (.iconst 1, 1) := by decide +kernel
theorem dd5_22 : decode prog_9_method_3_code 22 = .ok (.goto 4, 3) := by decide +kernel
theorem dd5_26 : decode prog_9_method_3_code 26 = .ok (.ireturn, 1) := by decide +kernel
def own_Q13 (Z : State) (ob_368 : Nat) (ob_343 : Nat) (ob_9 : Nat) (ob_314 : Nat) (in_6 : Int32) (ob_315 : Nat) (ob_344 : Nat) (kk_316 : ClassId) (kk_345 : ClassId) (h0 : Heap) (n0 : Nat) (v : Option Value) (h : Heap) (L : List Loc) : Prop := (v = some (.int 1) ∧ Fr n0 L ∧ h = h0)
theorem own_pn7 : plainFor (⟨"com/example/latente/latente/query/JpqlLexer$Token", "isSymbol", "(Ljava/lang/String;)Z"⟩ : MethodName) = true := by decide +kernel
set_option maxRecDepth 65536 in
set_option maxHeartbeats 40000000 in
theorem own_rm13 (l : Launch) (Z : State) (a0 : Array Value) (hw : ∀ d ∈ tables_1, d.before a0 Z = true) (ws : List Jvm.Cond) (ob_368 : Nat) (ob_343 : Nat) (ob_9 : Nat) (ob_314 : Nat) (in_6 : Int32) (ob_315 : Nat) (ob_344 : Nat) (kk_316 : ClassId) (kk_345 : ClassId) (h0 : Heap) (n0 : Nat) (Z0 : n0 ≤ h0.size) (O0 : Old Z n0 h0) (I455 : Fld Z h0 ob_368 "com/example/latente/latente/query/JpqlLexer$Token" "kind" "Lcom/example/latente/latente/query/JpqlLexer$Kind;" (.ref ob_9)) (I461 : Sta Z Z.heap "com/example/latente/latente/query/JpqlLexer$Kind" "SYMBOL" "Lcom/example/latente/latente/query/JpqlLexer$Kind;" (.ref ob_9)) (I467 : Fld Z h0 ob_368 "com/example/latente/latente/query/JpqlLexer$Token" "text" "Ljava/lang/String;" (.ref ob_314)) (I473 : @Ne Nat ob_314 ob_343) (I481 : Exa Z h0 ob_343 "java/lang/String") (I488 : Sta Z Z.heap "java/lang/String" "COMPACT_STRINGS" "Z" (.int in_6)) (I496 : ¬ (in_6 = 0)) (I502 : Fld Z h0 ob_314 "java/lang/String" "coder" "B" (.int 0)) (I511 : Fld Z h0 ob_343 "java/lang/String" "coder" "B" (.int 0)) (I520 : Fld Z h0 ob_314 "java/lang/String" "value" "[B" (.ref ob_315)) (I528 : Fld Z h0 ob_343 "java/lang/String" "value" "[B" (.ref ob_344)) (I538 : Arv Z h0 ob_315 kk_316 .byte 0 [] (.int 0)) (I544 : Arv Z h0 ob_344 kk_345 .byte 0 [] (.int 0)) (I570 : Exa Z h0 ob_314 "java/lang/String") :
    own_Met l Z h0 (⟨"com/example/latente/latente/query/JpqlLexer$Token", "isSymbol", "(Ljava/lang/String;)Z"⟩ : MethodName) prog_9_method_3_code 2 (Option.some FieldType.boolean) ws ({ frames := 2, cells := 0, slots := 0, locals := 28 } : Room) #[(.ref ob_368), (.ref ob_343)] (own_Q13 Z ob_368 ob_343 ob_9 ob_314 in_6 ob_315 ob_344 kk_316 kk_345 h0 n0) 0 0 := by
  refine MetFree.of_bodySF own_pn7 hisR ?_
  intro p e s m args below meth c s₁ Bd hml0 hP hK
  obtain ⟨rfl, hZ, hh⟩ := hP
  have hx := Bd.exec
  have hby := Bd.bytes
  have hml : c.maxLocals = 2 := hml0
  have hown : s.vm.findClass "com/example/latente/latente/query/JpqlLexer$Token" = some m.cls := findClass_of_methodNamed Bd.named
  have hnm := (name_of_methodNamed Bd.named Bd.method).1
  have X0 : Stand p l e ({ frames := 2, cells := 0, slots := 0, locals := 28 } : Room) s m #[(.ref ob_368), (.ref ob_343)] below meth c s₁ [] 0 0 := Stand.of_body Bd
  have e0 : s₁.heap = h0 := by rw [← hh, Bd.state]; rfl
  have N0 := Fr.nil n0
  show own_G p e below (s₁.setTop (entryFrame m #[(.ref ob_368), (.ref ob_343)] 2)) (own_P s (own_Q13 Z ob_368 ob_343 ob_9 ob_314 in_6 ob_315 ob_344 kk_316 kk_345 h0 n0) 0 0)
  refine own_cast (own_ef2 m ob_368 ob_343) ?_
  show own_G p e below (s₁.setTop (mkF m 0 #[rv ob_368, rv ob_343] [])) _
  refine oS (fun _ => XS.aloadN X0.here hx rfl (hb hby dd5_0) rfl rfl) ?_
  obtain ⟨T456, X457, e458, s459⟩ := getF X0 hx hZ hown (host := "") (Or.inl (oW hw 45 rfl)) Via.refl e0 I455 (g := (mkF m 1 #[rv ob_368, rv ob_343] [(.ref ob_368)])) rfl rfl (hb hby dd5_1)
  refine oS s459 ?_
  show own_G p e below (T456.setTop (mkF m 4 #[rv ob_368, rv ob_343] [(.ref ob_9)])) _
  have F462 : Sta Z h0 "com/example/latente/latente/query/JpqlLexer$Kind" "SYMBOL" "Lcom/example/latente/latente/query/JpqlLexer$Kind;" (.ref ob_9) := Sta.ext O0.2 I461
  obtain ⟨T463, X464, e465, s466⟩ := getS X457 hx hZ hown (host := "") (oW hw 56 rfl) Via.refl e458 F462 (g := (mkF m 4 #[rv ob_368, rv ob_343] [(.ref ob_9)])) rfl (hb hby dd5_4)
  refine oS s466 ?_
  show own_G p e below (T463.setTop (mkF m 7 #[rv ob_368, rv ob_343] [(.ref ob_9), (.ref ob_9)])) _
  refine oS (fun _ => XT.acmpNo X464.here hx rfl (hb hby dd5_7) rfl rfl rfl (XT.aa_ne_f rfl)) ?_
  show own_G p e below (T463.setTop (mkF m 10 #[rv ob_368, rv ob_343] [])) _
  refine oS (fun _ => XS.aloadN X464.here hx rfl (hb hby dd5_10) rfl rfl) ?_
  obtain ⟨T468, X469, e470, s471⟩ := getF X464 hx hZ hown (host := "") (Or.inl (oW hw 47 rfl)) Via.refl e465 I467 (g := (mkF m 11 #[rv ob_368, rv ob_343] [(.ref ob_368)])) rfl rfl (hb hby dd5_11)
  refine oS s471 ?_
  show own_G p e below (T468.setTop (mkF m 14 #[rv ob_368, rv ob_343] [(.ref ob_314)])) _
  refine oS (fun _ => XS.aloadN X469.here hx rfl (hb hby dd5_14) rfl rfl) ?_
  obtain ⟨T559, h560, v561, L562, X563, e564, q565, s566⟩ := own_callV X469 hx hZ hown e470 (y := (⟨"java/lang/String", "equals", "(Ljava/lang/Object;)Z"⟩ : MethodName)) (z := (⟨"java/lang/String", "equals", "(Ljava/lang/Object;)Z"⟩ : MethodName)) (C := "java/lang/String") (b := ob_314) (oW hw 61 rfl) (oW hw 62 rfl) (notFace_of_selects (args := #[]) (mvT hZ (oW hw 64 rfl))) (oW hw 64 rfl) (oW hw 63 rfl) (oW hw 13 rfl) (oW hw 65 rfl) (by decide) I570 (W := 0) (own_rm14 l Z a0 hw [] ob_314 ob_343 in_6 ob_315 ob_344 kk_316 kk_345 h0 n0 Z0 O0 I473 I481 I488 I496 I502 I511 I520 I528 I538 I544) (by decide) (by decide) (by decide) (by decide) (g := (mkF m 15 #[rv ob_368, rv ob_343] [(.ref ob_343), (.ref ob_314)])) rfl (by rw [hml]; rfl) (argsL := [(.ref ob_343)]) (rest := []) rfl (lenOf own_pd6 rfl) rfl (by show 2 * 0 + _ ≤ _; exact Nat.le_of_eq rfl) (hb hby dd5_15)
  refine oS s566 ?_
  obtain ⟨rfl, N571, K572⟩ := q565
  have N573 := Fr.app N0 N571
  have e574 := e564.trans K572
  show own_G p e below (T559.setTop (mkF m 18 #[rv ob_368, rv ob_343] [(.int 1)])) _
  refine oS (fun _ => XS.ifNo X563.here hx rfl (hb hby dd5_18) rfl (XT.i0_eq_f (by decide))) ?_
  show own_G p e below (T559.setTop (mkF m 21 #[rv ob_368, rv ob_343] [])) _
  refine oS (fun _ => XS.iconst X563.here hx rfl (hb hby dd5_21) ) ?_
  refine oS (fun _ => XS.goto X563.here hx rfl (pc0 := 22) (pc' := 26) rfl (hb hby dd5_22) (by decide) (by decide)) ?_
  show own_G p e below (T559.setTop (mkF m 26 #[rv ob_368, rv ob_343] [(.int 1)])) _
  exact own_retN X563 hx (t := .boolean) Bd.notSynchronized Bd.returns (by simp) (hb hby dd5_26) (by decide) e574 (by decide) (by decide) (⟨rfl, N573, rfl⟩)
theorem own_pd7 : parseMethodDescriptor "(Ljava/lang/String;)Z" = some ⟨[(.object "java/lang/String")], (some .boolean)⟩ := by decide +kernel
theorem dd0_15 : decode method_3_code 15 = .ok (.iload_n 0, 1) := by decide +kernel
theorem dd0_16 : decode method_3_code 16 = .ok (.iconst 1, 1) := by decide +kernel
theorem dd0_17 : decode method_3_code 17 = .ok (.if_icmp .ne 8, 3) := by decide +kernel
theorem dd0_20 : decode method_3_code 20 = .ok (.iload_n 1, 1) := by decide +kernel
theorem own_ef7 (m : MethodId) (x0 : Int32) : entryFrame m #[(.int x0)] 1 = mkF m 0 #[.val (.int x0)] [] := by first | (simp [entryFrame, mkF, argsToLocals, Value.category]; done) | rfl
theorem dd8_0 : decode jdk_42_method_139_code 0 = .ok (.getstatic 38, 3) := by decide +kernel
theorem dd8_3 : decode jdk_42_method_139_code 3 = .ok (.ifCond .eq 23, 3) := by decide +kernel
theorem dd8_6 : decode jdk_42_method_139_code 6 = .ok (.iload_n 0, 1) := by decide +kernel
theorem dd9_0 : decode jdk_43_method_3_code 0 = .ok (.iload_n 0, 1) := by decide +kernel
theorem dd9_1 : decode jdk_43_method_3_code 1 = .ok (.sipush 255, 3) := by decide +kernel
theorem dd9_4 : decode jdk_43_method_3_code 4 = .ok (.if_icmp .gt 7, 3) := by decide +kernel
theorem dd9_7 : decode jdk_43_method_3_code 7 = .ok (.iconst 1, 1) := by decide +kernel
theorem dd9_8 : decode jdk_43_method_3_code 8 = .ok (.goto 4, 3) := by decide +kernel
theorem dd9_12 : decode jdk_43_method_3_code 12 = .ok (.ireturn, 1) := by decide +kernel
def own_Q18 (Z : State) (in_18 : Int32) (h0 : Heap) (n0 : Nat) (v : Option Value) (h : Heap) (L : List Loc) : Prop := (v = some (.int 1) ∧ Fr n0 L ∧ h = h0)
theorem own_pn8 : plainFor (⟨"java/lang/StringLatin1", "canEncode", "(C)Z"⟩ : MethodName) = true := by decide +kernel
set_option maxRecDepth 65536 in
set_option maxHeartbeats 40000000 in
theorem own_rm18 (l : Launch) (Z : State) (a0 : Array Value) (hw : ∀ d ∈ tables_1, d.before a0 Z = true) (ws : List Jvm.Cond) (in_18 : Int32) (h0 : Heap) (n0 : Nat) (Z0 : n0 ≤ h0.size) (O0 : Old Z n0 h0) (I601 : ¬ (255 < in_18)) :
    own_Met l Z h0 (⟨"java/lang/StringLatin1", "canEncode", "(C)Z"⟩ : MethodName) jdk_43_method_3_code 1 (Option.some FieldType.boolean) ws ({ frames := 0, cells := 0, slots := 0, locals := 0 } : Room) #[(.int in_18)] (own_Q18 Z in_18 h0 n0) 0 0 := by
  refine MetFree.of_bodySF own_pn8 hisR ?_
  intro p e s m args below meth c s₁ Bd hml0 hP hK
  obtain ⟨rfl, hZ, hh⟩ := hP
  have hx := Bd.exec
  have hby := Bd.bytes
  have hml : c.maxLocals = 1 := hml0
  have hown : s.vm.findClass "java/lang/StringLatin1" = some m.cls := findClass_of_methodNamed Bd.named
  have hnm := (name_of_methodNamed Bd.named Bd.method).1
  have X0 : Stand p l e ({ frames := 0, cells := 0, slots := 0, locals := 0 } : Room) s m #[(.int in_18)] below meth c s₁ [] 0 0 := Stand.of_body Bd
  have e0 : s₁.heap = h0 := by rw [← hh, Bd.state]; rfl
  have N0 := Fr.nil n0
  show own_G p e below (s₁.setTop (entryFrame m #[(.int in_18)] 1)) (own_P s (own_Q18 Z in_18 h0 n0) 0 0)
  refine own_cast (own_ef7 m in_18) ?_
  show own_G p e below (s₁.setTop (mkF m 0 #[iv in_18] [])) _
  refine oS (fun _ => XS.iloadN X0.here hx rfl (hb hby dd9_0) rfl) ?_
  refine oS (fun _ => XS.sipush X0.here hx rfl (hb hby dd9_1) ) ?_
  refine oS (fun _ => XS.icmpNo X0.here hx rfl (hb hby dd9_4) rfl (XT.ii_gt_f I601)) ?_
  show own_G p e below (s₁.setTop (mkF m 7 #[iv in_18] [])) _
  refine oS (fun _ => XS.iconst X0.here hx rfl (hb hby dd9_7) ) ?_
  refine oS (fun _ => XS.goto X0.here hx rfl (pc0 := 8) (pc' := 12) rfl (hb hby dd9_8) (by decide) (by decide)) ?_
  show own_G p e below (s₁.setTop (mkF m 12 #[iv in_18] [(.int 1)])) _
  exact own_retN X0 hx (t := .boolean) Bd.notSynchronized Bd.returns (by simp) (hb hby dd9_12) (by decide) e0 (by decide) (by decide) (⟨rfl, N0, rfl⟩)
theorem own_pd8 : parseMethodDescriptor "(C)Z" = some ⟨[.char], (some .boolean)⟩ := by decide +kernel
theorem dd8_7 : decode jdk_42_method_139_code 7 = .ok (.invokestatic 1015, 3) := by decide +kernel
theorem dd8_10 : decode jdk_42_method_139_code 10 = .ok (.ifCond .eq 16, 3) := by decide +kernel
theorem dd8_13 : decode jdk_42_method_139_code 13 = .ok (.new 10, 3) := by decide +kernel
theorem dd8_16 : decode jdk_42_method_139_code 16 = .ok (.dup, 1) := by decide +kernel
theorem dd8_17 : decode jdk_42_method_139_code 17 = .ok (.iload_n 0, 1) := by decide +kernel
theorem dd10_0 : decode jdk_43_method_46_code 0 = .ok (.iconst 1, 1) := by decide +kernel
theorem dd10_1 : decode jdk_43_method_46_code 1 = .ok (.newarray .byte, 2) := by decide +kernel
theorem dd10_3 : decode jdk_43_method_46_code 3 = .ok (.dup, 1) := by decide +kernel
theorem dd10_4 : decode jdk_43_method_46_code 4 = .ok (.iconst 0, 1) := by decide +kernel
theorem dd10_5 : decode jdk_43_method_46_code 5 = .ok (.iload_n 0, 1) := by decide +kernel
theorem dd10_6 : decode jdk_43_method_46_code 6 = .ok (.i2b, 1) := by decide +kernel
theorem dd10_7 : decode jdk_43_method_46_code 7 = .ok (.bastore, 1) := by decide +kernel
theorem dd10_8 : decode jdk_43_method_46_code 8 = .ok (.areturn, 1) := by decide +kernel
def own_Q19 (Z : State) (in_18 : Int32) (h0 : Heap) (n0 : Nat) (v : Option Value) (h : Heap) (L : List Loc) : Prop := (∃ ob_640 : Nat, ∃ kk_638 : ClassId, v = some (.ref ob_640) ∧ Fr n0 L ∧ Keep h0 h [] ∧ h0.size ≤ ob_640 ∧ Arv Z h ob_640 kk_638 .byte 1 [(.int (in_18.toInt8.toInt32))] (.int 0) ∧ Exa Z h ob_640 "[B" ∧ @LT.lt Nat instLTNat ob_640 h.size)
theorem own_pn9 : plainFor (⟨"java/lang/StringLatin1", "toBytes", "(C)[B"⟩ : MethodName) = true := by decide +kernel
set_option maxRecDepth 65536 in
set_option maxHeartbeats 40000000 in
theorem own_rm19 (l : Launch) (Z : State) (a0 : Array Value) (hw : ∀ d ∈ tables_1, d.before a0 Z = true) (ws : List Jvm.Cond) (in_18 : Int32) (h0 : Heap) (n0 : Nat) (Z0 : n0 ≤ h0.size) (O0 : Old Z n0 h0)  :
    own_Met l Z h0 (⟨"java/lang/StringLatin1", "toBytes", "(C)[B"⟩ : MethodName) jdk_43_method_46_code 1 (Option.some (FieldType.array FieldType.byte)) ws ({ frames := 0, cells := 1, slots := 1, locals := 0 } : Room) #[(.int in_18)] (own_Q19 Z in_18 h0 n0) 1 1 := by
  refine MetFree.of_bodySF own_pn9 hisR ?_
  intro p e s m args below meth c s₁ Bd hml0 hP hK
  obtain ⟨rfl, hZ, hh⟩ := hP
  have hx := Bd.exec
  have hby := Bd.bytes
  have hml : c.maxLocals = 1 := hml0
  have hown : s.vm.findClass "java/lang/StringLatin1" = some m.cls := findClass_of_methodNamed Bd.named
  have hnm := (name_of_methodNamed Bd.named Bd.method).1
  have X0 : Stand p l e ({ frames := 0, cells := 1, slots := 1, locals := 0 } : Room) s m #[(.int in_18)] below meth c s₁ [] 0 0 := Stand.of_body Bd
  have e0 : s₁.heap = h0 := by rw [← hh, Bd.state]; rfl
  have N0 := Fr.nil n0
  show own_G p e below (s₁.setTop (entryFrame m #[(.int in_18)] 1)) (own_P s (own_Q19 Z in_18 h0 n0) 1 1)
  refine own_cast (own_ef7 m in_18) ?_
  show own_G p e below (s₁.setTop (mkF m 0 #[iv in_18] [])) _
  refine oS (fun _ => XS.iconst X0.here hx rfl (hb hby dd10_0) ) ?_
  obtain ⟨T629, h630, kk_638, X632, e633, E634, A635, B639, s636⟩ := own_newP X0 hx hZ (aty := .byte) (oW hw 26 rfl) e0 (nm := "[B") rfl (g := (mkF m 1 #[iv in_18] [(.int 1)])) rfl (hb hby dd10_1) (n := 1) (rest := []) rfl (by decide) (cap := 1) (by decide) (by decide) (by decide) (by decide)
  obtain ⟨ob_640, g641⟩ : ∃ z, z = h0.size := ⟨_, rfl⟩
  rw [← g641] at A635 B639 s636
  have F642 : Arv Z h630 ob_640 kk_638 .byte 1 [(.int 0)] (.int 0) := own_newA A635 (by decide) rfl rfl
  have z643 := E634.1
  have y637 : @LT.lt Nat instLTNat ob_640 h630.size := F642.lt
  refine oS s636 ?_
  show own_G p e below (T629.setTop (mkF m 3 #[iv in_18] [(.ref ob_640)])) _
  refine oS (fun _ => XS.dup X632.here hx rfl (hb hby dd10_3) rfl rfl) ?_
  refine oS (fun _ => XS.iconst X632.here hx rfl (hb hby dd10_4) ) ?_
  refine oS (fun _ => XS.iloadN X632.here hx rfl (hb hby dd10_5) rfl) ?_
  refine oS (fun _ => XT.i2b X632.here hx rfl (hb hby dd10_6) rfl) ?_
  show own_G p e below (T629.setTop (mkF m 7 #[iv in_18] [(.int (in_18.toInt8.toInt32)), (.int 0), (.ref ob_640), (.ref ob_640)])) _
  obtain ⟨T644, h645, X646, e647, W648, A649, s650⟩ := own_stB X632 hx hZ e633 F642 (x' := (in_18.toInt8.toInt32)) 0 (own_narB _) rfl (by decide) (by simp) (g := (mkF m 7 #[iv in_18] [(.int (in_18.toInt8.toInt32)), (.int 0), (.ref ob_640), (.ref ob_640)])) rfl (rest := [(.ref ob_640)]) rfl (hb hby dd10_7)
  have N652 : n0 ≤ ob_640 := by omega
  have N651 := Fr.snoc X646 N0 N652
  have z653 := W648.size
  have F654 : Arv Z h645 ob_640 kk_638 .byte 1 [(.int (in_18.toInt8.toInt32))] (.int 0) := A649
  refine oS s650 ?_
  show own_G p e below (T644.setTop (mkF m 8 #[iv in_18] [(.ref ob_640)])) _
  have F655 : Exa Z h645 ob_640 "[B" := Exa.wr W648 B639
  have y656 : @LT.lt Nat instLTNat ob_640 h645.size := by omega
  have K657 : Keep h0 h645 [] := (((Keep.refl h0 []).ext E634).wr W648 (Or.inr (by omega)))
  exact own_retA X646 hx Bd.notSynchronized Bd.returns rfl rfl (hb hby dd10_8) e647 (by decide) (by decide) (⟨ob_640, kk_638, rfl, N651, K657, (by omega), F654, F655, y656⟩)
theorem own_pd9 : parseMethodDescriptor "(C)[B" = some ⟨[.char], (some (.array .byte))⟩ := by decide +kernel
theorem dd8_18 : decode jdk_42_method_139_code 18 = .ok (.invokestatic 1018, 3) := by decide +kernel
theorem dd8_21 : decode jdk_42_method_139_code 21 = .ok (.iconst 0, 1) := by decide +kernel
theorem own_ef8 (m : MethodId) (x0 : Addr) (x1 : Addr) (x2 : Int32) : entryFrame m #[(.ref x0), (.ref x1), (.int x2)] 3 = mkF m 0 #[.val (.ref x0), .val (.ref x1), .val (.int x2)] [] := by first | (simp [entryFrame, mkF, argsToLocals, Value.category]; done) | rfl
theorem dd11_0 : decode jdk_42_method_151_code 0 = .ok (.aload_n 0, 1) := by decide +kernel
theorem dd11_1 : decode jdk_42_method_151_code 1 = .ok (.invokespecial 1, 3) := by decide +kernel
theorem dd11_4 : decode jdk_42_method_151_code 4 = .ok (.aload_n 0, 1) := by decide +kernel
theorem dd11_5 : decode jdk_42_method_151_code 5 = .ok (.aload_n 1, 1) := by decide +kernel
theorem dd11_6 : decode jdk_42_method_151_code 6 = .ok (.putfield 9, 3) := by decide +kernel
theorem dd11_9 : decode jdk_42_method_151_code 9 = .ok (.aload_n 0, 1) := by decide +kernel
theorem dd11_10 : decode jdk_42_method_151_code 10 = .ok (.iload_n 2, 1) := by decide +kernel
theorem dd11_11 : decode jdk_42_method_151_code 11 = .ok (.putfield 15, 3) := by decide +kernel
theorem dd11_14 : decode jdk_42_method_151_code 14 = .ok (.return_, 1) := by decide +kernel
def own_Q20 (Z : State) (ob_624 : Nat) (ob_668 : Nat) (h0 : Heap) (n0 : Nat) (v : Option Value) (h : Heap) (L : List Loc) : Prop := (v = none ∧ Fr n0 L ∧ Keep h0 h [ob_624] ∧ Fld Z h ob_624 "java/lang/String" "value" "[B" (.ref ob_668) ∧ Fld Z h ob_624 "java/lang/String" "coder" "B" (.int 0) ∧ Exa Z h ob_624 "java/lang/String")
theorem own_pn10 : plainFor (⟨"java/lang/String", "<init>", "([BB)V"⟩ : MethodName) = true := by decide +kernel
set_option maxRecDepth 65536 in
set_option maxHeartbeats 40000000 in
theorem own_rm20 (l : Launch) (Z : State) (a0 : Array Value) (hw : ∀ d ∈ tables_1, d.before a0 Z = true) (ws : List Jvm.Cond) (ob_624 : Nat) (ob_668 : Nat) (h0 : Heap) (n0 : Nat) (Z0 : n0 ≤ h0.size) (O0 : Old Z n0 h0) (I683 : Fld Z h0 ob_624 "java/lang/String" "value" "[B" .null) (I685 : Exa Z h0 ob_624 "java/lang/String") (I694 : n0 ≤ ob_624) (I698 : Fld Z h0 ob_624 "java/lang/String" "coder" "B" (.int 0)) :
    own_Met l Z h0 (⟨"java/lang/String", "<init>", "([BB)V"⟩ : MethodName) jdk_42_method_151_code 3 (Option.none : Option FieldType) ws ({ frames := 1, cells := 0, slots := 0, locals := 12 } : Room) #[(.ref ob_624), (.ref ob_668), (.int 0)] (own_Q20 Z ob_624 ob_668 h0 n0) 0 0 := by
  refine MetFree.of_bodySF own_pn10 hisR ?_
  intro p e s m args below meth c s₁ Bd hml0 hP hK
  obtain ⟨rfl, hZ, hh⟩ := hP
  have hx := Bd.exec
  have hby := Bd.bytes
  have hml : c.maxLocals = 3 := hml0
  have hown : s.vm.findClass "java/lang/String" = some m.cls := findClass_of_methodNamed Bd.named
  have hnm := (name_of_methodNamed Bd.named Bd.method).1
  have X0 : Stand p l e ({ frames := 1, cells := 0, slots := 0, locals := 12 } : Room) s m #[(.ref ob_624), (.ref ob_668), (.int 0)] below meth c s₁ [] 0 0 := Stand.of_body Bd
  have e0 : s₁.heap = h0 := by rw [← hh, Bd.state]; rfl
  have N0 := Fr.nil n0
  show own_G p e below (s₁.setTop (entryFrame m #[(.ref ob_624), (.ref ob_668), (.int 0)] 3)) (own_P s (own_Q20 Z ob_624 ob_668 h0 n0) 0 0)
  refine own_cast (own_ef8 m ob_624 ob_668 0) ?_
  show own_G p e below (s₁.setTop (mkF m 0 #[rv ob_624, rv ob_668, iv 0] [])) _
  refine oS (fun _ => XS.aloadN X0.here hx rfl (hb hby dd11_0) rfl rfl) ?_
  obtain ⟨T678, X679, e680, s681⟩ := initO X0 hx hZ hown (oW hw 22 rfl) (oW hw 23 rfl) (oW hw 24 rfl) e0 (g := (mkF m 1 #[rv ob_624, rv ob_668, iv 0] [(.ref ob_624)])) rfl (by rw [hml]; rfl) rfl (hb hby dd11_1) (by decide) (W := 0) (by show 2 * 0 + _ ≤ _; exact Nat.le_of_eq rfl) (by decide)
  refine oS s681 ?_
  show own_G p e below (T678.setTop (mkF m 4 #[rv ob_624, rv ob_668, iv 0] [])) _
  refine oS (fun _ => XS.aloadN X679.here hx rfl (hb hby dd11_4) rfl rfl) ?_
  refine oS (fun _ => XS.aloadN X679.here hx rfl (hb hby dd11_5) rfl rfl) ?_
  obtain ⟨T686, h687, X688, e689, W690, s691⟩ := putF X679 hx hZ hown (host := "") (Or.inl (oW hw 31 rfl)) Via.refl e680 I683 I685 (Or.inr ⟨(oW hw 27 rfl), rfl, hnm⟩) (oW hw 12 rfl) (ty := (.array .byte)) (by decide) rfl rfl (g := (mkF m 6 #[rv ob_624, rv ob_668, iv 0] [(.ref ob_668), (.ref ob_624)])) rfl rfl (hb hby dd11_6)
  have N692 := Fr.snoc X688 N0 I694
  have z695 := W690.size
  have F696 : Fld Z h687 ob_624 "java/lang/String" "value" "[B" (.ref ob_668) := Fld.same W690 I683
  refine oS s691 ?_
  show own_G p e below (T686.setTop (mkF m 9 #[rv ob_624, rv ob_668, iv 0] [])) _
  refine oS (fun _ => XS.aloadN X688.here hx rfl (hb hby dd11_9) rfl rfl) ?_
  refine oS (fun _ => XS.iloadN X688.here hx rfl (hb hby dd11_10) rfl) ?_
  have F699 : Fld Z h687 ob_624 "java/lang/String" "coder" "B" (.int 0) := Fld.other W690 I698 (Or.inr (slot_ne (C := "java/lang/String") (Or.inr (oW hw 28 rfl)) (Or.inr (oW hw 27 rfl)) (by decide) (t := .byte) (t' := (.array .byte)) (by decide) (by decide)))
  have F700 : Exa Z h687 ob_624 "java/lang/String" := Exa.wr W690 I685
  obtain ⟨T701, h702, X703, e704, W705, s706⟩ := putF X688 hx hZ hown (host := "") (Or.inl (oW hw 32 rfl)) Via.refl e689 F699 F700 (Or.inr ⟨(oW hw 28 rfl), rfl, hnm⟩) (oW hw 12 rfl) (ty := .byte) (by decide) (by decide) (by decide) (g := (mkF m 11 #[rv ob_624, rv ob_668, iv 0] [(.int 0), (.ref ob_624)])) rfl rfl (hb hby dd11_11)
  have N707 := Fr.snoc X703 N692 I694
  have z708 := W705.size
  have F709 : Fld Z h702 ob_624 "java/lang/String" "coder" "B" (.int 0) := Fld.same W705 F699
  refine oS s706 ?_
  show own_G p e below (T701.setTop (mkF m 14 #[rv ob_624, rv ob_668, iv 0] [])) _
  have F710 : Fld Z h702 ob_624 "java/lang/String" "value" "[B" (.ref ob_668) := Fld.other W705 F696 (Or.inr (slot_ne (C := "java/lang/String") (Or.inr (oW hw 27 rfl)) (Or.inr (oW hw 28 rfl)) (by decide) (t := (.array .byte)) (t' := .byte) (by decide) (by decide)))
  have F711 : Exa Z h702 ob_624 "java/lang/String" := Exa.wr W705 F700
  have K712 : Keep h0 h702 [ob_624] := (((Keep.refl h0 [ob_624]).wr W690 (Or.inl (by simp))).wr W705 (Or.inl (by simp)))
  exact own_retV X703 hx Bd.notSynchronized Bd.returns (hb hby dd11_14) e704 (by decide) (by decide) (⟨rfl, N707, K712, F710, F709, F711⟩)
theorem own_pd10 : parseMethodDescriptor "([BB)V" = some ⟨[(.array .byte), .byte], none⟩ := by decide +kernel
theorem dd8_22 : decode jdk_42_method_139_code 22 = .ok (.invokespecial 209, 3) := by decide +kernel
theorem dd8_25 : decode jdk_42_method_139_code 25 = .ok (.areturn, 1) := by decide +kernel
def own_Q17 (Z : State) (in_18 : Int32) (in_6 : Int32) (h0 : Heap) (n0 : Nat) (v : Option Value) (h : Heap) (L : List Loc) : Prop := (∃ ob_624 : Nat, ∃ ob_668 : Nat, ∃ kk_669 : ClassId, v = some (.ref ob_624) ∧ Fr n0 L ∧ Keep h0 h [] ∧ h0.size ≤ ob_624 ∧ ob_624 < ob_668 ∧ Exa Z h ob_624 "java/lang/String" ∧ Fld Z h ob_624 "java/lang/String" "value" "[B" (.ref ob_668) ∧ Fld Z h ob_624 "java/lang/String" "coder" "B" (.int 0) ∧ Arv Z h ob_668 kk_669 .byte 1 [(.int (in_18.toInt8.toInt32))] (.int 0) ∧ Exa Z h ob_668 "[B" ∧ @LT.lt Nat instLTNat ob_624 h.size ∧ @LT.lt Nat instLTNat ob_668 h.size)
theorem own_pn11 : plainFor (⟨"java/lang/String", "valueOf", "(C)Ljava/lang/String;"⟩ : MethodName) = true := by decide +kernel
set_option maxRecDepth 65536 in
set_option maxHeartbeats 40000000 in
theorem own_rm17 (l : Launch) (Z : State) (a0 : Array Value) (hw : ∀ d ∈ tables_1, d.before a0 Z = true) (ws : List Jvm.Cond) (in_18 : Int32) (in_6 : Int32) (h0 : Heap) (n0 : Nat) (Z0 : n0 ≤ h0.size) (O0 : Old Z n0 h0) (I591 : Sta Z Z.heap "java/lang/String" "COMPACT_STRINGS" "Z" (.int in_6)) (I598 : ¬ (in_6 = 0)) (I600 : ¬ (255 < in_18)) :
    own_Met l Z h0 (⟨"java/lang/String", "valueOf", "(C)Ljava/lang/String;"⟩ : MethodName) jdk_42_method_139_code 1 (Option.some (FieldType.object "java/lang/String")) ws ({ frames := 2, cells := 2, slots := 5, locals := 27 } : Room) #[(.int in_18)] (own_Q17 Z in_18 in_6 h0 n0) 2 5 := by
  refine MetFree.of_bodySF own_pn11 hisR ?_
  intro p e s m args below meth c s₁ Bd hml0 hP hK
  obtain ⟨rfl, hZ, hh⟩ := hP
  have hx := Bd.exec
  have hby := Bd.bytes
  have hml : c.maxLocals = 1 := hml0
  have hown : s.vm.findClass "java/lang/String" = some m.cls := findClass_of_methodNamed Bd.named
  have hnm := (name_of_methodNamed Bd.named Bd.method).1
  have X0 : Stand p l e ({ frames := 2, cells := 2, slots := 5, locals := 27 } : Room) s m #[(.int in_18)] below meth c s₁ [] 0 0 := Stand.of_body Bd
  have e0 : s₁.heap = h0 := by rw [← hh, Bd.state]; rfl
  have N0 := Fr.nil n0
  show own_G p e below (s₁.setTop (entryFrame m #[(.int in_18)] 1)) (own_P s (own_Q17 Z in_18 in_6 h0 n0) 2 5)
  refine own_cast (own_ef7 m in_18) ?_
  show own_G p e below (s₁.setTop (mkF m 0 #[iv in_18] [])) _
  have F592 : Sta Z h0 "java/lang/String" "COMPACT_STRINGS" "Z" (.int in_6) := Sta.ext O0.2 I591
  obtain ⟨T593, X594, e595, s596⟩ := getS X0 hx hZ hown (host := "") (oW hw 67 rfl) Via.refl e0 F592 (g := (mkF m 0 #[iv in_18] [])) rfl (hb hby dd8_0)
  refine oS s596 ?_
  show own_G p e below (T593.setTop (mkF m 3 #[iv in_18] [(.int in_6)])) _
  refine oS (fun _ => XS.ifNo X594.here hx rfl (hb hby dd8_3) rfl (XT.i0_eq_f I598)) ?_
  show own_G p e below (T593.setTop (mkF m 6 #[iv in_18] [])) _
  refine oS (fun _ => XS.iloadN X594.here hx rfl (hb hby dd8_6) rfl) ?_
  obtain ⟨T602, h603, v604, L605, X606, e607, q608, s609⟩ := own_callS X594 hx hZ hown e595 (y := (⟨"java/lang/StringLatin1", "canEncode", "(C)Z"⟩ : MethodName)) (oW hw 75 rfl) (oW hw 76 rfl) (oW hw 70 rfl) (oW hw 77 rfl) (by decide) (W := 0) (own_rm18 l Z a0 hw [] in_18 h0 n0 Z0 O0 I600) (by decide) (by decide) (by decide) (by decide) (g := (mkF m 7 #[iv in_18] [(.int in_18)])) rfl (by rw [hml]; rfl) (argsL := [(.int in_18)]) (rest := []) rfl (lenOf own_pd8 rfl) rfl (by show 2 * 0 + _ ≤ _; exact Nat.le_of_eq rfl) (hb hby dd8_7)
  refine oS s609 ?_
  obtain ⟨rfl, N610, K611⟩ := q608
  have N612 := Fr.app N0 N610
  have e613 := e607.trans K611
  show own_G p e below (T602.setTop (mkF m 10 #[iv in_18] [(.int 1)])) _
  refine oS (fun _ => XS.ifNo X606.here hx rfl (hb hby dd8_10) rfl (XT.i0_eq_f (by decide))) ?_
  show own_G p e below (T602.setTop (mkF m 13 #[iv in_18] [])) _
  obtain ⟨T614, h615, X616, e617, E618, A619, D620, U623, s621⟩ := newO X606 hx hZ hown (oW hw 66 rfl) (oW hw 12 rfl) (oW hw 13 rfl) e613 (g := (mkF m 13 #[iv in_18] [])) rfl (hb hby dd8_13) (by decide) (by decide)
  obtain ⟨ob_624, g625⟩ : ∃ z, z = h0.size := ⟨_, rfl⟩
  rw [← g625] at A619 D620 U623 s621
  have z626 := E618.1
  have y622 : @LT.lt Nat instLTNat ob_624 h615.size := A619.lt
  refine oS s621 ?_
  have F627 : Fld Z h615 ob_624 "java/lang/String" "value" "[B" .null := D620 (Or.inr (oW hw 27 rfl)) (ty := (.array .byte)) (by decide)
  have F628 : Fld Z h615 ob_624 "java/lang/String" "coder" "B" (.int 0) := D620 (Or.inr (oW hw 28 rfl)) (ty := .byte) (by decide)
  show own_G p e below (T614.setTop (mkF m 16 #[iv in_18] [(.ref ob_624)])) _
  refine oS (fun _ => XS.dup X616.here hx rfl (hb hby dd8_16) rfl rfl) ?_
  refine oS (fun _ => XS.iloadN X616.here hx rfl (hb hby dd8_17) rfl) ?_
  have O658 : Old Z n0 h615 := O0.ext E618
  have Z659 : n0 ≤ h615.size := by omega
  obtain ⟨T660, h661, v662, L663, X664, e665, q666, s667⟩ := own_callS X616 hx hZ hown e617 (y := (⟨"java/lang/StringLatin1", "toBytes", "(C)[B"⟩ : MethodName)) (oW hw 78 rfl) (oW hw 79 rfl) (oW hw 70 rfl) (oW hw 80 rfl) (by decide) (W := 2) (own_rm19 l Z a0 hw [] in_18 h615 n0 Z659 O658 ) (by decide) (by decide) (by decide) (by decide) (g := (mkF m 18 #[iv in_18] [(.int in_18), (.ref ob_624), (.ref ob_624)])) rfl (by rw [hml]; rfl) (argsL := [(.int in_18)]) (rest := [(.ref ob_624), (.ref ob_624)]) rfl (lenOf own_pd9 rfl) rfl (by show 2 * 0 + _ ≤ _; exact Nat.le_of_eq rfl) (hb hby dd8_18)
  refine oS s667 ?_
  obtain ⟨ob_668, kk_669, rfl, N670, K671, F672, F673, F674, F675⟩ := q666
  have N676 := Fr.app N612 N670
  have z677 := K671.1
  show own_G p e below (T660.setTop (mkF m 21 #[iv in_18] [(.ref ob_668), (.ref ob_624), (.ref ob_624)])) _
  refine oS (fun _ => XS.iconst X664.here hx rfl (hb hby dd8_21) ) ?_
  have F682 : Fld Z h661 ob_624 "java/lang/String" "value" "[B" .null := F627.keep K671 nin0
  have F684 : Exa Z h661 ob_624 "java/lang/String" := A619.keep K671
  have N693 : n0 ≤ ob_624 := by omega
  have F697 : Fld Z h661 ob_624 "java/lang/String" "coder" "B" (.int 0) := F628.keep K671 nin0
  have O713 : Old Z n0 h661 := O658.keep K671 all0
  have Z714 : n0 ≤ h661.size := by omega
  obtain ⟨T715, h716, v717, L718, X719, e720, q721, s722⟩ := own_callN X664 hx hZ hown e665 (y := (⟨"java/lang/String", "<init>", "([BB)V"⟩ : MethodName)) (b := ob_624) rfl (oW hw 81 rfl) (oW hw 82 rfl) (oW hw 13 rfl) (oW hw 83 rfl) (by decide) (W := 1) (own_rm20 l Z a0 hw [] ob_624 ob_668 h661 n0 Z714 O713 F682 F684 N693 F697) (by decide) (by decide) (by decide) (by decide) (g := (mkF m 22 #[iv in_18] [(.int 0), (.ref ob_668), (.ref ob_624), (.ref ob_624)])) rfl (by rw [hml]; rfl) (argsL := [(.ref ob_668), (.int 0)]) (rest := [(.ref ob_624)]) rfl (lenOf own_pd10 rfl) rfl (by show 2 * 0 + _ ≤ _; exact Nat.le_of_eq rfl) (hb hby dd8_22)
  refine oS s722 ?_
  obtain ⟨rfl, N723, K724, F725, F726, F727⟩ := q721
  have N728 := Fr.app N676 N723
  have z729 := K724.1
  show own_G p e below (T715.setTop (mkF m 25 #[iv in_18] [(.ref ob_624)])) _
  have N730 : @Ne Nat ob_668 ob_624 := by omega
  have F731 : Arv Z h716 ob_668 kk_669 .byte 1 [(.int (in_18.toInt8.toInt32))] (.int 0) := F673.keep K724 (ninS N730 nin0)
  have F732 : Exa Z h716 ob_668 "[B" := F674.keep K724
  have y733 : @LT.lt Nat instLTNat ob_624 h716.size := by omega
  have y734 : @LT.lt Nat instLTNat ob_668 h716.size := by omega
  have K735 : Keep h0 h716 [] := ((((Keep.refl h0 []).ext E618).trans K671 all0).trans K724 (allS (Or.inr (by omega)) all0))
  exact own_retA X719 hx Bd.notSynchronized Bd.returns rfl rfl (hb hby dd8_25) e720 (by decide) (by decide) (⟨ob_624, ob_668, kk_669, rfl, N728, K735, (by omega), (by omega), F727, F725, F726, F731, F732, y733, y734⟩)
theorem own_pd11 : parseMethodDescriptor "(C)Ljava/lang/String;" = some ⟨[.char], (some (.object "java/lang/String"))⟩ := by decide +kernel
theorem dd0_21 : decode method_3_code 21 = .ok (.invokestatic 36, 3) := by decide +kernel
theorem dd0_24 : decode method_3_code 24 = .ok (.areturn, 1) := by decide +kernel
def own_Q16 (Z : State) (in_18 : Int32) (in_19 : Int32) (in_6 : Int32) (h0 : Heap) (n0 : Nat) (v : Option Value) (h : Heap) (L : List Loc) : Prop := (∃ ob_744 : Nat, ∃ ob_745 : Nat, ∃ kk_746 : ClassId, v = some (.ref ob_744) ∧ Fr n0 L ∧ Keep h0 h [] ∧ h0.size ≤ ob_744 ∧ ob_744 < ob_745 ∧ Exa Z h ob_744 "java/lang/String" ∧ Fld Z h ob_744 "java/lang/String" "value" "[B" (.ref ob_745) ∧ Fld Z h ob_744 "java/lang/String" "coder" "B" (.int 0) ∧ Arv Z h ob_745 kk_746 .byte 1 [(.int (in_18.toInt8.toInt32))] (.int 0) ∧ Exa Z h ob_745 "[B" ∧ @LT.lt Nat instLTNat ob_744 h.size ∧ @LT.lt Nat instLTNat ob_745 h.size)
set_option maxRecDepth 65536 in
set_option maxHeartbeats 40000000 in
theorem own_rm16 (l : Launch) (Z : State) (a0 : Array Value) (hw : ∀ d ∈ tables_1, d.before a0 Z = true) (ws : List Jvm.Cond) (in_18 : Int32) (in_19 : Int32) (in_6 : Int32) (h0 : Heap) (n0 : Nat) (Z0 : n0 ≤ h0.size) (O0 : Old Z n0 h0) (I590 : Sta Z Z.heap "java/lang/String" "COMPACT_STRINGS" "Z" (.int in_6)) (I597 : ¬ (in_6 = 0)) (I599 : ¬ (255 < in_18)) :
    own_Met l Z h0 (⟨"com/example/latente/latente/query/TokenIsSymbolPinLaw", "str", "(ICC)Ljava/lang/String;"⟩ : MethodName) method_3_code 3 (Option.some (FieldType.object "java/lang/String")) ws ({ frames := 3, cells := 2, slots := 5, locals := 39 } : Room) #[(.int 1), (.int in_18), (.int in_19)] (own_Q16 Z in_18 in_19 in_6 h0 n0) 2 5 := by
  refine MetFree.of_bodySF own_pn2 hisR ?_
  intro p e s m args below meth c s₁ Bd hml0 hP hK
  obtain ⟨rfl, hZ, hh⟩ := hP
  have hx := Bd.exec
  have hby := Bd.bytes
  have hml : c.maxLocals = 3 := hml0
  have hown : s.vm.findClass "com/example/latente/latente/query/TokenIsSymbolPinLaw" = some m.cls := findClass_of_methodNamed Bd.named
  have hnm := (name_of_methodNamed Bd.named Bd.method).1
  have X0 : Stand p l e ({ frames := 3, cells := 2, slots := 5, locals := 39 } : Room) s m #[(.int 1), (.int in_18), (.int in_19)] below meth c s₁ [] 0 0 := Stand.of_body Bd
  have e0 : s₁.heap = h0 := by rw [← hh, Bd.state]; rfl
  have N0 := Fr.nil n0
  show own_G p e below (s₁.setTop (entryFrame m #[(.int 1), (.int in_18), (.int in_19)] 3)) (own_P s (own_Q16 Z in_18 in_19 in_6 h0 n0) 2 5)
  refine own_cast (own_ef1 m 1 in_18 in_19) ?_
  show own_G p e below (s₁.setTop (mkF m 0 #[iv 1, iv in_18, iv in_19] [])) _
  refine oS (fun _ => XS.iloadN X0.here hx rfl (hb hby dd0_0) rfl) ?_
  refine oS (fun _ => XS.ifYes X0.here hx rfl (pc0 := 1) (pc' := 15) rfl (hb hby dd0_1) rfl (XT.i0_ne_t (by decide)) (by decide) (by decide)) ?_
  show own_G p e below (s₁.setTop (mkF m 15 #[iv 1, iv in_18, iv in_19] [])) _
  refine oS (fun _ => XS.iloadN X0.here hx rfl (hb hby dd0_15) rfl) ?_
  refine oS (fun _ => XS.iconst X0.here hx rfl (hb hby dd0_16) ) ?_
  refine oS (fun _ => XS.icmpNo X0.here hx rfl (hb hby dd0_17) rfl (XT.ii_ne_f (by decide))) ?_
  show own_G p e below (s₁.setTop (mkF m 20 #[iv 1, iv in_18, iv in_19] [])) _
  refine oS (fun _ => XS.iloadN X0.here hx rfl (hb hby dd0_20) rfl) ?_
  obtain ⟨T736, h737, v738, L739, X740, e741, q742, s743⟩ := own_callS X0 hx hZ hown e0 (y := (⟨"java/lang/String", "valueOf", "(C)Ljava/lang/String;"⟩ : MethodName)) (oW hw 72 rfl) (oW hw 73 rfl) (oW hw 13 rfl) (oW hw 74 rfl) (by decide) (W := 0) (own_rm17 l Z a0 hw [] in_18 in_6 h0 n0 Z0 O0 I590 I597 I599) (by decide) (by decide) (by decide) (by decide) (g := (mkF m 21 #[iv 1, iv in_18, iv in_19] [(.int in_18)])) rfl (by rw [hml]; rfl) (argsL := [(.int in_18)]) (rest := []) rfl (lenOf own_pd11 rfl) rfl (by show 2 * 0 + _ ≤ _; exact Nat.le_of_eq rfl) (hb hby dd0_21)
  refine oS s743 ?_
  obtain ⟨ob_744, ob_745, kk_746, rfl, N747, K748, F749, F750, F751, F752, F753, F754, F755, F756, F757⟩ := q742
  have N758 := Fr.app N0 N747
  have z759 := K748.1
  show own_G p e below (T736.setTop (mkF m 24 #[iv 1, iv in_18, iv in_19] [(.ref ob_744)])) _
  have y760 : @LT.lt Nat instLTNat ob_744 h737.size := by omega
  have y761 : @LT.lt Nat instLTNat ob_745 h737.size := by omega
  have K762 : Keep h0 h737 [] := ((Keep.refl h0 []).trans K748 all0)
  exact own_retA X740 hx Bd.notSynchronized Bd.returns rfl rfl (hb hby dd0_24) e741 (by decide) (by decide) (⟨ob_744, ob_745, kk_746, rfl, N758, K762, (by omega), (by omega), F751, F752, F753, F754, F755, y760, y761⟩)
theorem dd7_34 : decode jdk_43_method_13_code 34 = .ok (.iconst 0, 1) := by decide +kernel
theorem dd7_35 : decode jdk_43_method_13_code 35 = .ok (.ireturn, 1) := by decide +kernel
def own_Q23 (Z : State) (ob_315 : Nat) (ob_774 : Nat) (kk_316 : ClassId) (kk_775 : ClassId) (in_18 : Int32) (h0 : Heap) (n0 : Nat) (v : Option Value) (h : Heap) (L : List Loc) : Prop := (v = some (.int 0) ∧ Fr n0 L ∧ h = h0)
set_option maxRecDepth 65536 in
set_option maxHeartbeats 40000000 in
theorem own_rm23 (l : Launch) (Z : State) (a0 : Array Value) (hw : ∀ d ∈ tables_1, d.before a0 Z = true) (ws : List Jvm.Cond) (ob_315 : Nat) (ob_774 : Nat) (kk_316 : ClassId) (kk_775 : ClassId) (in_18 : Int32) (h0 : Heap) (n0 : Nat) (Z0 : n0 ≤ h0.size) (O0 : Old Z n0 h0) (I918 : Arv Z h0 ob_315 kk_316 .byte 0 [] (.int 0)) (I919 : Arv Z h0 ob_774 kk_775 .byte 1 [(.int (in_18.toInt8.toInt32))] (.int 0)) :
    own_Met l Z h0 (⟨"java/lang/StringLatin1", "equals", "([B[B)Z"⟩ : MethodName) jdk_43_method_13_code 3 (Option.some FieldType.boolean) ws ({ frames := 0, cells := 0, slots := 0, locals := 0 } : Room) #[(.ref ob_315), (.ref ob_774)] (own_Q23 Z ob_315 ob_774 kk_316 kk_775 in_18 h0 n0) 0 0 := by
  refine MetFree.of_bodySF own_pn5 hisR ?_
  intro p e s m args below meth c s₁ Bd hml0 hP hK
  obtain ⟨rfl, hZ, hh⟩ := hP
  have hx := Bd.exec
  have hby := Bd.bytes
  have hml : c.maxLocals = 3 := hml0
  have hown : s.vm.findClass "java/lang/StringLatin1" = some m.cls := findClass_of_methodNamed Bd.named
  have hnm := (name_of_methodNamed Bd.named Bd.method).1
  have X0 : Stand p l e ({ frames := 0, cells := 0, slots := 0, locals := 0 } : Room) s m #[(.ref ob_315), (.ref ob_774)] below meth c s₁ [] 0 0 := Stand.of_body Bd
  have e0 : s₁.heap = h0 := by rw [← hh, Bd.state]; rfl
  have N0 := Fr.nil n0
  show own_G p e below (s₁.setTop (entryFrame m #[(.ref ob_315), (.ref ob_774)] 3)) (own_P s (own_Q23 Z ob_315 ob_774 kk_316 kk_775 in_18 h0 n0) 0 0)
  refine own_cast (own_ef6 m ob_315 ob_774) ?_
  show own_G p e below (s₁.setTop (mkF m 0 #[rv ob_315, rv ob_774, .unset] [])) _
  refine oS (fun _ => XS.aloadN X0.here hx rfl (hb hby dd7_0) rfl rfl) ?_
  refine oS (own_len X0 hx hZ e0 I918 rfl rfl (hb hby dd7_1)) ?_
  show own_G p e below (s₁.setTop (mkF m 2 #[rv ob_315, rv ob_774, .unset] [(.int 0)])) _
  refine oS (fun _ => XS.aloadN X0.here hx rfl (hb hby dd7_2) rfl rfl) ?_
  refine oS (own_len X0 hx hZ e0 I919 rfl rfl (hb hby dd7_3)) ?_
  show own_G p e below (s₁.setTop (mkF m 4 #[rv ob_315, rv ob_774, .unset] [(.int 1), (.int 0)])) _
  refine oS (fun _ => XS.icmpYes X0.here hx rfl (pc0 := 4) (pc' := 34) rfl (hb hby dd7_4) rfl (XT.ii_ne_t (by decide)) (by decide) (by decide)) ?_
  show own_G p e below (s₁.setTop (mkF m 34 #[rv ob_315, rv ob_774, .unset] [])) _
  refine oS (fun _ => XS.iconst X0.here hx rfl (hb hby dd7_34) ) ?_
  exact own_retN X0 hx (t := .boolean) Bd.notSynchronized Bd.returns (by simp) (hb hby dd7_35) (by decide) e0 (by decide) (by decide) (⟨rfl, N0, rfl⟩)
theorem dd6_54 : decode jdk_42_method_66_code 54 = .ok (.iconst 0, 1) := by decide +kernel
def own_Q22 (Z : State) (ob_314 : Nat) (ob_773 : Nat) (in_6 : Int32) (ob_315 : Nat) (ob_774 : Nat) (kk_316 : ClassId) (kk_775 : ClassId) (in_18 : Int32) (h0 : Heap) (n0 : Nat) (v : Option Value) (h : Heap) (L : List Loc) : Prop := (v = some (.int 0) ∧ Fr n0 L ∧ h = h0)
set_option maxRecDepth 65536 in
set_option maxHeartbeats 40000000 in
theorem own_rm22 (l : Launch) (Z : State) (a0 : Array Value) (hw : ∀ d ∈ tables_1, d.before a0 Z = true) (ws : List Jvm.Cond) (ob_314 : Nat) (ob_773 : Nat) (in_6 : Int32) (ob_315 : Nat) (ob_774 : Nat) (kk_316 : ClassId) (kk_775 : ClassId) (in_18 : Int32) (h0 : Heap) (n0 : Nat) (Z0 : n0 ≤ h0.size) (O0 : Old Z n0 h0) (I879 : @Ne Nat ob_314 ob_773) (I884 : Exa Z h0 ob_773 "java/lang/String") (I889 : Sta Z Z.heap "java/lang/String" "COMPACT_STRINGS" "Z" (.int in_6)) (I895 : ¬ (in_6 = 0)) (I896 : Fld Z h0 ob_314 "java/lang/String" "coder" "B" (.int 0)) (I901 : Fld Z h0 ob_773 "java/lang/String" "coder" "B" (.int 0)) (I906 : Fld Z h0 ob_314 "java/lang/String" "value" "[B" (.ref ob_315)) (I911 : Fld Z h0 ob_773 "java/lang/String" "value" "[B" (.ref ob_774)) (I916 : Arv Z h0 ob_315 kk_316 .byte 0 [] (.int 0)) (I917 : Arv Z h0 ob_774 kk_775 .byte 1 [(.int (in_18.toInt8.toInt32))] (.int 0)) :
    own_Met l Z h0 (⟨"java/lang/String", "equals", "(Ljava/lang/Object;)Z"⟩ : MethodName) jdk_42_method_66_code 3 (Option.some FieldType.boolean) ws ({ frames := 1, cells := 0, slots := 0, locals := 14 } : Room) #[(.ref ob_314), (.ref ob_773)] (own_Q22 Z ob_314 ob_773 in_6 ob_315 ob_774 kk_316 kk_775 in_18 h0 n0) 0 0 := by
  refine MetFree.of_bodySF own_pn6 hisR ?_
  intro p e s m args below meth c s₁ Bd hml0 hP hK
  obtain ⟨rfl, hZ, hh⟩ := hP
  have hx := Bd.exec
  have hby := Bd.bytes
  have hml : c.maxLocals = 3 := hml0
  have hown : s.vm.findClass "java/lang/String" = some m.cls := findClass_of_methodNamed Bd.named
  have hnm := (name_of_methodNamed Bd.named Bd.method).1
  have X0 : Stand p l e ({ frames := 1, cells := 0, slots := 0, locals := 14 } : Room) s m #[(.ref ob_314), (.ref ob_773)] below meth c s₁ [] 0 0 := Stand.of_body Bd
  have e0 : s₁.heap = h0 := by rw [← hh, Bd.state]; rfl
  have N0 := Fr.nil n0
  show own_G p e below (s₁.setTop (entryFrame m #[(.ref ob_314), (.ref ob_773)] 3)) (own_P s (own_Q22 Z ob_314 ob_773 in_6 ob_315 ob_774 kk_316 kk_775 in_18 h0 n0) 0 0)
  refine own_cast (own_ef6 m ob_314 ob_773) ?_
  show own_G p e below (s₁.setTop (mkF m 0 #[rv ob_314, rv ob_773, .unset] [])) _
  refine oS (fun _ => XS.aloadN X0.here hx rfl (hb hby dd6_0) rfl rfl) ?_
  refine oS (fun _ => XS.aloadN X0.here hx rfl (hb hby dd6_1) rfl rfl) ?_
  refine oS (fun _ => XT.acmpYes X0.here hx rfl (pc0 := 2) (pc' := 7) rfl (hb hby dd6_2) rfl rfl rfl (XT.aa_ne_t (own_rne I879)) (by decide) (by decide)) ?_
  show own_G p e below (s₁.setTop (mkF m 7 #[rv ob_314, rv ob_773, .unset] [])) _
  refine oS (fun _ => XS.aloadN X0.here hx rfl (hb hby dd6_7) rfl rfl) ?_
  obtain ⟨T880, X881, e882, s883⟩ := instY X0 hx hZ hown (oW hw 66 rfl) e0 (Ins.self I884) (g := (mkF m 8 #[rv ob_314, rv ob_773, .unset] [(.ref ob_773)])) rfl rfl (hb hby dd6_8)
  refine oS s883 ?_
  show own_G p e below (T880.setTop (mkF m 11 #[rv ob_314, rv ob_773, .unset] [(.int 1)])) _
  refine oS (fun _ => XS.ifNo X881.here hx rfl (hb hby dd6_11) rfl (XT.i0_eq_f (by decide))) ?_
  show own_G p e below (T880.setTop (mkF m 14 #[rv ob_314, rv ob_773, .unset] [])) _
  refine oS (fun _ => XS.aloadN X881.here hx rfl (hb hby dd6_14) rfl rfl) ?_
  obtain ⟨T885, X886, e887, s888⟩ := castY X881 hx hZ hown (oW hw 66 rfl) e882 (Ins.self I884) (g := (mkF m 15 #[rv ob_314, rv ob_773, .unset] [(.ref ob_773)])) rfl rfl (hb hby dd6_15)
  refine oS s888 ?_
  show own_G p e below (T885.setTop (mkF m 18 #[rv ob_314, rv ob_773, .unset] [(.ref ob_773)])) _
  refine oS (fun _ => XS.astoreN X886.here hx rfl (hb hby dd6_18) rfl rfl (l' := #[rv ob_314, rv ob_773, rv ob_773]) rfl) ?_
  have F890 : Sta Z h0 "java/lang/String" "COMPACT_STRINGS" "Z" (.int in_6) := Sta.ext O0.2 I889
  obtain ⟨T891, X892, e893, s894⟩ := getS X886 hx hZ hown (host := "") (oW hw 67 rfl) Via.refl e887 F890 (g := (mkF m 19 #[rv ob_314, rv ob_773, rv ob_773] [])) rfl (hb hby dd6_19)
  refine oS s894 ?_
  show own_G p e below (T891.setTop (mkF m 22 #[rv ob_314, rv ob_773, rv ob_773] [(.int in_6)])) _
  refine oS (fun _ => XS.ifNo X892.here hx rfl (hb hby dd6_22) rfl (XT.i0_eq_f I895)) ?_
  show own_G p e below (T891.setTop (mkF m 25 #[rv ob_314, rv ob_773, rv ob_773] [])) _
  refine oS (fun _ => XS.aloadN X892.here hx rfl (hb hby dd6_25) rfl rfl) ?_
  obtain ⟨T897, X898, e899, s900⟩ := getF X892 hx hZ hown (host := "") (Or.inl (oW hw 32 rfl)) Via.refl e893 I896 (g := (mkF m 26 #[rv ob_314, rv ob_773, rv ob_773] [(.ref ob_314)])) rfl rfl (hb hby dd6_26)
  refine oS s900 ?_
  show own_G p e below (T897.setTop (mkF m 29 #[rv ob_314, rv ob_773, rv ob_773] [(.int 0)])) _
  refine oS (fun _ => XS.aloadN X898.here hx rfl (hb hby dd6_29) rfl rfl) ?_
  obtain ⟨T902, X903, e904, s905⟩ := getF X898 hx hZ hown (host := "") (Or.inl (oW hw 32 rfl)) Via.refl e899 I901 (g := (mkF m 30 #[rv ob_314, rv ob_773, rv ob_773] [(.ref ob_773), (.int 0)])) rfl rfl (hb hby dd6_30)
  refine oS s905 ?_
  show own_G p e below (T902.setTop (mkF m 33 #[rv ob_314, rv ob_773, rv ob_773] [(.int 0), (.int 0)])) _
  refine oS (fun _ => XS.icmpNo X903.here hx rfl (hb hby dd6_33) rfl (XT.ii_ne_f (by decide))) ?_
  show own_G p e below (T902.setTop (mkF m 36 #[rv ob_314, rv ob_773, rv ob_773] [])) _
  refine oS (fun _ => XS.aloadN X903.here hx rfl (hb hby dd6_36) rfl rfl) ?_
  obtain ⟨T907, X908, e909, s910⟩ := getF X903 hx hZ hown (host := "") (Or.inl (oW hw 31 rfl)) Via.refl e904 I906 (g := (mkF m 37 #[rv ob_314, rv ob_773, rv ob_773] [(.ref ob_314)])) rfl rfl (hb hby dd6_37)
  refine oS s910 ?_
  show own_G p e below (T907.setTop (mkF m 40 #[rv ob_314, rv ob_773, rv ob_773] [(.ref ob_315)])) _
  refine oS (fun _ => XS.aloadN X908.here hx rfl (hb hby dd6_40) rfl rfl) ?_
  obtain ⟨T912, X913, e914, s915⟩ := getF X908 hx hZ hown (host := "") (Or.inl (oW hw 31 rfl)) Via.refl e909 I911 (g := (mkF m 41 #[rv ob_314, rv ob_773, rv ob_773] [(.ref ob_773), (.ref ob_315)])) rfl rfl (hb hby dd6_41)
  refine oS s915 ?_
  show own_G p e below (T912.setTop (mkF m 44 #[rv ob_314, rv ob_773, rv ob_773] [(.ref ob_774), (.ref ob_315)])) _
  obtain ⟨T920, h921, v922, L923, X924, e925, q926, s927⟩ := own_callS X913 hx hZ hown e914 (y := (⟨"java/lang/StringLatin1", "equals", "([B[B)Z"⟩ : MethodName)) (oW hw 68 rfl) (oW hw 69 rfl) (oW hw 70 rfl) (oW hw 71 rfl) (by decide) (W := 0) (own_rm23 l Z a0 hw [] ob_315 ob_774 kk_316 kk_775 in_18 h0 n0 Z0 O0 I916 I917) (by decide) (by decide) (by decide) (by decide) (g := (mkF m 44 #[rv ob_314, rv ob_773, rv ob_773] [(.ref ob_774), (.ref ob_315)])) rfl (by rw [hml]; rfl) (argsL := [(.ref ob_315), (.ref ob_774)]) (rest := []) rfl (lenOf own_pd5 rfl) rfl (by show 2 * 0 + _ ≤ _; exact Nat.le_of_eq rfl) (hb hby dd6_44)
  refine oS s927 ?_
  obtain ⟨rfl, N928, K929⟩ := q926
  have N930 := Fr.app N0 N928
  have e931 := e925.trans K929
  show own_G p e below (T920.setTop (mkF m 47 #[rv ob_314, rv ob_773, rv ob_773] [(.int 0)])) _
  refine oS (fun _ => XS.ifYes X924.here hx rfl (pc0 := 47) (pc' := 54) rfl (hb hby dd6_47) rfl (XT.i0_eq_t (by decide)) (by decide) (by decide)) ?_
  show own_G p e below (T920.setTop (mkF m 54 #[rv ob_314, rv ob_773, rv ob_773] [])) _
  refine oS (fun _ => XS.iconst X924.here hx rfl (hb hby dd6_54) ) ?_
  exact own_retN X924 hx (t := .boolean) Bd.notSynchronized Bd.returns (by simp) (hb hby dd6_55) (by decide) e931 (by decide) (by decide) (⟨rfl, N930, rfl⟩)
theorem dd5_25 : decode prog_9_method_3_code 25 = .ok (.iconst 0, 1) := by decide +kernel
def own_Q21 (Z : State) (ob_802 : Nat) (ob_773 : Nat) (ob_9 : Nat) (ob_314 : Nat) (in_6 : Int32) (ob_315 : Nat) (ob_774 : Nat) (kk_316 : ClassId) (kk_775 : ClassId) (in_18 : Int32) (h0 : Heap) (n0 : Nat) (v : Option Value) (h : Heap) (L : List Loc) : Prop := (v = some (.int 0) ∧ Fr n0 L ∧ h = h0)
set_option maxRecDepth 65536 in
set_option maxHeartbeats 40000000 in
theorem own_rm21 (l : Launch) (Z : State) (a0 : Array Value) (hw : ∀ d ∈ tables_1, d.before a0 Z = true) (ws : List Jvm.Cond) (ob_802 : Nat) (ob_773 : Nat) (ob_9 : Nat) (ob_314 : Nat) (in_6 : Int32) (ob_315 : Nat) (ob_774 : Nat) (kk_316 : ClassId) (kk_775 : ClassId) (in_18 : Int32) (h0 : Heap) (n0 : Nat) (Z0 : n0 ≤ h0.size) (O0 : Old Z n0 h0) (I853 : Fld Z h0 ob_802 "com/example/latente/latente/query/JpqlLexer$Token" "kind" "Lcom/example/latente/latente/query/JpqlLexer$Kind;" (.ref ob_9)) (I858 : Sta Z Z.heap "com/example/latente/latente/query/JpqlLexer$Kind" "SYMBOL" "Lcom/example/latente/latente/query/JpqlLexer$Kind;" (.ref ob_9)) (I864 : Fld Z h0 ob_802 "com/example/latente/latente/query/JpqlLexer$Token" "text" "Ljava/lang/String;" (.ref ob_314)) (I869 : @Ne Nat ob_314 ob_773) (I870 : Exa Z h0 ob_773 "java/lang/String") (I871 : Sta Z Z.heap "java/lang/String" "COMPACT_STRINGS" "Z" (.int in_6)) (I872 : ¬ (in_6 = 0)) (I873 : Fld Z h0 ob_314 "java/lang/String" "coder" "B" (.int 0)) (I874 : Fld Z h0 ob_773 "java/lang/String" "coder" "B" (.int 0)) (I875 : Fld Z h0 ob_314 "java/lang/String" "value" "[B" (.ref ob_315)) (I876 : Fld Z h0 ob_773 "java/lang/String" "value" "[B" (.ref ob_774)) (I877 : Arv Z h0 ob_315 kk_316 .byte 0 [] (.int 0)) (I878 : Arv Z h0 ob_774 kk_775 .byte 1 [(.int (in_18.toInt8.toInt32))] (.int 0)) (I943 : Exa Z h0 ob_314 "java/lang/String") :
    own_Met l Z h0 (⟨"com/example/latente/latente/query/JpqlLexer$Token", "isSymbol", "(Ljava/lang/String;)Z"⟩ : MethodName) prog_9_method_3_code 2 (Option.some FieldType.boolean) ws ({ frames := 2, cells := 0, slots := 0, locals := 28 } : Room) #[(.ref ob_802), (.ref ob_773)] (own_Q21 Z ob_802 ob_773 ob_9 ob_314 in_6 ob_315 ob_774 kk_316 kk_775 in_18 h0 n0) 0 0 := by
  refine MetFree.of_bodySF own_pn7 hisR ?_
  intro p e s m args below meth c s₁ Bd hml0 hP hK
  obtain ⟨rfl, hZ, hh⟩ := hP
  have hx := Bd.exec
  have hby := Bd.bytes
  have hml : c.maxLocals = 2 := hml0
  have hown : s.vm.findClass "com/example/latente/latente/query/JpqlLexer$Token" = some m.cls := findClass_of_methodNamed Bd.named
  have hnm := (name_of_methodNamed Bd.named Bd.method).1
  have X0 : Stand p l e ({ frames := 2, cells := 0, slots := 0, locals := 28 } : Room) s m #[(.ref ob_802), (.ref ob_773)] below meth c s₁ [] 0 0 := Stand.of_body Bd
  have e0 : s₁.heap = h0 := by rw [← hh, Bd.state]; rfl
  have N0 := Fr.nil n0
  show own_G p e below (s₁.setTop (entryFrame m #[(.ref ob_802), (.ref ob_773)] 2)) (own_P s (own_Q21 Z ob_802 ob_773 ob_9 ob_314 in_6 ob_315 ob_774 kk_316 kk_775 in_18 h0 n0) 0 0)
  refine own_cast (own_ef2 m ob_802 ob_773) ?_
  show own_G p e below (s₁.setTop (mkF m 0 #[rv ob_802, rv ob_773] [])) _
  refine oS (fun _ => XS.aloadN X0.here hx rfl (hb hby dd5_0) rfl rfl) ?_
  obtain ⟨T854, X855, e856, s857⟩ := getF X0 hx hZ hown (host := "") (Or.inl (oW hw 45 rfl)) Via.refl e0 I853 (g := (mkF m 1 #[rv ob_802, rv ob_773] [(.ref ob_802)])) rfl rfl (hb hby dd5_1)
  refine oS s857 ?_
  show own_G p e below (T854.setTop (mkF m 4 #[rv ob_802, rv ob_773] [(.ref ob_9)])) _
  have F859 : Sta Z h0 "com/example/latente/latente/query/JpqlLexer$Kind" "SYMBOL" "Lcom/example/latente/latente/query/JpqlLexer$Kind;" (.ref ob_9) := Sta.ext O0.2 I858
  obtain ⟨T860, X861, e862, s863⟩ := getS X855 hx hZ hown (host := "") (oW hw 56 rfl) Via.refl e856 F859 (g := (mkF m 4 #[rv ob_802, rv ob_773] [(.ref ob_9)])) rfl (hb hby dd5_4)
  refine oS s863 ?_
  show own_G p e below (T860.setTop (mkF m 7 #[rv ob_802, rv ob_773] [(.ref ob_9), (.ref ob_9)])) _
  refine oS (fun _ => XT.acmpNo X861.here hx rfl (hb hby dd5_7) rfl rfl rfl (XT.aa_ne_f rfl)) ?_
  show own_G p e below (T860.setTop (mkF m 10 #[rv ob_802, rv ob_773] [])) _
  refine oS (fun _ => XS.aloadN X861.here hx rfl (hb hby dd5_10) rfl rfl) ?_
  obtain ⟨T865, X866, e867, s868⟩ := getF X861 hx hZ hown (host := "") (Or.inl (oW hw 47 rfl)) Via.refl e862 I864 (g := (mkF m 11 #[rv ob_802, rv ob_773] [(.ref ob_802)])) rfl rfl (hb hby dd5_11)
  refine oS s868 ?_
  show own_G p e below (T865.setTop (mkF m 14 #[rv ob_802, rv ob_773] [(.ref ob_314)])) _
  refine oS (fun _ => XS.aloadN X866.here hx rfl (hb hby dd5_14) rfl rfl) ?_
  obtain ⟨T932, h933, v934, L935, X936, e937, q938, s939⟩ := own_callV X866 hx hZ hown e867 (y := (⟨"java/lang/String", "equals", "(Ljava/lang/Object;)Z"⟩ : MethodName)) (z := (⟨"java/lang/String", "equals", "(Ljava/lang/Object;)Z"⟩ : MethodName)) (C := "java/lang/String") (b := ob_314) (oW hw 61 rfl) (oW hw 62 rfl) (notFace_of_selects (args := #[]) (mvT hZ (oW hw 64 rfl))) (oW hw 64 rfl) (oW hw 63 rfl) (oW hw 13 rfl) (oW hw 65 rfl) (by decide) I943 (W := 0) (own_rm22 l Z a0 hw [] ob_314 ob_773 in_6 ob_315 ob_774 kk_316 kk_775 in_18 h0 n0 Z0 O0 I869 I870 I871 I872 I873 I874 I875 I876 I877 I878) (by decide) (by decide) (by decide) (by decide) (g := (mkF m 15 #[rv ob_802, rv ob_773] [(.ref ob_773), (.ref ob_314)])) rfl (by rw [hml]; rfl) (argsL := [(.ref ob_773)]) (rest := []) rfl (lenOf own_pd6 rfl) rfl (by show 2 * 0 + _ ≤ _; exact Nat.le_of_eq rfl) (hb hby dd5_15)
  refine oS s939 ?_
  obtain ⟨rfl, N944, K945⟩ := q938
  have N946 := Fr.app N0 N944
  have e947 := e937.trans K945
  show own_G p e below (T932.setTop (mkF m 18 #[rv ob_802, rv ob_773] [(.int 0)])) _
  refine oS (fun _ => XS.ifYes X936.here hx rfl (pc0 := 18) (pc' := 25) rfl (hb hby dd5_18) rfl (XT.i0_eq_t (by decide)) (by decide) (by decide)) ?_
  show own_G p e below (T932.setTop (mkF m 25 #[rv ob_802, rv ob_773] [])) _
  refine oS (fun _ => XS.iconst X936.here hx rfl (hb hby dd5_25) ) ?_
  exact own_retN X936 hx (t := .boolean) Bd.notSynchronized Bd.returns (by simp) (hb hby dd5_26) (by decide) e947 (by decide) (by decide) (⟨rfl, N946, rfl⟩)
theorem dd0_25 : decode method_3_code 25 = .ok (.new 31, 3) := by decide +kernel
theorem dd0_28 : decode method_3_code 28 = .ok (.dup, 1) := by decide +kernel
theorem dd0_29 : decode method_3_code 29 = .ok (.iconst 2, 1) := by decide +kernel
theorem dd0_30 : decode method_3_code 30 = .ok (.newarray .char, 2) := by decide +kernel
theorem dd0_32 : decode method_3_code 32 = .ok (.dup, 1) := by decide +kernel
theorem dd0_33 : decode method_3_code 33 = .ok (.iconst 0, 1) := by decide +kernel
theorem dd0_34 : decode method_3_code 34 = .ok (.iload_n 1, 1) := by decide +kernel
theorem dd0_35 : decode method_3_code 35 = .ok (.castore, 1) := by decide +kernel
theorem dd0_36 : decode method_3_code 36 = .ok (.dup, 1) := by decide +kernel
theorem dd0_37 : decode method_3_code 37 = .ok (.iconst 1, 1) := by decide +kernel
theorem dd0_38 : decode method_3_code 38 = .ok (.iload_n 2, 1) := by decide +kernel
theorem dd0_39 : decode method_3_code 39 = .ok (.castore, 1) := by decide +kernel
theorem dd2_27 : decode jdk_42_method_149_code 27 = .ok (.getstatic 38, 3) := by decide +kernel
theorem dd2_30 : decode jdk_42_method_149_code 30 = .ok (.ifCond .eq 28, 3) := by decide +kernel
theorem dd2_33 : decode jdk_42_method_149_code 33 = .ok (.aload_n 1, 1) := by decide +kernel
theorem dd2_34 : decode jdk_42_method_149_code 34 = .ok (.iload_n 2, 1) := by decide +kernel
theorem dd2_35 : decode jdk_42_method_149_code 35 = .ok (.iload_n 3, 1) := by decide +kernel
theorem own_ef9 (m : MethodId) (x0 : Addr) (x1 : Int32) (x2 : Int32) : entryFrame m #[(.ref x0), (.int x1), (.int x2)] 6 = mkF m 0 #[.val (.ref x0), .val (.int x1), .val (.int x2), .unset, .unset, .unset] [] := by first | (simp [entryFrame, mkF, argsToLocals, Value.category]; done) | rfl
theorem dd12_0 : decode jdk_52_method_16_code 0 = .ok (.iload_n 2, 1) := by decide +kernel
theorem dd12_1 : decode jdk_52_method_16_code 1 = .ok (.newarray .byte, 2) := by decide +kernel
theorem dd12_3 : decode jdk_52_method_16_code 3 = .ok (.astore_n 3, 1) := by decide +kernel
theorem dd12_4 : decode jdk_52_method_16_code 4 = .ok (.aload_n 0, 1) := by decide +kernel
theorem dd12_5 : decode jdk_52_method_16_code 5 = .ok (.iload_n 1, 1) := by decide +kernel
theorem dd12_6 : decode jdk_52_method_16_code 6 = .ok (.aload_n 3, 1) := by decide +kernel
theorem dd12_7 : decode jdk_52_method_16_code 7 = .ok (.iconst 0, 1) := by decide +kernel
theorem dd12_8 : decode jdk_52_method_16_code 8 = .ok (.iload_n 2, 1) := by decide +kernel
theorem own_ef10 (m : MethodId) (x0 : Addr) (x1 : Int32) (x2 : Addr) (x3 : Int32) (x4 : Int32) : entryFrame m #[(.ref x0), (.int x1), (.ref x2), (.int x3), (.int x4)] 7 = mkF m 0 #[.val (.ref x0), .val (.int x1), .val (.ref x2), .val (.int x3), .val (.int x4), .unset, .unset] [] := by first | (simp [entryFrame, mkF, argsToLocals, Value.category]; done) | rfl
theorem dd13_0 : decode jdk_52_method_21_code 0 = .ok (.iconst 0, 1) := by decide +kernel
theorem dd13_1 : decode jdk_52_method_21_code 1 = .ok (.istore 5, 2) := by decide +kernel
theorem dd13_3 : decode jdk_52_method_21_code 3 = .ok (.iload 5, 2) := by decide +kernel
theorem dd13_5 : decode jdk_52_method_21_code 5 = .ok (.iload 4, 2) := by decide +kernel
theorem dd13_7 : decode jdk_52_method_21_code 7 = .ok (.if_icmp .ge 37, 3) := by decide +kernel
theorem dd13_10 : decode jdk_52_method_21_code 10 = .ok (.aload_n 0, 1) := by decide +kernel
theorem dd13_11 : decode jdk_52_method_21_code 11 = .ok (.iload_n 1, 1) := by decide +kernel
theorem dd13_12 : decode jdk_52_method_21_code 12 = .ok (.caload, 1) := by decide +kernel
theorem dd13_13 : decode jdk_52_method_21_code 13 = .ok (.istore 6, 2) := by decide +kernel
theorem dd13_15 : decode jdk_52_method_21_code 15 = .ok (.iload 6, 2) := by decide +kernel
theorem dd13_17 : decode jdk_52_method_21_code 17 = .ok (.sipush 255, 3) := by decide +kernel
theorem dd13_20 : decode jdk_52_method_21_code 20 = .ok (.if_icmp .le 6, 3) := by decide +kernel
theorem dd13_26 : decode jdk_52_method_21_code 26 = .ok (.aload_n 2, 1) := by decide +kernel
theorem dd13_27 : decode jdk_52_method_21_code 27 = .ok (.iload_n 3, 1) := by decide +kernel
theorem dd13_28 : decode jdk_52_method_21_code 28 = .ok (.iload 6, 2) := by decide +kernel
theorem dd13_30 : decode jdk_52_method_21_code 30 = .ok (.i2b, 1) := by decide +kernel
theorem dd13_31 : decode jdk_52_method_21_code 31 = .ok (.bastore, 1) := by decide +kernel
theorem dd13_32 : decode jdk_52_method_21_code 32 = .ok (.iinc 1 1, 3) := by decide +kernel
theorem dd13_35 : decode jdk_52_method_21_code 35 = .ok (.iinc 3 1, 3) := by decide +kernel
theorem dd13_38 : decode jdk_52_method_21_code 38 = .ok (.iinc 5 1, 3) := by decide +kernel
theorem dd13_41 : decode jdk_52_method_21_code 41 = .ok (.goto (-38), 3) := by decide +kernel
theorem dd13_44 : decode jdk_52_method_21_code 44 = .ok (.iload 4, 2) := by decide +kernel
theorem dd13_46 : decode jdk_52_method_21_code 46 = .ok (.ireturn, 1) := by decide +kernel
def own_Q28 (Z : State) (ob_989 : Nat) (ob_1043 : Nat) (kk_987 : ClassId) (in_18 : Int32) (in_19 : Int32) (kk_1041 : ClassId) (h0 : Heap) (n0 : Nat) (v : Option Value) (h : Heap) (L : List Loc) : Prop := (v = some (.int 2) ∧ Fr n0 L ∧ Keep h0 h [ob_1043] ∧ Arv Z h ob_1043 kk_1041 .byte 2 [(.int (in_18.toInt8.toInt32)), (.int (in_19.toInt8.toInt32))] (.int 0) ∧ Exa Z h ob_1043 "[B")
theorem own_pn12 : plainFor (⟨"java/lang/StringUTF16", "compress", "([CI[BII)I"⟩ : MethodName) = true := by decide +kernel
set_option maxRecDepth 65536 in
set_option maxHeartbeats 40000000 in
theorem own_rm28 (l : Launch) (Z : State) (a0 : Array Value) (hw : ∀ d ∈ tables_1, d.before a0 Z = true) (ws : List Jvm.Cond) (ob_989 : Nat) (ob_1043 : Nat) (kk_987 : ClassId) (in_18 : Int32) (in_19 : Int32) (kk_1041 : ClassId) (h0 : Heap) (n0 : Nat) (Z0 : n0 ≤ h0.size) (O0 : Old Z n0 h0) (I1050 : Arv Z h0 ob_989 kk_987 .char 2 [(.int in_18), (.int in_19)] (.int 0)) (I1055 : ¬ (255 < in_18)) (I1056 : Arv Z h0 ob_1043 kk_1041 .byte 2 [(.int 0), (.int 0)] (.int 0)) (I1066 : n0 ≤ ob_1043) (I1076 : @Ne Nat ob_989 ob_1043) (I1082 : ¬ (255 < in_19)) (I1093 : Exa Z h0 ob_1043 "[B") :
    own_Met l Z h0 (⟨"java/lang/StringUTF16", "compress", "([CI[BII)I"⟩ : MethodName) jdk_52_method_21_code 7 (Option.some FieldType.int) ws ({ frames := 0, cells := 0, slots := 0, locals := 0 } : Room) #[(.ref ob_989), (.int 0), (.ref ob_1043), (.int 0), (.int 2)] (own_Q28 Z ob_989 ob_1043 kk_987 in_18 in_19 kk_1041 h0 n0) 0 0 := by
  refine MetFree.of_bodySF own_pn12 hisR ?_
  intro p e s m args below meth c s₁ Bd hml0 hP hK
  obtain ⟨rfl, hZ, hh⟩ := hP
  have hx := Bd.exec
  have hby := Bd.bytes
  have hml : c.maxLocals = 7 := hml0
  have hown : s.vm.findClass "java/lang/StringUTF16" = some m.cls := findClass_of_methodNamed Bd.named
  have hnm := (name_of_methodNamed Bd.named Bd.method).1
  have X0 : Stand p l e ({ frames := 0, cells := 0, slots := 0, locals := 0 } : Room) s m #[(.ref ob_989), (.int 0), (.ref ob_1043), (.int 0), (.int 2)] below meth c s₁ [] 0 0 := Stand.of_body Bd
  have e0 : s₁.heap = h0 := by rw [← hh, Bd.state]; rfl
  have N0 := Fr.nil n0
  show own_G p e below (s₁.setTop (entryFrame m #[(.ref ob_989), (.int 0), (.ref ob_1043), (.int 0), (.int 2)] 7)) (own_P s (own_Q28 Z ob_989 ob_1043 kk_987 in_18 in_19 kk_1041 h0 n0) 0 0)
  refine own_cast (own_ef10 m ob_989 0 ob_1043 0 2) ?_
  show own_G p e below (s₁.setTop (mkF m 0 #[rv ob_989, iv 0, rv ob_1043, iv 0, iv 2, .unset, .unset] [])) _
  refine oS (fun _ => XS.iconst X0.here hx rfl (hb hby dd13_0) ) ?_
  refine oS (fun _ => XS.istore X0.here hx rfl (hb hby dd13_1) rfl (l' := #[rv ob_989, iv 0, rv ob_1043, iv 0, iv 2, iv 0, .unset]) rfl) ?_
  refine oS (fun _ => XS.iload X0.here hx rfl (hb hby dd13_3) rfl) ?_
  refine oS (fun _ => XS.iload X0.here hx rfl (hb hby dd13_5) rfl) ?_
  show own_G p e below (s₁.setTop (mkF m 7 #[rv ob_989, iv 0, rv ob_1043, iv 0, iv 2, iv 0, .unset] [(.int 2), (.int 0)])) _
  refine oS (fun _ => XS.icmpNo X0.here hx rfl (hb hby dd13_7) rfl (XT.ii_ge_f (by decide))) ?_
  show own_G p e below (s₁.setTop (mkF m 10 #[rv ob_989, iv 0, rv ob_1043, iv 0, iv 2, iv 0, .unset] [])) _
  refine oS (fun _ => XS.aloadN X0.here hx rfl (hb hby dd13_10) rfl rfl) ?_
  refine oS (fun _ => XS.iloadN X0.here hx rfl (hb hby dd13_11) rfl) ?_
  refine oS (own_caload X0 hx hZ e0 I1050 (by decide) (v := (.int in_18)) rfl rfl rfl (hb hby dd13_12)) ?_
  show own_G p e below (s₁.setTop (mkF m 13 #[rv ob_989, iv 0, rv ob_1043, iv 0, iv 2, iv 0, .unset] [(.int in_18)])) _
  refine oS (fun _ => XS.istore X0.here hx rfl (hb hby dd13_13) rfl (l' := #[rv ob_989, iv 0, rv ob_1043, iv 0, iv 2, iv 0, iv in_18]) rfl) ?_
  refine oS (fun _ => XS.iload X0.here hx rfl (hb hby dd13_15) rfl) ?_
  refine oS (fun _ => XS.sipush X0.here hx rfl (hb hby dd13_17) ) ?_
  refine oS (fun _ => XS.icmpYes X0.here hx rfl (pc0 := 20) (pc' := 26) rfl (hb hby dd13_20) rfl (XT.ii_le_t I1055) (by decide) (by decide)) ?_
  show own_G p e below (s₁.setTop (mkF m 26 #[rv ob_989, iv 0, rv ob_1043, iv 0, iv 2, iv 0, iv in_18] [])) _
  refine oS (fun _ => XS.aloadN X0.here hx rfl (hb hby dd13_26) rfl rfl) ?_
  refine oS (fun _ => XS.iloadN X0.here hx rfl (hb hby dd13_27) rfl) ?_
  refine oS (fun _ => XS.iload X0.here hx rfl (hb hby dd13_28) rfl) ?_
  refine oS (fun _ => XT.i2b X0.here hx rfl (hb hby dd13_30) rfl) ?_
  show own_G p e below (s₁.setTop (mkF m 31 #[rv ob_989, iv 0, rv ob_1043, iv 0, iv 2, iv 0, iv in_18] [(.int (in_18.toInt8.toInt32)), (.int 0), (.ref ob_1043)])) _
  obtain ⟨T1057, h1058, X1059, e1060, W1061, A1062, s1063⟩ := own_stB X0 hx hZ e0 I1056 (x' := (in_18.toInt8.toInt32)) 0 (own_narB _) rfl (by decide) (by simp) (g := (mkF m 31 #[rv ob_989, iv 0, rv ob_1043, iv 0, iv 2, iv 0, iv in_18] [(.int (in_18.toInt8.toInt32)), (.int 0), (.ref ob_1043)])) rfl (rest := []) rfl (hb hby dd13_31)
  have N1064 := Fr.snoc X1059 N0 I1066
  have z1067 := W1061.size
  have F1068 : Arv Z h1058 ob_1043 kk_1041 .byte 2 [(.int (in_18.toInt8.toInt32)), (.int 0)] (.int 0) := A1062
  refine oS s1063 ?_
  show own_G p e below (T1057.setTop (mkF m 32 #[rv ob_989, iv 0, rv ob_1043, iv 0, iv 2, iv 0, iv in_18] [])) _
  refine oS (fun _ => XS.iinc X1059.here hx rfl (hb hby dd13_32) rfl (l' := #[rv ob_989, iv 1, rv ob_1043, iv 0, iv 2, iv 0, iv in_18]) rfl) ?_
  show own_G p e below (T1057.setTop (mkF m 35 #[rv ob_989, iv 1, rv ob_1043, iv 0, iv 2, iv 0, iv in_18] [])) _
  refine oS (fun _ => XS.iinc X1059.here hx rfl (hb hby dd13_35) rfl (l' := #[rv ob_989, iv 1, rv ob_1043, iv 1, iv 2, iv 0, iv in_18]) rfl) ?_
  show own_G p e below (T1057.setTop (mkF m 38 #[rv ob_989, iv 1, rv ob_1043, iv 1, iv 2, iv 0, iv in_18] [])) _
  refine oS (fun _ => XS.iinc X1059.here hx rfl (hb hby dd13_38) rfl (l' := #[rv ob_989, iv 1, rv ob_1043, iv 1, iv 2, iv 1, iv in_18]) rfl) ?_
  show own_G p e below (T1057.setTop (mkF m 41 #[rv ob_989, iv 1, rv ob_1043, iv 1, iv 2, iv 1, iv in_18] [])) _
  refine oS (fun _ => XS.goto X1059.here hx rfl (pc0 := 41) (pc' := 3) rfl (hb hby dd13_41) (by decide) (by decide)) ?_
  show own_G p e below (T1057.setTop (mkF m 3 #[rv ob_989, iv 1, rv ob_1043, iv 1, iv 2, iv 1, iv in_18] [])) _
  refine oS (fun _ => XS.iload X1059.here hx rfl (hb hby dd13_3) rfl) ?_
  refine oS (fun _ => XS.iload X1059.here hx rfl (hb hby dd13_5) rfl) ?_
  refine oS (fun _ => XS.icmpNo X1059.here hx rfl (hb hby dd13_7) rfl (XT.ii_ge_f (by decide))) ?_
  show own_G p e below (T1057.setTop (mkF m 10 #[rv ob_989, iv 1, rv ob_1043, iv 1, iv 2, iv 1, iv in_18] [])) _
  refine oS (fun _ => XS.aloadN X1059.here hx rfl (hb hby dd13_10) rfl rfl) ?_
  refine oS (fun _ => XS.iloadN X1059.here hx rfl (hb hby dd13_11) rfl) ?_
  have F1077 : Arv Z h1058 ob_989 kk_987 .char 2 [(.int in_18), (.int in_19)] (.int 0) := I1050.other W1061 I1076
  refine oS (own_caload X1059 hx hZ e1060 F1077 (by decide) (v := (.int in_19)) rfl rfl rfl (hb hby dd13_12)) ?_
  show own_G p e below (T1057.setTop (mkF m 13 #[rv ob_989, iv 1, rv ob_1043, iv 1, iv 2, iv 1, iv in_18] [(.int in_19)])) _
  refine oS (fun _ => XS.istore X1059.here hx rfl (hb hby dd13_13) rfl (l' := #[rv ob_989, iv 1, rv ob_1043, iv 1, iv 2, iv 1, iv in_19]) rfl) ?_
  refine oS (fun _ => XS.iload X1059.here hx rfl (hb hby dd13_15) rfl) ?_
  refine oS (fun _ => XS.sipush X1059.here hx rfl (hb hby dd13_17) ) ?_
  refine oS (fun _ => XS.icmpYes X1059.here hx rfl (pc0 := 20) (pc' := 26) rfl (hb hby dd13_20) rfl (XT.ii_le_t I1082) (by decide) (by decide)) ?_
  show own_G p e below (T1057.setTop (mkF m 26 #[rv ob_989, iv 1, rv ob_1043, iv 1, iv 2, iv 1, iv in_19] [])) _
  refine oS (fun _ => XS.aloadN X1059.here hx rfl (hb hby dd13_26) rfl rfl) ?_
  refine oS (fun _ => XS.iloadN X1059.here hx rfl (hb hby dd13_27) rfl) ?_
  refine oS (fun _ => XS.iload X1059.here hx rfl (hb hby dd13_28) rfl) ?_
  refine oS (fun _ => XT.i2b X1059.here hx rfl (hb hby dd13_30) rfl) ?_
  show own_G p e below (T1057.setTop (mkF m 31 #[rv ob_989, iv 1, rv ob_1043, iv 1, iv 2, iv 1, iv in_19] [(.int (in_19.toInt8.toInt32)), (.int 1), (.ref ob_1043)])) _
  obtain ⟨T1083, h1084, X1085, e1086, W1087, A1088, s1089⟩ := own_stB X1059 hx hZ e1060 F1068 (x' := (in_19.toInt8.toInt32)) 1 (own_narB _) rfl (by decide) (by simp) (g := (mkF m 31 #[rv ob_989, iv 1, rv ob_1043, iv 1, iv 2, iv 1, iv in_19] [(.int (in_19.toInt8.toInt32)), (.int 1), (.ref ob_1043)])) rfl (rest := []) rfl (hb hby dd13_31)
  have N1090 := Fr.snoc X1085 N1064 I1066
  have z1091 := W1087.size
  have F1092 : Arv Z h1084 ob_1043 kk_1041 .byte 2 [(.int (in_18.toInt8.toInt32)), (.int (in_19.toInt8.toInt32))] (.int 0) := A1088
  refine oS s1089 ?_
  show own_G p e below (T1083.setTop (mkF m 32 #[rv ob_989, iv 1, rv ob_1043, iv 1, iv 2, iv 1, iv in_19] [])) _
  refine oS (fun _ => XS.iinc X1085.here hx rfl (hb hby dd13_32) rfl (l' := #[rv ob_989, iv 2, rv ob_1043, iv 1, iv 2, iv 1, iv in_19]) rfl) ?_
  show own_G p e below (T1083.setTop (mkF m 35 #[rv ob_989, iv 2, rv ob_1043, iv 1, iv 2, iv 1, iv in_19] [])) _
  refine oS (fun _ => XS.iinc X1085.here hx rfl (hb hby dd13_35) rfl (l' := #[rv ob_989, iv 2, rv ob_1043, iv 2, iv 2, iv 1, iv in_19]) rfl) ?_
  show own_G p e below (T1083.setTop (mkF m 38 #[rv ob_989, iv 2, rv ob_1043, iv 2, iv 2, iv 1, iv in_19] [])) _
  refine oS (fun _ => XS.iinc X1085.here hx rfl (hb hby dd13_38) rfl (l' := #[rv ob_989, iv 2, rv ob_1043, iv 2, iv 2, iv 2, iv in_19]) rfl) ?_
  show own_G p e below (T1083.setTop (mkF m 41 #[rv ob_989, iv 2, rv ob_1043, iv 2, iv 2, iv 2, iv in_19] [])) _
  refine oS (fun _ => XS.goto X1085.here hx rfl (pc0 := 41) (pc' := 3) rfl (hb hby dd13_41) (by decide) (by decide)) ?_
  show own_G p e below (T1083.setTop (mkF m 3 #[rv ob_989, iv 2, rv ob_1043, iv 2, iv 2, iv 2, iv in_19] [])) _
  refine oS (fun _ => XS.iload X1085.here hx rfl (hb hby dd13_3) rfl) ?_
  refine oS (fun _ => XS.iload X1085.here hx rfl (hb hby dd13_5) rfl) ?_
  refine oS (fun _ => XS.icmpYes X1085.here hx rfl (pc0 := 7) (pc' := 44) rfl (hb hby dd13_7) rfl (XT.ii_ge_t (by decide)) (by decide) (by decide)) ?_
  show own_G p e below (T1083.setTop (mkF m 44 #[rv ob_989, iv 2, rv ob_1043, iv 2, iv 2, iv 2, iv in_19] [])) _
  refine oS (fun _ => XS.iload X1085.here hx rfl (hb hby dd13_44) rfl) ?_
  have F1094 : Exa Z h1058 ob_1043 "[B" := Exa.wr W1061 I1093
  have F1095 : Exa Z h1084 ob_1043 "[B" := Exa.wr W1087 F1094
  have K1096 : Keep h0 h1084 [ob_1043] := (((Keep.refl h0 [ob_1043]).wr W1061 (Or.inl (by simp))).wr W1087 (Or.inl (by simp)))
  exact own_retI X1085 hx Bd.notSynchronized Bd.returns (hb hby dd13_46) e1086 (by decide) (by decide) (⟨rfl, N1090, K1096, F1092, F1095⟩)
theorem own_pd12 : parseMethodDescriptor "([CI[BII)I" = some ⟨[(.array .char), .int, (.array .byte), .int, .int], (some .int)⟩ := by decide +kernel
theorem dd12_9 : decode jdk_52_method_16_code 9 = .ok (.invokestatic 115, 3) := by decide +kernel
theorem dd12_12 : decode jdk_52_method_16_code 12 = .ok (.istore 4, 2) := by decide +kernel
theorem dd12_14 : decode jdk_52_method_16_code 14 = .ok (.iload 4, 2) := by decide +kernel
theorem dd12_16 : decode jdk_52_method_16_code 16 = .ok (.iload_n 2, 1) := by decide +kernel
theorem dd12_17 : decode jdk_52_method_16_code 17 = .ok (.if_icmp .eq 40, 3) := by decide +kernel
theorem dd12_57 : decode jdk_52_method_16_code 57 = .ok (.aload_n 3, 1) := by decide +kernel
theorem dd12_58 : decode jdk_52_method_16_code 58 = .ok (.areturn, 1) := by decide +kernel
def own_Q27 (Z : State) (ob_989 : Nat) (kk_987 : ClassId) (in_18 : Int32) (in_19 : Int32) (h0 : Heap) (n0 : Nat) (v : Option Value) (h : Heap) (L : List Loc) : Prop := (∃ ob_1043 : Nat, ∃ kk_1041 : ClassId, v = some (.ref ob_1043) ∧ Fr n0 L ∧ Keep h0 h [] ∧ h0.size ≤ ob_1043 ∧ Arv Z h ob_1043 kk_1041 .byte 2 [(.int (in_18.toInt8.toInt32)), (.int (in_19.toInt8.toInt32))] (.int 0) ∧ Exa Z h ob_1043 "[B" ∧ @LT.lt Nat instLTNat ob_1043 h.size)
theorem own_pn13 : plainFor (⟨"java/lang/StringUTF16", "compress", "([CII)[B"⟩ : MethodName) = true := by decide +kernel
set_option maxRecDepth 65536 in
set_option maxHeartbeats 40000000 in
theorem own_rm27 (l : Launch) (Z : State) (a0 : Array Value) (hw : ∀ d ∈ tables_1, d.before a0 Z = true) (ws : List Jvm.Cond) (ob_989 : Nat) (kk_987 : ClassId) (in_18 : Int32) (in_19 : Int32) (h0 : Heap) (n0 : Nat) (Z0 : n0 ≤ h0.size) (O0 : Old Z n0 h0) (I1048 : Arv Z h0 ob_989 kk_987 .char 2 [(.int in_18), (.int in_19)] (.int 0)) (I1054 : ¬ (255 < in_18)) (I1074 : @LT.lt Nat instLTNat ob_989 h0.size) (I1081 : ¬ (255 < in_19)) :
    own_Met l Z h0 (⟨"java/lang/StringUTF16", "compress", "([CII)[B"⟩ : MethodName) jdk_52_method_16_code 6 (Option.some (FieldType.array FieldType.byte)) ws ({ frames := 1, cells := 1, slots := 2, locals := 18 } : Room) #[(.ref ob_989), (.int 0), (.int 2)] (own_Q27 Z ob_989 kk_987 in_18 in_19 h0 n0) 1 2 := by
  refine MetFree.of_bodySF own_pn13 hisR ?_
  intro p e s m args below meth c s₁ Bd hml0 hP hK
  obtain ⟨rfl, hZ, hh⟩ := hP
  have hx := Bd.exec
  have hby := Bd.bytes
  have hml : c.maxLocals = 6 := hml0
  have hown : s.vm.findClass "java/lang/StringUTF16" = some m.cls := findClass_of_methodNamed Bd.named
  have hnm := (name_of_methodNamed Bd.named Bd.method).1
  have X0 : Stand p l e ({ frames := 1, cells := 1, slots := 2, locals := 18 } : Room) s m #[(.ref ob_989), (.int 0), (.int 2)] below meth c s₁ [] 0 0 := Stand.of_body Bd
  have e0 : s₁.heap = h0 := by rw [← hh, Bd.state]; rfl
  have N0 := Fr.nil n0
  show own_G p e below (s₁.setTop (entryFrame m #[(.ref ob_989), (.int 0), (.int 2)] 6)) (own_P s (own_Q27 Z ob_989 kk_987 in_18 in_19 h0 n0) 1 2)
  refine own_cast (own_ef9 m ob_989 0 2) ?_
  show own_G p e below (s₁.setTop (mkF m 0 #[rv ob_989, iv 0, iv 2, .unset, .unset, .unset] [])) _
  refine oS (fun _ => XS.iloadN X0.here hx rfl (hb hby dd12_0) rfl) ?_
  obtain ⟨T1032, h1033, kk_1041, X1035, e1036, E1037, A1038, B1042, s1039⟩ := own_newP X0 hx hZ (aty := .byte) (oW hw 26 rfl) e0 (nm := "[B") rfl (g := (mkF m 1 #[rv ob_989, iv 0, iv 2, .unset, .unset, .unset] [(.int 2)])) rfl (hb hby dd12_1) (n := 2) (rest := []) rfl (by decide) (cap := 2) (by decide) (by decide) (by decide) (by decide)
  obtain ⟨ob_1043, g1044⟩ : ∃ z, z = h0.size := ⟨_, rfl⟩
  rw [← g1044] at A1038 B1042 s1039
  have F1045 : Arv Z h1033 ob_1043 kk_1041 .byte 2 [(.int 0), (.int 0)] (.int 0) := own_newA A1038 (by decide) rfl rfl
  have z1046 := E1037.1
  have y1040 : @LT.lt Nat instLTNat ob_1043 h1033.size := F1045.lt
  refine oS s1039 ?_
  show own_G p e below (T1032.setTop (mkF m 3 #[rv ob_989, iv 0, iv 2, .unset, .unset, .unset] [(.ref ob_1043)])) _
  refine oS (fun _ => XS.astoreN X1035.here hx rfl (hb hby dd12_3) rfl rfl (l' := #[rv ob_989, iv 0, iv 2, rv ob_1043, .unset, .unset]) rfl) ?_
  refine oS (fun _ => XS.aloadN X1035.here hx rfl (hb hby dd12_4) rfl rfl) ?_
  refine oS (fun _ => XS.iloadN X1035.here hx rfl (hb hby dd12_5) rfl) ?_
  refine oS (fun _ => XS.aloadN X1035.here hx rfl (hb hby dd12_6) rfl rfl) ?_
  show own_G p e below (T1032.setTop (mkF m 7 #[rv ob_989, iv 0, iv 2, rv ob_1043, .unset, .unset] [(.ref ob_1043), (.int 0), (.ref ob_989)])) _
  refine oS (fun _ => XS.iconst X1035.here hx rfl (hb hby dd12_7) ) ?_
  refine oS (fun _ => XS.iloadN X1035.here hx rfl (hb hby dd12_8) rfl) ?_
  have F1049 : Arv Z h1033 ob_989 kk_987 .char 2 [(.int in_18), (.int in_19)] (.int 0) := I1048.ext E1037
  have N1065 : n0 ≤ ob_1043 := by omega
  have N1075 : @Ne Nat ob_989 ob_1043 := by omega
  have O1097 : Old Z n0 h1033 := O0.ext E1037
  have Z1098 : n0 ≤ h1033.size := by omega
  obtain ⟨T1099, h1100, v1101, L1102, X1103, e1104, q1105, s1106⟩ := own_callS X1035 hx hZ hown e1036 (y := (⟨"java/lang/StringUTF16", "compress", "([CI[BII)I"⟩ : MethodName)) (oW hw 92 rfl) (oW hw 93 rfl) (oW hw 90 rfl) (oW hw 94 rfl) (by decide) (W := 0) (own_rm28 l Z a0 hw [] ob_989 ob_1043 kk_987 in_18 in_19 kk_1041 h1033 n0 Z1098 O1097 F1049 I1054 F1045 N1065 N1075 I1081 B1042) (by decide) (by decide) (by decide) (by decide) (g := (mkF m 9 #[rv ob_989, iv 0, iv 2, rv ob_1043, .unset, .unset] [(.int 2), (.int 0), (.ref ob_1043), (.int 0), (.ref ob_989)])) rfl (by rw [hml]; rfl) (argsL := [(.ref ob_989), (.int 0), (.ref ob_1043), (.int 0), (.int 2)]) (rest := []) rfl (lenOf own_pd12 rfl) rfl (by show 2 * 0 + _ ≤ _; exact Nat.le_of_eq rfl) (hb hby dd12_9)
  refine oS s1106 ?_
  obtain ⟨rfl, N1107, K1108, F1109, F1110⟩ := q1105
  have N1111 := Fr.app N0 N1107
  have z1112 := K1108.1
  show own_G p e below (T1099.setTop (mkF m 12 #[rv ob_989, iv 0, iv 2, rv ob_1043, .unset, .unset] [(.int 2)])) _
  refine oS (fun _ => XS.istore X1103.here hx rfl (hb hby dd12_12) rfl (l' := #[rv ob_989, iv 0, iv 2, rv ob_1043, iv 2, .unset]) rfl) ?_
  refine oS (fun _ => XS.iload X1103.here hx rfl (hb hby dd12_14) rfl) ?_
  refine oS (fun _ => XS.iloadN X1103.here hx rfl (hb hby dd12_16) rfl) ?_
  refine oS (fun _ => XS.icmpYes X1103.here hx rfl (pc0 := 17) (pc' := 57) rfl (hb hby dd12_17) rfl (XT.ii_eq_t (by decide)) (by decide) (by decide)) ?_
  show own_G p e below (T1099.setTop (mkF m 57 #[rv ob_989, iv 0, iv 2, rv ob_1043, iv 2, .unset] [])) _
  refine oS (fun _ => XS.aloadN X1103.here hx rfl (hb hby dd12_57) rfl rfl) ?_
  have y1113 : @LT.lt Nat instLTNat ob_1043 h1100.size := by omega
  have K1114 : Keep h0 h1100 [] := (((Keep.refl h0 []).ext E1037).trans K1108 (allS (Or.inr (by omega)) all0))
  exact own_retA X1103 hx Bd.notSynchronized Bd.returns rfl rfl (hb hby dd12_58) e1104 (by decide) (by decide) (⟨ob_1043, kk_1041, rfl, N1111, K1114, (by omega), F1109, F1110, y1113⟩)
theorem own_pd13 : parseMethodDescriptor "([CII)[B" = some ⟨[(.array .char), .int, .int], (some (.array .byte))⟩ := by decide +kernel
theorem dd2_36 : decode jdk_42_method_149_code 36 = .ok (.invokestatic 177, 3) := by decide +kernel
theorem dd2_39 : decode jdk_42_method_149_code 39 = .ok (.astore 5, 2) := by decide +kernel
theorem dd2_41 : decode jdk_42_method_149_code 41 = .ok (.aload_n 0, 1) := by decide +kernel
theorem dd2_42 : decode jdk_42_method_149_code 42 = .ok (.aload 5, 2) := by decide +kernel
theorem dd2_44 : decode jdk_42_method_149_code 44 = .ok (.iload_n 3, 1) := by decide +kernel
theorem own_ef11 (m : MethodId) (x0 : Addr) (x1 : Int32) : entryFrame m #[(.ref x0), (.int x1)] 2 = mkF m 0 #[.val (.ref x0), .val (.int x1)] [] := by first | (simp [entryFrame, mkF, argsToLocals, Value.category]; done) | rfl
theorem dd14_0 : decode jdk_52_method_15_code 0 = .ok (.iload_n 1, 1) := by decide +kernel
theorem dd14_1 : decode jdk_52_method_15_code 1 = .ok (.aload_n 0, 1) := by decide +kernel
theorem dd14_2 : decode jdk_52_method_15_code 2 = .ok (.arraylength, 1) := by decide +kernel
theorem dd14_3 : decode jdk_52_method_15_code 3 = .ok (.isub, 1) := by decide +kernel
theorem dd14_4 : decode jdk_52_method_15_code 4 = .ok (.bipush 31, 2) := by decide +kernel
theorem dd14_6 : decode jdk_52_method_15_code 6 = .ok (.iushr, 1) := by decide +kernel
theorem dd14_7 : decode jdk_52_method_15_code 7 = .ok (.i2b, 1) := by decide +kernel
theorem dd14_8 : decode jdk_52_method_15_code 8 = .ok (.ireturn, 1) := by decide +kernel
def own_Q29 (Z : State) (ob_1123 : Nat) (kk_1124 : ClassId) (in_18 : Int32) (in_19 : Int32) (h0 : Heap) (n0 : Nat) (v : Option Value) (h : Heap) (L : List Loc) : Prop := (v = some (.int 0) ∧ Fr n0 L ∧ h = h0)
theorem own_pn14 : plainFor (⟨"java/lang/StringUTF16", "coderFromArrayLen", "([BI)B"⟩ : MethodName) = true := by decide +kernel
set_option maxRecDepth 65536 in
set_option maxHeartbeats 40000000 in
theorem own_rm29 (l : Launch) (Z : State) (a0 : Array Value) (hw : ∀ d ∈ tables_1, d.before a0 Z = true) (ws : List Jvm.Cond) (ob_1123 : Nat) (kk_1124 : ClassId) (in_18 : Int32) (in_19 : Int32) (h0 : Heap) (n0 : Nat) (Z0 : n0 ≤ h0.size) (O0 : Old Z n0 h0) (I1133 : Arv Z h0 ob_1123 kk_1124 .byte 2 [(.int (in_18.toInt8.toInt32)), (.int (in_19.toInt8.toInt32))] (.int 0)) :
    own_Met l Z h0 (⟨"java/lang/StringUTF16", "coderFromArrayLen", "([BI)B"⟩ : MethodName) jdk_52_method_15_code 2 (Option.some FieldType.byte) ws ({ frames := 0, cells := 0, slots := 0, locals := 0 } : Room) #[(.ref ob_1123), (.int 2)] (own_Q29 Z ob_1123 kk_1124 in_18 in_19 h0 n0) 0 0 := by
  refine MetFree.of_bodySF own_pn14 hisR ?_
  intro p e s m args below meth c s₁ Bd hml0 hP hK
  obtain ⟨rfl, hZ, hh⟩ := hP
  have hx := Bd.exec
  have hby := Bd.bytes
  have hml : c.maxLocals = 2 := hml0
  have hown : s.vm.findClass "java/lang/StringUTF16" = some m.cls := findClass_of_methodNamed Bd.named
  have hnm := (name_of_methodNamed Bd.named Bd.method).1
  have X0 : Stand p l e ({ frames := 0, cells := 0, slots := 0, locals := 0 } : Room) s m #[(.ref ob_1123), (.int 2)] below meth c s₁ [] 0 0 := Stand.of_body Bd
  have e0 : s₁.heap = h0 := by rw [← hh, Bd.state]; rfl
  have N0 := Fr.nil n0
  show own_G p e below (s₁.setTop (entryFrame m #[(.ref ob_1123), (.int 2)] 2)) (own_P s (own_Q29 Z ob_1123 kk_1124 in_18 in_19 h0 n0) 0 0)
  refine own_cast (own_ef11 m ob_1123 2) ?_
  show own_G p e below (s₁.setTop (mkF m 0 #[rv ob_1123, iv 2] [])) _
  refine oS (fun _ => XS.iloadN X0.here hx rfl (hb hby dd14_0) rfl) ?_
  refine oS (fun _ => XS.aloadN X0.here hx rfl (hb hby dd14_1) rfl rfl) ?_
  refine oS (own_len X0 hx hZ e0 I1133 rfl rfl (hb hby dd14_2)) ?_
  show own_G p e below (s₁.setTop (mkF m 3 #[rv ob_1123, iv 2] [(.int 2), (.int 2)])) _
  refine oS (fun _ => XS.isub X0.here hx rfl (hb hby dd14_3) rfl) ?_
  refine oS (fun _ => XS.bipush X0.here hx rfl (hb hby dd14_4) ) ?_
  refine oS (fun _ => XT.iushr X0.here hx rfl (hb hby dd14_6) rfl) ?_
  refine oS (fun _ => XT.i2b X0.here hx rfl (hb hby dd14_7) rfl) ?_
  show own_G p e below (s₁.setTop (mkF m 8 #[rv ob_1123, iv 2] [(.int 0)])) _
  exact own_retN X0 hx (t := .byte) Bd.notSynchronized Bd.returns (by simp) (hb hby dd14_8) (by decide) e0 (by decide) (by decide) (⟨rfl, N0, rfl⟩)
theorem own_pd14 : parseMethodDescriptor "([BI)B" = some ⟨[(.array .byte), .int], (some .byte)⟩ := by decide +kernel
theorem dd2_45 : decode jdk_42_method_149_code 45 = .ok (.invokestatic 47, 3) := by decide +kernel
theorem dd2_48 : decode jdk_42_method_149_code 48 = .ok (.putfield 15, 3) := by decide +kernel
theorem dd2_51 : decode jdk_42_method_149_code 51 = .ok (.aload_n 0, 1) := by decide +kernel
theorem dd2_52 : decode jdk_42_method_149_code 52 = .ok (.aload 5, 2) := by decide +kernel
theorem dd2_54 : decode jdk_42_method_149_code 54 = .ok (.putfield 9, 3) := by decide +kernel
theorem dd2_57 : decode jdk_42_method_149_code 57 = .ok (.return_, 1) := by decide +kernel
def own_Q26 (Z : State) (ob_973 : Nat) (ob_989 : Nat) (in_6 : Int32) (kk_987 : ClassId) (in_18 : Int32) (in_19 : Int32) (h0 : Heap) (n0 : Nat) (v : Option Value) (h : Heap) (L : List Loc) : Prop := (∃ ob_1123 : Nat, ∃ kk_1124 : ClassId, v = none ∧ Fr n0 L ∧ Keep h0 h [ob_973] ∧ h0.size ≤ ob_1123 ∧ Fld Z h ob_973 "java/lang/String" "coder" "B" (.int 0) ∧ Exa Z h ob_973 "java/lang/String" ∧ Fld Z h ob_973 "java/lang/String" "value" "[B" (.ref ob_1123) ∧ Arv Z h ob_1123 kk_1124 .byte 2 [(.int (in_18.toInt8.toInt32)), (.int (in_19.toInt8.toInt32))] (.int 0) ∧ Exa Z h ob_1123 "[B" ∧ @LT.lt Nat instLTNat ob_1123 h.size)
set_option maxRecDepth 65536 in
set_option maxHeartbeats 40000000 in
theorem own_rm26 (l : Launch) (Z : State) (a0 : Array Value) (hw : ∀ d ∈ tables_1, d.before a0 Z = true) (ws : List Jvm.Cond) (ob_973 : Nat) (ob_989 : Nat) (in_6 : Int32) (kk_987 : ClassId) (in_18 : Int32) (in_19 : Int32) (h0 : Heap) (n0 : Nat) (Z0 : n0 ≤ h0.size) (O0 : Old Z n0 h0) (I1023 : Sta Z Z.heap "java/lang/String" "COMPACT_STRINGS" "Z" (.int in_6)) (I1031 : ¬ (in_6 = 0)) (I1047 : Arv Z h0 ob_989 kk_987 .char 2 [(.int in_18), (.int in_19)] (.int 0)) (I1053 : ¬ (255 < in_18)) (I1072 : @LT.lt Nat instLTNat ob_989 h0.size) (I1080 : ¬ (255 < in_19)) (I1153 : Fld Z h0 ob_973 "java/lang/String" "coder" "B" (.int 0)) (I1159 : Exa Z h0 ob_973 "java/lang/String") (I1170 : n0 ≤ ob_973) (I1177 : Fld Z h0 ob_973 "java/lang/String" "value" "[B" .null) (I1195 : @LT.lt Nat instLTNat ob_973 h0.size) :
    own_Met l Z h0 (⟨"java/lang/String", "<init>", "([CIILjava/lang/Void;)V"⟩ : MethodName) jdk_42_method_149_code 6 (Option.none : Option FieldType) ws ({ frames := 2, cells := 1, slots := 2, locals := 35 } : Room) #[(.ref ob_973), (.ref ob_989), (.int 0), (.int 2), .null] (own_Q26 Z ob_973 ob_989 in_6 kk_987 in_18 in_19 h0 n0) 1 2 := by
  refine MetFree.of_bodySF own_pn0 hisR ?_
  intro p e s m args below meth c s₁ Bd hml0 hP hK
  obtain ⟨rfl, hZ, hh⟩ := hP
  have hx := Bd.exec
  have hby := Bd.bytes
  have hml : c.maxLocals = 6 := hml0
  have hown : s.vm.findClass "java/lang/String" = some m.cls := findClass_of_methodNamed Bd.named
  have hnm := (name_of_methodNamed Bd.named Bd.method).1
  have X0 : Stand p l e ({ frames := 2, cells := 1, slots := 2, locals := 35 } : Room) s m #[(.ref ob_973), (.ref ob_989), (.int 0), (.int 2), .null] below meth c s₁ [] 0 0 := Stand.of_body Bd
  have e0 : s₁.heap = h0 := by rw [← hh, Bd.state]; rfl
  have N0 := Fr.nil n0
  show own_G p e below (s₁.setTop (entryFrame m #[(.ref ob_973), (.ref ob_989), (.int 0), (.int 2), .null] 6)) (own_P s (own_Q26 Z ob_973 ob_989 in_6 kk_987 in_18 in_19 h0 n0) 1 2)
  refine own_cast (own_ef3 m ob_973 ob_989 0 2) ?_
  show own_G p e below (s₁.setTop (mkF m 0 #[rv ob_973, rv ob_989, iv 0, iv 2, .val .null, .unset] [])) _
  refine oS (fun _ => XS.aloadN X0.here hx rfl (hb hby dd2_0) rfl rfl) ?_
  obtain ⟨T1017, X1018, e1019, s1020⟩ := initO X0 hx hZ hown (oW hw 22 rfl) (oW hw 23 rfl) (oW hw 24 rfl) e0 (g := (mkF m 1 #[rv ob_973, rv ob_989, iv 0, iv 2, .val .null, .unset] [(.ref ob_973)])) rfl (by rw [hml]; rfl) rfl (hb hby dd2_1) (by decide) (W := 0) (by show 2 * 0 + _ ≤ _; exact Nat.le_of_eq rfl) (by decide)
  refine oS s1020 ?_
  show own_G p e below (T1017.setTop (mkF m 4 #[rv ob_973, rv ob_989, iv 0, iv 2, .val .null, .unset] [])) _
  refine oS (fun _ => XS.iloadN X1018.here hx rfl (hb hby dd2_4) rfl) ?_
  refine oS (fun _ => XS.ifYes X1018.here hx rfl (pc0 := 5) (pc' := 27) rfl (hb hby dd2_5) rfl (XT.i0_ne_t (by decide)) (by decide) (by decide)) ?_
  show own_G p e below (T1017.setTop (mkF m 27 #[rv ob_973, rv ob_989, iv 0, iv 2, .val .null, .unset] [])) _
  have F1024 : Sta Z h0 "java/lang/String" "COMPACT_STRINGS" "Z" (.int in_6) := Sta.ext O0.2 I1023
  obtain ⟨T1025, X1026, e1027, s1028⟩ := getS X1018 hx hZ hown (host := "") (oW hw 67 rfl) Via.refl e1019 F1024 (g := (mkF m 27 #[rv ob_973, rv ob_989, iv 0, iv 2, .val .null, .unset] [])) rfl (hb hby dd2_27)
  refine oS s1028 ?_
  show own_G p e below (T1025.setTop (mkF m 30 #[rv ob_973, rv ob_989, iv 0, iv 2, .val .null, .unset] [(.int in_6)])) _
  refine oS (fun _ => XS.ifNo X1026.here hx rfl (hb hby dd2_30) rfl (XT.i0_eq_f I1031)) ?_
  show own_G p e below (T1025.setTop (mkF m 33 #[rv ob_973, rv ob_989, iv 0, iv 2, .val .null, .unset] [])) _
  refine oS (fun _ => XS.aloadN X1026.here hx rfl (hb hby dd2_33) rfl rfl) ?_
  refine oS (fun _ => XS.iloadN X1026.here hx rfl (hb hby dd2_34) rfl) ?_
  refine oS (fun _ => XS.iloadN X1026.here hx rfl (hb hby dd2_35) rfl) ?_
  have y1073 : @LT.lt Nat instLTNat ob_989 h0.size := by omega
  obtain ⟨T1115, h1116, v1117, L1118, X1119, e1120, q1121, s1122⟩ := own_callS X1026 hx hZ hown e1027 (y := (⟨"java/lang/StringUTF16", "compress", "([CII)[B"⟩ : MethodName)) (oW hw 88 rfl) (oW hw 89 rfl) (oW hw 90 rfl) (oW hw 91 rfl) (by decide) (W := 0) (own_rm27 l Z a0 hw [] ob_989 kk_987 in_18 in_19 h0 n0 Z0 O0 I1047 I1053 y1073 I1080) (by decide) (by decide) (by decide) (by decide) (g := (mkF m 36 #[rv ob_973, rv ob_989, iv 0, iv 2, .val .null, .unset] [(.int 2), (.int 0), (.ref ob_989)])) rfl (by rw [hml]; rfl) (argsL := [(.ref ob_989), (.int 0), (.int 2)]) (rest := []) rfl (lenOf own_pd13 rfl) rfl (by show 2 * 0 + _ ≤ _; exact Nat.le_of_eq rfl) (hb hby dd2_36)
  refine oS s1122 ?_
  obtain ⟨ob_1123, kk_1124, rfl, N1125, K1126, F1127, F1128, F1129, F1130⟩ := q1121
  have N1131 := Fr.app N0 N1125
  have z1132 := K1126.1
  show own_G p e below (T1115.setTop (mkF m 39 #[rv ob_973, rv ob_989, iv 0, iv 2, .val .null, .unset] [(.ref ob_1123)])) _
  refine oS (fun _ => XS.astore X1119.here hx rfl (hb hby dd2_39) rfl rfl (l' := #[rv ob_973, rv ob_989, iv 0, iv 2, .val .null, rv ob_1123]) rfl) ?_
  refine oS (fun _ => XS.aloadN X1119.here hx rfl (hb hby dd2_41) rfl rfl) ?_
  refine oS (fun _ => XS.aload X1119.here hx rfl (hb hby dd2_42) rfl rfl) ?_
  refine oS (fun _ => XS.iloadN X1119.here hx rfl (hb hby dd2_44) rfl) ?_
  show own_G p e below (T1115.setTop (mkF m 45 #[rv ob_973, rv ob_989, iv 0, iv 2, .val .null, rv ob_1123] [(.int 2), (.ref ob_1123), (.ref ob_973)])) _
  have O1134 : Old Z n0 h1116 := O0.keep K1126 all0
  have Z1135 : n0 ≤ h1116.size := by omega
  obtain ⟨T1136, h1137, v1138, L1139, X1140, e1141, q1142, s1143⟩ := own_callS X1119 hx hZ hown e1120 (y := (⟨"java/lang/StringUTF16", "coderFromArrayLen", "([BI)B"⟩ : MethodName)) (oW hw 95 rfl) (oW hw 96 rfl) (oW hw 90 rfl) (oW hw 97 rfl) (by decide) (W := 1) (own_rm29 l Z a0 hw [] ob_1123 kk_1124 in_18 in_19 h1116 n0 Z1135 O1134 F1128) (by decide) (by decide) (by decide) (by decide) (g := (mkF m 45 #[rv ob_973, rv ob_989, iv 0, iv 2, .val .null, rv ob_1123] [(.int 2), (.ref ob_1123), (.ref ob_973)])) rfl (by rw [hml]; rfl) (argsL := [(.ref ob_1123), (.int 2)]) (rest := [(.ref ob_973)]) rfl (lenOf own_pd14 rfl) rfl (by show 2 * 0 + _ ≤ _; exact Nat.le_of_eq rfl) (hb hby dd2_45)
  refine oS s1143 ?_
  obtain ⟨rfl, N1144, K1145⟩ := q1142
  have N1146 := Fr.app N1131 N1144
  have e1147 := e1141.trans K1145
  show own_G p e below (T1136.setTop (mkF m 48 #[rv ob_973, rv ob_989, iv 0, iv 2, .val .null, rv ob_1123] [(.int 0), (.ref ob_973)])) _
  have F1154 : Fld Z h1116 ob_973 "java/lang/String" "coder" "B" (.int 0) := I1153.keep K1126 nin0
  have F1160 : Exa Z h1116 ob_973 "java/lang/String" := I1159.keep K1126
  obtain ⟨T1161, h1162, X1163, e1164, W1165, s1166⟩ := putF X1140 hx hZ hown (host := "") (Or.inl (oW hw 32 rfl)) Via.refl e1147 F1154 F1160 (Or.inr ⟨(oW hw 28 rfl), rfl, hnm⟩) (oW hw 12 rfl) (ty := .byte) (by decide) (by decide) (by decide) (g := (mkF m 48 #[rv ob_973, rv ob_989, iv 0, iv 2, .val .null, rv ob_1123] [(.int 0), (.ref ob_973)])) rfl rfl (hb hby dd2_48)
  have N1167 := Fr.snoc X1163 N1146 I1170
  have z1171 := W1165.size
  have F1172 : Fld Z h1162 ob_973 "java/lang/String" "coder" "B" (.int 0) := Fld.same W1165 F1154
  refine oS s1166 ?_
  show own_G p e below (T1161.setTop (mkF m 51 #[rv ob_973, rv ob_989, iv 0, iv 2, .val .null, rv ob_1123] [])) _
  refine oS (fun _ => XS.aloadN X1163.here hx rfl (hb hby dd2_51) rfl rfl) ?_
  refine oS (fun _ => XS.aload X1163.here hx rfl (hb hby dd2_52) rfl rfl) ?_
  have F1178 : Fld Z h1116 ob_973 "java/lang/String" "value" "[B" .null := I1177.keep K1126 nin0
  have F1179 : Fld Z h1162 ob_973 "java/lang/String" "value" "[B" .null := Fld.other W1165 F1178 (Or.inr (slot_ne (C := "java/lang/String") (Or.inr (oW hw 27 rfl)) (Or.inr (oW hw 28 rfl)) (by decide) (t := (.array .byte)) (t' := .byte) (by decide) (by decide)))
  have F1180 : Exa Z h1162 ob_973 "java/lang/String" := Exa.wr W1165 F1160
  obtain ⟨T1181, h1182, X1183, e1184, W1185, s1186⟩ := putF X1163 hx hZ hown (host := "") (Or.inl (oW hw 31 rfl)) Via.refl e1164 F1179 F1180 (Or.inr ⟨(oW hw 27 rfl), rfl, hnm⟩) (oW hw 12 rfl) (ty := (.array .byte)) (by decide) rfl rfl (g := (mkF m 54 #[rv ob_973, rv ob_989, iv 0, iv 2, .val .null, rv ob_1123] [(.ref ob_1123), (.ref ob_973)])) rfl rfl (hb hby dd2_54)
  have N1187 := Fr.snoc X1183 N1167 I1170
  have z1188 := W1185.size
  have F1189 : Fld Z h1182 ob_973 "java/lang/String" "value" "[B" (.ref ob_1123) := Fld.same W1185 F1179
  refine oS s1186 ?_
  show own_G p e below (T1181.setTop (mkF m 57 #[rv ob_973, rv ob_989, iv 0, iv 2, .val .null, rv ob_1123] [])) _
  have F1190 : Fld Z h1182 ob_973 "java/lang/String" "coder" "B" (.int 0) := Fld.other W1185 F1172 (Or.inr (slot_ne (C := "java/lang/String") (Or.inr (oW hw 28 rfl)) (Or.inr (oW hw 27 rfl)) (by decide) (t := .byte) (t' := (.array .byte)) (by decide) (by decide)))
  have F1191 : Exa Z h1182 ob_973 "java/lang/String" := Exa.wr W1185 F1180
  have N1196 : @Ne Nat ob_1123 ob_973 := by omega
  have F1197 : Arv Z h1162 ob_1123 kk_1124 .byte 2 [(.int (in_18.toInt8.toInt32)), (.int (in_19.toInt8.toInt32))] (.int 0) := F1128.other W1165 N1196
  have F1198 : Arv Z h1182 ob_1123 kk_1124 .byte 2 [(.int (in_18.toInt8.toInt32)), (.int (in_19.toInt8.toInt32))] (.int 0) := F1197.other W1185 N1196
  have F1199 : Exa Z h1162 ob_1123 "[B" := Exa.wr W1165 F1129
  have F1200 : Exa Z h1182 ob_1123 "[B" := Exa.wr W1185 F1199
  have y1201 : @LT.lt Nat instLTNat ob_1123 h1182.size := by omega
  have K1202 : Keep h0 h1182 [ob_973] := ((((Keep.refl h0 [ob_973]).trans K1126 all0).wr W1165 (Or.inl (by simp))).wr W1185 (Or.inl (by simp)))
  exact own_retV X1183 hx Bd.notSynchronized Bd.returns (hb hby dd2_57) e1184 (by decide) (by decide) (⟨ob_1123, kk_1124, rfl, N1187, K1202, (by omega), F1190, F1191, F1189, F1198, F1200, y1201⟩)
def own_Q25 (Z : State) (ob_973 : Nat) (ob_989 : Nat) (kk_987 : ClassId) (in_18 : Int32) (in_19 : Int32) (in_6 : Int32) (h0 : Heap) (n0 : Nat) (v : Option Value) (h : Heap) (L : List Loc) : Prop := (∃ ob_1211 : Nat, ∃ kk_1212 : ClassId, v = none ∧ Fr n0 L ∧ Keep h0 h [ob_973] ∧ h0.size ≤ ob_1211 ∧ Fld Z h ob_973 "java/lang/String" "coder" "B" (.int 0) ∧ Exa Z h ob_973 "java/lang/String" ∧ Fld Z h ob_973 "java/lang/String" "value" "[B" (.ref ob_1211) ∧ Arv Z h ob_1211 kk_1212 .byte 2 [(.int (in_18.toInt8.toInt32)), (.int (in_19.toInt8.toInt32))] (.int 0) ∧ Exa Z h ob_1211 "[B" ∧ @LT.lt Nat instLTNat ob_1211 h.size)
set_option maxRecDepth 65536 in
set_option maxHeartbeats 40000000 in
theorem own_rm25 (l : Launch) (Z : State) (a0 : Array Value) (hw : ∀ d ∈ tables_1, d.before a0 Z = true) (ws : List Jvm.Cond) (ob_973 : Nat) (ob_989 : Nat) (kk_987 : ClassId) (in_18 : Int32) (in_19 : Int32) (in_6 : Int32) (h0 : Heap) (n0 : Nat) (Z0 : n0 ≤ h0.size) (O0 : Old Z n0 h0) (I1016 : Arv Z h0 ob_989 kk_987 .char 2 [(.int in_18), (.int in_19)] (.int 0)) (I1022 : Sta Z Z.heap "java/lang/String" "COMPACT_STRINGS" "Z" (.int in_6)) (I1030 : ¬ (in_6 = 0)) (I1052 : ¬ (255 < in_18)) (I1070 : @LT.lt Nat instLTNat ob_989 h0.size) (I1079 : ¬ (255 < in_19)) (I1152 : Fld Z h0 ob_973 "java/lang/String" "coder" "B" (.int 0)) (I1158 : Exa Z h0 ob_973 "java/lang/String") (I1169 : n0 ≤ ob_973) (I1176 : Fld Z h0 ob_973 "java/lang/String" "value" "[B" .null) (I1193 : @LT.lt Nat instLTNat ob_973 h0.size) :
    own_Met l Z h0 (⟨"java/lang/String", "<init>", "([C)V"⟩ : MethodName) jdk_42_method_3_code 2 (Option.none : Option FieldType) ws ({ frames := 3, cells := 1, slots := 2, locals := 52 } : Room) #[(.ref ob_973), (.ref ob_989)] (own_Q25 Z ob_973 ob_989 kk_987 in_18 in_19 in_6 h0 n0) 1 2 := by
  refine MetFree.of_bodySF own_pn1 hisR ?_
  intro p e s m args below meth c s₁ Bd hml0 hP hK
  obtain ⟨rfl, hZ, hh⟩ := hP
  have hx := Bd.exec
  have hby := Bd.bytes
  have hml : c.maxLocals = 2 := hml0
  have hown : s.vm.findClass "java/lang/String" = some m.cls := findClass_of_methodNamed Bd.named
  have hnm := (name_of_methodNamed Bd.named Bd.method).1
  have X0 : Stand p l e ({ frames := 3, cells := 1, slots := 2, locals := 52 } : Room) s m #[(.ref ob_973), (.ref ob_989)] below meth c s₁ [] 0 0 := Stand.of_body Bd
  have e0 : s₁.heap = h0 := by rw [← hh, Bd.state]; rfl
  have N0 := Fr.nil n0
  show own_G p e below (s₁.setTop (entryFrame m #[(.ref ob_973), (.ref ob_989)] 2)) (own_P s (own_Q25 Z ob_973 ob_989 kk_987 in_18 in_19 in_6 h0 n0) 1 2)
  refine own_cast (own_ef2 m ob_973 ob_989) ?_
  show own_G p e below (s₁.setTop (mkF m 0 #[rv ob_973, rv ob_989] [])) _
  refine oS (fun _ => XS.aloadN X0.here hx rfl (hb hby dd1_0) rfl rfl) ?_
  refine oS (fun _ => XS.aloadN X0.here hx rfl (hb hby dd1_1) rfl rfl) ?_
  refine oS (fun _ => XS.iconst X0.here hx rfl (hb hby dd1_2) ) ?_
  refine oS (fun _ => XS.aloadN X0.here hx rfl (hb hby dd1_3) rfl rfl) ?_
  show own_G p e below (s₁.setTop (mkF m 4 #[rv ob_973, rv ob_989] [(.ref ob_989), (.int 0), (.ref ob_989), (.ref ob_973)])) _
  refine oS (own_len X0 hx hZ e0 I1016 rfl rfl (hb hby dd1_4)) ?_
  show own_G p e below (s₁.setTop (mkF m 5 #[rv ob_973, rv ob_989] [(.int 2), (.int 0), (.ref ob_989), (.ref ob_973)])) _
  refine oS (fun _ => XS.aconstNull X0.here hx rfl (hb hby dd1_5) ) ?_
  have y1071 : @LT.lt Nat instLTNat ob_989 h0.size := by omega
  have y1194 : @LT.lt Nat instLTNat ob_973 h0.size := by omega
  obtain ⟨T1203, h1204, v1205, L1206, X1207, e1208, q1209, s1210⟩ := own_callN X0 hx hZ hown e0 (y := (⟨"java/lang/String", "<init>", "([CIILjava/lang/Void;)V"⟩ : MethodName)) (b := ob_973) rfl (oW hw 18 rfl) (oW hw 19 rfl) (oW hw 13 rfl) (oW hw 21 rfl) (by decide) (W := 0) (own_rm26 l Z a0 hw [] ob_973 ob_989 in_6 kk_987 in_18 in_19 h0 n0 Z0 O0 I1022 I1030 I1016 I1052 y1071 I1079 I1152 I1158 I1169 I1176 y1194) (by decide) (by decide) (by decide) (by decide) (g := (mkF m 6 #[rv ob_973, rv ob_989] [.null, (.int 2), (.int 0), (.ref ob_989), (.ref ob_973)])) rfl (by rw [hml]; rfl) (argsL := [(.ref ob_989), (.int 0), (.int 2), .null]) (rest := []) rfl (lenOf own_pd0 rfl) rfl (by show 2 * 0 + _ ≤ _; exact Nat.le_of_eq rfl) (hb hby dd1_6)
  refine oS s1210 ?_
  obtain ⟨ob_1211, kk_1212, rfl, N1213, K1214, F1215, F1216, F1217, F1218, F1219, F1220, F1221⟩ := q1209
  have N1222 := Fr.app N0 N1213
  have z1223 := K1214.1
  show own_G p e below (T1203.setTop (mkF m 9 #[rv ob_973, rv ob_989] [])) _
  have y1224 : @LT.lt Nat instLTNat ob_1211 h1204.size := by omega
  have K1225 : Keep h0 h1204 [ob_973] := ((Keep.refl h0 [ob_973]).trans K1214 (allS (Or.inl (by simp)) all0))
  exact own_retV X1207 hx Bd.notSynchronized Bd.returns (hb hby dd1_9) e1208 (by decide) (by decide) (⟨ob_1211, kk_1212, rfl, N1222, K1225, (by omega), F1216, F1217, F1218, F1219, F1220, y1224⟩)
theorem dd0_40 : decode method_3_code 40 = .ok (.invokespecial 33, 3) := by decide +kernel
theorem dd0_43 : decode method_3_code 43 = .ok (.areturn, 1) := by decide +kernel
def own_Q24 (Z : State) (in_18 : Int32) (in_19 : Int32) (in_6 : Int32) (h0 : Heap) (n0 : Nat) (v : Option Value) (h : Heap) (L : List Loc) : Prop := (∃ ob_973 : Nat, ∃ ob_1239 : Nat, ∃ kk_1240 : ClassId, v = some (.ref ob_973) ∧ Fr n0 L ∧ Keep h0 h [] ∧ h0.size ≤ ob_973 ∧ ob_973 < ob_1239 ∧ Exa Z h ob_973 "java/lang/String" ∧ Fld Z h ob_973 "java/lang/String" "value" "[B" (.ref ob_1239) ∧ Fld Z h ob_973 "java/lang/String" "coder" "B" (.int 0) ∧ Arv Z h ob_1239 kk_1240 .byte 2 [(.int (in_18.toInt8.toInt32)), (.int (in_19.toInt8.toInt32))] (.int 0) ∧ Exa Z h ob_1239 "[B" ∧ @LT.lt Nat instLTNat ob_973 h.size ∧ @LT.lt Nat instLTNat ob_1239 h.size)
set_option maxRecDepth 65536 in
set_option maxHeartbeats 40000000 in
theorem own_rm24 (l : Launch) (Z : State) (a0 : Array Value) (hw : ∀ d ∈ tables_1, d.before a0 Z = true) (ws : List Jvm.Cond) (in_18 : Int32) (in_19 : Int32) (in_6 : Int32) (h0 : Heap) (n0 : Nat) (Z0 : n0 ≤ h0.size) (O0 : Old Z n0 h0) (I1000 : nar .char in_18 = in_18) (I1012 : nar .char in_19 = in_19) (I1021 : Sta Z Z.heap "java/lang/String" "COMPACT_STRINGS" "Z" (.int in_6)) (I1029 : ¬ (in_6 = 0)) (I1051 : ¬ (255 < in_18)) (I1078 : ¬ (255 < in_19)) :
    own_Met l Z h0 (⟨"com/example/latente/latente/query/TokenIsSymbolPinLaw", "str", "(ICC)Ljava/lang/String;"⟩ : MethodName) method_3_code 3 (Option.some (FieldType.object "java/lang/String")) ws ({ frames := 4, cells := 3, slots := 8, locals := 66 } : Room) #[(.int 2), (.int in_18), (.int in_19)] (own_Q24 Z in_18 in_19 in_6 h0 n0) 3 8 := by
  refine MetFree.of_bodySF own_pn2 hisR ?_
  intro p e s m args below meth c s₁ Bd hml0 hP hK
  obtain ⟨rfl, hZ, hh⟩ := hP
  have hx := Bd.exec
  have hby := Bd.bytes
  have hml : c.maxLocals = 3 := hml0
  have hown : s.vm.findClass "com/example/latente/latente/query/TokenIsSymbolPinLaw" = some m.cls := findClass_of_methodNamed Bd.named
  have hnm := (name_of_methodNamed Bd.named Bd.method).1
  have X0 : Stand p l e ({ frames := 4, cells := 3, slots := 8, locals := 66 } : Room) s m #[(.int 2), (.int in_18), (.int in_19)] below meth c s₁ [] 0 0 := Stand.of_body Bd
  have e0 : s₁.heap = h0 := by rw [← hh, Bd.state]; rfl
  have N0 := Fr.nil n0
  show own_G p e below (s₁.setTop (entryFrame m #[(.int 2), (.int in_18), (.int in_19)] 3)) (own_P s (own_Q24 Z in_18 in_19 in_6 h0 n0) 3 8)
  refine own_cast (own_ef1 m 2 in_18 in_19) ?_
  show own_G p e below (s₁.setTop (mkF m 0 #[iv 2, iv in_18, iv in_19] [])) _
  refine oS (fun _ => XS.iloadN X0.here hx rfl (hb hby dd0_0) rfl) ?_
  refine oS (fun _ => XS.ifYes X0.here hx rfl (pc0 := 1) (pc' := 15) rfl (hb hby dd0_1) rfl (XT.i0_ne_t (by decide)) (by decide) (by decide)) ?_
  show own_G p e below (s₁.setTop (mkF m 15 #[iv 2, iv in_18, iv in_19] [])) _
  refine oS (fun _ => XS.iloadN X0.here hx rfl (hb hby dd0_15) rfl) ?_
  refine oS (fun _ => XS.iconst X0.here hx rfl (hb hby dd0_16) ) ?_
  refine oS (fun _ => XS.icmpYes X0.here hx rfl (pc0 := 17) (pc' := 25) rfl (hb hby dd0_17) rfl (XT.ii_ne_t (by decide)) (by decide) (by decide)) ?_
  show own_G p e below (s₁.setTop (mkF m 25 #[iv 2, iv in_18, iv in_19] [])) _
  obtain ⟨T963, h964, X965, e966, E967, A968, D969, U972, s970⟩ := newO X0 hx hZ hown (oW hw 11 rfl) (oW hw 12 rfl) (oW hw 13 rfl) e0 (g := (mkF m 25 #[iv 2, iv in_18, iv in_19] [])) rfl (hb hby dd0_25) (by decide) (by decide)
  obtain ⟨ob_973, g974⟩ : ∃ z, z = h0.size := ⟨_, rfl⟩
  rw [← g974] at A968 D969 U972 s970
  have z975 := E967.1
  have y971 : @LT.lt Nat instLTNat ob_973 h964.size := A968.lt
  refine oS s970 ?_
  have F976 : Fld Z h964 ob_973 "java/lang/String" "value" "[B" .null := D969 (Or.inr (oW hw 27 rfl)) (ty := (.array .byte)) (by decide)
  have F977 : Fld Z h964 ob_973 "java/lang/String" "coder" "B" (.int 0) := D969 (Or.inr (oW hw 28 rfl)) (ty := .byte) (by decide)
  show own_G p e below (T963.setTop (mkF m 28 #[iv 2, iv in_18, iv in_19] [(.ref ob_973)])) _
  refine oS (fun _ => XS.dup X965.here hx rfl (hb hby dd0_28) rfl rfl) ?_
  refine oS (fun _ => XS.iconst X965.here hx rfl (hb hby dd0_29) ) ?_
  obtain ⟨T978, h979, kk_987, X981, e982, E983, A984, B988, s985⟩ := own_newP X965 hx hZ (aty := .char) (oW hw 14 rfl) e966 (nm := "[C") rfl (g := (mkF m 30 #[iv 2, iv in_18, iv in_19] [(.int 2), (.ref ob_973), (.ref ob_973)])) rfl (hb hby dd0_30) (n := 2) (rest := [(.ref ob_973), (.ref ob_973)]) rfl (by decide) (cap := 2) (by decide) (by decide) (by decide) (by decide)
  obtain ⟨ob_989, g990⟩ : ∃ z, z = h964.size := ⟨_, rfl⟩
  rw [← g990] at A984 B988 s985
  have F991 : Arv Z h979 ob_989 kk_987 .char 2 [(.int 0), (.int 0)] (.int 0) := own_newA A984 (by decide) rfl rfl
  have z992 := E983.1
  have y986 : @LT.lt Nat instLTNat ob_989 h979.size := F991.lt
  refine oS s985 ?_
  show own_G p e below (T978.setTop (mkF m 32 #[iv 2, iv in_18, iv in_19] [(.ref ob_989), (.ref ob_973), (.ref ob_973)])) _
  refine oS (fun _ => XS.dup X981.here hx rfl (hb hby dd0_32) rfl rfl) ?_
  refine oS (fun _ => XS.iconst X981.here hx rfl (hb hby dd0_33) ) ?_
  refine oS (fun _ => XS.iloadN X981.here hx rfl (hb hby dd0_34) rfl) ?_
  obtain ⟨T993, h994, X995, e996, W997, A998, s999⟩ := own_stC X981 hx hZ e982 F991 (x' := in_18) 0 I1000 rfl (by decide) (by simp) (g := (mkF m 35 #[iv 2, iv in_18, iv in_19] [(.int in_18), (.int 0), (.ref ob_989), (.ref ob_989), (.ref ob_973), (.ref ob_973)])) rfl (rest := [(.ref ob_989), (.ref ob_973), (.ref ob_973)]) rfl (hb hby dd0_35)
  have N1002 : n0 ≤ ob_989 := by omega
  have N1001 := Fr.snoc X995 N0 N1002
  have z1003 := W997.size
  have F1004 : Arv Z h994 ob_989 kk_987 .char 2 [(.int in_18), (.int 0)] (.int 0) := A998
  refine oS s999 ?_
  show own_G p e below (T993.setTop (mkF m 36 #[iv 2, iv in_18, iv in_19] [(.ref ob_989), (.ref ob_973), (.ref ob_973)])) _
  refine oS (fun _ => XS.dup X995.here hx rfl (hb hby dd0_36) rfl rfl) ?_
  refine oS (fun _ => XS.iconst X995.here hx rfl (hb hby dd0_37) ) ?_
  refine oS (fun _ => XS.iloadN X995.here hx rfl (hb hby dd0_38) rfl) ?_
  obtain ⟨T1005, h1006, X1007, e1008, W1009, A1010, s1011⟩ := own_stC X995 hx hZ e996 F1004 (x' := in_19) 1 I1012 rfl (by decide) (by simp) (g := (mkF m 39 #[iv 2, iv in_18, iv in_19] [(.int in_19), (.int 1), (.ref ob_989), (.ref ob_989), (.ref ob_973), (.ref ob_973)])) rfl (rest := [(.ref ob_989), (.ref ob_973), (.ref ob_973)]) rfl (hb hby dd0_39)
  have N1013 := Fr.snoc X1007 N1001 N1002
  have z1014 := W1009.size
  have F1015 : Arv Z h1006 ob_989 kk_987 .char 2 [(.int in_18), (.int in_19)] (.int 0) := A1010
  refine oS s1011 ?_
  show own_G p e below (T1005.setTop (mkF m 40 #[iv 2, iv in_18, iv in_19] [(.ref ob_989), (.ref ob_973), (.ref ob_973)])) _
  have y1069 : @LT.lt Nat instLTNat ob_989 h1006.size := by omega
  have F1148 : Fld Z h979 ob_973 "java/lang/String" "coder" "B" (.int 0) := Fld.ext E983 F977
  have N1149 : @Ne Nat ob_973 ob_989 := by omega
  have F1150 : Fld Z h994 ob_973 "java/lang/String" "coder" "B" (.int 0) := Fld.other W997 F1148 (Or.inl N1149)
  have F1151 : Fld Z h1006 ob_973 "java/lang/String" "coder" "B" (.int 0) := Fld.other W1009 F1150 (Or.inl N1149)
  have F1155 : Exa Z h979 ob_973 "java/lang/String" := Exa.ext E983 A968
  have F1156 : Exa Z h994 ob_973 "java/lang/String" := Exa.wr W997 F1155
  have F1157 : Exa Z h1006 ob_973 "java/lang/String" := Exa.wr W1009 F1156
  have N1168 : n0 ≤ ob_973 := by omega
  have F1173 : Fld Z h979 ob_973 "java/lang/String" "value" "[B" .null := Fld.ext E983 F976
  have F1174 : Fld Z h994 ob_973 "java/lang/String" "value" "[B" .null := Fld.other W997 F1173 (Or.inl N1149)
  have F1175 : Fld Z h1006 ob_973 "java/lang/String" "value" "[B" .null := Fld.other W1009 F1174 (Or.inl N1149)
  have y1192 : @LT.lt Nat instLTNat ob_973 h1006.size := by omega
  have O1226 : Old Z n0 h964 := O0.ext E967
  have O1227 : Old Z n0 h979 := O1226.ext E983
  have O1228 : Old Z n0 h994 := O1227.wr W997 N1002
  have O1229 : Old Z n0 h1006 := O1228.wr W1009 N1002
  have Z1230 : n0 ≤ h1006.size := by omega
  obtain ⟨T1231, h1232, v1233, L1234, X1235, e1236, q1237, s1238⟩ := own_callN X1007 hx hZ hown e1008 (y := (⟨"java/lang/String", "<init>", "([C)V"⟩ : MethodName)) (b := ob_973) rfl (oW hw 15 rfl) (oW hw 16 rfl) (oW hw 13 rfl) (oW hw 17 rfl) (by decide) (W := 1) (own_rm25 l Z a0 hw [] ob_973 ob_989 kk_987 in_18 in_19 in_6 h1006 n0 Z1230 O1229 F1015 I1021 I1029 I1051 y1069 I1078 F1151 F1157 N1168 F1175 y1192) (by decide) (by decide) (by decide) (by decide) (g := (mkF m 40 #[iv 2, iv in_18, iv in_19] [(.ref ob_989), (.ref ob_973), (.ref ob_973)])) rfl (by rw [hml]; rfl) (argsL := [(.ref ob_989)]) (rest := [(.ref ob_973)]) rfl (lenOf own_pd1 rfl) rfl (by show 2 * 0 + _ ≤ _; exact Nat.le_of_eq rfl) (hb hby dd0_40)
  refine oS s1238 ?_
  obtain ⟨ob_1239, kk_1240, rfl, N1241, K1242, F1243, F1244, F1245, F1246, F1247, F1248, F1249⟩ := q1237
  have N1250 := Fr.app N1013 N1241
  have z1251 := K1242.1
  show own_G p e below (T1231.setTop (mkF m 43 #[iv 2, iv in_18, iv in_19] [(.ref ob_973)])) _
  have y1252 : @LT.lt Nat instLTNat ob_973 h1232.size := by omega
  have y1253 : @LT.lt Nat instLTNat ob_1239 h1232.size := by omega
  have K1254 : Keep h0 h1232 [] := ((((((Keep.refl h0 []).ext E967).ext E983).wr W997 (Or.inr (by omega))).wr W1009 (Or.inr (by omega))).trans K1242 (allS (Or.inr (by omega)) all0))
  exact own_retA X1235 hx Bd.notSynchronized Bd.returns rfl rfl (hb hby dd0_43) e1236 (by decide) (by decide) (⟨ob_973, ob_1239, kk_1240, rfl, N1250, K1254, (by omega), (by omega), F1245, F1246, F1244, F1247, F1248, y1252, y1253⟩)
def own_Q32 (Z : State) (ob_315 : Nat) (ob_1266 : Nat) (kk_316 : ClassId) (kk_1267 : ClassId) (in_18 : Int32) (in_19 : Int32) (h0 : Heap) (n0 : Nat) (v : Option Value) (h : Heap) (L : List Loc) : Prop := (v = some (.int 0) ∧ Fr n0 L ∧ h = h0)
set_option maxRecDepth 65536 in
set_option maxHeartbeats 40000000 in
theorem own_rm32 (l : Launch) (Z : State) (a0 : Array Value) (hw : ∀ d ∈ tables_1, d.before a0 Z = true) (ws : List Jvm.Cond) (ob_315 : Nat) (ob_1266 : Nat) (kk_316 : ClassId) (kk_1267 : ClassId) (in_18 : Int32) (in_19 : Int32) (h0 : Heap) (n0 : Nat) (Z0 : n0 ≤ h0.size) (O0 : Old Z n0 h0) (I1410 : Arv Z h0 ob_315 kk_316 .byte 0 [] (.int 0)) (I1411 : Arv Z h0 ob_1266 kk_1267 .byte 2 [(.int (in_18.toInt8.toInt32)), (.int (in_19.toInt8.toInt32))] (.int 0)) :
    own_Met l Z h0 (⟨"java/lang/StringLatin1", "equals", "([B[B)Z"⟩ : MethodName) jdk_43_method_13_code 3 (Option.some FieldType.boolean) ws ({ frames := 0, cells := 0, slots := 0, locals := 0 } : Room) #[(.ref ob_315), (.ref ob_1266)] (own_Q32 Z ob_315 ob_1266 kk_316 kk_1267 in_18 in_19 h0 n0) 0 0 := by
  refine MetFree.of_bodySF own_pn5 hisR ?_
  intro p e s m args below meth c s₁ Bd hml0 hP hK
  obtain ⟨rfl, hZ, hh⟩ := hP
  have hx := Bd.exec
  have hby := Bd.bytes
  have hml : c.maxLocals = 3 := hml0
  have hown : s.vm.findClass "java/lang/StringLatin1" = some m.cls := findClass_of_methodNamed Bd.named
  have hnm := (name_of_methodNamed Bd.named Bd.method).1
  have X0 : Stand p l e ({ frames := 0, cells := 0, slots := 0, locals := 0 } : Room) s m #[(.ref ob_315), (.ref ob_1266)] below meth c s₁ [] 0 0 := Stand.of_body Bd
  have e0 : s₁.heap = h0 := by rw [← hh, Bd.state]; rfl
  have N0 := Fr.nil n0
  show own_G p e below (s₁.setTop (entryFrame m #[(.ref ob_315), (.ref ob_1266)] 3)) (own_P s (own_Q32 Z ob_315 ob_1266 kk_316 kk_1267 in_18 in_19 h0 n0) 0 0)
  refine own_cast (own_ef6 m ob_315 ob_1266) ?_
  show own_G p e below (s₁.setTop (mkF m 0 #[rv ob_315, rv ob_1266, .unset] [])) _
  refine oS (fun _ => XS.aloadN X0.here hx rfl (hb hby dd7_0) rfl rfl) ?_
  refine oS (own_len X0 hx hZ e0 I1410 rfl rfl (hb hby dd7_1)) ?_
  show own_G p e below (s₁.setTop (mkF m 2 #[rv ob_315, rv ob_1266, .unset] [(.int 0)])) _
  refine oS (fun _ => XS.aloadN X0.here hx rfl (hb hby dd7_2) rfl rfl) ?_
  refine oS (own_len X0 hx hZ e0 I1411 rfl rfl (hb hby dd7_3)) ?_
  show own_G p e below (s₁.setTop (mkF m 4 #[rv ob_315, rv ob_1266, .unset] [(.int 2), (.int 0)])) _
  refine oS (fun _ => XS.icmpYes X0.here hx rfl (pc0 := 4) (pc' := 34) rfl (hb hby dd7_4) rfl (XT.ii_ne_t (by decide)) (by decide) (by decide)) ?_
  show own_G p e below (s₁.setTop (mkF m 34 #[rv ob_315, rv ob_1266, .unset] [])) _
  refine oS (fun _ => XS.iconst X0.here hx rfl (hb hby dd7_34) ) ?_
  exact own_retN X0 hx (t := .boolean) Bd.notSynchronized Bd.returns (by simp) (hb hby dd7_35) (by decide) e0 (by decide) (by decide) (⟨rfl, N0, rfl⟩)
def own_Q31 (Z : State) (ob_314 : Nat) (ob_1265 : Nat) (in_6 : Int32) (ob_315 : Nat) (ob_1266 : Nat) (kk_316 : ClassId) (kk_1267 : ClassId) (in_18 : Int32) (in_19 : Int32) (h0 : Heap) (n0 : Nat) (v : Option Value) (h : Heap) (L : List Loc) : Prop := (v = some (.int 0) ∧ Fr n0 L ∧ h = h0)
set_option maxRecDepth 65536 in
set_option maxHeartbeats 40000000 in
theorem own_rm31 (l : Launch) (Z : State) (a0 : Array Value) (hw : ∀ d ∈ tables_1, d.before a0 Z = true) (ws : List Jvm.Cond) (ob_314 : Nat) (ob_1265 : Nat) (in_6 : Int32) (ob_315 : Nat) (ob_1266 : Nat) (kk_316 : ClassId) (kk_1267 : ClassId) (in_18 : Int32) (in_19 : Int32) (h0 : Heap) (n0 : Nat) (Z0 : n0 ≤ h0.size) (O0 : Old Z n0 h0) (I1371 : @Ne Nat ob_314 ob_1265) (I1376 : Exa Z h0 ob_1265 "java/lang/String") (I1381 : Sta Z Z.heap "java/lang/String" "COMPACT_STRINGS" "Z" (.int in_6)) (I1387 : ¬ (in_6 = 0)) (I1388 : Fld Z h0 ob_314 "java/lang/String" "coder" "B" (.int 0)) (I1393 : Fld Z h0 ob_1265 "java/lang/String" "coder" "B" (.int 0)) (I1398 : Fld Z h0 ob_314 "java/lang/String" "value" "[B" (.ref ob_315)) (I1403 : Fld Z h0 ob_1265 "java/lang/String" "value" "[B" (.ref ob_1266)) (I1408 : Arv Z h0 ob_315 kk_316 .byte 0 [] (.int 0)) (I1409 : Arv Z h0 ob_1266 kk_1267 .byte 2 [(.int (in_18.toInt8.toInt32)), (.int (in_19.toInt8.toInt32))] (.int 0)) :
    own_Met l Z h0 (⟨"java/lang/String", "equals", "(Ljava/lang/Object;)Z"⟩ : MethodName) jdk_42_method_66_code 3 (Option.some FieldType.boolean) ws ({ frames := 1, cells := 0, slots := 0, locals := 14 } : Room) #[(.ref ob_314), (.ref ob_1265)] (own_Q31 Z ob_314 ob_1265 in_6 ob_315 ob_1266 kk_316 kk_1267 in_18 in_19 h0 n0) 0 0 := by
  refine MetFree.of_bodySF own_pn6 hisR ?_
  intro p e s m args below meth c s₁ Bd hml0 hP hK
  obtain ⟨rfl, hZ, hh⟩ := hP
  have hx := Bd.exec
  have hby := Bd.bytes
  have hml : c.maxLocals = 3 := hml0
  have hown : s.vm.findClass "java/lang/String" = some m.cls := findClass_of_methodNamed Bd.named
  have hnm := (name_of_methodNamed Bd.named Bd.method).1
  have X0 : Stand p l e ({ frames := 1, cells := 0, slots := 0, locals := 14 } : Room) s m #[(.ref ob_314), (.ref ob_1265)] below meth c s₁ [] 0 0 := Stand.of_body Bd
  have e0 : s₁.heap = h0 := by rw [← hh, Bd.state]; rfl
  have N0 := Fr.nil n0
  show own_G p e below (s₁.setTop (entryFrame m #[(.ref ob_314), (.ref ob_1265)] 3)) (own_P s (own_Q31 Z ob_314 ob_1265 in_6 ob_315 ob_1266 kk_316 kk_1267 in_18 in_19 h0 n0) 0 0)
  refine own_cast (own_ef6 m ob_314 ob_1265) ?_
  show own_G p e below (s₁.setTop (mkF m 0 #[rv ob_314, rv ob_1265, .unset] [])) _
  refine oS (fun _ => XS.aloadN X0.here hx rfl (hb hby dd6_0) rfl rfl) ?_
  refine oS (fun _ => XS.aloadN X0.here hx rfl (hb hby dd6_1) rfl rfl) ?_
  refine oS (fun _ => XT.acmpYes X0.here hx rfl (pc0 := 2) (pc' := 7) rfl (hb hby dd6_2) rfl rfl rfl (XT.aa_ne_t (own_rne I1371)) (by decide) (by decide)) ?_
  show own_G p e below (s₁.setTop (mkF m 7 #[rv ob_314, rv ob_1265, .unset] [])) _
  refine oS (fun _ => XS.aloadN X0.here hx rfl (hb hby dd6_7) rfl rfl) ?_
  obtain ⟨T1372, X1373, e1374, s1375⟩ := instY X0 hx hZ hown (oW hw 66 rfl) e0 (Ins.self I1376) (g := (mkF m 8 #[rv ob_314, rv ob_1265, .unset] [(.ref ob_1265)])) rfl rfl (hb hby dd6_8)
  refine oS s1375 ?_
  show own_G p e below (T1372.setTop (mkF m 11 #[rv ob_314, rv ob_1265, .unset] [(.int 1)])) _
  refine oS (fun _ => XS.ifNo X1373.here hx rfl (hb hby dd6_11) rfl (XT.i0_eq_f (by decide))) ?_
  show own_G p e below (T1372.setTop (mkF m 14 #[rv ob_314, rv ob_1265, .unset] [])) _
  refine oS (fun _ => XS.aloadN X1373.here hx rfl (hb hby dd6_14) rfl rfl) ?_
  obtain ⟨T1377, X1378, e1379, s1380⟩ := castY X1373 hx hZ hown (oW hw 66 rfl) e1374 (Ins.self I1376) (g := (mkF m 15 #[rv ob_314, rv ob_1265, .unset] [(.ref ob_1265)])) rfl rfl (hb hby dd6_15)
  refine oS s1380 ?_
  show own_G p e below (T1377.setTop (mkF m 18 #[rv ob_314, rv ob_1265, .unset] [(.ref ob_1265)])) _
  refine oS (fun _ => XS.astoreN X1378.here hx rfl (hb hby dd6_18) rfl rfl (l' := #[rv ob_314, rv ob_1265, rv ob_1265]) rfl) ?_
  have F1382 : Sta Z h0 "java/lang/String" "COMPACT_STRINGS" "Z" (.int in_6) := Sta.ext O0.2 I1381
  obtain ⟨T1383, X1384, e1385, s1386⟩ := getS X1378 hx hZ hown (host := "") (oW hw 67 rfl) Via.refl e1379 F1382 (g := (mkF m 19 #[rv ob_314, rv ob_1265, rv ob_1265] [])) rfl (hb hby dd6_19)
  refine oS s1386 ?_
  show own_G p e below (T1383.setTop (mkF m 22 #[rv ob_314, rv ob_1265, rv ob_1265] [(.int in_6)])) _
  refine oS (fun _ => XS.ifNo X1384.here hx rfl (hb hby dd6_22) rfl (XT.i0_eq_f I1387)) ?_
  show own_G p e below (T1383.setTop (mkF m 25 #[rv ob_314, rv ob_1265, rv ob_1265] [])) _
  refine oS (fun _ => XS.aloadN X1384.here hx rfl (hb hby dd6_25) rfl rfl) ?_
  obtain ⟨T1389, X1390, e1391, s1392⟩ := getF X1384 hx hZ hown (host := "") (Or.inl (oW hw 32 rfl)) Via.refl e1385 I1388 (g := (mkF m 26 #[rv ob_314, rv ob_1265, rv ob_1265] [(.ref ob_314)])) rfl rfl (hb hby dd6_26)
  refine oS s1392 ?_
  show own_G p e below (T1389.setTop (mkF m 29 #[rv ob_314, rv ob_1265, rv ob_1265] [(.int 0)])) _
  refine oS (fun _ => XS.aloadN X1390.here hx rfl (hb hby dd6_29) rfl rfl) ?_
  obtain ⟨T1394, X1395, e1396, s1397⟩ := getF X1390 hx hZ hown (host := "") (Or.inl (oW hw 32 rfl)) Via.refl e1391 I1393 (g := (mkF m 30 #[rv ob_314, rv ob_1265, rv ob_1265] [(.ref ob_1265), (.int 0)])) rfl rfl (hb hby dd6_30)
  refine oS s1397 ?_
  show own_G p e below (T1394.setTop (mkF m 33 #[rv ob_314, rv ob_1265, rv ob_1265] [(.int 0), (.int 0)])) _
  refine oS (fun _ => XS.icmpNo X1395.here hx rfl (hb hby dd6_33) rfl (XT.ii_ne_f (by decide))) ?_
  show own_G p e below (T1394.setTop (mkF m 36 #[rv ob_314, rv ob_1265, rv ob_1265] [])) _
  refine oS (fun _ => XS.aloadN X1395.here hx rfl (hb hby dd6_36) rfl rfl) ?_
  obtain ⟨T1399, X1400, e1401, s1402⟩ := getF X1395 hx hZ hown (host := "") (Or.inl (oW hw 31 rfl)) Via.refl e1396 I1398 (g := (mkF m 37 #[rv ob_314, rv ob_1265, rv ob_1265] [(.ref ob_314)])) rfl rfl (hb hby dd6_37)
  refine oS s1402 ?_
  show own_G p e below (T1399.setTop (mkF m 40 #[rv ob_314, rv ob_1265, rv ob_1265] [(.ref ob_315)])) _
  refine oS (fun _ => XS.aloadN X1400.here hx rfl (hb hby dd6_40) rfl rfl) ?_
  obtain ⟨T1404, X1405, e1406, s1407⟩ := getF X1400 hx hZ hown (host := "") (Or.inl (oW hw 31 rfl)) Via.refl e1401 I1403 (g := (mkF m 41 #[rv ob_314, rv ob_1265, rv ob_1265] [(.ref ob_1265), (.ref ob_315)])) rfl rfl (hb hby dd6_41)
  refine oS s1407 ?_
  show own_G p e below (T1404.setTop (mkF m 44 #[rv ob_314, rv ob_1265, rv ob_1265] [(.ref ob_1266), (.ref ob_315)])) _
  obtain ⟨T1412, h1413, v1414, L1415, X1416, e1417, q1418, s1419⟩ := own_callS X1405 hx hZ hown e1406 (y := (⟨"java/lang/StringLatin1", "equals", "([B[B)Z"⟩ : MethodName)) (oW hw 68 rfl) (oW hw 69 rfl) (oW hw 70 rfl) (oW hw 71 rfl) (by decide) (W := 0) (own_rm32 l Z a0 hw [] ob_315 ob_1266 kk_316 kk_1267 in_18 in_19 h0 n0 Z0 O0 I1408 I1409) (by decide) (by decide) (by decide) (by decide) (g := (mkF m 44 #[rv ob_314, rv ob_1265, rv ob_1265] [(.ref ob_1266), (.ref ob_315)])) rfl (by rw [hml]; rfl) (argsL := [(.ref ob_315), (.ref ob_1266)]) (rest := []) rfl (lenOf own_pd5 rfl) rfl (by show 2 * 0 + _ ≤ _; exact Nat.le_of_eq rfl) (hb hby dd6_44)
  refine oS s1419 ?_
  obtain ⟨rfl, N1420, K1421⟩ := q1418
  have N1422 := Fr.app N0 N1420
  have e1423 := e1417.trans K1421
  show own_G p e below (T1412.setTop (mkF m 47 #[rv ob_314, rv ob_1265, rv ob_1265] [(.int 0)])) _
  refine oS (fun _ => XS.ifYes X1416.here hx rfl (pc0 := 47) (pc' := 54) rfl (hb hby dd6_47) rfl (XT.i0_eq_t (by decide)) (by decide) (by decide)) ?_
  show own_G p e below (T1412.setTop (mkF m 54 #[rv ob_314, rv ob_1265, rv ob_1265] [])) _
  refine oS (fun _ => XS.iconst X1416.here hx rfl (hb hby dd6_54) ) ?_
  exact own_retN X1416 hx (t := .boolean) Bd.notSynchronized Bd.returns (by simp) (hb hby dd6_55) (by decide) e1423 (by decide) (by decide) (⟨rfl, N1422, rfl⟩)
def own_Q30 (Z : State) (ob_1294 : Nat) (ob_1265 : Nat) (ob_9 : Nat) (ob_314 : Nat) (in_6 : Int32) (ob_315 : Nat) (ob_1266 : Nat) (kk_316 : ClassId) (kk_1267 : ClassId) (in_18 : Int32) (in_19 : Int32) (h0 : Heap) (n0 : Nat) (v : Option Value) (h : Heap) (L : List Loc) : Prop := (v = some (.int 0) ∧ Fr n0 L ∧ h = h0)
set_option maxRecDepth 65536 in
set_option maxHeartbeats 40000000 in
theorem own_rm30 (l : Launch) (Z : State) (a0 : Array Value) (hw : ∀ d ∈ tables_1, d.before a0 Z = true) (ws : List Jvm.Cond) (ob_1294 : Nat) (ob_1265 : Nat) (ob_9 : Nat) (ob_314 : Nat) (in_6 : Int32) (ob_315 : Nat) (ob_1266 : Nat) (kk_316 : ClassId) (kk_1267 : ClassId) (in_18 : Int32) (in_19 : Int32) (h0 : Heap) (n0 : Nat) (Z0 : n0 ≤ h0.size) (O0 : Old Z n0 h0) (I1345 : Fld Z h0 ob_1294 "com/example/latente/latente/query/JpqlLexer$Token" "kind" "Lcom/example/latente/latente/query/JpqlLexer$Kind;" (.ref ob_9)) (I1350 : Sta Z Z.heap "com/example/latente/latente/query/JpqlLexer$Kind" "SYMBOL" "Lcom/example/latente/latente/query/JpqlLexer$Kind;" (.ref ob_9)) (I1356 : Fld Z h0 ob_1294 "com/example/latente/latente/query/JpqlLexer$Token" "text" "Ljava/lang/String;" (.ref ob_314)) (I1361 : @Ne Nat ob_314 ob_1265) (I1362 : Exa Z h0 ob_1265 "java/lang/String") (I1363 : Sta Z Z.heap "java/lang/String" "COMPACT_STRINGS" "Z" (.int in_6)) (I1364 : ¬ (in_6 = 0)) (I1365 : Fld Z h0 ob_314 "java/lang/String" "coder" "B" (.int 0)) (I1366 : Fld Z h0 ob_1265 "java/lang/String" "coder" "B" (.int 0)) (I1367 : Fld Z h0 ob_314 "java/lang/String" "value" "[B" (.ref ob_315)) (I1368 : Fld Z h0 ob_1265 "java/lang/String" "value" "[B" (.ref ob_1266)) (I1369 : Arv Z h0 ob_315 kk_316 .byte 0 [] (.int 0)) (I1370 : Arv Z h0 ob_1266 kk_1267 .byte 2 [(.int (in_18.toInt8.toInt32)), (.int (in_19.toInt8.toInt32))] (.int 0)) (I1435 : Exa Z h0 ob_314 "java/lang/String") :
    own_Met l Z h0 (⟨"com/example/latente/latente/query/JpqlLexer$Token", "isSymbol", "(Ljava/lang/String;)Z"⟩ : MethodName) prog_9_method_3_code 2 (Option.some FieldType.boolean) ws ({ frames := 2, cells := 0, slots := 0, locals := 28 } : Room) #[(.ref ob_1294), (.ref ob_1265)] (own_Q30 Z ob_1294 ob_1265 ob_9 ob_314 in_6 ob_315 ob_1266 kk_316 kk_1267 in_18 in_19 h0 n0) 0 0 := by
  refine MetFree.of_bodySF own_pn7 hisR ?_
  intro p e s m args below meth c s₁ Bd hml0 hP hK
  obtain ⟨rfl, hZ, hh⟩ := hP
  have hx := Bd.exec
  have hby := Bd.bytes
  have hml : c.maxLocals = 2 := hml0
  have hown : s.vm.findClass "com/example/latente/latente/query/JpqlLexer$Token" = some m.cls := findClass_of_methodNamed Bd.named
  have hnm := (name_of_methodNamed Bd.named Bd.method).1
  have X0 : Stand p l e ({ frames := 2, cells := 0, slots := 0, locals := 28 } : Room) s m #[(.ref ob_1294), (.ref ob_1265)] below meth c s₁ [] 0 0 := Stand.of_body Bd
  have e0 : s₁.heap = h0 := by rw [← hh, Bd.state]; rfl
  have N0 := Fr.nil n0
  show own_G p e below (s₁.setTop (entryFrame m #[(.ref ob_1294), (.ref ob_1265)] 2)) (own_P s (own_Q30 Z ob_1294 ob_1265 ob_9 ob_314 in_6 ob_315 ob_1266 kk_316 kk_1267 in_18 in_19 h0 n0) 0 0)
  refine own_cast (own_ef2 m ob_1294 ob_1265) ?_
  show own_G p e below (s₁.setTop (mkF m 0 #[rv ob_1294, rv ob_1265] [])) _
  refine oS (fun _ => XS.aloadN X0.here hx rfl (hb hby dd5_0) rfl rfl) ?_
  obtain ⟨T1346, X1347, e1348, s1349⟩ := getF X0 hx hZ hown (host := "") (Or.inl (oW hw 45 rfl)) Via.refl e0 I1345 (g := (mkF m 1 #[rv ob_1294, rv ob_1265] [(.ref ob_1294)])) rfl rfl (hb hby dd5_1)
  refine oS s1349 ?_
  show own_G p e below (T1346.setTop (mkF m 4 #[rv ob_1294, rv ob_1265] [(.ref ob_9)])) _
  have F1351 : Sta Z h0 "com/example/latente/latente/query/JpqlLexer$Kind" "SYMBOL" "Lcom/example/latente/latente/query/JpqlLexer$Kind;" (.ref ob_9) := Sta.ext O0.2 I1350
  obtain ⟨T1352, X1353, e1354, s1355⟩ := getS X1347 hx hZ hown (host := "") (oW hw 56 rfl) Via.refl e1348 F1351 (g := (mkF m 4 #[rv ob_1294, rv ob_1265] [(.ref ob_9)])) rfl (hb hby dd5_4)
  refine oS s1355 ?_
  show own_G p e below (T1352.setTop (mkF m 7 #[rv ob_1294, rv ob_1265] [(.ref ob_9), (.ref ob_9)])) _
  refine oS (fun _ => XT.acmpNo X1353.here hx rfl (hb hby dd5_7) rfl rfl rfl (XT.aa_ne_f rfl)) ?_
  show own_G p e below (T1352.setTop (mkF m 10 #[rv ob_1294, rv ob_1265] [])) _
  refine oS (fun _ => XS.aloadN X1353.here hx rfl (hb hby dd5_10) rfl rfl) ?_
  obtain ⟨T1357, X1358, e1359, s1360⟩ := getF X1353 hx hZ hown (host := "") (Or.inl (oW hw 47 rfl)) Via.refl e1354 I1356 (g := (mkF m 11 #[rv ob_1294, rv ob_1265] [(.ref ob_1294)])) rfl rfl (hb hby dd5_11)
  refine oS s1360 ?_
  show own_G p e below (T1357.setTop (mkF m 14 #[rv ob_1294, rv ob_1265] [(.ref ob_314)])) _
  refine oS (fun _ => XS.aloadN X1358.here hx rfl (hb hby dd5_14) rfl rfl) ?_
  obtain ⟨T1424, h1425, v1426, L1427, X1428, e1429, q1430, s1431⟩ := own_callV X1358 hx hZ hown e1359 (y := (⟨"java/lang/String", "equals", "(Ljava/lang/Object;)Z"⟩ : MethodName)) (z := (⟨"java/lang/String", "equals", "(Ljava/lang/Object;)Z"⟩ : MethodName)) (C := "java/lang/String") (b := ob_314) (oW hw 61 rfl) (oW hw 62 rfl) (notFace_of_selects (args := #[]) (mvT hZ (oW hw 64 rfl))) (oW hw 64 rfl) (oW hw 63 rfl) (oW hw 13 rfl) (oW hw 65 rfl) (by decide) I1435 (W := 0) (own_rm31 l Z a0 hw [] ob_314 ob_1265 in_6 ob_315 ob_1266 kk_316 kk_1267 in_18 in_19 h0 n0 Z0 O0 I1361 I1362 I1363 I1364 I1365 I1366 I1367 I1368 I1369 I1370) (by decide) (by decide) (by decide) (by decide) (g := (mkF m 15 #[rv ob_1294, rv ob_1265] [(.ref ob_1265), (.ref ob_314)])) rfl (by rw [hml]; rfl) (argsL := [(.ref ob_1265)]) (rest := []) rfl (lenOf own_pd6 rfl) rfl (by show 2 * 0 + _ ≤ _; exact Nat.le_of_eq rfl) (hb hby dd5_15)
  refine oS s1431 ?_
  obtain ⟨rfl, N1436, K1437⟩ := q1430
  have N1438 := Fr.app N0 N1436
  have e1439 := e1429.trans K1437
  show own_G p e below (T1424.setTop (mkF m 18 #[rv ob_1294, rv ob_1265] [(.int 0)])) _
  refine oS (fun _ => XS.ifYes X1428.here hx rfl (pc0 := 18) (pc' := 25) rfl (hb hby dd5_18) rfl (XT.i0_eq_t (by decide)) (by decide) (by decide)) ?_
  show own_G p e below (T1424.setTop (mkF m 25 #[rv ob_1294, rv ob_1265] [])) _
  refine oS (fun _ => XS.iconst X1428.here hx rfl (hb hby dd5_25) ) ?_
  exact own_retN X1428 hx (t := .boolean) Bd.notSynchronized Bd.returns (by simp) (hb hby dd5_26) (by decide) e1439 (by decide) (by decide) (⟨rfl, N1438, rfl⟩)
def own_Q35 (Z : State) (ob_1464 : Nat) (ob_1497 : Nat) (kk_1465 : ClassId) (in_16 : Int32) (kk_1498 : ClassId) (h0 : Heap) (n0 : Nat) (v : Option Value) (h : Heap) (L : List Loc) : Prop := (v = some (.int 0) ∧ Fr n0 L ∧ h = h0)
set_option maxRecDepth 65536 in
set_option maxHeartbeats 40000000 in
theorem own_rm35 (l : Launch) (Z : State) (a0 : Array Value) (hw : ∀ d ∈ tables_1, d.before a0 Z = true) (ws : List Jvm.Cond) (ob_1464 : Nat) (ob_1497 : Nat) (kk_1465 : ClassId) (in_16 : Int32) (kk_1498 : ClassId) (h0 : Heap) (n0 : Nat) (Z0 : n0 ≤ h0.size) (O0 : Old Z n0 h0) (I1632 : Arv Z h0 ob_1464 kk_1465 .byte 1 [(.int (in_16.toInt8.toInt32))] (.int 0)) (I1638 : Arv Z h0 ob_1497 kk_1498 .byte 0 [] (.int 0)) :
    own_Met l Z h0 (⟨"java/lang/StringLatin1", "equals", "([B[B)Z"⟩ : MethodName) jdk_43_method_13_code 3 (Option.some FieldType.boolean) ws ({ frames := 0, cells := 0, slots := 0, locals := 0 } : Room) #[(.ref ob_1464), (.ref ob_1497)] (own_Q35 Z ob_1464 ob_1497 kk_1465 in_16 kk_1498 h0 n0) 0 0 := by
  refine MetFree.of_bodySF own_pn5 hisR ?_
  intro p e s m args below meth c s₁ Bd hml0 hP hK
  obtain ⟨rfl, hZ, hh⟩ := hP
  have hx := Bd.exec
  have hby := Bd.bytes
  have hml : c.maxLocals = 3 := hml0
  have hown : s.vm.findClass "java/lang/StringLatin1" = some m.cls := findClass_of_methodNamed Bd.named
  have hnm := (name_of_methodNamed Bd.named Bd.method).1
  have X0 : Stand p l e ({ frames := 0, cells := 0, slots := 0, locals := 0 } : Room) s m #[(.ref ob_1464), (.ref ob_1497)] below meth c s₁ [] 0 0 := Stand.of_body Bd
  have e0 : s₁.heap = h0 := by rw [← hh, Bd.state]; rfl
  have N0 := Fr.nil n0
  show own_G p e below (s₁.setTop (entryFrame m #[(.ref ob_1464), (.ref ob_1497)] 3)) (own_P s (own_Q35 Z ob_1464 ob_1497 kk_1465 in_16 kk_1498 h0 n0) 0 0)
  refine own_cast (own_ef6 m ob_1464 ob_1497) ?_
  show own_G p e below (s₁.setTop (mkF m 0 #[rv ob_1464, rv ob_1497, .unset] [])) _
  refine oS (fun _ => XS.aloadN X0.here hx rfl (hb hby dd7_0) rfl rfl) ?_
  refine oS (own_len X0 hx hZ e0 I1632 rfl rfl (hb hby dd7_1)) ?_
  show own_G p e below (s₁.setTop (mkF m 2 #[rv ob_1464, rv ob_1497, .unset] [(.int 1)])) _
  refine oS (fun _ => XS.aloadN X0.here hx rfl (hb hby dd7_2) rfl rfl) ?_
  refine oS (own_len X0 hx hZ e0 I1638 rfl rfl (hb hby dd7_3)) ?_
  show own_G p e below (s₁.setTop (mkF m 4 #[rv ob_1464, rv ob_1497, .unset] [(.int 0), (.int 1)])) _
  refine oS (fun _ => XS.icmpYes X0.here hx rfl (pc0 := 4) (pc' := 34) rfl (hb hby dd7_4) rfl (XT.ii_ne_t (by decide)) (by decide) (by decide)) ?_
  show own_G p e below (s₁.setTop (mkF m 34 #[rv ob_1464, rv ob_1497, .unset] [])) _
  refine oS (fun _ => XS.iconst X0.here hx rfl (hb hby dd7_34) ) ?_
  exact own_retN X0 hx (t := .boolean) Bd.notSynchronized Bd.returns (by simp) (hb hby dd7_35) (by decide) e0 (by decide) (by decide) (⟨rfl, N0, rfl⟩)
def own_Q34 (Z : State) (ob_1463 : Nat) (ob_1496 : Nat) (in_6 : Int32) (ob_1464 : Nat) (ob_1497 : Nat) (kk_1465 : ClassId) (in_16 : Int32) (kk_1498 : ClassId) (h0 : Heap) (n0 : Nat) (v : Option Value) (h : Heap) (L : List Loc) : Prop := (v = some (.int 0) ∧ Fr n0 L ∧ h = h0)
set_option maxRecDepth 65536 in
set_option maxHeartbeats 40000000 in
theorem own_rm34 (l : Launch) (Z : State) (a0 : Array Value) (hw : ∀ d ∈ tables_1, d.before a0 Z = true) (ws : List Jvm.Cond) (ob_1463 : Nat) (ob_1496 : Nat) (in_6 : Int32) (ob_1464 : Nat) (ob_1497 : Nat) (kk_1465 : ClassId) (in_16 : Int32) (kk_1498 : ClassId) (h0 : Heap) (n0 : Nat) (Z0 : n0 ≤ h0.size) (O0 : Old Z n0 h0) (I1594 : @Ne Nat ob_1463 ob_1496) (I1599 : Exa Z h0 ob_1496 "java/lang/String") (I1604 : Sta Z Z.heap "java/lang/String" "COMPACT_STRINGS" "Z" (.int in_6)) (I1610 : ¬ (in_6 = 0)) (I1611 : Fld Z h0 ob_1463 "java/lang/String" "coder" "B" (.int 0)) (I1616 : Fld Z h0 ob_1496 "java/lang/String" "coder" "B" (.int 0)) (I1621 : Fld Z h0 ob_1463 "java/lang/String" "value" "[B" (.ref ob_1464)) (I1626 : Fld Z h0 ob_1496 "java/lang/String" "value" "[B" (.ref ob_1497)) (I1631 : Arv Z h0 ob_1464 kk_1465 .byte 1 [(.int (in_16.toInt8.toInt32))] (.int 0)) (I1637 : Arv Z h0 ob_1497 kk_1498 .byte 0 [] (.int 0)) :
    own_Met l Z h0 (⟨"java/lang/String", "equals", "(Ljava/lang/Object;)Z"⟩ : MethodName) jdk_42_method_66_code 3 (Option.some FieldType.boolean) ws ({ frames := 1, cells := 0, slots := 0, locals := 14 } : Room) #[(.ref ob_1463), (.ref ob_1496)] (own_Q34 Z ob_1463 ob_1496 in_6 ob_1464 ob_1497 kk_1465 in_16 kk_1498 h0 n0) 0 0 := by
  refine MetFree.of_bodySF own_pn6 hisR ?_
  intro p e s m args below meth c s₁ Bd hml0 hP hK
  obtain ⟨rfl, hZ, hh⟩ := hP
  have hx := Bd.exec
  have hby := Bd.bytes
  have hml : c.maxLocals = 3 := hml0
  have hown : s.vm.findClass "java/lang/String" = some m.cls := findClass_of_methodNamed Bd.named
  have hnm := (name_of_methodNamed Bd.named Bd.method).1
  have X0 : Stand p l e ({ frames := 1, cells := 0, slots := 0, locals := 14 } : Room) s m #[(.ref ob_1463), (.ref ob_1496)] below meth c s₁ [] 0 0 := Stand.of_body Bd
  have e0 : s₁.heap = h0 := by rw [← hh, Bd.state]; rfl
  have N0 := Fr.nil n0
  show own_G p e below (s₁.setTop (entryFrame m #[(.ref ob_1463), (.ref ob_1496)] 3)) (own_P s (own_Q34 Z ob_1463 ob_1496 in_6 ob_1464 ob_1497 kk_1465 in_16 kk_1498 h0 n0) 0 0)
  refine own_cast (own_ef6 m ob_1463 ob_1496) ?_
  show own_G p e below (s₁.setTop (mkF m 0 #[rv ob_1463, rv ob_1496, .unset] [])) _
  refine oS (fun _ => XS.aloadN X0.here hx rfl (hb hby dd6_0) rfl rfl) ?_
  refine oS (fun _ => XS.aloadN X0.here hx rfl (hb hby dd6_1) rfl rfl) ?_
  refine oS (fun _ => XT.acmpYes X0.here hx rfl (pc0 := 2) (pc' := 7) rfl (hb hby dd6_2) rfl rfl rfl (XT.aa_ne_t (own_rne I1594)) (by decide) (by decide)) ?_
  show own_G p e below (s₁.setTop (mkF m 7 #[rv ob_1463, rv ob_1496, .unset] [])) _
  refine oS (fun _ => XS.aloadN X0.here hx rfl (hb hby dd6_7) rfl rfl) ?_
  obtain ⟨T1595, X1596, e1597, s1598⟩ := instY X0 hx hZ hown (oW hw 66 rfl) e0 (Ins.self I1599) (g := (mkF m 8 #[rv ob_1463, rv ob_1496, .unset] [(.ref ob_1496)])) rfl rfl (hb hby dd6_8)
  refine oS s1598 ?_
  show own_G p e below (T1595.setTop (mkF m 11 #[rv ob_1463, rv ob_1496, .unset] [(.int 1)])) _
  refine oS (fun _ => XS.ifNo X1596.here hx rfl (hb hby dd6_11) rfl (XT.i0_eq_f (by decide))) ?_
  show own_G p e below (T1595.setTop (mkF m 14 #[rv ob_1463, rv ob_1496, .unset] [])) _
  refine oS (fun _ => XS.aloadN X1596.here hx rfl (hb hby dd6_14) rfl rfl) ?_
  obtain ⟨T1600, X1601, e1602, s1603⟩ := castY X1596 hx hZ hown (oW hw 66 rfl) e1597 (Ins.self I1599) (g := (mkF m 15 #[rv ob_1463, rv ob_1496, .unset] [(.ref ob_1496)])) rfl rfl (hb hby dd6_15)
  refine oS s1603 ?_
  show own_G p e below (T1600.setTop (mkF m 18 #[rv ob_1463, rv ob_1496, .unset] [(.ref ob_1496)])) _
  refine oS (fun _ => XS.astoreN X1601.here hx rfl (hb hby dd6_18) rfl rfl (l' := #[rv ob_1463, rv ob_1496, rv ob_1496]) rfl) ?_
  have F1605 : Sta Z h0 "java/lang/String" "COMPACT_STRINGS" "Z" (.int in_6) := Sta.ext O0.2 I1604
  obtain ⟨T1606, X1607, e1608, s1609⟩ := getS X1601 hx hZ hown (host := "") (oW hw 67 rfl) Via.refl e1602 F1605 (g := (mkF m 19 #[rv ob_1463, rv ob_1496, rv ob_1496] [])) rfl (hb hby dd6_19)
  refine oS s1609 ?_
  show own_G p e below (T1606.setTop (mkF m 22 #[rv ob_1463, rv ob_1496, rv ob_1496] [(.int in_6)])) _
  refine oS (fun _ => XS.ifNo X1607.here hx rfl (hb hby dd6_22) rfl (XT.i0_eq_f I1610)) ?_
  show own_G p e below (T1606.setTop (mkF m 25 #[rv ob_1463, rv ob_1496, rv ob_1496] [])) _
  refine oS (fun _ => XS.aloadN X1607.here hx rfl (hb hby dd6_25) rfl rfl) ?_
  obtain ⟨T1612, X1613, e1614, s1615⟩ := getF X1607 hx hZ hown (host := "") (Or.inl (oW hw 32 rfl)) Via.refl e1608 I1611 (g := (mkF m 26 #[rv ob_1463, rv ob_1496, rv ob_1496] [(.ref ob_1463)])) rfl rfl (hb hby dd6_26)
  refine oS s1615 ?_
  show own_G p e below (T1612.setTop (mkF m 29 #[rv ob_1463, rv ob_1496, rv ob_1496] [(.int 0)])) _
  refine oS (fun _ => XS.aloadN X1613.here hx rfl (hb hby dd6_29) rfl rfl) ?_
  obtain ⟨T1617, X1618, e1619, s1620⟩ := getF X1613 hx hZ hown (host := "") (Or.inl (oW hw 32 rfl)) Via.refl e1614 I1616 (g := (mkF m 30 #[rv ob_1463, rv ob_1496, rv ob_1496] [(.ref ob_1496), (.int 0)])) rfl rfl (hb hby dd6_30)
  refine oS s1620 ?_
  show own_G p e below (T1617.setTop (mkF m 33 #[rv ob_1463, rv ob_1496, rv ob_1496] [(.int 0), (.int 0)])) _
  refine oS (fun _ => XS.icmpNo X1618.here hx rfl (hb hby dd6_33) rfl (XT.ii_ne_f (by decide))) ?_
  show own_G p e below (T1617.setTop (mkF m 36 #[rv ob_1463, rv ob_1496, rv ob_1496] [])) _
  refine oS (fun _ => XS.aloadN X1618.here hx rfl (hb hby dd6_36) rfl rfl) ?_
  obtain ⟨T1622, X1623, e1624, s1625⟩ := getF X1618 hx hZ hown (host := "") (Or.inl (oW hw 31 rfl)) Via.refl e1619 I1621 (g := (mkF m 37 #[rv ob_1463, rv ob_1496, rv ob_1496] [(.ref ob_1463)])) rfl rfl (hb hby dd6_37)
  refine oS s1625 ?_
  show own_G p e below (T1622.setTop (mkF m 40 #[rv ob_1463, rv ob_1496, rv ob_1496] [(.ref ob_1464)])) _
  refine oS (fun _ => XS.aloadN X1623.here hx rfl (hb hby dd6_40) rfl rfl) ?_
  obtain ⟨T1627, X1628, e1629, s1630⟩ := getF X1623 hx hZ hown (host := "") (Or.inl (oW hw 31 rfl)) Via.refl e1624 I1626 (g := (mkF m 41 #[rv ob_1463, rv ob_1496, rv ob_1496] [(.ref ob_1496), (.ref ob_1464)])) rfl rfl (hb hby dd6_41)
  refine oS s1630 ?_
  show own_G p e below (T1627.setTop (mkF m 44 #[rv ob_1463, rv ob_1496, rv ob_1496] [(.ref ob_1497), (.ref ob_1464)])) _
  obtain ⟨T1639, h1640, v1641, L1642, X1643, e1644, q1645, s1646⟩ := own_callS X1628 hx hZ hown e1629 (y := (⟨"java/lang/StringLatin1", "equals", "([B[B)Z"⟩ : MethodName)) (oW hw 68 rfl) (oW hw 69 rfl) (oW hw 70 rfl) (oW hw 71 rfl) (by decide) (W := 0) (own_rm35 l Z a0 hw [] ob_1464 ob_1497 kk_1465 in_16 kk_1498 h0 n0 Z0 O0 I1631 I1637) (by decide) (by decide) (by decide) (by decide) (g := (mkF m 44 #[rv ob_1463, rv ob_1496, rv ob_1496] [(.ref ob_1497), (.ref ob_1464)])) rfl (by rw [hml]; rfl) (argsL := [(.ref ob_1464), (.ref ob_1497)]) (rest := []) rfl (lenOf own_pd5 rfl) rfl (by show 2 * 0 + _ ≤ _; exact Nat.le_of_eq rfl) (hb hby dd6_44)
  refine oS s1646 ?_
  obtain ⟨rfl, N1647, K1648⟩ := q1645
  have N1649 := Fr.app N0 N1647
  have e1650 := e1644.trans K1648
  show own_G p e below (T1639.setTop (mkF m 47 #[rv ob_1463, rv ob_1496, rv ob_1496] [(.int 0)])) _
  refine oS (fun _ => XS.ifYes X1643.here hx rfl (pc0 := 47) (pc' := 54) rfl (hb hby dd6_47) rfl (XT.i0_eq_t (by decide)) (by decide) (by decide)) ?_
  show own_G p e below (T1639.setTop (mkF m 54 #[rv ob_1463, rv ob_1496, rv ob_1496] [])) _
  refine oS (fun _ => XS.iconst X1643.here hx rfl (hb hby dd6_54) ) ?_
  exact own_retN X1643 hx (t := .boolean) Bd.notSynchronized Bd.returns (by simp) (hb hby dd6_55) (by decide) e1650 (by decide) (by decide) (⟨rfl, N1649, rfl⟩)
def own_Q33 (Z : State) (ob_1521 : Nat) (ob_1496 : Nat) (ob_9 : Nat) (ob_1463 : Nat) (in_6 : Int32) (ob_1464 : Nat) (ob_1497 : Nat) (kk_1465 : ClassId) (in_16 : Int32) (kk_1498 : ClassId) (h0 : Heap) (n0 : Nat) (v : Option Value) (h : Heap) (L : List Loc) : Prop := (v = some (.int 0) ∧ Fr n0 L ∧ h = h0)
set_option maxRecDepth 65536 in
set_option maxHeartbeats 40000000 in
theorem own_rm33 (l : Launch) (Z : State) (a0 : Array Value) (hw : ∀ d ∈ tables_1, d.before a0 Z = true) (ws : List Jvm.Cond) (ob_1521 : Nat) (ob_1496 : Nat) (ob_9 : Nat) (ob_1463 : Nat) (in_6 : Int32) (ob_1464 : Nat) (ob_1497 : Nat) (kk_1465 : ClassId) (in_16 : Int32) (kk_1498 : ClassId) (h0 : Heap) (n0 : Nat) (Z0 : n0 ≤ h0.size) (O0 : Old Z n0 h0) (I1569 : Fld Z h0 ob_1521 "com/example/latente/latente/query/JpqlLexer$Token" "kind" "Lcom/example/latente/latente/query/JpqlLexer$Kind;" (.ref ob_9)) (I1574 : Sta Z Z.heap "com/example/latente/latente/query/JpqlLexer$Kind" "SYMBOL" "Lcom/example/latente/latente/query/JpqlLexer$Kind;" (.ref ob_9)) (I1580 : Fld Z h0 ob_1521 "com/example/latente/latente/query/JpqlLexer$Token" "text" "Ljava/lang/String;" (.ref ob_1463)) (I1585 : @Ne Nat ob_1463 ob_1496) (I1586 : Exa Z h0 ob_1496 "java/lang/String") (I1587 : Sta Z Z.heap "java/lang/String" "COMPACT_STRINGS" "Z" (.int in_6)) (I1588 : ¬ (in_6 = 0)) (I1589 : Fld Z h0 ob_1463 "java/lang/String" "coder" "B" (.int 0)) (I1590 : Fld Z h0 ob_1496 "java/lang/String" "coder" "B" (.int 0)) (I1591 : Fld Z h0 ob_1463 "java/lang/String" "value" "[B" (.ref ob_1464)) (I1592 : Fld Z h0 ob_1496 "java/lang/String" "value" "[B" (.ref ob_1497)) (I1593 : Arv Z h0 ob_1464 kk_1465 .byte 1 [(.int (in_16.toInt8.toInt32))] (.int 0)) (I1636 : Arv Z h0 ob_1497 kk_1498 .byte 0 [] (.int 0)) (I1662 : Exa Z h0 ob_1463 "java/lang/String") :
    own_Met l Z h0 (⟨"com/example/latente/latente/query/JpqlLexer$Token", "isSymbol", "(Ljava/lang/String;)Z"⟩ : MethodName) prog_9_method_3_code 2 (Option.some FieldType.boolean) ws ({ frames := 2, cells := 0, slots := 0, locals := 28 } : Room) #[(.ref ob_1521), (.ref ob_1496)] (own_Q33 Z ob_1521 ob_1496 ob_9 ob_1463 in_6 ob_1464 ob_1497 kk_1465 in_16 kk_1498 h0 n0) 0 0 := by
  refine MetFree.of_bodySF own_pn7 hisR ?_
  intro p e s m args below meth c s₁ Bd hml0 hP hK
  obtain ⟨rfl, hZ, hh⟩ := hP
  have hx := Bd.exec
  have hby := Bd.bytes
  have hml : c.maxLocals = 2 := hml0
  have hown : s.vm.findClass "com/example/latente/latente/query/JpqlLexer$Token" = some m.cls := findClass_of_methodNamed Bd.named
  have hnm := (name_of_methodNamed Bd.named Bd.method).1
  have X0 : Stand p l e ({ frames := 2, cells := 0, slots := 0, locals := 28 } : Room) s m #[(.ref ob_1521), (.ref ob_1496)] below meth c s₁ [] 0 0 := Stand.of_body Bd
  have e0 : s₁.heap = h0 := by rw [← hh, Bd.state]; rfl
  have N0 := Fr.nil n0
  show own_G p e below (s₁.setTop (entryFrame m #[(.ref ob_1521), (.ref ob_1496)] 2)) (own_P s (own_Q33 Z ob_1521 ob_1496 ob_9 ob_1463 in_6 ob_1464 ob_1497 kk_1465 in_16 kk_1498 h0 n0) 0 0)
  refine own_cast (own_ef2 m ob_1521 ob_1496) ?_
  show own_G p e below (s₁.setTop (mkF m 0 #[rv ob_1521, rv ob_1496] [])) _
  refine oS (fun _ => XS.aloadN X0.here hx rfl (hb hby dd5_0) rfl rfl) ?_
  obtain ⟨T1570, X1571, e1572, s1573⟩ := getF X0 hx hZ hown (host := "") (Or.inl (oW hw 45 rfl)) Via.refl e0 I1569 (g := (mkF m 1 #[rv ob_1521, rv ob_1496] [(.ref ob_1521)])) rfl rfl (hb hby dd5_1)
  refine oS s1573 ?_
  show own_G p e below (T1570.setTop (mkF m 4 #[rv ob_1521, rv ob_1496] [(.ref ob_9)])) _
  have F1575 : Sta Z h0 "com/example/latente/latente/query/JpqlLexer$Kind" "SYMBOL" "Lcom/example/latente/latente/query/JpqlLexer$Kind;" (.ref ob_9) := Sta.ext O0.2 I1574
  obtain ⟨T1576, X1577, e1578, s1579⟩ := getS X1571 hx hZ hown (host := "") (oW hw 56 rfl) Via.refl e1572 F1575 (g := (mkF m 4 #[rv ob_1521, rv ob_1496] [(.ref ob_9)])) rfl (hb hby dd5_4)
  refine oS s1579 ?_
  show own_G p e below (T1576.setTop (mkF m 7 #[rv ob_1521, rv ob_1496] [(.ref ob_9), (.ref ob_9)])) _
  refine oS (fun _ => XT.acmpNo X1577.here hx rfl (hb hby dd5_7) rfl rfl rfl (XT.aa_ne_f rfl)) ?_
  show own_G p e below (T1576.setTop (mkF m 10 #[rv ob_1521, rv ob_1496] [])) _
  refine oS (fun _ => XS.aloadN X1577.here hx rfl (hb hby dd5_10) rfl rfl) ?_
  obtain ⟨T1581, X1582, e1583, s1584⟩ := getF X1577 hx hZ hown (host := "") (Or.inl (oW hw 47 rfl)) Via.refl e1578 I1580 (g := (mkF m 11 #[rv ob_1521, rv ob_1496] [(.ref ob_1521)])) rfl rfl (hb hby dd5_11)
  refine oS s1584 ?_
  show own_G p e below (T1581.setTop (mkF m 14 #[rv ob_1521, rv ob_1496] [(.ref ob_1463)])) _
  refine oS (fun _ => XS.aloadN X1582.here hx rfl (hb hby dd5_14) rfl rfl) ?_
  obtain ⟨T1651, h1652, v1653, L1654, X1655, e1656, q1657, s1658⟩ := own_callV X1582 hx hZ hown e1583 (y := (⟨"java/lang/String", "equals", "(Ljava/lang/Object;)Z"⟩ : MethodName)) (z := (⟨"java/lang/String", "equals", "(Ljava/lang/Object;)Z"⟩ : MethodName)) (C := "java/lang/String") (b := ob_1463) (oW hw 61 rfl) (oW hw 62 rfl) (notFace_of_selects (args := #[]) (mvT hZ (oW hw 64 rfl))) (oW hw 64 rfl) (oW hw 63 rfl) (oW hw 13 rfl) (oW hw 65 rfl) (by decide) I1662 (W := 0) (own_rm34 l Z a0 hw [] ob_1463 ob_1496 in_6 ob_1464 ob_1497 kk_1465 in_16 kk_1498 h0 n0 Z0 O0 I1585 I1586 I1587 I1588 I1589 I1590 I1591 I1592 I1593 I1636) (by decide) (by decide) (by decide) (by decide) (g := (mkF m 15 #[rv ob_1521, rv ob_1496] [(.ref ob_1496), (.ref ob_1463)])) rfl (by rw [hml]; rfl) (argsL := [(.ref ob_1496)]) (rest := []) rfl (lenOf own_pd6 rfl) rfl (by show 2 * 0 + _ ≤ _; exact Nat.le_of_eq rfl) (hb hby dd5_15)
  refine oS s1658 ?_
  obtain ⟨rfl, N1663, K1664⟩ := q1657
  have N1665 := Fr.app N0 N1663
  have e1666 := e1656.trans K1664
  show own_G p e below (T1651.setTop (mkF m 18 #[rv ob_1521, rv ob_1496] [(.int 0)])) _
  refine oS (fun _ => XS.ifYes X1655.here hx rfl (pc0 := 18) (pc' := 25) rfl (hb hby dd5_18) rfl (XT.i0_eq_t (by decide)) (by decide) (by decide)) ?_
  show own_G p e below (T1651.setTop (mkF m 25 #[rv ob_1521, rv ob_1496] [])) _
  refine oS (fun _ => XS.iconst X1655.here hx rfl (hb hby dd5_25) ) ?_
  exact own_retN X1655 hx (t := .boolean) Bd.notSynchronized Bd.returns (by simp) (hb hby dd5_26) (by decide) e1666 (by decide) (by decide) (⟨rfl, N1665, rfl⟩)
theorem dd7_15 : decode jdk_43_method_13_code 15 = .ok (.aload_n 0, 1) := by decide +kernel
theorem dd7_16 : decode jdk_43_method_13_code 16 = .ok (.iload_n 2, 1) := by decide +kernel
theorem dd7_17 : decode jdk_43_method_13_code 17 = .ok (.baload, 1) := by decide +kernel
theorem dd7_18 : decode jdk_43_method_13_code 18 = .ok (.aload_n 1, 1) := by decide +kernel
theorem dd7_19 : decode jdk_43_method_13_code 19 = .ok (.iload_n 2, 1) := by decide +kernel
theorem dd7_20 : decode jdk_43_method_13_code 20 = .ok (.baload, 1) := by decide +kernel
theorem dd7_21 : decode jdk_43_method_13_code 21 = .ok (.if_icmp .eq 5, 3) := by decide +kernel
theorem dd7_26 : decode jdk_43_method_13_code 26 = .ok (.iinc 2 1, 3) := by decide +kernel
theorem dd7_29 : decode jdk_43_method_13_code 29 = .ok (.goto (-20), 3) := by decide +kernel
theorem dd7_24 : decode jdk_43_method_13_code 24 = .ok (.iconst 0, 1) := by decide +kernel
theorem dd7_25 : decode jdk_43_method_13_code 25 = .ok (.ireturn, 1) := by decide +kernel
def own_Q38 (Z : State) (ob_1464 : Nat) (ob_1693 : Nat) (kk_1465 : ClassId) (in_16 : Int32) (kk_1694 : ClassId) (in_18 : Int32) (h0 : Heap) (n0 : Nat) (v : Option Value) (h : Heap) (L : List Loc) : Prop := (((in_16.toInt8.toInt32) = (in_18.toInt8.toInt32)) ∧ v = some (.int 1) ∧ Fr n0 L ∧ h = h0) ∨ (¬ ((in_16.toInt8.toInt32) = (in_18.toInt8.toInt32)) ∧ v = some (.int 0) ∧ Fr n0 L ∧ h = h0)
set_option maxRecDepth 65536 in
set_option maxHeartbeats 40000000 in
theorem own_rm38 (l : Launch) (Z : State) (a0 : Array Value) (hw : ∀ d ∈ tables_1, d.before a0 Z = true) (ws : List Jvm.Cond) (ob_1464 : Nat) (ob_1693 : Nat) (kk_1465 : ClassId) (in_16 : Int32) (kk_1694 : ClassId) (in_18 : Int32) (h0 : Heap) (n0 : Nat) (Z0 : n0 ≤ h0.size) (O0 : Old Z n0 h0) (I1837 : Arv Z h0 ob_1464 kk_1465 .byte 1 [(.int (in_16.toInt8.toInt32))] (.int 0)) (I1838 : Arv Z h0 ob_1693 kk_1694 .byte 1 [(.int (in_18.toInt8.toInt32))] (.int 0)) :
    own_Met l Z h0 (⟨"java/lang/StringLatin1", "equals", "([B[B)Z"⟩ : MethodName) jdk_43_method_13_code 3 (Option.some FieldType.boolean) ws ({ frames := 0, cells := 0, slots := 0, locals := 0 } : Room) #[(.ref ob_1464), (.ref ob_1693)] (own_Q38 Z ob_1464 ob_1693 kk_1465 in_16 kk_1694 in_18 h0 n0) 0 0 := by
  refine MetFree.of_bodySF own_pn5 hisR ?_
  intro p e s m args below meth c s₁ Bd hml0 hP hK
  obtain ⟨rfl, hZ, hh⟩ := hP
  have hx := Bd.exec
  have hby := Bd.bytes
  have hml : c.maxLocals = 3 := hml0
  have hown : s.vm.findClass "java/lang/StringLatin1" = some m.cls := findClass_of_methodNamed Bd.named
  have hnm := (name_of_methodNamed Bd.named Bd.method).1
  have X0 : Stand p l e ({ frames := 0, cells := 0, slots := 0, locals := 0 } : Room) s m #[(.ref ob_1464), (.ref ob_1693)] below meth c s₁ [] 0 0 := Stand.of_body Bd
  have e0 : s₁.heap = h0 := by rw [← hh, Bd.state]; rfl
  have N0 := Fr.nil n0
  show own_G p e below (s₁.setTop (entryFrame m #[(.ref ob_1464), (.ref ob_1693)] 3)) (own_P s (own_Q38 Z ob_1464 ob_1693 kk_1465 in_16 kk_1694 in_18 h0 n0) 0 0)
  refine own_cast (own_ef6 m ob_1464 ob_1693) ?_
  show own_G p e below (s₁.setTop (mkF m 0 #[rv ob_1464, rv ob_1693, .unset] [])) _
  refine oS (fun _ => XS.aloadN X0.here hx rfl (hb hby dd7_0) rfl rfl) ?_
  refine oS (own_len X0 hx hZ e0 I1837 rfl rfl (hb hby dd7_1)) ?_
  show own_G p e below (s₁.setTop (mkF m 2 #[rv ob_1464, rv ob_1693, .unset] [(.int 1)])) _
  refine oS (fun _ => XS.aloadN X0.here hx rfl (hb hby dd7_2) rfl rfl) ?_
  refine oS (own_len X0 hx hZ e0 I1838 rfl rfl (hb hby dd7_3)) ?_
  show own_G p e below (s₁.setTop (mkF m 4 #[rv ob_1464, rv ob_1693, .unset] [(.int 1), (.int 1)])) _
  refine oS (fun _ => XS.icmpNo X0.here hx rfl (hb hby dd7_4) rfl (XT.ii_ne_f (by decide))) ?_
  show own_G p e below (s₁.setTop (mkF m 7 #[rv ob_1464, rv ob_1693, .unset] [])) _
  refine oS (fun _ => XS.iconst X0.here hx rfl (hb hby dd7_7) ) ?_
  refine oS (fun _ => XS.istoreN X0.here hx rfl (hb hby dd7_8) rfl (l' := #[rv ob_1464, rv ob_1693, iv 0]) rfl) ?_
  refine oS (fun _ => XS.iloadN X0.here hx rfl (hb hby dd7_9) rfl) ?_
  refine oS (fun _ => XS.aloadN X0.here hx rfl (hb hby dd7_10) rfl rfl) ?_
  show own_G p e below (s₁.setTop (mkF m 11 #[rv ob_1464, rv ob_1693, iv 0] [(.ref ob_1464), (.int 0)])) _
  refine oS (own_len X0 hx hZ e0 I1837 rfl rfl (hb hby dd7_11)) ?_
  show own_G p e below (s₁.setTop (mkF m 12 #[rv ob_1464, rv ob_1693, iv 0] [(.int 1), (.int 0)])) _
  refine oS (fun _ => XS.icmpNo X0.here hx rfl (hb hby dd7_12) rfl (XT.ii_ge_f (by decide))) ?_
  show own_G p e below (s₁.setTop (mkF m 15 #[rv ob_1464, rv ob_1693, iv 0] [])) _
  refine oS (fun _ => XS.aloadN X0.here hx rfl (hb hby dd7_15) rfl rfl) ?_
  refine oS (fun _ => XS.iloadN X0.here hx rfl (hb hby dd7_16) rfl) ?_
  refine oS (own_baload X0 hx hZ e0 I1837 (by decide) (v := (.int (in_16.toInt8.toInt32))) rfl rfl rfl (hb hby dd7_17)) ?_
  show own_G p e below (s₁.setTop (mkF m 18 #[rv ob_1464, rv ob_1693, iv 0] [(.int (in_16.toInt8.toInt32))])) _
  refine oS (fun _ => XS.aloadN X0.here hx rfl (hb hby dd7_18) rfl rfl) ?_
  refine oS (fun _ => XS.iloadN X0.here hx rfl (hb hby dd7_19) rfl) ?_
  refine oS (own_baload X0 hx hZ e0 I1838 (by decide) (v := (.int (in_18.toInt8.toInt32))) rfl rfl rfl (hb hby dd7_20)) ?_
  show own_G p e below (s₁.setTop (mkF m 21 #[rv ob_1464, rv ob_1693, iv 0] [(.int (in_18.toInt8.toInt32)), (.int (in_16.toInt8.toInt32))])) _
  by_cases b1839 : (in_16.toInt8.toInt32) = (in_18.toInt8.toInt32)
  · skip
    refine oS (fun _ => XS.icmpYes X0.here hx rfl (pc0 := 21) (pc' := 26) rfl (hb hby dd7_21) rfl (XT.ii_eq_t b1839) (by decide) (by decide)) ?_
    show own_G p e below (s₁.setTop (mkF m 26 #[rv ob_1464, rv ob_1693, iv 0] [])) _
    refine oS (fun _ => XS.iinc X0.here hx rfl (hb hby dd7_26) rfl (l' := #[rv ob_1464, rv ob_1693, iv 1]) rfl) ?_
    show own_G p e below (s₁.setTop (mkF m 29 #[rv ob_1464, rv ob_1693, iv 1] [])) _
    refine oS (fun _ => XS.goto X0.here hx rfl (pc0 := 29) (pc' := 9) rfl (hb hby dd7_29) (by decide) (by decide)) ?_
    show own_G p e below (s₁.setTop (mkF m 9 #[rv ob_1464, rv ob_1693, iv 1] [])) _
    refine oS (fun _ => XS.iloadN X0.here hx rfl (hb hby dd7_9) rfl) ?_
    refine oS (fun _ => XS.aloadN X0.here hx rfl (hb hby dd7_10) rfl rfl) ?_
    refine oS (own_len X0 hx hZ e0 I1837 rfl rfl (hb hby dd7_11)) ?_
    show own_G p e below (s₁.setTop (mkF m 12 #[rv ob_1464, rv ob_1693, iv 1] [(.int 1), (.int 1)])) _
    refine oS (fun _ => XS.icmpYes X0.here hx rfl (pc0 := 12) (pc' := 32) rfl (hb hby dd7_12) rfl (XT.ii_ge_t (by decide)) (by decide) (by decide)) ?_
    show own_G p e below (s₁.setTop (mkF m 32 #[rv ob_1464, rv ob_1693, iv 1] [])) _
    refine oS (fun _ => XS.iconst X0.here hx rfl (hb hby dd7_32) ) ?_
    exact own_retN X0 hx (t := .boolean) Bd.notSynchronized Bd.returns (by simp) (hb hby dd7_33) (by decide) e0 (by decide) (by decide) (Or.inl ⟨b1839, rfl, N0, rfl⟩)
  · skip
    refine oS (fun _ => XS.icmpNo X0.here hx rfl (hb hby dd7_21) rfl (XT.ii_eq_f b1839)) ?_
    show own_G p e below (s₁.setTop (mkF m 24 #[rv ob_1464, rv ob_1693, iv 0] [])) _
    refine oS (fun _ => XS.iconst X0.here hx rfl (hb hby dd7_24) ) ?_
    exact own_retN X0 hx (t := .boolean) Bd.notSynchronized Bd.returns (by simp) (hb hby dd7_25) (by decide) e0 (by decide) (by decide) (Or.inr (⟨b1839, rfl, N0, rfl⟩))
def own_Q37 (Z : State) (ob_1463 : Nat) (ob_1692 : Nat) (in_6 : Int32) (ob_1464 : Nat) (ob_1693 : Nat) (kk_1465 : ClassId) (in_16 : Int32) (kk_1694 : ClassId) (in_18 : Int32) (h0 : Heap) (n0 : Nat) (v : Option Value) (h : Heap) (L : List Loc) : Prop := (((in_16.toInt8.toInt32) = (in_18.toInt8.toInt32)) ∧ v = some (.int 1) ∧ Fr n0 L ∧ h = h0) ∨ (¬ ((in_16.toInt8.toInt32) = (in_18.toInt8.toInt32)) ∧ v = some (.int 0) ∧ Fr n0 L ∧ h = h0)
set_option maxRecDepth 65536 in
set_option maxHeartbeats 40000000 in
theorem own_rm37 (l : Launch) (Z : State) (a0 : Array Value) (hw : ∀ d ∈ tables_1, d.before a0 Z = true) (ws : List Jvm.Cond) (ob_1463 : Nat) (ob_1692 : Nat) (in_6 : Int32) (ob_1464 : Nat) (ob_1693 : Nat) (kk_1465 : ClassId) (in_16 : Int32) (kk_1694 : ClassId) (in_18 : Int32) (h0 : Heap) (n0 : Nat) (Z0 : n0 ≤ h0.size) (O0 : Old Z n0 h0) (I1798 : @Ne Nat ob_1463 ob_1692) (I1803 : Exa Z h0 ob_1692 "java/lang/String") (I1808 : Sta Z Z.heap "java/lang/String" "COMPACT_STRINGS" "Z" (.int in_6)) (I1814 : ¬ (in_6 = 0)) (I1815 : Fld Z h0 ob_1463 "java/lang/String" "coder" "B" (.int 0)) (I1820 : Fld Z h0 ob_1692 "java/lang/String" "coder" "B" (.int 0)) (I1825 : Fld Z h0 ob_1463 "java/lang/String" "value" "[B" (.ref ob_1464)) (I1830 : Fld Z h0 ob_1692 "java/lang/String" "value" "[B" (.ref ob_1693)) (I1835 : Arv Z h0 ob_1464 kk_1465 .byte 1 [(.int (in_16.toInt8.toInt32))] (.int 0)) (I1836 : Arv Z h0 ob_1693 kk_1694 .byte 1 [(.int (in_18.toInt8.toInt32))] (.int 0)) :
    own_Met l Z h0 (⟨"java/lang/String", "equals", "(Ljava/lang/Object;)Z"⟩ : MethodName) jdk_42_method_66_code 3 (Option.some FieldType.boolean) ws ({ frames := 1, cells := 0, slots := 0, locals := 14 } : Room) #[(.ref ob_1463), (.ref ob_1692)] (own_Q37 Z ob_1463 ob_1692 in_6 ob_1464 ob_1693 kk_1465 in_16 kk_1694 in_18 h0 n0) 0 0 := by
  refine MetFree.of_bodySF own_pn6 hisR ?_
  intro p e s m args below meth c s₁ Bd hml0 hP hK
  obtain ⟨rfl, hZ, hh⟩ := hP
  have hx := Bd.exec
  have hby := Bd.bytes
  have hml : c.maxLocals = 3 := hml0
  have hown : s.vm.findClass "java/lang/String" = some m.cls := findClass_of_methodNamed Bd.named
  have hnm := (name_of_methodNamed Bd.named Bd.method).1
  have X0 : Stand p l e ({ frames := 1, cells := 0, slots := 0, locals := 14 } : Room) s m #[(.ref ob_1463), (.ref ob_1692)] below meth c s₁ [] 0 0 := Stand.of_body Bd
  have e0 : s₁.heap = h0 := by rw [← hh, Bd.state]; rfl
  have N0 := Fr.nil n0
  show own_G p e below (s₁.setTop (entryFrame m #[(.ref ob_1463), (.ref ob_1692)] 3)) (own_P s (own_Q37 Z ob_1463 ob_1692 in_6 ob_1464 ob_1693 kk_1465 in_16 kk_1694 in_18 h0 n0) 0 0)
  refine own_cast (own_ef6 m ob_1463 ob_1692) ?_
  show own_G p e below (s₁.setTop (mkF m 0 #[rv ob_1463, rv ob_1692, .unset] [])) _
  refine oS (fun _ => XS.aloadN X0.here hx rfl (hb hby dd6_0) rfl rfl) ?_
  refine oS (fun _ => XS.aloadN X0.here hx rfl (hb hby dd6_1) rfl rfl) ?_
  refine oS (fun _ => XT.acmpYes X0.here hx rfl (pc0 := 2) (pc' := 7) rfl (hb hby dd6_2) rfl rfl rfl (XT.aa_ne_t (own_rne I1798)) (by decide) (by decide)) ?_
  show own_G p e below (s₁.setTop (mkF m 7 #[rv ob_1463, rv ob_1692, .unset] [])) _
  refine oS (fun _ => XS.aloadN X0.here hx rfl (hb hby dd6_7) rfl rfl) ?_
  obtain ⟨T1799, X1800, e1801, s1802⟩ := instY X0 hx hZ hown (oW hw 66 rfl) e0 (Ins.self I1803) (g := (mkF m 8 #[rv ob_1463, rv ob_1692, .unset] [(.ref ob_1692)])) rfl rfl (hb hby dd6_8)
  refine oS s1802 ?_
  show own_G p e below (T1799.setTop (mkF m 11 #[rv ob_1463, rv ob_1692, .unset] [(.int 1)])) _
  refine oS (fun _ => XS.ifNo X1800.here hx rfl (hb hby dd6_11) rfl (XT.i0_eq_f (by decide))) ?_
  show own_G p e below (T1799.setTop (mkF m 14 #[rv ob_1463, rv ob_1692, .unset] [])) _
  refine oS (fun _ => XS.aloadN X1800.here hx rfl (hb hby dd6_14) rfl rfl) ?_
  obtain ⟨T1804, X1805, e1806, s1807⟩ := castY X1800 hx hZ hown (oW hw 66 rfl) e1801 (Ins.self I1803) (g := (mkF m 15 #[rv ob_1463, rv ob_1692, .unset] [(.ref ob_1692)])) rfl rfl (hb hby dd6_15)
  refine oS s1807 ?_
  show own_G p e below (T1804.setTop (mkF m 18 #[rv ob_1463, rv ob_1692, .unset] [(.ref ob_1692)])) _
  refine oS (fun _ => XS.astoreN X1805.here hx rfl (hb hby dd6_18) rfl rfl (l' := #[rv ob_1463, rv ob_1692, rv ob_1692]) rfl) ?_
  have F1809 : Sta Z h0 "java/lang/String" "COMPACT_STRINGS" "Z" (.int in_6) := Sta.ext O0.2 I1808
  obtain ⟨T1810, X1811, e1812, s1813⟩ := getS X1805 hx hZ hown (host := "") (oW hw 67 rfl) Via.refl e1806 F1809 (g := (mkF m 19 #[rv ob_1463, rv ob_1692, rv ob_1692] [])) rfl (hb hby dd6_19)
  refine oS s1813 ?_
  show own_G p e below (T1810.setTop (mkF m 22 #[rv ob_1463, rv ob_1692, rv ob_1692] [(.int in_6)])) _
  refine oS (fun _ => XS.ifNo X1811.here hx rfl (hb hby dd6_22) rfl (XT.i0_eq_f I1814)) ?_
  show own_G p e below (T1810.setTop (mkF m 25 #[rv ob_1463, rv ob_1692, rv ob_1692] [])) _
  refine oS (fun _ => XS.aloadN X1811.here hx rfl (hb hby dd6_25) rfl rfl) ?_
  obtain ⟨T1816, X1817, e1818, s1819⟩ := getF X1811 hx hZ hown (host := "") (Or.inl (oW hw 32 rfl)) Via.refl e1812 I1815 (g := (mkF m 26 #[rv ob_1463, rv ob_1692, rv ob_1692] [(.ref ob_1463)])) rfl rfl (hb hby dd6_26)
  refine oS s1819 ?_
  show own_G p e below (T1816.setTop (mkF m 29 #[rv ob_1463, rv ob_1692, rv ob_1692] [(.int 0)])) _
  refine oS (fun _ => XS.aloadN X1817.here hx rfl (hb hby dd6_29) rfl rfl) ?_
  obtain ⟨T1821, X1822, e1823, s1824⟩ := getF X1817 hx hZ hown (host := "") (Or.inl (oW hw 32 rfl)) Via.refl e1818 I1820 (g := (mkF m 30 #[rv ob_1463, rv ob_1692, rv ob_1692] [(.ref ob_1692), (.int 0)])) rfl rfl (hb hby dd6_30)
  refine oS s1824 ?_
  show own_G p e below (T1821.setTop (mkF m 33 #[rv ob_1463, rv ob_1692, rv ob_1692] [(.int 0), (.int 0)])) _
  refine oS (fun _ => XS.icmpNo X1822.here hx rfl (hb hby dd6_33) rfl (XT.ii_ne_f (by decide))) ?_
  show own_G p e below (T1821.setTop (mkF m 36 #[rv ob_1463, rv ob_1692, rv ob_1692] [])) _
  refine oS (fun _ => XS.aloadN X1822.here hx rfl (hb hby dd6_36) rfl rfl) ?_
  obtain ⟨T1826, X1827, e1828, s1829⟩ := getF X1822 hx hZ hown (host := "") (Or.inl (oW hw 31 rfl)) Via.refl e1823 I1825 (g := (mkF m 37 #[rv ob_1463, rv ob_1692, rv ob_1692] [(.ref ob_1463)])) rfl rfl (hb hby dd6_37)
  refine oS s1829 ?_
  show own_G p e below (T1826.setTop (mkF m 40 #[rv ob_1463, rv ob_1692, rv ob_1692] [(.ref ob_1464)])) _
  refine oS (fun _ => XS.aloadN X1827.here hx rfl (hb hby dd6_40) rfl rfl) ?_
  obtain ⟨T1831, X1832, e1833, s1834⟩ := getF X1827 hx hZ hown (host := "") (Or.inl (oW hw 31 rfl)) Via.refl e1828 I1830 (g := (mkF m 41 #[rv ob_1463, rv ob_1692, rv ob_1692] [(.ref ob_1692), (.ref ob_1464)])) rfl rfl (hb hby dd6_41)
  refine oS s1834 ?_
  show own_G p e below (T1831.setTop (mkF m 44 #[rv ob_1463, rv ob_1692, rv ob_1692] [(.ref ob_1693), (.ref ob_1464)])) _
  obtain ⟨T1840, h1841, v1842, L1843, X1844, e1845, q1846, s1847⟩ := own_callS X1832 hx hZ hown e1833 (y := (⟨"java/lang/StringLatin1", "equals", "([B[B)Z"⟩ : MethodName)) (oW hw 68 rfl) (oW hw 69 rfl) (oW hw 70 rfl) (oW hw 71 rfl) (by decide) (W := 0) (own_rm38 l Z a0 hw [] ob_1464 ob_1693 kk_1465 in_16 kk_1694 in_18 h0 n0 Z0 O0 I1835 I1836) (by decide) (by decide) (by decide) (by decide) (g := (mkF m 44 #[rv ob_1463, rv ob_1692, rv ob_1692] [(.ref ob_1693), (.ref ob_1464)])) rfl (by rw [hml]; rfl) (argsL := [(.ref ob_1464), (.ref ob_1693)]) (rest := []) rfl (lenOf own_pd5 rfl) rfl (by show 2 * 0 + _ ≤ _; exact Nat.le_of_eq rfl) (hb hby dd6_44)
  refine oS s1847 ?_
  rcases q1846 with ⟨b1848, rfl, N1849, K1850⟩ | ⟨b1851, rfl, N1852, K1853⟩
  · skip
    have N1854 := Fr.app N0 N1849
    have e1855 := e1845.trans K1850
    show own_G p e below (T1840.setTop (mkF m 47 #[rv ob_1463, rv ob_1692, rv ob_1692] [(.int 1)])) _
    refine oS (fun _ => XS.ifNo X1844.here hx rfl (hb hby dd6_47) rfl (XT.i0_eq_f (by decide))) ?_
    show own_G p e below (T1840.setTop (mkF m 50 #[rv ob_1463, rv ob_1692, rv ob_1692] [])) _
    refine oS (fun _ => XS.iconst X1844.here hx rfl (hb hby dd6_50) ) ?_
    refine oS (fun _ => XS.goto X1844.here hx rfl (pc0 := 51) (pc' := 55) rfl (hb hby dd6_51) (by decide) (by decide)) ?_
    show own_G p e below (T1840.setTop (mkF m 55 #[rv ob_1463, rv ob_1692, rv ob_1692] [(.int 1)])) _
    exact own_retN X1844 hx (t := .boolean) Bd.notSynchronized Bd.returns (by simp) (hb hby dd6_55) (by decide) e1855 (by decide) (by decide) (Or.inl ⟨b1848, rfl, N1854, rfl⟩)
  · skip
    have N1856 := Fr.app N0 N1852
    have e1857 := e1845.trans K1853
    show own_G p e below (T1840.setTop (mkF m 47 #[rv ob_1463, rv ob_1692, rv ob_1692] [(.int 0)])) _
    refine oS (fun _ => XS.ifYes X1844.here hx rfl (pc0 := 47) (pc' := 54) rfl (hb hby dd6_47) rfl (XT.i0_eq_t (by decide)) (by decide) (by decide)) ?_
    show own_G p e below (T1840.setTop (mkF m 54 #[rv ob_1463, rv ob_1692, rv ob_1692] [])) _
    refine oS (fun _ => XS.iconst X1844.here hx rfl (hb hby dd6_54) ) ?_
    exact own_retN X1844 hx (t := .boolean) Bd.notSynchronized Bd.returns (by simp) (hb hby dd6_55) (by decide) e1857 (by decide) (by decide) (Or.inr (⟨b1851, rfl, N1856, rfl⟩))
def own_Q36 (Z : State) (ob_1721 : Nat) (ob_1692 : Nat) (ob_9 : Nat) (ob_1463 : Nat) (in_6 : Int32) (ob_1464 : Nat) (ob_1693 : Nat) (kk_1465 : ClassId) (in_16 : Int32) (kk_1694 : ClassId) (in_18 : Int32) (h0 : Heap) (n0 : Nat) (v : Option Value) (h : Heap) (L : List Loc) : Prop := (((in_16.toInt8.toInt32) = (in_18.toInt8.toInt32)) ∧ v = some (.int 1) ∧ Fr n0 L ∧ h = h0) ∨ (¬ ((in_16.toInt8.toInt32) = (in_18.toInt8.toInt32)) ∧ v = some (.int 0) ∧ Fr n0 L ∧ h = h0)
set_option maxRecDepth 65536 in
set_option maxHeartbeats 40000000 in
theorem own_rm36 (l : Launch) (Z : State) (a0 : Array Value) (hw : ∀ d ∈ tables_1, d.before a0 Z = true) (ws : List Jvm.Cond) (ob_1721 : Nat) (ob_1692 : Nat) (ob_9 : Nat) (ob_1463 : Nat) (in_6 : Int32) (ob_1464 : Nat) (ob_1693 : Nat) (kk_1465 : ClassId) (in_16 : Int32) (kk_1694 : ClassId) (in_18 : Int32) (h0 : Heap) (n0 : Nat) (Z0 : n0 ≤ h0.size) (O0 : Old Z n0 h0) (I1772 : Fld Z h0 ob_1721 "com/example/latente/latente/query/JpqlLexer$Token" "kind" "Lcom/example/latente/latente/query/JpqlLexer$Kind;" (.ref ob_9)) (I1777 : Sta Z Z.heap "com/example/latente/latente/query/JpqlLexer$Kind" "SYMBOL" "Lcom/example/latente/latente/query/JpqlLexer$Kind;" (.ref ob_9)) (I1783 : Fld Z h0 ob_1721 "com/example/latente/latente/query/JpqlLexer$Token" "text" "Ljava/lang/String;" (.ref ob_1463)) (I1788 : @Ne Nat ob_1463 ob_1692) (I1789 : Exa Z h0 ob_1692 "java/lang/String") (I1790 : Sta Z Z.heap "java/lang/String" "COMPACT_STRINGS" "Z" (.int in_6)) (I1791 : ¬ (in_6 = 0)) (I1792 : Fld Z h0 ob_1463 "java/lang/String" "coder" "B" (.int 0)) (I1793 : Fld Z h0 ob_1692 "java/lang/String" "coder" "B" (.int 0)) (I1794 : Fld Z h0 ob_1463 "java/lang/String" "value" "[B" (.ref ob_1464)) (I1795 : Fld Z h0 ob_1692 "java/lang/String" "value" "[B" (.ref ob_1693)) (I1796 : Arv Z h0 ob_1464 kk_1465 .byte 1 [(.int (in_16.toInt8.toInt32))] (.int 0)) (I1797 : Arv Z h0 ob_1693 kk_1694 .byte 1 [(.int (in_18.toInt8.toInt32))] (.int 0)) (I1869 : Exa Z h0 ob_1463 "java/lang/String") :
    own_Met l Z h0 (⟨"com/example/latente/latente/query/JpqlLexer$Token", "isSymbol", "(Ljava/lang/String;)Z"⟩ : MethodName) prog_9_method_3_code 2 (Option.some FieldType.boolean) ws ({ frames := 2, cells := 0, slots := 0, locals := 28 } : Room) #[(.ref ob_1721), (.ref ob_1692)] (own_Q36 Z ob_1721 ob_1692 ob_9 ob_1463 in_6 ob_1464 ob_1693 kk_1465 in_16 kk_1694 in_18 h0 n0) 0 0 := by
  refine MetFree.of_bodySF own_pn7 hisR ?_
  intro p e s m args below meth c s₁ Bd hml0 hP hK
  obtain ⟨rfl, hZ, hh⟩ := hP
  have hx := Bd.exec
  have hby := Bd.bytes
  have hml : c.maxLocals = 2 := hml0
  have hown : s.vm.findClass "com/example/latente/latente/query/JpqlLexer$Token" = some m.cls := findClass_of_methodNamed Bd.named
  have hnm := (name_of_methodNamed Bd.named Bd.method).1
  have X0 : Stand p l e ({ frames := 2, cells := 0, slots := 0, locals := 28 } : Room) s m #[(.ref ob_1721), (.ref ob_1692)] below meth c s₁ [] 0 0 := Stand.of_body Bd
  have e0 : s₁.heap = h0 := by rw [← hh, Bd.state]; rfl
  have N0 := Fr.nil n0
  show own_G p e below (s₁.setTop (entryFrame m #[(.ref ob_1721), (.ref ob_1692)] 2)) (own_P s (own_Q36 Z ob_1721 ob_1692 ob_9 ob_1463 in_6 ob_1464 ob_1693 kk_1465 in_16 kk_1694 in_18 h0 n0) 0 0)
  refine own_cast (own_ef2 m ob_1721 ob_1692) ?_
  show own_G p e below (s₁.setTop (mkF m 0 #[rv ob_1721, rv ob_1692] [])) _
  refine oS (fun _ => XS.aloadN X0.here hx rfl (hb hby dd5_0) rfl rfl) ?_
  obtain ⟨T1773, X1774, e1775, s1776⟩ := getF X0 hx hZ hown (host := "") (Or.inl (oW hw 45 rfl)) Via.refl e0 I1772 (g := (mkF m 1 #[rv ob_1721, rv ob_1692] [(.ref ob_1721)])) rfl rfl (hb hby dd5_1)
  refine oS s1776 ?_
  show own_G p e below (T1773.setTop (mkF m 4 #[rv ob_1721, rv ob_1692] [(.ref ob_9)])) _
  have F1778 : Sta Z h0 "com/example/latente/latente/query/JpqlLexer$Kind" "SYMBOL" "Lcom/example/latente/latente/query/JpqlLexer$Kind;" (.ref ob_9) := Sta.ext O0.2 I1777
  obtain ⟨T1779, X1780, e1781, s1782⟩ := getS X1774 hx hZ hown (host := "") (oW hw 56 rfl) Via.refl e1775 F1778 (g := (mkF m 4 #[rv ob_1721, rv ob_1692] [(.ref ob_9)])) rfl (hb hby dd5_4)
  refine oS s1782 ?_
  show own_G p e below (T1779.setTop (mkF m 7 #[rv ob_1721, rv ob_1692] [(.ref ob_9), (.ref ob_9)])) _
  refine oS (fun _ => XT.acmpNo X1780.here hx rfl (hb hby dd5_7) rfl rfl rfl (XT.aa_ne_f rfl)) ?_
  show own_G p e below (T1779.setTop (mkF m 10 #[rv ob_1721, rv ob_1692] [])) _
  refine oS (fun _ => XS.aloadN X1780.here hx rfl (hb hby dd5_10) rfl rfl) ?_
  obtain ⟨T1784, X1785, e1786, s1787⟩ := getF X1780 hx hZ hown (host := "") (Or.inl (oW hw 47 rfl)) Via.refl e1781 I1783 (g := (mkF m 11 #[rv ob_1721, rv ob_1692] [(.ref ob_1721)])) rfl rfl (hb hby dd5_11)
  refine oS s1787 ?_
  show own_G p e below (T1784.setTop (mkF m 14 #[rv ob_1721, rv ob_1692] [(.ref ob_1463)])) _
  refine oS (fun _ => XS.aloadN X1785.here hx rfl (hb hby dd5_14) rfl rfl) ?_
  obtain ⟨T1858, h1859, v1860, L1861, X1862, e1863, q1864, s1865⟩ := own_callV X1785 hx hZ hown e1786 (y := (⟨"java/lang/String", "equals", "(Ljava/lang/Object;)Z"⟩ : MethodName)) (z := (⟨"java/lang/String", "equals", "(Ljava/lang/Object;)Z"⟩ : MethodName)) (C := "java/lang/String") (b := ob_1463) (oW hw 61 rfl) (oW hw 62 rfl) (notFace_of_selects (args := #[]) (mvT hZ (oW hw 64 rfl))) (oW hw 64 rfl) (oW hw 63 rfl) (oW hw 13 rfl) (oW hw 65 rfl) (by decide) I1869 (W := 0) (own_rm37 l Z a0 hw [] ob_1463 ob_1692 in_6 ob_1464 ob_1693 kk_1465 in_16 kk_1694 in_18 h0 n0 Z0 O0 I1788 I1789 I1790 I1791 I1792 I1793 I1794 I1795 I1796 I1797) (by decide) (by decide) (by decide) (by decide) (g := (mkF m 15 #[rv ob_1721, rv ob_1692] [(.ref ob_1692), (.ref ob_1463)])) rfl (by rw [hml]; rfl) (argsL := [(.ref ob_1692)]) (rest := []) rfl (lenOf own_pd6 rfl) rfl (by show 2 * 0 + _ ≤ _; exact Nat.le_of_eq rfl) (hb hby dd5_15)
  refine oS s1865 ?_
  rcases q1864 with ⟨b1870, rfl, N1871, K1872⟩ | ⟨b1873, rfl, N1874, K1875⟩
  · skip
    have N1876 := Fr.app N0 N1871
    have e1877 := e1863.trans K1872
    show own_G p e below (T1858.setTop (mkF m 18 #[rv ob_1721, rv ob_1692] [(.int 1)])) _
    refine oS (fun _ => XS.ifNo X1862.here hx rfl (hb hby dd5_18) rfl (XT.i0_eq_f (by decide))) ?_
    show own_G p e below (T1858.setTop (mkF m 21 #[rv ob_1721, rv ob_1692] [])) _
    refine oS (fun _ => XS.iconst X1862.here hx rfl (hb hby dd5_21) ) ?_
    refine oS (fun _ => XS.goto X1862.here hx rfl (pc0 := 22) (pc' := 26) rfl (hb hby dd5_22) (by decide) (by decide)) ?_
    show own_G p e below (T1858.setTop (mkF m 26 #[rv ob_1721, rv ob_1692] [(.int 1)])) _
    exact own_retN X1862 hx (t := .boolean) Bd.notSynchronized Bd.returns (by simp) (hb hby dd5_26) (by decide) e1877 (by decide) (by decide) (Or.inl ⟨b1870, rfl, N1876, rfl⟩)
  · skip
    have N1878 := Fr.app N0 N1874
    have e1879 := e1863.trans K1875
    show own_G p e below (T1858.setTop (mkF m 18 #[rv ob_1721, rv ob_1692] [(.int 0)])) _
    refine oS (fun _ => XS.ifYes X1862.here hx rfl (pc0 := 18) (pc' := 25) rfl (hb hby dd5_18) rfl (XT.i0_eq_t (by decide)) (by decide) (by decide)) ?_
    show own_G p e below (T1858.setTop (mkF m 25 #[rv ob_1721, rv ob_1692] [])) _
    refine oS (fun _ => XS.iconst X1862.here hx rfl (hb hby dd5_25) ) ?_
    exact own_retN X1862 hx (t := .boolean) Bd.notSynchronized Bd.returns (by simp) (hb hby dd5_26) (by decide) e1879 (by decide) (by decide) (Or.inr (⟨b1873, rfl, N1878, rfl⟩))
def own_Q41 (Z : State) (ob_1464 : Nat) (ob_1913 : Nat) (kk_1465 : ClassId) (in_16 : Int32) (kk_1914 : ClassId) (in_18 : Int32) (in_19 : Int32) (h0 : Heap) (n0 : Nat) (v : Option Value) (h : Heap) (L : List Loc) : Prop := (v = some (.int 0) ∧ Fr n0 L ∧ h = h0)
set_option maxRecDepth 65536 in
set_option maxHeartbeats 40000000 in
theorem own_rm41 (l : Launch) (Z : State) (a0 : Array Value) (hw : ∀ d ∈ tables_1, d.before a0 Z = true) (ws : List Jvm.Cond) (ob_1464 : Nat) (ob_1913 : Nat) (kk_1465 : ClassId) (in_16 : Int32) (kk_1914 : ClassId) (in_18 : Int32) (in_19 : Int32) (h0 : Heap) (n0 : Nat) (Z0 : n0 ≤ h0.size) (O0 : Old Z n0 h0) (I2057 : Arv Z h0 ob_1464 kk_1465 .byte 1 [(.int (in_16.toInt8.toInt32))] (.int 0)) (I2058 : Arv Z h0 ob_1913 kk_1914 .byte 2 [(.int (in_18.toInt8.toInt32)), (.int (in_19.toInt8.toInt32))] (.int 0)) :
    own_Met l Z h0 (⟨"java/lang/StringLatin1", "equals", "([B[B)Z"⟩ : MethodName) jdk_43_method_13_code 3 (Option.some FieldType.boolean) ws ({ frames := 0, cells := 0, slots := 0, locals := 0 } : Room) #[(.ref ob_1464), (.ref ob_1913)] (own_Q41 Z ob_1464 ob_1913 kk_1465 in_16 kk_1914 in_18 in_19 h0 n0) 0 0 := by
  refine MetFree.of_bodySF own_pn5 hisR ?_
  intro p e s m args below meth c s₁ Bd hml0 hP hK
  obtain ⟨rfl, hZ, hh⟩ := hP
  have hx := Bd.exec
  have hby := Bd.bytes
  have hml : c.maxLocals = 3 := hml0
  have hown : s.vm.findClass "java/lang/StringLatin1" = some m.cls := findClass_of_methodNamed Bd.named
  have hnm := (name_of_methodNamed Bd.named Bd.method).1
  have X0 : Stand p l e ({ frames := 0, cells := 0, slots := 0, locals := 0 } : Room) s m #[(.ref ob_1464), (.ref ob_1913)] below meth c s₁ [] 0 0 := Stand.of_body Bd
  have e0 : s₁.heap = h0 := by rw [← hh, Bd.state]; rfl
  have N0 := Fr.nil n0
  show own_G p e below (s₁.setTop (entryFrame m #[(.ref ob_1464), (.ref ob_1913)] 3)) (own_P s (own_Q41 Z ob_1464 ob_1913 kk_1465 in_16 kk_1914 in_18 in_19 h0 n0) 0 0)
  refine own_cast (own_ef6 m ob_1464 ob_1913) ?_
  show own_G p e below (s₁.setTop (mkF m 0 #[rv ob_1464, rv ob_1913, .unset] [])) _
  refine oS (fun _ => XS.aloadN X0.here hx rfl (hb hby dd7_0) rfl rfl) ?_
  refine oS (own_len X0 hx hZ e0 I2057 rfl rfl (hb hby dd7_1)) ?_
  show own_G p e below (s₁.setTop (mkF m 2 #[rv ob_1464, rv ob_1913, .unset] [(.int 1)])) _
  refine oS (fun _ => XS.aloadN X0.here hx rfl (hb hby dd7_2) rfl rfl) ?_
  refine oS (own_len X0 hx hZ e0 I2058 rfl rfl (hb hby dd7_3)) ?_
  show own_G p e below (s₁.setTop (mkF m 4 #[rv ob_1464, rv ob_1913, .unset] [(.int 2), (.int 1)])) _
  refine oS (fun _ => XS.icmpYes X0.here hx rfl (pc0 := 4) (pc' := 34) rfl (hb hby dd7_4) rfl (XT.ii_ne_t (by decide)) (by decide) (by decide)) ?_
  show own_G p e below (s₁.setTop (mkF m 34 #[rv ob_1464, rv ob_1913, .unset] [])) _
  refine oS (fun _ => XS.iconst X0.here hx rfl (hb hby dd7_34) ) ?_
  exact own_retN X0 hx (t := .boolean) Bd.notSynchronized Bd.returns (by simp) (hb hby dd7_35) (by decide) e0 (by decide) (by decide) (⟨rfl, N0, rfl⟩)
def own_Q40 (Z : State) (ob_1463 : Nat) (ob_1912 : Nat) (in_6 : Int32) (ob_1464 : Nat) (ob_1913 : Nat) (kk_1465 : ClassId) (in_16 : Int32) (kk_1914 : ClassId) (in_18 : Int32) (in_19 : Int32) (h0 : Heap) (n0 : Nat) (v : Option Value) (h : Heap) (L : List Loc) : Prop := (v = some (.int 0) ∧ Fr n0 L ∧ h = h0)
set_option maxRecDepth 65536 in
set_option maxHeartbeats 40000000 in
theorem own_rm40 (l : Launch) (Z : State) (a0 : Array Value) (hw : ∀ d ∈ tables_1, d.before a0 Z = true) (ws : List Jvm.Cond) (ob_1463 : Nat) (ob_1912 : Nat) (in_6 : Int32) (ob_1464 : Nat) (ob_1913 : Nat) (kk_1465 : ClassId) (in_16 : Int32) (kk_1914 : ClassId) (in_18 : Int32) (in_19 : Int32) (h0 : Heap) (n0 : Nat) (Z0 : n0 ≤ h0.size) (O0 : Old Z n0 h0) (I2018 : @Ne Nat ob_1463 ob_1912) (I2023 : Exa Z h0 ob_1912 "java/lang/String") (I2028 : Sta Z Z.heap "java/lang/String" "COMPACT_STRINGS" "Z" (.int in_6)) (I2034 : ¬ (in_6 = 0)) (I2035 : Fld Z h0 ob_1463 "java/lang/String" "coder" "B" (.int 0)) (I2040 : Fld Z h0 ob_1912 "java/lang/String" "coder" "B" (.int 0)) (I2045 : Fld Z h0 ob_1463 "java/lang/String" "value" "[B" (.ref ob_1464)) (I2050 : Fld Z h0 ob_1912 "java/lang/String" "value" "[B" (.ref ob_1913)) (I2055 : Arv Z h0 ob_1464 kk_1465 .byte 1 [(.int (in_16.toInt8.toInt32))] (.int 0)) (I2056 : Arv Z h0 ob_1913 kk_1914 .byte 2 [(.int (in_18.toInt8.toInt32)), (.int (in_19.toInt8.toInt32))] (.int 0)) :
    own_Met l Z h0 (⟨"java/lang/String", "equals", "(Ljava/lang/Object;)Z"⟩ : MethodName) jdk_42_method_66_code 3 (Option.some FieldType.boolean) ws ({ frames := 1, cells := 0, slots := 0, locals := 14 } : Room) #[(.ref ob_1463), (.ref ob_1912)] (own_Q40 Z ob_1463 ob_1912 in_6 ob_1464 ob_1913 kk_1465 in_16 kk_1914 in_18 in_19 h0 n0) 0 0 := by
  refine MetFree.of_bodySF own_pn6 hisR ?_
  intro p e s m args below meth c s₁ Bd hml0 hP hK
  obtain ⟨rfl, hZ, hh⟩ := hP
  have hx := Bd.exec
  have hby := Bd.bytes
  have hml : c.maxLocals = 3 := hml0
  have hown : s.vm.findClass "java/lang/String" = some m.cls := findClass_of_methodNamed Bd.named
  have hnm := (name_of_methodNamed Bd.named Bd.method).1
  have X0 : Stand p l e ({ frames := 1, cells := 0, slots := 0, locals := 14 } : Room) s m #[(.ref ob_1463), (.ref ob_1912)] below meth c s₁ [] 0 0 := Stand.of_body Bd
  have e0 : s₁.heap = h0 := by rw [← hh, Bd.state]; rfl
  have N0 := Fr.nil n0
  show own_G p e below (s₁.setTop (entryFrame m #[(.ref ob_1463), (.ref ob_1912)] 3)) (own_P s (own_Q40 Z ob_1463 ob_1912 in_6 ob_1464 ob_1913 kk_1465 in_16 kk_1914 in_18 in_19 h0 n0) 0 0)
  refine own_cast (own_ef6 m ob_1463 ob_1912) ?_
  show own_G p e below (s₁.setTop (mkF m 0 #[rv ob_1463, rv ob_1912, .unset] [])) _
  refine oS (fun _ => XS.aloadN X0.here hx rfl (hb hby dd6_0) rfl rfl) ?_
  refine oS (fun _ => XS.aloadN X0.here hx rfl (hb hby dd6_1) rfl rfl) ?_
  refine oS (fun _ => XT.acmpYes X0.here hx rfl (pc0 := 2) (pc' := 7) rfl (hb hby dd6_2) rfl rfl rfl (XT.aa_ne_t (own_rne I2018)) (by decide) (by decide)) ?_
  show own_G p e below (s₁.setTop (mkF m 7 #[rv ob_1463, rv ob_1912, .unset] [])) _
  refine oS (fun _ => XS.aloadN X0.here hx rfl (hb hby dd6_7) rfl rfl) ?_
  obtain ⟨T2019, X2020, e2021, s2022⟩ := instY X0 hx hZ hown (oW hw 66 rfl) e0 (Ins.self I2023) (g := (mkF m 8 #[rv ob_1463, rv ob_1912, .unset] [(.ref ob_1912)])) rfl rfl (hb hby dd6_8)
  refine oS s2022 ?_
  show own_G p e below (T2019.setTop (mkF m 11 #[rv ob_1463, rv ob_1912, .unset] [(.int 1)])) _
  refine oS (fun _ => XS.ifNo X2020.here hx rfl (hb hby dd6_11) rfl (XT.i0_eq_f (by decide))) ?_
  show own_G p e below (T2019.setTop (mkF m 14 #[rv ob_1463, rv ob_1912, .unset] [])) _
  refine oS (fun _ => XS.aloadN X2020.here hx rfl (hb hby dd6_14) rfl rfl) ?_
  obtain ⟨T2024, X2025, e2026, s2027⟩ := castY X2020 hx hZ hown (oW hw 66 rfl) e2021 (Ins.self I2023) (g := (mkF m 15 #[rv ob_1463, rv ob_1912, .unset] [(.ref ob_1912)])) rfl rfl (hb hby dd6_15)
  refine oS s2027 ?_
  show own_G p e below (T2024.setTop (mkF m 18 #[rv ob_1463, rv ob_1912, .unset] [(.ref ob_1912)])) _
  refine oS (fun _ => XS.astoreN X2025.here hx rfl (hb hby dd6_18) rfl rfl (l' := #[rv ob_1463, rv ob_1912, rv ob_1912]) rfl) ?_
  have F2029 : Sta Z h0 "java/lang/String" "COMPACT_STRINGS" "Z" (.int in_6) := Sta.ext O0.2 I2028
  obtain ⟨T2030, X2031, e2032, s2033⟩ := getS X2025 hx hZ hown (host := "") (oW hw 67 rfl) Via.refl e2026 F2029 (g := (mkF m 19 #[rv ob_1463, rv ob_1912, rv ob_1912] [])) rfl (hb hby dd6_19)
  refine oS s2033 ?_
  show own_G p e below (T2030.setTop (mkF m 22 #[rv ob_1463, rv ob_1912, rv ob_1912] [(.int in_6)])) _
  refine oS (fun _ => XS.ifNo X2031.here hx rfl (hb hby dd6_22) rfl (XT.i0_eq_f I2034)) ?_
  show own_G p e below (T2030.setTop (mkF m 25 #[rv ob_1463, rv ob_1912, rv ob_1912] [])) _
  refine oS (fun _ => XS.aloadN X2031.here hx rfl (hb hby dd6_25) rfl rfl) ?_
  obtain ⟨T2036, X2037, e2038, s2039⟩ := getF X2031 hx hZ hown (host := "") (Or.inl (oW hw 32 rfl)) Via.refl e2032 I2035 (g := (mkF m 26 #[rv ob_1463, rv ob_1912, rv ob_1912] [(.ref ob_1463)])) rfl rfl (hb hby dd6_26)
  refine oS s2039 ?_
  show own_G p e below (T2036.setTop (mkF m 29 #[rv ob_1463, rv ob_1912, rv ob_1912] [(.int 0)])) _
  refine oS (fun _ => XS.aloadN X2037.here hx rfl (hb hby dd6_29) rfl rfl) ?_
  obtain ⟨T2041, X2042, e2043, s2044⟩ := getF X2037 hx hZ hown (host := "") (Or.inl (oW hw 32 rfl)) Via.refl e2038 I2040 (g := (mkF m 30 #[rv ob_1463, rv ob_1912, rv ob_1912] [(.ref ob_1912), (.int 0)])) rfl rfl (hb hby dd6_30)
  refine oS s2044 ?_
  show own_G p e below (T2041.setTop (mkF m 33 #[rv ob_1463, rv ob_1912, rv ob_1912] [(.int 0), (.int 0)])) _
  refine oS (fun _ => XS.icmpNo X2042.here hx rfl (hb hby dd6_33) rfl (XT.ii_ne_f (by decide))) ?_
  show own_G p e below (T2041.setTop (mkF m 36 #[rv ob_1463, rv ob_1912, rv ob_1912] [])) _
  refine oS (fun _ => XS.aloadN X2042.here hx rfl (hb hby dd6_36) rfl rfl) ?_
  obtain ⟨T2046, X2047, e2048, s2049⟩ := getF X2042 hx hZ hown (host := "") (Or.inl (oW hw 31 rfl)) Via.refl e2043 I2045 (g := (mkF m 37 #[rv ob_1463, rv ob_1912, rv ob_1912] [(.ref ob_1463)])) rfl rfl (hb hby dd6_37)
  refine oS s2049 ?_
  show own_G p e below (T2046.setTop (mkF m 40 #[rv ob_1463, rv ob_1912, rv ob_1912] [(.ref ob_1464)])) _
  refine oS (fun _ => XS.aloadN X2047.here hx rfl (hb hby dd6_40) rfl rfl) ?_
  obtain ⟨T2051, X2052, e2053, s2054⟩ := getF X2047 hx hZ hown (host := "") (Or.inl (oW hw 31 rfl)) Via.refl e2048 I2050 (g := (mkF m 41 #[rv ob_1463, rv ob_1912, rv ob_1912] [(.ref ob_1912), (.ref ob_1464)])) rfl rfl (hb hby dd6_41)
  refine oS s2054 ?_
  show own_G p e below (T2051.setTop (mkF m 44 #[rv ob_1463, rv ob_1912, rv ob_1912] [(.ref ob_1913), (.ref ob_1464)])) _
  obtain ⟨T2059, h2060, v2061, L2062, X2063, e2064, q2065, s2066⟩ := own_callS X2052 hx hZ hown e2053 (y := (⟨"java/lang/StringLatin1", "equals", "([B[B)Z"⟩ : MethodName)) (oW hw 68 rfl) (oW hw 69 rfl) (oW hw 70 rfl) (oW hw 71 rfl) (by decide) (W := 0) (own_rm41 l Z a0 hw [] ob_1464 ob_1913 kk_1465 in_16 kk_1914 in_18 in_19 h0 n0 Z0 O0 I2055 I2056) (by decide) (by decide) (by decide) (by decide) (g := (mkF m 44 #[rv ob_1463, rv ob_1912, rv ob_1912] [(.ref ob_1913), (.ref ob_1464)])) rfl (by rw [hml]; rfl) (argsL := [(.ref ob_1464), (.ref ob_1913)]) (rest := []) rfl (lenOf own_pd5 rfl) rfl (by show 2 * 0 + _ ≤ _; exact Nat.le_of_eq rfl) (hb hby dd6_44)
  refine oS s2066 ?_
  obtain ⟨rfl, N2067, K2068⟩ := q2065
  have N2069 := Fr.app N0 N2067
  have e2070 := e2064.trans K2068
  show own_G p e below (T2059.setTop (mkF m 47 #[rv ob_1463, rv ob_1912, rv ob_1912] [(.int 0)])) _
  refine oS (fun _ => XS.ifYes X2063.here hx rfl (pc0 := 47) (pc' := 54) rfl (hb hby dd6_47) rfl (XT.i0_eq_t (by decide)) (by decide) (by decide)) ?_
  show own_G p e below (T2059.setTop (mkF m 54 #[rv ob_1463, rv ob_1912, rv ob_1912] [])) _
  refine oS (fun _ => XS.iconst X2063.here hx rfl (hb hby dd6_54) ) ?_
  exact own_retN X2063 hx (t := .boolean) Bd.notSynchronized Bd.returns (by simp) (hb hby dd6_55) (by decide) e2070 (by decide) (by decide) (⟨rfl, N2069, rfl⟩)
def own_Q39 (Z : State) (ob_1941 : Nat) (ob_1912 : Nat) (ob_9 : Nat) (ob_1463 : Nat) (in_6 : Int32) (ob_1464 : Nat) (ob_1913 : Nat) (kk_1465 : ClassId) (in_16 : Int32) (kk_1914 : ClassId) (in_18 : Int32) (in_19 : Int32) (h0 : Heap) (n0 : Nat) (v : Option Value) (h : Heap) (L : List Loc) : Prop := (v = some (.int 0) ∧ Fr n0 L ∧ h = h0)
set_option maxRecDepth 65536 in
set_option maxHeartbeats 40000000 in
theorem own_rm39 (l : Launch) (Z : State) (a0 : Array Value) (hw : ∀ d ∈ tables_1, d.before a0 Z = true) (ws : List Jvm.Cond) (ob_1941 : Nat) (ob_1912 : Nat) (ob_9 : Nat) (ob_1463 : Nat) (in_6 : Int32) (ob_1464 : Nat) (ob_1913 : Nat) (kk_1465 : ClassId) (in_16 : Int32) (kk_1914 : ClassId) (in_18 : Int32) (in_19 : Int32) (h0 : Heap) (n0 : Nat) (Z0 : n0 ≤ h0.size) (O0 : Old Z n0 h0) (I1992 : Fld Z h0 ob_1941 "com/example/latente/latente/query/JpqlLexer$Token" "kind" "Lcom/example/latente/latente/query/JpqlLexer$Kind;" (.ref ob_9)) (I1997 : Sta Z Z.heap "com/example/latente/latente/query/JpqlLexer$Kind" "SYMBOL" "Lcom/example/latente/latente/query/JpqlLexer$Kind;" (.ref ob_9)) (I2003 : Fld Z h0 ob_1941 "com/example/latente/latente/query/JpqlLexer$Token" "text" "Ljava/lang/String;" (.ref ob_1463)) (I2008 : @Ne Nat ob_1463 ob_1912) (I2009 : Exa Z h0 ob_1912 "java/lang/String") (I2010 : Sta Z Z.heap "java/lang/String" "COMPACT_STRINGS" "Z" (.int in_6)) (I2011 : ¬ (in_6 = 0)) (I2012 : Fld Z h0 ob_1463 "java/lang/String" "coder" "B" (.int 0)) (I2013 : Fld Z h0 ob_1912 "java/lang/String" "coder" "B" (.int 0)) (I2014 : Fld Z h0 ob_1463 "java/lang/String" "value" "[B" (.ref ob_1464)) (I2015 : Fld Z h0 ob_1912 "java/lang/String" "value" "[B" (.ref ob_1913)) (I2016 : Arv Z h0 ob_1464 kk_1465 .byte 1 [(.int (in_16.toInt8.toInt32))] (.int 0)) (I2017 : Arv Z h0 ob_1913 kk_1914 .byte 2 [(.int (in_18.toInt8.toInt32)), (.int (in_19.toInt8.toInt32))] (.int 0)) (I2082 : Exa Z h0 ob_1463 "java/lang/String") :
    own_Met l Z h0 (⟨"com/example/latente/latente/query/JpqlLexer$Token", "isSymbol", "(Ljava/lang/String;)Z"⟩ : MethodName) prog_9_method_3_code 2 (Option.some FieldType.boolean) ws ({ frames := 2, cells := 0, slots := 0, locals := 28 } : Room) #[(.ref ob_1941), (.ref ob_1912)] (own_Q39 Z ob_1941 ob_1912 ob_9 ob_1463 in_6 ob_1464 ob_1913 kk_1465 in_16 kk_1914 in_18 in_19 h0 n0) 0 0 := by
  refine MetFree.of_bodySF own_pn7 hisR ?_
  intro p e s m args below meth c s₁ Bd hml0 hP hK
  obtain ⟨rfl, hZ, hh⟩ := hP
  have hx := Bd.exec
  have hby := Bd.bytes
  have hml : c.maxLocals = 2 := hml0
  have hown : s.vm.findClass "com/example/latente/latente/query/JpqlLexer$Token" = some m.cls := findClass_of_methodNamed Bd.named
  have hnm := (name_of_methodNamed Bd.named Bd.method).1
  have X0 : Stand p l e ({ frames := 2, cells := 0, slots := 0, locals := 28 } : Room) s m #[(.ref ob_1941), (.ref ob_1912)] below meth c s₁ [] 0 0 := Stand.of_body Bd
  have e0 : s₁.heap = h0 := by rw [← hh, Bd.state]; rfl
  have N0 := Fr.nil n0
  show own_G p e below (s₁.setTop (entryFrame m #[(.ref ob_1941), (.ref ob_1912)] 2)) (own_P s (own_Q39 Z ob_1941 ob_1912 ob_9 ob_1463 in_6 ob_1464 ob_1913 kk_1465 in_16 kk_1914 in_18 in_19 h0 n0) 0 0)
  refine own_cast (own_ef2 m ob_1941 ob_1912) ?_
  show own_G p e below (s₁.setTop (mkF m 0 #[rv ob_1941, rv ob_1912] [])) _
  refine oS (fun _ => XS.aloadN X0.here hx rfl (hb hby dd5_0) rfl rfl) ?_
  obtain ⟨T1993, X1994, e1995, s1996⟩ := getF X0 hx hZ hown (host := "") (Or.inl (oW hw 45 rfl)) Via.refl e0 I1992 (g := (mkF m 1 #[rv ob_1941, rv ob_1912] [(.ref ob_1941)])) rfl rfl (hb hby dd5_1)
  refine oS s1996 ?_
  show own_G p e below (T1993.setTop (mkF m 4 #[rv ob_1941, rv ob_1912] [(.ref ob_9)])) _
  have F1998 : Sta Z h0 "com/example/latente/latente/query/JpqlLexer$Kind" "SYMBOL" "Lcom/example/latente/latente/query/JpqlLexer$Kind;" (.ref ob_9) := Sta.ext O0.2 I1997
  obtain ⟨T1999, X2000, e2001, s2002⟩ := getS X1994 hx hZ hown (host := "") (oW hw 56 rfl) Via.refl e1995 F1998 (g := (mkF m 4 #[rv ob_1941, rv ob_1912] [(.ref ob_9)])) rfl (hb hby dd5_4)
  refine oS s2002 ?_
  show own_G p e below (T1999.setTop (mkF m 7 #[rv ob_1941, rv ob_1912] [(.ref ob_9), (.ref ob_9)])) _
  refine oS (fun _ => XT.acmpNo X2000.here hx rfl (hb hby dd5_7) rfl rfl rfl (XT.aa_ne_f rfl)) ?_
  show own_G p e below (T1999.setTop (mkF m 10 #[rv ob_1941, rv ob_1912] [])) _
  refine oS (fun _ => XS.aloadN X2000.here hx rfl (hb hby dd5_10) rfl rfl) ?_
  obtain ⟨T2004, X2005, e2006, s2007⟩ := getF X2000 hx hZ hown (host := "") (Or.inl (oW hw 47 rfl)) Via.refl e2001 I2003 (g := (mkF m 11 #[rv ob_1941, rv ob_1912] [(.ref ob_1941)])) rfl rfl (hb hby dd5_11)
  refine oS s2007 ?_
  show own_G p e below (T2004.setTop (mkF m 14 #[rv ob_1941, rv ob_1912] [(.ref ob_1463)])) _
  refine oS (fun _ => XS.aloadN X2005.here hx rfl (hb hby dd5_14) rfl rfl) ?_
  obtain ⟨T2071, h2072, v2073, L2074, X2075, e2076, q2077, s2078⟩ := own_callV X2005 hx hZ hown e2006 (y := (⟨"java/lang/String", "equals", "(Ljava/lang/Object;)Z"⟩ : MethodName)) (z := (⟨"java/lang/String", "equals", "(Ljava/lang/Object;)Z"⟩ : MethodName)) (C := "java/lang/String") (b := ob_1463) (oW hw 61 rfl) (oW hw 62 rfl) (notFace_of_selects (args := #[]) (mvT hZ (oW hw 64 rfl))) (oW hw 64 rfl) (oW hw 63 rfl) (oW hw 13 rfl) (oW hw 65 rfl) (by decide) I2082 (W := 0) (own_rm40 l Z a0 hw [] ob_1463 ob_1912 in_6 ob_1464 ob_1913 kk_1465 in_16 kk_1914 in_18 in_19 h0 n0 Z0 O0 I2008 I2009 I2010 I2011 I2012 I2013 I2014 I2015 I2016 I2017) (by decide) (by decide) (by decide) (by decide) (g := (mkF m 15 #[rv ob_1941, rv ob_1912] [(.ref ob_1912), (.ref ob_1463)])) rfl (by rw [hml]; rfl) (argsL := [(.ref ob_1912)]) (rest := []) rfl (lenOf own_pd6 rfl) rfl (by show 2 * 0 + _ ≤ _; exact Nat.le_of_eq rfl) (hb hby dd5_15)
  refine oS s2078 ?_
  obtain ⟨rfl, N2083, K2084⟩ := q2077
  have N2085 := Fr.app N0 N2083
  have e2086 := e2076.trans K2084
  show own_G p e below (T2071.setTop (mkF m 18 #[rv ob_1941, rv ob_1912] [(.int 0)])) _
  refine oS (fun _ => XS.ifYes X2075.here hx rfl (pc0 := 18) (pc' := 25) rfl (hb hby dd5_18) rfl (XT.i0_eq_t (by decide)) (by decide) (by decide)) ?_
  show own_G p e below (T2071.setTop (mkF m 25 #[rv ob_1941, rv ob_1912] [])) _
  refine oS (fun _ => XS.iconst X2075.here hx rfl (hb hby dd5_25) ) ?_
  exact own_retN X2075 hx (t := .boolean) Bd.notSynchronized Bd.returns (by simp) (hb hby dd5_26) (by decide) e2086 (by decide) (by decide) (⟨rfl, N2085, rfl⟩)
def own_Q44 (Z : State) (ob_2111 : Nat) (ob_2144 : Nat) (kk_2112 : ClassId) (in_16 : Int32) (in_17 : Int32) (kk_2145 : ClassId) (h0 : Heap) (n0 : Nat) (v : Option Value) (h : Heap) (L : List Loc) : Prop := (v = some (.int 0) ∧ Fr n0 L ∧ h = h0)
set_option maxRecDepth 65536 in
set_option maxHeartbeats 40000000 in
theorem own_rm44 (l : Launch) (Z : State) (a0 : Array Value) (hw : ∀ d ∈ tables_1, d.before a0 Z = true) (ws : List Jvm.Cond) (ob_2111 : Nat) (ob_2144 : Nat) (kk_2112 : ClassId) (in_16 : Int32) (in_17 : Int32) (kk_2145 : ClassId) (h0 : Heap) (n0 : Nat) (Z0 : n0 ≤ h0.size) (O0 : Old Z n0 h0) (I2279 : Arv Z h0 ob_2111 kk_2112 .byte 2 [(.int (in_16.toInt8.toInt32)), (.int (in_17.toInt8.toInt32))] (.int 0)) (I2285 : Arv Z h0 ob_2144 kk_2145 .byte 0 [] (.int 0)) :
    own_Met l Z h0 (⟨"java/lang/StringLatin1", "equals", "([B[B)Z"⟩ : MethodName) jdk_43_method_13_code 3 (Option.some FieldType.boolean) ws ({ frames := 0, cells := 0, slots := 0, locals := 0 } : Room) #[(.ref ob_2111), (.ref ob_2144)] (own_Q44 Z ob_2111 ob_2144 kk_2112 in_16 in_17 kk_2145 h0 n0) 0 0 := by
  refine MetFree.of_bodySF own_pn5 hisR ?_
  intro p e s m args below meth c s₁ Bd hml0 hP hK
  obtain ⟨rfl, hZ, hh⟩ := hP
  have hx := Bd.exec
  have hby := Bd.bytes
  have hml : c.maxLocals = 3 := hml0
  have hown : s.vm.findClass "java/lang/StringLatin1" = some m.cls := findClass_of_methodNamed Bd.named
  have hnm := (name_of_methodNamed Bd.named Bd.method).1
  have X0 : Stand p l e ({ frames := 0, cells := 0, slots := 0, locals := 0 } : Room) s m #[(.ref ob_2111), (.ref ob_2144)] below meth c s₁ [] 0 0 := Stand.of_body Bd
  have e0 : s₁.heap = h0 := by rw [← hh, Bd.state]; rfl
  have N0 := Fr.nil n0
  show own_G p e below (s₁.setTop (entryFrame m #[(.ref ob_2111), (.ref ob_2144)] 3)) (own_P s (own_Q44 Z ob_2111 ob_2144 kk_2112 in_16 in_17 kk_2145 h0 n0) 0 0)
  refine own_cast (own_ef6 m ob_2111 ob_2144) ?_
  show own_G p e below (s₁.setTop (mkF m 0 #[rv ob_2111, rv ob_2144, .unset] [])) _
  refine oS (fun _ => XS.aloadN X0.here hx rfl (hb hby dd7_0) rfl rfl) ?_
  refine oS (own_len X0 hx hZ e0 I2279 rfl rfl (hb hby dd7_1)) ?_
  show own_G p e below (s₁.setTop (mkF m 2 #[rv ob_2111, rv ob_2144, .unset] [(.int 2)])) _
  refine oS (fun _ => XS.aloadN X0.here hx rfl (hb hby dd7_2) rfl rfl) ?_
  refine oS (own_len X0 hx hZ e0 I2285 rfl rfl (hb hby dd7_3)) ?_
  show own_G p e below (s₁.setTop (mkF m 4 #[rv ob_2111, rv ob_2144, .unset] [(.int 0), (.int 2)])) _
  refine oS (fun _ => XS.icmpYes X0.here hx rfl (pc0 := 4) (pc' := 34) rfl (hb hby dd7_4) rfl (XT.ii_ne_t (by decide)) (by decide) (by decide)) ?_
  show own_G p e below (s₁.setTop (mkF m 34 #[rv ob_2111, rv ob_2144, .unset] [])) _
  refine oS (fun _ => XS.iconst X0.here hx rfl (hb hby dd7_34) ) ?_
  exact own_retN X0 hx (t := .boolean) Bd.notSynchronized Bd.returns (by simp) (hb hby dd7_35) (by decide) e0 (by decide) (by decide) (⟨rfl, N0, rfl⟩)
def own_Q43 (Z : State) (ob_2110 : Nat) (ob_2143 : Nat) (in_6 : Int32) (ob_2111 : Nat) (ob_2144 : Nat) (kk_2112 : ClassId) (in_16 : Int32) (in_17 : Int32) (kk_2145 : ClassId) (h0 : Heap) (n0 : Nat) (v : Option Value) (h : Heap) (L : List Loc) : Prop := (v = some (.int 0) ∧ Fr n0 L ∧ h = h0)
set_option maxRecDepth 65536 in
set_option maxHeartbeats 40000000 in
theorem own_rm43 (l : Launch) (Z : State) (a0 : Array Value) (hw : ∀ d ∈ tables_1, d.before a0 Z = true) (ws : List Jvm.Cond) (ob_2110 : Nat) (ob_2143 : Nat) (in_6 : Int32) (ob_2111 : Nat) (ob_2144 : Nat) (kk_2112 : ClassId) (in_16 : Int32) (in_17 : Int32) (kk_2145 : ClassId) (h0 : Heap) (n0 : Nat) (Z0 : n0 ≤ h0.size) (O0 : Old Z n0 h0) (I2241 : @Ne Nat ob_2110 ob_2143) (I2246 : Exa Z h0 ob_2143 "java/lang/String") (I2251 : Sta Z Z.heap "java/lang/String" "COMPACT_STRINGS" "Z" (.int in_6)) (I2257 : ¬ (in_6 = 0)) (I2258 : Fld Z h0 ob_2110 "java/lang/String" "coder" "B" (.int 0)) (I2263 : Fld Z h0 ob_2143 "java/lang/String" "coder" "B" (.int 0)) (I2268 : Fld Z h0 ob_2110 "java/lang/String" "value" "[B" (.ref ob_2111)) (I2273 : Fld Z h0 ob_2143 "java/lang/String" "value" "[B" (.ref ob_2144)) (I2278 : Arv Z h0 ob_2111 kk_2112 .byte 2 [(.int (in_16.toInt8.toInt32)), (.int (in_17.toInt8.toInt32))] (.int 0)) (I2284 : Arv Z h0 ob_2144 kk_2145 .byte 0 [] (.int 0)) :
    own_Met l Z h0 (⟨"java/lang/String", "equals", "(Ljava/lang/Object;)Z"⟩ : MethodName) jdk_42_method_66_code 3 (Option.some FieldType.boolean) ws ({ frames := 1, cells := 0, slots := 0, locals := 14 } : Room) #[(.ref ob_2110), (.ref ob_2143)] (own_Q43 Z ob_2110 ob_2143 in_6 ob_2111 ob_2144 kk_2112 in_16 in_17 kk_2145 h0 n0) 0 0 := by
  refine MetFree.of_bodySF own_pn6 hisR ?_
  intro p e s m args below meth c s₁ Bd hml0 hP hK
  obtain ⟨rfl, hZ, hh⟩ := hP
  have hx := Bd.exec
  have hby := Bd.bytes
  have hml : c.maxLocals = 3 := hml0
  have hown : s.vm.findClass "java/lang/String" = some m.cls := findClass_of_methodNamed Bd.named
  have hnm := (name_of_methodNamed Bd.named Bd.method).1
  have X0 : Stand p l e ({ frames := 1, cells := 0, slots := 0, locals := 14 } : Room) s m #[(.ref ob_2110), (.ref ob_2143)] below meth c s₁ [] 0 0 := Stand.of_body Bd
  have e0 : s₁.heap = h0 := by rw [← hh, Bd.state]; rfl
  have N0 := Fr.nil n0
  show own_G p e below (s₁.setTop (entryFrame m #[(.ref ob_2110), (.ref ob_2143)] 3)) (own_P s (own_Q43 Z ob_2110 ob_2143 in_6 ob_2111 ob_2144 kk_2112 in_16 in_17 kk_2145 h0 n0) 0 0)
  refine own_cast (own_ef6 m ob_2110 ob_2143) ?_
  show own_G p e below (s₁.setTop (mkF m 0 #[rv ob_2110, rv ob_2143, .unset] [])) _
  refine oS (fun _ => XS.aloadN X0.here hx rfl (hb hby dd6_0) rfl rfl) ?_
  refine oS (fun _ => XS.aloadN X0.here hx rfl (hb hby dd6_1) rfl rfl) ?_
  refine oS (fun _ => XT.acmpYes X0.here hx rfl (pc0 := 2) (pc' := 7) rfl (hb hby dd6_2) rfl rfl rfl (XT.aa_ne_t (own_rne I2241)) (by decide) (by decide)) ?_
  show own_G p e below (s₁.setTop (mkF m 7 #[rv ob_2110, rv ob_2143, .unset] [])) _
  refine oS (fun _ => XS.aloadN X0.here hx rfl (hb hby dd6_7) rfl rfl) ?_
  obtain ⟨T2242, X2243, e2244, s2245⟩ := instY X0 hx hZ hown (oW hw 66 rfl) e0 (Ins.self I2246) (g := (mkF m 8 #[rv ob_2110, rv ob_2143, .unset] [(.ref ob_2143)])) rfl rfl (hb hby dd6_8)
  refine oS s2245 ?_
  show own_G p e below (T2242.setTop (mkF m 11 #[rv ob_2110, rv ob_2143, .unset] [(.int 1)])) _
  refine oS (fun _ => XS.ifNo X2243.here hx rfl (hb hby dd6_11) rfl (XT.i0_eq_f (by decide))) ?_
  show own_G p e below (T2242.setTop (mkF m 14 #[rv ob_2110, rv ob_2143, .unset] [])) _
  refine oS (fun _ => XS.aloadN X2243.here hx rfl (hb hby dd6_14) rfl rfl) ?_
  obtain ⟨T2247, X2248, e2249, s2250⟩ := castY X2243 hx hZ hown (oW hw 66 rfl) e2244 (Ins.self I2246) (g := (mkF m 15 #[rv ob_2110, rv ob_2143, .unset] [(.ref ob_2143)])) rfl rfl (hb hby dd6_15)
  refine oS s2250 ?_
  show own_G p e below (T2247.setTop (mkF m 18 #[rv ob_2110, rv ob_2143, .unset] [(.ref ob_2143)])) _
  refine oS (fun _ => XS.astoreN X2248.here hx rfl (hb hby dd6_18) rfl rfl (l' := #[rv ob_2110, rv ob_2143, rv ob_2143]) rfl) ?_
  have F2252 : Sta Z h0 "java/lang/String" "COMPACT_STRINGS" "Z" (.int in_6) := Sta.ext O0.2 I2251
  obtain ⟨T2253, X2254, e2255, s2256⟩ := getS X2248 hx hZ hown (host := "") (oW hw 67 rfl) Via.refl e2249 F2252 (g := (mkF m 19 #[rv ob_2110, rv ob_2143, rv ob_2143] [])) rfl (hb hby dd6_19)
  refine oS s2256 ?_
  show own_G p e below (T2253.setTop (mkF m 22 #[rv ob_2110, rv ob_2143, rv ob_2143] [(.int in_6)])) _
  refine oS (fun _ => XS.ifNo X2254.here hx rfl (hb hby dd6_22) rfl (XT.i0_eq_f I2257)) ?_
  show own_G p e below (T2253.setTop (mkF m 25 #[rv ob_2110, rv ob_2143, rv ob_2143] [])) _
  refine oS (fun _ => XS.aloadN X2254.here hx rfl (hb hby dd6_25) rfl rfl) ?_
  obtain ⟨T2259, X2260, e2261, s2262⟩ := getF X2254 hx hZ hown (host := "") (Or.inl (oW hw 32 rfl)) Via.refl e2255 I2258 (g := (mkF m 26 #[rv ob_2110, rv ob_2143, rv ob_2143] [(.ref ob_2110)])) rfl rfl (hb hby dd6_26)
  refine oS s2262 ?_
  show own_G p e below (T2259.setTop (mkF m 29 #[rv ob_2110, rv ob_2143, rv ob_2143] [(.int 0)])) _
  refine oS (fun _ => XS.aloadN X2260.here hx rfl (hb hby dd6_29) rfl rfl) ?_
  obtain ⟨T2264, X2265, e2266, s2267⟩ := getF X2260 hx hZ hown (host := "") (Or.inl (oW hw 32 rfl)) Via.refl e2261 I2263 (g := (mkF m 30 #[rv ob_2110, rv ob_2143, rv ob_2143] [(.ref ob_2143), (.int 0)])) rfl rfl (hb hby dd6_30)
  refine oS s2267 ?_
  show own_G p e below (T2264.setTop (mkF m 33 #[rv ob_2110, rv ob_2143, rv ob_2143] [(.int 0), (.int 0)])) _
  refine oS (fun _ => XS.icmpNo X2265.here hx rfl (hb hby dd6_33) rfl (XT.ii_ne_f (by decide))) ?_
  show own_G p e below (T2264.setTop (mkF m 36 #[rv ob_2110, rv ob_2143, rv ob_2143] [])) _
  refine oS (fun _ => XS.aloadN X2265.here hx rfl (hb hby dd6_36) rfl rfl) ?_
  obtain ⟨T2269, X2270, e2271, s2272⟩ := getF X2265 hx hZ hown (host := "") (Or.inl (oW hw 31 rfl)) Via.refl e2266 I2268 (g := (mkF m 37 #[rv ob_2110, rv ob_2143, rv ob_2143] [(.ref ob_2110)])) rfl rfl (hb hby dd6_37)
  refine oS s2272 ?_
  show own_G p e below (T2269.setTop (mkF m 40 #[rv ob_2110, rv ob_2143, rv ob_2143] [(.ref ob_2111)])) _
  refine oS (fun _ => XS.aloadN X2270.here hx rfl (hb hby dd6_40) rfl rfl) ?_
  obtain ⟨T2274, X2275, e2276, s2277⟩ := getF X2270 hx hZ hown (host := "") (Or.inl (oW hw 31 rfl)) Via.refl e2271 I2273 (g := (mkF m 41 #[rv ob_2110, rv ob_2143, rv ob_2143] [(.ref ob_2143), (.ref ob_2111)])) rfl rfl (hb hby dd6_41)
  refine oS s2277 ?_
  show own_G p e below (T2274.setTop (mkF m 44 #[rv ob_2110, rv ob_2143, rv ob_2143] [(.ref ob_2144), (.ref ob_2111)])) _
  obtain ⟨T2286, h2287, v2288, L2289, X2290, e2291, q2292, s2293⟩ := own_callS X2275 hx hZ hown e2276 (y := (⟨"java/lang/StringLatin1", "equals", "([B[B)Z"⟩ : MethodName)) (oW hw 68 rfl) (oW hw 69 rfl) (oW hw 70 rfl) (oW hw 71 rfl) (by decide) (W := 0) (own_rm44 l Z a0 hw [] ob_2111 ob_2144 kk_2112 in_16 in_17 kk_2145 h0 n0 Z0 O0 I2278 I2284) (by decide) (by decide) (by decide) (by decide) (g := (mkF m 44 #[rv ob_2110, rv ob_2143, rv ob_2143] [(.ref ob_2144), (.ref ob_2111)])) rfl (by rw [hml]; rfl) (argsL := [(.ref ob_2111), (.ref ob_2144)]) (rest := []) rfl (lenOf own_pd5 rfl) rfl (by show 2 * 0 + _ ≤ _; exact Nat.le_of_eq rfl) (hb hby dd6_44)
  refine oS s2293 ?_
  obtain ⟨rfl, N2294, K2295⟩ := q2292
  have N2296 := Fr.app N0 N2294
  have e2297 := e2291.trans K2295
  show own_G p e below (T2286.setTop (mkF m 47 #[rv ob_2110, rv ob_2143, rv ob_2143] [(.int 0)])) _
  refine oS (fun _ => XS.ifYes X2290.here hx rfl (pc0 := 47) (pc' := 54) rfl (hb hby dd6_47) rfl (XT.i0_eq_t (by decide)) (by decide) (by decide)) ?_
  show own_G p e below (T2286.setTop (mkF m 54 #[rv ob_2110, rv ob_2143, rv ob_2143] [])) _
  refine oS (fun _ => XS.iconst X2290.here hx rfl (hb hby dd6_54) ) ?_
  exact own_retN X2290 hx (t := .boolean) Bd.notSynchronized Bd.returns (by simp) (hb hby dd6_55) (by decide) e2297 (by decide) (by decide) (⟨rfl, N2296, rfl⟩)
def own_Q42 (Z : State) (ob_2168 : Nat) (ob_2143 : Nat) (ob_9 : Nat) (ob_2110 : Nat) (in_6 : Int32) (ob_2111 : Nat) (ob_2144 : Nat) (kk_2112 : ClassId) (in_16 : Int32) (in_17 : Int32) (kk_2145 : ClassId) (h0 : Heap) (n0 : Nat) (v : Option Value) (h : Heap) (L : List Loc) : Prop := (v = some (.int 0) ∧ Fr n0 L ∧ h = h0)
set_option maxRecDepth 65536 in
set_option maxHeartbeats 40000000 in
theorem own_rm42 (l : Launch) (Z : State) (a0 : Array Value) (hw : ∀ d ∈ tables_1, d.before a0 Z = true) (ws : List Jvm.Cond) (ob_2168 : Nat) (ob_2143 : Nat) (ob_9 : Nat) (ob_2110 : Nat) (in_6 : Int32) (ob_2111 : Nat) (ob_2144 : Nat) (kk_2112 : ClassId) (in_16 : Int32) (in_17 : Int32) (kk_2145 : ClassId) (h0 : Heap) (n0 : Nat) (Z0 : n0 ≤ h0.size) (O0 : Old Z n0 h0) (I2216 : Fld Z h0 ob_2168 "com/example/latente/latente/query/JpqlLexer$Token" "kind" "Lcom/example/latente/latente/query/JpqlLexer$Kind;" (.ref ob_9)) (I2221 : Sta Z Z.heap "com/example/latente/latente/query/JpqlLexer$Kind" "SYMBOL" "Lcom/example/latente/latente/query/JpqlLexer$Kind;" (.ref ob_9)) (I2227 : Fld Z h0 ob_2168 "com/example/latente/latente/query/JpqlLexer$Token" "text" "Ljava/lang/String;" (.ref ob_2110)) (I2232 : @Ne Nat ob_2110 ob_2143) (I2233 : Exa Z h0 ob_2143 "java/lang/String") (I2234 : Sta Z Z.heap "java/lang/String" "COMPACT_STRINGS" "Z" (.int in_6)) (I2235 : ¬ (in_6 = 0)) (I2236 : Fld Z h0 ob_2110 "java/lang/String" "coder" "B" (.int 0)) (I2237 : Fld Z h0 ob_2143 "java/lang/String" "coder" "B" (.int 0)) (I2238 : Fld Z h0 ob_2110 "java/lang/String" "value" "[B" (.ref ob_2111)) (I2239 : Fld Z h0 ob_2143 "java/lang/String" "value" "[B" (.ref ob_2144)) (I2240 : Arv Z h0 ob_2111 kk_2112 .byte 2 [(.int (in_16.toInt8.toInt32)), (.int (in_17.toInt8.toInt32))] (.int 0)) (I2283 : Arv Z h0 ob_2144 kk_2145 .byte 0 [] (.int 0)) (I2309 : Exa Z h0 ob_2110 "java/lang/String") :
    own_Met l Z h0 (⟨"com/example/latente/latente/query/JpqlLexer$Token", "isSymbol", "(Ljava/lang/String;)Z"⟩ : MethodName) prog_9_method_3_code 2 (Option.some FieldType.boolean) ws ({ frames := 2, cells := 0, slots := 0, locals := 28 } : Room) #[(.ref ob_2168), (.ref ob_2143)] (own_Q42 Z ob_2168 ob_2143 ob_9 ob_2110 in_6 ob_2111 ob_2144 kk_2112 in_16 in_17 kk_2145 h0 n0) 0 0 := by
  refine MetFree.of_bodySF own_pn7 hisR ?_
  intro p e s m args below meth c s₁ Bd hml0 hP hK
  obtain ⟨rfl, hZ, hh⟩ := hP
  have hx := Bd.exec
  have hby := Bd.bytes
  have hml : c.maxLocals = 2 := hml0
  have hown : s.vm.findClass "com/example/latente/latente/query/JpqlLexer$Token" = some m.cls := findClass_of_methodNamed Bd.named
  have hnm := (name_of_methodNamed Bd.named Bd.method).1
  have X0 : Stand p l e ({ frames := 2, cells := 0, slots := 0, locals := 28 } : Room) s m #[(.ref ob_2168), (.ref ob_2143)] below meth c s₁ [] 0 0 := Stand.of_body Bd
  have e0 : s₁.heap = h0 := by rw [← hh, Bd.state]; rfl
  have N0 := Fr.nil n0
  show own_G p e below (s₁.setTop (entryFrame m #[(.ref ob_2168), (.ref ob_2143)] 2)) (own_P s (own_Q42 Z ob_2168 ob_2143 ob_9 ob_2110 in_6 ob_2111 ob_2144 kk_2112 in_16 in_17 kk_2145 h0 n0) 0 0)
  refine own_cast (own_ef2 m ob_2168 ob_2143) ?_
  show own_G p e below (s₁.setTop (mkF m 0 #[rv ob_2168, rv ob_2143] [])) _
  refine oS (fun _ => XS.aloadN X0.here hx rfl (hb hby dd5_0) rfl rfl) ?_
  obtain ⟨T2217, X2218, e2219, s2220⟩ := getF X0 hx hZ hown (host := "") (Or.inl (oW hw 45 rfl)) Via.refl e0 I2216 (g := (mkF m 1 #[rv ob_2168, rv ob_2143] [(.ref ob_2168)])) rfl rfl (hb hby dd5_1)
  refine oS s2220 ?_
  show own_G p e below (T2217.setTop (mkF m 4 #[rv ob_2168, rv ob_2143] [(.ref ob_9)])) _
  have F2222 : Sta Z h0 "com/example/latente/latente/query/JpqlLexer$Kind" "SYMBOL" "Lcom/example/latente/latente/query/JpqlLexer$Kind;" (.ref ob_9) := Sta.ext O0.2 I2221
  obtain ⟨T2223, X2224, e2225, s2226⟩ := getS X2218 hx hZ hown (host := "") (oW hw 56 rfl) Via.refl e2219 F2222 (g := (mkF m 4 #[rv ob_2168, rv ob_2143] [(.ref ob_9)])) rfl (hb hby dd5_4)
  refine oS s2226 ?_
  show own_G p e below (T2223.setTop (mkF m 7 #[rv ob_2168, rv ob_2143] [(.ref ob_9), (.ref ob_9)])) _
  refine oS (fun _ => XT.acmpNo X2224.here hx rfl (hb hby dd5_7) rfl rfl rfl (XT.aa_ne_f rfl)) ?_
  show own_G p e below (T2223.setTop (mkF m 10 #[rv ob_2168, rv ob_2143] [])) _
  refine oS (fun _ => XS.aloadN X2224.here hx rfl (hb hby dd5_10) rfl rfl) ?_
  obtain ⟨T2228, X2229, e2230, s2231⟩ := getF X2224 hx hZ hown (host := "") (Or.inl (oW hw 47 rfl)) Via.refl e2225 I2227 (g := (mkF m 11 #[rv ob_2168, rv ob_2143] [(.ref ob_2168)])) rfl rfl (hb hby dd5_11)
  refine oS s2231 ?_
  show own_G p e below (T2228.setTop (mkF m 14 #[rv ob_2168, rv ob_2143] [(.ref ob_2110)])) _
  refine oS (fun _ => XS.aloadN X2229.here hx rfl (hb hby dd5_14) rfl rfl) ?_
  obtain ⟨T2298, h2299, v2300, L2301, X2302, e2303, q2304, s2305⟩ := own_callV X2229 hx hZ hown e2230 (y := (⟨"java/lang/String", "equals", "(Ljava/lang/Object;)Z"⟩ : MethodName)) (z := (⟨"java/lang/String", "equals", "(Ljava/lang/Object;)Z"⟩ : MethodName)) (C := "java/lang/String") (b := ob_2110) (oW hw 61 rfl) (oW hw 62 rfl) (notFace_of_selects (args := #[]) (mvT hZ (oW hw 64 rfl))) (oW hw 64 rfl) (oW hw 63 rfl) (oW hw 13 rfl) (oW hw 65 rfl) (by decide) I2309 (W := 0) (own_rm43 l Z a0 hw [] ob_2110 ob_2143 in_6 ob_2111 ob_2144 kk_2112 in_16 in_17 kk_2145 h0 n0 Z0 O0 I2232 I2233 I2234 I2235 I2236 I2237 I2238 I2239 I2240 I2283) (by decide) (by decide) (by decide) (by decide) (g := (mkF m 15 #[rv ob_2168, rv ob_2143] [(.ref ob_2143), (.ref ob_2110)])) rfl (by rw [hml]; rfl) (argsL := [(.ref ob_2143)]) (rest := []) rfl (lenOf own_pd6 rfl) rfl (by show 2 * 0 + _ ≤ _; exact Nat.le_of_eq rfl) (hb hby dd5_15)
  refine oS s2305 ?_
  obtain ⟨rfl, N2310, K2311⟩ := q2304
  have N2312 := Fr.app N0 N2310
  have e2313 := e2303.trans K2311
  show own_G p e below (T2298.setTop (mkF m 18 #[rv ob_2168, rv ob_2143] [(.int 0)])) _
  refine oS (fun _ => XS.ifYes X2302.here hx rfl (pc0 := 18) (pc' := 25) rfl (hb hby dd5_18) rfl (XT.i0_eq_t (by decide)) (by decide) (by decide)) ?_
  show own_G p e below (T2298.setTop (mkF m 25 #[rv ob_2168, rv ob_2143] [])) _
  refine oS (fun _ => XS.iconst X2302.here hx rfl (hb hby dd5_25) ) ?_
  exact own_retN X2302 hx (t := .boolean) Bd.notSynchronized Bd.returns (by simp) (hb hby dd5_26) (by decide) e2313 (by decide) (by decide) (⟨rfl, N2312, rfl⟩)
def own_Q47 (Z : State) (ob_2111 : Nat) (ob_2340 : Nat) (kk_2112 : ClassId) (in_16 : Int32) (in_17 : Int32) (kk_2341 : ClassId) (in_18 : Int32) (h0 : Heap) (n0 : Nat) (v : Option Value) (h : Heap) (L : List Loc) : Prop := (v = some (.int 0) ∧ Fr n0 L ∧ h = h0)
set_option maxRecDepth 65536 in
set_option maxHeartbeats 40000000 in
theorem own_rm47 (l : Launch) (Z : State) (a0 : Array Value) (hw : ∀ d ∈ tables_1, d.before a0 Z = true) (ws : List Jvm.Cond) (ob_2111 : Nat) (ob_2340 : Nat) (kk_2112 : ClassId) (in_16 : Int32) (in_17 : Int32) (kk_2341 : ClassId) (in_18 : Int32) (h0 : Heap) (n0 : Nat) (Z0 : n0 ≤ h0.size) (O0 : Old Z n0 h0) (I2484 : Arv Z h0 ob_2111 kk_2112 .byte 2 [(.int (in_16.toInt8.toInt32)), (.int (in_17.toInt8.toInt32))] (.int 0)) (I2485 : Arv Z h0 ob_2340 kk_2341 .byte 1 [(.int (in_18.toInt8.toInt32))] (.int 0)) :
    own_Met l Z h0 (⟨"java/lang/StringLatin1", "equals", "([B[B)Z"⟩ : MethodName) jdk_43_method_13_code 3 (Option.some FieldType.boolean) ws ({ frames := 0, cells := 0, slots := 0, locals := 0 } : Room) #[(.ref ob_2111), (.ref ob_2340)] (own_Q47 Z ob_2111 ob_2340 kk_2112 in_16 in_17 kk_2341 in_18 h0 n0) 0 0 := by
  refine MetFree.of_bodySF own_pn5 hisR ?_
  intro p e s m args below meth c s₁ Bd hml0 hP hK
  obtain ⟨rfl, hZ, hh⟩ := hP
  have hx := Bd.exec
  have hby := Bd.bytes
  have hml : c.maxLocals = 3 := hml0
  have hown : s.vm.findClass "java/lang/StringLatin1" = some m.cls := findClass_of_methodNamed Bd.named
  have hnm := (name_of_methodNamed Bd.named Bd.method).1
  have X0 : Stand p l e ({ frames := 0, cells := 0, slots := 0, locals := 0 } : Room) s m #[(.ref ob_2111), (.ref ob_2340)] below meth c s₁ [] 0 0 := Stand.of_body Bd
  have e0 : s₁.heap = h0 := by rw [← hh, Bd.state]; rfl
  have N0 := Fr.nil n0
  show own_G p e below (s₁.setTop (entryFrame m #[(.ref ob_2111), (.ref ob_2340)] 3)) (own_P s (own_Q47 Z ob_2111 ob_2340 kk_2112 in_16 in_17 kk_2341 in_18 h0 n0) 0 0)
  refine own_cast (own_ef6 m ob_2111 ob_2340) ?_
  show own_G p e below (s₁.setTop (mkF m 0 #[rv ob_2111, rv ob_2340, .unset] [])) _
  refine oS (fun _ => XS.aloadN X0.here hx rfl (hb hby dd7_0) rfl rfl) ?_
  refine oS (own_len X0 hx hZ e0 I2484 rfl rfl (hb hby dd7_1)) ?_
  show own_G p e below (s₁.setTop (mkF m 2 #[rv ob_2111, rv ob_2340, .unset] [(.int 2)])) _
  refine oS (fun _ => XS.aloadN X0.here hx rfl (hb hby dd7_2) rfl rfl) ?_
  refine oS (own_len X0 hx hZ e0 I2485 rfl rfl (hb hby dd7_3)) ?_
  show own_G p e below (s₁.setTop (mkF m 4 #[rv ob_2111, rv ob_2340, .unset] [(.int 1), (.int 2)])) _
  refine oS (fun _ => XS.icmpYes X0.here hx rfl (pc0 := 4) (pc' := 34) rfl (hb hby dd7_4) rfl (XT.ii_ne_t (by decide)) (by decide) (by decide)) ?_
  show own_G p e below (s₁.setTop (mkF m 34 #[rv ob_2111, rv ob_2340, .unset] [])) _
  refine oS (fun _ => XS.iconst X0.here hx rfl (hb hby dd7_34) ) ?_
  exact own_retN X0 hx (t := .boolean) Bd.notSynchronized Bd.returns (by simp) (hb hby dd7_35) (by decide) e0 (by decide) (by decide) (⟨rfl, N0, rfl⟩)
def own_Q46 (Z : State) (ob_2110 : Nat) (ob_2339 : Nat) (in_6 : Int32) (ob_2111 : Nat) (ob_2340 : Nat) (kk_2112 : ClassId) (in_16 : Int32) (in_17 : Int32) (kk_2341 : ClassId) (in_18 : Int32) (h0 : Heap) (n0 : Nat) (v : Option Value) (h : Heap) (L : List Loc) : Prop := (v = some (.int 0) ∧ Fr n0 L ∧ h = h0)
set_option maxRecDepth 65536 in
set_option maxHeartbeats 40000000 in
theorem own_rm46 (l : Launch) (Z : State) (a0 : Array Value) (hw : ∀ d ∈ tables_1, d.before a0 Z = true) (ws : List Jvm.Cond) (ob_2110 : Nat) (ob_2339 : Nat) (in_6 : Int32) (ob_2111 : Nat) (ob_2340 : Nat) (kk_2112 : ClassId) (in_16 : Int32) (in_17 : Int32) (kk_2341 : ClassId) (in_18 : Int32) (h0 : Heap) (n0 : Nat) (Z0 : n0 ≤ h0.size) (O0 : Old Z n0 h0) (I2445 : @Ne Nat ob_2110 ob_2339) (I2450 : Exa Z h0 ob_2339 "java/lang/String") (I2455 : Sta Z Z.heap "java/lang/String" "COMPACT_STRINGS" "Z" (.int in_6)) (I2461 : ¬ (in_6 = 0)) (I2462 : Fld Z h0 ob_2110 "java/lang/String" "coder" "B" (.int 0)) (I2467 : Fld Z h0 ob_2339 "java/lang/String" "coder" "B" (.int 0)) (I2472 : Fld Z h0 ob_2110 "java/lang/String" "value" "[B" (.ref ob_2111)) (I2477 : Fld Z h0 ob_2339 "java/lang/String" "value" "[B" (.ref ob_2340)) (I2482 : Arv Z h0 ob_2111 kk_2112 .byte 2 [(.int (in_16.toInt8.toInt32)), (.int (in_17.toInt8.toInt32))] (.int 0)) (I2483 : Arv Z h0 ob_2340 kk_2341 .byte 1 [(.int (in_18.toInt8.toInt32))] (.int 0)) :
    own_Met l Z h0 (⟨"java/lang/String", "equals", "(Ljava/lang/Object;)Z"⟩ : MethodName) jdk_42_method_66_code 3 (Option.some FieldType.boolean) ws ({ frames := 1, cells := 0, slots := 0, locals := 14 } : Room) #[(.ref ob_2110), (.ref ob_2339)] (own_Q46 Z ob_2110 ob_2339 in_6 ob_2111 ob_2340 kk_2112 in_16 in_17 kk_2341 in_18 h0 n0) 0 0 := by
  refine MetFree.of_bodySF own_pn6 hisR ?_
  intro p e s m args below meth c s₁ Bd hml0 hP hK
  obtain ⟨rfl, hZ, hh⟩ := hP
  have hx := Bd.exec
  have hby := Bd.bytes
  have hml : c.maxLocals = 3 := hml0
  have hown : s.vm.findClass "java/lang/String" = some m.cls := findClass_of_methodNamed Bd.named
  have hnm := (name_of_methodNamed Bd.named Bd.method).1
  have X0 : Stand p l e ({ frames := 1, cells := 0, slots := 0, locals := 14 } : Room) s m #[(.ref ob_2110), (.ref ob_2339)] below meth c s₁ [] 0 0 := Stand.of_body Bd
  have e0 : s₁.heap = h0 := by rw [← hh, Bd.state]; rfl
  have N0 := Fr.nil n0
  show own_G p e below (s₁.setTop (entryFrame m #[(.ref ob_2110), (.ref ob_2339)] 3)) (own_P s (own_Q46 Z ob_2110 ob_2339 in_6 ob_2111 ob_2340 kk_2112 in_16 in_17 kk_2341 in_18 h0 n0) 0 0)
  refine own_cast (own_ef6 m ob_2110 ob_2339) ?_
  show own_G p e below (s₁.setTop (mkF m 0 #[rv ob_2110, rv ob_2339, .unset] [])) _
  refine oS (fun _ => XS.aloadN X0.here hx rfl (hb hby dd6_0) rfl rfl) ?_
  refine oS (fun _ => XS.aloadN X0.here hx rfl (hb hby dd6_1) rfl rfl) ?_
  refine oS (fun _ => XT.acmpYes X0.here hx rfl (pc0 := 2) (pc' := 7) rfl (hb hby dd6_2) rfl rfl rfl (XT.aa_ne_t (own_rne I2445)) (by decide) (by decide)) ?_
  show own_G p e below (s₁.setTop (mkF m 7 #[rv ob_2110, rv ob_2339, .unset] [])) _
  refine oS (fun _ => XS.aloadN X0.here hx rfl (hb hby dd6_7) rfl rfl) ?_
  obtain ⟨T2446, X2447, e2448, s2449⟩ := instY X0 hx hZ hown (oW hw 66 rfl) e0 (Ins.self I2450) (g := (mkF m 8 #[rv ob_2110, rv ob_2339, .unset] [(.ref ob_2339)])) rfl rfl (hb hby dd6_8)
  refine oS s2449 ?_
  show own_G p e below (T2446.setTop (mkF m 11 #[rv ob_2110, rv ob_2339, .unset] [(.int 1)])) _
  refine oS (fun _ => XS.ifNo X2447.here hx rfl (hb hby dd6_11) rfl (XT.i0_eq_f (by decide))) ?_
  show own_G p e below (T2446.setTop (mkF m 14 #[rv ob_2110, rv ob_2339, .unset] [])) _
  refine oS (fun _ => XS.aloadN X2447.here hx rfl (hb hby dd6_14) rfl rfl) ?_
  obtain ⟨T2451, X2452, e2453, s2454⟩ := castY X2447 hx hZ hown (oW hw 66 rfl) e2448 (Ins.self I2450) (g := (mkF m 15 #[rv ob_2110, rv ob_2339, .unset] [(.ref ob_2339)])) rfl rfl (hb hby dd6_15)
  refine oS s2454 ?_
  show own_G p e below (T2451.setTop (mkF m 18 #[rv ob_2110, rv ob_2339, .unset] [(.ref ob_2339)])) _
  refine oS (fun _ => XS.astoreN X2452.here hx rfl (hb hby dd6_18) rfl rfl (l' := #[rv ob_2110, rv ob_2339, rv ob_2339]) rfl) ?_
  have F2456 : Sta Z h0 "java/lang/String" "COMPACT_STRINGS" "Z" (.int in_6) := Sta.ext O0.2 I2455
  obtain ⟨T2457, X2458, e2459, s2460⟩ := getS X2452 hx hZ hown (host := "") (oW hw 67 rfl) Via.refl e2453 F2456 (g := (mkF m 19 #[rv ob_2110, rv ob_2339, rv ob_2339] [])) rfl (hb hby dd6_19)
  refine oS s2460 ?_
  show own_G p e below (T2457.setTop (mkF m 22 #[rv ob_2110, rv ob_2339, rv ob_2339] [(.int in_6)])) _
  refine oS (fun _ => XS.ifNo X2458.here hx rfl (hb hby dd6_22) rfl (XT.i0_eq_f I2461)) ?_
  show own_G p e below (T2457.setTop (mkF m 25 #[rv ob_2110, rv ob_2339, rv ob_2339] [])) _
  refine oS (fun _ => XS.aloadN X2458.here hx rfl (hb hby dd6_25) rfl rfl) ?_
  obtain ⟨T2463, X2464, e2465, s2466⟩ := getF X2458 hx hZ hown (host := "") (Or.inl (oW hw 32 rfl)) Via.refl e2459 I2462 (g := (mkF m 26 #[rv ob_2110, rv ob_2339, rv ob_2339] [(.ref ob_2110)])) rfl rfl (hb hby dd6_26)
  refine oS s2466 ?_
  show own_G p e below (T2463.setTop (mkF m 29 #[rv ob_2110, rv ob_2339, rv ob_2339] [(.int 0)])) _
  refine oS (fun _ => XS.aloadN X2464.here hx rfl (hb hby dd6_29) rfl rfl) ?_
  obtain ⟨T2468, X2469, e2470, s2471⟩ := getF X2464 hx hZ hown (host := "") (Or.inl (oW hw 32 rfl)) Via.refl e2465 I2467 (g := (mkF m 30 #[rv ob_2110, rv ob_2339, rv ob_2339] [(.ref ob_2339), (.int 0)])) rfl rfl (hb hby dd6_30)
  refine oS s2471 ?_
  show own_G p e below (T2468.setTop (mkF m 33 #[rv ob_2110, rv ob_2339, rv ob_2339] [(.int 0), (.int 0)])) _
  refine oS (fun _ => XS.icmpNo X2469.here hx rfl (hb hby dd6_33) rfl (XT.ii_ne_f (by decide))) ?_
  show own_G p e below (T2468.setTop (mkF m 36 #[rv ob_2110, rv ob_2339, rv ob_2339] [])) _
  refine oS (fun _ => XS.aloadN X2469.here hx rfl (hb hby dd6_36) rfl rfl) ?_
  obtain ⟨T2473, X2474, e2475, s2476⟩ := getF X2469 hx hZ hown (host := "") (Or.inl (oW hw 31 rfl)) Via.refl e2470 I2472 (g := (mkF m 37 #[rv ob_2110, rv ob_2339, rv ob_2339] [(.ref ob_2110)])) rfl rfl (hb hby dd6_37)
  refine oS s2476 ?_
  show own_G p e below (T2473.setTop (mkF m 40 #[rv ob_2110, rv ob_2339, rv ob_2339] [(.ref ob_2111)])) _
  refine oS (fun _ => XS.aloadN X2474.here hx rfl (hb hby dd6_40) rfl rfl) ?_
  obtain ⟨T2478, X2479, e2480, s2481⟩ := getF X2474 hx hZ hown (host := "") (Or.inl (oW hw 31 rfl)) Via.refl e2475 I2477 (g := (mkF m 41 #[rv ob_2110, rv ob_2339, rv ob_2339] [(.ref ob_2339), (.ref ob_2111)])) rfl rfl (hb hby dd6_41)
  refine oS s2481 ?_
  show own_G p e below (T2478.setTop (mkF m 44 #[rv ob_2110, rv ob_2339, rv ob_2339] [(.ref ob_2340), (.ref ob_2111)])) _
  obtain ⟨T2486, h2487, v2488, L2489, X2490, e2491, q2492, s2493⟩ := own_callS X2479 hx hZ hown e2480 (y := (⟨"java/lang/StringLatin1", "equals", "([B[B)Z"⟩ : MethodName)) (oW hw 68 rfl) (oW hw 69 rfl) (oW hw 70 rfl) (oW hw 71 rfl) (by decide) (W := 0) (own_rm47 l Z a0 hw [] ob_2111 ob_2340 kk_2112 in_16 in_17 kk_2341 in_18 h0 n0 Z0 O0 I2482 I2483) (by decide) (by decide) (by decide) (by decide) (g := (mkF m 44 #[rv ob_2110, rv ob_2339, rv ob_2339] [(.ref ob_2340), (.ref ob_2111)])) rfl (by rw [hml]; rfl) (argsL := [(.ref ob_2111), (.ref ob_2340)]) (rest := []) rfl (lenOf own_pd5 rfl) rfl (by show 2 * 0 + _ ≤ _; exact Nat.le_of_eq rfl) (hb hby dd6_44)
  refine oS s2493 ?_
  obtain ⟨rfl, N2494, K2495⟩ := q2492
  have N2496 := Fr.app N0 N2494
  have e2497 := e2491.trans K2495
  show own_G p e below (T2486.setTop (mkF m 47 #[rv ob_2110, rv ob_2339, rv ob_2339] [(.int 0)])) _
  refine oS (fun _ => XS.ifYes X2490.here hx rfl (pc0 := 47) (pc' := 54) rfl (hb hby dd6_47) rfl (XT.i0_eq_t (by decide)) (by decide) (by decide)) ?_
  show own_G p e below (T2486.setTop (mkF m 54 #[rv ob_2110, rv ob_2339, rv ob_2339] [])) _
  refine oS (fun _ => XS.iconst X2490.here hx rfl (hb hby dd6_54) ) ?_
  exact own_retN X2490 hx (t := .boolean) Bd.notSynchronized Bd.returns (by simp) (hb hby dd6_55) (by decide) e2497 (by decide) (by decide) (⟨rfl, N2496, rfl⟩)
def own_Q45 (Z : State) (ob_2368 : Nat) (ob_2339 : Nat) (ob_9 : Nat) (ob_2110 : Nat) (in_6 : Int32) (ob_2111 : Nat) (ob_2340 : Nat) (kk_2112 : ClassId) (in_16 : Int32) (in_17 : Int32) (kk_2341 : ClassId) (in_18 : Int32) (h0 : Heap) (n0 : Nat) (v : Option Value) (h : Heap) (L : List Loc) : Prop := (v = some (.int 0) ∧ Fr n0 L ∧ h = h0)
set_option maxRecDepth 65536 in
set_option maxHeartbeats 40000000 in
theorem own_rm45 (l : Launch) (Z : State) (a0 : Array Value) (hw : ∀ d ∈ tables_1, d.before a0 Z = true) (ws : List Jvm.Cond) (ob_2368 : Nat) (ob_2339 : Nat) (ob_9 : Nat) (ob_2110 : Nat) (in_6 : Int32) (ob_2111 : Nat) (ob_2340 : Nat) (kk_2112 : ClassId) (in_16 : Int32) (in_17 : Int32) (kk_2341 : ClassId) (in_18 : Int32) (h0 : Heap) (n0 : Nat) (Z0 : n0 ≤ h0.size) (O0 : Old Z n0 h0) (I2419 : Fld Z h0 ob_2368 "com/example/latente/latente/query/JpqlLexer$Token" "kind" "Lcom/example/latente/latente/query/JpqlLexer$Kind;" (.ref ob_9)) (I2424 : Sta Z Z.heap "com/example/latente/latente/query/JpqlLexer$Kind" "SYMBOL" "Lcom/example/latente/latente/query/JpqlLexer$Kind;" (.ref ob_9)) (I2430 : Fld Z h0 ob_2368 "com/example/latente/latente/query/JpqlLexer$Token" "text" "Ljava/lang/String;" (.ref ob_2110)) (I2435 : @Ne Nat ob_2110 ob_2339) (I2436 : Exa Z h0 ob_2339 "java/lang/String") (I2437 : Sta Z Z.heap "java/lang/String" "COMPACT_STRINGS" "Z" (.int in_6)) (I2438 : ¬ (in_6 = 0)) (I2439 : Fld Z h0 ob_2110 "java/lang/String" "coder" "B" (.int 0)) (I2440 : Fld Z h0 ob_2339 "java/lang/String" "coder" "B" (.int 0)) (I2441 : Fld Z h0 ob_2110 "java/lang/String" "value" "[B" (.ref ob_2111)) (I2442 : Fld Z h0 ob_2339 "java/lang/String" "value" "[B" (.ref ob_2340)) (I2443 : Arv Z h0 ob_2111 kk_2112 .byte 2 [(.int (in_16.toInt8.toInt32)), (.int (in_17.toInt8.toInt32))] (.int 0)) (I2444 : Arv Z h0 ob_2340 kk_2341 .byte 1 [(.int (in_18.toInt8.toInt32))] (.int 0)) (I2509 : Exa Z h0 ob_2110 "java/lang/String") :
    own_Met l Z h0 (⟨"com/example/latente/latente/query/JpqlLexer$Token", "isSymbol", "(Ljava/lang/String;)Z"⟩ : MethodName) prog_9_method_3_code 2 (Option.some FieldType.boolean) ws ({ frames := 2, cells := 0, slots := 0, locals := 28 } : Room) #[(.ref ob_2368), (.ref ob_2339)] (own_Q45 Z ob_2368 ob_2339 ob_9 ob_2110 in_6 ob_2111 ob_2340 kk_2112 in_16 in_17 kk_2341 in_18 h0 n0) 0 0 := by
  refine MetFree.of_bodySF own_pn7 hisR ?_
  intro p e s m args below meth c s₁ Bd hml0 hP hK
  obtain ⟨rfl, hZ, hh⟩ := hP
  have hx := Bd.exec
  have hby := Bd.bytes
  have hml : c.maxLocals = 2 := hml0
  have hown : s.vm.findClass "com/example/latente/latente/query/JpqlLexer$Token" = some m.cls := findClass_of_methodNamed Bd.named
  have hnm := (name_of_methodNamed Bd.named Bd.method).1
  have X0 : Stand p l e ({ frames := 2, cells := 0, slots := 0, locals := 28 } : Room) s m #[(.ref ob_2368), (.ref ob_2339)] below meth c s₁ [] 0 0 := Stand.of_body Bd
  have e0 : s₁.heap = h0 := by rw [← hh, Bd.state]; rfl
  have N0 := Fr.nil n0
  show own_G p e below (s₁.setTop (entryFrame m #[(.ref ob_2368), (.ref ob_2339)] 2)) (own_P s (own_Q45 Z ob_2368 ob_2339 ob_9 ob_2110 in_6 ob_2111 ob_2340 kk_2112 in_16 in_17 kk_2341 in_18 h0 n0) 0 0)
  refine own_cast (own_ef2 m ob_2368 ob_2339) ?_
  show own_G p e below (s₁.setTop (mkF m 0 #[rv ob_2368, rv ob_2339] [])) _
  refine oS (fun _ => XS.aloadN X0.here hx rfl (hb hby dd5_0) rfl rfl) ?_
  obtain ⟨T2420, X2421, e2422, s2423⟩ := getF X0 hx hZ hown (host := "") (Or.inl (oW hw 45 rfl)) Via.refl e0 I2419 (g := (mkF m 1 #[rv ob_2368, rv ob_2339] [(.ref ob_2368)])) rfl rfl (hb hby dd5_1)
  refine oS s2423 ?_
  show own_G p e below (T2420.setTop (mkF m 4 #[rv ob_2368, rv ob_2339] [(.ref ob_9)])) _
  have F2425 : Sta Z h0 "com/example/latente/latente/query/JpqlLexer$Kind" "SYMBOL" "Lcom/example/latente/latente/query/JpqlLexer$Kind;" (.ref ob_9) := Sta.ext O0.2 I2424
  obtain ⟨T2426, X2427, e2428, s2429⟩ := getS X2421 hx hZ hown (host := "") (oW hw 56 rfl) Via.refl e2422 F2425 (g := (mkF m 4 #[rv ob_2368, rv ob_2339] [(.ref ob_9)])) rfl (hb hby dd5_4)
  refine oS s2429 ?_
  show own_G p e below (T2426.setTop (mkF m 7 #[rv ob_2368, rv ob_2339] [(.ref ob_9), (.ref ob_9)])) _
  refine oS (fun _ => XT.acmpNo X2427.here hx rfl (hb hby dd5_7) rfl rfl rfl (XT.aa_ne_f rfl)) ?_
  show own_G p e below (T2426.setTop (mkF m 10 #[rv ob_2368, rv ob_2339] [])) _
  refine oS (fun _ => XS.aloadN X2427.here hx rfl (hb hby dd5_10) rfl rfl) ?_
  obtain ⟨T2431, X2432, e2433, s2434⟩ := getF X2427 hx hZ hown (host := "") (Or.inl (oW hw 47 rfl)) Via.refl e2428 I2430 (g := (mkF m 11 #[rv ob_2368, rv ob_2339] [(.ref ob_2368)])) rfl rfl (hb hby dd5_11)
  refine oS s2434 ?_
  show own_G p e below (T2431.setTop (mkF m 14 #[rv ob_2368, rv ob_2339] [(.ref ob_2110)])) _
  refine oS (fun _ => XS.aloadN X2432.here hx rfl (hb hby dd5_14) rfl rfl) ?_
  obtain ⟨T2498, h2499, v2500, L2501, X2502, e2503, q2504, s2505⟩ := own_callV X2432 hx hZ hown e2433 (y := (⟨"java/lang/String", "equals", "(Ljava/lang/Object;)Z"⟩ : MethodName)) (z := (⟨"java/lang/String", "equals", "(Ljava/lang/Object;)Z"⟩ : MethodName)) (C := "java/lang/String") (b := ob_2110) (oW hw 61 rfl) (oW hw 62 rfl) (notFace_of_selects (args := #[]) (mvT hZ (oW hw 64 rfl))) (oW hw 64 rfl) (oW hw 63 rfl) (oW hw 13 rfl) (oW hw 65 rfl) (by decide) I2509 (W := 0) (own_rm46 l Z a0 hw [] ob_2110 ob_2339 in_6 ob_2111 ob_2340 kk_2112 in_16 in_17 kk_2341 in_18 h0 n0 Z0 O0 I2435 I2436 I2437 I2438 I2439 I2440 I2441 I2442 I2443 I2444) (by decide) (by decide) (by decide) (by decide) (g := (mkF m 15 #[rv ob_2368, rv ob_2339] [(.ref ob_2339), (.ref ob_2110)])) rfl (by rw [hml]; rfl) (argsL := [(.ref ob_2339)]) (rest := []) rfl (lenOf own_pd6 rfl) rfl (by show 2 * 0 + _ ≤ _; exact Nat.le_of_eq rfl) (hb hby dd5_15)
  refine oS s2505 ?_
  obtain ⟨rfl, N2510, K2511⟩ := q2504
  have N2512 := Fr.app N0 N2510
  have e2513 := e2503.trans K2511
  show own_G p e below (T2498.setTop (mkF m 18 #[rv ob_2368, rv ob_2339] [(.int 0)])) _
  refine oS (fun _ => XS.ifYes X2502.here hx rfl (pc0 := 18) (pc' := 25) rfl (hb hby dd5_18) rfl (XT.i0_eq_t (by decide)) (by decide) (by decide)) ?_
  show own_G p e below (T2498.setTop (mkF m 25 #[rv ob_2368, rv ob_2339] [])) _
  refine oS (fun _ => XS.iconst X2502.here hx rfl (hb hby dd5_25) ) ?_
  exact own_retN X2502 hx (t := .boolean) Bd.notSynchronized Bd.returns (by simp) (hb hby dd5_26) (by decide) e2513 (by decide) (by decide) (⟨rfl, N2512, rfl⟩)
def own_Q50 (Z : State) (ob_2111 : Nat) (ob_2540 : Nat) (kk_2112 : ClassId) (in_16 : Int32) (in_17 : Int32) (kk_2541 : ClassId) (in_18 : Int32) (in_19 : Int32) (h0 : Heap) (n0 : Nat) (v : Option Value) (h : Heap) (L : List Loc) : Prop := (((in_16.toInt8.toInt32) = (in_18.toInt8.toInt32)) ∧ ((in_17.toInt8.toInt32) = (in_19.toInt8.toInt32)) ∧ v = some (.int 1) ∧ Fr n0 L ∧ h = h0) ∨ (((in_16.toInt8.toInt32) = (in_18.toInt8.toInt32)) ∧ ¬ ((in_17.toInt8.toInt32) = (in_19.toInt8.toInt32)) ∧ v = some (.int 0) ∧ Fr n0 L ∧ h = h0) ∨ (¬ ((in_16.toInt8.toInt32) = (in_18.toInt8.toInt32)) ∧ v = some (.int 0) ∧ Fr n0 L ∧ h = h0)
set_option maxRecDepth 65536 in
set_option maxHeartbeats 40000000 in
theorem own_rm50 (l : Launch) (Z : State) (a0 : Array Value) (hw : ∀ d ∈ tables_1, d.before a0 Z = true) (ws : List Jvm.Cond) (ob_2111 : Nat) (ob_2540 : Nat) (kk_2112 : ClassId) (in_16 : Int32) (in_17 : Int32) (kk_2541 : ClassId) (in_18 : Int32) (in_19 : Int32) (h0 : Heap) (n0 : Nat) (Z0 : n0 ≤ h0.size) (O0 : Old Z n0 h0) (I2684 : Arv Z h0 ob_2111 kk_2112 .byte 2 [(.int (in_16.toInt8.toInt32)), (.int (in_17.toInt8.toInt32))] (.int 0)) (I2685 : Arv Z h0 ob_2540 kk_2541 .byte 2 [(.int (in_18.toInt8.toInt32)), (.int (in_19.toInt8.toInt32))] (.int 0)) :
    own_Met l Z h0 (⟨"java/lang/StringLatin1", "equals", "([B[B)Z"⟩ : MethodName) jdk_43_method_13_code 3 (Option.some FieldType.boolean) ws ({ frames := 0, cells := 0, slots := 0, locals := 0 } : Room) #[(.ref ob_2111), (.ref ob_2540)] (own_Q50 Z ob_2111 ob_2540 kk_2112 in_16 in_17 kk_2541 in_18 in_19 h0 n0) 0 0 := by
  refine MetFree.of_bodySF own_pn5 hisR ?_
  intro p e s m args below meth c s₁ Bd hml0 hP hK
  obtain ⟨rfl, hZ, hh⟩ := hP
  have hx := Bd.exec
  have hby := Bd.bytes
  have hml : c.maxLocals = 3 := hml0
  have hown : s.vm.findClass "java/lang/StringLatin1" = some m.cls := findClass_of_methodNamed Bd.named
  have hnm := (name_of_methodNamed Bd.named Bd.method).1
  have X0 : Stand p l e ({ frames := 0, cells := 0, slots := 0, locals := 0 } : Room) s m #[(.ref ob_2111), (.ref ob_2540)] below meth c s₁ [] 0 0 := Stand.of_body Bd
  have e0 : s₁.heap = h0 := by rw [← hh, Bd.state]; rfl
  have N0 := Fr.nil n0
  show own_G p e below (s₁.setTop (entryFrame m #[(.ref ob_2111), (.ref ob_2540)] 3)) (own_P s (own_Q50 Z ob_2111 ob_2540 kk_2112 in_16 in_17 kk_2541 in_18 in_19 h0 n0) 0 0)
  refine own_cast (own_ef6 m ob_2111 ob_2540) ?_
  show own_G p e below (s₁.setTop (mkF m 0 #[rv ob_2111, rv ob_2540, .unset] [])) _
  refine oS (fun _ => XS.aloadN X0.here hx rfl (hb hby dd7_0) rfl rfl) ?_
  refine oS (own_len X0 hx hZ e0 I2684 rfl rfl (hb hby dd7_1)) ?_
  show own_G p e below (s₁.setTop (mkF m 2 #[rv ob_2111, rv ob_2540, .unset] [(.int 2)])) _
  refine oS (fun _ => XS.aloadN X0.here hx rfl (hb hby dd7_2) rfl rfl) ?_
  refine oS (own_len X0 hx hZ e0 I2685 rfl rfl (hb hby dd7_3)) ?_
  show own_G p e below (s₁.setTop (mkF m 4 #[rv ob_2111, rv ob_2540, .unset] [(.int 2), (.int 2)])) _
  refine oS (fun _ => XS.icmpNo X0.here hx rfl (hb hby dd7_4) rfl (XT.ii_ne_f (by decide))) ?_
  show own_G p e below (s₁.setTop (mkF m 7 #[rv ob_2111, rv ob_2540, .unset] [])) _
  refine oS (fun _ => XS.iconst X0.here hx rfl (hb hby dd7_7) ) ?_
  refine oS (fun _ => XS.istoreN X0.here hx rfl (hb hby dd7_8) rfl (l' := #[rv ob_2111, rv ob_2540, iv 0]) rfl) ?_
  refine oS (fun _ => XS.iloadN X0.here hx rfl (hb hby dd7_9) rfl) ?_
  refine oS (fun _ => XS.aloadN X0.here hx rfl (hb hby dd7_10) rfl rfl) ?_
  show own_G p e below (s₁.setTop (mkF m 11 #[rv ob_2111, rv ob_2540, iv 0] [(.ref ob_2111), (.int 0)])) _
  refine oS (own_len X0 hx hZ e0 I2684 rfl rfl (hb hby dd7_11)) ?_
  show own_G p e below (s₁.setTop (mkF m 12 #[rv ob_2111, rv ob_2540, iv 0] [(.int 2), (.int 0)])) _
  refine oS (fun _ => XS.icmpNo X0.here hx rfl (hb hby dd7_12) rfl (XT.ii_ge_f (by decide))) ?_
  show own_G p e below (s₁.setTop (mkF m 15 #[rv ob_2111, rv ob_2540, iv 0] [])) _
  refine oS (fun _ => XS.aloadN X0.here hx rfl (hb hby dd7_15) rfl rfl) ?_
  refine oS (fun _ => XS.iloadN X0.here hx rfl (hb hby dd7_16) rfl) ?_
  refine oS (own_baload X0 hx hZ e0 I2684 (by decide) (v := (.int (in_16.toInt8.toInt32))) rfl rfl rfl (hb hby dd7_17)) ?_
  show own_G p e below (s₁.setTop (mkF m 18 #[rv ob_2111, rv ob_2540, iv 0] [(.int (in_16.toInt8.toInt32))])) _
  refine oS (fun _ => XS.aloadN X0.here hx rfl (hb hby dd7_18) rfl rfl) ?_
  refine oS (fun _ => XS.iloadN X0.here hx rfl (hb hby dd7_19) rfl) ?_
  refine oS (own_baload X0 hx hZ e0 I2685 (by decide) (v := (.int (in_18.toInt8.toInt32))) rfl rfl rfl (hb hby dd7_20)) ?_
  show own_G p e below (s₁.setTop (mkF m 21 #[rv ob_2111, rv ob_2540, iv 0] [(.int (in_18.toInt8.toInt32)), (.int (in_16.toInt8.toInt32))])) _
  by_cases b2686 : (in_16.toInt8.toInt32) = (in_18.toInt8.toInt32)
  · skip
    refine oS (fun _ => XS.icmpYes X0.here hx rfl (pc0 := 21) (pc' := 26) rfl (hb hby dd7_21) rfl (XT.ii_eq_t b2686) (by decide) (by decide)) ?_
    show own_G p e below (s₁.setTop (mkF m 26 #[rv ob_2111, rv ob_2540, iv 0] [])) _
    refine oS (fun _ => XS.iinc X0.here hx rfl (hb hby dd7_26) rfl (l' := #[rv ob_2111, rv ob_2540, iv 1]) rfl) ?_
    show own_G p e below (s₁.setTop (mkF m 29 #[rv ob_2111, rv ob_2540, iv 1] [])) _
    refine oS (fun _ => XS.goto X0.here hx rfl (pc0 := 29) (pc' := 9) rfl (hb hby dd7_29) (by decide) (by decide)) ?_
    show own_G p e below (s₁.setTop (mkF m 9 #[rv ob_2111, rv ob_2540, iv 1] [])) _
    refine oS (fun _ => XS.iloadN X0.here hx rfl (hb hby dd7_9) rfl) ?_
    refine oS (fun _ => XS.aloadN X0.here hx rfl (hb hby dd7_10) rfl rfl) ?_
    refine oS (own_len X0 hx hZ e0 I2684 rfl rfl (hb hby dd7_11)) ?_
    show own_G p e below (s₁.setTop (mkF m 12 #[rv ob_2111, rv ob_2540, iv 1] [(.int 2), (.int 1)])) _
    refine oS (fun _ => XS.icmpNo X0.here hx rfl (hb hby dd7_12) rfl (XT.ii_ge_f (by decide))) ?_
    show own_G p e below (s₁.setTop (mkF m 15 #[rv ob_2111, rv ob_2540, iv 1] [])) _
    refine oS (fun _ => XS.aloadN X0.here hx rfl (hb hby dd7_15) rfl rfl) ?_
    refine oS (fun _ => XS.iloadN X0.here hx rfl (hb hby dd7_16) rfl) ?_
    refine oS (own_baload X0 hx hZ e0 I2684 (by decide) (v := (.int (in_17.toInt8.toInt32))) rfl rfl rfl (hb hby dd7_17)) ?_
    show own_G p e below (s₁.setTop (mkF m 18 #[rv ob_2111, rv ob_2540, iv 1] [(.int (in_17.toInt8.toInt32))])) _
    refine oS (fun _ => XS.aloadN X0.here hx rfl (hb hby dd7_18) rfl rfl) ?_
    refine oS (fun _ => XS.iloadN X0.here hx rfl (hb hby dd7_19) rfl) ?_
    refine oS (own_baload X0 hx hZ e0 I2685 (by decide) (v := (.int (in_19.toInt8.toInt32))) rfl rfl rfl (hb hby dd7_20)) ?_
    show own_G p e below (s₁.setTop (mkF m 21 #[rv ob_2111, rv ob_2540, iv 1] [(.int (in_19.toInt8.toInt32)), (.int (in_17.toInt8.toInt32))])) _
    by_cases b2687 : (in_17.toInt8.toInt32) = (in_19.toInt8.toInt32)
    · skip
      refine oS (fun _ => XS.icmpYes X0.here hx rfl (pc0 := 21) (pc' := 26) rfl (hb hby dd7_21) rfl (XT.ii_eq_t b2687) (by decide) (by decide)) ?_
      show own_G p e below (s₁.setTop (mkF m 26 #[rv ob_2111, rv ob_2540, iv 1] [])) _
      refine oS (fun _ => XS.iinc X0.here hx rfl (hb hby dd7_26) rfl (l' := #[rv ob_2111, rv ob_2540, iv 2]) rfl) ?_
      show own_G p e below (s₁.setTop (mkF m 29 #[rv ob_2111, rv ob_2540, iv 2] [])) _
      refine oS (fun _ => XS.goto X0.here hx rfl (pc0 := 29) (pc' := 9) rfl (hb hby dd7_29) (by decide) (by decide)) ?_
      show own_G p e below (s₁.setTop (mkF m 9 #[rv ob_2111, rv ob_2540, iv 2] [])) _
      refine oS (fun _ => XS.iloadN X0.here hx rfl (hb hby dd7_9) rfl) ?_
      refine oS (fun _ => XS.aloadN X0.here hx rfl (hb hby dd7_10) rfl rfl) ?_
      refine oS (own_len X0 hx hZ e0 I2684 rfl rfl (hb hby dd7_11)) ?_
      show own_G p e below (s₁.setTop (mkF m 12 #[rv ob_2111, rv ob_2540, iv 2] [(.int 2), (.int 2)])) _
      refine oS (fun _ => XS.icmpYes X0.here hx rfl (pc0 := 12) (pc' := 32) rfl (hb hby dd7_12) rfl (XT.ii_ge_t (by decide)) (by decide) (by decide)) ?_
      show own_G p e below (s₁.setTop (mkF m 32 #[rv ob_2111, rv ob_2540, iv 2] [])) _
      refine oS (fun _ => XS.iconst X0.here hx rfl (hb hby dd7_32) ) ?_
      exact own_retN X0 hx (t := .boolean) Bd.notSynchronized Bd.returns (by simp) (hb hby dd7_33) (by decide) e0 (by decide) (by decide) (Or.inl ⟨b2686, b2687, rfl, N0, rfl⟩)
    · skip
      refine oS (fun _ => XS.icmpNo X0.here hx rfl (hb hby dd7_21) rfl (XT.ii_eq_f b2687)) ?_
      show own_G p e below (s₁.setTop (mkF m 24 #[rv ob_2111, rv ob_2540, iv 1] [])) _
      refine oS (fun _ => XS.iconst X0.here hx rfl (hb hby dd7_24) ) ?_
      exact own_retN X0 hx (t := .boolean) Bd.notSynchronized Bd.returns (by simp) (hb hby dd7_25) (by decide) e0 (by decide) (by decide) (Or.inr (Or.inl ⟨b2686, b2687, rfl, N0, rfl⟩))
  · skip
    refine oS (fun _ => XS.icmpNo X0.here hx rfl (hb hby dd7_21) rfl (XT.ii_eq_f b2686)) ?_
    show own_G p e below (s₁.setTop (mkF m 24 #[rv ob_2111, rv ob_2540, iv 0] [])) _
    refine oS (fun _ => XS.iconst X0.here hx rfl (hb hby dd7_24) ) ?_
    exact own_retN X0 hx (t := .boolean) Bd.notSynchronized Bd.returns (by simp) (hb hby dd7_25) (by decide) e0 (by decide) (by decide) (Or.inr (Or.inr (⟨b2686, rfl, N0, rfl⟩)))
def own_Q49 (Z : State) (ob_2110 : Nat) (ob_2539 : Nat) (in_6 : Int32) (ob_2111 : Nat) (ob_2540 : Nat) (kk_2112 : ClassId) (in_16 : Int32) (in_17 : Int32) (kk_2541 : ClassId) (in_18 : Int32) (in_19 : Int32) (h0 : Heap) (n0 : Nat) (v : Option Value) (h : Heap) (L : List Loc) : Prop := (((in_16.toInt8.toInt32) = (in_18.toInt8.toInt32)) ∧ ((in_17.toInt8.toInt32) = (in_19.toInt8.toInt32)) ∧ v = some (.int 1) ∧ Fr n0 L ∧ h = h0) ∨ (((in_16.toInt8.toInt32) = (in_18.toInt8.toInt32)) ∧ ¬ ((in_17.toInt8.toInt32) = (in_19.toInt8.toInt32)) ∧ v = some (.int 0) ∧ Fr n0 L ∧ h = h0) ∨ (¬ ((in_16.toInt8.toInt32) = (in_18.toInt8.toInt32)) ∧ v = some (.int 0) ∧ Fr n0 L ∧ h = h0)
set_option maxRecDepth 65536 in
set_option maxHeartbeats 40000000 in
theorem own_rm49 (l : Launch) (Z : State) (a0 : Array Value) (hw : ∀ d ∈ tables_1, d.before a0 Z = true) (ws : List Jvm.Cond) (ob_2110 : Nat) (ob_2539 : Nat) (in_6 : Int32) (ob_2111 : Nat) (ob_2540 : Nat) (kk_2112 : ClassId) (in_16 : Int32) (in_17 : Int32) (kk_2541 : ClassId) (in_18 : Int32) (in_19 : Int32) (h0 : Heap) (n0 : Nat) (Z0 : n0 ≤ h0.size) (O0 : Old Z n0 h0) (I2645 : @Ne Nat ob_2110 ob_2539) (I2650 : Exa Z h0 ob_2539 "java/lang/String") (I2655 : Sta Z Z.heap "java/lang/String" "COMPACT_STRINGS" "Z" (.int in_6)) (I2661 : ¬ (in_6 = 0)) (I2662 : Fld Z h0 ob_2110 "java/lang/String" "coder" "B" (.int 0)) (I2667 : Fld Z h0 ob_2539 "java/lang/String" "coder" "B" (.int 0)) (I2672 : Fld Z h0 ob_2110 "java/lang/String" "value" "[B" (.ref ob_2111)) (I2677 : Fld Z h0 ob_2539 "java/lang/String" "value" "[B" (.ref ob_2540)) (I2682 : Arv Z h0 ob_2111 kk_2112 .byte 2 [(.int (in_16.toInt8.toInt32)), (.int (in_17.toInt8.toInt32))] (.int 0)) (I2683 : Arv Z h0 ob_2540 kk_2541 .byte 2 [(.int (in_18.toInt8.toInt32)), (.int (in_19.toInt8.toInt32))] (.int 0)) :
    own_Met l Z h0 (⟨"java/lang/String", "equals", "(Ljava/lang/Object;)Z"⟩ : MethodName) jdk_42_method_66_code 3 (Option.some FieldType.boolean) ws ({ frames := 1, cells := 0, slots := 0, locals := 14 } : Room) #[(.ref ob_2110), (.ref ob_2539)] (own_Q49 Z ob_2110 ob_2539 in_6 ob_2111 ob_2540 kk_2112 in_16 in_17 kk_2541 in_18 in_19 h0 n0) 0 0 := by
  refine MetFree.of_bodySF own_pn6 hisR ?_
  intro p e s m args below meth c s₁ Bd hml0 hP hK
  obtain ⟨rfl, hZ, hh⟩ := hP
  have hx := Bd.exec
  have hby := Bd.bytes
  have hml : c.maxLocals = 3 := hml0
  have hown : s.vm.findClass "java/lang/String" = some m.cls := findClass_of_methodNamed Bd.named
  have hnm := (name_of_methodNamed Bd.named Bd.method).1
  have X0 : Stand p l e ({ frames := 1, cells := 0, slots := 0, locals := 14 } : Room) s m #[(.ref ob_2110), (.ref ob_2539)] below meth c s₁ [] 0 0 := Stand.of_body Bd
  have e0 : s₁.heap = h0 := by rw [← hh, Bd.state]; rfl
  have N0 := Fr.nil n0
  show own_G p e below (s₁.setTop (entryFrame m #[(.ref ob_2110), (.ref ob_2539)] 3)) (own_P s (own_Q49 Z ob_2110 ob_2539 in_6 ob_2111 ob_2540 kk_2112 in_16 in_17 kk_2541 in_18 in_19 h0 n0) 0 0)
  refine own_cast (own_ef6 m ob_2110 ob_2539) ?_
  show own_G p e below (s₁.setTop (mkF m 0 #[rv ob_2110, rv ob_2539, .unset] [])) _
  refine oS (fun _ => XS.aloadN X0.here hx rfl (hb hby dd6_0) rfl rfl) ?_
  refine oS (fun _ => XS.aloadN X0.here hx rfl (hb hby dd6_1) rfl rfl) ?_
  refine oS (fun _ => XT.acmpYes X0.here hx rfl (pc0 := 2) (pc' := 7) rfl (hb hby dd6_2) rfl rfl rfl (XT.aa_ne_t (own_rne I2645)) (by decide) (by decide)) ?_
  show own_G p e below (s₁.setTop (mkF m 7 #[rv ob_2110, rv ob_2539, .unset] [])) _
  refine oS (fun _ => XS.aloadN X0.here hx rfl (hb hby dd6_7) rfl rfl) ?_
  obtain ⟨T2646, X2647, e2648, s2649⟩ := instY X0 hx hZ hown (oW hw 66 rfl) e0 (Ins.self I2650) (g := (mkF m 8 #[rv ob_2110, rv ob_2539, .unset] [(.ref ob_2539)])) rfl rfl (hb hby dd6_8)
  refine oS s2649 ?_
  show own_G p e below (T2646.setTop (mkF m 11 #[rv ob_2110, rv ob_2539, .unset] [(.int 1)])) _
  refine oS (fun _ => XS.ifNo X2647.here hx rfl (hb hby dd6_11) rfl (XT.i0_eq_f (by decide))) ?_
  show own_G p e below (T2646.setTop (mkF m 14 #[rv ob_2110, rv ob_2539, .unset] [])) _
  refine oS (fun _ => XS.aloadN X2647.here hx rfl (hb hby dd6_14) rfl rfl) ?_
  obtain ⟨T2651, X2652, e2653, s2654⟩ := castY X2647 hx hZ hown (oW hw 66 rfl) e2648 (Ins.self I2650) (g := (mkF m 15 #[rv ob_2110, rv ob_2539, .unset] [(.ref ob_2539)])) rfl rfl (hb hby dd6_15)
  refine oS s2654 ?_
  show own_G p e below (T2651.setTop (mkF m 18 #[rv ob_2110, rv ob_2539, .unset] [(.ref ob_2539)])) _
  refine oS (fun _ => XS.astoreN X2652.here hx rfl (hb hby dd6_18) rfl rfl (l' := #[rv ob_2110, rv ob_2539, rv ob_2539]) rfl) ?_
  have F2656 : Sta Z h0 "java/lang/String" "COMPACT_STRINGS" "Z" (.int in_6) := Sta.ext O0.2 I2655
  obtain ⟨T2657, X2658, e2659, s2660⟩ := getS X2652 hx hZ hown (host := "") (oW hw 67 rfl) Via.refl e2653 F2656 (g := (mkF m 19 #[rv ob_2110, rv ob_2539, rv ob_2539] [])) rfl (hb hby dd6_19)
  refine oS s2660 ?_
  show own_G p e below (T2657.setTop (mkF m 22 #[rv ob_2110, rv ob_2539, rv ob_2539] [(.int in_6)])) _
  refine oS (fun _ => XS.ifNo X2658.here hx rfl (hb hby dd6_22) rfl (XT.i0_eq_f I2661)) ?_
  show own_G p e below (T2657.setTop (mkF m 25 #[rv ob_2110, rv ob_2539, rv ob_2539] [])) _
  refine oS (fun _ => XS.aloadN X2658.here hx rfl (hb hby dd6_25) rfl rfl) ?_
  obtain ⟨T2663, X2664, e2665, s2666⟩ := getF X2658 hx hZ hown (host := "") (Or.inl (oW hw 32 rfl)) Via.refl e2659 I2662 (g := (mkF m 26 #[rv ob_2110, rv ob_2539, rv ob_2539] [(.ref ob_2110)])) rfl rfl (hb hby dd6_26)
  refine oS s2666 ?_
  show own_G p e below (T2663.setTop (mkF m 29 #[rv ob_2110, rv ob_2539, rv ob_2539] [(.int 0)])) _
  refine oS (fun _ => XS.aloadN X2664.here hx rfl (hb hby dd6_29) rfl rfl) ?_
  obtain ⟨T2668, X2669, e2670, s2671⟩ := getF X2664 hx hZ hown (host := "") (Or.inl (oW hw 32 rfl)) Via.refl e2665 I2667 (g := (mkF m 30 #[rv ob_2110, rv ob_2539, rv ob_2539] [(.ref ob_2539), (.int 0)])) rfl rfl (hb hby dd6_30)
  refine oS s2671 ?_
  show own_G p e below (T2668.setTop (mkF m 33 #[rv ob_2110, rv ob_2539, rv ob_2539] [(.int 0), (.int 0)])) _
  refine oS (fun _ => XS.icmpNo X2669.here hx rfl (hb hby dd6_33) rfl (XT.ii_ne_f (by decide))) ?_
  show own_G p e below (T2668.setTop (mkF m 36 #[rv ob_2110, rv ob_2539, rv ob_2539] [])) _
  refine oS (fun _ => XS.aloadN X2669.here hx rfl (hb hby dd6_36) rfl rfl) ?_
  obtain ⟨T2673, X2674, e2675, s2676⟩ := getF X2669 hx hZ hown (host := "") (Or.inl (oW hw 31 rfl)) Via.refl e2670 I2672 (g := (mkF m 37 #[rv ob_2110, rv ob_2539, rv ob_2539] [(.ref ob_2110)])) rfl rfl (hb hby dd6_37)
  refine oS s2676 ?_
  show own_G p e below (T2673.setTop (mkF m 40 #[rv ob_2110, rv ob_2539, rv ob_2539] [(.ref ob_2111)])) _
  refine oS (fun _ => XS.aloadN X2674.here hx rfl (hb hby dd6_40) rfl rfl) ?_
  obtain ⟨T2678, X2679, e2680, s2681⟩ := getF X2674 hx hZ hown (host := "") (Or.inl (oW hw 31 rfl)) Via.refl e2675 I2677 (g := (mkF m 41 #[rv ob_2110, rv ob_2539, rv ob_2539] [(.ref ob_2539), (.ref ob_2111)])) rfl rfl (hb hby dd6_41)
  refine oS s2681 ?_
  show own_G p e below (T2678.setTop (mkF m 44 #[rv ob_2110, rv ob_2539, rv ob_2539] [(.ref ob_2540), (.ref ob_2111)])) _
  obtain ⟨T2688, h2689, v2690, L2691, X2692, e2693, q2694, s2695⟩ := own_callS X2679 hx hZ hown e2680 (y := (⟨"java/lang/StringLatin1", "equals", "([B[B)Z"⟩ : MethodName)) (oW hw 68 rfl) (oW hw 69 rfl) (oW hw 70 rfl) (oW hw 71 rfl) (by decide) (W := 0) (own_rm50 l Z a0 hw [] ob_2111 ob_2540 kk_2112 in_16 in_17 kk_2541 in_18 in_19 h0 n0 Z0 O0 I2682 I2683) (by decide) (by decide) (by decide) (by decide) (g := (mkF m 44 #[rv ob_2110, rv ob_2539, rv ob_2539] [(.ref ob_2540), (.ref ob_2111)])) rfl (by rw [hml]; rfl) (argsL := [(.ref ob_2111), (.ref ob_2540)]) (rest := []) rfl (lenOf own_pd5 rfl) rfl (by show 2 * 0 + _ ≤ _; exact Nat.le_of_eq rfl) (hb hby dd6_44)
  refine oS s2695 ?_
  rcases q2694 with ⟨b2696, b2697, rfl, N2698, K2699⟩ | ⟨b2700, b2701, rfl, N2702, K2703⟩ | ⟨b2704, rfl, N2705, K2706⟩
  · skip
    have N2707 := Fr.app N0 N2698
    have e2708 := e2693.trans K2699
    show own_G p e below (T2688.setTop (mkF m 47 #[rv ob_2110, rv ob_2539, rv ob_2539] [(.int 1)])) _
    refine oS (fun _ => XS.ifNo X2692.here hx rfl (hb hby dd6_47) rfl (XT.i0_eq_f (by decide))) ?_
    show own_G p e below (T2688.setTop (mkF m 50 #[rv ob_2110, rv ob_2539, rv ob_2539] [])) _
    refine oS (fun _ => XS.iconst X2692.here hx rfl (hb hby dd6_50) ) ?_
    refine oS (fun _ => XS.goto X2692.here hx rfl (pc0 := 51) (pc' := 55) rfl (hb hby dd6_51) (by decide) (by decide)) ?_
    show own_G p e below (T2688.setTop (mkF m 55 #[rv ob_2110, rv ob_2539, rv ob_2539] [(.int 1)])) _
    exact own_retN X2692 hx (t := .boolean) Bd.notSynchronized Bd.returns (by simp) (hb hby dd6_55) (by decide) e2708 (by decide) (by decide) (Or.inl ⟨b2696, b2697, rfl, N2707, rfl⟩)
  · skip
    have N2709 := Fr.app N0 N2702
    have e2710 := e2693.trans K2703
    show own_G p e below (T2688.setTop (mkF m 47 #[rv ob_2110, rv ob_2539, rv ob_2539] [(.int 0)])) _
    refine oS (fun _ => XS.ifYes X2692.here hx rfl (pc0 := 47) (pc' := 54) rfl (hb hby dd6_47) rfl (XT.i0_eq_t (by decide)) (by decide) (by decide)) ?_
    show own_G p e below (T2688.setTop (mkF m 54 #[rv ob_2110, rv ob_2539, rv ob_2539] [])) _
    refine oS (fun _ => XS.iconst X2692.here hx rfl (hb hby dd6_54) ) ?_
    exact own_retN X2692 hx (t := .boolean) Bd.notSynchronized Bd.returns (by simp) (hb hby dd6_55) (by decide) e2710 (by decide) (by decide) (Or.inr (Or.inl ⟨b2700, b2701, rfl, N2709, rfl⟩))
  · skip
    have N2711 := Fr.app N0 N2705
    have e2712 := e2693.trans K2706
    show own_G p e below (T2688.setTop (mkF m 47 #[rv ob_2110, rv ob_2539, rv ob_2539] [(.int 0)])) _
    refine oS (fun _ => XS.ifYes X2692.here hx rfl (pc0 := 47) (pc' := 54) rfl (hb hby dd6_47) rfl (XT.i0_eq_t (by decide)) (by decide) (by decide)) ?_
    show own_G p e below (T2688.setTop (mkF m 54 #[rv ob_2110, rv ob_2539, rv ob_2539] [])) _
    refine oS (fun _ => XS.iconst X2692.here hx rfl (hb hby dd6_54) ) ?_
    exact own_retN X2692 hx (t := .boolean) Bd.notSynchronized Bd.returns (by simp) (hb hby dd6_55) (by decide) e2712 (by decide) (by decide) (Or.inr (Or.inr (⟨b2704, rfl, N2711, rfl⟩)))
def own_Q48 (Z : State) (ob_2568 : Nat) (ob_2539 : Nat) (ob_9 : Nat) (ob_2110 : Nat) (in_6 : Int32) (ob_2111 : Nat) (ob_2540 : Nat) (kk_2112 : ClassId) (in_16 : Int32) (in_17 : Int32) (kk_2541 : ClassId) (in_18 : Int32) (in_19 : Int32) (h0 : Heap) (n0 : Nat) (v : Option Value) (h : Heap) (L : List Loc) : Prop := (((in_16.toInt8.toInt32) = (in_18.toInt8.toInt32)) ∧ ((in_17.toInt8.toInt32) = (in_19.toInt8.toInt32)) ∧ v = some (.int 1) ∧ Fr n0 L ∧ h = h0) ∨ (((in_16.toInt8.toInt32) = (in_18.toInt8.toInt32)) ∧ ¬ ((in_17.toInt8.toInt32) = (in_19.toInt8.toInt32)) ∧ v = some (.int 0) ∧ Fr n0 L ∧ h = h0) ∨ (¬ ((in_16.toInt8.toInt32) = (in_18.toInt8.toInt32)) ∧ v = some (.int 0) ∧ Fr n0 L ∧ h = h0)
set_option maxRecDepth 65536 in
set_option maxHeartbeats 40000000 in
theorem own_rm48 (l : Launch) (Z : State) (a0 : Array Value) (hw : ∀ d ∈ tables_1, d.before a0 Z = true) (ws : List Jvm.Cond) (ob_2568 : Nat) (ob_2539 : Nat) (ob_9 : Nat) (ob_2110 : Nat) (in_6 : Int32) (ob_2111 : Nat) (ob_2540 : Nat) (kk_2112 : ClassId) (in_16 : Int32) (in_17 : Int32) (kk_2541 : ClassId) (in_18 : Int32) (in_19 : Int32) (h0 : Heap) (n0 : Nat) (Z0 : n0 ≤ h0.size) (O0 : Old Z n0 h0) (I2619 : Fld Z h0 ob_2568 "com/example/latente/latente/query/JpqlLexer$Token" "kind" "Lcom/example/latente/latente/query/JpqlLexer$Kind;" (.ref ob_9)) (I2624 : Sta Z Z.heap "com/example/latente/latente/query/JpqlLexer$Kind" "SYMBOL" "Lcom/example/latente/latente/query/JpqlLexer$Kind;" (.ref ob_9)) (I2630 : Fld Z h0 ob_2568 "com/example/latente/latente/query/JpqlLexer$Token" "text" "Ljava/lang/String;" (.ref ob_2110)) (I2635 : @Ne Nat ob_2110 ob_2539) (I2636 : Exa Z h0 ob_2539 "java/lang/String") (I2637 : Sta Z Z.heap "java/lang/String" "COMPACT_STRINGS" "Z" (.int in_6)) (I2638 : ¬ (in_6 = 0)) (I2639 : Fld Z h0 ob_2110 "java/lang/String" "coder" "B" (.int 0)) (I2640 : Fld Z h0 ob_2539 "java/lang/String" "coder" "B" (.int 0)) (I2641 : Fld Z h0 ob_2110 "java/lang/String" "value" "[B" (.ref ob_2111)) (I2642 : Fld Z h0 ob_2539 "java/lang/String" "value" "[B" (.ref ob_2540)) (I2643 : Arv Z h0 ob_2111 kk_2112 .byte 2 [(.int (in_16.toInt8.toInt32)), (.int (in_17.toInt8.toInt32))] (.int 0)) (I2644 : Arv Z h0 ob_2540 kk_2541 .byte 2 [(.int (in_18.toInt8.toInt32)), (.int (in_19.toInt8.toInt32))] (.int 0)) (I2724 : Exa Z h0 ob_2110 "java/lang/String") :
    own_Met l Z h0 (⟨"com/example/latente/latente/query/JpqlLexer$Token", "isSymbol", "(Ljava/lang/String;)Z"⟩ : MethodName) prog_9_method_3_code 2 (Option.some FieldType.boolean) ws ({ frames := 2, cells := 0, slots := 0, locals := 28 } : Room) #[(.ref ob_2568), (.ref ob_2539)] (own_Q48 Z ob_2568 ob_2539 ob_9 ob_2110 in_6 ob_2111 ob_2540 kk_2112 in_16 in_17 kk_2541 in_18 in_19 h0 n0) 0 0 := by
  refine MetFree.of_bodySF own_pn7 hisR ?_
  intro p e s m args below meth c s₁ Bd hml0 hP hK
  obtain ⟨rfl, hZ, hh⟩ := hP
  have hx := Bd.exec
  have hby := Bd.bytes
  have hml : c.maxLocals = 2 := hml0
  have hown : s.vm.findClass "com/example/latente/latente/query/JpqlLexer$Token" = some m.cls := findClass_of_methodNamed Bd.named
  have hnm := (name_of_methodNamed Bd.named Bd.method).1
  have X0 : Stand p l e ({ frames := 2, cells := 0, slots := 0, locals := 28 } : Room) s m #[(.ref ob_2568), (.ref ob_2539)] below meth c s₁ [] 0 0 := Stand.of_body Bd
  have e0 : s₁.heap = h0 := by rw [← hh, Bd.state]; rfl
  have N0 := Fr.nil n0
  show own_G p e below (s₁.setTop (entryFrame m #[(.ref ob_2568), (.ref ob_2539)] 2)) (own_P s (own_Q48 Z ob_2568 ob_2539 ob_9 ob_2110 in_6 ob_2111 ob_2540 kk_2112 in_16 in_17 kk_2541 in_18 in_19 h0 n0) 0 0)
  refine own_cast (own_ef2 m ob_2568 ob_2539) ?_
  show own_G p e below (s₁.setTop (mkF m 0 #[rv ob_2568, rv ob_2539] [])) _
  refine oS (fun _ => XS.aloadN X0.here hx rfl (hb hby dd5_0) rfl rfl) ?_
  obtain ⟨T2620, X2621, e2622, s2623⟩ := getF X0 hx hZ hown (host := "") (Or.inl (oW hw 45 rfl)) Via.refl e0 I2619 (g := (mkF m 1 #[rv ob_2568, rv ob_2539] [(.ref ob_2568)])) rfl rfl (hb hby dd5_1)
  refine oS s2623 ?_
  show own_G p e below (T2620.setTop (mkF m 4 #[rv ob_2568, rv ob_2539] [(.ref ob_9)])) _
  have F2625 : Sta Z h0 "com/example/latente/latente/query/JpqlLexer$Kind" "SYMBOL" "Lcom/example/latente/latente/query/JpqlLexer$Kind;" (.ref ob_9) := Sta.ext O0.2 I2624
  obtain ⟨T2626, X2627, e2628, s2629⟩ := getS X2621 hx hZ hown (host := "") (oW hw 56 rfl) Via.refl e2622 F2625 (g := (mkF m 4 #[rv ob_2568, rv ob_2539] [(.ref ob_9)])) rfl (hb hby dd5_4)
  refine oS s2629 ?_
  show own_G p e below (T2626.setTop (mkF m 7 #[rv ob_2568, rv ob_2539] [(.ref ob_9), (.ref ob_9)])) _
  refine oS (fun _ => XT.acmpNo X2627.here hx rfl (hb hby dd5_7) rfl rfl rfl (XT.aa_ne_f rfl)) ?_
  show own_G p e below (T2626.setTop (mkF m 10 #[rv ob_2568, rv ob_2539] [])) _
  refine oS (fun _ => XS.aloadN X2627.here hx rfl (hb hby dd5_10) rfl rfl) ?_
  obtain ⟨T2631, X2632, e2633, s2634⟩ := getF X2627 hx hZ hown (host := "") (Or.inl (oW hw 47 rfl)) Via.refl e2628 I2630 (g := (mkF m 11 #[rv ob_2568, rv ob_2539] [(.ref ob_2568)])) rfl rfl (hb hby dd5_11)
  refine oS s2634 ?_
  show own_G p e below (T2631.setTop (mkF m 14 #[rv ob_2568, rv ob_2539] [(.ref ob_2110)])) _
  refine oS (fun _ => XS.aloadN X2632.here hx rfl (hb hby dd5_14) rfl rfl) ?_
  obtain ⟨T2713, h2714, v2715, L2716, X2717, e2718, q2719, s2720⟩ := own_callV X2632 hx hZ hown e2633 (y := (⟨"java/lang/String", "equals", "(Ljava/lang/Object;)Z"⟩ : MethodName)) (z := (⟨"java/lang/String", "equals", "(Ljava/lang/Object;)Z"⟩ : MethodName)) (C := "java/lang/String") (b := ob_2110) (oW hw 61 rfl) (oW hw 62 rfl) (notFace_of_selects (args := #[]) (mvT hZ (oW hw 64 rfl))) (oW hw 64 rfl) (oW hw 63 rfl) (oW hw 13 rfl) (oW hw 65 rfl) (by decide) I2724 (W := 0) (own_rm49 l Z a0 hw [] ob_2110 ob_2539 in_6 ob_2111 ob_2540 kk_2112 in_16 in_17 kk_2541 in_18 in_19 h0 n0 Z0 O0 I2635 I2636 I2637 I2638 I2639 I2640 I2641 I2642 I2643 I2644) (by decide) (by decide) (by decide) (by decide) (g := (mkF m 15 #[rv ob_2568, rv ob_2539] [(.ref ob_2539), (.ref ob_2110)])) rfl (by rw [hml]; rfl) (argsL := [(.ref ob_2539)]) (rest := []) rfl (lenOf own_pd6 rfl) rfl (by show 2 * 0 + _ ≤ _; exact Nat.le_of_eq rfl) (hb hby dd5_15)
  refine oS s2720 ?_
  rcases q2719 with ⟨b2725, b2726, rfl, N2727, K2728⟩ | ⟨b2729, b2730, rfl, N2731, K2732⟩ | ⟨b2733, rfl, N2734, K2735⟩
  · skip
    have N2736 := Fr.app N0 N2727
    have e2737 := e2718.trans K2728
    show own_G p e below (T2713.setTop (mkF m 18 #[rv ob_2568, rv ob_2539] [(.int 1)])) _
    refine oS (fun _ => XS.ifNo X2717.here hx rfl (hb hby dd5_18) rfl (XT.i0_eq_f (by decide))) ?_
    show own_G p e below (T2713.setTop (mkF m 21 #[rv ob_2568, rv ob_2539] [])) _
    refine oS (fun _ => XS.iconst X2717.here hx rfl (hb hby dd5_21) ) ?_
    refine oS (fun _ => XS.goto X2717.here hx rfl (pc0 := 22) (pc' := 26) rfl (hb hby dd5_22) (by decide) (by decide)) ?_
    show own_G p e below (T2713.setTop (mkF m 26 #[rv ob_2568, rv ob_2539] [(.int 1)])) _
    exact own_retN X2717 hx (t := .boolean) Bd.notSynchronized Bd.returns (by simp) (hb hby dd5_26) (by decide) e2737 (by decide) (by decide) (Or.inl ⟨b2725, b2726, rfl, N2736, rfl⟩)
  · skip
    have N2738 := Fr.app N0 N2731
    have e2739 := e2718.trans K2732
    show own_G p e below (T2713.setTop (mkF m 18 #[rv ob_2568, rv ob_2539] [(.int 0)])) _
    refine oS (fun _ => XS.ifYes X2717.here hx rfl (pc0 := 18) (pc' := 25) rfl (hb hby dd5_18) rfl (XT.i0_eq_t (by decide)) (by decide) (by decide)) ?_
    show own_G p e below (T2713.setTop (mkF m 25 #[rv ob_2568, rv ob_2539] [])) _
    refine oS (fun _ => XS.iconst X2717.here hx rfl (hb hby dd5_25) ) ?_
    exact own_retN X2717 hx (t := .boolean) Bd.notSynchronized Bd.returns (by simp) (hb hby dd5_26) (by decide) e2739 (by decide) (by decide) (Or.inr (Or.inl ⟨b2729, b2730, rfl, N2738, rfl⟩))
  · skip
    have N2740 := Fr.app N0 N2734
    have e2741 := e2718.trans K2735
    show own_G p e below (T2713.setTop (mkF m 18 #[rv ob_2568, rv ob_2539] [(.int 0)])) _
    refine oS (fun _ => XS.ifYes X2717.here hx rfl (pc0 := 18) (pc' := 25) rfl (hb hby dd5_18) rfl (XT.i0_eq_t (by decide)) (by decide) (by decide)) ?_
    show own_G p e below (T2713.setTop (mkF m 25 #[rv ob_2568, rv ob_2539] [])) _
    refine oS (fun _ => XS.iconst X2717.here hx rfl (hb hby dd5_25) ) ?_
    exact own_retN X2717 hx (t := .boolean) Bd.notSynchronized Bd.returns (by simp) (hb hby dd5_26) (by decide) e2741 (by decide) (by decide) (Or.inr (Or.inr (⟨b2733, rfl, N2740, rfl⟩)))
def own_Q51 (Z : State) (ob_2869 : Nat) (ob_2844 : Nat) (ob_2779 : Nat) (ob_9 : Nat) (h0 : Heap) (n0 : Nat) (v : Option Value) (h : Heap) (L : List Loc) : Prop := (v = some (.int 0) ∧ Fr n0 L ∧ h = h0)
set_option maxRecDepth 65536 in
set_option maxHeartbeats 40000000 in
theorem own_rm51 (l : Launch) (Z : State) (a0 : Array Value) (hw : ∀ d ∈ tables_1, d.before a0 Z = true) (ws : List Jvm.Cond) (ob_2869 : Nat) (ob_2844 : Nat) (ob_2779 : Nat) (ob_9 : Nat) (h0 : Heap) (n0 : Nat) (Z0 : n0 ≤ h0.size) (O0 : Old Z n0 h0) (I2898 : Fld Z h0 ob_2869 "com/example/latente/latente/query/JpqlLexer$Token" "kind" "Lcom/example/latente/latente/query/JpqlLexer$Kind;" (.ref ob_2779)) (I2903 : Sta Z Z.heap "com/example/latente/latente/query/JpqlLexer$Kind" "SYMBOL" "Lcom/example/latente/latente/query/JpqlLexer$Kind;" (.ref ob_9)) (I2909 : @Ne Nat ob_2779 ob_9) :
    own_Met l Z h0 (⟨"com/example/latente/latente/query/JpqlLexer$Token", "isSymbol", "(Ljava/lang/String;)Z"⟩ : MethodName) prog_9_method_3_code 2 (Option.some FieldType.boolean) ws ({ frames := 0, cells := 0, slots := 0, locals := 0 } : Room) #[(.ref ob_2869), (.ref ob_2844)] (own_Q51 Z ob_2869 ob_2844 ob_2779 ob_9 h0 n0) 0 0 := by
  refine MetFree.of_bodySF own_pn7 hisR ?_
  intro p e s m args below meth c s₁ Bd hml0 hP hK
  obtain ⟨rfl, hZ, hh⟩ := hP
  have hx := Bd.exec
  have hby := Bd.bytes
  have hml : c.maxLocals = 2 := hml0
  have hown : s.vm.findClass "com/example/latente/latente/query/JpqlLexer$Token" = some m.cls := findClass_of_methodNamed Bd.named
  have hnm := (name_of_methodNamed Bd.named Bd.method).1
  have X0 : Stand p l e ({ frames := 0, cells := 0, slots := 0, locals := 0 } : Room) s m #[(.ref ob_2869), (.ref ob_2844)] below meth c s₁ [] 0 0 := Stand.of_body Bd
  have e0 : s₁.heap = h0 := by rw [← hh, Bd.state]; rfl
  have N0 := Fr.nil n0
  show own_G p e below (s₁.setTop (entryFrame m #[(.ref ob_2869), (.ref ob_2844)] 2)) (own_P s (own_Q51 Z ob_2869 ob_2844 ob_2779 ob_9 h0 n0) 0 0)
  refine own_cast (own_ef2 m ob_2869 ob_2844) ?_
  show own_G p e below (s₁.setTop (mkF m 0 #[rv ob_2869, rv ob_2844] [])) _
  refine oS (fun _ => XS.aloadN X0.here hx rfl (hb hby dd5_0) rfl rfl) ?_
  obtain ⟨T2899, X2900, e2901, s2902⟩ := getF X0 hx hZ hown (host := "") (Or.inl (oW hw 45 rfl)) Via.refl e0 I2898 (g := (mkF m 1 #[rv ob_2869, rv ob_2844] [(.ref ob_2869)])) rfl rfl (hb hby dd5_1)
  refine oS s2902 ?_
  show own_G p e below (T2899.setTop (mkF m 4 #[rv ob_2869, rv ob_2844] [(.ref ob_2779)])) _
  have F2904 : Sta Z h0 "com/example/latente/latente/query/JpqlLexer$Kind" "SYMBOL" "Lcom/example/latente/latente/query/JpqlLexer$Kind;" (.ref ob_9) := Sta.ext O0.2 I2903
  obtain ⟨T2905, X2906, e2907, s2908⟩ := getS X2900 hx hZ hown (host := "") (oW hw 56 rfl) Via.refl e2901 F2904 (g := (mkF m 4 #[rv ob_2869, rv ob_2844] [(.ref ob_2779)])) rfl (hb hby dd5_4)
  refine oS s2908 ?_
  show own_G p e below (T2905.setTop (mkF m 7 #[rv ob_2869, rv ob_2844] [(.ref ob_9), (.ref ob_2779)])) _
  refine oS (fun _ => XT.acmpYes X2906.here hx rfl (pc0 := 7) (pc' := 25) rfl (hb hby dd5_7) rfl rfl rfl (XT.aa_ne_t (own_rne I2909)) (by decide) (by decide)) ?_
  show own_G p e below (T2905.setTop (mkF m 25 #[rv ob_2869, rv ob_2844] [])) _
  refine oS (fun _ => XS.iconst X2906.here hx rfl (hb hby dd5_25) ) ?_
  exact own_retN X2906 hx (t := .boolean) Bd.notSynchronized Bd.returns (by simp) (hb hby dd5_26) (by decide) e2907 (by decide) (by decide) (⟨rfl, N0, rfl⟩)
theorem dd15_0 : decode method_2_code 0 = .ok (.iload_n 0, 1) := by decide +kernel
theorem dd15_1 : decode method_2_code 1 = .ok (.ifCond .ne 7, 3) := by decide +kernel
theorem dd15_4 : decode method_2_code 4 = .ok (.getstatic 7, 3) := by decide +kernel
theorem dd15_7 : decode method_2_code 7 = .ok (.areturn, 1) := by decide +kernel
def own_Q52 (Z : State) (ob_8 : Nat) (h0 : Heap) (n0 : Nat) (v : Option Value) (h : Heap) (L : List Loc) : Prop := (v = some (.ref ob_8) ∧ Fr n0 L ∧ h = h0)
theorem own_pn15 : plainFor (⟨"com/example/latente/latente/query/TokenIsSymbolPinLaw", "kindOf", "(I)Lcom/example/latente/latente/query/JpqlLexer$Kind;"⟩ : MethodName) = true := by decide +kernel
set_option maxRecDepth 65536 in
set_option maxHeartbeats 40000000 in
theorem own_rm52 (l : Launch) (Z : State) (a0 : Array Value) (hw : ∀ d ∈ tables_1, d.before a0 Z = true) (ws : List Jvm.Cond) (ob_8 : Nat) (h0 : Heap) (n0 : Nat) (Z0 : n0 ≤ h0.size) (O0 : Old Z n0 h0) (I3679 : Sta Z Z.heap "com/example/latente/latente/query/JpqlLexer$Kind" "IDENTIFIER" "Lcom/example/latente/latente/query/JpqlLexer$Kind;" (.ref ob_8)) :
    own_Met l Z h0 (⟨"com/example/latente/latente/query/TokenIsSymbolPinLaw", "kindOf", "(I)Lcom/example/latente/latente/query/JpqlLexer$Kind;"⟩ : MethodName) method_2_code 1 (Option.some (FieldType.object "com/example/latente/latente/query/JpqlLexer$Kind")) ws ({ frames := 0, cells := 0, slots := 0, locals := 0 } : Room) #[(.int 0)] (own_Q52 Z ob_8 h0 n0) 0 0 := by
  refine MetFree.of_bodySF own_pn15 hisR ?_
  intro p e s m args below meth c s₁ Bd hml0 hP hK
  obtain ⟨rfl, hZ, hh⟩ := hP
  have hx := Bd.exec
  have hby := Bd.bytes
  have hml : c.maxLocals = 1 := hml0
  have hown : s.vm.findClass "com/example/latente/latente/query/TokenIsSymbolPinLaw" = some m.cls := findClass_of_methodNamed Bd.named
  have hnm := (name_of_methodNamed Bd.named Bd.method).1
  have X0 : Stand p l e ({ frames := 0, cells := 0, slots := 0, locals := 0 } : Room) s m #[(.int 0)] below meth c s₁ [] 0 0 := Stand.of_body Bd
  have e0 : s₁.heap = h0 := by rw [← hh, Bd.state]; rfl
  have N0 := Fr.nil n0
  show own_G p e below (s₁.setTop (entryFrame m #[(.int 0)] 1)) (own_P s (own_Q52 Z ob_8 h0 n0) 0 0)
  refine own_cast (own_ef7 m 0) ?_
  show own_G p e below (s₁.setTop (mkF m 0 #[iv 0] [])) _
  refine oS (fun _ => XS.iloadN X0.here hx rfl (hb hby dd15_0) rfl) ?_
  refine oS (fun _ => XS.ifNo X0.here hx rfl (hb hby dd15_1) rfl (XT.i0_ne_f (by decide))) ?_
  show own_G p e below (s₁.setTop (mkF m 4 #[iv 0] [])) _
  have F3680 : Sta Z h0 "com/example/latente/latente/query/JpqlLexer$Kind" "IDENTIFIER" "Lcom/example/latente/latente/query/JpqlLexer$Kind;" (.ref ob_8) := Sta.ext O0.2 I3679
  obtain ⟨T3681, X3682, e3683, s3684⟩ := getS X0 hx hZ hown (host := "") (oW hw 5 rfl) Via.refl e0 F3680 (g := (mkF m 4 #[iv 0] [])) rfl (hb hby dd15_4)
  refine oS s3684 ?_
  show own_G p e below (T3681.setTop (mkF m 7 #[iv 0] [(.ref ob_8)])) _
  exact own_retA X3682 hx Bd.notSynchronized Bd.returns rfl rfl (hb hby dd15_7) e3683 (by decide) (by decide) (⟨rfl, N0, rfl⟩)
theorem own_pd15 : parseMethodDescriptor "(I)Lcom/example/latente/latente/query/JpqlLexer$Kind;" = some ⟨[.int], (some (.object "com/example/latente/latente/query/JpqlLexer$Kind"))⟩ := by decide +kernel
theorem dd15_8 : decode method_2_code 8 = .ok (.iload_n 0, 1) := by decide +kernel
theorem dd15_9 : decode method_2_code 9 = .ok (.iconst 1, 1) := by decide +kernel
theorem dd15_10 : decode method_2_code 10 = .ok (.if_icmp .ne 7, 3) := by decide +kernel
theorem dd15_13 : decode method_2_code 13 = .ok (.getstatic 13, 3) := by decide +kernel
theorem dd15_16 : decode method_2_code 16 = .ok (.areturn, 1) := by decide +kernel
def own_Q53 (Z : State) (ob_11 : Nat) (h0 : Heap) (n0 : Nat) (v : Option Value) (h : Heap) (L : List Loc) : Prop := (v = some (.ref ob_11) ∧ Fr n0 L ∧ h = h0)
set_option maxRecDepth 65536 in
set_option maxHeartbeats 40000000 in
theorem own_rm53 (l : Launch) (Z : State) (a0 : Array Value) (hw : ∀ d ∈ tables_1, d.before a0 Z = true) (ws : List Jvm.Cond) (ob_11 : Nat) (h0 : Heap) (n0 : Nat) (Z0 : n0 ≤ h0.size) (O0 : Old Z n0 h0) (I3704 : Sta Z Z.heap "com/example/latente/latente/query/JpqlLexer$Kind" "STRING" "Lcom/example/latente/latente/query/JpqlLexer$Kind;" (.ref ob_11)) :
    own_Met l Z h0 (⟨"com/example/latente/latente/query/TokenIsSymbolPinLaw", "kindOf", "(I)Lcom/example/latente/latente/query/JpqlLexer$Kind;"⟩ : MethodName) method_2_code 1 (Option.some (FieldType.object "com/example/latente/latente/query/JpqlLexer$Kind")) ws ({ frames := 0, cells := 0, slots := 0, locals := 0 } : Room) #[(.int 1)] (own_Q53 Z ob_11 h0 n0) 0 0 := by
  refine MetFree.of_bodySF own_pn15 hisR ?_
  intro p e s m args below meth c s₁ Bd hml0 hP hK
  obtain ⟨rfl, hZ, hh⟩ := hP
  have hx := Bd.exec
  have hby := Bd.bytes
  have hml : c.maxLocals = 1 := hml0
  have hown : s.vm.findClass "com/example/latente/latente/query/TokenIsSymbolPinLaw" = some m.cls := findClass_of_methodNamed Bd.named
  have hnm := (name_of_methodNamed Bd.named Bd.method).1
  have X0 : Stand p l e ({ frames := 0, cells := 0, slots := 0, locals := 0 } : Room) s m #[(.int 1)] below meth c s₁ [] 0 0 := Stand.of_body Bd
  have e0 : s₁.heap = h0 := by rw [← hh, Bd.state]; rfl
  have N0 := Fr.nil n0
  show own_G p e below (s₁.setTop (entryFrame m #[(.int 1)] 1)) (own_P s (own_Q53 Z ob_11 h0 n0) 0 0)
  refine own_cast (own_ef7 m 1) ?_
  show own_G p e below (s₁.setTop (mkF m 0 #[iv 1] [])) _
  refine oS (fun _ => XS.iloadN X0.here hx rfl (hb hby dd15_0) rfl) ?_
  refine oS (fun _ => XS.ifYes X0.here hx rfl (pc0 := 1) (pc' := 8) rfl (hb hby dd15_1) rfl (XT.i0_ne_t (by decide)) (by decide) (by decide)) ?_
  show own_G p e below (s₁.setTop (mkF m 8 #[iv 1] [])) _
  refine oS (fun _ => XS.iloadN X0.here hx rfl (hb hby dd15_8) rfl) ?_
  refine oS (fun _ => XS.iconst X0.here hx rfl (hb hby dd15_9) ) ?_
  refine oS (fun _ => XS.icmpNo X0.here hx rfl (hb hby dd15_10) rfl (XT.ii_ne_f (by decide))) ?_
  show own_G p e below (s₁.setTop (mkF m 13 #[iv 1] [])) _
  have F3705 : Sta Z h0 "com/example/latente/latente/query/JpqlLexer$Kind" "STRING" "Lcom/example/latente/latente/query/JpqlLexer$Kind;" (.ref ob_11) := Sta.ext O0.2 I3704
  obtain ⟨T3706, X3707, e3708, s3709⟩ := getS X0 hx hZ hown (host := "") (oW hw 84 rfl) Via.refl e0 F3705 (g := (mkF m 13 #[iv 1] [])) rfl (hb hby dd15_13)
  refine oS s3709 ?_
  show own_G p e below (T3706.setTop (mkF m 16 #[iv 1] [(.ref ob_11)])) _
  exact own_retA X3707 hx Bd.notSynchronized Bd.returns rfl rfl (hb hby dd15_16) e3708 (by decide) (by decide) (⟨rfl, N0, rfl⟩)
theorem dd15_17 : decode method_2_code 17 = .ok (.iload_n 0, 1) := by decide +kernel
theorem dd15_18 : decode method_2_code 18 = .ok (.iconst 2, 1) := by decide +kernel
theorem dd15_19 : decode method_2_code 19 = .ok (.if_icmp .ne 7, 3) := by decide +kernel
theorem dd15_22 : decode method_2_code 22 = .ok (.getstatic 16, 3) := by decide +kernel
theorem dd15_25 : decode method_2_code 25 = .ok (.areturn, 1) := by decide +kernel
def own_Q54 (Z : State) (ob_13 : Nat) (h0 : Heap) (n0 : Nat) (v : Option Value) (h : Heap) (L : List Loc) : Prop := (v = some (.ref ob_13) ∧ Fr n0 L ∧ h = h0)
set_option maxRecDepth 65536 in
set_option maxHeartbeats 40000000 in
theorem own_rm54 (l : Launch) (Z : State) (a0 : Array Value) (hw : ∀ d ∈ tables_1, d.before a0 Z = true) (ws : List Jvm.Cond) (ob_13 : Nat) (h0 : Heap) (n0 : Nat) (Z0 : n0 ≤ h0.size) (O0 : Old Z n0 h0) (I3728 : Sta Z Z.heap "com/example/latente/latente/query/JpqlLexer$Kind" "NUMBER" "Lcom/example/latente/latente/query/JpqlLexer$Kind;" (.ref ob_13)) :
    own_Met l Z h0 (⟨"com/example/latente/latente/query/TokenIsSymbolPinLaw", "kindOf", "(I)Lcom/example/latente/latente/query/JpqlLexer$Kind;"⟩ : MethodName) method_2_code 1 (Option.some (FieldType.object "com/example/latente/latente/query/JpqlLexer$Kind")) ws ({ frames := 0, cells := 0, slots := 0, locals := 0 } : Room) #[(.int 2)] (own_Q54 Z ob_13 h0 n0) 0 0 := by
  refine MetFree.of_bodySF own_pn15 hisR ?_
  intro p e s m args below meth c s₁ Bd hml0 hP hK
  obtain ⟨rfl, hZ, hh⟩ := hP
  have hx := Bd.exec
  have hby := Bd.bytes
  have hml : c.maxLocals = 1 := hml0
  have hown : s.vm.findClass "com/example/latente/latente/query/TokenIsSymbolPinLaw" = some m.cls := findClass_of_methodNamed Bd.named
  have hnm := (name_of_methodNamed Bd.named Bd.method).1
  have X0 : Stand p l e ({ frames := 0, cells := 0, slots := 0, locals := 0 } : Room) s m #[(.int 2)] below meth c s₁ [] 0 0 := Stand.of_body Bd
  have e0 : s₁.heap = h0 := by rw [← hh, Bd.state]; rfl
  have N0 := Fr.nil n0
  show own_G p e below (s₁.setTop (entryFrame m #[(.int 2)] 1)) (own_P s (own_Q54 Z ob_13 h0 n0) 0 0)
  refine own_cast (own_ef7 m 2) ?_
  show own_G p e below (s₁.setTop (mkF m 0 #[iv 2] [])) _
  refine oS (fun _ => XS.iloadN X0.here hx rfl (hb hby dd15_0) rfl) ?_
  refine oS (fun _ => XS.ifYes X0.here hx rfl (pc0 := 1) (pc' := 8) rfl (hb hby dd15_1) rfl (XT.i0_ne_t (by decide)) (by decide) (by decide)) ?_
  show own_G p e below (s₁.setTop (mkF m 8 #[iv 2] [])) _
  refine oS (fun _ => XS.iloadN X0.here hx rfl (hb hby dd15_8) rfl) ?_
  refine oS (fun _ => XS.iconst X0.here hx rfl (hb hby dd15_9) ) ?_
  refine oS (fun _ => XS.icmpYes X0.here hx rfl (pc0 := 10) (pc' := 17) rfl (hb hby dd15_10) rfl (XT.ii_ne_t (by decide)) (by decide) (by decide)) ?_
  show own_G p e below (s₁.setTop (mkF m 17 #[iv 2] [])) _
  refine oS (fun _ => XS.iloadN X0.here hx rfl (hb hby dd15_17) rfl) ?_
  refine oS (fun _ => XS.iconst X0.here hx rfl (hb hby dd15_18) ) ?_
  refine oS (fun _ => XS.icmpNo X0.here hx rfl (hb hby dd15_19) rfl (XT.ii_ne_f (by decide))) ?_
  show own_G p e below (s₁.setTop (mkF m 22 #[iv 2] [])) _
  have F3729 : Sta Z h0 "com/example/latente/latente/query/JpqlLexer$Kind" "NUMBER" "Lcom/example/latente/latente/query/JpqlLexer$Kind;" (.ref ob_13) := Sta.ext O0.2 I3728
  obtain ⟨T3730, X3731, e3732, s3733⟩ := getS X0 hx hZ hown (host := "") (oW hw 98 rfl) Via.refl e0 F3729 (g := (mkF m 22 #[iv 2] [])) rfl (hb hby dd15_22)
  refine oS s3733 ?_
  show own_G p e below (T3730.setTop (mkF m 25 #[iv 2] [(.ref ob_13)])) _
  exact own_retA X3731 hx Bd.notSynchronized Bd.returns rfl rfl (hb hby dd15_25) e3732 (by decide) (by decide) (⟨rfl, N0, rfl⟩)
theorem dd15_26 : decode method_2_code 26 = .ok (.iload_n 0, 1) := by decide +kernel
theorem dd15_27 : decode method_2_code 27 = .ok (.iconst 3, 1) := by decide +kernel
theorem dd15_28 : decode method_2_code 28 = .ok (.if_icmp .ne 7, 3) := by decide +kernel
theorem dd15_31 : decode method_2_code 31 = .ok (.getstatic 19, 3) := by decide +kernel
theorem dd15_34 : decode method_2_code 34 = .ok (.areturn, 1) := by decide +kernel
def own_Q55 (Z : State) (ob_10 : Nat) (h0 : Heap) (n0 : Nat) (v : Option Value) (h : Heap) (L : List Loc) : Prop := (v = some (.ref ob_10) ∧ Fr n0 L ∧ h = h0)
set_option maxRecDepth 65536 in
set_option maxHeartbeats 40000000 in
theorem own_rm55 (l : Launch) (Z : State) (a0 : Array Value) (hw : ∀ d ∈ tables_1, d.before a0 Z = true) (ws : List Jvm.Cond) (ob_10 : Nat) (h0 : Heap) (n0 : Nat) (Z0 : n0 ≤ h0.size) (O0 : Old Z n0 h0) (I3752 : Sta Z Z.heap "com/example/latente/latente/query/JpqlLexer$Kind" "NAMED_PARAMETER" "Lcom/example/latente/latente/query/JpqlLexer$Kind;" (.ref ob_10)) :
    own_Met l Z h0 (⟨"com/example/latente/latente/query/TokenIsSymbolPinLaw", "kindOf", "(I)Lcom/example/latente/latente/query/JpqlLexer$Kind;"⟩ : MethodName) method_2_code 1 (Option.some (FieldType.object "com/example/latente/latente/query/JpqlLexer$Kind")) ws ({ frames := 0, cells := 0, slots := 0, locals := 0 } : Room) #[(.int 3)] (own_Q55 Z ob_10 h0 n0) 0 0 := by
  refine MetFree.of_bodySF own_pn15 hisR ?_
  intro p e s m args below meth c s₁ Bd hml0 hP hK
  obtain ⟨rfl, hZ, hh⟩ := hP
  have hx := Bd.exec
  have hby := Bd.bytes
  have hml : c.maxLocals = 1 := hml0
  have hown : s.vm.findClass "com/example/latente/latente/query/TokenIsSymbolPinLaw" = some m.cls := findClass_of_methodNamed Bd.named
  have hnm := (name_of_methodNamed Bd.named Bd.method).1
  have X0 : Stand p l e ({ frames := 0, cells := 0, slots := 0, locals := 0 } : Room) s m #[(.int 3)] below meth c s₁ [] 0 0 := Stand.of_body Bd
  have e0 : s₁.heap = h0 := by rw [← hh, Bd.state]; rfl
  have N0 := Fr.nil n0
  show own_G p e below (s₁.setTop (entryFrame m #[(.int 3)] 1)) (own_P s (own_Q55 Z ob_10 h0 n0) 0 0)
  refine own_cast (own_ef7 m 3) ?_
  show own_G p e below (s₁.setTop (mkF m 0 #[iv 3] [])) _
  refine oS (fun _ => XS.iloadN X0.here hx rfl (hb hby dd15_0) rfl) ?_
  refine oS (fun _ => XS.ifYes X0.here hx rfl (pc0 := 1) (pc' := 8) rfl (hb hby dd15_1) rfl (XT.i0_ne_t (by decide)) (by decide) (by decide)) ?_
  show own_G p e below (s₁.setTop (mkF m 8 #[iv 3] [])) _
  refine oS (fun _ => XS.iloadN X0.here hx rfl (hb hby dd15_8) rfl) ?_
  refine oS (fun _ => XS.iconst X0.here hx rfl (hb hby dd15_9) ) ?_
  refine oS (fun _ => XS.icmpYes X0.here hx rfl (pc0 := 10) (pc' := 17) rfl (hb hby dd15_10) rfl (XT.ii_ne_t (by decide)) (by decide) (by decide)) ?_
  show own_G p e below (s₁.setTop (mkF m 17 #[iv 3] [])) _
  refine oS (fun _ => XS.iloadN X0.here hx rfl (hb hby dd15_17) rfl) ?_
  refine oS (fun _ => XS.iconst X0.here hx rfl (hb hby dd15_18) ) ?_
  refine oS (fun _ => XS.icmpYes X0.here hx rfl (pc0 := 19) (pc' := 26) rfl (hb hby dd15_19) rfl (XT.ii_ne_t (by decide)) (by decide) (by decide)) ?_
  show own_G p e below (s₁.setTop (mkF m 26 #[iv 3] [])) _
  refine oS (fun _ => XS.iloadN X0.here hx rfl (hb hby dd15_26) rfl) ?_
  refine oS (fun _ => XS.iconst X0.here hx rfl (hb hby dd15_27) ) ?_
  refine oS (fun _ => XS.icmpNo X0.here hx rfl (hb hby dd15_28) rfl (XT.ii_ne_f (by decide))) ?_
  show own_G p e below (s₁.setTop (mkF m 31 #[iv 3] [])) _
  have F3753 : Sta Z h0 "com/example/latente/latente/query/JpqlLexer$Kind" "NAMED_PARAMETER" "Lcom/example/latente/latente/query/JpqlLexer$Kind;" (.ref ob_10) := Sta.ext O0.2 I3752
  obtain ⟨T3754, X3755, e3756, s3757⟩ := getS X0 hx hZ hown (host := "") (oW hw 58 rfl) Via.refl e0 F3753 (g := (mkF m 31 #[iv 3] [])) rfl (hb hby dd15_31)
  refine oS s3757 ?_
  show own_G p e below (T3754.setTop (mkF m 34 #[iv 3] [(.ref ob_10)])) _
  exact own_retA X3755 hx Bd.notSynchronized Bd.returns rfl rfl (hb hby dd15_34) e3756 (by decide) (by decide) (⟨rfl, N0, rfl⟩)
theorem dd15_35 : decode method_2_code 35 = .ok (.iload_n 0, 1) := by decide +kernel
theorem dd15_36 : decode method_2_code 36 = .ok (.iconst 4, 1) := by decide +kernel
theorem dd15_37 : decode method_2_code 37 = .ok (.if_icmp .ne 7, 3) := by decide +kernel
theorem dd15_40 : decode method_2_code 40 = .ok (.getstatic 22, 3) := by decide +kernel
theorem dd15_43 : decode method_2_code 43 = .ok (.areturn, 1) := by decide +kernel
def own_Q56 (Z : State) (ob_14 : Nat) (h0 : Heap) (n0 : Nat) (v : Option Value) (h : Heap) (L : List Loc) : Prop := (v = some (.ref ob_14) ∧ Fr n0 L ∧ h = h0)
set_option maxRecDepth 65536 in
set_option maxHeartbeats 40000000 in
theorem own_rm56 (l : Launch) (Z : State) (a0 : Array Value) (hw : ∀ d ∈ tables_1, d.before a0 Z = true) (ws : List Jvm.Cond) (ob_14 : Nat) (h0 : Heap) (n0 : Nat) (Z0 : n0 ≤ h0.size) (O0 : Old Z n0 h0) (I3776 : Sta Z Z.heap "com/example/latente/latente/query/JpqlLexer$Kind" "POSITIONAL_PARAMETER" "Lcom/example/latente/latente/query/JpqlLexer$Kind;" (.ref ob_14)) :
    own_Met l Z h0 (⟨"com/example/latente/latente/query/TokenIsSymbolPinLaw", "kindOf", "(I)Lcom/example/latente/latente/query/JpqlLexer$Kind;"⟩ : MethodName) method_2_code 1 (Option.some (FieldType.object "com/example/latente/latente/query/JpqlLexer$Kind")) ws ({ frames := 0, cells := 0, slots := 0, locals := 0 } : Room) #[(.int 4)] (own_Q56 Z ob_14 h0 n0) 0 0 := by
  refine MetFree.of_bodySF own_pn15 hisR ?_
  intro p e s m args below meth c s₁ Bd hml0 hP hK
  obtain ⟨rfl, hZ, hh⟩ := hP
  have hx := Bd.exec
  have hby := Bd.bytes
  have hml : c.maxLocals = 1 := hml0
  have hown : s.vm.findClass "com/example/latente/latente/query/TokenIsSymbolPinLaw" = some m.cls := findClass_of_methodNamed Bd.named
  have hnm := (name_of_methodNamed Bd.named Bd.method).1
  have X0 : Stand p l e ({ frames := 0, cells := 0, slots := 0, locals := 0 } : Room) s m #[(.int 4)] below meth c s₁ [] 0 0 := Stand.of_body Bd
  have e0 : s₁.heap = h0 := by rw [← hh, Bd.state]; rfl
  have N0 := Fr.nil n0
  show own_G p e below (s₁.setTop (entryFrame m #[(.int 4)] 1)) (own_P s (own_Q56 Z ob_14 h0 n0) 0 0)
  refine own_cast (own_ef7 m 4) ?_
  show own_G p e below (s₁.setTop (mkF m 0 #[iv 4] [])) _
  refine oS (fun _ => XS.iloadN X0.here hx rfl (hb hby dd15_0) rfl) ?_
  refine oS (fun _ => XS.ifYes X0.here hx rfl (pc0 := 1) (pc' := 8) rfl (hb hby dd15_1) rfl (XT.i0_ne_t (by decide)) (by decide) (by decide)) ?_
  show own_G p e below (s₁.setTop (mkF m 8 #[iv 4] [])) _
  refine oS (fun _ => XS.iloadN X0.here hx rfl (hb hby dd15_8) rfl) ?_
  refine oS (fun _ => XS.iconst X0.here hx rfl (hb hby dd15_9) ) ?_
  refine oS (fun _ => XS.icmpYes X0.here hx rfl (pc0 := 10) (pc' := 17) rfl (hb hby dd15_10) rfl (XT.ii_ne_t (by decide)) (by decide) (by decide)) ?_
  show own_G p e below (s₁.setTop (mkF m 17 #[iv 4] [])) _
  refine oS (fun _ => XS.iloadN X0.here hx rfl (hb hby dd15_17) rfl) ?_
  refine oS (fun _ => XS.iconst X0.here hx rfl (hb hby dd15_18) ) ?_
  refine oS (fun _ => XS.icmpYes X0.here hx rfl (pc0 := 19) (pc' := 26) rfl (hb hby dd15_19) rfl (XT.ii_ne_t (by decide)) (by decide) (by decide)) ?_
  show own_G p e below (s₁.setTop (mkF m 26 #[iv 4] [])) _
  refine oS (fun _ => XS.iloadN X0.here hx rfl (hb hby dd15_26) rfl) ?_
  refine oS (fun _ => XS.iconst X0.here hx rfl (hb hby dd15_27) ) ?_
  refine oS (fun _ => XS.icmpYes X0.here hx rfl (pc0 := 28) (pc' := 35) rfl (hb hby dd15_28) rfl (XT.ii_ne_t (by decide)) (by decide) (by decide)) ?_
  show own_G p e below (s₁.setTop (mkF m 35 #[iv 4] [])) _
  refine oS (fun _ => XS.iloadN X0.here hx rfl (hb hby dd15_35) rfl) ?_
  refine oS (fun _ => XS.iconst X0.here hx rfl (hb hby dd15_36) ) ?_
  refine oS (fun _ => XS.icmpNo X0.here hx rfl (hb hby dd15_37) rfl (XT.ii_ne_f (by decide))) ?_
  show own_G p e below (s₁.setTop (mkF m 40 #[iv 4] [])) _
  have F3777 : Sta Z h0 "com/example/latente/latente/query/JpqlLexer$Kind" "POSITIONAL_PARAMETER" "Lcom/example/latente/latente/query/JpqlLexer$Kind;" (.ref ob_14) := Sta.ext O0.2 I3776
  obtain ⟨T3778, X3779, e3780, s3781⟩ := getS X0 hx hZ hown (host := "") (oW hw 100 rfl) Via.refl e0 F3777 (g := (mkF m 40 #[iv 4] [])) rfl (hb hby dd15_40)
  refine oS s3781 ?_
  show own_G p e below (T3778.setTop (mkF m 43 #[iv 4] [(.ref ob_14)])) _
  exact own_retA X3779 hx Bd.notSynchronized Bd.returns rfl rfl (hb hby dd15_43) e3780 (by decide) (by decide) (⟨rfl, N0, rfl⟩)
theorem dd15_44 : decode method_2_code 44 = .ok (.iload_n 0, 1) := by decide +kernel
theorem dd15_45 : decode method_2_code 45 = .ok (.iconst 5, 1) := by decide +kernel
theorem dd15_46 : decode method_2_code 46 = .ok (.if_icmp .ne 7, 3) := by decide +kernel
theorem dd15_49 : decode method_2_code 49 = .ok (.getstatic 25, 3) := by decide +kernel
theorem dd15_52 : decode method_2_code 52 = .ok (.areturn, 1) := by decide +kernel
def own_Q57 (Z : State) (ob_9 : Nat) (h0 : Heap) (n0 : Nat) (v : Option Value) (h : Heap) (L : List Loc) : Prop := (v = some (.ref ob_9) ∧ Fr n0 L ∧ h = h0)
set_option maxRecDepth 65536 in
set_option maxHeartbeats 40000000 in
theorem own_rm57 (l : Launch) (Z : State) (a0 : Array Value) (hw : ∀ d ∈ tables_1, d.before a0 Z = true) (ws : List Jvm.Cond) (ob_9 : Nat) (h0 : Heap) (n0 : Nat) (Z0 : n0 ≤ h0.size) (O0 : Old Z n0 h0) (I3799 : Sta Z Z.heap "com/example/latente/latente/query/JpqlLexer$Kind" "SYMBOL" "Lcom/example/latente/latente/query/JpqlLexer$Kind;" (.ref ob_9)) :
    own_Met l Z h0 (⟨"com/example/latente/latente/query/TokenIsSymbolPinLaw", "kindOf", "(I)Lcom/example/latente/latente/query/JpqlLexer$Kind;"⟩ : MethodName) method_2_code 1 (Option.some (FieldType.object "com/example/latente/latente/query/JpqlLexer$Kind")) ws ({ frames := 0, cells := 0, slots := 0, locals := 0 } : Room) #[(.int 5)] (own_Q57 Z ob_9 h0 n0) 0 0 := by
  refine MetFree.of_bodySF own_pn15 hisR ?_
  intro p e s m args below meth c s₁ Bd hml0 hP hK
  obtain ⟨rfl, hZ, hh⟩ := hP
  have hx := Bd.exec
  have hby := Bd.bytes
  have hml : c.maxLocals = 1 := hml0
  have hown : s.vm.findClass "com/example/latente/latente/query/TokenIsSymbolPinLaw" = some m.cls := findClass_of_methodNamed Bd.named
  have hnm := (name_of_methodNamed Bd.named Bd.method).1
  have X0 : Stand p l e ({ frames := 0, cells := 0, slots := 0, locals := 0 } : Room) s m #[(.int 5)] below meth c s₁ [] 0 0 := Stand.of_body Bd
  have e0 : s₁.heap = h0 := by rw [← hh, Bd.state]; rfl
  have N0 := Fr.nil n0
  show own_G p e below (s₁.setTop (entryFrame m #[(.int 5)] 1)) (own_P s (own_Q57 Z ob_9 h0 n0) 0 0)
  refine own_cast (own_ef7 m 5) ?_
  show own_G p e below (s₁.setTop (mkF m 0 #[iv 5] [])) _
  refine oS (fun _ => XS.iloadN X0.here hx rfl (hb hby dd15_0) rfl) ?_
  refine oS (fun _ => XS.ifYes X0.here hx rfl (pc0 := 1) (pc' := 8) rfl (hb hby dd15_1) rfl (XT.i0_ne_t (by decide)) (by decide) (by decide)) ?_
  show own_G p e below (s₁.setTop (mkF m 8 #[iv 5] [])) _
  refine oS (fun _ => XS.iloadN X0.here hx rfl (hb hby dd15_8) rfl) ?_
  refine oS (fun _ => XS.iconst X0.here hx rfl (hb hby dd15_9) ) ?_
  refine oS (fun _ => XS.icmpYes X0.here hx rfl (pc0 := 10) (pc' := 17) rfl (hb hby dd15_10) rfl (XT.ii_ne_t (by decide)) (by decide) (by decide)) ?_
  show own_G p e below (s₁.setTop (mkF m 17 #[iv 5] [])) _
  refine oS (fun _ => XS.iloadN X0.here hx rfl (hb hby dd15_17) rfl) ?_
  refine oS (fun _ => XS.iconst X0.here hx rfl (hb hby dd15_18) ) ?_
  refine oS (fun _ => XS.icmpYes X0.here hx rfl (pc0 := 19) (pc' := 26) rfl (hb hby dd15_19) rfl (XT.ii_ne_t (by decide)) (by decide) (by decide)) ?_
  show own_G p e below (s₁.setTop (mkF m 26 #[iv 5] [])) _
  refine oS (fun _ => XS.iloadN X0.here hx rfl (hb hby dd15_26) rfl) ?_
  refine oS (fun _ => XS.iconst X0.here hx rfl (hb hby dd15_27) ) ?_
  refine oS (fun _ => XS.icmpYes X0.here hx rfl (pc0 := 28) (pc' := 35) rfl (hb hby dd15_28) rfl (XT.ii_ne_t (by decide)) (by decide) (by decide)) ?_
  show own_G p e below (s₁.setTop (mkF m 35 #[iv 5] [])) _
  refine oS (fun _ => XS.iloadN X0.here hx rfl (hb hby dd15_35) rfl) ?_
  refine oS (fun _ => XS.iconst X0.here hx rfl (hb hby dd15_36) ) ?_
  refine oS (fun _ => XS.icmpYes X0.here hx rfl (pc0 := 37) (pc' := 44) rfl (hb hby dd15_37) rfl (XT.ii_ne_t (by decide)) (by decide) (by decide)) ?_
  show own_G p e below (s₁.setTop (mkF m 44 #[iv 5] [])) _
  refine oS (fun _ => XS.iloadN X0.here hx rfl (hb hby dd15_44) rfl) ?_
  refine oS (fun _ => XS.iconst X0.here hx rfl (hb hby dd15_45) ) ?_
  refine oS (fun _ => XS.icmpNo X0.here hx rfl (hb hby dd15_46) rfl (XT.ii_ne_f (by decide))) ?_
  show own_G p e below (s₁.setTop (mkF m 49 #[iv 5] [])) _
  have F3800 : Sta Z h0 "com/example/latente/latente/query/JpqlLexer$Kind" "SYMBOL" "Lcom/example/latente/latente/query/JpqlLexer$Kind;" (.ref ob_9) := Sta.ext O0.2 I3799
  obtain ⟨T3801, X3802, e3803, s3804⟩ := getS X0 hx hZ hown (host := "") (oW hw 60 rfl) Via.refl e0 F3800 (g := (mkF m 49 #[iv 5] [])) rfl (hb hby dd15_49)
  refine oS s3804 ?_
  show own_G p e below (T3801.setTop (mkF m 52 #[iv 5] [(.ref ob_9)])) _
  exact own_retA X3802 hx Bd.notSynchronized Bd.returns rfl rfl (hb hby dd15_52) e3803 (by decide) (by decide) (⟨rfl, N0, rfl⟩)
theorem dd15_53 : decode method_2_code 53 = .ok (.getstatic 28, 3) := by decide +kernel
theorem dd15_56 : decode method_2_code 56 = .ok (.areturn, 1) := by decide +kernel
def own_Q58 (Z : State) (ob_12 : Nat) (h0 : Heap) (n0 : Nat) (v : Option Value) (h : Heap) (L : List Loc) : Prop := (v = some (.ref ob_12) ∧ Fr n0 L ∧ h = h0)
set_option maxRecDepth 65536 in
set_option maxHeartbeats 40000000 in
theorem own_rm58 (l : Launch) (Z : State) (a0 : Array Value) (hw : ∀ d ∈ tables_1, d.before a0 Z = true) (ws : List Jvm.Cond) (ob_12 : Nat) (h0 : Heap) (n0 : Nat) (Z0 : n0 ≤ h0.size) (O0 : Old Z n0 h0) (I3818 : Sta Z Z.heap "com/example/latente/latente/query/JpqlLexer$Kind" "END" "Lcom/example/latente/latente/query/JpqlLexer$Kind;" (.ref ob_12)) :
    own_Met l Z h0 (⟨"com/example/latente/latente/query/TokenIsSymbolPinLaw", "kindOf", "(I)Lcom/example/latente/latente/query/JpqlLexer$Kind;"⟩ : MethodName) method_2_code 1 (Option.some (FieldType.object "com/example/latente/latente/query/JpqlLexer$Kind")) ws ({ frames := 0, cells := 0, slots := 0, locals := 0 } : Room) #[(.int 6)] (own_Q58 Z ob_12 h0 n0) 0 0 := by
  refine MetFree.of_bodySF own_pn15 hisR ?_
  intro p e s m args below meth c s₁ Bd hml0 hP hK
  obtain ⟨rfl, hZ, hh⟩ := hP
  have hx := Bd.exec
  have hby := Bd.bytes
  have hml : c.maxLocals = 1 := hml0
  have hown : s.vm.findClass "com/example/latente/latente/query/TokenIsSymbolPinLaw" = some m.cls := findClass_of_methodNamed Bd.named
  have hnm := (name_of_methodNamed Bd.named Bd.method).1
  have X0 : Stand p l e ({ frames := 0, cells := 0, slots := 0, locals := 0 } : Room) s m #[(.int 6)] below meth c s₁ [] 0 0 := Stand.of_body Bd
  have e0 : s₁.heap = h0 := by rw [← hh, Bd.state]; rfl
  have N0 := Fr.nil n0
  show own_G p e below (s₁.setTop (entryFrame m #[(.int 6)] 1)) (own_P s (own_Q58 Z ob_12 h0 n0) 0 0)
  refine own_cast (own_ef7 m 6) ?_
  show own_G p e below (s₁.setTop (mkF m 0 #[iv 6] [])) _
  refine oS (fun _ => XS.iloadN X0.here hx rfl (hb hby dd15_0) rfl) ?_
  refine oS (fun _ => XS.ifYes X0.here hx rfl (pc0 := 1) (pc' := 8) rfl (hb hby dd15_1) rfl (XT.i0_ne_t (by decide)) (by decide) (by decide)) ?_
  show own_G p e below (s₁.setTop (mkF m 8 #[iv 6] [])) _
  refine oS (fun _ => XS.iloadN X0.here hx rfl (hb hby dd15_8) rfl) ?_
  refine oS (fun _ => XS.iconst X0.here hx rfl (hb hby dd15_9) ) ?_
  refine oS (fun _ => XS.icmpYes X0.here hx rfl (pc0 := 10) (pc' := 17) rfl (hb hby dd15_10) rfl (XT.ii_ne_t (by decide)) (by decide) (by decide)) ?_
  show own_G p e below (s₁.setTop (mkF m 17 #[iv 6] [])) _
  refine oS (fun _ => XS.iloadN X0.here hx rfl (hb hby dd15_17) rfl) ?_
  refine oS (fun _ => XS.iconst X0.here hx rfl (hb hby dd15_18) ) ?_
  refine oS (fun _ => XS.icmpYes X0.here hx rfl (pc0 := 19) (pc' := 26) rfl (hb hby dd15_19) rfl (XT.ii_ne_t (by decide)) (by decide) (by decide)) ?_
  show own_G p e below (s₁.setTop (mkF m 26 #[iv 6] [])) _
  refine oS (fun _ => XS.iloadN X0.here hx rfl (hb hby dd15_26) rfl) ?_
  refine oS (fun _ => XS.iconst X0.here hx rfl (hb hby dd15_27) ) ?_
  refine oS (fun _ => XS.icmpYes X0.here hx rfl (pc0 := 28) (pc' := 35) rfl (hb hby dd15_28) rfl (XT.ii_ne_t (by decide)) (by decide) (by decide)) ?_
  show own_G p e below (s₁.setTop (mkF m 35 #[iv 6] [])) _
  refine oS (fun _ => XS.iloadN X0.here hx rfl (hb hby dd15_35) rfl) ?_
  refine oS (fun _ => XS.iconst X0.here hx rfl (hb hby dd15_36) ) ?_
  refine oS (fun _ => XS.icmpYes X0.here hx rfl (pc0 := 37) (pc' := 44) rfl (hb hby dd15_37) rfl (XT.ii_ne_t (by decide)) (by decide) (by decide)) ?_
  show own_G p e below (s₁.setTop (mkF m 44 #[iv 6] [])) _
  refine oS (fun _ => XS.iloadN X0.here hx rfl (hb hby dd15_44) rfl) ?_
  refine oS (fun _ => XS.iconst X0.here hx rfl (hb hby dd15_45) ) ?_
  refine oS (fun _ => XS.icmpYes X0.here hx rfl (pc0 := 46) (pc' := 53) rfl (hb hby dd15_46) rfl (XT.ii_ne_t (by decide)) (by decide) (by decide)) ?_
  show own_G p e below (s₁.setTop (mkF m 53 #[iv 6] [])) _
  have F3819 : Sta Z h0 "com/example/latente/latente/query/JpqlLexer$Kind" "END" "Lcom/example/latente/latente/query/JpqlLexer$Kind;" (.ref ob_12) := Sta.ext O0.2 I3818
  obtain ⟨T3820, X3821, e3822, s3823⟩ := getS X0 hx hZ hown (host := "") (oW hw 86 rfl) Via.refl e0 F3819 (g := (mkF m 53 #[iv 6] [])) rfl (hb hby dd15_53)
  refine oS s3823 ?_
  show own_G p e below (T3820.setTop (mkF m 56 #[iv 6] [(.ref ob_12)])) _
  exact own_retA X3821 hx Bd.notSynchronized Bd.returns rfl rfl (hb hby dd15_56) e3822 (by decide) (by decide) (⟨rfl, N0, rfl⟩)
def own_Q1 (Z : State) (in_1 : Int32) (in_2 : Int32) (in_3 : Int32) (in_4 : Int32) (in_5 : Int32) (ob_9 : Nat) (in_6 : Int32) (ob_8 : Nat) (ob_11 : Nat) (ob_13 : Nat) (ob_10 : Nat) (ob_14 : Nat) (ob_12 : Nat) (h0 : Heap) (n0 : Nat) (v : Option Value) (h : Heap) (L : List Loc) : Prop := (v = some (.int 1) ∧ Fr n0 L)
theorem own_pn16 : plainFor x = true := by decide +kernel
set_option maxRecDepth 65536 in
set_option maxHeartbeats 40000000 in
theorem own_rm1 (l : Launch) (Z : State) (a0 : Array Value) (hw : ∀ d ∈ tables_1, d.before a0 Z = true) (hEL : EW Z a0 own_EL) (ws : List Jvm.Cond) (in_1 : Int32) (in_2 : Int32) (in_3 : Int32) (in_4 : Int32) (in_5 : Int32) (ob_9 : Nat) (in_6 : Int32) (ob_8 : Nat) (ob_11 : Nat) (ob_13 : Nat) (ob_10 : Nat) (ob_14 : Nat) (ob_12 : Nat) (h0 : Heap) (n0 : Nat) (Z0 : n0 ≤ h0.size) (O0 : Old Z n0 h0) (I460 : Sta Z Z.heap "com/example/latente/latente/query/JpqlLexer$Kind" "SYMBOL" "Lcom/example/latente/latente/query/JpqlLexer$Kind;" (.ref ob_9)) (I487 : Sta Z Z.heap "java/lang/String" "COMPACT_STRINGS" "Z" (.int in_6)) (I495 : ¬ (in_6 = 0)) (I3678 : Sta Z Z.heap "com/example/latente/latente/query/JpqlLexer$Kind" "IDENTIFIER" "Lcom/example/latente/latente/query/JpqlLexer$Kind;" (.ref ob_8)) (I3697 : Fld Z Z.heap ob_8 "java/lang/Enum" "ordinal" "I" (.int 0)) (I3699 : Fld Z Z.heap ob_9 "java/lang/Enum" "ordinal" "I" (.int 5)) (I3702 : Exa Z Z.heap ob_8 "com/example/latente/latente/query/JpqlLexer$Kind") (I3703 : Sta Z Z.heap "com/example/latente/latente/query/JpqlLexer$Kind" "STRING" "Lcom/example/latente/latente/query/JpqlLexer$Kind;" (.ref ob_11)) (I3722 : Fld Z Z.heap ob_11 "java/lang/Enum" "ordinal" "I" (.int 1)) (I3726 : Exa Z Z.heap ob_11 "com/example/latente/latente/query/JpqlLexer$Kind") (I3727 : Sta Z Z.heap "com/example/latente/latente/query/JpqlLexer$Kind" "NUMBER" "Lcom/example/latente/latente/query/JpqlLexer$Kind;" (.ref ob_13)) (I3746 : Fld Z Z.heap ob_13 "java/lang/Enum" "ordinal" "I" (.int 2)) (I3750 : Exa Z Z.heap ob_13 "com/example/latente/latente/query/JpqlLexer$Kind") (I3751 : Sta Z Z.heap "com/example/latente/latente/query/JpqlLexer$Kind" "NAMED_PARAMETER" "Lcom/example/latente/latente/query/JpqlLexer$Kind;" (.ref ob_10)) (I3770 : Fld Z Z.heap ob_10 "java/lang/Enum" "ordinal" "I" (.int 3)) (I3774 : Exa Z Z.heap ob_10 "com/example/latente/latente/query/JpqlLexer$Kind") (I3775 : Sta Z Z.heap "com/example/latente/latente/query/JpqlLexer$Kind" "POSITIONAL_PARAMETER" "Lcom/example/latente/latente/query/JpqlLexer$Kind;" (.ref ob_14)) (I3794 : Fld Z Z.heap ob_14 "java/lang/Enum" "ordinal" "I" (.int 4)) (I3798 : Exa Z Z.heap ob_14 "com/example/latente/latente/query/JpqlLexer$Kind") (I3817 : Sta Z Z.heap "com/example/latente/latente/query/JpqlLexer$Kind" "END" "Lcom/example/latente/latente/query/JpqlLexer$Kind;" (.ref ob_12)) (I3836 : Fld Z Z.heap ob_12 "java/lang/Enum" "ordinal" "I" (.int 6)) (I3840 : Exa Z Z.heap ob_12 "com/example/latente/latente/query/JpqlLexer$Kind") :
    own_MetW l Z own_EL [] h0 x code maxLocals ret ws room_1 #[(.int in_1), (.int in_2), (.int in_3), (.int in_4), (.int in_5)] (own_Q1 Z in_1 in_2 in_3 in_4 in_5 ob_9 in_6 ob_8 ob_11 ob_13 ob_10 ob_14 ob_12 h0 n0) 24 1152 := by
  refine MetFree.of_bodySF own_pn16 hisR ?_
  intro p e s m args below meth c s₁ Bd hml0 hP hK
  obtain ⟨rfl, hZ, hh, hCH, hsf⟩ := hP
  have hx := Bd.exec
  have hby := Bd.bytes
  have hml : c.maxLocals = 18 := hml0
  have hown : (s.setVm s.vm).vm.findClass "com/example/latente/latente/query/TokenIsSymbolPinLaw" = some m.cls := findClass_of_methodNamed Bd.named
  have hnm := (name_of_methodNamed Bd.named Bd.method).1
  have hZ : Z.Warmed39 (s.setVm s.vm).vm := hZ
  have hS : s.Since s.vm 0 := (State.WarmedH.refl s).since 0
  have X0 : Stand p l e room_1 (s.setVm s.vm) m #[(.int in_1), (.int in_2), (.int in_3), (.int in_4), (.int in_5)] below meth c s₁ [] 0 0 := Stand.of_body Bd
  have e0 : s₁.heap = h0 := by rw [← hh, Bd.state]; rfl
  have hR : CHr Z own_EL s.vm h0 s.vm h0 := CHr.refl hCH
  have N0 := Fr.nil n0
  show own_G p e below (s₁.setTop (entryFrame m #[(.int in_1), (.int in_2), (.int in_3), (.int in_4), (.int in_5)] maxLocals)) (own_PW Z own_EL s (own_Q1 Z in_1 in_2 in_3 in_4 in_5 ob_9 in_6 ob_8 ob_11 ob_13 ob_10 ob_14 ob_12 h0 n0) 24 1152)
  refine own_cast (own_ef0 m in_1 in_2 in_3 in_4 in_5) ?_
  show own_G p e below (s₁.setTop (mkF m 0 #[iv in_1, iv in_2, iv in_3, iv in_4, iv in_5, .unset, .unset, .unset, .unset, .unset, .unset, .unset, .unset, .unset, .unset, .unset, .unset, .unset] [])) _
  have J21 : ∀ (T22 : State) (L25 : List Loc) (X23 : Stand p l e room_1 (s.setVm s.vm) m #[(.int in_1), (.int in_2), (.int in_3), (.int in_4), (.int in_5)] below meth c T22 L25 0 0) (e24 : T22.heap = h0) (N26 : Fr n0 L25) (in_15 : Int32) (in_16 : Int32) (in_17 : Int32) (in_18 : Int32) (in_19 : Int32) (in_20 : Int32) (I27 : 0 ≤ in_15.toInt ∧ in_15.toInt < 3) (I28 : 0 ≤ in_20.toInt ∧ in_20.toInt < 3) (I29 : ¬ (in_16 < 0)) (I30 : ¬ (255 < in_16)) (I31 : nar .char in_16 = in_16) (I32 : ¬ (in_17 < 0)) (I33 : ¬ (255 < in_17)) (I34 : nar .char in_17 = in_17) (I35 : ¬ (in_18 < 0)) (I36 : ¬ (255 < in_18)) (I37 : nar .char in_18 = in_18) (I38 : ¬ (in_19 < 0)) (I39 : ¬ (255 < in_19)) (I40 : nar .char in_19 = in_19), own_G p e below (T22.setTop (mkF m 109 #[iv in_1, iv in_2, iv in_3, iv in_4, iv in_5, iv 5, iv in_15, iv in_16, iv in_17, iv in_18, iv in_19, iv in_20, rv ob_9, .unset, .unset, .unset, .unset, .unset] [])) (own_PW Z own_EL s (own_Q1 Z in_1 in_2 in_3 in_4 in_5 ob_9 in_6 ob_8 ob_11 ob_13 ob_10 ob_14 ob_12 h0 n0) 24 1152) := by
   intro T22 L25 X23 e24 N26 in_15 in_16 in_17 in_18 in_19 in_20 I27 I28 I29 I30 I31 I32 I33 I34 I35 I36 I37 I38 I39 I40
   rcases own_in3 I27 with q41 | q42 | q43
   · skip
     refine own_cast (g' := (mkF m 109 #[iv in_1, iv in_2, iv in_3, iv in_4, iv in_5, iv 5, iv 0, iv in_16, iv in_17, iv in_18, iv in_19, iv in_20, rv ob_9, .unset, .unset, .unset, .unset, .unset] [])) (by rw [q41]) ?_
     show own_G p e below (T22.setTop (mkF m 109 #[iv in_1, iv in_2, iv in_3, iv in_4, iv in_5, iv 5, iv 0, iv in_16, iv in_17, iv in_18, iv in_19, iv in_20, rv ob_9, .unset, .unset, .unset, .unset, .unset] [])) _
     refine oS (fun _ => XS.iload X23.here hx rfl (hb hby at_109) rfl) ?_
     refine oS (fun _ => XS.iload X23.here hx rfl (hb hby at_111) rfl) ?_
     refine oS (fun _ => XS.iload X23.here hx rfl (hb hby at_113) rfl) ?_
     obtain ⟨T305, h306, v307, L308, X309, e310, q311, hS, hZ, hown, A312, s313⟩ := own_callSW X23 hx hZ hown e24 (y := (⟨"com/example/latente/latente/query/TokenIsSymbolPinLaw", "str", "(ICC)Ljava/lang/String;"⟩ : MethodName)) (sf := []) (oW hw 8 rfl) (oW hw 9 rfl) (oW hw 3 rfl) (oW hw 10 rfl) (by decide) hS (by omega) hEL hR.1 sf0 all0 (W := 0) (own_rm5 l Z a0 hw hEL [] in_16 in_17 h0 n0 Z0 O0 ) (by decide) (by decide) (by decide) (by decide) (g := (mkF m 115 #[iv in_1, iv in_2, iv in_3, iv in_4, iv in_5, iv 5, iv 0, iv in_16, iv in_17, iv in_18, iv in_19, iv in_20, rv ob_9, .unset, .unset, .unset, .unset, .unset] [(.int in_17), (.int in_16), (.int 0)])) rfl (by rw [hml]; rfl) (argsL := [(.int 0), (.int in_16), (.int in_17)]) (rest := []) rfl (lenOf own_pd2 rfl) rfl (by show 2 * 0 + _ ≤ _; exact Nat.le_of_eq rfl) (hb hby at_115)
     refine oS s313 ?_
     obtain ⟨ob_314, ob_315, kk_316, rfl, N317, K318, F319, F320, F321, F322, F323, F324, F325⟩ := q311
     have N326 := Fr.app N26 N317
     have R327 : CHr Z own_EL s.vm h0 T305.vm h306 := hR.trans A312
     have z328 := K318.1
     show own_G p e below (T305.setTop (mkF m 118 #[iv in_1, iv in_2, iv in_3, iv in_4, iv in_5, iv 5, iv 0, iv in_16, iv in_17, iv in_18, iv in_19, iv in_20, rv ob_9, .unset, .unset, .unset, .unset, .unset] [(.ref ob_314)])) _
     refine oS (fun _ => XS.astore X309.here hx rfl (hb hby at_118) rfl rfl (l' := #[iv in_1, iv in_2, iv in_3, iv in_4, iv in_5, iv 5, iv 0, iv in_16, iv in_17, iv in_18, iv in_19, iv in_20, rv ob_9, rv ob_314, .unset, .unset, .unset, .unset]) rfl) ?_
     show own_G p e below (T305.setTop (mkF m 120 #[iv in_1, iv in_2, iv in_3, iv in_4, iv in_5, iv 5, iv 0, iv in_16, iv in_17, iv in_18, iv in_19, iv in_20, rv ob_9, rv ob_314, .unset, .unset, .unset, .unset] [])) _
     rcases own_in3 I28 with q329 | q330 | q331
     · skip
       refine own_cast (g' := (mkF m 120 #[iv in_1, iv in_2, iv in_3, iv in_4, iv in_5, iv 5, iv 0, iv in_16, iv in_17, iv in_18, iv in_19, iv 0, rv ob_9, rv ob_314, .unset, .unset, .unset, .unset] [])) (by rw [q329]) ?_
       show own_G p e below (T305.setTop (mkF m 120 #[iv in_1, iv in_2, iv in_3, iv in_4, iv in_5, iv 5, iv 0, iv in_16, iv in_17, iv in_18, iv in_19, iv 0, rv ob_9, rv ob_314, .unset, .unset, .unset, .unset] [])) _
       refine oS (fun _ => XS.iload X309.here hx rfl (hb hby at_120) rfl) ?_
       refine oS (fun _ => XS.iload X309.here hx rfl (hb hby at_122) rfl) ?_
       refine oS (fun _ => XS.iload X309.here hx rfl (hb hby at_124) rfl) ?_
       have O332 : Old Z n0 h306 := O0.keep K318 all0
       have Z333 : n0 ≤ h306.size := by omega
       obtain ⟨T334, h335, v336, L337, X338, e339, q340, hS, hZ, hown, A341, s342⟩ := own_callSW X309 hx hZ hown e310 (y := (⟨"com/example/latente/latente/query/TokenIsSymbolPinLaw", "str", "(ICC)Ljava/lang/String;"⟩ : MethodName)) (sf := []) (oW hw 8 rfl) (oW hw 9 rfl) (oW hw 3 rfl) (oW hw 10 rfl) (by decide) hS (by omega) hEL R327.1 sf0 all0 (W := 0) (own_rm5 l Z a0 hw hEL [] in_18 in_19 h306 n0 Z333 O332 ) (by decide) (by decide) (by decide) (by decide) (g := (mkF m 126 #[iv in_1, iv in_2, iv in_3, iv in_4, iv in_5, iv 5, iv 0, iv in_16, iv in_17, iv in_18, iv in_19, iv 0, rv ob_9, rv ob_314, .unset, .unset, .unset, .unset] [(.int in_19), (.int in_18), (.int 0)])) rfl (by rw [hml]; rfl) (argsL := [(.int 0), (.int in_18), (.int in_19)]) (rest := []) rfl (lenOf own_pd2 rfl) rfl (by show 2 * 0 + _ ≤ _; exact Nat.le_of_eq rfl) (hb hby at_126)
       refine oS s342 ?_
       obtain ⟨ob_343, ob_344, kk_345, rfl, N346, K347, F348, F349, F350, F351, F352, F353, F354⟩ := q340
       have N355 := Fr.app N326 N346
       have R356 : CHr Z own_EL s.vm h0 T334.vm h335 := R327.trans A341
       have z357 := K347.1
       show own_G p e below (T334.setTop (mkF m 129 #[iv in_1, iv in_2, iv in_3, iv in_4, iv in_5, iv 5, iv 0, iv in_16, iv in_17, iv in_18, iv in_19, iv 0, rv ob_9, rv ob_314, .unset, .unset, .unset, .unset] [(.ref ob_343)])) _
       refine oS (fun _ => XS.astore X338.here hx rfl (hb hby at_129) rfl rfl (l' := #[iv in_1, iv in_2, iv in_3, iv in_4, iv in_5, iv 5, iv 0, iv in_16, iv in_17, iv in_18, iv in_19, iv 0, rv ob_9, rv ob_314, rv ob_343, .unset, .unset, .unset]) rfl) ?_
       obtain ⟨T358, h359, X360, e361, E362, A363, D364, U367, s365⟩ := newO X338 hx hZ hown (oW hw 33 rfl) (oW hw 34 rfl) (oW hw 35 rfl) e339 (g := (mkF m 131 #[iv in_1, iv in_2, iv in_3, iv in_4, iv in_5, iv 5, iv 0, iv in_16, iv in_17, iv in_18, iv in_19, iv 0, rv ob_9, rv ob_314, rv ob_343, .unset, .unset, .unset] [])) rfl (hb hby at_131) (by decide) (by decide)
       obtain ⟨ob_368, g369⟩ : ∃ z, z = h335.size := ⟨_, rfl⟩
       rw [← g369] at A363 D364 U367 s365
       have z370 := E362.1
       have y366 : @LT.lt Nat instLTNat ob_368 h359.size := A363.lt
       refine oS s365 ?_
       have R371 : CHr Z own_EL s.vm h0 T334.vm h359 := R356.trans (CHr.ext E362 R356.1)
       have F372 : Fld Z h359 ob_368 "com/example/latente/latente/query/JpqlLexer$Token" "kind" "Lcom/example/latente/latente/query/JpqlLexer$Kind;" .null := D364 (Or.inr (oW hw 46 rfl)) (ty := (.object "com/example/latente/latente/query/JpqlLexer$Kind")) (by decide)
       have F373 : Fld Z h359 ob_368 "com/example/latente/latente/query/JpqlLexer$Token" "text" "Ljava/lang/String;" .null := D364 (Or.inr (oW hw 48 rfl)) (ty := (.object "java/lang/String")) (by decide)
       have F374 : Fld Z h359 ob_368 "com/example/latente/latente/query/JpqlLexer$Token" "position" "I" (.int 0) := D364 (Or.inr (oW hw 50 rfl)) (ty := .int) (by decide)
       show own_G p e below (T358.setTop (mkF m 134 #[iv in_1, iv in_2, iv in_3, iv in_4, iv in_5, iv 5, iv 0, iv in_16, iv in_17, iv in_18, iv in_19, iv 0, rv ob_9, rv ob_314, rv ob_343, .unset, .unset, .unset] [(.ref ob_368)])) _
       refine oS (fun _ => XS.dup X360.here hx rfl (hb hby at_134) rfl rfl) ?_
       refine oS (fun _ => XS.aload X360.here hx rfl (hb hby at_135) rfl rfl) ?_
       refine oS (fun _ => XS.aload X360.here hx rfl (hb hby at_137) rfl rfl) ?_
       refine oS (fun _ => XS.iload X360.here hx rfl (hb hby at_139) rfl) ?_
       show own_G p e below (T358.setTop (mkF m 141 #[iv in_1, iv in_2, iv in_3, iv in_4, iv in_5, iv 5, iv 0, iv in_16, iv in_17, iv in_18, iv in_19, iv 0, rv ob_9, rv ob_314, rv ob_343, .unset, .unset, .unset] [(.int in_5), (.ref ob_314), (.ref ob_9), (.ref ob_368), (.ref ob_368)])) _
       have N400 : n0 ≤ ob_368 := by omega
       have O434 : Old Z n0 h335 := O332.keep K347 all0
       have O435 : Old Z n0 h359 := O434.ext E362
       have Z436 : n0 ≤ h359.size := by omega
       obtain ⟨T437, h438, v439, L440, X441, e442, q443, s444⟩ := own_callN X360 hx hZ hown e361 (y := (⟨"com/example/latente/latente/query/JpqlLexer$Token", "<init>", "(Lcom/example/latente/latente/query/JpqlLexer$Kind;Ljava/lang/String;I)V"⟩ : MethodName)) (b := ob_368) rfl (oW hw 36 rfl) (oW hw 37 rfl) (oW hw 35 rfl) (oW hw 38 rfl) (by decide) (W := 1) (own_rm11 l Z a0 hw [] ob_368 ob_9 ob_314 in_5 h359 n0 Z436 O435 F372 A363 N400 F373 F374) (by decide) (by decide) (by decide) (by decide) (g := (mkF m 141 #[iv in_1, iv in_2, iv in_3, iv in_4, iv in_5, iv 5, iv 0, iv in_16, iv in_17, iv in_18, iv in_19, iv 0, rv ob_9, rv ob_314, rv ob_343, .unset, .unset, .unset] [(.int in_5), (.ref ob_314), (.ref ob_9), (.ref ob_368), (.ref ob_368)])) rfl (by rw [hml]; rfl) (argsL := [(.ref ob_9), (.ref ob_314), (.int in_5)]) (rest := [(.ref ob_368)]) rfl (lenOf own_pd4 rfl) rfl (by show 2 * 0 + _ ≤ _; exact Nat.le_of_eq rfl) (hb hby at_141)
       refine oS s444 ?_
       obtain ⟨rfl, N445, K446, F447, F448, F449, F450⟩ := q443
       have N451 := Fr.app N355 N445
       have S452 : Safe Z own_EL T334.vm h359 ob_368 := Safe.exa hZ.alike A363 (by decide) (by decide)
       have R453 : CHr Z own_EL s.vm h0 T334.vm h438 := R371.trans (CHr.keep K446 (sfS S452 sf0) R371.1)
       have z454 := K446.1
       show own_G p e below (T437.setTop (mkF m 144 #[iv in_1, iv in_2, iv in_3, iv in_4, iv in_5, iv 5, iv 0, iv in_16, iv in_17, iv in_18, iv in_19, iv 0, rv ob_9, rv ob_314, rv ob_343, .unset, .unset, .unset] [(.ref ob_368)])) _
       refine oS (fun _ => XS.astore X441.here hx rfl (hb hby at_144) rfl rfl (l' := #[iv in_1, iv in_2, iv in_3, iv in_4, iv in_5, iv 5, iv 0, iv in_16, iv in_17, iv in_18, iv in_19, iv 0, rv ob_9, rv ob_314, rv ob_343, rv ob_368, .unset, .unset]) rfl) ?_
       refine oS (fun _ => XS.aload X441.here hx rfl (hb hby at_146) rfl rfl) ?_
       refine oS (fun _ => XS.aload X441.here hx rfl (hb hby at_148) rfl rfl) ?_
       have N472 : @Ne Nat ob_314 ob_343 := by omega
       have F479 : Exa Z h359 ob_343 "java/lang/String" := Exa.ext E362 F349
       have F480 : Exa Z h438 ob_343 "java/lang/String" := F479.keep K446
       have F498 : Fld Z h335 ob_314 "java/lang/String" "coder" "B" (.int 0) := F322.keep K347 nin0
       have F499 : Fld Z h359 ob_314 "java/lang/String" "coder" "B" (.int 0) := Fld.ext E362 F498
       have N500 : @Ne Nat ob_314 ob_368 := by omega
       have F501 : Fld Z h438 ob_314 "java/lang/String" "coder" "B" (.int 0) := F499.keep K446 (ninS N500 nin0)
       have F508 : Fld Z h359 ob_343 "java/lang/String" "coder" "B" (.int 0) := Fld.ext E362 F351
       have N509 : @Ne Nat ob_343 ob_368 := by omega
       have F510 : Fld Z h438 ob_343 "java/lang/String" "coder" "B" (.int 0) := F508.keep K446 (ninS N509 nin0)
       have F517 : Fld Z h335 ob_314 "java/lang/String" "value" "[B" (.ref ob_315) := F321.keep K347 nin0
       have F518 : Fld Z h359 ob_314 "java/lang/String" "value" "[B" (.ref ob_315) := Fld.ext E362 F517
       have F519 : Fld Z h438 ob_314 "java/lang/String" "value" "[B" (.ref ob_315) := F518.keep K446 (ninS N500 nin0)
       have F526 : Fld Z h359 ob_343 "java/lang/String" "value" "[B" (.ref ob_344) := Fld.ext E362 F350
       have F527 : Fld Z h438 ob_343 "java/lang/String" "value" "[B" (.ref ob_344) := F526.keep K446 (ninS N509 nin0)
       have F534 : Arv Z h335 ob_315 kk_316 .byte 0 [] (.int 0) := F323.keep K347 nin0
       have F535 : Arv Z h359 ob_315 kk_316 .byte 0 [] (.int 0) := F534.ext E362
       have N536 : @Ne Nat ob_315 ob_368 := by omega
       have F537 : Arv Z h438 ob_315 kk_316 .byte 0 [] (.int 0) := F535.keep K446 (ninS N536 nin0)
       have F541 : Arv Z h359 ob_344 kk_345 .byte 0 [] (.int 0) := F352.ext E362
       have N542 : @Ne Nat ob_344 ob_368 := by omega
       have F543 : Arv Z h438 ob_344 kk_345 .byte 0 [] (.int 0) := F541.keep K446 (ninS N542 nin0)
       have F567 : Exa Z h335 ob_314 "java/lang/String" := F320.keep K347
       have F568 : Exa Z h359 ob_314 "java/lang/String" := Exa.ext E362 F567
       have F569 : Exa Z h438 ob_314 "java/lang/String" := F568.keep K446
       have O575 : Old Z n0 h438 := O435.keep K446 (allS N400 all0)
       have Z576 : n0 ≤ h438.size := by omega
       obtain ⟨T577, h578, v579, L580, X581, e582, q583, s584⟩ := own_callV X441 hx hZ hown e442 (y := (⟨"com/example/latente/latente/query/JpqlLexer$Token", "isSymbol", "(Ljava/lang/String;)Z"⟩ : MethodName)) (z := (⟨"com/example/latente/latente/query/JpqlLexer$Token", "isSymbol", "(Ljava/lang/String;)Z"⟩ : MethodName)) (C := "com/example/latente/latente/query/JpqlLexer$Token") (b := ob_368) (oW hw 51 rfl) (oW hw 52 rfl) (notFace_of_selects (args := #[]) (mvT hZ (oW hw 54 rfl))) (oW hw 54 rfl) (oW hw 53 rfl) (oW hw 35 rfl) (oW hw 55 rfl) (by decide) F449 (W := 0) (own_rm13 l Z a0 hw [] ob_368 ob_343 ob_9 ob_314 in_6 ob_315 ob_344 kk_316 kk_345 h438 n0 Z576 O575 F447 I460 F448 N472 F480 I487 I495 F501 F510 F519 F527 F537 F543 F569) (by decide) (by decide) (by decide) (by decide) (g := (mkF m 150 #[iv in_1, iv in_2, iv in_3, iv in_4, iv in_5, iv 5, iv 0, iv in_16, iv in_17, iv in_18, iv in_19, iv 0, rv ob_9, rv ob_314, rv ob_343, rv ob_368, .unset, .unset] [(.ref ob_343), (.ref ob_368)])) rfl (by rw [hml]; rfl) (argsL := [(.ref ob_343)]) (rest := []) rfl (lenOf own_pd7 rfl) rfl (by show 2 * 0 + _ ≤ _; exact Nat.le_of_eq rfl) (hb hby at_150)
       refine oS s584 ?_
       obtain ⟨rfl, N585, K586⟩ := q583
       have N587 := Fr.app N451 N585
       have e588 := e582.trans K586
       show own_G p e below (T577.setTop (mkF m 153 #[iv in_1, iv in_2, iv in_3, iv in_4, iv in_5, iv 5, iv 0, iv in_16, iv in_17, iv in_18, iv in_19, iv 0, rv ob_9, rv ob_314, rv ob_343, rv ob_368, .unset, .unset] [(.int 1)])) _
       refine oS (fun _ => XS.istore X581.here hx rfl (hb hby at_153) rfl (l' := #[iv in_1, iv in_2, iv in_3, iv in_4, iv in_5, iv 5, iv 0, iv in_16, iv in_17, iv in_18, iv in_19, iv 0, rv ob_9, rv ob_314, rv ob_343, rv ob_368, iv 1, .unset]) rfl) ?_
       refine oS (fun _ => XS.iload X581.here hx rfl (hb hby at_155) rfl) ?_
       refine oS (fun _ => XS.iconst X581.here hx rfl (hb hby at_157) ) ?_
       refine oS (fun _ => XS.icmpNo X581.here hx rfl (hb hby at_158) rfl (XT.ii_ne_f (by decide))) ?_
       show own_G p e below (T577.setTop (mkF m 161 #[iv in_1, iv in_2, iv in_3, iv in_4, iv in_5, iv 5, iv 0, iv in_16, iv in_17, iv in_18, iv in_19, iv 0, rv ob_9, rv ob_314, rv ob_343, rv ob_368, iv 1, .unset] [])) _
       refine oS (fun _ => XS.iload X581.here hx rfl (hb hby at_161) rfl) ?_
       refine oS (fun _ => XS.iload X581.here hx rfl (hb hby at_163) rfl) ?_
       refine oS (fun _ => XS.icmpNo X581.here hx rfl (hb hby at_165) rfl (XT.ii_ne_f (by decide))) ?_
       show own_G p e below (T577.setTop (mkF m 168 #[iv in_1, iv in_2, iv in_3, iv in_4, iv in_5, iv 5, iv 0, iv in_16, iv in_17, iv in_18, iv in_19, iv 0, rv ob_9, rv ob_314, rv ob_343, rv ob_368, iv 1, .unset] [])) _
       refine oS (fun _ => XS.iload X581.here hx rfl (hb hby at_168) rfl) ?_
       refine oS (fun _ => XS.iconst X581.here hx rfl (hb hby at_170) ) ?_
       refine oS (fun _ => XS.icmpYes X581.here hx rfl (pc0 := 171) (pc' := 181) rfl (hb hby at_171) rfl (XT.ii_lt_t (by decide)) (by decide) (by decide)) ?_
       show own_G p e below (T577.setTop (mkF m 181 #[iv in_1, iv in_2, iv in_3, iv in_4, iv in_5, iv 5, iv 0, iv in_16, iv in_17, iv in_18, iv in_19, iv 0, rv ob_9, rv ob_314, rv ob_343, rv ob_368, iv 1, .unset] [])) _
       refine oS (fun _ => XS.iload X581.here hx rfl (hb hby at_181) rfl) ?_
       refine oS (fun _ => XS.iconst X581.here hx rfl (hb hby at_183) ) ?_
       refine oS (fun _ => XS.icmpYes X581.here hx rfl (pc0 := 184) (pc' := 194) rfl (hb hby at_184) rfl (XT.ii_lt_t (by decide)) (by decide) (by decide)) ?_
       show own_G p e below (T577.setTop (mkF m 194 #[iv in_1, iv in_2, iv in_3, iv in_4, iv in_5, iv 5, iv 0, iv in_16, iv in_17, iv in_18, iv in_19, iv 0, rv ob_9, rv ob_314, rv ob_343, rv ob_368, iv 1, .unset] [])) _
       refine oS (fun _ => XS.iconst X581.here hx rfl (hb hby at_194) ) ?_
       refine oS (fun _ => XS.goto X581.here hx rfl (pc0 := 195) (pc' := 199) rfl (hb hby at_195) (by decide) (by decide)) ?_
       show own_G p e below (T577.setTop (mkF m 199 #[iv in_1, iv in_2, iv in_3, iv in_4, iv in_5, iv 5, iv 0, iv in_16, iv in_17, iv in_18, iv in_19, iv 0, rv ob_9, rv ob_314, rv ob_343, rv ob_368, iv 1, .unset] [(.int 1)])) _
       refine oS (fun _ => XS.istore X581.here hx rfl (hb hby at_199) rfl (l' := #[iv in_1, iv in_2, iv in_3, iv in_4, iv in_5, iv 5, iv 0, iv in_16, iv in_17, iv in_18, iv in_19, iv 0, rv ob_9, rv ob_314, rv ob_343, rv ob_368, iv 1, iv 1]) rfl) ?_
       refine oS (fun _ => XS.iload X581.here hx rfl (hb hby at_201) rfl) ?_
       refine oS (fun _ => XS.iload X581.here hx rfl (hb hby at_203) rfl) ?_
       refine oS (fun _ => XS.icmpNo X581.here hx rfl (hb hby at_205) rfl (XT.ii_ne_f (by decide))) ?_
       show own_G p e below (T577.setTop (mkF m 208 #[iv in_1, iv in_2, iv in_3, iv in_4, iv in_5, iv 5, iv 0, iv in_16, iv in_17, iv in_18, iv in_19, iv 0, rv ob_9, rv ob_314, rv ob_343, rv ob_368, iv 1, iv 1] [])) _
       refine oS (fun _ => XS.iconst X581.here hx rfl (hb hby at_208) ) ?_
       refine oS (fun _ => XS.goto X581.here hx rfl (pc0 := 209) (pc' := 213) rfl (hb hby at_209) (by decide) (by decide)) ?_
       show own_G p e below (T577.setTop (mkF m 213 #[iv in_1, iv in_2, iv in_3, iv in_4, iv in_5, iv 5, iv 0, iv in_16, iv in_17, iv in_18, iv in_19, iv 0, rv ob_9, rv ob_314, rv ob_343, rv ob_368, iv 1, iv 1] [(.int 1)])) _
       have K589 : Keep h0 h438 [] := (((((Keep.refl h0 []).trans K318 all0).trans K347 all0).ext E362).trans K446 (allS (Or.inr (by omega)) all0))
       exact own_retNW X581 hx (t := .boolean) Bd.notSynchronized Bd.returns (by simp) (hb hby at_213) (by decide) hS hZ hEL hh R453 e588 (by omega) (by decide) (by decide) (⟨rfl, N587⟩)
     · skip
       refine own_cast (g' := (mkF m 120 #[iv in_1, iv in_2, iv in_3, iv in_4, iv in_5, iv 5, iv 0, iv in_16, iv in_17, iv in_18, iv in_19, iv 1, rv ob_9, rv ob_314, .unset, .unset, .unset, .unset] [])) (by rw [q330]) ?_
       show own_G p e below (T305.setTop (mkF m 120 #[iv in_1, iv in_2, iv in_3, iv in_4, iv in_5, iv 5, iv 0, iv in_16, iv in_17, iv in_18, iv in_19, iv 1, rv ob_9, rv ob_314, .unset, .unset, .unset, .unset] [])) _
       refine oS (fun _ => XS.iload X309.here hx rfl (hb hby at_120) rfl) ?_
       refine oS (fun _ => XS.iload X309.here hx rfl (hb hby at_122) rfl) ?_
       refine oS (fun _ => XS.iload X309.here hx rfl (hb hby at_124) rfl) ?_
       have O763 : Old Z n0 h306 := O0.keep K318 all0
       have Z764 : n0 ≤ h306.size := by omega
       obtain ⟨T765, h766, v767, L768, X769, e770, q771, s772⟩ := own_callS X309 hx hZ hown e310 (y := (⟨"com/example/latente/latente/query/TokenIsSymbolPinLaw", "str", "(ICC)Ljava/lang/String;"⟩ : MethodName)) (oW hw 8 rfl) (oW hw 9 rfl) (oW hw 3 rfl) (oW hw 10 rfl) (by decide) (W := 0) (own_rm16 l Z a0 hw [] in_18 in_19 in_6 h306 n0 Z764 O763 I487 I495 I36) (by decide) (by decide) (by decide) (by decide) (g := (mkF m 126 #[iv in_1, iv in_2, iv in_3, iv in_4, iv in_5, iv 5, iv 0, iv in_16, iv in_17, iv in_18, iv in_19, iv 1, rv ob_9, rv ob_314, .unset, .unset, .unset, .unset] [(.int in_19), (.int in_18), (.int 1)])) rfl (by rw [hml]; rfl) (argsL := [(.int 1), (.int in_18), (.int in_19)]) (rest := []) rfl (lenOf own_pd2 rfl) rfl (by show 2 * 0 + _ ≤ _; exact Nat.le_of_eq rfl) (hb hby at_126)
       refine oS s772 ?_
       obtain ⟨ob_773, ob_774, kk_775, rfl, N776, K777, F778, F779, F780, F781, F782, F783, F784, F785, F786⟩ := q771
       have N787 := Fr.app N326 N776
       have R788 : CHr Z own_EL s.vm h0 T305.vm h766 := R327.trans (CHr.keep K777 sf0 R327.1)
       have z789 := K777.1
       have S790 : Safe Z own_EL T305.vm h306 ob_773 := Safe.new (by omega)
       have S791 : Safe Z own_EL T305.vm h306 ob_774 := Safe.new (by omega)
       show own_G p e below (T765.setTop (mkF m 129 #[iv in_1, iv in_2, iv in_3, iv in_4, iv in_5, iv 5, iv 0, iv in_16, iv in_17, iv in_18, iv in_19, iv 1, rv ob_9, rv ob_314, .unset, .unset, .unset, .unset] [(.ref ob_773)])) _
       refine oS (fun _ => XS.astore X769.here hx rfl (hb hby at_129) rfl rfl (l' := #[iv in_1, iv in_2, iv in_3, iv in_4, iv in_5, iv 5, iv 0, iv in_16, iv in_17, iv in_18, iv in_19, iv 1, rv ob_9, rv ob_314, rv ob_773, .unset, .unset, .unset]) rfl) ?_
       obtain ⟨T792, h793, X794, e795, E796, A797, D798, U801, s799⟩ := newO X769 hx hZ hown (oW hw 33 rfl) (oW hw 34 rfl) (oW hw 35 rfl) e770 (g := (mkF m 131 #[iv in_1, iv in_2, iv in_3, iv in_4, iv in_5, iv 5, iv 0, iv in_16, iv in_17, iv in_18, iv in_19, iv 1, rv ob_9, rv ob_314, rv ob_773, .unset, .unset, .unset] [])) rfl (hb hby at_131) (by decide) (by decide)
       obtain ⟨ob_802, g803⟩ : ∃ z, z = h766.size := ⟨_, rfl⟩
       rw [← g803] at A797 D798 U801 s799
       have z804 := E796.1
       have y800 : @LT.lt Nat instLTNat ob_802 h793.size := A797.lt
       refine oS s799 ?_
       have R805 : CHr Z own_EL s.vm h0 T305.vm h793 := R788.trans (CHr.ext E796 R788.1)
       have F806 : Fld Z h793 ob_802 "com/example/latente/latente/query/JpqlLexer$Token" "kind" "Lcom/example/latente/latente/query/JpqlLexer$Kind;" .null := D798 (Or.inr (oW hw 46 rfl)) (ty := (.object "com/example/latente/latente/query/JpqlLexer$Kind")) (by decide)
       have F807 : Fld Z h793 ob_802 "com/example/latente/latente/query/JpqlLexer$Token" "text" "Ljava/lang/String;" .null := D798 (Or.inr (oW hw 48 rfl)) (ty := (.object "java/lang/String")) (by decide)
       have F808 : Fld Z h793 ob_802 "com/example/latente/latente/query/JpqlLexer$Token" "position" "I" (.int 0) := D798 (Or.inr (oW hw 50 rfl)) (ty := .int) (by decide)
       show own_G p e below (T792.setTop (mkF m 134 #[iv in_1, iv in_2, iv in_3, iv in_4, iv in_5, iv 5, iv 0, iv in_16, iv in_17, iv in_18, iv in_19, iv 1, rv ob_9, rv ob_314, rv ob_773, .unset, .unset, .unset] [(.ref ob_802)])) _
       refine oS (fun _ => XS.dup X794.here hx rfl (hb hby at_134) rfl rfl) ?_
       refine oS (fun _ => XS.aload X794.here hx rfl (hb hby at_135) rfl rfl) ?_
       refine oS (fun _ => XS.aload X794.here hx rfl (hb hby at_137) rfl rfl) ?_
       refine oS (fun _ => XS.iload X794.here hx rfl (hb hby at_139) rfl) ?_
       show own_G p e below (T792.setTop (mkF m 141 #[iv in_1, iv in_2, iv in_3, iv in_4, iv in_5, iv 5, iv 0, iv in_16, iv in_17, iv in_18, iv in_19, iv 1, rv ob_9, rv ob_314, rv ob_773, .unset, .unset, .unset] [(.int in_5), (.ref ob_314), (.ref ob_9), (.ref ob_802), (.ref ob_802)])) _
       have N809 : n0 ≤ ob_802 := by omega
       have O810 : Old Z n0 h766 := O763.keep K777 all0
       have O811 : Old Z n0 h793 := O810.ext E796
       have Z812 : n0 ≤ h793.size := by omega
       obtain ⟨T813, h814, v815, L816, X817, e818, q819, s820⟩ := own_callN X794 hx hZ hown e795 (y := (⟨"com/example/latente/latente/query/JpqlLexer$Token", "<init>", "(Lcom/example/latente/latente/query/JpqlLexer$Kind;Ljava/lang/String;I)V"⟩ : MethodName)) (b := ob_802) rfl (oW hw 36 rfl) (oW hw 37 rfl) (oW hw 35 rfl) (oW hw 38 rfl) (by decide) (W := 1) (own_rm11 l Z a0 hw [] ob_802 ob_9 ob_314 in_5 h793 n0 Z812 O811 F806 A797 N809 F807 F808) (by decide) (by decide) (by decide) (by decide) (g := (mkF m 141 #[iv in_1, iv in_2, iv in_3, iv in_4, iv in_5, iv 5, iv 0, iv in_16, iv in_17, iv in_18, iv in_19, iv 1, rv ob_9, rv ob_314, rv ob_773, .unset, .unset, .unset] [(.int in_5), (.ref ob_314), (.ref ob_9), (.ref ob_802), (.ref ob_802)])) rfl (by rw [hml]; rfl) (argsL := [(.ref ob_9), (.ref ob_314), (.int in_5)]) (rest := [(.ref ob_802)]) rfl (lenOf own_pd4 rfl) rfl (by show 2 * 0 + _ ≤ _; exact Nat.le_of_eq rfl) (hb hby at_141)
       refine oS s820 ?_
       obtain ⟨rfl, N821, K822, F823, F824, F825, F826⟩ := q819
       have N827 := Fr.app N787 N821
       have S828 : Safe Z own_EL T305.vm h793 ob_802 := Safe.exa hZ.alike A797 (by decide) (by decide)
       have R829 : CHr Z own_EL s.vm h0 T305.vm h814 := R805.trans (CHr.keep K822 (sfS S828 sf0) R805.1)
       have z830 := K822.1
       show own_G p e below (T813.setTop (mkF m 144 #[iv in_1, iv in_2, iv in_3, iv in_4, iv in_5, iv 5, iv 0, iv in_16, iv in_17, iv in_18, iv in_19, iv 1, rv ob_9, rv ob_314, rv ob_773, .unset, .unset, .unset] [(.ref ob_802)])) _
       refine oS (fun _ => XS.astore X817.here hx rfl (hb hby at_144) rfl rfl (l' := #[iv in_1, iv in_2, iv in_3, iv in_4, iv in_5, iv 5, iv 0, iv in_16, iv in_17, iv in_18, iv in_19, iv 1, rv ob_9, rv ob_314, rv ob_773, rv ob_802, .unset, .unset]) rfl) ?_
       refine oS (fun _ => XS.aload X817.here hx rfl (hb hby at_146) rfl rfl) ?_
       refine oS (fun _ => XS.aload X817.here hx rfl (hb hby at_148) rfl rfl) ?_
       have N831 : @Ne Nat ob_314 ob_773 := by omega
       have F832 : Exa Z h793 ob_773 "java/lang/String" := Exa.ext E796 F780
       have F833 : Exa Z h814 ob_773 "java/lang/String" := F832.keep K822
       have F834 : Fld Z h766 ob_314 "java/lang/String" "coder" "B" (.int 0) := F322.keep K777 nin0
       have F835 : Fld Z h793 ob_314 "java/lang/String" "coder" "B" (.int 0) := Fld.ext E796 F834
       have N836 : @Ne Nat ob_314 ob_802 := by omega
       have F837 : Fld Z h814 ob_314 "java/lang/String" "coder" "B" (.int 0) := F835.keep K822 (ninS N836 nin0)
       have F838 : Fld Z h793 ob_773 "java/lang/String" "coder" "B" (.int 0) := Fld.ext E796 F782
       have N839 : @Ne Nat ob_773 ob_802 := by omega
       have F840 : Fld Z h814 ob_773 "java/lang/String" "coder" "B" (.int 0) := F838.keep K822 (ninS N839 nin0)
       have F841 : Fld Z h766 ob_314 "java/lang/String" "value" "[B" (.ref ob_315) := F321.keep K777 nin0
       have F842 : Fld Z h793 ob_314 "java/lang/String" "value" "[B" (.ref ob_315) := Fld.ext E796 F841
       have F843 : Fld Z h814 ob_314 "java/lang/String" "value" "[B" (.ref ob_315) := F842.keep K822 (ninS N836 nin0)
       have F844 : Fld Z h793 ob_773 "java/lang/String" "value" "[B" (.ref ob_774) := Fld.ext E796 F781
       have F845 : Fld Z h814 ob_773 "java/lang/String" "value" "[B" (.ref ob_774) := F844.keep K822 (ninS N839 nin0)
       have F846 : Arv Z h766 ob_315 kk_316 .byte 0 [] (.int 0) := F323.keep K777 nin0
       have F847 : Arv Z h793 ob_315 kk_316 .byte 0 [] (.int 0) := F846.ext E796
       have N848 : @Ne Nat ob_315 ob_802 := by omega
       have F849 : Arv Z h814 ob_315 kk_316 .byte 0 [] (.int 0) := F847.keep K822 (ninS N848 nin0)
       have F850 : Arv Z h793 ob_774 kk_775 .byte 1 [(.int (in_18.toInt8.toInt32))] (.int 0) := F783.ext E796
       have N851 : @Ne Nat ob_774 ob_802 := by omega
       have F852 : Arv Z h814 ob_774 kk_775 .byte 1 [(.int (in_18.toInt8.toInt32))] (.int 0) := F850.keep K822 (ninS N851 nin0)
       have F940 : Exa Z h766 ob_314 "java/lang/String" := F320.keep K777
       have F941 : Exa Z h793 ob_314 "java/lang/String" := Exa.ext E796 F940
       have F942 : Exa Z h814 ob_314 "java/lang/String" := F941.keep K822
       have O948 : Old Z n0 h814 := O811.keep K822 (allS N809 all0)
       have Z949 : n0 ≤ h814.size := by omega
       obtain ⟨T950, h951, v952, L953, X954, e955, q956, s957⟩ := own_callV X817 hx hZ hown e818 (y := (⟨"com/example/latente/latente/query/JpqlLexer$Token", "isSymbol", "(Ljava/lang/String;)Z"⟩ : MethodName)) (z := (⟨"com/example/latente/latente/query/JpqlLexer$Token", "isSymbol", "(Ljava/lang/String;)Z"⟩ : MethodName)) (C := "com/example/latente/latente/query/JpqlLexer$Token") (b := ob_802) (oW hw 51 rfl) (oW hw 52 rfl) (notFace_of_selects (args := #[]) (mvT hZ (oW hw 54 rfl))) (oW hw 54 rfl) (oW hw 53 rfl) (oW hw 35 rfl) (oW hw 55 rfl) (by decide) F825 (W := 0) (own_rm21 l Z a0 hw [] ob_802 ob_773 ob_9 ob_314 in_6 ob_315 ob_774 kk_316 kk_775 in_18 h814 n0 Z949 O948 F823 I460 F824 N831 F833 I487 I495 F837 F840 F843 F845 F849 F852 F942) (by decide) (by decide) (by decide) (by decide) (g := (mkF m 150 #[iv in_1, iv in_2, iv in_3, iv in_4, iv in_5, iv 5, iv 0, iv in_16, iv in_17, iv in_18, iv in_19, iv 1, rv ob_9, rv ob_314, rv ob_773, rv ob_802, .unset, .unset] [(.ref ob_773), (.ref ob_802)])) rfl (by rw [hml]; rfl) (argsL := [(.ref ob_773)]) (rest := []) rfl (lenOf own_pd7 rfl) rfl (by show 2 * 0 + _ ≤ _; exact Nat.le_of_eq rfl) (hb hby at_150)
       refine oS s957 ?_
       obtain ⟨rfl, N958, K959⟩ := q956
       have N960 := Fr.app N827 N958
       have e961 := e955.trans K959
       show own_G p e below (T950.setTop (mkF m 153 #[iv in_1, iv in_2, iv in_3, iv in_4, iv in_5, iv 5, iv 0, iv in_16, iv in_17, iv in_18, iv in_19, iv 1, rv ob_9, rv ob_314, rv ob_773, rv ob_802, .unset, .unset] [(.int 0)])) _
       refine oS (fun _ => XS.istore X954.here hx rfl (hb hby at_153) rfl (l' := #[iv in_1, iv in_2, iv in_3, iv in_4, iv in_5, iv 5, iv 0, iv in_16, iv in_17, iv in_18, iv in_19, iv 1, rv ob_9, rv ob_314, rv ob_773, rv ob_802, iv 0, .unset]) rfl) ?_
       refine oS (fun _ => XS.iload X954.here hx rfl (hb hby at_155) rfl) ?_
       refine oS (fun _ => XS.iconst X954.here hx rfl (hb hby at_157) ) ?_
       refine oS (fun _ => XS.icmpNo X954.here hx rfl (hb hby at_158) rfl (XT.ii_ne_f (by decide))) ?_
       show own_G p e below (T950.setTop (mkF m 161 #[iv in_1, iv in_2, iv in_3, iv in_4, iv in_5, iv 5, iv 0, iv in_16, iv in_17, iv in_18, iv in_19, iv 1, rv ob_9, rv ob_314, rv ob_773, rv ob_802, iv 0, .unset] [])) _
       refine oS (fun _ => XS.iload X954.here hx rfl (hb hby at_161) rfl) ?_
       refine oS (fun _ => XS.iload X954.here hx rfl (hb hby at_163) rfl) ?_
       refine oS (fun _ => XS.icmpYes X954.here hx rfl (pc0 := 165) (pc' := 198) rfl (hb hby at_165) rfl (XT.ii_ne_t (by decide)) (by decide) (by decide)) ?_
       show own_G p e below (T950.setTop (mkF m 198 #[iv in_1, iv in_2, iv in_3, iv in_4, iv in_5, iv 5, iv 0, iv in_16, iv in_17, iv in_18, iv in_19, iv 1, rv ob_9, rv ob_314, rv ob_773, rv ob_802, iv 0, .unset] [])) _
       refine oS (fun _ => XS.iconst X954.here hx rfl (hb hby at_198) ) ?_
       refine oS (fun _ => XS.istore X954.here hx rfl (hb hby at_199) rfl (l' := #[iv in_1, iv in_2, iv in_3, iv in_4, iv in_5, iv 5, iv 0, iv in_16, iv in_17, iv in_18, iv in_19, iv 1, rv ob_9, rv ob_314, rv ob_773, rv ob_802, iv 0, iv 0]) rfl) ?_
       refine oS (fun _ => XS.iload X954.here hx rfl (hb hby at_201) rfl) ?_
       refine oS (fun _ => XS.iload X954.here hx rfl (hb hby at_203) rfl) ?_
       show own_G p e below (T950.setTop (mkF m 205 #[iv in_1, iv in_2, iv in_3, iv in_4, iv in_5, iv 5, iv 0, iv in_16, iv in_17, iv in_18, iv in_19, iv 1, rv ob_9, rv ob_314, rv ob_773, rv ob_802, iv 0, iv 0] [(.int 0), (.int 0)])) _
       refine oS (fun _ => XS.icmpNo X954.here hx rfl (hb hby at_205) rfl (XT.ii_ne_f (by decide))) ?_
       show own_G p e below (T950.setTop (mkF m 208 #[iv in_1, iv in_2, iv in_3, iv in_4, iv in_5, iv 5, iv 0, iv in_16, iv in_17, iv in_18, iv in_19, iv 1, rv ob_9, rv ob_314, rv ob_773, rv ob_802, iv 0, iv 0] [])) _
       refine oS (fun _ => XS.iconst X954.here hx rfl (hb hby at_208) ) ?_
       refine oS (fun _ => XS.goto X954.here hx rfl (pc0 := 209) (pc' := 213) rfl (hb hby at_209) (by decide) (by decide)) ?_
       show own_G p e below (T950.setTop (mkF m 213 #[iv in_1, iv in_2, iv in_3, iv in_4, iv in_5, iv 5, iv 0, iv in_16, iv in_17, iv in_18, iv in_19, iv 1, rv ob_9, rv ob_314, rv ob_773, rv ob_802, iv 0, iv 0] [(.int 1)])) _
       have K962 : Keep h0 h814 [] := (((((Keep.refl h0 []).trans K318 all0).trans K777 all0).ext E796).trans K822 (allS (Or.inr (by omega)) all0))
       exact own_retNW X954 hx (t := .boolean) Bd.notSynchronized Bd.returns (by simp) (hb hby at_213) (by decide) hS hZ hEL hh R829 e961 (by omega) (by decide) (by decide) (⟨rfl, N960⟩)
     · skip
       refine own_cast (g' := (mkF m 120 #[iv in_1, iv in_2, iv in_3, iv in_4, iv in_5, iv 5, iv 0, iv in_16, iv in_17, iv in_18, iv in_19, iv 2, rv ob_9, rv ob_314, .unset, .unset, .unset, .unset] [])) (by rw [q331]) ?_
       show own_G p e below (T305.setTop (mkF m 120 #[iv in_1, iv in_2, iv in_3, iv in_4, iv in_5, iv 5, iv 0, iv in_16, iv in_17, iv in_18, iv in_19, iv 2, rv ob_9, rv ob_314, .unset, .unset, .unset, .unset] [])) _
       refine oS (fun _ => XS.iload X309.here hx rfl (hb hby at_120) rfl) ?_
       refine oS (fun _ => XS.iload X309.here hx rfl (hb hby at_122) rfl) ?_
       refine oS (fun _ => XS.iload X309.here hx rfl (hb hby at_124) rfl) ?_
       have O1255 : Old Z n0 h306 := O0.keep K318 all0
       have Z1256 : n0 ≤ h306.size := by omega
       obtain ⟨T1257, h1258, v1259, L1260, X1261, e1262, q1263, s1264⟩ := own_callS X309 hx hZ hown e310 (y := (⟨"com/example/latente/latente/query/TokenIsSymbolPinLaw", "str", "(ICC)Ljava/lang/String;"⟩ : MethodName)) (oW hw 8 rfl) (oW hw 9 rfl) (oW hw 3 rfl) (oW hw 10 rfl) (by decide) (W := 0) (own_rm24 l Z a0 hw [] in_18 in_19 in_6 h306 n0 Z1256 O1255 I37 I40 I487 I495 I36 I39) (by decide) (by decide) (by decide) (by decide) (g := (mkF m 126 #[iv in_1, iv in_2, iv in_3, iv in_4, iv in_5, iv 5, iv 0, iv in_16, iv in_17, iv in_18, iv in_19, iv 2, rv ob_9, rv ob_314, .unset, .unset, .unset, .unset] [(.int in_19), (.int in_18), (.int 2)])) rfl (by rw [hml]; rfl) (argsL := [(.int 2), (.int in_18), (.int in_19)]) (rest := []) rfl (lenOf own_pd2 rfl) rfl (by show 2 * 0 + _ ≤ _; exact Nat.le_of_eq rfl) (hb hby at_126)
       refine oS s1264 ?_
       obtain ⟨ob_1265, ob_1266, kk_1267, rfl, N1268, K1269, F1270, F1271, F1272, F1273, F1274, F1275, F1276, F1277, F1278⟩ := q1263
       have N1279 := Fr.app N326 N1268
       have R1280 : CHr Z own_EL s.vm h0 T305.vm h1258 := R327.trans (CHr.keep K1269 sf0 R327.1)
       have z1281 := K1269.1
       have S1282 : Safe Z own_EL T305.vm h306 ob_1265 := Safe.new (by omega)
       have S1283 : Safe Z own_EL T305.vm h306 ob_1266 := Safe.new (by omega)
       show own_G p e below (T1257.setTop (mkF m 129 #[iv in_1, iv in_2, iv in_3, iv in_4, iv in_5, iv 5, iv 0, iv in_16, iv in_17, iv in_18, iv in_19, iv 2, rv ob_9, rv ob_314, .unset, .unset, .unset, .unset] [(.ref ob_1265)])) _
       refine oS (fun _ => XS.astore X1261.here hx rfl (hb hby at_129) rfl rfl (l' := #[iv in_1, iv in_2, iv in_3, iv in_4, iv in_5, iv 5, iv 0, iv in_16, iv in_17, iv in_18, iv in_19, iv 2, rv ob_9, rv ob_314, rv ob_1265, .unset, .unset, .unset]) rfl) ?_
       obtain ⟨T1284, h1285, X1286, e1287, E1288, A1289, D1290, U1293, s1291⟩ := newO X1261 hx hZ hown (oW hw 33 rfl) (oW hw 34 rfl) (oW hw 35 rfl) e1262 (g := (mkF m 131 #[iv in_1, iv in_2, iv in_3, iv in_4, iv in_5, iv 5, iv 0, iv in_16, iv in_17, iv in_18, iv in_19, iv 2, rv ob_9, rv ob_314, rv ob_1265, .unset, .unset, .unset] [])) rfl (hb hby at_131) (by decide) (by decide)
       obtain ⟨ob_1294, g1295⟩ : ∃ z, z = h1258.size := ⟨_, rfl⟩
       rw [← g1295] at A1289 D1290 U1293 s1291
       have z1296 := E1288.1
       have y1292 : @LT.lt Nat instLTNat ob_1294 h1285.size := A1289.lt
       refine oS s1291 ?_
       have R1297 : CHr Z own_EL s.vm h0 T305.vm h1285 := R1280.trans (CHr.ext E1288 R1280.1)
       have F1298 : Fld Z h1285 ob_1294 "com/example/latente/latente/query/JpqlLexer$Token" "kind" "Lcom/example/latente/latente/query/JpqlLexer$Kind;" .null := D1290 (Or.inr (oW hw 46 rfl)) (ty := (.object "com/example/latente/latente/query/JpqlLexer$Kind")) (by decide)
       have F1299 : Fld Z h1285 ob_1294 "com/example/latente/latente/query/JpqlLexer$Token" "text" "Ljava/lang/String;" .null := D1290 (Or.inr (oW hw 48 rfl)) (ty := (.object "java/lang/String")) (by decide)
       have F1300 : Fld Z h1285 ob_1294 "com/example/latente/latente/query/JpqlLexer$Token" "position" "I" (.int 0) := D1290 (Or.inr (oW hw 50 rfl)) (ty := .int) (by decide)
       show own_G p e below (T1284.setTop (mkF m 134 #[iv in_1, iv in_2, iv in_3, iv in_4, iv in_5, iv 5, iv 0, iv in_16, iv in_17, iv in_18, iv in_19, iv 2, rv ob_9, rv ob_314, rv ob_1265, .unset, .unset, .unset] [(.ref ob_1294)])) _
       refine oS (fun _ => XS.dup X1286.here hx rfl (hb hby at_134) rfl rfl) ?_
       refine oS (fun _ => XS.aload X1286.here hx rfl (hb hby at_135) rfl rfl) ?_
       refine oS (fun _ => XS.aload X1286.here hx rfl (hb hby at_137) rfl rfl) ?_
       refine oS (fun _ => XS.iload X1286.here hx rfl (hb hby at_139) rfl) ?_
       show own_G p e below (T1284.setTop (mkF m 141 #[iv in_1, iv in_2, iv in_3, iv in_4, iv in_5, iv 5, iv 0, iv in_16, iv in_17, iv in_18, iv in_19, iv 2, rv ob_9, rv ob_314, rv ob_1265, .unset, .unset, .unset] [(.int in_5), (.ref ob_314), (.ref ob_9), (.ref ob_1294), (.ref ob_1294)])) _
       have N1301 : n0 ≤ ob_1294 := by omega
       have O1302 : Old Z n0 h1258 := O1255.keep K1269 all0
       have O1303 : Old Z n0 h1285 := O1302.ext E1288
       have Z1304 : n0 ≤ h1285.size := by omega
       obtain ⟨T1305, h1306, v1307, L1308, X1309, e1310, q1311, s1312⟩ := own_callN X1286 hx hZ hown e1287 (y := (⟨"com/example/latente/latente/query/JpqlLexer$Token", "<init>", "(Lcom/example/latente/latente/query/JpqlLexer$Kind;Ljava/lang/String;I)V"⟩ : MethodName)) (b := ob_1294) rfl (oW hw 36 rfl) (oW hw 37 rfl) (oW hw 35 rfl) (oW hw 38 rfl) (by decide) (W := 1) (own_rm11 l Z a0 hw [] ob_1294 ob_9 ob_314 in_5 h1285 n0 Z1304 O1303 F1298 A1289 N1301 F1299 F1300) (by decide) (by decide) (by decide) (by decide) (g := (mkF m 141 #[iv in_1, iv in_2, iv in_3, iv in_4, iv in_5, iv 5, iv 0, iv in_16, iv in_17, iv in_18, iv in_19, iv 2, rv ob_9, rv ob_314, rv ob_1265, .unset, .unset, .unset] [(.int in_5), (.ref ob_314), (.ref ob_9), (.ref ob_1294), (.ref ob_1294)])) rfl (by rw [hml]; rfl) (argsL := [(.ref ob_9), (.ref ob_314), (.int in_5)]) (rest := [(.ref ob_1294)]) rfl (lenOf own_pd4 rfl) rfl (by show 2 * 0 + _ ≤ _; exact Nat.le_of_eq rfl) (hb hby at_141)
       refine oS s1312 ?_
       obtain ⟨rfl, N1313, K1314, F1315, F1316, F1317, F1318⟩ := q1311
       have N1319 := Fr.app N1279 N1313
       have S1320 : Safe Z own_EL T305.vm h1285 ob_1294 := Safe.exa hZ.alike A1289 (by decide) (by decide)
       have R1321 : CHr Z own_EL s.vm h0 T305.vm h1306 := R1297.trans (CHr.keep K1314 (sfS S1320 sf0) R1297.1)
       have z1322 := K1314.1
       show own_G p e below (T1305.setTop (mkF m 144 #[iv in_1, iv in_2, iv in_3, iv in_4, iv in_5, iv 5, iv 0, iv in_16, iv in_17, iv in_18, iv in_19, iv 2, rv ob_9, rv ob_314, rv ob_1265, .unset, .unset, .unset] [(.ref ob_1294)])) _
       refine oS (fun _ => XS.astore X1309.here hx rfl (hb hby at_144) rfl rfl (l' := #[iv in_1, iv in_2, iv in_3, iv in_4, iv in_5, iv 5, iv 0, iv in_16, iv in_17, iv in_18, iv in_19, iv 2, rv ob_9, rv ob_314, rv ob_1265, rv ob_1294, .unset, .unset]) rfl) ?_
       refine oS (fun _ => XS.aload X1309.here hx rfl (hb hby at_146) rfl rfl) ?_
       refine oS (fun _ => XS.aload X1309.here hx rfl (hb hby at_148) rfl rfl) ?_
       have N1323 : @Ne Nat ob_314 ob_1265 := by omega
       have F1324 : Exa Z h1285 ob_1265 "java/lang/String" := Exa.ext E1288 F1272
       have F1325 : Exa Z h1306 ob_1265 "java/lang/String" := F1324.keep K1314
       have F1326 : Fld Z h1258 ob_314 "java/lang/String" "coder" "B" (.int 0) := F322.keep K1269 nin0
       have F1327 : Fld Z h1285 ob_314 "java/lang/String" "coder" "B" (.int 0) := Fld.ext E1288 F1326
       have N1328 : @Ne Nat ob_314 ob_1294 := by omega
       have F1329 : Fld Z h1306 ob_314 "java/lang/String" "coder" "B" (.int 0) := F1327.keep K1314 (ninS N1328 nin0)
       have F1330 : Fld Z h1285 ob_1265 "java/lang/String" "coder" "B" (.int 0) := Fld.ext E1288 F1274
       have N1331 : @Ne Nat ob_1265 ob_1294 := by omega
       have F1332 : Fld Z h1306 ob_1265 "java/lang/String" "coder" "B" (.int 0) := F1330.keep K1314 (ninS N1331 nin0)
       have F1333 : Fld Z h1258 ob_314 "java/lang/String" "value" "[B" (.ref ob_315) := F321.keep K1269 nin0
       have F1334 : Fld Z h1285 ob_314 "java/lang/String" "value" "[B" (.ref ob_315) := Fld.ext E1288 F1333
       have F1335 : Fld Z h1306 ob_314 "java/lang/String" "value" "[B" (.ref ob_315) := F1334.keep K1314 (ninS N1328 nin0)
       have F1336 : Fld Z h1285 ob_1265 "java/lang/String" "value" "[B" (.ref ob_1266) := Fld.ext E1288 F1273
       have F1337 : Fld Z h1306 ob_1265 "java/lang/String" "value" "[B" (.ref ob_1266) := F1336.keep K1314 (ninS N1331 nin0)
       have F1338 : Arv Z h1258 ob_315 kk_316 .byte 0 [] (.int 0) := F323.keep K1269 nin0
       have F1339 : Arv Z h1285 ob_315 kk_316 .byte 0 [] (.int 0) := F1338.ext E1288
       have N1340 : @Ne Nat ob_315 ob_1294 := by omega
       have F1341 : Arv Z h1306 ob_315 kk_316 .byte 0 [] (.int 0) := F1339.keep K1314 (ninS N1340 nin0)
       have F1342 : Arv Z h1285 ob_1266 kk_1267 .byte 2 [(.int (in_18.toInt8.toInt32)), (.int (in_19.toInt8.toInt32))] (.int 0) := F1275.ext E1288
       have N1343 : @Ne Nat ob_1266 ob_1294 := by omega
       have F1344 : Arv Z h1306 ob_1266 kk_1267 .byte 2 [(.int (in_18.toInt8.toInt32)), (.int (in_19.toInt8.toInt32))] (.int 0) := F1342.keep K1314 (ninS N1343 nin0)
       have F1432 : Exa Z h1258 ob_314 "java/lang/String" := F320.keep K1269
       have F1433 : Exa Z h1285 ob_314 "java/lang/String" := Exa.ext E1288 F1432
       have F1434 : Exa Z h1306 ob_314 "java/lang/String" := F1433.keep K1314
       have O1440 : Old Z n0 h1306 := O1303.keep K1314 (allS N1301 all0)
       have Z1441 : n0 ≤ h1306.size := by omega
       obtain ⟨T1442, h1443, v1444, L1445, X1446, e1447, q1448, s1449⟩ := own_callV X1309 hx hZ hown e1310 (y := (⟨"com/example/latente/latente/query/JpqlLexer$Token", "isSymbol", "(Ljava/lang/String;)Z"⟩ : MethodName)) (z := (⟨"com/example/latente/latente/query/JpqlLexer$Token", "isSymbol", "(Ljava/lang/String;)Z"⟩ : MethodName)) (C := "com/example/latente/latente/query/JpqlLexer$Token") (b := ob_1294) (oW hw 51 rfl) (oW hw 52 rfl) (notFace_of_selects (args := #[]) (mvT hZ (oW hw 54 rfl))) (oW hw 54 rfl) (oW hw 53 rfl) (oW hw 35 rfl) (oW hw 55 rfl) (by decide) F1317 (W := 0) (own_rm30 l Z a0 hw [] ob_1294 ob_1265 ob_9 ob_314 in_6 ob_315 ob_1266 kk_316 kk_1267 in_18 in_19 h1306 n0 Z1441 O1440 F1315 I460 F1316 N1323 F1325 I487 I495 F1329 F1332 F1335 F1337 F1341 F1344 F1434) (by decide) (by decide) (by decide) (by decide) (g := (mkF m 150 #[iv in_1, iv in_2, iv in_3, iv in_4, iv in_5, iv 5, iv 0, iv in_16, iv in_17, iv in_18, iv in_19, iv 2, rv ob_9, rv ob_314, rv ob_1265, rv ob_1294, .unset, .unset] [(.ref ob_1265), (.ref ob_1294)])) rfl (by rw [hml]; rfl) (argsL := [(.ref ob_1265)]) (rest := []) rfl (lenOf own_pd7 rfl) rfl (by show 2 * 0 + _ ≤ _; exact Nat.le_of_eq rfl) (hb hby at_150)
       refine oS s1449 ?_
       obtain ⟨rfl, N1450, K1451⟩ := q1448
       have N1452 := Fr.app N1319 N1450
       have e1453 := e1447.trans K1451
       show own_G p e below (T1442.setTop (mkF m 153 #[iv in_1, iv in_2, iv in_3, iv in_4, iv in_5, iv 5, iv 0, iv in_16, iv in_17, iv in_18, iv in_19, iv 2, rv ob_9, rv ob_314, rv ob_1265, rv ob_1294, .unset, .unset] [(.int 0)])) _
       refine oS (fun _ => XS.istore X1446.here hx rfl (hb hby at_153) rfl (l' := #[iv in_1, iv in_2, iv in_3, iv in_4, iv in_5, iv 5, iv 0, iv in_16, iv in_17, iv in_18, iv in_19, iv 2, rv ob_9, rv ob_314, rv ob_1265, rv ob_1294, iv 0, .unset]) rfl) ?_
       refine oS (fun _ => XS.iload X1446.here hx rfl (hb hby at_155) rfl) ?_
       refine oS (fun _ => XS.iconst X1446.here hx rfl (hb hby at_157) ) ?_
       refine oS (fun _ => XS.icmpNo X1446.here hx rfl (hb hby at_158) rfl (XT.ii_ne_f (by decide))) ?_
       show own_G p e below (T1442.setTop (mkF m 161 #[iv in_1, iv in_2, iv in_3, iv in_4, iv in_5, iv 5, iv 0, iv in_16, iv in_17, iv in_18, iv in_19, iv 2, rv ob_9, rv ob_314, rv ob_1265, rv ob_1294, iv 0, .unset] [])) _
       refine oS (fun _ => XS.iload X1446.here hx rfl (hb hby at_161) rfl) ?_
       refine oS (fun _ => XS.iload X1446.here hx rfl (hb hby at_163) rfl) ?_
       refine oS (fun _ => XS.icmpYes X1446.here hx rfl (pc0 := 165) (pc' := 198) rfl (hb hby at_165) rfl (XT.ii_ne_t (by decide)) (by decide) (by decide)) ?_
       show own_G p e below (T1442.setTop (mkF m 198 #[iv in_1, iv in_2, iv in_3, iv in_4, iv in_5, iv 5, iv 0, iv in_16, iv in_17, iv in_18, iv in_19, iv 2, rv ob_9, rv ob_314, rv ob_1265, rv ob_1294, iv 0, .unset] [])) _
       refine oS (fun _ => XS.iconst X1446.here hx rfl (hb hby at_198) ) ?_
       refine oS (fun _ => XS.istore X1446.here hx rfl (hb hby at_199) rfl (l' := #[iv in_1, iv in_2, iv in_3, iv in_4, iv in_5, iv 5, iv 0, iv in_16, iv in_17, iv in_18, iv in_19, iv 2, rv ob_9, rv ob_314, rv ob_1265, rv ob_1294, iv 0, iv 0]) rfl) ?_
       refine oS (fun _ => XS.iload X1446.here hx rfl (hb hby at_201) rfl) ?_
       refine oS (fun _ => XS.iload X1446.here hx rfl (hb hby at_203) rfl) ?_
       show own_G p e below (T1442.setTop (mkF m 205 #[iv in_1, iv in_2, iv in_3, iv in_4, iv in_5, iv 5, iv 0, iv in_16, iv in_17, iv in_18, iv in_19, iv 2, rv ob_9, rv ob_314, rv ob_1265, rv ob_1294, iv 0, iv 0] [(.int 0), (.int 0)])) _
       refine oS (fun _ => XS.icmpNo X1446.here hx rfl (hb hby at_205) rfl (XT.ii_ne_f (by decide))) ?_
       show own_G p e below (T1442.setTop (mkF m 208 #[iv in_1, iv in_2, iv in_3, iv in_4, iv in_5, iv 5, iv 0, iv in_16, iv in_17, iv in_18, iv in_19, iv 2, rv ob_9, rv ob_314, rv ob_1265, rv ob_1294, iv 0, iv 0] [])) _
       refine oS (fun _ => XS.iconst X1446.here hx rfl (hb hby at_208) ) ?_
       refine oS (fun _ => XS.goto X1446.here hx rfl (pc0 := 209) (pc' := 213) rfl (hb hby at_209) (by decide) (by decide)) ?_
       show own_G p e below (T1442.setTop (mkF m 213 #[iv in_1, iv in_2, iv in_3, iv in_4, iv in_5, iv 5, iv 0, iv in_16, iv in_17, iv in_18, iv in_19, iv 2, rv ob_9, rv ob_314, rv ob_1265, rv ob_1294, iv 0, iv 0] [(.int 1)])) _
       have K1454 : Keep h0 h1306 [] := (((((Keep.refl h0 []).trans K318 all0).trans K1269 all0).ext E1288).trans K1314 (allS (Or.inr (by omega)) all0))
       exact own_retNW X1446 hx (t := .boolean) Bd.notSynchronized Bd.returns (by simp) (hb hby at_213) (by decide) hS hZ hEL hh R1321 e1453 (by omega) (by decide) (by decide) (⟨rfl, N1452⟩)
   · skip
     refine own_cast (g' := (mkF m 109 #[iv in_1, iv in_2, iv in_3, iv in_4, iv in_5, iv 5, iv 1, iv in_16, iv in_17, iv in_18, iv in_19, iv in_20, rv ob_9, .unset, .unset, .unset, .unset, .unset] [])) (by rw [q42]) ?_
     show own_G p e below (T22.setTop (mkF m 109 #[iv in_1, iv in_2, iv in_3, iv in_4, iv in_5, iv 5, iv 1, iv in_16, iv in_17, iv in_18, iv in_19, iv in_20, rv ob_9, .unset, .unset, .unset, .unset, .unset] [])) _
     refine oS (fun _ => XS.iload X23.here hx rfl (hb hby at_109) rfl) ?_
     refine oS (fun _ => XS.iload X23.here hx rfl (hb hby at_111) rfl) ?_
     refine oS (fun _ => XS.iload X23.here hx rfl (hb hby at_113) rfl) ?_
     obtain ⟨T1455, h1456, v1457, L1458, X1459, e1460, q1461, s1462⟩ := own_callS X23 hx hZ hown e24 (y := (⟨"com/example/latente/latente/query/TokenIsSymbolPinLaw", "str", "(ICC)Ljava/lang/String;"⟩ : MethodName)) (oW hw 8 rfl) (oW hw 9 rfl) (oW hw 3 rfl) (oW hw 10 rfl) (by decide) (W := 0) (own_rm16 l Z a0 hw [] in_16 in_17 in_6 h0 n0 Z0 O0 I487 I495 I30) (by decide) (by decide) (by decide) (by decide) (g := (mkF m 115 #[iv in_1, iv in_2, iv in_3, iv in_4, iv in_5, iv 5, iv 1, iv in_16, iv in_17, iv in_18, iv in_19, iv in_20, rv ob_9, .unset, .unset, .unset, .unset, .unset] [(.int in_17), (.int in_16), (.int 1)])) rfl (by rw [hml]; rfl) (argsL := [(.int 1), (.int in_16), (.int in_17)]) (rest := []) rfl (lenOf own_pd2 rfl) rfl (by show 2 * 0 + _ ≤ _; exact Nat.le_of_eq rfl) (hb hby at_115)
     refine oS s1462 ?_
     obtain ⟨ob_1463, ob_1464, kk_1465, rfl, N1466, K1467, F1468, F1469, F1470, F1471, F1472, F1473, F1474, F1475, F1476⟩ := q1461
     have N1477 := Fr.app N26 N1466
     have R1478 : CHr Z own_EL s.vm h0 s.vm h1456 := hR.trans (CHr.keep K1467 sf0 hR.1)
     have z1479 := K1467.1
     have S1480 : Safe Z own_EL s.vm h0 ob_1463 := Safe.new (by omega)
     have S1481 : Safe Z own_EL s.vm h0 ob_1464 := Safe.new (by omega)
     show own_G p e below (T1455.setTop (mkF m 118 #[iv in_1, iv in_2, iv in_3, iv in_4, iv in_5, iv 5, iv 1, iv in_16, iv in_17, iv in_18, iv in_19, iv in_20, rv ob_9, .unset, .unset, .unset, .unset, .unset] [(.ref ob_1463)])) _
     refine oS (fun _ => XS.astore X1459.here hx rfl (hb hby at_118) rfl rfl (l' := #[iv in_1, iv in_2, iv in_3, iv in_4, iv in_5, iv 5, iv 1, iv in_16, iv in_17, iv in_18, iv in_19, iv in_20, rv ob_9, rv ob_1463, .unset, .unset, .unset, .unset]) rfl) ?_
     show own_G p e below (T1455.setTop (mkF m 120 #[iv in_1, iv in_2, iv in_3, iv in_4, iv in_5, iv 5, iv 1, iv in_16, iv in_17, iv in_18, iv in_19, iv in_20, rv ob_9, rv ob_1463, .unset, .unset, .unset, .unset] [])) _
     rcases own_in3 I28 with q1482 | q1483 | q1484
     · skip
       refine own_cast (g' := (mkF m 120 #[iv in_1, iv in_2, iv in_3, iv in_4, iv in_5, iv 5, iv 1, iv in_16, iv in_17, iv in_18, iv in_19, iv 0, rv ob_9, rv ob_1463, .unset, .unset, .unset, .unset] [])) (by rw [q1482]) ?_
       show own_G p e below (T1455.setTop (mkF m 120 #[iv in_1, iv in_2, iv in_3, iv in_4, iv in_5, iv 5, iv 1, iv in_16, iv in_17, iv in_18, iv in_19, iv 0, rv ob_9, rv ob_1463, .unset, .unset, .unset, .unset] [])) _
       refine oS (fun _ => XS.iload X1459.here hx rfl (hb hby at_120) rfl) ?_
       refine oS (fun _ => XS.iload X1459.here hx rfl (hb hby at_122) rfl) ?_
       refine oS (fun _ => XS.iload X1459.here hx rfl (hb hby at_124) rfl) ?_
       have O1485 : Old Z n0 h1456 := O0.keep K1467 all0
       have Z1486 : n0 ≤ h1456.size := by omega
       obtain ⟨T1487, h1488, v1489, L1490, X1491, e1492, q1493, hS, hZ, hown, A1494, s1495⟩ := own_callSW X1459 hx hZ hown e1460 (y := (⟨"com/example/latente/latente/query/TokenIsSymbolPinLaw", "str", "(ICC)Ljava/lang/String;"⟩ : MethodName)) (sf := []) (oW hw 8 rfl) (oW hw 9 rfl) (oW hw 3 rfl) (oW hw 10 rfl) (by decide) hS (by omega) hEL R1478.1 sf0 all0 (W := 0) (own_rm5 l Z a0 hw hEL [] in_18 in_19 h1456 n0 Z1486 O1485 ) (by decide) (by decide) (by decide) (by decide) (g := (mkF m 126 #[iv in_1, iv in_2, iv in_3, iv in_4, iv in_5, iv 5, iv 1, iv in_16, iv in_17, iv in_18, iv in_19, iv 0, rv ob_9, rv ob_1463, .unset, .unset, .unset, .unset] [(.int in_19), (.int in_18), (.int 0)])) rfl (by rw [hml]; rfl) (argsL := [(.int 0), (.int in_18), (.int in_19)]) (rest := []) rfl (lenOf own_pd2 rfl) rfl (by show 2 * 0 + _ ≤ _; exact Nat.le_of_eq rfl) (hb hby at_126)
       refine oS s1495 ?_
       obtain ⟨ob_1496, ob_1497, kk_1498, rfl, N1499, K1500, F1501, F1502, F1503, F1504, F1505, F1506, F1507⟩ := q1493
       have N1508 := Fr.app N1477 N1499
       have R1509 : CHr Z own_EL s.vm h0 T1487.vm h1488 := R1478.trans A1494
       have z1510 := K1500.1
       show own_G p e below (T1487.setTop (mkF m 129 #[iv in_1, iv in_2, iv in_3, iv in_4, iv in_5, iv 5, iv 1, iv in_16, iv in_17, iv in_18, iv in_19, iv 0, rv ob_9, rv ob_1463, .unset, .unset, .unset, .unset] [(.ref ob_1496)])) _
       refine oS (fun _ => XS.astore X1491.here hx rfl (hb hby at_129) rfl rfl (l' := #[iv in_1, iv in_2, iv in_3, iv in_4, iv in_5, iv 5, iv 1, iv in_16, iv in_17, iv in_18, iv in_19, iv 0, rv ob_9, rv ob_1463, rv ob_1496, .unset, .unset, .unset]) rfl) ?_
       obtain ⟨T1511, h1512, X1513, e1514, E1515, A1516, D1517, U1520, s1518⟩ := newO X1491 hx hZ hown (oW hw 33 rfl) (oW hw 34 rfl) (oW hw 35 rfl) e1492 (g := (mkF m 131 #[iv in_1, iv in_2, iv in_3, iv in_4, iv in_5, iv 5, iv 1, iv in_16, iv in_17, iv in_18, iv in_19, iv 0, rv ob_9, rv ob_1463, rv ob_1496, .unset, .unset, .unset] [])) rfl (hb hby at_131) (by decide) (by decide)
       obtain ⟨ob_1521, g1522⟩ : ∃ z, z = h1488.size := ⟨_, rfl⟩
       rw [← g1522] at A1516 D1517 U1520 s1518
       have z1523 := E1515.1
       have y1519 : @LT.lt Nat instLTNat ob_1521 h1512.size := A1516.lt
       refine oS s1518 ?_
       have R1524 : CHr Z own_EL s.vm h0 T1487.vm h1512 := R1509.trans (CHr.ext E1515 R1509.1)
       have F1525 : Fld Z h1512 ob_1521 "com/example/latente/latente/query/JpqlLexer$Token" "kind" "Lcom/example/latente/latente/query/JpqlLexer$Kind;" .null := D1517 (Or.inr (oW hw 46 rfl)) (ty := (.object "com/example/latente/latente/query/JpqlLexer$Kind")) (by decide)
       have F1526 : Fld Z h1512 ob_1521 "com/example/latente/latente/query/JpqlLexer$Token" "text" "Ljava/lang/String;" .null := D1517 (Or.inr (oW hw 48 rfl)) (ty := (.object "java/lang/String")) (by decide)
       have F1527 : Fld Z h1512 ob_1521 "com/example/latente/latente/query/JpqlLexer$Token" "position" "I" (.int 0) := D1517 (Or.inr (oW hw 50 rfl)) (ty := .int) (by decide)
       show own_G p e below (T1511.setTop (mkF m 134 #[iv in_1, iv in_2, iv in_3, iv in_4, iv in_5, iv 5, iv 1, iv in_16, iv in_17, iv in_18, iv in_19, iv 0, rv ob_9, rv ob_1463, rv ob_1496, .unset, .unset, .unset] [(.ref ob_1521)])) _
       refine oS (fun _ => XS.dup X1513.here hx rfl (hb hby at_134) rfl rfl) ?_
       refine oS (fun _ => XS.aload X1513.here hx rfl (hb hby at_135) rfl rfl) ?_
       refine oS (fun _ => XS.aload X1513.here hx rfl (hb hby at_137) rfl rfl) ?_
       refine oS (fun _ => XS.iload X1513.here hx rfl (hb hby at_139) rfl) ?_
       show own_G p e below (T1511.setTop (mkF m 141 #[iv in_1, iv in_2, iv in_3, iv in_4, iv in_5, iv 5, iv 1, iv in_16, iv in_17, iv in_18, iv in_19, iv 0, rv ob_9, rv ob_1463, rv ob_1496, .unset, .unset, .unset] [(.int in_5), (.ref ob_1463), (.ref ob_9), (.ref ob_1521), (.ref ob_1521)])) _
       have N1528 : n0 ≤ ob_1521 := by omega
       have O1529 : Old Z n0 h1488 := O1485.keep K1500 all0
       have O1530 : Old Z n0 h1512 := O1529.ext E1515
       have Z1531 : n0 ≤ h1512.size := by omega
       obtain ⟨T1532, h1533, v1534, L1535, X1536, e1537, q1538, s1539⟩ := own_callN X1513 hx hZ hown e1514 (y := (⟨"com/example/latente/latente/query/JpqlLexer$Token", "<init>", "(Lcom/example/latente/latente/query/JpqlLexer$Kind;Ljava/lang/String;I)V"⟩ : MethodName)) (b := ob_1521) rfl (oW hw 36 rfl) (oW hw 37 rfl) (oW hw 35 rfl) (oW hw 38 rfl) (by decide) (W := 1) (own_rm11 l Z a0 hw [] ob_1521 ob_9 ob_1463 in_5 h1512 n0 Z1531 O1530 F1525 A1516 N1528 F1526 F1527) (by decide) (by decide) (by decide) (by decide) (g := (mkF m 141 #[iv in_1, iv in_2, iv in_3, iv in_4, iv in_5, iv 5, iv 1, iv in_16, iv in_17, iv in_18, iv in_19, iv 0, rv ob_9, rv ob_1463, rv ob_1496, .unset, .unset, .unset] [(.int in_5), (.ref ob_1463), (.ref ob_9), (.ref ob_1521), (.ref ob_1521)])) rfl (by rw [hml]; rfl) (argsL := [(.ref ob_9), (.ref ob_1463), (.int in_5)]) (rest := [(.ref ob_1521)]) rfl (lenOf own_pd4 rfl) rfl (by show 2 * 0 + _ ≤ _; exact Nat.le_of_eq rfl) (hb hby at_141)
       refine oS s1539 ?_
       obtain ⟨rfl, N1540, K1541, F1542, F1543, F1544, F1545⟩ := q1538
       have N1546 := Fr.app N1508 N1540
       have S1547 : Safe Z own_EL T1487.vm h1512 ob_1521 := Safe.exa hZ.alike A1516 (by decide) (by decide)
       have R1548 : CHr Z own_EL s.vm h0 T1487.vm h1533 := R1524.trans (CHr.keep K1541 (sfS S1547 sf0) R1524.1)
       have z1549 := K1541.1
       show own_G p e below (T1532.setTop (mkF m 144 #[iv in_1, iv in_2, iv in_3, iv in_4, iv in_5, iv 5, iv 1, iv in_16, iv in_17, iv in_18, iv in_19, iv 0, rv ob_9, rv ob_1463, rv ob_1496, .unset, .unset, .unset] [(.ref ob_1521)])) _
       refine oS (fun _ => XS.astore X1536.here hx rfl (hb hby at_144) rfl rfl (l' := #[iv in_1, iv in_2, iv in_3, iv in_4, iv in_5, iv 5, iv 1, iv in_16, iv in_17, iv in_18, iv in_19, iv 0, rv ob_9, rv ob_1463, rv ob_1496, rv ob_1521, .unset, .unset]) rfl) ?_
       refine oS (fun _ => XS.aload X1536.here hx rfl (hb hby at_146) rfl rfl) ?_
       refine oS (fun _ => XS.aload X1536.here hx rfl (hb hby at_148) rfl rfl) ?_
       have N1550 : @Ne Nat ob_1463 ob_1496 := by omega
       have F1551 : Exa Z h1512 ob_1496 "java/lang/String" := Exa.ext E1515 F1502
       have F1552 : Exa Z h1533 ob_1496 "java/lang/String" := F1551.keep K1541
       have F1553 : Fld Z h1488 ob_1463 "java/lang/String" "coder" "B" (.int 0) := F1472.keep K1500 nin0
       have F1554 : Fld Z h1512 ob_1463 "java/lang/String" "coder" "B" (.int 0) := Fld.ext E1515 F1553
       have N1555 : @Ne Nat ob_1463 ob_1521 := by omega
       have F1556 : Fld Z h1533 ob_1463 "java/lang/String" "coder" "B" (.int 0) := F1554.keep K1541 (ninS N1555 nin0)
       have F1557 : Fld Z h1512 ob_1496 "java/lang/String" "coder" "B" (.int 0) := Fld.ext E1515 F1504
       have N1558 : @Ne Nat ob_1496 ob_1521 := by omega
       have F1559 : Fld Z h1533 ob_1496 "java/lang/String" "coder" "B" (.int 0) := F1557.keep K1541 (ninS N1558 nin0)
       have F1560 : Fld Z h1488 ob_1463 "java/lang/String" "value" "[B" (.ref ob_1464) := F1471.keep K1500 nin0
       have F1561 : Fld Z h1512 ob_1463 "java/lang/String" "value" "[B" (.ref ob_1464) := Fld.ext E1515 F1560
       have F1562 : Fld Z h1533 ob_1463 "java/lang/String" "value" "[B" (.ref ob_1464) := F1561.keep K1541 (ninS N1555 nin0)
       have F1563 : Fld Z h1512 ob_1496 "java/lang/String" "value" "[B" (.ref ob_1497) := Fld.ext E1515 F1503
       have F1564 : Fld Z h1533 ob_1496 "java/lang/String" "value" "[B" (.ref ob_1497) := F1563.keep K1541 (ninS N1558 nin0)
       have F1565 : Arv Z h1488 ob_1464 kk_1465 .byte 1 [(.int (in_16.toInt8.toInt32))] (.int 0) := F1473.keep K1500 nin0
       have F1566 : Arv Z h1512 ob_1464 kk_1465 .byte 1 [(.int (in_16.toInt8.toInt32))] (.int 0) := F1565.ext E1515
       have N1567 : @Ne Nat ob_1464 ob_1521 := by omega
       have F1568 : Arv Z h1533 ob_1464 kk_1465 .byte 1 [(.int (in_16.toInt8.toInt32))] (.int 0) := F1566.keep K1541 (ninS N1567 nin0)
       have F1633 : Arv Z h1512 ob_1497 kk_1498 .byte 0 [] (.int 0) := F1505.ext E1515
       have N1634 : @Ne Nat ob_1497 ob_1521 := by omega
       have F1635 : Arv Z h1533 ob_1497 kk_1498 .byte 0 [] (.int 0) := F1633.keep K1541 (ninS N1634 nin0)
       have F1659 : Exa Z h1488 ob_1463 "java/lang/String" := F1470.keep K1500
       have F1660 : Exa Z h1512 ob_1463 "java/lang/String" := Exa.ext E1515 F1659
       have F1661 : Exa Z h1533 ob_1463 "java/lang/String" := F1660.keep K1541
       have O1667 : Old Z n0 h1533 := O1530.keep K1541 (allS N1528 all0)
       have Z1668 : n0 ≤ h1533.size := by omega
       obtain ⟨T1669, h1670, v1671, L1672, X1673, e1674, q1675, s1676⟩ := own_callV X1536 hx hZ hown e1537 (y := (⟨"com/example/latente/latente/query/JpqlLexer$Token", "isSymbol", "(Ljava/lang/String;)Z"⟩ : MethodName)) (z := (⟨"com/example/latente/latente/query/JpqlLexer$Token", "isSymbol", "(Ljava/lang/String;)Z"⟩ : MethodName)) (C := "com/example/latente/latente/query/JpqlLexer$Token") (b := ob_1521) (oW hw 51 rfl) (oW hw 52 rfl) (notFace_of_selects (args := #[]) (mvT hZ (oW hw 54 rfl))) (oW hw 54 rfl) (oW hw 53 rfl) (oW hw 35 rfl) (oW hw 55 rfl) (by decide) F1544 (W := 0) (own_rm33 l Z a0 hw [] ob_1521 ob_1496 ob_9 ob_1463 in_6 ob_1464 ob_1497 kk_1465 in_16 kk_1498 h1533 n0 Z1668 O1667 F1542 I460 F1543 N1550 F1552 I487 I495 F1556 F1559 F1562 F1564 F1568 F1635 F1661) (by decide) (by decide) (by decide) (by decide) (g := (mkF m 150 #[iv in_1, iv in_2, iv in_3, iv in_4, iv in_5, iv 5, iv 1, iv in_16, iv in_17, iv in_18, iv in_19, iv 0, rv ob_9, rv ob_1463, rv ob_1496, rv ob_1521, .unset, .unset] [(.ref ob_1496), (.ref ob_1521)])) rfl (by rw [hml]; rfl) (argsL := [(.ref ob_1496)]) (rest := []) rfl (lenOf own_pd7 rfl) rfl (by show 2 * 0 + _ ≤ _; exact Nat.le_of_eq rfl) (hb hby at_150)
       refine oS s1676 ?_
       obtain ⟨rfl, N1677, K1678⟩ := q1675
       have N1679 := Fr.app N1546 N1677
       have e1680 := e1674.trans K1678
       show own_G p e below (T1669.setTop (mkF m 153 #[iv in_1, iv in_2, iv in_3, iv in_4, iv in_5, iv 5, iv 1, iv in_16, iv in_17, iv in_18, iv in_19, iv 0, rv ob_9, rv ob_1463, rv ob_1496, rv ob_1521, .unset, .unset] [(.int 0)])) _
       refine oS (fun _ => XS.istore X1673.here hx rfl (hb hby at_153) rfl (l' := #[iv in_1, iv in_2, iv in_3, iv in_4, iv in_5, iv 5, iv 1, iv in_16, iv in_17, iv in_18, iv in_19, iv 0, rv ob_9, rv ob_1463, rv ob_1496, rv ob_1521, iv 0, .unset]) rfl) ?_
       refine oS (fun _ => XS.iload X1673.here hx rfl (hb hby at_155) rfl) ?_
       refine oS (fun _ => XS.iconst X1673.here hx rfl (hb hby at_157) ) ?_
       refine oS (fun _ => XS.icmpNo X1673.here hx rfl (hb hby at_158) rfl (XT.ii_ne_f (by decide))) ?_
       show own_G p e below (T1669.setTop (mkF m 161 #[iv in_1, iv in_2, iv in_3, iv in_4, iv in_5, iv 5, iv 1, iv in_16, iv in_17, iv in_18, iv in_19, iv 0, rv ob_9, rv ob_1463, rv ob_1496, rv ob_1521, iv 0, .unset] [])) _
       refine oS (fun _ => XS.iload X1673.here hx rfl (hb hby at_161) rfl) ?_
       refine oS (fun _ => XS.iload X1673.here hx rfl (hb hby at_163) rfl) ?_
       refine oS (fun _ => XS.icmpYes X1673.here hx rfl (pc0 := 165) (pc' := 198) rfl (hb hby at_165) rfl (XT.ii_ne_t (by decide)) (by decide) (by decide)) ?_
       show own_G p e below (T1669.setTop (mkF m 198 #[iv in_1, iv in_2, iv in_3, iv in_4, iv in_5, iv 5, iv 1, iv in_16, iv in_17, iv in_18, iv in_19, iv 0, rv ob_9, rv ob_1463, rv ob_1496, rv ob_1521, iv 0, .unset] [])) _
       refine oS (fun _ => XS.iconst X1673.here hx rfl (hb hby at_198) ) ?_
       refine oS (fun _ => XS.istore X1673.here hx rfl (hb hby at_199) rfl (l' := #[iv in_1, iv in_2, iv in_3, iv in_4, iv in_5, iv 5, iv 1, iv in_16, iv in_17, iv in_18, iv in_19, iv 0, rv ob_9, rv ob_1463, rv ob_1496, rv ob_1521, iv 0, iv 0]) rfl) ?_
       refine oS (fun _ => XS.iload X1673.here hx rfl (hb hby at_201) rfl) ?_
       refine oS (fun _ => XS.iload X1673.here hx rfl (hb hby at_203) rfl) ?_
       show own_G p e below (T1669.setTop (mkF m 205 #[iv in_1, iv in_2, iv in_3, iv in_4, iv in_5, iv 5, iv 1, iv in_16, iv in_17, iv in_18, iv in_19, iv 0, rv ob_9, rv ob_1463, rv ob_1496, rv ob_1521, iv 0, iv 0] [(.int 0), (.int 0)])) _
       refine oS (fun _ => XS.icmpNo X1673.here hx rfl (hb hby at_205) rfl (XT.ii_ne_f (by decide))) ?_
       show own_G p e below (T1669.setTop (mkF m 208 #[iv in_1, iv in_2, iv in_3, iv in_4, iv in_5, iv 5, iv 1, iv in_16, iv in_17, iv in_18, iv in_19, iv 0, rv ob_9, rv ob_1463, rv ob_1496, rv ob_1521, iv 0, iv 0] [])) _
       refine oS (fun _ => XS.iconst X1673.here hx rfl (hb hby at_208) ) ?_
       refine oS (fun _ => XS.goto X1673.here hx rfl (pc0 := 209) (pc' := 213) rfl (hb hby at_209) (by decide) (by decide)) ?_
       show own_G p e below (T1669.setTop (mkF m 213 #[iv in_1, iv in_2, iv in_3, iv in_4, iv in_5, iv 5, iv 1, iv in_16, iv in_17, iv in_18, iv in_19, iv 0, rv ob_9, rv ob_1463, rv ob_1496, rv ob_1521, iv 0, iv 0] [(.int 1)])) _
       have K1681 : Keep h0 h1533 [] := (((((Keep.refl h0 []).trans K1467 all0).trans K1500 all0).ext E1515).trans K1541 (allS (Or.inr (by omega)) all0))
       exact own_retNW X1673 hx (t := .boolean) Bd.notSynchronized Bd.returns (by simp) (hb hby at_213) (by decide) hS hZ hEL hh R1548 e1680 (by omega) (by decide) (by decide) (⟨rfl, N1679⟩)
     · skip
       refine own_cast (g' := (mkF m 120 #[iv in_1, iv in_2, iv in_3, iv in_4, iv in_5, iv 5, iv 1, iv in_16, iv in_17, iv in_18, iv in_19, iv 1, rv ob_9, rv ob_1463, .unset, .unset, .unset, .unset] [])) (by rw [q1483]) ?_
       show own_G p e below (T1455.setTop (mkF m 120 #[iv in_1, iv in_2, iv in_3, iv in_4, iv in_5, iv 5, iv 1, iv in_16, iv in_17, iv in_18, iv in_19, iv 1, rv ob_9, rv ob_1463, .unset, .unset, .unset, .unset] [])) _
       refine oS (fun _ => XS.iload X1459.here hx rfl (hb hby at_120) rfl) ?_
       refine oS (fun _ => XS.iload X1459.here hx rfl (hb hby at_122) rfl) ?_
       refine oS (fun _ => XS.iload X1459.here hx rfl (hb hby at_124) rfl) ?_
       have O1682 : Old Z n0 h1456 := O0.keep K1467 all0
       have Z1683 : n0 ≤ h1456.size := by omega
       obtain ⟨T1684, h1685, v1686, L1687, X1688, e1689, q1690, s1691⟩ := own_callS X1459 hx hZ hown e1460 (y := (⟨"com/example/latente/latente/query/TokenIsSymbolPinLaw", "str", "(ICC)Ljava/lang/String;"⟩ : MethodName)) (oW hw 8 rfl) (oW hw 9 rfl) (oW hw 3 rfl) (oW hw 10 rfl) (by decide) (W := 0) (own_rm16 l Z a0 hw [] in_18 in_19 in_6 h1456 n0 Z1683 O1682 I487 I495 I36) (by decide) (by decide) (by decide) (by decide) (g := (mkF m 126 #[iv in_1, iv in_2, iv in_3, iv in_4, iv in_5, iv 5, iv 1, iv in_16, iv in_17, iv in_18, iv in_19, iv 1, rv ob_9, rv ob_1463, .unset, .unset, .unset, .unset] [(.int in_19), (.int in_18), (.int 1)])) rfl (by rw [hml]; rfl) (argsL := [(.int 1), (.int in_18), (.int in_19)]) (rest := []) rfl (lenOf own_pd2 rfl) rfl (by show 2 * 0 + _ ≤ _; exact Nat.le_of_eq rfl) (hb hby at_126)
       refine oS s1691 ?_
       obtain ⟨ob_1692, ob_1693, kk_1694, rfl, N1695, K1696, F1697, F1698, F1699, F1700, F1701, F1702, F1703, F1704, F1705⟩ := q1690
       have N1706 := Fr.app N1477 N1695
       have R1707 : CHr Z own_EL s.vm h0 s.vm h1685 := R1478.trans (CHr.keep K1696 sf0 R1478.1)
       have z1708 := K1696.1
       have S1709 : Safe Z own_EL s.vm h1456 ob_1692 := Safe.new (by omega)
       have S1710 : Safe Z own_EL s.vm h1456 ob_1693 := Safe.new (by omega)
       show own_G p e below (T1684.setTop (mkF m 129 #[iv in_1, iv in_2, iv in_3, iv in_4, iv in_5, iv 5, iv 1, iv in_16, iv in_17, iv in_18, iv in_19, iv 1, rv ob_9, rv ob_1463, .unset, .unset, .unset, .unset] [(.ref ob_1692)])) _
       refine oS (fun _ => XS.astore X1688.here hx rfl (hb hby at_129) rfl rfl (l' := #[iv in_1, iv in_2, iv in_3, iv in_4, iv in_5, iv 5, iv 1, iv in_16, iv in_17, iv in_18, iv in_19, iv 1, rv ob_9, rv ob_1463, rv ob_1692, .unset, .unset, .unset]) rfl) ?_
       obtain ⟨T1711, h1712, X1713, e1714, E1715, A1716, D1717, U1720, s1718⟩ := newO X1688 hx hZ hown (oW hw 33 rfl) (oW hw 34 rfl) (oW hw 35 rfl) e1689 (g := (mkF m 131 #[iv in_1, iv in_2, iv in_3, iv in_4, iv in_5, iv 5, iv 1, iv in_16, iv in_17, iv in_18, iv in_19, iv 1, rv ob_9, rv ob_1463, rv ob_1692, .unset, .unset, .unset] [])) rfl (hb hby at_131) (by decide) (by decide)
       obtain ⟨ob_1721, g1722⟩ : ∃ z, z = h1685.size := ⟨_, rfl⟩
       rw [← g1722] at A1716 D1717 U1720 s1718
       have z1723 := E1715.1
       have y1719 : @LT.lt Nat instLTNat ob_1721 h1712.size := A1716.lt
       refine oS s1718 ?_
       have R1724 : CHr Z own_EL s.vm h0 s.vm h1712 := R1707.trans (CHr.ext E1715 R1707.1)
       have F1725 : Fld Z h1712 ob_1721 "com/example/latente/latente/query/JpqlLexer$Token" "kind" "Lcom/example/latente/latente/query/JpqlLexer$Kind;" .null := D1717 (Or.inr (oW hw 46 rfl)) (ty := (.object "com/example/latente/latente/query/JpqlLexer$Kind")) (by decide)
       have F1726 : Fld Z h1712 ob_1721 "com/example/latente/latente/query/JpqlLexer$Token" "text" "Ljava/lang/String;" .null := D1717 (Or.inr (oW hw 48 rfl)) (ty := (.object "java/lang/String")) (by decide)
       have F1727 : Fld Z h1712 ob_1721 "com/example/latente/latente/query/JpqlLexer$Token" "position" "I" (.int 0) := D1717 (Or.inr (oW hw 50 rfl)) (ty := .int) (by decide)
       show own_G p e below (T1711.setTop (mkF m 134 #[iv in_1, iv in_2, iv in_3, iv in_4, iv in_5, iv 5, iv 1, iv in_16, iv in_17, iv in_18, iv in_19, iv 1, rv ob_9, rv ob_1463, rv ob_1692, .unset, .unset, .unset] [(.ref ob_1721)])) _
       refine oS (fun _ => XS.dup X1713.here hx rfl (hb hby at_134) rfl rfl) ?_
       refine oS (fun _ => XS.aload X1713.here hx rfl (hb hby at_135) rfl rfl) ?_
       refine oS (fun _ => XS.aload X1713.here hx rfl (hb hby at_137) rfl rfl) ?_
       refine oS (fun _ => XS.iload X1713.here hx rfl (hb hby at_139) rfl) ?_
       show own_G p e below (T1711.setTop (mkF m 141 #[iv in_1, iv in_2, iv in_3, iv in_4, iv in_5, iv 5, iv 1, iv in_16, iv in_17, iv in_18, iv in_19, iv 1, rv ob_9, rv ob_1463, rv ob_1692, .unset, .unset, .unset] [(.int in_5), (.ref ob_1463), (.ref ob_9), (.ref ob_1721), (.ref ob_1721)])) _
       have N1728 : n0 ≤ ob_1721 := by omega
       have O1729 : Old Z n0 h1685 := O1682.keep K1696 all0
       have O1730 : Old Z n0 h1712 := O1729.ext E1715
       have Z1731 : n0 ≤ h1712.size := by omega
       obtain ⟨T1732, h1733, v1734, L1735, X1736, e1737, q1738, s1739⟩ := own_callN X1713 hx hZ hown e1714 (y := (⟨"com/example/latente/latente/query/JpqlLexer$Token", "<init>", "(Lcom/example/latente/latente/query/JpqlLexer$Kind;Ljava/lang/String;I)V"⟩ : MethodName)) (b := ob_1721) rfl (oW hw 36 rfl) (oW hw 37 rfl) (oW hw 35 rfl) (oW hw 38 rfl) (by decide) (W := 1) (own_rm11 l Z a0 hw [] ob_1721 ob_9 ob_1463 in_5 h1712 n0 Z1731 O1730 F1725 A1716 N1728 F1726 F1727) (by decide) (by decide) (by decide) (by decide) (g := (mkF m 141 #[iv in_1, iv in_2, iv in_3, iv in_4, iv in_5, iv 5, iv 1, iv in_16, iv in_17, iv in_18, iv in_19, iv 1, rv ob_9, rv ob_1463, rv ob_1692, .unset, .unset, .unset] [(.int in_5), (.ref ob_1463), (.ref ob_9), (.ref ob_1721), (.ref ob_1721)])) rfl (by rw [hml]; rfl) (argsL := [(.ref ob_9), (.ref ob_1463), (.int in_5)]) (rest := [(.ref ob_1721)]) rfl (lenOf own_pd4 rfl) rfl (by show 2 * 0 + _ ≤ _; exact Nat.le_of_eq rfl) (hb hby at_141)
       refine oS s1739 ?_
       obtain ⟨rfl, N1740, K1741, F1742, F1743, F1744, F1745⟩ := q1738
       have N1746 := Fr.app N1706 N1740
       have S1747 : Safe Z own_EL s.vm h1712 ob_1721 := Safe.exa hZ.alike A1716 (by decide) (by decide)
       have R1748 : CHr Z own_EL s.vm h0 s.vm h1733 := R1724.trans (CHr.keep K1741 (sfS S1747 sf0) R1724.1)
       have z1749 := K1741.1
       show own_G p e below (T1732.setTop (mkF m 144 #[iv in_1, iv in_2, iv in_3, iv in_4, iv in_5, iv 5, iv 1, iv in_16, iv in_17, iv in_18, iv in_19, iv 1, rv ob_9, rv ob_1463, rv ob_1692, .unset, .unset, .unset] [(.ref ob_1721)])) _
       refine oS (fun _ => XS.astore X1736.here hx rfl (hb hby at_144) rfl rfl (l' := #[iv in_1, iv in_2, iv in_3, iv in_4, iv in_5, iv 5, iv 1, iv in_16, iv in_17, iv in_18, iv in_19, iv 1, rv ob_9, rv ob_1463, rv ob_1692, rv ob_1721, .unset, .unset]) rfl) ?_
       refine oS (fun _ => XS.aload X1736.here hx rfl (hb hby at_146) rfl rfl) ?_
       refine oS (fun _ => XS.aload X1736.here hx rfl (hb hby at_148) rfl rfl) ?_
       have N1750 : @Ne Nat ob_1463 ob_1692 := by omega
       have F1751 : Exa Z h1712 ob_1692 "java/lang/String" := Exa.ext E1715 F1699
       have F1752 : Exa Z h1733 ob_1692 "java/lang/String" := F1751.keep K1741
       have F1753 : Fld Z h1685 ob_1463 "java/lang/String" "coder" "B" (.int 0) := F1472.keep K1696 nin0
       have F1754 : Fld Z h1712 ob_1463 "java/lang/String" "coder" "B" (.int 0) := Fld.ext E1715 F1753
       have N1755 : @Ne Nat ob_1463 ob_1721 := by omega
       have F1756 : Fld Z h1733 ob_1463 "java/lang/String" "coder" "B" (.int 0) := F1754.keep K1741 (ninS N1755 nin0)
       have F1757 : Fld Z h1712 ob_1692 "java/lang/String" "coder" "B" (.int 0) := Fld.ext E1715 F1701
       have N1758 : @Ne Nat ob_1692 ob_1721 := by omega
       have F1759 : Fld Z h1733 ob_1692 "java/lang/String" "coder" "B" (.int 0) := F1757.keep K1741 (ninS N1758 nin0)
       have F1760 : Fld Z h1685 ob_1463 "java/lang/String" "value" "[B" (.ref ob_1464) := F1471.keep K1696 nin0
       have F1761 : Fld Z h1712 ob_1463 "java/lang/String" "value" "[B" (.ref ob_1464) := Fld.ext E1715 F1760
       have F1762 : Fld Z h1733 ob_1463 "java/lang/String" "value" "[B" (.ref ob_1464) := F1761.keep K1741 (ninS N1755 nin0)
       have F1763 : Fld Z h1712 ob_1692 "java/lang/String" "value" "[B" (.ref ob_1693) := Fld.ext E1715 F1700
       have F1764 : Fld Z h1733 ob_1692 "java/lang/String" "value" "[B" (.ref ob_1693) := F1763.keep K1741 (ninS N1758 nin0)
       have F1765 : Arv Z h1685 ob_1464 kk_1465 .byte 1 [(.int (in_16.toInt8.toInt32))] (.int 0) := F1473.keep K1696 nin0
       have F1766 : Arv Z h1712 ob_1464 kk_1465 .byte 1 [(.int (in_16.toInt8.toInt32))] (.int 0) := F1765.ext E1715
       have N1767 : @Ne Nat ob_1464 ob_1721 := by omega
       have F1768 : Arv Z h1733 ob_1464 kk_1465 .byte 1 [(.int (in_16.toInt8.toInt32))] (.int 0) := F1766.keep K1741 (ninS N1767 nin0)
       have F1769 : Arv Z h1712 ob_1693 kk_1694 .byte 1 [(.int (in_18.toInt8.toInt32))] (.int 0) := F1702.ext E1715
       have N1770 : @Ne Nat ob_1693 ob_1721 := by omega
       have F1771 : Arv Z h1733 ob_1693 kk_1694 .byte 1 [(.int (in_18.toInt8.toInt32))] (.int 0) := F1769.keep K1741 (ninS N1770 nin0)
       have F1866 : Exa Z h1685 ob_1463 "java/lang/String" := F1470.keep K1696
       have F1867 : Exa Z h1712 ob_1463 "java/lang/String" := Exa.ext E1715 F1866
       have F1868 : Exa Z h1733 ob_1463 "java/lang/String" := F1867.keep K1741
       have O1880 : Old Z n0 h1733 := O1730.keep K1741 (allS N1728 all0)
       have Z1881 : n0 ≤ h1733.size := by omega
       obtain ⟨T1882, h1883, v1884, L1885, X1886, e1887, q1888, s1889⟩ := own_callV X1736 hx hZ hown e1737 (y := (⟨"com/example/latente/latente/query/JpqlLexer$Token", "isSymbol", "(Ljava/lang/String;)Z"⟩ : MethodName)) (z := (⟨"com/example/latente/latente/query/JpqlLexer$Token", "isSymbol", "(Ljava/lang/String;)Z"⟩ : MethodName)) (C := "com/example/latente/latente/query/JpqlLexer$Token") (b := ob_1721) (oW hw 51 rfl) (oW hw 52 rfl) (notFace_of_selects (args := #[]) (mvT hZ (oW hw 54 rfl))) (oW hw 54 rfl) (oW hw 53 rfl) (oW hw 35 rfl) (oW hw 55 rfl) (by decide) F1744 (W := 0) (own_rm36 l Z a0 hw [] ob_1721 ob_1692 ob_9 ob_1463 in_6 ob_1464 ob_1693 kk_1465 in_16 kk_1694 in_18 h1733 n0 Z1881 O1880 F1742 I460 F1743 N1750 F1752 I487 I495 F1756 F1759 F1762 F1764 F1768 F1771 F1868) (by decide) (by decide) (by decide) (by decide) (g := (mkF m 150 #[iv in_1, iv in_2, iv in_3, iv in_4, iv in_5, iv 5, iv 1, iv in_16, iv in_17, iv in_18, iv in_19, iv 1, rv ob_9, rv ob_1463, rv ob_1692, rv ob_1721, .unset, .unset] [(.ref ob_1692), (.ref ob_1721)])) rfl (by rw [hml]; rfl) (argsL := [(.ref ob_1692)]) (rest := []) rfl (lenOf own_pd7 rfl) rfl (by show 2 * 0 + _ ≤ _; exact Nat.le_of_eq rfl) (hb hby at_150)
       refine oS s1889 ?_
       rcases q1888 with ⟨b1890, rfl, N1891, K1892⟩ | ⟨b1893, rfl, N1894, K1895⟩
       · skip
         have N1896 := Fr.app N1746 N1891
         have e1897 := e1887.trans K1892
         show own_G p e below (T1882.setTop (mkF m 153 #[iv in_1, iv in_2, iv in_3, iv in_4, iv in_5, iv 5, iv 1, iv in_16, iv in_17, iv in_18, iv in_19, iv 1, rv ob_9, rv ob_1463, rv ob_1692, rv ob_1721, .unset, .unset] [(.int 1)])) _
         refine oS (fun _ => XS.istore X1886.here hx rfl (hb hby at_153) rfl (l' := #[iv in_1, iv in_2, iv in_3, iv in_4, iv in_5, iv 5, iv 1, iv in_16, iv in_17, iv in_18, iv in_19, iv 1, rv ob_9, rv ob_1463, rv ob_1692, rv ob_1721, iv 1, .unset]) rfl) ?_
         refine oS (fun _ => XS.iload X1886.here hx rfl (hb hby at_155) rfl) ?_
         refine oS (fun _ => XS.iconst X1886.here hx rfl (hb hby at_157) ) ?_
         refine oS (fun _ => XS.icmpNo X1886.here hx rfl (hb hby at_158) rfl (XT.ii_ne_f (by decide))) ?_
         show own_G p e below (T1882.setTop (mkF m 161 #[iv in_1, iv in_2, iv in_3, iv in_4, iv in_5, iv 5, iv 1, iv in_16, iv in_17, iv in_18, iv in_19, iv 1, rv ob_9, rv ob_1463, rv ob_1692, rv ob_1721, iv 1, .unset] [])) _
         refine oS (fun _ => XS.iload X1886.here hx rfl (hb hby at_161) rfl) ?_
         refine oS (fun _ => XS.iload X1886.here hx rfl (hb hby at_163) rfl) ?_
         refine oS (fun _ => XS.icmpNo X1886.here hx rfl (hb hby at_165) rfl (XT.ii_ne_f (by decide))) ?_
         show own_G p e below (T1882.setTop (mkF m 168 #[iv in_1, iv in_2, iv in_3, iv in_4, iv in_5, iv 5, iv 1, iv in_16, iv in_17, iv in_18, iv in_19, iv 1, rv ob_9, rv ob_1463, rv ob_1692, rv ob_1721, iv 1, .unset] [])) _
         refine oS (fun _ => XS.iload X1886.here hx rfl (hb hby at_168) rfl) ?_
         refine oS (fun _ => XS.iconst X1886.here hx rfl (hb hby at_170) ) ?_
         refine oS (fun _ => XS.icmpNo X1886.here hx rfl (hb hby at_171) rfl (XT.ii_lt_f (by decide))) ?_
         show own_G p e below (T1882.setTop (mkF m 174 #[iv in_1, iv in_2, iv in_3, iv in_4, iv in_5, iv 5, iv 1, iv in_16, iv in_17, iv in_18, iv in_19, iv 1, rv ob_9, rv ob_1463, rv ob_1692, rv ob_1721, iv 1, .unset] [])) _
         refine oS (fun _ => XS.iload X1886.here hx rfl (hb hby at_174) rfl) ?_
         refine oS (fun _ => XS.iload X1886.here hx rfl (hb hby at_176) rfl) ?_
         refine oS (fun _ => XS.icmpNo X1886.here hx rfl (hb hby at_178) rfl (XT.ii_ne_f (Eq.symm (own_b2c I29 I30 I35 I36 b1890)))) ?_
         show own_G p e below (T1882.setTop (mkF m 181 #[iv in_1, iv in_2, iv in_3, iv in_4, iv in_5, iv 5, iv 1, iv in_16, iv in_17, iv in_18, iv in_19, iv 1, rv ob_9, rv ob_1463, rv ob_1692, rv ob_1721, iv 1, .unset] [])) _
         refine oS (fun _ => XS.iload X1886.here hx rfl (hb hby at_181) rfl) ?_
         refine oS (fun _ => XS.iconst X1886.here hx rfl (hb hby at_183) ) ?_
         refine oS (fun _ => XS.icmpYes X1886.here hx rfl (pc0 := 184) (pc' := 194) rfl (hb hby at_184) rfl (XT.ii_lt_t (by decide)) (by decide) (by decide)) ?_
         show own_G p e below (T1882.setTop (mkF m 194 #[iv in_1, iv in_2, iv in_3, iv in_4, iv in_5, iv 5, iv 1, iv in_16, iv in_17, iv in_18, iv in_19, iv 1, rv ob_9, rv ob_1463, rv ob_1692, rv ob_1721, iv 1, .unset] [])) _
         refine oS (fun _ => XS.iconst X1886.here hx rfl (hb hby at_194) ) ?_
         refine oS (fun _ => XS.goto X1886.here hx rfl (pc0 := 195) (pc' := 199) rfl (hb hby at_195) (by decide) (by decide)) ?_
         show own_G p e below (T1882.setTop (mkF m 199 #[iv in_1, iv in_2, iv in_3, iv in_4, iv in_5, iv 5, iv 1, iv in_16, iv in_17, iv in_18, iv in_19, iv 1, rv ob_9, rv ob_1463, rv ob_1692, rv ob_1721, iv 1, .unset] [(.int 1)])) _
         refine oS (fun _ => XS.istore X1886.here hx rfl (hb hby at_199) rfl (l' := #[iv in_1, iv in_2, iv in_3, iv in_4, iv in_5, iv 5, iv 1, iv in_16, iv in_17, iv in_18, iv in_19, iv 1, rv ob_9, rv ob_1463, rv ob_1692, rv ob_1721, iv 1, iv 1]) rfl) ?_
         refine oS (fun _ => XS.iload X1886.here hx rfl (hb hby at_201) rfl) ?_
         refine oS (fun _ => XS.iload X1886.here hx rfl (hb hby at_203) rfl) ?_
         refine oS (fun _ => XS.icmpNo X1886.here hx rfl (hb hby at_205) rfl (XT.ii_ne_f (by decide))) ?_
         show own_G p e below (T1882.setTop (mkF m 208 #[iv in_1, iv in_2, iv in_3, iv in_4, iv in_5, iv 5, iv 1, iv in_16, iv in_17, iv in_18, iv in_19, iv 1, rv ob_9, rv ob_1463, rv ob_1692, rv ob_1721, iv 1, iv 1] [])) _
         refine oS (fun _ => XS.iconst X1886.here hx rfl (hb hby at_208) ) ?_
         refine oS (fun _ => XS.goto X1886.here hx rfl (pc0 := 209) (pc' := 213) rfl (hb hby at_209) (by decide) (by decide)) ?_
         show own_G p e below (T1882.setTop (mkF m 213 #[iv in_1, iv in_2, iv in_3, iv in_4, iv in_5, iv 5, iv 1, iv in_16, iv in_17, iv in_18, iv in_19, iv 1, rv ob_9, rv ob_1463, rv ob_1692, rv ob_1721, iv 1, iv 1] [(.int 1)])) _
         have K1898 : Keep h0 h1733 [] := (((((Keep.refl h0 []).trans K1467 all0).trans K1696 all0).ext E1715).trans K1741 (allS (Or.inr (by omega)) all0))
         exact own_retNW X1886 hx (t := .boolean) Bd.notSynchronized Bd.returns (by simp) (hb hby at_213) (by decide) hS hZ hEL hh R1748 e1897 (by omega) (by decide) (by decide) (⟨rfl, N1896⟩)
       · skip
         have N1899 := Fr.app N1746 N1894
         have e1900 := e1887.trans K1895
         show own_G p e below (T1882.setTop (mkF m 153 #[iv in_1, iv in_2, iv in_3, iv in_4, iv in_5, iv 5, iv 1, iv in_16, iv in_17, iv in_18, iv in_19, iv 1, rv ob_9, rv ob_1463, rv ob_1692, rv ob_1721, .unset, .unset] [(.int 0)])) _
         refine oS (fun _ => XS.istore X1886.here hx rfl (hb hby at_153) rfl (l' := #[iv in_1, iv in_2, iv in_3, iv in_4, iv in_5, iv 5, iv 1, iv in_16, iv in_17, iv in_18, iv in_19, iv 1, rv ob_9, rv ob_1463, rv ob_1692, rv ob_1721, iv 0, .unset]) rfl) ?_
         refine oS (fun _ => XS.iload X1886.here hx rfl (hb hby at_155) rfl) ?_
         refine oS (fun _ => XS.iconst X1886.here hx rfl (hb hby at_157) ) ?_
         refine oS (fun _ => XS.icmpNo X1886.here hx rfl (hb hby at_158) rfl (XT.ii_ne_f (by decide))) ?_
         show own_G p e below (T1882.setTop (mkF m 161 #[iv in_1, iv in_2, iv in_3, iv in_4, iv in_5, iv 5, iv 1, iv in_16, iv in_17, iv in_18, iv in_19, iv 1, rv ob_9, rv ob_1463, rv ob_1692, rv ob_1721, iv 0, .unset] [])) _
         refine oS (fun _ => XS.iload X1886.here hx rfl (hb hby at_161) rfl) ?_
         refine oS (fun _ => XS.iload X1886.here hx rfl (hb hby at_163) rfl) ?_
         refine oS (fun _ => XS.icmpNo X1886.here hx rfl (hb hby at_165) rfl (XT.ii_ne_f (by decide))) ?_
         show own_G p e below (T1882.setTop (mkF m 168 #[iv in_1, iv in_2, iv in_3, iv in_4, iv in_5, iv 5, iv 1, iv in_16, iv in_17, iv in_18, iv in_19, iv 1, rv ob_9, rv ob_1463, rv ob_1692, rv ob_1721, iv 0, .unset] [])) _
         refine oS (fun _ => XS.iload X1886.here hx rfl (hb hby at_168) rfl) ?_
         refine oS (fun _ => XS.iconst X1886.here hx rfl (hb hby at_170) ) ?_
         refine oS (fun _ => XS.icmpNo X1886.here hx rfl (hb hby at_171) rfl (XT.ii_lt_f (by decide))) ?_
         show own_G p e below (T1882.setTop (mkF m 174 #[iv in_1, iv in_2, iv in_3, iv in_4, iv in_5, iv 5, iv 1, iv in_16, iv in_17, iv in_18, iv in_19, iv 1, rv ob_9, rv ob_1463, rv ob_1692, rv ob_1721, iv 0, .unset] [])) _
         refine oS (fun _ => XS.iload X1886.here hx rfl (hb hby at_174) rfl) ?_
         refine oS (fun _ => XS.iload X1886.here hx rfl (hb hby at_176) rfl) ?_
         refine oS (fun _ => XS.icmpYes X1886.here hx rfl (pc0 := 178) (pc' := 198) rfl (hb hby at_178) rfl (XT.ii_ne_t (fun q => b1893 (by rw [q]))) (by decide) (by decide)) ?_
         show own_G p e below (T1882.setTop (mkF m 198 #[iv in_1, iv in_2, iv in_3, iv in_4, iv in_5, iv 5, iv 1, iv in_16, iv in_17, iv in_18, iv in_19, iv 1, rv ob_9, rv ob_1463, rv ob_1692, rv ob_1721, iv 0, .unset] [])) _
         refine oS (fun _ => XS.iconst X1886.here hx rfl (hb hby at_198) ) ?_
         refine oS (fun _ => XS.istore X1886.here hx rfl (hb hby at_199) rfl (l' := #[iv in_1, iv in_2, iv in_3, iv in_4, iv in_5, iv 5, iv 1, iv in_16, iv in_17, iv in_18, iv in_19, iv 1, rv ob_9, rv ob_1463, rv ob_1692, rv ob_1721, iv 0, iv 0]) rfl) ?_
         refine oS (fun _ => XS.iload X1886.here hx rfl (hb hby at_201) rfl) ?_
         refine oS (fun _ => XS.iload X1886.here hx rfl (hb hby at_203) rfl) ?_
         show own_G p e below (T1882.setTop (mkF m 205 #[iv in_1, iv in_2, iv in_3, iv in_4, iv in_5, iv 5, iv 1, iv in_16, iv in_17, iv in_18, iv in_19, iv 1, rv ob_9, rv ob_1463, rv ob_1692, rv ob_1721, iv 0, iv 0] [(.int 0), (.int 0)])) _
         refine oS (fun _ => XS.icmpNo X1886.here hx rfl (hb hby at_205) rfl (XT.ii_ne_f (by decide))) ?_
         show own_G p e below (T1882.setTop (mkF m 208 #[iv in_1, iv in_2, iv in_3, iv in_4, iv in_5, iv 5, iv 1, iv in_16, iv in_17, iv in_18, iv in_19, iv 1, rv ob_9, rv ob_1463, rv ob_1692, rv ob_1721, iv 0, iv 0] [])) _
         refine oS (fun _ => XS.iconst X1886.here hx rfl (hb hby at_208) ) ?_
         refine oS (fun _ => XS.goto X1886.here hx rfl (pc0 := 209) (pc' := 213) rfl (hb hby at_209) (by decide) (by decide)) ?_
         show own_G p e below (T1882.setTop (mkF m 213 #[iv in_1, iv in_2, iv in_3, iv in_4, iv in_5, iv 5, iv 1, iv in_16, iv in_17, iv in_18, iv in_19, iv 1, rv ob_9, rv ob_1463, rv ob_1692, rv ob_1721, iv 0, iv 0] [(.int 1)])) _
         have K1901 : Keep h0 h1733 [] := (((((Keep.refl h0 []).trans K1467 all0).trans K1696 all0).ext E1715).trans K1741 (allS (Or.inr (by omega)) all0))
         exact own_retNW X1886 hx (t := .boolean) Bd.notSynchronized Bd.returns (by simp) (hb hby at_213) (by decide) hS hZ hEL hh R1748 e1900 (by omega) (by decide) (by decide) (⟨rfl, N1899⟩)
     · skip
       refine own_cast (g' := (mkF m 120 #[iv in_1, iv in_2, iv in_3, iv in_4, iv in_5, iv 5, iv 1, iv in_16, iv in_17, iv in_18, iv in_19, iv 2, rv ob_9, rv ob_1463, .unset, .unset, .unset, .unset] [])) (by rw [q1484]) ?_
       show own_G p e below (T1455.setTop (mkF m 120 #[iv in_1, iv in_2, iv in_3, iv in_4, iv in_5, iv 5, iv 1, iv in_16, iv in_17, iv in_18, iv in_19, iv 2, rv ob_9, rv ob_1463, .unset, .unset, .unset, .unset] [])) _
       refine oS (fun _ => XS.iload X1459.here hx rfl (hb hby at_120) rfl) ?_
       refine oS (fun _ => XS.iload X1459.here hx rfl (hb hby at_122) rfl) ?_
       refine oS (fun _ => XS.iload X1459.here hx rfl (hb hby at_124) rfl) ?_
       have O1902 : Old Z n0 h1456 := O0.keep K1467 all0
       have Z1903 : n0 ≤ h1456.size := by omega
       obtain ⟨T1904, h1905, v1906, L1907, X1908, e1909, q1910, s1911⟩ := own_callS X1459 hx hZ hown e1460 (y := (⟨"com/example/latente/latente/query/TokenIsSymbolPinLaw", "str", "(ICC)Ljava/lang/String;"⟩ : MethodName)) (oW hw 8 rfl) (oW hw 9 rfl) (oW hw 3 rfl) (oW hw 10 rfl) (by decide) (W := 0) (own_rm24 l Z a0 hw [] in_18 in_19 in_6 h1456 n0 Z1903 O1902 I37 I40 I487 I495 I36 I39) (by decide) (by decide) (by decide) (by decide) (g := (mkF m 126 #[iv in_1, iv in_2, iv in_3, iv in_4, iv in_5, iv 5, iv 1, iv in_16, iv in_17, iv in_18, iv in_19, iv 2, rv ob_9, rv ob_1463, .unset, .unset, .unset, .unset] [(.int in_19), (.int in_18), (.int 2)])) rfl (by rw [hml]; rfl) (argsL := [(.int 2), (.int in_18), (.int in_19)]) (rest := []) rfl (lenOf own_pd2 rfl) rfl (by show 2 * 0 + _ ≤ _; exact Nat.le_of_eq rfl) (hb hby at_126)
       refine oS s1911 ?_
       obtain ⟨ob_1912, ob_1913, kk_1914, rfl, N1915, K1916, F1917, F1918, F1919, F1920, F1921, F1922, F1923, F1924, F1925⟩ := q1910
       have N1926 := Fr.app N1477 N1915
       have R1927 : CHr Z own_EL s.vm h0 s.vm h1905 := R1478.trans (CHr.keep K1916 sf0 R1478.1)
       have z1928 := K1916.1
       have S1929 : Safe Z own_EL s.vm h1456 ob_1912 := Safe.new (by omega)
       have S1930 : Safe Z own_EL s.vm h1456 ob_1913 := Safe.new (by omega)
       show own_G p e below (T1904.setTop (mkF m 129 #[iv in_1, iv in_2, iv in_3, iv in_4, iv in_5, iv 5, iv 1, iv in_16, iv in_17, iv in_18, iv in_19, iv 2, rv ob_9, rv ob_1463, .unset, .unset, .unset, .unset] [(.ref ob_1912)])) _
       refine oS (fun _ => XS.astore X1908.here hx rfl (hb hby at_129) rfl rfl (l' := #[iv in_1, iv in_2, iv in_3, iv in_4, iv in_5, iv 5, iv 1, iv in_16, iv in_17, iv in_18, iv in_19, iv 2, rv ob_9, rv ob_1463, rv ob_1912, .unset, .unset, .unset]) rfl) ?_
       obtain ⟨T1931, h1932, X1933, e1934, E1935, A1936, D1937, U1940, s1938⟩ := newO X1908 hx hZ hown (oW hw 33 rfl) (oW hw 34 rfl) (oW hw 35 rfl) e1909 (g := (mkF m 131 #[iv in_1, iv in_2, iv in_3, iv in_4, iv in_5, iv 5, iv 1, iv in_16, iv in_17, iv in_18, iv in_19, iv 2, rv ob_9, rv ob_1463, rv ob_1912, .unset, .unset, .unset] [])) rfl (hb hby at_131) (by decide) (by decide)
       obtain ⟨ob_1941, g1942⟩ : ∃ z, z = h1905.size := ⟨_, rfl⟩
       rw [← g1942] at A1936 D1937 U1940 s1938
       have z1943 := E1935.1
       have y1939 : @LT.lt Nat instLTNat ob_1941 h1932.size := A1936.lt
       refine oS s1938 ?_
       have R1944 : CHr Z own_EL s.vm h0 s.vm h1932 := R1927.trans (CHr.ext E1935 R1927.1)
       have F1945 : Fld Z h1932 ob_1941 "com/example/latente/latente/query/JpqlLexer$Token" "kind" "Lcom/example/latente/latente/query/JpqlLexer$Kind;" .null := D1937 (Or.inr (oW hw 46 rfl)) (ty := (.object "com/example/latente/latente/query/JpqlLexer$Kind")) (by decide)
       have F1946 : Fld Z h1932 ob_1941 "com/example/latente/latente/query/JpqlLexer$Token" "text" "Ljava/lang/String;" .null := D1937 (Or.inr (oW hw 48 rfl)) (ty := (.object "java/lang/String")) (by decide)
       have F1947 : Fld Z h1932 ob_1941 "com/example/latente/latente/query/JpqlLexer$Token" "position" "I" (.int 0) := D1937 (Or.inr (oW hw 50 rfl)) (ty := .int) (by decide)
       show own_G p e below (T1931.setTop (mkF m 134 #[iv in_1, iv in_2, iv in_3, iv in_4, iv in_5, iv 5, iv 1, iv in_16, iv in_17, iv in_18, iv in_19, iv 2, rv ob_9, rv ob_1463, rv ob_1912, .unset, .unset, .unset] [(.ref ob_1941)])) _
       refine oS (fun _ => XS.dup X1933.here hx rfl (hb hby at_134) rfl rfl) ?_
       refine oS (fun _ => XS.aload X1933.here hx rfl (hb hby at_135) rfl rfl) ?_
       refine oS (fun _ => XS.aload X1933.here hx rfl (hb hby at_137) rfl rfl) ?_
       refine oS (fun _ => XS.iload X1933.here hx rfl (hb hby at_139) rfl) ?_
       show own_G p e below (T1931.setTop (mkF m 141 #[iv in_1, iv in_2, iv in_3, iv in_4, iv in_5, iv 5, iv 1, iv in_16, iv in_17, iv in_18, iv in_19, iv 2, rv ob_9, rv ob_1463, rv ob_1912, .unset, .unset, .unset] [(.int in_5), (.ref ob_1463), (.ref ob_9), (.ref ob_1941), (.ref ob_1941)])) _
       have N1948 : n0 ≤ ob_1941 := by omega
       have O1949 : Old Z n0 h1905 := O1902.keep K1916 all0
       have O1950 : Old Z n0 h1932 := O1949.ext E1935
       have Z1951 : n0 ≤ h1932.size := by omega
       obtain ⟨T1952, h1953, v1954, L1955, X1956, e1957, q1958, s1959⟩ := own_callN X1933 hx hZ hown e1934 (y := (⟨"com/example/latente/latente/query/JpqlLexer$Token", "<init>", "(Lcom/example/latente/latente/query/JpqlLexer$Kind;Ljava/lang/String;I)V"⟩ : MethodName)) (b := ob_1941) rfl (oW hw 36 rfl) (oW hw 37 rfl) (oW hw 35 rfl) (oW hw 38 rfl) (by decide) (W := 1) (own_rm11 l Z a0 hw [] ob_1941 ob_9 ob_1463 in_5 h1932 n0 Z1951 O1950 F1945 A1936 N1948 F1946 F1947) (by decide) (by decide) (by decide) (by decide) (g := (mkF m 141 #[iv in_1, iv in_2, iv in_3, iv in_4, iv in_5, iv 5, iv 1, iv in_16, iv in_17, iv in_18, iv in_19, iv 2, rv ob_9, rv ob_1463, rv ob_1912, .unset, .unset, .unset] [(.int in_5), (.ref ob_1463), (.ref ob_9), (.ref ob_1941), (.ref ob_1941)])) rfl (by rw [hml]; rfl) (argsL := [(.ref ob_9), (.ref ob_1463), (.int in_5)]) (rest := [(.ref ob_1941)]) rfl (lenOf own_pd4 rfl) rfl (by show 2 * 0 + _ ≤ _; exact Nat.le_of_eq rfl) (hb hby at_141)
       refine oS s1959 ?_
       obtain ⟨rfl, N1960, K1961, F1962, F1963, F1964, F1965⟩ := q1958
       have N1966 := Fr.app N1926 N1960
       have S1967 : Safe Z own_EL s.vm h1932 ob_1941 := Safe.exa hZ.alike A1936 (by decide) (by decide)
       have R1968 : CHr Z own_EL s.vm h0 s.vm h1953 := R1944.trans (CHr.keep K1961 (sfS S1967 sf0) R1944.1)
       have z1969 := K1961.1
       show own_G p e below (T1952.setTop (mkF m 144 #[iv in_1, iv in_2, iv in_3, iv in_4, iv in_5, iv 5, iv 1, iv in_16, iv in_17, iv in_18, iv in_19, iv 2, rv ob_9, rv ob_1463, rv ob_1912, .unset, .unset, .unset] [(.ref ob_1941)])) _
       refine oS (fun _ => XS.astore X1956.here hx rfl (hb hby at_144) rfl rfl (l' := #[iv in_1, iv in_2, iv in_3, iv in_4, iv in_5, iv 5, iv 1, iv in_16, iv in_17, iv in_18, iv in_19, iv 2, rv ob_9, rv ob_1463, rv ob_1912, rv ob_1941, .unset, .unset]) rfl) ?_
       refine oS (fun _ => XS.aload X1956.here hx rfl (hb hby at_146) rfl rfl) ?_
       refine oS (fun _ => XS.aload X1956.here hx rfl (hb hby at_148) rfl rfl) ?_
       have N1970 : @Ne Nat ob_1463 ob_1912 := by omega
       have F1971 : Exa Z h1932 ob_1912 "java/lang/String" := Exa.ext E1935 F1919
       have F1972 : Exa Z h1953 ob_1912 "java/lang/String" := F1971.keep K1961
       have F1973 : Fld Z h1905 ob_1463 "java/lang/String" "coder" "B" (.int 0) := F1472.keep K1916 nin0
       have F1974 : Fld Z h1932 ob_1463 "java/lang/String" "coder" "B" (.int 0) := Fld.ext E1935 F1973
       have N1975 : @Ne Nat ob_1463 ob_1941 := by omega
       have F1976 : Fld Z h1953 ob_1463 "java/lang/String" "coder" "B" (.int 0) := F1974.keep K1961 (ninS N1975 nin0)
       have F1977 : Fld Z h1932 ob_1912 "java/lang/String" "coder" "B" (.int 0) := Fld.ext E1935 F1921
       have N1978 : @Ne Nat ob_1912 ob_1941 := by omega
       have F1979 : Fld Z h1953 ob_1912 "java/lang/String" "coder" "B" (.int 0) := F1977.keep K1961 (ninS N1978 nin0)
       have F1980 : Fld Z h1905 ob_1463 "java/lang/String" "value" "[B" (.ref ob_1464) := F1471.keep K1916 nin0
       have F1981 : Fld Z h1932 ob_1463 "java/lang/String" "value" "[B" (.ref ob_1464) := Fld.ext E1935 F1980
       have F1982 : Fld Z h1953 ob_1463 "java/lang/String" "value" "[B" (.ref ob_1464) := F1981.keep K1961 (ninS N1975 nin0)
       have F1983 : Fld Z h1932 ob_1912 "java/lang/String" "value" "[B" (.ref ob_1913) := Fld.ext E1935 F1920
       have F1984 : Fld Z h1953 ob_1912 "java/lang/String" "value" "[B" (.ref ob_1913) := F1983.keep K1961 (ninS N1978 nin0)
       have F1985 : Arv Z h1905 ob_1464 kk_1465 .byte 1 [(.int (in_16.toInt8.toInt32))] (.int 0) := F1473.keep K1916 nin0
       have F1986 : Arv Z h1932 ob_1464 kk_1465 .byte 1 [(.int (in_16.toInt8.toInt32))] (.int 0) := F1985.ext E1935
       have N1987 : @Ne Nat ob_1464 ob_1941 := by omega
       have F1988 : Arv Z h1953 ob_1464 kk_1465 .byte 1 [(.int (in_16.toInt8.toInt32))] (.int 0) := F1986.keep K1961 (ninS N1987 nin0)
       have F1989 : Arv Z h1932 ob_1913 kk_1914 .byte 2 [(.int (in_18.toInt8.toInt32)), (.int (in_19.toInt8.toInt32))] (.int 0) := F1922.ext E1935
       have N1990 : @Ne Nat ob_1913 ob_1941 := by omega
       have F1991 : Arv Z h1953 ob_1913 kk_1914 .byte 2 [(.int (in_18.toInt8.toInt32)), (.int (in_19.toInt8.toInt32))] (.int 0) := F1989.keep K1961 (ninS N1990 nin0)
       have F2079 : Exa Z h1905 ob_1463 "java/lang/String" := F1470.keep K1916
       have F2080 : Exa Z h1932 ob_1463 "java/lang/String" := Exa.ext E1935 F2079
       have F2081 : Exa Z h1953 ob_1463 "java/lang/String" := F2080.keep K1961
       have O2087 : Old Z n0 h1953 := O1950.keep K1961 (allS N1948 all0)
       have Z2088 : n0 ≤ h1953.size := by omega
       obtain ⟨T2089, h2090, v2091, L2092, X2093, e2094, q2095, s2096⟩ := own_callV X1956 hx hZ hown e1957 (y := (⟨"com/example/latente/latente/query/JpqlLexer$Token", "isSymbol", "(Ljava/lang/String;)Z"⟩ : MethodName)) (z := (⟨"com/example/latente/latente/query/JpqlLexer$Token", "isSymbol", "(Ljava/lang/String;)Z"⟩ : MethodName)) (C := "com/example/latente/latente/query/JpqlLexer$Token") (b := ob_1941) (oW hw 51 rfl) (oW hw 52 rfl) (notFace_of_selects (args := #[]) (mvT hZ (oW hw 54 rfl))) (oW hw 54 rfl) (oW hw 53 rfl) (oW hw 35 rfl) (oW hw 55 rfl) (by decide) F1964 (W := 0) (own_rm39 l Z a0 hw [] ob_1941 ob_1912 ob_9 ob_1463 in_6 ob_1464 ob_1913 kk_1465 in_16 kk_1914 in_18 in_19 h1953 n0 Z2088 O2087 F1962 I460 F1963 N1970 F1972 I487 I495 F1976 F1979 F1982 F1984 F1988 F1991 F2081) (by decide) (by decide) (by decide) (by decide) (g := (mkF m 150 #[iv in_1, iv in_2, iv in_3, iv in_4, iv in_5, iv 5, iv 1, iv in_16, iv in_17, iv in_18, iv in_19, iv 2, rv ob_9, rv ob_1463, rv ob_1912, rv ob_1941, .unset, .unset] [(.ref ob_1912), (.ref ob_1941)])) rfl (by rw [hml]; rfl) (argsL := [(.ref ob_1912)]) (rest := []) rfl (lenOf own_pd7 rfl) rfl (by show 2 * 0 + _ ≤ _; exact Nat.le_of_eq rfl) (hb hby at_150)
       refine oS s2096 ?_
       obtain ⟨rfl, N2097, K2098⟩ := q2095
       have N2099 := Fr.app N1966 N2097
       have e2100 := e2094.trans K2098
       show own_G p e below (T2089.setTop (mkF m 153 #[iv in_1, iv in_2, iv in_3, iv in_4, iv in_5, iv 5, iv 1, iv in_16, iv in_17, iv in_18, iv in_19, iv 2, rv ob_9, rv ob_1463, rv ob_1912, rv ob_1941, .unset, .unset] [(.int 0)])) _
       refine oS (fun _ => XS.istore X2093.here hx rfl (hb hby at_153) rfl (l' := #[iv in_1, iv in_2, iv in_3, iv in_4, iv in_5, iv 5, iv 1, iv in_16, iv in_17, iv in_18, iv in_19, iv 2, rv ob_9, rv ob_1463, rv ob_1912, rv ob_1941, iv 0, .unset]) rfl) ?_
       refine oS (fun _ => XS.iload X2093.here hx rfl (hb hby at_155) rfl) ?_
       refine oS (fun _ => XS.iconst X2093.here hx rfl (hb hby at_157) ) ?_
       refine oS (fun _ => XS.icmpNo X2093.here hx rfl (hb hby at_158) rfl (XT.ii_ne_f (by decide))) ?_
       show own_G p e below (T2089.setTop (mkF m 161 #[iv in_1, iv in_2, iv in_3, iv in_4, iv in_5, iv 5, iv 1, iv in_16, iv in_17, iv in_18, iv in_19, iv 2, rv ob_9, rv ob_1463, rv ob_1912, rv ob_1941, iv 0, .unset] [])) _
       refine oS (fun _ => XS.iload X2093.here hx rfl (hb hby at_161) rfl) ?_
       refine oS (fun _ => XS.iload X2093.here hx rfl (hb hby at_163) rfl) ?_
       refine oS (fun _ => XS.icmpYes X2093.here hx rfl (pc0 := 165) (pc' := 198) rfl (hb hby at_165) rfl (XT.ii_ne_t (by decide)) (by decide) (by decide)) ?_
       show own_G p e below (T2089.setTop (mkF m 198 #[iv in_1, iv in_2, iv in_3, iv in_4, iv in_5, iv 5, iv 1, iv in_16, iv in_17, iv in_18, iv in_19, iv 2, rv ob_9, rv ob_1463, rv ob_1912, rv ob_1941, iv 0, .unset] [])) _
       refine oS (fun _ => XS.iconst X2093.here hx rfl (hb hby at_198) ) ?_
       refine oS (fun _ => XS.istore X2093.here hx rfl (hb hby at_199) rfl (l' := #[iv in_1, iv in_2, iv in_3, iv in_4, iv in_5, iv 5, iv 1, iv in_16, iv in_17, iv in_18, iv in_19, iv 2, rv ob_9, rv ob_1463, rv ob_1912, rv ob_1941, iv 0, iv 0]) rfl) ?_
       refine oS (fun _ => XS.iload X2093.here hx rfl (hb hby at_201) rfl) ?_
       refine oS (fun _ => XS.iload X2093.here hx rfl (hb hby at_203) rfl) ?_
       show own_G p e below (T2089.setTop (mkF m 205 #[iv in_1, iv in_2, iv in_3, iv in_4, iv in_5, iv 5, iv 1, iv in_16, iv in_17, iv in_18, iv in_19, iv 2, rv ob_9, rv ob_1463, rv ob_1912, rv ob_1941, iv 0, iv 0] [(.int 0), (.int 0)])) _
       refine oS (fun _ => XS.icmpNo X2093.here hx rfl (hb hby at_205) rfl (XT.ii_ne_f (by decide))) ?_
       show own_G p e below (T2089.setTop (mkF m 208 #[iv in_1, iv in_2, iv in_3, iv in_4, iv in_5, iv 5, iv 1, iv in_16, iv in_17, iv in_18, iv in_19, iv 2, rv ob_9, rv ob_1463, rv ob_1912, rv ob_1941, iv 0, iv 0] [])) _
       refine oS (fun _ => XS.iconst X2093.here hx rfl (hb hby at_208) ) ?_
       refine oS (fun _ => XS.goto X2093.here hx rfl (pc0 := 209) (pc' := 213) rfl (hb hby at_209) (by decide) (by decide)) ?_
       show own_G p e below (T2089.setTop (mkF m 213 #[iv in_1, iv in_2, iv in_3, iv in_4, iv in_5, iv 5, iv 1, iv in_16, iv in_17, iv in_18, iv in_19, iv 2, rv ob_9, rv ob_1463, rv ob_1912, rv ob_1941, iv 0, iv 0] [(.int 1)])) _
       have K2101 : Keep h0 h1953 [] := (((((Keep.refl h0 []).trans K1467 all0).trans K1916 all0).ext E1935).trans K1961 (allS (Or.inr (by omega)) all0))
       exact own_retNW X2093 hx (t := .boolean) Bd.notSynchronized Bd.returns (by simp) (hb hby at_213) (by decide) hS hZ hEL hh R1968 e2100 (by omega) (by decide) (by decide) (⟨rfl, N2099⟩)
   · skip
     refine own_cast (g' := (mkF m 109 #[iv in_1, iv in_2, iv in_3, iv in_4, iv in_5, iv 5, iv 2, iv in_16, iv in_17, iv in_18, iv in_19, iv in_20, rv ob_9, .unset, .unset, .unset, .unset, .unset] [])) (by rw [q43]) ?_
     show own_G p e below (T22.setTop (mkF m 109 #[iv in_1, iv in_2, iv in_3, iv in_4, iv in_5, iv 5, iv 2, iv in_16, iv in_17, iv in_18, iv in_19, iv in_20, rv ob_9, .unset, .unset, .unset, .unset, .unset] [])) _
     refine oS (fun _ => XS.iload X23.here hx rfl (hb hby at_109) rfl) ?_
     refine oS (fun _ => XS.iload X23.here hx rfl (hb hby at_111) rfl) ?_
     refine oS (fun _ => XS.iload X23.here hx rfl (hb hby at_113) rfl) ?_
     obtain ⟨T2102, h2103, v2104, L2105, X2106, e2107, q2108, s2109⟩ := own_callS X23 hx hZ hown e24 (y := (⟨"com/example/latente/latente/query/TokenIsSymbolPinLaw", "str", "(ICC)Ljava/lang/String;"⟩ : MethodName)) (oW hw 8 rfl) (oW hw 9 rfl) (oW hw 3 rfl) (oW hw 10 rfl) (by decide) (W := 0) (own_rm24 l Z a0 hw [] in_16 in_17 in_6 h0 n0 Z0 O0 I31 I34 I487 I495 I30 I33) (by decide) (by decide) (by decide) (by decide) (g := (mkF m 115 #[iv in_1, iv in_2, iv in_3, iv in_4, iv in_5, iv 5, iv 2, iv in_16, iv in_17, iv in_18, iv in_19, iv in_20, rv ob_9, .unset, .unset, .unset, .unset, .unset] [(.int in_17), (.int in_16), (.int 2)])) rfl (by rw [hml]; rfl) (argsL := [(.int 2), (.int in_16), (.int in_17)]) (rest := []) rfl (lenOf own_pd2 rfl) rfl (by show 2 * 0 + _ ≤ _; exact Nat.le_of_eq rfl) (hb hby at_115)
     refine oS s2109 ?_
     obtain ⟨ob_2110, ob_2111, kk_2112, rfl, N2113, K2114, F2115, F2116, F2117, F2118, F2119, F2120, F2121, F2122, F2123⟩ := q2108
     have N2124 := Fr.app N26 N2113
     have R2125 : CHr Z own_EL s.vm h0 s.vm h2103 := hR.trans (CHr.keep K2114 sf0 hR.1)
     have z2126 := K2114.1
     have S2127 : Safe Z own_EL s.vm h0 ob_2110 := Safe.new (by omega)
     have S2128 : Safe Z own_EL s.vm h0 ob_2111 := Safe.new (by omega)
     show own_G p e below (T2102.setTop (mkF m 118 #[iv in_1, iv in_2, iv in_3, iv in_4, iv in_5, iv 5, iv 2, iv in_16, iv in_17, iv in_18, iv in_19, iv in_20, rv ob_9, .unset, .unset, .unset, .unset, .unset] [(.ref ob_2110)])) _
     refine oS (fun _ => XS.astore X2106.here hx rfl (hb hby at_118) rfl rfl (l' := #[iv in_1, iv in_2, iv in_3, iv in_4, iv in_5, iv 5, iv 2, iv in_16, iv in_17, iv in_18, iv in_19, iv in_20, rv ob_9, rv ob_2110, .unset, .unset, .unset, .unset]) rfl) ?_
     show own_G p e below (T2102.setTop (mkF m 120 #[iv in_1, iv in_2, iv in_3, iv in_4, iv in_5, iv 5, iv 2, iv in_16, iv in_17, iv in_18, iv in_19, iv in_20, rv ob_9, rv ob_2110, .unset, .unset, .unset, .unset] [])) _
     rcases own_in3 I28 with q2129 | q2130 | q2131
     · skip
       refine own_cast (g' := (mkF m 120 #[iv in_1, iv in_2, iv in_3, iv in_4, iv in_5, iv 5, iv 2, iv in_16, iv in_17, iv in_18, iv in_19, iv 0, rv ob_9, rv ob_2110, .unset, .unset, .unset, .unset] [])) (by rw [q2129]) ?_
       show own_G p e below (T2102.setTop (mkF m 120 #[iv in_1, iv in_2, iv in_3, iv in_4, iv in_5, iv 5, iv 2, iv in_16, iv in_17, iv in_18, iv in_19, iv 0, rv ob_9, rv ob_2110, .unset, .unset, .unset, .unset] [])) _
       refine oS (fun _ => XS.iload X2106.here hx rfl (hb hby at_120) rfl) ?_
       refine oS (fun _ => XS.iload X2106.here hx rfl (hb hby at_122) rfl) ?_
       refine oS (fun _ => XS.iload X2106.here hx rfl (hb hby at_124) rfl) ?_
       have O2132 : Old Z n0 h2103 := O0.keep K2114 all0
       have Z2133 : n0 ≤ h2103.size := by omega
       obtain ⟨T2134, h2135, v2136, L2137, X2138, e2139, q2140, hS, hZ, hown, A2141, s2142⟩ := own_callSW X2106 hx hZ hown e2107 (y := (⟨"com/example/latente/latente/query/TokenIsSymbolPinLaw", "str", "(ICC)Ljava/lang/String;"⟩ : MethodName)) (sf := []) (oW hw 8 rfl) (oW hw 9 rfl) (oW hw 3 rfl) (oW hw 10 rfl) (by decide) hS (by omega) hEL R2125.1 sf0 all0 (W := 0) (own_rm5 l Z a0 hw hEL [] in_18 in_19 h2103 n0 Z2133 O2132 ) (by decide) (by decide) (by decide) (by decide) (g := (mkF m 126 #[iv in_1, iv in_2, iv in_3, iv in_4, iv in_5, iv 5, iv 2, iv in_16, iv in_17, iv in_18, iv in_19, iv 0, rv ob_9, rv ob_2110, .unset, .unset, .unset, .unset] [(.int in_19), (.int in_18), (.int 0)])) rfl (by rw [hml]; rfl) (argsL := [(.int 0), (.int in_18), (.int in_19)]) (rest := []) rfl (lenOf own_pd2 rfl) rfl (by show 2 * 0 + _ ≤ _; exact Nat.le_of_eq rfl) (hb hby at_126)
       refine oS s2142 ?_
       obtain ⟨ob_2143, ob_2144, kk_2145, rfl, N2146, K2147, F2148, F2149, F2150, F2151, F2152, F2153, F2154⟩ := q2140
       have N2155 := Fr.app N2124 N2146
       have R2156 : CHr Z own_EL s.vm h0 T2134.vm h2135 := R2125.trans A2141
       have z2157 := K2147.1
       show own_G p e below (T2134.setTop (mkF m 129 #[iv in_1, iv in_2, iv in_3, iv in_4, iv in_5, iv 5, iv 2, iv in_16, iv in_17, iv in_18, iv in_19, iv 0, rv ob_9, rv ob_2110, .unset, .unset, .unset, .unset] [(.ref ob_2143)])) _
       refine oS (fun _ => XS.astore X2138.here hx rfl (hb hby at_129) rfl rfl (l' := #[iv in_1, iv in_2, iv in_3, iv in_4, iv in_5, iv 5, iv 2, iv in_16, iv in_17, iv in_18, iv in_19, iv 0, rv ob_9, rv ob_2110, rv ob_2143, .unset, .unset, .unset]) rfl) ?_
       obtain ⟨T2158, h2159, X2160, e2161, E2162, A2163, D2164, U2167, s2165⟩ := newO X2138 hx hZ hown (oW hw 33 rfl) (oW hw 34 rfl) (oW hw 35 rfl) e2139 (g := (mkF m 131 #[iv in_1, iv in_2, iv in_3, iv in_4, iv in_5, iv 5, iv 2, iv in_16, iv in_17, iv in_18, iv in_19, iv 0, rv ob_9, rv ob_2110, rv ob_2143, .unset, .unset, .unset] [])) rfl (hb hby at_131) (by decide) (by decide)
       obtain ⟨ob_2168, g2169⟩ : ∃ z, z = h2135.size := ⟨_, rfl⟩
       rw [← g2169] at A2163 D2164 U2167 s2165
       have z2170 := E2162.1
       have y2166 : @LT.lt Nat instLTNat ob_2168 h2159.size := A2163.lt
       refine oS s2165 ?_
       have R2171 : CHr Z own_EL s.vm h0 T2134.vm h2159 := R2156.trans (CHr.ext E2162 R2156.1)
       have F2172 : Fld Z h2159 ob_2168 "com/example/latente/latente/query/JpqlLexer$Token" "kind" "Lcom/example/latente/latente/query/JpqlLexer$Kind;" .null := D2164 (Or.inr (oW hw 46 rfl)) (ty := (.object "com/example/latente/latente/query/JpqlLexer$Kind")) (by decide)
       have F2173 : Fld Z h2159 ob_2168 "com/example/latente/latente/query/JpqlLexer$Token" "text" "Ljava/lang/String;" .null := D2164 (Or.inr (oW hw 48 rfl)) (ty := (.object "java/lang/String")) (by decide)
       have F2174 : Fld Z h2159 ob_2168 "com/example/latente/latente/query/JpqlLexer$Token" "position" "I" (.int 0) := D2164 (Or.inr (oW hw 50 rfl)) (ty := .int) (by decide)
       show own_G p e below (T2158.setTop (mkF m 134 #[iv in_1, iv in_2, iv in_3, iv in_4, iv in_5, iv 5, iv 2, iv in_16, iv in_17, iv in_18, iv in_19, iv 0, rv ob_9, rv ob_2110, rv ob_2143, .unset, .unset, .unset] [(.ref ob_2168)])) _
       refine oS (fun _ => XS.dup X2160.here hx rfl (hb hby at_134) rfl rfl) ?_
       refine oS (fun _ => XS.aload X2160.here hx rfl (hb hby at_135) rfl rfl) ?_
       refine oS (fun _ => XS.aload X2160.here hx rfl (hb hby at_137) rfl rfl) ?_
       refine oS (fun _ => XS.iload X2160.here hx rfl (hb hby at_139) rfl) ?_
       show own_G p e below (T2158.setTop (mkF m 141 #[iv in_1, iv in_2, iv in_3, iv in_4, iv in_5, iv 5, iv 2, iv in_16, iv in_17, iv in_18, iv in_19, iv 0, rv ob_9, rv ob_2110, rv ob_2143, .unset, .unset, .unset] [(.int in_5), (.ref ob_2110), (.ref ob_9), (.ref ob_2168), (.ref ob_2168)])) _
       have N2175 : n0 ≤ ob_2168 := by omega
       have O2176 : Old Z n0 h2135 := O2132.keep K2147 all0
       have O2177 : Old Z n0 h2159 := O2176.ext E2162
       have Z2178 : n0 ≤ h2159.size := by omega
       obtain ⟨T2179, h2180, v2181, L2182, X2183, e2184, q2185, s2186⟩ := own_callN X2160 hx hZ hown e2161 (y := (⟨"com/example/latente/latente/query/JpqlLexer$Token", "<init>", "(Lcom/example/latente/latente/query/JpqlLexer$Kind;Ljava/lang/String;I)V"⟩ : MethodName)) (b := ob_2168) rfl (oW hw 36 rfl) (oW hw 37 rfl) (oW hw 35 rfl) (oW hw 38 rfl) (by decide) (W := 1) (own_rm11 l Z a0 hw [] ob_2168 ob_9 ob_2110 in_5 h2159 n0 Z2178 O2177 F2172 A2163 N2175 F2173 F2174) (by decide) (by decide) (by decide) (by decide) (g := (mkF m 141 #[iv in_1, iv in_2, iv in_3, iv in_4, iv in_5, iv 5, iv 2, iv in_16, iv in_17, iv in_18, iv in_19, iv 0, rv ob_9, rv ob_2110, rv ob_2143, .unset, .unset, .unset] [(.int in_5), (.ref ob_2110), (.ref ob_9), (.ref ob_2168), (.ref ob_2168)])) rfl (by rw [hml]; rfl) (argsL := [(.ref ob_9), (.ref ob_2110), (.int in_5)]) (rest := [(.ref ob_2168)]) rfl (lenOf own_pd4 rfl) rfl (by show 2 * 0 + _ ≤ _; exact Nat.le_of_eq rfl) (hb hby at_141)
       refine oS s2186 ?_
       obtain ⟨rfl, N2187, K2188, F2189, F2190, F2191, F2192⟩ := q2185
       have N2193 := Fr.app N2155 N2187
       have S2194 : Safe Z own_EL T2134.vm h2159 ob_2168 := Safe.exa hZ.alike A2163 (by decide) (by decide)
       have R2195 : CHr Z own_EL s.vm h0 T2134.vm h2180 := R2171.trans (CHr.keep K2188 (sfS S2194 sf0) R2171.1)
       have z2196 := K2188.1
       show own_G p e below (T2179.setTop (mkF m 144 #[iv in_1, iv in_2, iv in_3, iv in_4, iv in_5, iv 5, iv 2, iv in_16, iv in_17, iv in_18, iv in_19, iv 0, rv ob_9, rv ob_2110, rv ob_2143, .unset, .unset, .unset] [(.ref ob_2168)])) _
       refine oS (fun _ => XS.astore X2183.here hx rfl (hb hby at_144) rfl rfl (l' := #[iv in_1, iv in_2, iv in_3, iv in_4, iv in_5, iv 5, iv 2, iv in_16, iv in_17, iv in_18, iv in_19, iv 0, rv ob_9, rv ob_2110, rv ob_2143, rv ob_2168, .unset, .unset]) rfl) ?_
       refine oS (fun _ => XS.aload X2183.here hx rfl (hb hby at_146) rfl rfl) ?_
       refine oS (fun _ => XS.aload X2183.here hx rfl (hb hby at_148) rfl rfl) ?_
       have N2197 : @Ne Nat ob_2110 ob_2143 := by omega
       have F2198 : Exa Z h2159 ob_2143 "java/lang/String" := Exa.ext E2162 F2149
       have F2199 : Exa Z h2180 ob_2143 "java/lang/String" := F2198.keep K2188
       have F2200 : Fld Z h2135 ob_2110 "java/lang/String" "coder" "B" (.int 0) := F2119.keep K2147 nin0
       have F2201 : Fld Z h2159 ob_2110 "java/lang/String" "coder" "B" (.int 0) := Fld.ext E2162 F2200
       have N2202 : @Ne Nat ob_2110 ob_2168 := by omega
       have F2203 : Fld Z h2180 ob_2110 "java/lang/String" "coder" "B" (.int 0) := F2201.keep K2188 (ninS N2202 nin0)
       have F2204 : Fld Z h2159 ob_2143 "java/lang/String" "coder" "B" (.int 0) := Fld.ext E2162 F2151
       have N2205 : @Ne Nat ob_2143 ob_2168 := by omega
       have F2206 : Fld Z h2180 ob_2143 "java/lang/String" "coder" "B" (.int 0) := F2204.keep K2188 (ninS N2205 nin0)
       have F2207 : Fld Z h2135 ob_2110 "java/lang/String" "value" "[B" (.ref ob_2111) := F2118.keep K2147 nin0
       have F2208 : Fld Z h2159 ob_2110 "java/lang/String" "value" "[B" (.ref ob_2111) := Fld.ext E2162 F2207
       have F2209 : Fld Z h2180 ob_2110 "java/lang/String" "value" "[B" (.ref ob_2111) := F2208.keep K2188 (ninS N2202 nin0)
       have F2210 : Fld Z h2159 ob_2143 "java/lang/String" "value" "[B" (.ref ob_2144) := Fld.ext E2162 F2150
       have F2211 : Fld Z h2180 ob_2143 "java/lang/String" "value" "[B" (.ref ob_2144) := F2210.keep K2188 (ninS N2205 nin0)
       have F2212 : Arv Z h2135 ob_2111 kk_2112 .byte 2 [(.int (in_16.toInt8.toInt32)), (.int (in_17.toInt8.toInt32))] (.int 0) := F2120.keep K2147 nin0
       have F2213 : Arv Z h2159 ob_2111 kk_2112 .byte 2 [(.int (in_16.toInt8.toInt32)), (.int (in_17.toInt8.toInt32))] (.int 0) := F2212.ext E2162
       have N2214 : @Ne Nat ob_2111 ob_2168 := by omega
       have F2215 : Arv Z h2180 ob_2111 kk_2112 .byte 2 [(.int (in_16.toInt8.toInt32)), (.int (in_17.toInt8.toInt32))] (.int 0) := F2213.keep K2188 (ninS N2214 nin0)
       have F2280 : Arv Z h2159 ob_2144 kk_2145 .byte 0 [] (.int 0) := F2152.ext E2162
       have N2281 : @Ne Nat ob_2144 ob_2168 := by omega
       have F2282 : Arv Z h2180 ob_2144 kk_2145 .byte 0 [] (.int 0) := F2280.keep K2188 (ninS N2281 nin0)
       have F2306 : Exa Z h2135 ob_2110 "java/lang/String" := F2117.keep K2147
       have F2307 : Exa Z h2159 ob_2110 "java/lang/String" := Exa.ext E2162 F2306
       have F2308 : Exa Z h2180 ob_2110 "java/lang/String" := F2307.keep K2188
       have O2314 : Old Z n0 h2180 := O2177.keep K2188 (allS N2175 all0)
       have Z2315 : n0 ≤ h2180.size := by omega
       obtain ⟨T2316, h2317, v2318, L2319, X2320, e2321, q2322, s2323⟩ := own_callV X2183 hx hZ hown e2184 (y := (⟨"com/example/latente/latente/query/JpqlLexer$Token", "isSymbol", "(Ljava/lang/String;)Z"⟩ : MethodName)) (z := (⟨"com/example/latente/latente/query/JpqlLexer$Token", "isSymbol", "(Ljava/lang/String;)Z"⟩ : MethodName)) (C := "com/example/latente/latente/query/JpqlLexer$Token") (b := ob_2168) (oW hw 51 rfl) (oW hw 52 rfl) (notFace_of_selects (args := #[]) (mvT hZ (oW hw 54 rfl))) (oW hw 54 rfl) (oW hw 53 rfl) (oW hw 35 rfl) (oW hw 55 rfl) (by decide) F2191 (W := 0) (own_rm42 l Z a0 hw [] ob_2168 ob_2143 ob_9 ob_2110 in_6 ob_2111 ob_2144 kk_2112 in_16 in_17 kk_2145 h2180 n0 Z2315 O2314 F2189 I460 F2190 N2197 F2199 I487 I495 F2203 F2206 F2209 F2211 F2215 F2282 F2308) (by decide) (by decide) (by decide) (by decide) (g := (mkF m 150 #[iv in_1, iv in_2, iv in_3, iv in_4, iv in_5, iv 5, iv 2, iv in_16, iv in_17, iv in_18, iv in_19, iv 0, rv ob_9, rv ob_2110, rv ob_2143, rv ob_2168, .unset, .unset] [(.ref ob_2143), (.ref ob_2168)])) rfl (by rw [hml]; rfl) (argsL := [(.ref ob_2143)]) (rest := []) rfl (lenOf own_pd7 rfl) rfl (by show 2 * 0 + _ ≤ _; exact Nat.le_of_eq rfl) (hb hby at_150)
       refine oS s2323 ?_
       obtain ⟨rfl, N2324, K2325⟩ := q2322
       have N2326 := Fr.app N2193 N2324
       have e2327 := e2321.trans K2325
       show own_G p e below (T2316.setTop (mkF m 153 #[iv in_1, iv in_2, iv in_3, iv in_4, iv in_5, iv 5, iv 2, iv in_16, iv in_17, iv in_18, iv in_19, iv 0, rv ob_9, rv ob_2110, rv ob_2143, rv ob_2168, .unset, .unset] [(.int 0)])) _
       refine oS (fun _ => XS.istore X2320.here hx rfl (hb hby at_153) rfl (l' := #[iv in_1, iv in_2, iv in_3, iv in_4, iv in_5, iv 5, iv 2, iv in_16, iv in_17, iv in_18, iv in_19, iv 0, rv ob_9, rv ob_2110, rv ob_2143, rv ob_2168, iv 0, .unset]) rfl) ?_
       refine oS (fun _ => XS.iload X2320.here hx rfl (hb hby at_155) rfl) ?_
       refine oS (fun _ => XS.iconst X2320.here hx rfl (hb hby at_157) ) ?_
       refine oS (fun _ => XS.icmpNo X2320.here hx rfl (hb hby at_158) rfl (XT.ii_ne_f (by decide))) ?_
       show own_G p e below (T2316.setTop (mkF m 161 #[iv in_1, iv in_2, iv in_3, iv in_4, iv in_5, iv 5, iv 2, iv in_16, iv in_17, iv in_18, iv in_19, iv 0, rv ob_9, rv ob_2110, rv ob_2143, rv ob_2168, iv 0, .unset] [])) _
       refine oS (fun _ => XS.iload X2320.here hx rfl (hb hby at_161) rfl) ?_
       refine oS (fun _ => XS.iload X2320.here hx rfl (hb hby at_163) rfl) ?_
       refine oS (fun _ => XS.icmpYes X2320.here hx rfl (pc0 := 165) (pc' := 198) rfl (hb hby at_165) rfl (XT.ii_ne_t (by decide)) (by decide) (by decide)) ?_
       show own_G p e below (T2316.setTop (mkF m 198 #[iv in_1, iv in_2, iv in_3, iv in_4, iv in_5, iv 5, iv 2, iv in_16, iv in_17, iv in_18, iv in_19, iv 0, rv ob_9, rv ob_2110, rv ob_2143, rv ob_2168, iv 0, .unset] [])) _
       refine oS (fun _ => XS.iconst X2320.here hx rfl (hb hby at_198) ) ?_
       refine oS (fun _ => XS.istore X2320.here hx rfl (hb hby at_199) rfl (l' := #[iv in_1, iv in_2, iv in_3, iv in_4, iv in_5, iv 5, iv 2, iv in_16, iv in_17, iv in_18, iv in_19, iv 0, rv ob_9, rv ob_2110, rv ob_2143, rv ob_2168, iv 0, iv 0]) rfl) ?_
       refine oS (fun _ => XS.iload X2320.here hx rfl (hb hby at_201) rfl) ?_
       refine oS (fun _ => XS.iload X2320.here hx rfl (hb hby at_203) rfl) ?_
       show own_G p e below (T2316.setTop (mkF m 205 #[iv in_1, iv in_2, iv in_3, iv in_4, iv in_5, iv 5, iv 2, iv in_16, iv in_17, iv in_18, iv in_19, iv 0, rv ob_9, rv ob_2110, rv ob_2143, rv ob_2168, iv 0, iv 0] [(.int 0), (.int 0)])) _
       refine oS (fun _ => XS.icmpNo X2320.here hx rfl (hb hby at_205) rfl (XT.ii_ne_f (by decide))) ?_
       show own_G p e below (T2316.setTop (mkF m 208 #[iv in_1, iv in_2, iv in_3, iv in_4, iv in_5, iv 5, iv 2, iv in_16, iv in_17, iv in_18, iv in_19, iv 0, rv ob_9, rv ob_2110, rv ob_2143, rv ob_2168, iv 0, iv 0] [])) _
       refine oS (fun _ => XS.iconst X2320.here hx rfl (hb hby at_208) ) ?_
       refine oS (fun _ => XS.goto X2320.here hx rfl (pc0 := 209) (pc' := 213) rfl (hb hby at_209) (by decide) (by decide)) ?_
       show own_G p e below (T2316.setTop (mkF m 213 #[iv in_1, iv in_2, iv in_3, iv in_4, iv in_5, iv 5, iv 2, iv in_16, iv in_17, iv in_18, iv in_19, iv 0, rv ob_9, rv ob_2110, rv ob_2143, rv ob_2168, iv 0, iv 0] [(.int 1)])) _
       have K2328 : Keep h0 h2180 [] := (((((Keep.refl h0 []).trans K2114 all0).trans K2147 all0).ext E2162).trans K2188 (allS (Or.inr (by omega)) all0))
       exact own_retNW X2320 hx (t := .boolean) Bd.notSynchronized Bd.returns (by simp) (hb hby at_213) (by decide) hS hZ hEL hh R2195 e2327 (by omega) (by decide) (by decide) (⟨rfl, N2326⟩)
     · skip
       refine own_cast (g' := (mkF m 120 #[iv in_1, iv in_2, iv in_3, iv in_4, iv in_5, iv 5, iv 2, iv in_16, iv in_17, iv in_18, iv in_19, iv 1, rv ob_9, rv ob_2110, .unset, .unset, .unset, .unset] [])) (by rw [q2130]) ?_
       show own_G p e below (T2102.setTop (mkF m 120 #[iv in_1, iv in_2, iv in_3, iv in_4, iv in_5, iv 5, iv 2, iv in_16, iv in_17, iv in_18, iv in_19, iv 1, rv ob_9, rv ob_2110, .unset, .unset, .unset, .unset] [])) _
       refine oS (fun _ => XS.iload X2106.here hx rfl (hb hby at_120) rfl) ?_
       refine oS (fun _ => XS.iload X2106.here hx rfl (hb hby at_122) rfl) ?_
       refine oS (fun _ => XS.iload X2106.here hx rfl (hb hby at_124) rfl) ?_
       have O2329 : Old Z n0 h2103 := O0.keep K2114 all0
       have Z2330 : n0 ≤ h2103.size := by omega
       obtain ⟨T2331, h2332, v2333, L2334, X2335, e2336, q2337, s2338⟩ := own_callS X2106 hx hZ hown e2107 (y := (⟨"com/example/latente/latente/query/TokenIsSymbolPinLaw", "str", "(ICC)Ljava/lang/String;"⟩ : MethodName)) (oW hw 8 rfl) (oW hw 9 rfl) (oW hw 3 rfl) (oW hw 10 rfl) (by decide) (W := 0) (own_rm16 l Z a0 hw [] in_18 in_19 in_6 h2103 n0 Z2330 O2329 I487 I495 I36) (by decide) (by decide) (by decide) (by decide) (g := (mkF m 126 #[iv in_1, iv in_2, iv in_3, iv in_4, iv in_5, iv 5, iv 2, iv in_16, iv in_17, iv in_18, iv in_19, iv 1, rv ob_9, rv ob_2110, .unset, .unset, .unset, .unset] [(.int in_19), (.int in_18), (.int 1)])) rfl (by rw [hml]; rfl) (argsL := [(.int 1), (.int in_18), (.int in_19)]) (rest := []) rfl (lenOf own_pd2 rfl) rfl (by show 2 * 0 + _ ≤ _; exact Nat.le_of_eq rfl) (hb hby at_126)
       refine oS s2338 ?_
       obtain ⟨ob_2339, ob_2340, kk_2341, rfl, N2342, K2343, F2344, F2345, F2346, F2347, F2348, F2349, F2350, F2351, F2352⟩ := q2337
       have N2353 := Fr.app N2124 N2342
       have R2354 : CHr Z own_EL s.vm h0 s.vm h2332 := R2125.trans (CHr.keep K2343 sf0 R2125.1)
       have z2355 := K2343.1
       have S2356 : Safe Z own_EL s.vm h2103 ob_2339 := Safe.new (by omega)
       have S2357 : Safe Z own_EL s.vm h2103 ob_2340 := Safe.new (by omega)
       show own_G p e below (T2331.setTop (mkF m 129 #[iv in_1, iv in_2, iv in_3, iv in_4, iv in_5, iv 5, iv 2, iv in_16, iv in_17, iv in_18, iv in_19, iv 1, rv ob_9, rv ob_2110, .unset, .unset, .unset, .unset] [(.ref ob_2339)])) _
       refine oS (fun _ => XS.astore X2335.here hx rfl (hb hby at_129) rfl rfl (l' := #[iv in_1, iv in_2, iv in_3, iv in_4, iv in_5, iv 5, iv 2, iv in_16, iv in_17, iv in_18, iv in_19, iv 1, rv ob_9, rv ob_2110, rv ob_2339, .unset, .unset, .unset]) rfl) ?_
       obtain ⟨T2358, h2359, X2360, e2361, E2362, A2363, D2364, U2367, s2365⟩ := newO X2335 hx hZ hown (oW hw 33 rfl) (oW hw 34 rfl) (oW hw 35 rfl) e2336 (g := (mkF m 131 #[iv in_1, iv in_2, iv in_3, iv in_4, iv in_5, iv 5, iv 2, iv in_16, iv in_17, iv in_18, iv in_19, iv 1, rv ob_9, rv ob_2110, rv ob_2339, .unset, .unset, .unset] [])) rfl (hb hby at_131) (by decide) (by decide)
       obtain ⟨ob_2368, g2369⟩ : ∃ z, z = h2332.size := ⟨_, rfl⟩
       rw [← g2369] at A2363 D2364 U2367 s2365
       have z2370 := E2362.1
       have y2366 : @LT.lt Nat instLTNat ob_2368 h2359.size := A2363.lt
       refine oS s2365 ?_
       have R2371 : CHr Z own_EL s.vm h0 s.vm h2359 := R2354.trans (CHr.ext E2362 R2354.1)
       have F2372 : Fld Z h2359 ob_2368 "com/example/latente/latente/query/JpqlLexer$Token" "kind" "Lcom/example/latente/latente/query/JpqlLexer$Kind;" .null := D2364 (Or.inr (oW hw 46 rfl)) (ty := (.object "com/example/latente/latente/query/JpqlLexer$Kind")) (by decide)
       have F2373 : Fld Z h2359 ob_2368 "com/example/latente/latente/query/JpqlLexer$Token" "text" "Ljava/lang/String;" .null := D2364 (Or.inr (oW hw 48 rfl)) (ty := (.object "java/lang/String")) (by decide)
       have F2374 : Fld Z h2359 ob_2368 "com/example/latente/latente/query/JpqlLexer$Token" "position" "I" (.int 0) := D2364 (Or.inr (oW hw 50 rfl)) (ty := .int) (by decide)
       show own_G p e below (T2358.setTop (mkF m 134 #[iv in_1, iv in_2, iv in_3, iv in_4, iv in_5, iv 5, iv 2, iv in_16, iv in_17, iv in_18, iv in_19, iv 1, rv ob_9, rv ob_2110, rv ob_2339, .unset, .unset, .unset] [(.ref ob_2368)])) _
       refine oS (fun _ => XS.dup X2360.here hx rfl (hb hby at_134) rfl rfl) ?_
       refine oS (fun _ => XS.aload X2360.here hx rfl (hb hby at_135) rfl rfl) ?_
       refine oS (fun _ => XS.aload X2360.here hx rfl (hb hby at_137) rfl rfl) ?_
       refine oS (fun _ => XS.iload X2360.here hx rfl (hb hby at_139) rfl) ?_
       show own_G p e below (T2358.setTop (mkF m 141 #[iv in_1, iv in_2, iv in_3, iv in_4, iv in_5, iv 5, iv 2, iv in_16, iv in_17, iv in_18, iv in_19, iv 1, rv ob_9, rv ob_2110, rv ob_2339, .unset, .unset, .unset] [(.int in_5), (.ref ob_2110), (.ref ob_9), (.ref ob_2368), (.ref ob_2368)])) _
       have N2375 : n0 ≤ ob_2368 := by omega
       have O2376 : Old Z n0 h2332 := O2329.keep K2343 all0
       have O2377 : Old Z n0 h2359 := O2376.ext E2362
       have Z2378 : n0 ≤ h2359.size := by omega
       obtain ⟨T2379, h2380, v2381, L2382, X2383, e2384, q2385, s2386⟩ := own_callN X2360 hx hZ hown e2361 (y := (⟨"com/example/latente/latente/query/JpqlLexer$Token", "<init>", "(Lcom/example/latente/latente/query/JpqlLexer$Kind;Ljava/lang/String;I)V"⟩ : MethodName)) (b := ob_2368) rfl (oW hw 36 rfl) (oW hw 37 rfl) (oW hw 35 rfl) (oW hw 38 rfl) (by decide) (W := 1) (own_rm11 l Z a0 hw [] ob_2368 ob_9 ob_2110 in_5 h2359 n0 Z2378 O2377 F2372 A2363 N2375 F2373 F2374) (by decide) (by decide) (by decide) (by decide) (g := (mkF m 141 #[iv in_1, iv in_2, iv in_3, iv in_4, iv in_5, iv 5, iv 2, iv in_16, iv in_17, iv in_18, iv in_19, iv 1, rv ob_9, rv ob_2110, rv ob_2339, .unset, .unset, .unset] [(.int in_5), (.ref ob_2110), (.ref ob_9), (.ref ob_2368), (.ref ob_2368)])) rfl (by rw [hml]; rfl) (argsL := [(.ref ob_9), (.ref ob_2110), (.int in_5)]) (rest := [(.ref ob_2368)]) rfl (lenOf own_pd4 rfl) rfl (by show 2 * 0 + _ ≤ _; exact Nat.le_of_eq rfl) (hb hby at_141)
       refine oS s2386 ?_
       obtain ⟨rfl, N2387, K2388, F2389, F2390, F2391, F2392⟩ := q2385
       have N2393 := Fr.app N2353 N2387
       have S2394 : Safe Z own_EL s.vm h2359 ob_2368 := Safe.exa hZ.alike A2363 (by decide) (by decide)
       have R2395 : CHr Z own_EL s.vm h0 s.vm h2380 := R2371.trans (CHr.keep K2388 (sfS S2394 sf0) R2371.1)
       have z2396 := K2388.1
       show own_G p e below (T2379.setTop (mkF m 144 #[iv in_1, iv in_2, iv in_3, iv in_4, iv in_5, iv 5, iv 2, iv in_16, iv in_17, iv in_18, iv in_19, iv 1, rv ob_9, rv ob_2110, rv ob_2339, .unset, .unset, .unset] [(.ref ob_2368)])) _
       refine oS (fun _ => XS.astore X2383.here hx rfl (hb hby at_144) rfl rfl (l' := #[iv in_1, iv in_2, iv in_3, iv in_4, iv in_5, iv 5, iv 2, iv in_16, iv in_17, iv in_18, iv in_19, iv 1, rv ob_9, rv ob_2110, rv ob_2339, rv ob_2368, .unset, .unset]) rfl) ?_
       refine oS (fun _ => XS.aload X2383.here hx rfl (hb hby at_146) rfl rfl) ?_
       refine oS (fun _ => XS.aload X2383.here hx rfl (hb hby at_148) rfl rfl) ?_
       have N2397 : @Ne Nat ob_2110 ob_2339 := by omega
       have F2398 : Exa Z h2359 ob_2339 "java/lang/String" := Exa.ext E2362 F2346
       have F2399 : Exa Z h2380 ob_2339 "java/lang/String" := F2398.keep K2388
       have F2400 : Fld Z h2332 ob_2110 "java/lang/String" "coder" "B" (.int 0) := F2119.keep K2343 nin0
       have F2401 : Fld Z h2359 ob_2110 "java/lang/String" "coder" "B" (.int 0) := Fld.ext E2362 F2400
       have N2402 : @Ne Nat ob_2110 ob_2368 := by omega
       have F2403 : Fld Z h2380 ob_2110 "java/lang/String" "coder" "B" (.int 0) := F2401.keep K2388 (ninS N2402 nin0)
       have F2404 : Fld Z h2359 ob_2339 "java/lang/String" "coder" "B" (.int 0) := Fld.ext E2362 F2348
       have N2405 : @Ne Nat ob_2339 ob_2368 := by omega
       have F2406 : Fld Z h2380 ob_2339 "java/lang/String" "coder" "B" (.int 0) := F2404.keep K2388 (ninS N2405 nin0)
       have F2407 : Fld Z h2332 ob_2110 "java/lang/String" "value" "[B" (.ref ob_2111) := F2118.keep K2343 nin0
       have F2408 : Fld Z h2359 ob_2110 "java/lang/String" "value" "[B" (.ref ob_2111) := Fld.ext E2362 F2407
       have F2409 : Fld Z h2380 ob_2110 "java/lang/String" "value" "[B" (.ref ob_2111) := F2408.keep K2388 (ninS N2402 nin0)
       have F2410 : Fld Z h2359 ob_2339 "java/lang/String" "value" "[B" (.ref ob_2340) := Fld.ext E2362 F2347
       have F2411 : Fld Z h2380 ob_2339 "java/lang/String" "value" "[B" (.ref ob_2340) := F2410.keep K2388 (ninS N2405 nin0)
       have F2412 : Arv Z h2332 ob_2111 kk_2112 .byte 2 [(.int (in_16.toInt8.toInt32)), (.int (in_17.toInt8.toInt32))] (.int 0) := F2120.keep K2343 nin0
       have F2413 : Arv Z h2359 ob_2111 kk_2112 .byte 2 [(.int (in_16.toInt8.toInt32)), (.int (in_17.toInt8.toInt32))] (.int 0) := F2412.ext E2362
       have N2414 : @Ne Nat ob_2111 ob_2368 := by omega
       have F2415 : Arv Z h2380 ob_2111 kk_2112 .byte 2 [(.int (in_16.toInt8.toInt32)), (.int (in_17.toInt8.toInt32))] (.int 0) := F2413.keep K2388 (ninS N2414 nin0)
       have F2416 : Arv Z h2359 ob_2340 kk_2341 .byte 1 [(.int (in_18.toInt8.toInt32))] (.int 0) := F2349.ext E2362
       have N2417 : @Ne Nat ob_2340 ob_2368 := by omega
       have F2418 : Arv Z h2380 ob_2340 kk_2341 .byte 1 [(.int (in_18.toInt8.toInt32))] (.int 0) := F2416.keep K2388 (ninS N2417 nin0)
       have F2506 : Exa Z h2332 ob_2110 "java/lang/String" := F2117.keep K2343
       have F2507 : Exa Z h2359 ob_2110 "java/lang/String" := Exa.ext E2362 F2506
       have F2508 : Exa Z h2380 ob_2110 "java/lang/String" := F2507.keep K2388
       have O2514 : Old Z n0 h2380 := O2377.keep K2388 (allS N2375 all0)
       have Z2515 : n0 ≤ h2380.size := by omega
       obtain ⟨T2516, h2517, v2518, L2519, X2520, e2521, q2522, s2523⟩ := own_callV X2383 hx hZ hown e2384 (y := (⟨"com/example/latente/latente/query/JpqlLexer$Token", "isSymbol", "(Ljava/lang/String;)Z"⟩ : MethodName)) (z := (⟨"com/example/latente/latente/query/JpqlLexer$Token", "isSymbol", "(Ljava/lang/String;)Z"⟩ : MethodName)) (C := "com/example/latente/latente/query/JpqlLexer$Token") (b := ob_2368) (oW hw 51 rfl) (oW hw 52 rfl) (notFace_of_selects (args := #[]) (mvT hZ (oW hw 54 rfl))) (oW hw 54 rfl) (oW hw 53 rfl) (oW hw 35 rfl) (oW hw 55 rfl) (by decide) F2391 (W := 0) (own_rm45 l Z a0 hw [] ob_2368 ob_2339 ob_9 ob_2110 in_6 ob_2111 ob_2340 kk_2112 in_16 in_17 kk_2341 in_18 h2380 n0 Z2515 O2514 F2389 I460 F2390 N2397 F2399 I487 I495 F2403 F2406 F2409 F2411 F2415 F2418 F2508) (by decide) (by decide) (by decide) (by decide) (g := (mkF m 150 #[iv in_1, iv in_2, iv in_3, iv in_4, iv in_5, iv 5, iv 2, iv in_16, iv in_17, iv in_18, iv in_19, iv 1, rv ob_9, rv ob_2110, rv ob_2339, rv ob_2368, .unset, .unset] [(.ref ob_2339), (.ref ob_2368)])) rfl (by rw [hml]; rfl) (argsL := [(.ref ob_2339)]) (rest := []) rfl (lenOf own_pd7 rfl) rfl (by show 2 * 0 + _ ≤ _; exact Nat.le_of_eq rfl) (hb hby at_150)
       refine oS s2523 ?_
       obtain ⟨rfl, N2524, K2525⟩ := q2522
       have N2526 := Fr.app N2393 N2524
       have e2527 := e2521.trans K2525
       show own_G p e below (T2516.setTop (mkF m 153 #[iv in_1, iv in_2, iv in_3, iv in_4, iv in_5, iv 5, iv 2, iv in_16, iv in_17, iv in_18, iv in_19, iv 1, rv ob_9, rv ob_2110, rv ob_2339, rv ob_2368, .unset, .unset] [(.int 0)])) _
       refine oS (fun _ => XS.istore X2520.here hx rfl (hb hby at_153) rfl (l' := #[iv in_1, iv in_2, iv in_3, iv in_4, iv in_5, iv 5, iv 2, iv in_16, iv in_17, iv in_18, iv in_19, iv 1, rv ob_9, rv ob_2110, rv ob_2339, rv ob_2368, iv 0, .unset]) rfl) ?_
       refine oS (fun _ => XS.iload X2520.here hx rfl (hb hby at_155) rfl) ?_
       refine oS (fun _ => XS.iconst X2520.here hx rfl (hb hby at_157) ) ?_
       refine oS (fun _ => XS.icmpNo X2520.here hx rfl (hb hby at_158) rfl (XT.ii_ne_f (by decide))) ?_
       show own_G p e below (T2516.setTop (mkF m 161 #[iv in_1, iv in_2, iv in_3, iv in_4, iv in_5, iv 5, iv 2, iv in_16, iv in_17, iv in_18, iv in_19, iv 1, rv ob_9, rv ob_2110, rv ob_2339, rv ob_2368, iv 0, .unset] [])) _
       refine oS (fun _ => XS.iload X2520.here hx rfl (hb hby at_161) rfl) ?_
       refine oS (fun _ => XS.iload X2520.here hx rfl (hb hby at_163) rfl) ?_
       refine oS (fun _ => XS.icmpYes X2520.here hx rfl (pc0 := 165) (pc' := 198) rfl (hb hby at_165) rfl (XT.ii_ne_t (by decide)) (by decide) (by decide)) ?_
       show own_G p e below (T2516.setTop (mkF m 198 #[iv in_1, iv in_2, iv in_3, iv in_4, iv in_5, iv 5, iv 2, iv in_16, iv in_17, iv in_18, iv in_19, iv 1, rv ob_9, rv ob_2110, rv ob_2339, rv ob_2368, iv 0, .unset] [])) _
       refine oS (fun _ => XS.iconst X2520.here hx rfl (hb hby at_198) ) ?_
       refine oS (fun _ => XS.istore X2520.here hx rfl (hb hby at_199) rfl (l' := #[iv in_1, iv in_2, iv in_3, iv in_4, iv in_5, iv 5, iv 2, iv in_16, iv in_17, iv in_18, iv in_19, iv 1, rv ob_9, rv ob_2110, rv ob_2339, rv ob_2368, iv 0, iv 0]) rfl) ?_
       refine oS (fun _ => XS.iload X2520.here hx rfl (hb hby at_201) rfl) ?_
       refine oS (fun _ => XS.iload X2520.here hx rfl (hb hby at_203) rfl) ?_
       show own_G p e below (T2516.setTop (mkF m 205 #[iv in_1, iv in_2, iv in_3, iv in_4, iv in_5, iv 5, iv 2, iv in_16, iv in_17, iv in_18, iv in_19, iv 1, rv ob_9, rv ob_2110, rv ob_2339, rv ob_2368, iv 0, iv 0] [(.int 0), (.int 0)])) _
       refine oS (fun _ => XS.icmpNo X2520.here hx rfl (hb hby at_205) rfl (XT.ii_ne_f (by decide))) ?_
       show own_G p e below (T2516.setTop (mkF m 208 #[iv in_1, iv in_2, iv in_3, iv in_4, iv in_5, iv 5, iv 2, iv in_16, iv in_17, iv in_18, iv in_19, iv 1, rv ob_9, rv ob_2110, rv ob_2339, rv ob_2368, iv 0, iv 0] [])) _
       refine oS (fun _ => XS.iconst X2520.here hx rfl (hb hby at_208) ) ?_
       refine oS (fun _ => XS.goto X2520.here hx rfl (pc0 := 209) (pc' := 213) rfl (hb hby at_209) (by decide) (by decide)) ?_
       show own_G p e below (T2516.setTop (mkF m 213 #[iv in_1, iv in_2, iv in_3, iv in_4, iv in_5, iv 5, iv 2, iv in_16, iv in_17, iv in_18, iv in_19, iv 1, rv ob_9, rv ob_2110, rv ob_2339, rv ob_2368, iv 0, iv 0] [(.int 1)])) _
       have K2528 : Keep h0 h2380 [] := (((((Keep.refl h0 []).trans K2114 all0).trans K2343 all0).ext E2362).trans K2388 (allS (Or.inr (by omega)) all0))
       exact own_retNW X2520 hx (t := .boolean) Bd.notSynchronized Bd.returns (by simp) (hb hby at_213) (by decide) hS hZ hEL hh R2395 e2527 (by omega) (by decide) (by decide) (⟨rfl, N2526⟩)
     · skip
       refine own_cast (g' := (mkF m 120 #[iv in_1, iv in_2, iv in_3, iv in_4, iv in_5, iv 5, iv 2, iv in_16, iv in_17, iv in_18, iv in_19, iv 2, rv ob_9, rv ob_2110, .unset, .unset, .unset, .unset] [])) (by rw [q2131]) ?_
       show own_G p e below (T2102.setTop (mkF m 120 #[iv in_1, iv in_2, iv in_3, iv in_4, iv in_5, iv 5, iv 2, iv in_16, iv in_17, iv in_18, iv in_19, iv 2, rv ob_9, rv ob_2110, .unset, .unset, .unset, .unset] [])) _
       refine oS (fun _ => XS.iload X2106.here hx rfl (hb hby at_120) rfl) ?_
       refine oS (fun _ => XS.iload X2106.here hx rfl (hb hby at_122) rfl) ?_
       refine oS (fun _ => XS.iload X2106.here hx rfl (hb hby at_124) rfl) ?_
       have O2529 : Old Z n0 h2103 := O0.keep K2114 all0
       have Z2530 : n0 ≤ h2103.size := by omega
       obtain ⟨T2531, h2532, v2533, L2534, X2535, e2536, q2537, s2538⟩ := own_callS X2106 hx hZ hown e2107 (y := (⟨"com/example/latente/latente/query/TokenIsSymbolPinLaw", "str", "(ICC)Ljava/lang/String;"⟩ : MethodName)) (oW hw 8 rfl) (oW hw 9 rfl) (oW hw 3 rfl) (oW hw 10 rfl) (by decide) (W := 0) (own_rm24 l Z a0 hw [] in_18 in_19 in_6 h2103 n0 Z2530 O2529 I37 I40 I487 I495 I36 I39) (by decide) (by decide) (by decide) (by decide) (g := (mkF m 126 #[iv in_1, iv in_2, iv in_3, iv in_4, iv in_5, iv 5, iv 2, iv in_16, iv in_17, iv in_18, iv in_19, iv 2, rv ob_9, rv ob_2110, .unset, .unset, .unset, .unset] [(.int in_19), (.int in_18), (.int 2)])) rfl (by rw [hml]; rfl) (argsL := [(.int 2), (.int in_18), (.int in_19)]) (rest := []) rfl (lenOf own_pd2 rfl) rfl (by show 2 * 0 + _ ≤ _; exact Nat.le_of_eq rfl) (hb hby at_126)
       refine oS s2538 ?_
       obtain ⟨ob_2539, ob_2540, kk_2541, rfl, N2542, K2543, F2544, F2545, F2546, F2547, F2548, F2549, F2550, F2551, F2552⟩ := q2537
       have N2553 := Fr.app N2124 N2542
       have R2554 : CHr Z own_EL s.vm h0 s.vm h2532 := R2125.trans (CHr.keep K2543 sf0 R2125.1)
       have z2555 := K2543.1
       have S2556 : Safe Z own_EL s.vm h2103 ob_2539 := Safe.new (by omega)
       have S2557 : Safe Z own_EL s.vm h2103 ob_2540 := Safe.new (by omega)
       show own_G p e below (T2531.setTop (mkF m 129 #[iv in_1, iv in_2, iv in_3, iv in_4, iv in_5, iv 5, iv 2, iv in_16, iv in_17, iv in_18, iv in_19, iv 2, rv ob_9, rv ob_2110, .unset, .unset, .unset, .unset] [(.ref ob_2539)])) _
       refine oS (fun _ => XS.astore X2535.here hx rfl (hb hby at_129) rfl rfl (l' := #[iv in_1, iv in_2, iv in_3, iv in_4, iv in_5, iv 5, iv 2, iv in_16, iv in_17, iv in_18, iv in_19, iv 2, rv ob_9, rv ob_2110, rv ob_2539, .unset, .unset, .unset]) rfl) ?_
       obtain ⟨T2558, h2559, X2560, e2561, E2562, A2563, D2564, U2567, s2565⟩ := newO X2535 hx hZ hown (oW hw 33 rfl) (oW hw 34 rfl) (oW hw 35 rfl) e2536 (g := (mkF m 131 #[iv in_1, iv in_2, iv in_3, iv in_4, iv in_5, iv 5, iv 2, iv in_16, iv in_17, iv in_18, iv in_19, iv 2, rv ob_9, rv ob_2110, rv ob_2539, .unset, .unset, .unset] [])) rfl (hb hby at_131) (by decide) (by decide)
       obtain ⟨ob_2568, g2569⟩ : ∃ z, z = h2532.size := ⟨_, rfl⟩
       rw [← g2569] at A2563 D2564 U2567 s2565
       have z2570 := E2562.1
       have y2566 : @LT.lt Nat instLTNat ob_2568 h2559.size := A2563.lt
       refine oS s2565 ?_
       have R2571 : CHr Z own_EL s.vm h0 s.vm h2559 := R2554.trans (CHr.ext E2562 R2554.1)
       have F2572 : Fld Z h2559 ob_2568 "com/example/latente/latente/query/JpqlLexer$Token" "kind" "Lcom/example/latente/latente/query/JpqlLexer$Kind;" .null := D2564 (Or.inr (oW hw 46 rfl)) (ty := (.object "com/example/latente/latente/query/JpqlLexer$Kind")) (by decide)
       have F2573 : Fld Z h2559 ob_2568 "com/example/latente/latente/query/JpqlLexer$Token" "text" "Ljava/lang/String;" .null := D2564 (Or.inr (oW hw 48 rfl)) (ty := (.object "java/lang/String")) (by decide)
       have F2574 : Fld Z h2559 ob_2568 "com/example/latente/latente/query/JpqlLexer$Token" "position" "I" (.int 0) := D2564 (Or.inr (oW hw 50 rfl)) (ty := .int) (by decide)
       show own_G p e below (T2558.setTop (mkF m 134 #[iv in_1, iv in_2, iv in_3, iv in_4, iv in_5, iv 5, iv 2, iv in_16, iv in_17, iv in_18, iv in_19, iv 2, rv ob_9, rv ob_2110, rv ob_2539, .unset, .unset, .unset] [(.ref ob_2568)])) _
       refine oS (fun _ => XS.dup X2560.here hx rfl (hb hby at_134) rfl rfl) ?_
       refine oS (fun _ => XS.aload X2560.here hx rfl (hb hby at_135) rfl rfl) ?_
       refine oS (fun _ => XS.aload X2560.here hx rfl (hb hby at_137) rfl rfl) ?_
       refine oS (fun _ => XS.iload X2560.here hx rfl (hb hby at_139) rfl) ?_
       show own_G p e below (T2558.setTop (mkF m 141 #[iv in_1, iv in_2, iv in_3, iv in_4, iv in_5, iv 5, iv 2, iv in_16, iv in_17, iv in_18, iv in_19, iv 2, rv ob_9, rv ob_2110, rv ob_2539, .unset, .unset, .unset] [(.int in_5), (.ref ob_2110), (.ref ob_9), (.ref ob_2568), (.ref ob_2568)])) _
       have N2575 : n0 ≤ ob_2568 := by omega
       have O2576 : Old Z n0 h2532 := O2529.keep K2543 all0
       have O2577 : Old Z n0 h2559 := O2576.ext E2562
       have Z2578 : n0 ≤ h2559.size := by omega
       obtain ⟨T2579, h2580, v2581, L2582, X2583, e2584, q2585, s2586⟩ := own_callN X2560 hx hZ hown e2561 (y := (⟨"com/example/latente/latente/query/JpqlLexer$Token", "<init>", "(Lcom/example/latente/latente/query/JpqlLexer$Kind;Ljava/lang/String;I)V"⟩ : MethodName)) (b := ob_2568) rfl (oW hw 36 rfl) (oW hw 37 rfl) (oW hw 35 rfl) (oW hw 38 rfl) (by decide) (W := 1) (own_rm11 l Z a0 hw [] ob_2568 ob_9 ob_2110 in_5 h2559 n0 Z2578 O2577 F2572 A2563 N2575 F2573 F2574) (by decide) (by decide) (by decide) (by decide) (g := (mkF m 141 #[iv in_1, iv in_2, iv in_3, iv in_4, iv in_5, iv 5, iv 2, iv in_16, iv in_17, iv in_18, iv in_19, iv 2, rv ob_9, rv ob_2110, rv ob_2539, .unset, .unset, .unset] [(.int in_5), (.ref ob_2110), (.ref ob_9), (.ref ob_2568), (.ref ob_2568)])) rfl (by rw [hml]; rfl) (argsL := [(.ref ob_9), (.ref ob_2110), (.int in_5)]) (rest := [(.ref ob_2568)]) rfl (lenOf own_pd4 rfl) rfl (by show 2 * 0 + _ ≤ _; exact Nat.le_of_eq rfl) (hb hby at_141)
       refine oS s2586 ?_
       obtain ⟨rfl, N2587, K2588, F2589, F2590, F2591, F2592⟩ := q2585
       have N2593 := Fr.app N2553 N2587
       have S2594 : Safe Z own_EL s.vm h2559 ob_2568 := Safe.exa hZ.alike A2563 (by decide) (by decide)
       have R2595 : CHr Z own_EL s.vm h0 s.vm h2580 := R2571.trans (CHr.keep K2588 (sfS S2594 sf0) R2571.1)
       have z2596 := K2588.1
       show own_G p e below (T2579.setTop (mkF m 144 #[iv in_1, iv in_2, iv in_3, iv in_4, iv in_5, iv 5, iv 2, iv in_16, iv in_17, iv in_18, iv in_19, iv 2, rv ob_9, rv ob_2110, rv ob_2539, .unset, .unset, .unset] [(.ref ob_2568)])) _
       refine oS (fun _ => XS.astore X2583.here hx rfl (hb hby at_144) rfl rfl (l' := #[iv in_1, iv in_2, iv in_3, iv in_4, iv in_5, iv 5, iv 2, iv in_16, iv in_17, iv in_18, iv in_19, iv 2, rv ob_9, rv ob_2110, rv ob_2539, rv ob_2568, .unset, .unset]) rfl) ?_
       refine oS (fun _ => XS.aload X2583.here hx rfl (hb hby at_146) rfl rfl) ?_
       refine oS (fun _ => XS.aload X2583.here hx rfl (hb hby at_148) rfl rfl) ?_
       have N2597 : @Ne Nat ob_2110 ob_2539 := by omega
       have F2598 : Exa Z h2559 ob_2539 "java/lang/String" := Exa.ext E2562 F2546
       have F2599 : Exa Z h2580 ob_2539 "java/lang/String" := F2598.keep K2588
       have F2600 : Fld Z h2532 ob_2110 "java/lang/String" "coder" "B" (.int 0) := F2119.keep K2543 nin0
       have F2601 : Fld Z h2559 ob_2110 "java/lang/String" "coder" "B" (.int 0) := Fld.ext E2562 F2600
       have N2602 : @Ne Nat ob_2110 ob_2568 := by omega
       have F2603 : Fld Z h2580 ob_2110 "java/lang/String" "coder" "B" (.int 0) := F2601.keep K2588 (ninS N2602 nin0)
       have F2604 : Fld Z h2559 ob_2539 "java/lang/String" "coder" "B" (.int 0) := Fld.ext E2562 F2548
       have N2605 : @Ne Nat ob_2539 ob_2568 := by omega
       have F2606 : Fld Z h2580 ob_2539 "java/lang/String" "coder" "B" (.int 0) := F2604.keep K2588 (ninS N2605 nin0)
       have F2607 : Fld Z h2532 ob_2110 "java/lang/String" "value" "[B" (.ref ob_2111) := F2118.keep K2543 nin0
       have F2608 : Fld Z h2559 ob_2110 "java/lang/String" "value" "[B" (.ref ob_2111) := Fld.ext E2562 F2607
       have F2609 : Fld Z h2580 ob_2110 "java/lang/String" "value" "[B" (.ref ob_2111) := F2608.keep K2588 (ninS N2602 nin0)
       have F2610 : Fld Z h2559 ob_2539 "java/lang/String" "value" "[B" (.ref ob_2540) := Fld.ext E2562 F2547
       have F2611 : Fld Z h2580 ob_2539 "java/lang/String" "value" "[B" (.ref ob_2540) := F2610.keep K2588 (ninS N2605 nin0)
       have F2612 : Arv Z h2532 ob_2111 kk_2112 .byte 2 [(.int (in_16.toInt8.toInt32)), (.int (in_17.toInt8.toInt32))] (.int 0) := F2120.keep K2543 nin0
       have F2613 : Arv Z h2559 ob_2111 kk_2112 .byte 2 [(.int (in_16.toInt8.toInt32)), (.int (in_17.toInt8.toInt32))] (.int 0) := F2612.ext E2562
       have N2614 : @Ne Nat ob_2111 ob_2568 := by omega
       have F2615 : Arv Z h2580 ob_2111 kk_2112 .byte 2 [(.int (in_16.toInt8.toInt32)), (.int (in_17.toInt8.toInt32))] (.int 0) := F2613.keep K2588 (ninS N2614 nin0)
       have F2616 : Arv Z h2559 ob_2540 kk_2541 .byte 2 [(.int (in_18.toInt8.toInt32)), (.int (in_19.toInt8.toInt32))] (.int 0) := F2549.ext E2562
       have N2617 : @Ne Nat ob_2540 ob_2568 := by omega
       have F2618 : Arv Z h2580 ob_2540 kk_2541 .byte 2 [(.int (in_18.toInt8.toInt32)), (.int (in_19.toInt8.toInt32))] (.int 0) := F2616.keep K2588 (ninS N2617 nin0)
       have F2721 : Exa Z h2532 ob_2110 "java/lang/String" := F2117.keep K2543
       have F2722 : Exa Z h2559 ob_2110 "java/lang/String" := Exa.ext E2562 F2721
       have F2723 : Exa Z h2580 ob_2110 "java/lang/String" := F2722.keep K2588
       have O2742 : Old Z n0 h2580 := O2577.keep K2588 (allS N2575 all0)
       have Z2743 : n0 ≤ h2580.size := by omega
       obtain ⟨T2744, h2745, v2746, L2747, X2748, e2749, q2750, s2751⟩ := own_callV X2583 hx hZ hown e2584 (y := (⟨"com/example/latente/latente/query/JpqlLexer$Token", "isSymbol", "(Ljava/lang/String;)Z"⟩ : MethodName)) (z := (⟨"com/example/latente/latente/query/JpqlLexer$Token", "isSymbol", "(Ljava/lang/String;)Z"⟩ : MethodName)) (C := "com/example/latente/latente/query/JpqlLexer$Token") (b := ob_2568) (oW hw 51 rfl) (oW hw 52 rfl) (notFace_of_selects (args := #[]) (mvT hZ (oW hw 54 rfl))) (oW hw 54 rfl) (oW hw 53 rfl) (oW hw 35 rfl) (oW hw 55 rfl) (by decide) F2591 (W := 0) (own_rm48 l Z a0 hw [] ob_2568 ob_2539 ob_9 ob_2110 in_6 ob_2111 ob_2540 kk_2112 in_16 in_17 kk_2541 in_18 in_19 h2580 n0 Z2743 O2742 F2589 I460 F2590 N2597 F2599 I487 I495 F2603 F2606 F2609 F2611 F2615 F2618 F2723) (by decide) (by decide) (by decide) (by decide) (g := (mkF m 150 #[iv in_1, iv in_2, iv in_3, iv in_4, iv in_5, iv 5, iv 2, iv in_16, iv in_17, iv in_18, iv in_19, iv 2, rv ob_9, rv ob_2110, rv ob_2539, rv ob_2568, .unset, .unset] [(.ref ob_2539), (.ref ob_2568)])) rfl (by rw [hml]; rfl) (argsL := [(.ref ob_2539)]) (rest := []) rfl (lenOf own_pd7 rfl) rfl (by show 2 * 0 + _ ≤ _; exact Nat.le_of_eq rfl) (hb hby at_150)
       refine oS s2751 ?_
       rcases q2750 with ⟨b2752, b2753, rfl, N2754, K2755⟩ | ⟨b2756, b2757, rfl, N2758, K2759⟩ | ⟨b2760, rfl, N2761, K2762⟩
       · skip
         have N2763 := Fr.app N2593 N2754
         have e2764 := e2749.trans K2755
         show own_G p e below (T2744.setTop (mkF m 153 #[iv in_1, iv in_2, iv in_3, iv in_4, iv in_5, iv 5, iv 2, iv in_16, iv in_17, iv in_18, iv in_19, iv 2, rv ob_9, rv ob_2110, rv ob_2539, rv ob_2568, .unset, .unset] [(.int 1)])) _
         refine oS (fun _ => XS.istore X2748.here hx rfl (hb hby at_153) rfl (l' := #[iv in_1, iv in_2, iv in_3, iv in_4, iv in_5, iv 5, iv 2, iv in_16, iv in_17, iv in_18, iv in_19, iv 2, rv ob_9, rv ob_2110, rv ob_2539, rv ob_2568, iv 1, .unset]) rfl) ?_
         refine oS (fun _ => XS.iload X2748.here hx rfl (hb hby at_155) rfl) ?_
         refine oS (fun _ => XS.iconst X2748.here hx rfl (hb hby at_157) ) ?_
         refine oS (fun _ => XS.icmpNo X2748.here hx rfl (hb hby at_158) rfl (XT.ii_ne_f (by decide))) ?_
         show own_G p e below (T2744.setTop (mkF m 161 #[iv in_1, iv in_2, iv in_3, iv in_4, iv in_5, iv 5, iv 2, iv in_16, iv in_17, iv in_18, iv in_19, iv 2, rv ob_9, rv ob_2110, rv ob_2539, rv ob_2568, iv 1, .unset] [])) _
         refine oS (fun _ => XS.iload X2748.here hx rfl (hb hby at_161) rfl) ?_
         refine oS (fun _ => XS.iload X2748.here hx rfl (hb hby at_163) rfl) ?_
         refine oS (fun _ => XS.icmpNo X2748.here hx rfl (hb hby at_165) rfl (XT.ii_ne_f (by decide))) ?_
         show own_G p e below (T2744.setTop (mkF m 168 #[iv in_1, iv in_2, iv in_3, iv in_4, iv in_5, iv 5, iv 2, iv in_16, iv in_17, iv in_18, iv in_19, iv 2, rv ob_9, rv ob_2110, rv ob_2539, rv ob_2568, iv 1, .unset] [])) _
         refine oS (fun _ => XS.iload X2748.here hx rfl (hb hby at_168) rfl) ?_
         refine oS (fun _ => XS.iconst X2748.here hx rfl (hb hby at_170) ) ?_
         refine oS (fun _ => XS.icmpNo X2748.here hx rfl (hb hby at_171) rfl (XT.ii_lt_f (by decide))) ?_
         show own_G p e below (T2744.setTop (mkF m 174 #[iv in_1, iv in_2, iv in_3, iv in_4, iv in_5, iv 5, iv 2, iv in_16, iv in_17, iv in_18, iv in_19, iv 2, rv ob_9, rv ob_2110, rv ob_2539, rv ob_2568, iv 1, .unset] [])) _
         refine oS (fun _ => XS.iload X2748.here hx rfl (hb hby at_174) rfl) ?_
         refine oS (fun _ => XS.iload X2748.here hx rfl (hb hby at_176) rfl) ?_
         refine oS (fun _ => XS.icmpNo X2748.here hx rfl (hb hby at_178) rfl (XT.ii_ne_f (Eq.symm (own_b2c I29 I30 I35 I36 b2752)))) ?_
         show own_G p e below (T2744.setTop (mkF m 181 #[iv in_1, iv in_2, iv in_3, iv in_4, iv in_5, iv 5, iv 2, iv in_16, iv in_17, iv in_18, iv in_19, iv 2, rv ob_9, rv ob_2110, rv ob_2539, rv ob_2568, iv 1, .unset] [])) _
         refine oS (fun _ => XS.iload X2748.here hx rfl (hb hby at_181) rfl) ?_
         refine oS (fun _ => XS.iconst X2748.here hx rfl (hb hby at_183) ) ?_
         refine oS (fun _ => XS.icmpNo X2748.here hx rfl (hb hby at_184) rfl (XT.ii_lt_f (by decide))) ?_
         show own_G p e below (T2744.setTop (mkF m 187 #[iv in_1, iv in_2, iv in_3, iv in_4, iv in_5, iv 5, iv 2, iv in_16, iv in_17, iv in_18, iv in_19, iv 2, rv ob_9, rv ob_2110, rv ob_2539, rv ob_2568, iv 1, .unset] [])) _
         refine oS (fun _ => XS.iload X2748.here hx rfl (hb hby at_187) rfl) ?_
         refine oS (fun _ => XS.iload X2748.here hx rfl (hb hby at_189) rfl) ?_
         refine oS (fun _ => XS.icmpNo X2748.here hx rfl (hb hby at_191) rfl (XT.ii_ne_f (Eq.symm (own_b2c I32 I33 I38 I39 b2753)))) ?_
         show own_G p e below (T2744.setTop (mkF m 194 #[iv in_1, iv in_2, iv in_3, iv in_4, iv in_5, iv 5, iv 2, iv in_16, iv in_17, iv in_18, iv in_19, iv 2, rv ob_9, rv ob_2110, rv ob_2539, rv ob_2568, iv 1, .unset] [])) _
         refine oS (fun _ => XS.iconst X2748.here hx rfl (hb hby at_194) ) ?_
         refine oS (fun _ => XS.goto X2748.here hx rfl (pc0 := 195) (pc' := 199) rfl (hb hby at_195) (by decide) (by decide)) ?_
         show own_G p e below (T2744.setTop (mkF m 199 #[iv in_1, iv in_2, iv in_3, iv in_4, iv in_5, iv 5, iv 2, iv in_16, iv in_17, iv in_18, iv in_19, iv 2, rv ob_9, rv ob_2110, rv ob_2539, rv ob_2568, iv 1, .unset] [(.int 1)])) _
         refine oS (fun _ => XS.istore X2748.here hx rfl (hb hby at_199) rfl (l' := #[iv in_1, iv in_2, iv in_3, iv in_4, iv in_5, iv 5, iv 2, iv in_16, iv in_17, iv in_18, iv in_19, iv 2, rv ob_9, rv ob_2110, rv ob_2539, rv ob_2568, iv 1, iv 1]) rfl) ?_
         refine oS (fun _ => XS.iload X2748.here hx rfl (hb hby at_201) rfl) ?_
         refine oS (fun _ => XS.iload X2748.here hx rfl (hb hby at_203) rfl) ?_
         refine oS (fun _ => XS.icmpNo X2748.here hx rfl (hb hby at_205) rfl (XT.ii_ne_f (by decide))) ?_
         show own_G p e below (T2744.setTop (mkF m 208 #[iv in_1, iv in_2, iv in_3, iv in_4, iv in_5, iv 5, iv 2, iv in_16, iv in_17, iv in_18, iv in_19, iv 2, rv ob_9, rv ob_2110, rv ob_2539, rv ob_2568, iv 1, iv 1] [])) _
         refine oS (fun _ => XS.iconst X2748.here hx rfl (hb hby at_208) ) ?_
         refine oS (fun _ => XS.goto X2748.here hx rfl (pc0 := 209) (pc' := 213) rfl (hb hby at_209) (by decide) (by decide)) ?_
         show own_G p e below (T2744.setTop (mkF m 213 #[iv in_1, iv in_2, iv in_3, iv in_4, iv in_5, iv 5, iv 2, iv in_16, iv in_17, iv in_18, iv in_19, iv 2, rv ob_9, rv ob_2110, rv ob_2539, rv ob_2568, iv 1, iv 1] [(.int 1)])) _
         have K2765 : Keep h0 h2580 [] := (((((Keep.refl h0 []).trans K2114 all0).trans K2543 all0).ext E2562).trans K2588 (allS (Or.inr (by omega)) all0))
         exact own_retNW X2748 hx (t := .boolean) Bd.notSynchronized Bd.returns (by simp) (hb hby at_213) (by decide) hS hZ hEL hh R2595 e2764 (by omega) (by decide) (by decide) (⟨rfl, N2763⟩)
       · skip
         have N2766 := Fr.app N2593 N2758
         have e2767 := e2749.trans K2759
         show own_G p e below (T2744.setTop (mkF m 153 #[iv in_1, iv in_2, iv in_3, iv in_4, iv in_5, iv 5, iv 2, iv in_16, iv in_17, iv in_18, iv in_19, iv 2, rv ob_9, rv ob_2110, rv ob_2539, rv ob_2568, .unset, .unset] [(.int 0)])) _
         refine oS (fun _ => XS.istore X2748.here hx rfl (hb hby at_153) rfl (l' := #[iv in_1, iv in_2, iv in_3, iv in_4, iv in_5, iv 5, iv 2, iv in_16, iv in_17, iv in_18, iv in_19, iv 2, rv ob_9, rv ob_2110, rv ob_2539, rv ob_2568, iv 0, .unset]) rfl) ?_
         refine oS (fun _ => XS.iload X2748.here hx rfl (hb hby at_155) rfl) ?_
         refine oS (fun _ => XS.iconst X2748.here hx rfl (hb hby at_157) ) ?_
         refine oS (fun _ => XS.icmpNo X2748.here hx rfl (hb hby at_158) rfl (XT.ii_ne_f (by decide))) ?_
         show own_G p e below (T2744.setTop (mkF m 161 #[iv in_1, iv in_2, iv in_3, iv in_4, iv in_5, iv 5, iv 2, iv in_16, iv in_17, iv in_18, iv in_19, iv 2, rv ob_9, rv ob_2110, rv ob_2539, rv ob_2568, iv 0, .unset] [])) _
         refine oS (fun _ => XS.iload X2748.here hx rfl (hb hby at_161) rfl) ?_
         refine oS (fun _ => XS.iload X2748.here hx rfl (hb hby at_163) rfl) ?_
         refine oS (fun _ => XS.icmpNo X2748.here hx rfl (hb hby at_165) rfl (XT.ii_ne_f (by decide))) ?_
         show own_G p e below (T2744.setTop (mkF m 168 #[iv in_1, iv in_2, iv in_3, iv in_4, iv in_5, iv 5, iv 2, iv in_16, iv in_17, iv in_18, iv in_19, iv 2, rv ob_9, rv ob_2110, rv ob_2539, rv ob_2568, iv 0, .unset] [])) _
         refine oS (fun _ => XS.iload X2748.here hx rfl (hb hby at_168) rfl) ?_
         refine oS (fun _ => XS.iconst X2748.here hx rfl (hb hby at_170) ) ?_
         refine oS (fun _ => XS.icmpNo X2748.here hx rfl (hb hby at_171) rfl (XT.ii_lt_f (by decide))) ?_
         show own_G p e below (T2744.setTop (mkF m 174 #[iv in_1, iv in_2, iv in_3, iv in_4, iv in_5, iv 5, iv 2, iv in_16, iv in_17, iv in_18, iv in_19, iv 2, rv ob_9, rv ob_2110, rv ob_2539, rv ob_2568, iv 0, .unset] [])) _
         refine oS (fun _ => XS.iload X2748.here hx rfl (hb hby at_174) rfl) ?_
         refine oS (fun _ => XS.iload X2748.here hx rfl (hb hby at_176) rfl) ?_
         refine oS (fun _ => XS.icmpNo X2748.here hx rfl (hb hby at_178) rfl (XT.ii_ne_f (Eq.symm (own_b2c I29 I30 I35 I36 b2756)))) ?_
         show own_G p e below (T2744.setTop (mkF m 181 #[iv in_1, iv in_2, iv in_3, iv in_4, iv in_5, iv 5, iv 2, iv in_16, iv in_17, iv in_18, iv in_19, iv 2, rv ob_9, rv ob_2110, rv ob_2539, rv ob_2568, iv 0, .unset] [])) _
         refine oS (fun _ => XS.iload X2748.here hx rfl (hb hby at_181) rfl) ?_
         refine oS (fun _ => XS.iconst X2748.here hx rfl (hb hby at_183) ) ?_
         refine oS (fun _ => XS.icmpNo X2748.here hx rfl (hb hby at_184) rfl (XT.ii_lt_f (by decide))) ?_
         show own_G p e below (T2744.setTop (mkF m 187 #[iv in_1, iv in_2, iv in_3, iv in_4, iv in_5, iv 5, iv 2, iv in_16, iv in_17, iv in_18, iv in_19, iv 2, rv ob_9, rv ob_2110, rv ob_2539, rv ob_2568, iv 0, .unset] [])) _
         refine oS (fun _ => XS.iload X2748.here hx rfl (hb hby at_187) rfl) ?_
         refine oS (fun _ => XS.iload X2748.here hx rfl (hb hby at_189) rfl) ?_
         refine oS (fun _ => XS.icmpYes X2748.here hx rfl (pc0 := 191) (pc' := 198) rfl (hb hby at_191) rfl (XT.ii_ne_t (fun q => b2757 (by rw [q]))) (by decide) (by decide)) ?_
         show own_G p e below (T2744.setTop (mkF m 198 #[iv in_1, iv in_2, iv in_3, iv in_4, iv in_5, iv 5, iv 2, iv in_16, iv in_17, iv in_18, iv in_19, iv 2, rv ob_9, rv ob_2110, rv ob_2539, rv ob_2568, iv 0, .unset] [])) _
         refine oS (fun _ => XS.iconst X2748.here hx rfl (hb hby at_198) ) ?_
         refine oS (fun _ => XS.istore X2748.here hx rfl (hb hby at_199) rfl (l' := #[iv in_1, iv in_2, iv in_3, iv in_4, iv in_5, iv 5, iv 2, iv in_16, iv in_17, iv in_18, iv in_19, iv 2, rv ob_9, rv ob_2110, rv ob_2539, rv ob_2568, iv 0, iv 0]) rfl) ?_
         refine oS (fun _ => XS.iload X2748.here hx rfl (hb hby at_201) rfl) ?_
         refine oS (fun _ => XS.iload X2748.here hx rfl (hb hby at_203) rfl) ?_
         show own_G p e below (T2744.setTop (mkF m 205 #[iv in_1, iv in_2, iv in_3, iv in_4, iv in_5, iv 5, iv 2, iv in_16, iv in_17, iv in_18, iv in_19, iv 2, rv ob_9, rv ob_2110, rv ob_2539, rv ob_2568, iv 0, iv 0] [(.int 0), (.int 0)])) _
         refine oS (fun _ => XS.icmpNo X2748.here hx rfl (hb hby at_205) rfl (XT.ii_ne_f (by decide))) ?_
         show own_G p e below (T2744.setTop (mkF m 208 #[iv in_1, iv in_2, iv in_3, iv in_4, iv in_5, iv 5, iv 2, iv in_16, iv in_17, iv in_18, iv in_19, iv 2, rv ob_9, rv ob_2110, rv ob_2539, rv ob_2568, iv 0, iv 0] [])) _
         refine oS (fun _ => XS.iconst X2748.here hx rfl (hb hby at_208) ) ?_
         refine oS (fun _ => XS.goto X2748.here hx rfl (pc0 := 209) (pc' := 213) rfl (hb hby at_209) (by decide) (by decide)) ?_
         show own_G p e below (T2744.setTop (mkF m 213 #[iv in_1, iv in_2, iv in_3, iv in_4, iv in_5, iv 5, iv 2, iv in_16, iv in_17, iv in_18, iv in_19, iv 2, rv ob_9, rv ob_2110, rv ob_2539, rv ob_2568, iv 0, iv 0] [(.int 1)])) _
         have K2768 : Keep h0 h2580 [] := (((((Keep.refl h0 []).trans K2114 all0).trans K2543 all0).ext E2562).trans K2588 (allS (Or.inr (by omega)) all0))
         exact own_retNW X2748 hx (t := .boolean) Bd.notSynchronized Bd.returns (by simp) (hb hby at_213) (by decide) hS hZ hEL hh R2595 e2767 (by omega) (by decide) (by decide) (⟨rfl, N2766⟩)
       · skip
         have N2769 := Fr.app N2593 N2761
         have e2770 := e2749.trans K2762
         show own_G p e below (T2744.setTop (mkF m 153 #[iv in_1, iv in_2, iv in_3, iv in_4, iv in_5, iv 5, iv 2, iv in_16, iv in_17, iv in_18, iv in_19, iv 2, rv ob_9, rv ob_2110, rv ob_2539, rv ob_2568, .unset, .unset] [(.int 0)])) _
         refine oS (fun _ => XS.istore X2748.here hx rfl (hb hby at_153) rfl (l' := #[iv in_1, iv in_2, iv in_3, iv in_4, iv in_5, iv 5, iv 2, iv in_16, iv in_17, iv in_18, iv in_19, iv 2, rv ob_9, rv ob_2110, rv ob_2539, rv ob_2568, iv 0, .unset]) rfl) ?_
         refine oS (fun _ => XS.iload X2748.here hx rfl (hb hby at_155) rfl) ?_
         refine oS (fun _ => XS.iconst X2748.here hx rfl (hb hby at_157) ) ?_
         refine oS (fun _ => XS.icmpNo X2748.here hx rfl (hb hby at_158) rfl (XT.ii_ne_f (by decide))) ?_
         show own_G p e below (T2744.setTop (mkF m 161 #[iv in_1, iv in_2, iv in_3, iv in_4, iv in_5, iv 5, iv 2, iv in_16, iv in_17, iv in_18, iv in_19, iv 2, rv ob_9, rv ob_2110, rv ob_2539, rv ob_2568, iv 0, .unset] [])) _
         refine oS (fun _ => XS.iload X2748.here hx rfl (hb hby at_161) rfl) ?_
         refine oS (fun _ => XS.iload X2748.here hx rfl (hb hby at_163) rfl) ?_
         refine oS (fun _ => XS.icmpNo X2748.here hx rfl (hb hby at_165) rfl (XT.ii_ne_f (by decide))) ?_
         show own_G p e below (T2744.setTop (mkF m 168 #[iv in_1, iv in_2, iv in_3, iv in_4, iv in_5, iv 5, iv 2, iv in_16, iv in_17, iv in_18, iv in_19, iv 2, rv ob_9, rv ob_2110, rv ob_2539, rv ob_2568, iv 0, .unset] [])) _
         refine oS (fun _ => XS.iload X2748.here hx rfl (hb hby at_168) rfl) ?_
         refine oS (fun _ => XS.iconst X2748.here hx rfl (hb hby at_170) ) ?_
         refine oS (fun _ => XS.icmpNo X2748.here hx rfl (hb hby at_171) rfl (XT.ii_lt_f (by decide))) ?_
         show own_G p e below (T2744.setTop (mkF m 174 #[iv in_1, iv in_2, iv in_3, iv in_4, iv in_5, iv 5, iv 2, iv in_16, iv in_17, iv in_18, iv in_19, iv 2, rv ob_9, rv ob_2110, rv ob_2539, rv ob_2568, iv 0, .unset] [])) _
         refine oS (fun _ => XS.iload X2748.here hx rfl (hb hby at_174) rfl) ?_
         refine oS (fun _ => XS.iload X2748.here hx rfl (hb hby at_176) rfl) ?_
         refine oS (fun _ => XS.icmpYes X2748.here hx rfl (pc0 := 178) (pc' := 198) rfl (hb hby at_178) rfl (XT.ii_ne_t (fun q => b2760 (by rw [q]))) (by decide) (by decide)) ?_
         show own_G p e below (T2744.setTop (mkF m 198 #[iv in_1, iv in_2, iv in_3, iv in_4, iv in_5, iv 5, iv 2, iv in_16, iv in_17, iv in_18, iv in_19, iv 2, rv ob_9, rv ob_2110, rv ob_2539, rv ob_2568, iv 0, .unset] [])) _
         refine oS (fun _ => XS.iconst X2748.here hx rfl (hb hby at_198) ) ?_
         refine oS (fun _ => XS.istore X2748.here hx rfl (hb hby at_199) rfl (l' := #[iv in_1, iv in_2, iv in_3, iv in_4, iv in_5, iv 5, iv 2, iv in_16, iv in_17, iv in_18, iv in_19, iv 2, rv ob_9, rv ob_2110, rv ob_2539, rv ob_2568, iv 0, iv 0]) rfl) ?_
         refine oS (fun _ => XS.iload X2748.here hx rfl (hb hby at_201) rfl) ?_
         refine oS (fun _ => XS.iload X2748.here hx rfl (hb hby at_203) rfl) ?_
         show own_G p e below (T2744.setTop (mkF m 205 #[iv in_1, iv in_2, iv in_3, iv in_4, iv in_5, iv 5, iv 2, iv in_16, iv in_17, iv in_18, iv in_19, iv 2, rv ob_9, rv ob_2110, rv ob_2539, rv ob_2568, iv 0, iv 0] [(.int 0), (.int 0)])) _
         refine oS (fun _ => XS.icmpNo X2748.here hx rfl (hb hby at_205) rfl (XT.ii_ne_f (by decide))) ?_
         show own_G p e below (T2744.setTop (mkF m 208 #[iv in_1, iv in_2, iv in_3, iv in_4, iv in_5, iv 5, iv 2, iv in_16, iv in_17, iv in_18, iv in_19, iv 2, rv ob_9, rv ob_2110, rv ob_2539, rv ob_2568, iv 0, iv 0] [])) _
         refine oS (fun _ => XS.iconst X2748.here hx rfl (hb hby at_208) ) ?_
         refine oS (fun _ => XS.goto X2748.here hx rfl (pc0 := 209) (pc' := 213) rfl (hb hby at_209) (by decide) (by decide)) ?_
         show own_G p e below (T2744.setTop (mkF m 213 #[iv in_1, iv in_2, iv in_3, iv in_4, iv in_5, iv 5, iv 2, iv in_16, iv in_17, iv in_18, iv in_19, iv 2, rv ob_9, rv ob_2110, rv ob_2539, rv ob_2568, iv 0, iv 0] [(.int 1)])) _
         have K2771 : Keep h0 h2580 [] := (((((Keep.refl h0 []).trans K2114 all0).trans K2543 all0).ext E2562).trans K2588 (allS (Or.inr (by omega)) all0))
         exact own_retNW X2748 hx (t := .boolean) Bd.notSynchronized Bd.returns (by simp) (hb hby at_213) (by decide) hS hZ hEL hh R2595 e2770 (by omega) (by decide) (by decide) (⟨rfl, N2769⟩)
  have J2780 : ∀ (T2781 : State) (L2784 : List Loc) (X2782 : Stand p l e room_1 (s.setVm s.vm) m #[(.int in_1), (.int in_2), (.int in_3), (.int in_4), (.int in_5)] below meth c T2781 L2784 0 0) (e2783 : T2781.heap = h0) (N2785 : Fr n0 L2784) (in_2772 : Int32) (in_2773 : Int32) (in_2774 : Int32) (in_2775 : Int32) (in_2776 : Int32) (in_2777 : Int32) (in_2778 : Int32) (ob_2779 : Nat) (I2786 : Exa Z Z.heap ob_2779 "com/example/latente/latente/query/JpqlLexer$Kind") (I2787 : 0 ≤ in_2772.toInt ∧ in_2772.toInt < 3) (I2788 : 0 ≤ in_2777.toInt ∧ in_2777.toInt < 3) (I2789 : ¬ (in_2773 < 0)) (I2790 : ¬ (255 < in_2773)) (I2791 : nar .char in_2773 = in_2773) (I2792 : ¬ (in_2774 < 0)) (I2793 : ¬ (255 < in_2774)) (I2794 : nar .char in_2774 = in_2774) (I2795 : ¬ (in_2775 < 0)) (I2796 : ¬ (255 < in_2775)) (I2797 : nar .char in_2775 = in_2775) (I2798 : ¬ (in_2776 < 0)) (I2799 : ¬ (255 < in_2776)) (I2800 : nar .char in_2776 = in_2776) (I2801 : ¬ (in_2778 = 5)) (I2802 : @Ne Nat ob_2779 ob_9), own_G p e below (T2781.setTop (mkF m 109 #[iv in_1, iv in_2, iv in_3, iv in_4, iv in_5, iv in_2778, iv in_2772, iv in_2773, iv in_2774, iv in_2775, iv in_2776, iv in_2777, rv ob_2779, .unset, .unset, .unset, .unset, .unset] [])) (own_PW Z own_EL s (own_Q1 Z in_1 in_2 in_3 in_4 in_5 ob_9 in_6 ob_8 ob_11 ob_13 ob_10 ob_14 ob_12 h0 n0) 24 1152) := by
   intro T2781 L2784 X2782 e2783 N2785 in_2772 in_2773 in_2774 in_2775 in_2776 in_2777 in_2778 ob_2779 I2786 I2787 I2788 I2789 I2790 I2791 I2792 I2793 I2794 I2795 I2796 I2797 I2798 I2799 I2800 I2801 I2802
   rcases own_in3 I2787 with q2803 | q2804 | q2805
   · skip
     refine own_cast (g' := (mkF m 109 #[iv in_1, iv in_2, iv in_3, iv in_4, iv in_5, iv in_2778, iv 0, iv in_2773, iv in_2774, iv in_2775, iv in_2776, iv in_2777, rv ob_2779, .unset, .unset, .unset, .unset, .unset] [])) (by rw [q2803]) ?_
     show own_G p e below (T2781.setTop (mkF m 109 #[iv in_1, iv in_2, iv in_3, iv in_4, iv in_5, iv in_2778, iv 0, iv in_2773, iv in_2774, iv in_2775, iv in_2776, iv in_2777, rv ob_2779, .unset, .unset, .unset, .unset, .unset] [])) _
     refine oS (fun _ => XS.iload X2782.here hx rfl (hb hby at_109) rfl) ?_
     refine oS (fun _ => XS.iload X2782.here hx rfl (hb hby at_111) rfl) ?_
     refine oS (fun _ => XS.iload X2782.here hx rfl (hb hby at_113) rfl) ?_
     obtain ⟨T2806, h2807, v2808, L2809, X2810, e2811, q2812, hS, hZ, hown, A2813, s2814⟩ := own_callSW X2782 hx hZ hown e2783 (y := (⟨"com/example/latente/latente/query/TokenIsSymbolPinLaw", "str", "(ICC)Ljava/lang/String;"⟩ : MethodName)) (sf := []) (oW hw 8 rfl) (oW hw 9 rfl) (oW hw 3 rfl) (oW hw 10 rfl) (by decide) hS (by omega) hEL hR.1 sf0 all0 (W := 0) (own_rm5 l Z a0 hw hEL [] in_2773 in_2774 h0 n0 Z0 O0 ) (by decide) (by decide) (by decide) (by decide) (g := (mkF m 115 #[iv in_1, iv in_2, iv in_3, iv in_4, iv in_5, iv in_2778, iv 0, iv in_2773, iv in_2774, iv in_2775, iv in_2776, iv in_2777, rv ob_2779, .unset, .unset, .unset, .unset, .unset] [(.int in_2774), (.int in_2773), (.int 0)])) rfl (by rw [hml]; rfl) (argsL := [(.int 0), (.int in_2773), (.int in_2774)]) (rest := []) rfl (lenOf own_pd2 rfl) rfl (by show 2 * 0 + _ ≤ _; exact Nat.le_of_eq rfl) (hb hby at_115)
     refine oS s2814 ?_
     obtain ⟨ob_2815, ob_2816, kk_2817, rfl, N2818, K2819, F2820, F2821, F2822, F2823, F2824, F2825, F2826⟩ := q2812
     have N2827 := Fr.app N2785 N2818
     have R2828 : CHr Z own_EL s.vm h0 T2806.vm h2807 := hR.trans A2813
     have z2829 := K2819.1
     show own_G p e below (T2806.setTop (mkF m 118 #[iv in_1, iv in_2, iv in_3, iv in_4, iv in_5, iv in_2778, iv 0, iv in_2773, iv in_2774, iv in_2775, iv in_2776, iv in_2777, rv ob_2779, .unset, .unset, .unset, .unset, .unset] [(.ref ob_2815)])) _
     refine oS (fun _ => XS.astore X2810.here hx rfl (hb hby at_118) rfl rfl (l' := #[iv in_1, iv in_2, iv in_3, iv in_4, iv in_5, iv in_2778, iv 0, iv in_2773, iv in_2774, iv in_2775, iv in_2776, iv in_2777, rv ob_2779, rv ob_2815, .unset, .unset, .unset, .unset]) rfl) ?_
     show own_G p e below (T2806.setTop (mkF m 120 #[iv in_1, iv in_2, iv in_3, iv in_4, iv in_5, iv in_2778, iv 0, iv in_2773, iv in_2774, iv in_2775, iv in_2776, iv in_2777, rv ob_2779, rv ob_2815, .unset, .unset, .unset, .unset] [])) _
     rcases own_in3 I2788 with q2830 | q2831 | q2832
     · skip
       refine own_cast (g' := (mkF m 120 #[iv in_1, iv in_2, iv in_3, iv in_4, iv in_5, iv in_2778, iv 0, iv in_2773, iv in_2774, iv in_2775, iv in_2776, iv 0, rv ob_2779, rv ob_2815, .unset, .unset, .unset, .unset] [])) (by rw [q2830]) ?_
       show own_G p e below (T2806.setTop (mkF m 120 #[iv in_1, iv in_2, iv in_3, iv in_4, iv in_5, iv in_2778, iv 0, iv in_2773, iv in_2774, iv in_2775, iv in_2776, iv 0, rv ob_2779, rv ob_2815, .unset, .unset, .unset, .unset] [])) _
       refine oS (fun _ => XS.iload X2810.here hx rfl (hb hby at_120) rfl) ?_
       refine oS (fun _ => XS.iload X2810.here hx rfl (hb hby at_122) rfl) ?_
       refine oS (fun _ => XS.iload X2810.here hx rfl (hb hby at_124) rfl) ?_
       have O2833 : Old Z n0 h2807 := O0.keep K2819 all0
       have Z2834 : n0 ≤ h2807.size := by omega
       obtain ⟨T2835, h2836, v2837, L2838, X2839, e2840, q2841, hS, hZ, hown, A2842, s2843⟩ := own_callSW X2810 hx hZ hown e2811 (y := (⟨"com/example/latente/latente/query/TokenIsSymbolPinLaw", "str", "(ICC)Ljava/lang/String;"⟩ : MethodName)) (sf := []) (oW hw 8 rfl) (oW hw 9 rfl) (oW hw 3 rfl) (oW hw 10 rfl) (by decide) hS (by omega) hEL R2828.1 sf0 all0 (W := 0) (own_rm5 l Z a0 hw hEL [] in_2775 in_2776 h2807 n0 Z2834 O2833 ) (by decide) (by decide) (by decide) (by decide) (g := (mkF m 126 #[iv in_1, iv in_2, iv in_3, iv in_4, iv in_5, iv in_2778, iv 0, iv in_2773, iv in_2774, iv in_2775, iv in_2776, iv 0, rv ob_2779, rv ob_2815, .unset, .unset, .unset, .unset] [(.int in_2776), (.int in_2775), (.int 0)])) rfl (by rw [hml]; rfl) (argsL := [(.int 0), (.int in_2775), (.int in_2776)]) (rest := []) rfl (lenOf own_pd2 rfl) rfl (by show 2 * 0 + _ ≤ _; exact Nat.le_of_eq rfl) (hb hby at_126)
       refine oS s2843 ?_
       obtain ⟨ob_2844, ob_2845, kk_2846, rfl, N2847, K2848, F2849, F2850, F2851, F2852, F2853, F2854, F2855⟩ := q2841
       have N2856 := Fr.app N2827 N2847
       have R2857 : CHr Z own_EL s.vm h0 T2835.vm h2836 := R2828.trans A2842
       have z2858 := K2848.1
       show own_G p e below (T2835.setTop (mkF m 129 #[iv in_1, iv in_2, iv in_3, iv in_4, iv in_5, iv in_2778, iv 0, iv in_2773, iv in_2774, iv in_2775, iv in_2776, iv 0, rv ob_2779, rv ob_2815, .unset, .unset, .unset, .unset] [(.ref ob_2844)])) _
       refine oS (fun _ => XS.astore X2839.here hx rfl (hb hby at_129) rfl rfl (l' := #[iv in_1, iv in_2, iv in_3, iv in_4, iv in_5, iv in_2778, iv 0, iv in_2773, iv in_2774, iv in_2775, iv in_2776, iv 0, rv ob_2779, rv ob_2815, rv ob_2844, .unset, .unset, .unset]) rfl) ?_
       obtain ⟨T2859, h2860, X2861, e2862, E2863, A2864, D2865, U2868, s2866⟩ := newO X2839 hx hZ hown (oW hw 33 rfl) (oW hw 34 rfl) (oW hw 35 rfl) e2840 (g := (mkF m 131 #[iv in_1, iv in_2, iv in_3, iv in_4, iv in_5, iv in_2778, iv 0, iv in_2773, iv in_2774, iv in_2775, iv in_2776, iv 0, rv ob_2779, rv ob_2815, rv ob_2844, .unset, .unset, .unset] [])) rfl (hb hby at_131) (by decide) (by decide)
       obtain ⟨ob_2869, g2870⟩ : ∃ z, z = h2836.size := ⟨_, rfl⟩
       rw [← g2870] at A2864 D2865 U2868 s2866
       have z2871 := E2863.1
       have y2867 : @LT.lt Nat instLTNat ob_2869 h2860.size := A2864.lt
       refine oS s2866 ?_
       have R2872 : CHr Z own_EL s.vm h0 T2835.vm h2860 := R2857.trans (CHr.ext E2863 R2857.1)
       have F2873 : Fld Z h2860 ob_2869 "com/example/latente/latente/query/JpqlLexer$Token" "kind" "Lcom/example/latente/latente/query/JpqlLexer$Kind;" .null := D2865 (Or.inr (oW hw 46 rfl)) (ty := (.object "com/example/latente/latente/query/JpqlLexer$Kind")) (by decide)
       have F2874 : Fld Z h2860 ob_2869 "com/example/latente/latente/query/JpqlLexer$Token" "text" "Ljava/lang/String;" .null := D2865 (Or.inr (oW hw 48 rfl)) (ty := (.object "java/lang/String")) (by decide)
       have F2875 : Fld Z h2860 ob_2869 "com/example/latente/latente/query/JpqlLexer$Token" "position" "I" (.int 0) := D2865 (Or.inr (oW hw 50 rfl)) (ty := .int) (by decide)
       show own_G p e below (T2859.setTop (mkF m 134 #[iv in_1, iv in_2, iv in_3, iv in_4, iv in_5, iv in_2778, iv 0, iv in_2773, iv in_2774, iv in_2775, iv in_2776, iv 0, rv ob_2779, rv ob_2815, rv ob_2844, .unset, .unset, .unset] [(.ref ob_2869)])) _
       refine oS (fun _ => XS.dup X2861.here hx rfl (hb hby at_134) rfl rfl) ?_
       refine oS (fun _ => XS.aload X2861.here hx rfl (hb hby at_135) rfl rfl) ?_
       refine oS (fun _ => XS.aload X2861.here hx rfl (hb hby at_137) rfl rfl) ?_
       refine oS (fun _ => XS.iload X2861.here hx rfl (hb hby at_139) rfl) ?_
       show own_G p e below (T2859.setTop (mkF m 141 #[iv in_1, iv in_2, iv in_3, iv in_4, iv in_5, iv in_2778, iv 0, iv in_2773, iv in_2774, iv in_2775, iv in_2776, iv 0, rv ob_2779, rv ob_2815, rv ob_2844, .unset, .unset, .unset] [(.int in_5), (.ref ob_2815), (.ref ob_2779), (.ref ob_2869), (.ref ob_2869)])) _
       have N2876 : n0 ≤ ob_2869 := by omega
       have O2877 : Old Z n0 h2836 := O2833.keep K2848 all0
       have O2878 : Old Z n0 h2860 := O2877.ext E2863
       have Z2879 : n0 ≤ h2860.size := by omega
       obtain ⟨T2880, h2881, v2882, L2883, X2884, e2885, q2886, s2887⟩ := own_callN X2861 hx hZ hown e2862 (y := (⟨"com/example/latente/latente/query/JpqlLexer$Token", "<init>", "(Lcom/example/latente/latente/query/JpqlLexer$Kind;Ljava/lang/String;I)V"⟩ : MethodName)) (b := ob_2869) rfl (oW hw 36 rfl) (oW hw 37 rfl) (oW hw 35 rfl) (oW hw 38 rfl) (by decide) (W := 1) (own_rm11 l Z a0 hw [] ob_2869 ob_2779 ob_2815 in_5 h2860 n0 Z2879 O2878 F2873 A2864 N2876 F2874 F2875) (by decide) (by decide) (by decide) (by decide) (g := (mkF m 141 #[iv in_1, iv in_2, iv in_3, iv in_4, iv in_5, iv in_2778, iv 0, iv in_2773, iv in_2774, iv in_2775, iv in_2776, iv 0, rv ob_2779, rv ob_2815, rv ob_2844, .unset, .unset, .unset] [(.int in_5), (.ref ob_2815), (.ref ob_2779), (.ref ob_2869), (.ref ob_2869)])) rfl (by rw [hml]; rfl) (argsL := [(.ref ob_2779), (.ref ob_2815), (.int in_5)]) (rest := [(.ref ob_2869)]) rfl (lenOf own_pd4 rfl) rfl (by show 2 * 0 + _ ≤ _; exact Nat.le_of_eq rfl) (hb hby at_141)
       refine oS s2887 ?_
       obtain ⟨rfl, N2888, K2889, F2890, F2891, F2892, F2893⟩ := q2886
       have N2894 := Fr.app N2856 N2888
       have S2895 : Safe Z own_EL T2835.vm h2860 ob_2869 := Safe.exa hZ.alike A2864 (by decide) (by decide)
       have R2896 : CHr Z own_EL s.vm h0 T2835.vm h2881 := R2872.trans (CHr.keep K2889 (sfS S2895 sf0) R2872.1)
       have z2897 := K2889.1
       show own_G p e below (T2880.setTop (mkF m 144 #[iv in_1, iv in_2, iv in_3, iv in_4, iv in_5, iv in_2778, iv 0, iv in_2773, iv in_2774, iv in_2775, iv in_2776, iv 0, rv ob_2779, rv ob_2815, rv ob_2844, .unset, .unset, .unset] [(.ref ob_2869)])) _
       refine oS (fun _ => XS.astore X2884.here hx rfl (hb hby at_144) rfl rfl (l' := #[iv in_1, iv in_2, iv in_3, iv in_4, iv in_5, iv in_2778, iv 0, iv in_2773, iv in_2774, iv in_2775, iv in_2776, iv 0, rv ob_2779, rv ob_2815, rv ob_2844, rv ob_2869, .unset, .unset]) rfl) ?_
       refine oS (fun _ => XS.aload X2884.here hx rfl (hb hby at_146) rfl rfl) ?_
       refine oS (fun _ => XS.aload X2884.here hx rfl (hb hby at_148) rfl rfl) ?_
       have O2910 : Old Z n0 h2881 := O2878.keep K2889 (allS N2876 all0)
       have Z2911 : n0 ≤ h2881.size := by omega
       obtain ⟨T2912, h2913, v2914, L2915, X2916, e2917, q2918, s2919⟩ := own_callV X2884 hx hZ hown e2885 (y := (⟨"com/example/latente/latente/query/JpqlLexer$Token", "isSymbol", "(Ljava/lang/String;)Z"⟩ : MethodName)) (z := (⟨"com/example/latente/latente/query/JpqlLexer$Token", "isSymbol", "(Ljava/lang/String;)Z"⟩ : MethodName)) (C := "com/example/latente/latente/query/JpqlLexer$Token") (b := ob_2869) (oW hw 51 rfl) (oW hw 52 rfl) (notFace_of_selects (args := #[]) (mvT hZ (oW hw 54 rfl))) (oW hw 54 rfl) (oW hw 53 rfl) (oW hw 35 rfl) (oW hw 55 rfl) (by decide) F2892 (W := 0) (own_rm51 l Z a0 hw [] ob_2869 ob_2844 ob_2779 ob_9 h2881 n0 Z2911 O2910 F2890 I460 I2802) (by decide) (by decide) (by decide) (by decide) (g := (mkF m 150 #[iv in_1, iv in_2, iv in_3, iv in_4, iv in_5, iv in_2778, iv 0, iv in_2773, iv in_2774, iv in_2775, iv in_2776, iv 0, rv ob_2779, rv ob_2815, rv ob_2844, rv ob_2869, .unset, .unset] [(.ref ob_2844), (.ref ob_2869)])) rfl (by rw [hml]; rfl) (argsL := [(.ref ob_2844)]) (rest := []) rfl (lenOf own_pd7 rfl) rfl (by show 2 * 0 + _ ≤ _; exact Nat.le_of_eq rfl) (hb hby at_150)
       refine oS s2919 ?_
       obtain ⟨rfl, N2920, K2921⟩ := q2918
       have N2922 := Fr.app N2894 N2920
       have e2923 := e2917.trans K2921
       show own_G p e below (T2912.setTop (mkF m 153 #[iv in_1, iv in_2, iv in_3, iv in_4, iv in_5, iv in_2778, iv 0, iv in_2773, iv in_2774, iv in_2775, iv in_2776, iv 0, rv ob_2779, rv ob_2815, rv ob_2844, rv ob_2869, .unset, .unset] [(.int 0)])) _
       refine oS (fun _ => XS.istore X2916.here hx rfl (hb hby at_153) rfl (l' := #[iv in_1, iv in_2, iv in_3, iv in_4, iv in_5, iv in_2778, iv 0, iv in_2773, iv in_2774, iv in_2775, iv in_2776, iv 0, rv ob_2779, rv ob_2815, rv ob_2844, rv ob_2869, iv 0, .unset]) rfl) ?_
       refine oS (fun _ => XS.iload X2916.here hx rfl (hb hby at_155) rfl) ?_
       refine oS (fun _ => XS.iconst X2916.here hx rfl (hb hby at_157) ) ?_
       refine oS (fun _ => XS.icmpYes X2916.here hx rfl (pc0 := 158) (pc' := 198) rfl (hb hby at_158) rfl (XT.ii_ne_t I2801) (by decide) (by decide)) ?_
       show own_G p e below (T2912.setTop (mkF m 198 #[iv in_1, iv in_2, iv in_3, iv in_4, iv in_5, iv in_2778, iv 0, iv in_2773, iv in_2774, iv in_2775, iv in_2776, iv 0, rv ob_2779, rv ob_2815, rv ob_2844, rv ob_2869, iv 0, .unset] [])) _
       refine oS (fun _ => XS.iconst X2916.here hx rfl (hb hby at_198) ) ?_
       refine oS (fun _ => XS.istore X2916.here hx rfl (hb hby at_199) rfl (l' := #[iv in_1, iv in_2, iv in_3, iv in_4, iv in_5, iv in_2778, iv 0, iv in_2773, iv in_2774, iv in_2775, iv in_2776, iv 0, rv ob_2779, rv ob_2815, rv ob_2844, rv ob_2869, iv 0, iv 0]) rfl) ?_
       refine oS (fun _ => XS.iload X2916.here hx rfl (hb hby at_201) rfl) ?_
       refine oS (fun _ => XS.iload X2916.here hx rfl (hb hby at_203) rfl) ?_
       show own_G p e below (T2912.setTop (mkF m 205 #[iv in_1, iv in_2, iv in_3, iv in_4, iv in_5, iv in_2778, iv 0, iv in_2773, iv in_2774, iv in_2775, iv in_2776, iv 0, rv ob_2779, rv ob_2815, rv ob_2844, rv ob_2869, iv 0, iv 0] [(.int 0), (.int 0)])) _
       refine oS (fun _ => XS.icmpNo X2916.here hx rfl (hb hby at_205) rfl (XT.ii_ne_f (by decide))) ?_
       show own_G p e below (T2912.setTop (mkF m 208 #[iv in_1, iv in_2, iv in_3, iv in_4, iv in_5, iv in_2778, iv 0, iv in_2773, iv in_2774, iv in_2775, iv in_2776, iv 0, rv ob_2779, rv ob_2815, rv ob_2844, rv ob_2869, iv 0, iv 0] [])) _
       refine oS (fun _ => XS.iconst X2916.here hx rfl (hb hby at_208) ) ?_
       refine oS (fun _ => XS.goto X2916.here hx rfl (pc0 := 209) (pc' := 213) rfl (hb hby at_209) (by decide) (by decide)) ?_
       show own_G p e below (T2912.setTop (mkF m 213 #[iv in_1, iv in_2, iv in_3, iv in_4, iv in_5, iv in_2778, iv 0, iv in_2773, iv in_2774, iv in_2775, iv in_2776, iv 0, rv ob_2779, rv ob_2815, rv ob_2844, rv ob_2869, iv 0, iv 0] [(.int 1)])) _
       have K2924 : Keep h0 h2881 [] := (((((Keep.refl h0 []).trans K2819 all0).trans K2848 all0).ext E2863).trans K2889 (allS (Or.inr (by omega)) all0))
       exact own_retNW X2916 hx (t := .boolean) Bd.notSynchronized Bd.returns (by simp) (hb hby at_213) (by decide) hS hZ hEL hh R2896 e2923 (by omega) (by decide) (by decide) (⟨rfl, N2922⟩)
     · skip
       refine own_cast (g' := (mkF m 120 #[iv in_1, iv in_2, iv in_3, iv in_4, iv in_5, iv in_2778, iv 0, iv in_2773, iv in_2774, iv in_2775, iv in_2776, iv 1, rv ob_2779, rv ob_2815, .unset, .unset, .unset, .unset] [])) (by rw [q2831]) ?_
       show own_G p e below (T2806.setTop (mkF m 120 #[iv in_1, iv in_2, iv in_3, iv in_4, iv in_5, iv in_2778, iv 0, iv in_2773, iv in_2774, iv in_2775, iv in_2776, iv 1, rv ob_2779, rv ob_2815, .unset, .unset, .unset, .unset] [])) _
       refine oS (fun _ => XS.iload X2810.here hx rfl (hb hby at_120) rfl) ?_
       refine oS (fun _ => XS.iload X2810.here hx rfl (hb hby at_122) rfl) ?_
       refine oS (fun _ => XS.iload X2810.here hx rfl (hb hby at_124) rfl) ?_
       have O2925 : Old Z n0 h2807 := O0.keep K2819 all0
       have Z2926 : n0 ≤ h2807.size := by omega
       obtain ⟨T2927, h2928, v2929, L2930, X2931, e2932, q2933, s2934⟩ := own_callS X2810 hx hZ hown e2811 (y := (⟨"com/example/latente/latente/query/TokenIsSymbolPinLaw", "str", "(ICC)Ljava/lang/String;"⟩ : MethodName)) (oW hw 8 rfl) (oW hw 9 rfl) (oW hw 3 rfl) (oW hw 10 rfl) (by decide) (W := 0) (own_rm16 l Z a0 hw [] in_2775 in_2776 in_6 h2807 n0 Z2926 O2925 I487 I495 I2796) (by decide) (by decide) (by decide) (by decide) (g := (mkF m 126 #[iv in_1, iv in_2, iv in_3, iv in_4, iv in_5, iv in_2778, iv 0, iv in_2773, iv in_2774, iv in_2775, iv in_2776, iv 1, rv ob_2779, rv ob_2815, .unset, .unset, .unset, .unset] [(.int in_2776), (.int in_2775), (.int 1)])) rfl (by rw [hml]; rfl) (argsL := [(.int 1), (.int in_2775), (.int in_2776)]) (rest := []) rfl (lenOf own_pd2 rfl) rfl (by show 2 * 0 + _ ≤ _; exact Nat.le_of_eq rfl) (hb hby at_126)
       refine oS s2934 ?_
       obtain ⟨ob_2935, ob_2936, kk_2937, rfl, N2938, K2939, F2940, F2941, F2942, F2943, F2944, F2945, F2946, F2947, F2948⟩ := q2933
       have N2949 := Fr.app N2827 N2938
       have R2950 : CHr Z own_EL s.vm h0 T2806.vm h2928 := R2828.trans (CHr.keep K2939 sf0 R2828.1)
       have z2951 := K2939.1
       have S2952 : Safe Z own_EL T2806.vm h2807 ob_2935 := Safe.new (by omega)
       have S2953 : Safe Z own_EL T2806.vm h2807 ob_2936 := Safe.new (by omega)
       show own_G p e below (T2927.setTop (mkF m 129 #[iv in_1, iv in_2, iv in_3, iv in_4, iv in_5, iv in_2778, iv 0, iv in_2773, iv in_2774, iv in_2775, iv in_2776, iv 1, rv ob_2779, rv ob_2815, .unset, .unset, .unset, .unset] [(.ref ob_2935)])) _
       refine oS (fun _ => XS.astore X2931.here hx rfl (hb hby at_129) rfl rfl (l' := #[iv in_1, iv in_2, iv in_3, iv in_4, iv in_5, iv in_2778, iv 0, iv in_2773, iv in_2774, iv in_2775, iv in_2776, iv 1, rv ob_2779, rv ob_2815, rv ob_2935, .unset, .unset, .unset]) rfl) ?_
       obtain ⟨T2954, h2955, X2956, e2957, E2958, A2959, D2960, U2963, s2961⟩ := newO X2931 hx hZ hown (oW hw 33 rfl) (oW hw 34 rfl) (oW hw 35 rfl) e2932 (g := (mkF m 131 #[iv in_1, iv in_2, iv in_3, iv in_4, iv in_5, iv in_2778, iv 0, iv in_2773, iv in_2774, iv in_2775, iv in_2776, iv 1, rv ob_2779, rv ob_2815, rv ob_2935, .unset, .unset, .unset] [])) rfl (hb hby at_131) (by decide) (by decide)
       obtain ⟨ob_2964, g2965⟩ : ∃ z, z = h2928.size := ⟨_, rfl⟩
       rw [← g2965] at A2959 D2960 U2963 s2961
       have z2966 := E2958.1
       have y2962 : @LT.lt Nat instLTNat ob_2964 h2955.size := A2959.lt
       refine oS s2961 ?_
       have R2967 : CHr Z own_EL s.vm h0 T2806.vm h2955 := R2950.trans (CHr.ext E2958 R2950.1)
       have F2968 : Fld Z h2955 ob_2964 "com/example/latente/latente/query/JpqlLexer$Token" "kind" "Lcom/example/latente/latente/query/JpqlLexer$Kind;" .null := D2960 (Or.inr (oW hw 46 rfl)) (ty := (.object "com/example/latente/latente/query/JpqlLexer$Kind")) (by decide)
       have F2969 : Fld Z h2955 ob_2964 "com/example/latente/latente/query/JpqlLexer$Token" "text" "Ljava/lang/String;" .null := D2960 (Or.inr (oW hw 48 rfl)) (ty := (.object "java/lang/String")) (by decide)
       have F2970 : Fld Z h2955 ob_2964 "com/example/latente/latente/query/JpqlLexer$Token" "position" "I" (.int 0) := D2960 (Or.inr (oW hw 50 rfl)) (ty := .int) (by decide)
       show own_G p e below (T2954.setTop (mkF m 134 #[iv in_1, iv in_2, iv in_3, iv in_4, iv in_5, iv in_2778, iv 0, iv in_2773, iv in_2774, iv in_2775, iv in_2776, iv 1, rv ob_2779, rv ob_2815, rv ob_2935, .unset, .unset, .unset] [(.ref ob_2964)])) _
       refine oS (fun _ => XS.dup X2956.here hx rfl (hb hby at_134) rfl rfl) ?_
       refine oS (fun _ => XS.aload X2956.here hx rfl (hb hby at_135) rfl rfl) ?_
       refine oS (fun _ => XS.aload X2956.here hx rfl (hb hby at_137) rfl rfl) ?_
       refine oS (fun _ => XS.iload X2956.here hx rfl (hb hby at_139) rfl) ?_
       show own_G p e below (T2954.setTop (mkF m 141 #[iv in_1, iv in_2, iv in_3, iv in_4, iv in_5, iv in_2778, iv 0, iv in_2773, iv in_2774, iv in_2775, iv in_2776, iv 1, rv ob_2779, rv ob_2815, rv ob_2935, .unset, .unset, .unset] [(.int in_5), (.ref ob_2815), (.ref ob_2779), (.ref ob_2964), (.ref ob_2964)])) _
       have N2971 : n0 ≤ ob_2964 := by omega
       have O2972 : Old Z n0 h2928 := O2925.keep K2939 all0
       have O2973 : Old Z n0 h2955 := O2972.ext E2958
       have Z2974 : n0 ≤ h2955.size := by omega
       obtain ⟨T2975, h2976, v2977, L2978, X2979, e2980, q2981, s2982⟩ := own_callN X2956 hx hZ hown e2957 (y := (⟨"com/example/latente/latente/query/JpqlLexer$Token", "<init>", "(Lcom/example/latente/latente/query/JpqlLexer$Kind;Ljava/lang/String;I)V"⟩ : MethodName)) (b := ob_2964) rfl (oW hw 36 rfl) (oW hw 37 rfl) (oW hw 35 rfl) (oW hw 38 rfl) (by decide) (W := 1) (own_rm11 l Z a0 hw [] ob_2964 ob_2779 ob_2815 in_5 h2955 n0 Z2974 O2973 F2968 A2959 N2971 F2969 F2970) (by decide) (by decide) (by decide) (by decide) (g := (mkF m 141 #[iv in_1, iv in_2, iv in_3, iv in_4, iv in_5, iv in_2778, iv 0, iv in_2773, iv in_2774, iv in_2775, iv in_2776, iv 1, rv ob_2779, rv ob_2815, rv ob_2935, .unset, .unset, .unset] [(.int in_5), (.ref ob_2815), (.ref ob_2779), (.ref ob_2964), (.ref ob_2964)])) rfl (by rw [hml]; rfl) (argsL := [(.ref ob_2779), (.ref ob_2815), (.int in_5)]) (rest := [(.ref ob_2964)]) rfl (lenOf own_pd4 rfl) rfl (by show 2 * 0 + _ ≤ _; exact Nat.le_of_eq rfl) (hb hby at_141)
       refine oS s2982 ?_
       obtain ⟨rfl, N2983, K2984, F2985, F2986, F2987, F2988⟩ := q2981
       have N2989 := Fr.app N2949 N2983
       have S2990 : Safe Z own_EL T2806.vm h2955 ob_2964 := Safe.exa hZ.alike A2959 (by decide) (by decide)
       have R2991 : CHr Z own_EL s.vm h0 T2806.vm h2976 := R2967.trans (CHr.keep K2984 (sfS S2990 sf0) R2967.1)
       have z2992 := K2984.1
       show own_G p e below (T2975.setTop (mkF m 144 #[iv in_1, iv in_2, iv in_3, iv in_4, iv in_5, iv in_2778, iv 0, iv in_2773, iv in_2774, iv in_2775, iv in_2776, iv 1, rv ob_2779, rv ob_2815, rv ob_2935, .unset, .unset, .unset] [(.ref ob_2964)])) _
       refine oS (fun _ => XS.astore X2979.here hx rfl (hb hby at_144) rfl rfl (l' := #[iv in_1, iv in_2, iv in_3, iv in_4, iv in_5, iv in_2778, iv 0, iv in_2773, iv in_2774, iv in_2775, iv in_2776, iv 1, rv ob_2779, rv ob_2815, rv ob_2935, rv ob_2964, .unset, .unset]) rfl) ?_
       refine oS (fun _ => XS.aload X2979.here hx rfl (hb hby at_146) rfl rfl) ?_
       refine oS (fun _ => XS.aload X2979.here hx rfl (hb hby at_148) rfl rfl) ?_
       have O2993 : Old Z n0 h2976 := O2973.keep K2984 (allS N2971 all0)
       have Z2994 : n0 ≤ h2976.size := by omega
       obtain ⟨T2995, h2996, v2997, L2998, X2999, e3000, q3001, s3002⟩ := own_callV X2979 hx hZ hown e2980 (y := (⟨"com/example/latente/latente/query/JpqlLexer$Token", "isSymbol", "(Ljava/lang/String;)Z"⟩ : MethodName)) (z := (⟨"com/example/latente/latente/query/JpqlLexer$Token", "isSymbol", "(Ljava/lang/String;)Z"⟩ : MethodName)) (C := "com/example/latente/latente/query/JpqlLexer$Token") (b := ob_2964) (oW hw 51 rfl) (oW hw 52 rfl) (notFace_of_selects (args := #[]) (mvT hZ (oW hw 54 rfl))) (oW hw 54 rfl) (oW hw 53 rfl) (oW hw 35 rfl) (oW hw 55 rfl) (by decide) F2987 (W := 0) (own_rm51 l Z a0 hw [] ob_2964 ob_2935 ob_2779 ob_9 h2976 n0 Z2994 O2993 F2985 I460 I2802) (by decide) (by decide) (by decide) (by decide) (g := (mkF m 150 #[iv in_1, iv in_2, iv in_3, iv in_4, iv in_5, iv in_2778, iv 0, iv in_2773, iv in_2774, iv in_2775, iv in_2776, iv 1, rv ob_2779, rv ob_2815, rv ob_2935, rv ob_2964, .unset, .unset] [(.ref ob_2935), (.ref ob_2964)])) rfl (by rw [hml]; rfl) (argsL := [(.ref ob_2935)]) (rest := []) rfl (lenOf own_pd7 rfl) rfl (by show 2 * 0 + _ ≤ _; exact Nat.le_of_eq rfl) (hb hby at_150)
       refine oS s3002 ?_
       obtain ⟨rfl, N3003, K3004⟩ := q3001
       have N3005 := Fr.app N2989 N3003
       have e3006 := e3000.trans K3004
       show own_G p e below (T2995.setTop (mkF m 153 #[iv in_1, iv in_2, iv in_3, iv in_4, iv in_5, iv in_2778, iv 0, iv in_2773, iv in_2774, iv in_2775, iv in_2776, iv 1, rv ob_2779, rv ob_2815, rv ob_2935, rv ob_2964, .unset, .unset] [(.int 0)])) _
       refine oS (fun _ => XS.istore X2999.here hx rfl (hb hby at_153) rfl (l' := #[iv in_1, iv in_2, iv in_3, iv in_4, iv in_5, iv in_2778, iv 0, iv in_2773, iv in_2774, iv in_2775, iv in_2776, iv 1, rv ob_2779, rv ob_2815, rv ob_2935, rv ob_2964, iv 0, .unset]) rfl) ?_
       refine oS (fun _ => XS.iload X2999.here hx rfl (hb hby at_155) rfl) ?_
       refine oS (fun _ => XS.iconst X2999.here hx rfl (hb hby at_157) ) ?_
       refine oS (fun _ => XS.icmpYes X2999.here hx rfl (pc0 := 158) (pc' := 198) rfl (hb hby at_158) rfl (XT.ii_ne_t I2801) (by decide) (by decide)) ?_
       show own_G p e below (T2995.setTop (mkF m 198 #[iv in_1, iv in_2, iv in_3, iv in_4, iv in_5, iv in_2778, iv 0, iv in_2773, iv in_2774, iv in_2775, iv in_2776, iv 1, rv ob_2779, rv ob_2815, rv ob_2935, rv ob_2964, iv 0, .unset] [])) _
       refine oS (fun _ => XS.iconst X2999.here hx rfl (hb hby at_198) ) ?_
       refine oS (fun _ => XS.istore X2999.here hx rfl (hb hby at_199) rfl (l' := #[iv in_1, iv in_2, iv in_3, iv in_4, iv in_5, iv in_2778, iv 0, iv in_2773, iv in_2774, iv in_2775, iv in_2776, iv 1, rv ob_2779, rv ob_2815, rv ob_2935, rv ob_2964, iv 0, iv 0]) rfl) ?_
       refine oS (fun _ => XS.iload X2999.here hx rfl (hb hby at_201) rfl) ?_
       refine oS (fun _ => XS.iload X2999.here hx rfl (hb hby at_203) rfl) ?_
       show own_G p e below (T2995.setTop (mkF m 205 #[iv in_1, iv in_2, iv in_3, iv in_4, iv in_5, iv in_2778, iv 0, iv in_2773, iv in_2774, iv in_2775, iv in_2776, iv 1, rv ob_2779, rv ob_2815, rv ob_2935, rv ob_2964, iv 0, iv 0] [(.int 0), (.int 0)])) _
       refine oS (fun _ => XS.icmpNo X2999.here hx rfl (hb hby at_205) rfl (XT.ii_ne_f (by decide))) ?_
       show own_G p e below (T2995.setTop (mkF m 208 #[iv in_1, iv in_2, iv in_3, iv in_4, iv in_5, iv in_2778, iv 0, iv in_2773, iv in_2774, iv in_2775, iv in_2776, iv 1, rv ob_2779, rv ob_2815, rv ob_2935, rv ob_2964, iv 0, iv 0] [])) _
       refine oS (fun _ => XS.iconst X2999.here hx rfl (hb hby at_208) ) ?_
       refine oS (fun _ => XS.goto X2999.here hx rfl (pc0 := 209) (pc' := 213) rfl (hb hby at_209) (by decide) (by decide)) ?_
       show own_G p e below (T2995.setTop (mkF m 213 #[iv in_1, iv in_2, iv in_3, iv in_4, iv in_5, iv in_2778, iv 0, iv in_2773, iv in_2774, iv in_2775, iv in_2776, iv 1, rv ob_2779, rv ob_2815, rv ob_2935, rv ob_2964, iv 0, iv 0] [(.int 1)])) _
       have K3007 : Keep h0 h2976 [] := (((((Keep.refl h0 []).trans K2819 all0).trans K2939 all0).ext E2958).trans K2984 (allS (Or.inr (by omega)) all0))
       exact own_retNW X2999 hx (t := .boolean) Bd.notSynchronized Bd.returns (by simp) (hb hby at_213) (by decide) hS hZ hEL hh R2991 e3006 (by omega) (by decide) (by decide) (⟨rfl, N3005⟩)
     · skip
       refine own_cast (g' := (mkF m 120 #[iv in_1, iv in_2, iv in_3, iv in_4, iv in_5, iv in_2778, iv 0, iv in_2773, iv in_2774, iv in_2775, iv in_2776, iv 2, rv ob_2779, rv ob_2815, .unset, .unset, .unset, .unset] [])) (by rw [q2832]) ?_
       show own_G p e below (T2806.setTop (mkF m 120 #[iv in_1, iv in_2, iv in_3, iv in_4, iv in_5, iv in_2778, iv 0, iv in_2773, iv in_2774, iv in_2775, iv in_2776, iv 2, rv ob_2779, rv ob_2815, .unset, .unset, .unset, .unset] [])) _
       refine oS (fun _ => XS.iload X2810.here hx rfl (hb hby at_120) rfl) ?_
       refine oS (fun _ => XS.iload X2810.here hx rfl (hb hby at_122) rfl) ?_
       refine oS (fun _ => XS.iload X2810.here hx rfl (hb hby at_124) rfl) ?_
       have O3008 : Old Z n0 h2807 := O0.keep K2819 all0
       have Z3009 : n0 ≤ h2807.size := by omega
       obtain ⟨T3010, h3011, v3012, L3013, X3014, e3015, q3016, s3017⟩ := own_callS X2810 hx hZ hown e2811 (y := (⟨"com/example/latente/latente/query/TokenIsSymbolPinLaw", "str", "(ICC)Ljava/lang/String;"⟩ : MethodName)) (oW hw 8 rfl) (oW hw 9 rfl) (oW hw 3 rfl) (oW hw 10 rfl) (by decide) (W := 0) (own_rm24 l Z a0 hw [] in_2775 in_2776 in_6 h2807 n0 Z3009 O3008 I2797 I2800 I487 I495 I2796 I2799) (by decide) (by decide) (by decide) (by decide) (g := (mkF m 126 #[iv in_1, iv in_2, iv in_3, iv in_4, iv in_5, iv in_2778, iv 0, iv in_2773, iv in_2774, iv in_2775, iv in_2776, iv 2, rv ob_2779, rv ob_2815, .unset, .unset, .unset, .unset] [(.int in_2776), (.int in_2775), (.int 2)])) rfl (by rw [hml]; rfl) (argsL := [(.int 2), (.int in_2775), (.int in_2776)]) (rest := []) rfl (lenOf own_pd2 rfl) rfl (by show 2 * 0 + _ ≤ _; exact Nat.le_of_eq rfl) (hb hby at_126)
       refine oS s3017 ?_
       obtain ⟨ob_3018, ob_3019, kk_3020, rfl, N3021, K3022, F3023, F3024, F3025, F3026, F3027, F3028, F3029, F3030, F3031⟩ := q3016
       have N3032 := Fr.app N2827 N3021
       have R3033 : CHr Z own_EL s.vm h0 T2806.vm h3011 := R2828.trans (CHr.keep K3022 sf0 R2828.1)
       have z3034 := K3022.1
       have S3035 : Safe Z own_EL T2806.vm h2807 ob_3018 := Safe.new (by omega)
       have S3036 : Safe Z own_EL T2806.vm h2807 ob_3019 := Safe.new (by omega)
       show own_G p e below (T3010.setTop (mkF m 129 #[iv in_1, iv in_2, iv in_3, iv in_4, iv in_5, iv in_2778, iv 0, iv in_2773, iv in_2774, iv in_2775, iv in_2776, iv 2, rv ob_2779, rv ob_2815, .unset, .unset, .unset, .unset] [(.ref ob_3018)])) _
       refine oS (fun _ => XS.astore X3014.here hx rfl (hb hby at_129) rfl rfl (l' := #[iv in_1, iv in_2, iv in_3, iv in_4, iv in_5, iv in_2778, iv 0, iv in_2773, iv in_2774, iv in_2775, iv in_2776, iv 2, rv ob_2779, rv ob_2815, rv ob_3018, .unset, .unset, .unset]) rfl) ?_
       obtain ⟨T3037, h3038, X3039, e3040, E3041, A3042, D3043, U3046, s3044⟩ := newO X3014 hx hZ hown (oW hw 33 rfl) (oW hw 34 rfl) (oW hw 35 rfl) e3015 (g := (mkF m 131 #[iv in_1, iv in_2, iv in_3, iv in_4, iv in_5, iv in_2778, iv 0, iv in_2773, iv in_2774, iv in_2775, iv in_2776, iv 2, rv ob_2779, rv ob_2815, rv ob_3018, .unset, .unset, .unset] [])) rfl (hb hby at_131) (by decide) (by decide)
       obtain ⟨ob_3047, g3048⟩ : ∃ z, z = h3011.size := ⟨_, rfl⟩
       rw [← g3048] at A3042 D3043 U3046 s3044
       have z3049 := E3041.1
       have y3045 : @LT.lt Nat instLTNat ob_3047 h3038.size := A3042.lt
       refine oS s3044 ?_
       have R3050 : CHr Z own_EL s.vm h0 T2806.vm h3038 := R3033.trans (CHr.ext E3041 R3033.1)
       have F3051 : Fld Z h3038 ob_3047 "com/example/latente/latente/query/JpqlLexer$Token" "kind" "Lcom/example/latente/latente/query/JpqlLexer$Kind;" .null := D3043 (Or.inr (oW hw 46 rfl)) (ty := (.object "com/example/latente/latente/query/JpqlLexer$Kind")) (by decide)
       have F3052 : Fld Z h3038 ob_3047 "com/example/latente/latente/query/JpqlLexer$Token" "text" "Ljava/lang/String;" .null := D3043 (Or.inr (oW hw 48 rfl)) (ty := (.object "java/lang/String")) (by decide)
       have F3053 : Fld Z h3038 ob_3047 "com/example/latente/latente/query/JpqlLexer$Token" "position" "I" (.int 0) := D3043 (Or.inr (oW hw 50 rfl)) (ty := .int) (by decide)
       show own_G p e below (T3037.setTop (mkF m 134 #[iv in_1, iv in_2, iv in_3, iv in_4, iv in_5, iv in_2778, iv 0, iv in_2773, iv in_2774, iv in_2775, iv in_2776, iv 2, rv ob_2779, rv ob_2815, rv ob_3018, .unset, .unset, .unset] [(.ref ob_3047)])) _
       refine oS (fun _ => XS.dup X3039.here hx rfl (hb hby at_134) rfl rfl) ?_
       refine oS (fun _ => XS.aload X3039.here hx rfl (hb hby at_135) rfl rfl) ?_
       refine oS (fun _ => XS.aload X3039.here hx rfl (hb hby at_137) rfl rfl) ?_
       refine oS (fun _ => XS.iload X3039.here hx rfl (hb hby at_139) rfl) ?_
       show own_G p e below (T3037.setTop (mkF m 141 #[iv in_1, iv in_2, iv in_3, iv in_4, iv in_5, iv in_2778, iv 0, iv in_2773, iv in_2774, iv in_2775, iv in_2776, iv 2, rv ob_2779, rv ob_2815, rv ob_3018, .unset, .unset, .unset] [(.int in_5), (.ref ob_2815), (.ref ob_2779), (.ref ob_3047), (.ref ob_3047)])) _
       have N3054 : n0 ≤ ob_3047 := by omega
       have O3055 : Old Z n0 h3011 := O3008.keep K3022 all0
       have O3056 : Old Z n0 h3038 := O3055.ext E3041
       have Z3057 : n0 ≤ h3038.size := by omega
       obtain ⟨T3058, h3059, v3060, L3061, X3062, e3063, q3064, s3065⟩ := own_callN X3039 hx hZ hown e3040 (y := (⟨"com/example/latente/latente/query/JpqlLexer$Token", "<init>", "(Lcom/example/latente/latente/query/JpqlLexer$Kind;Ljava/lang/String;I)V"⟩ : MethodName)) (b := ob_3047) rfl (oW hw 36 rfl) (oW hw 37 rfl) (oW hw 35 rfl) (oW hw 38 rfl) (by decide) (W := 1) (own_rm11 l Z a0 hw [] ob_3047 ob_2779 ob_2815 in_5 h3038 n0 Z3057 O3056 F3051 A3042 N3054 F3052 F3053) (by decide) (by decide) (by decide) (by decide) (g := (mkF m 141 #[iv in_1, iv in_2, iv in_3, iv in_4, iv in_5, iv in_2778, iv 0, iv in_2773, iv in_2774, iv in_2775, iv in_2776, iv 2, rv ob_2779, rv ob_2815, rv ob_3018, .unset, .unset, .unset] [(.int in_5), (.ref ob_2815), (.ref ob_2779), (.ref ob_3047), (.ref ob_3047)])) rfl (by rw [hml]; rfl) (argsL := [(.ref ob_2779), (.ref ob_2815), (.int in_5)]) (rest := [(.ref ob_3047)]) rfl (lenOf own_pd4 rfl) rfl (by show 2 * 0 + _ ≤ _; exact Nat.le_of_eq rfl) (hb hby at_141)
       refine oS s3065 ?_
       obtain ⟨rfl, N3066, K3067, F3068, F3069, F3070, F3071⟩ := q3064
       have N3072 := Fr.app N3032 N3066
       have S3073 : Safe Z own_EL T2806.vm h3038 ob_3047 := Safe.exa hZ.alike A3042 (by decide) (by decide)
       have R3074 : CHr Z own_EL s.vm h0 T2806.vm h3059 := R3050.trans (CHr.keep K3067 (sfS S3073 sf0) R3050.1)
       have z3075 := K3067.1
       show own_G p e below (T3058.setTop (mkF m 144 #[iv in_1, iv in_2, iv in_3, iv in_4, iv in_5, iv in_2778, iv 0, iv in_2773, iv in_2774, iv in_2775, iv in_2776, iv 2, rv ob_2779, rv ob_2815, rv ob_3018, .unset, .unset, .unset] [(.ref ob_3047)])) _
       refine oS (fun _ => XS.astore X3062.here hx rfl (hb hby at_144) rfl rfl (l' := #[iv in_1, iv in_2, iv in_3, iv in_4, iv in_5, iv in_2778, iv 0, iv in_2773, iv in_2774, iv in_2775, iv in_2776, iv 2, rv ob_2779, rv ob_2815, rv ob_3018, rv ob_3047, .unset, .unset]) rfl) ?_
       refine oS (fun _ => XS.aload X3062.here hx rfl (hb hby at_146) rfl rfl) ?_
       refine oS (fun _ => XS.aload X3062.here hx rfl (hb hby at_148) rfl rfl) ?_
       have O3076 : Old Z n0 h3059 := O3056.keep K3067 (allS N3054 all0)
       have Z3077 : n0 ≤ h3059.size := by omega
       obtain ⟨T3078, h3079, v3080, L3081, X3082, e3083, q3084, s3085⟩ := own_callV X3062 hx hZ hown e3063 (y := (⟨"com/example/latente/latente/query/JpqlLexer$Token", "isSymbol", "(Ljava/lang/String;)Z"⟩ : MethodName)) (z := (⟨"com/example/latente/latente/query/JpqlLexer$Token", "isSymbol", "(Ljava/lang/String;)Z"⟩ : MethodName)) (C := "com/example/latente/latente/query/JpqlLexer$Token") (b := ob_3047) (oW hw 51 rfl) (oW hw 52 rfl) (notFace_of_selects (args := #[]) (mvT hZ (oW hw 54 rfl))) (oW hw 54 rfl) (oW hw 53 rfl) (oW hw 35 rfl) (oW hw 55 rfl) (by decide) F3070 (W := 0) (own_rm51 l Z a0 hw [] ob_3047 ob_3018 ob_2779 ob_9 h3059 n0 Z3077 O3076 F3068 I460 I2802) (by decide) (by decide) (by decide) (by decide) (g := (mkF m 150 #[iv in_1, iv in_2, iv in_3, iv in_4, iv in_5, iv in_2778, iv 0, iv in_2773, iv in_2774, iv in_2775, iv in_2776, iv 2, rv ob_2779, rv ob_2815, rv ob_3018, rv ob_3047, .unset, .unset] [(.ref ob_3018), (.ref ob_3047)])) rfl (by rw [hml]; rfl) (argsL := [(.ref ob_3018)]) (rest := []) rfl (lenOf own_pd7 rfl) rfl (by show 2 * 0 + _ ≤ _; exact Nat.le_of_eq rfl) (hb hby at_150)
       refine oS s3085 ?_
       obtain ⟨rfl, N3086, K3087⟩ := q3084
       have N3088 := Fr.app N3072 N3086
       have e3089 := e3083.trans K3087
       show own_G p e below (T3078.setTop (mkF m 153 #[iv in_1, iv in_2, iv in_3, iv in_4, iv in_5, iv in_2778, iv 0, iv in_2773, iv in_2774, iv in_2775, iv in_2776, iv 2, rv ob_2779, rv ob_2815, rv ob_3018, rv ob_3047, .unset, .unset] [(.int 0)])) _
       refine oS (fun _ => XS.istore X3082.here hx rfl (hb hby at_153) rfl (l' := #[iv in_1, iv in_2, iv in_3, iv in_4, iv in_5, iv in_2778, iv 0, iv in_2773, iv in_2774, iv in_2775, iv in_2776, iv 2, rv ob_2779, rv ob_2815, rv ob_3018, rv ob_3047, iv 0, .unset]) rfl) ?_
       refine oS (fun _ => XS.iload X3082.here hx rfl (hb hby at_155) rfl) ?_
       refine oS (fun _ => XS.iconst X3082.here hx rfl (hb hby at_157) ) ?_
       refine oS (fun _ => XS.icmpYes X3082.here hx rfl (pc0 := 158) (pc' := 198) rfl (hb hby at_158) rfl (XT.ii_ne_t I2801) (by decide) (by decide)) ?_
       show own_G p e below (T3078.setTop (mkF m 198 #[iv in_1, iv in_2, iv in_3, iv in_4, iv in_5, iv in_2778, iv 0, iv in_2773, iv in_2774, iv in_2775, iv in_2776, iv 2, rv ob_2779, rv ob_2815, rv ob_3018, rv ob_3047, iv 0, .unset] [])) _
       refine oS (fun _ => XS.iconst X3082.here hx rfl (hb hby at_198) ) ?_
       refine oS (fun _ => XS.istore X3082.here hx rfl (hb hby at_199) rfl (l' := #[iv in_1, iv in_2, iv in_3, iv in_4, iv in_5, iv in_2778, iv 0, iv in_2773, iv in_2774, iv in_2775, iv in_2776, iv 2, rv ob_2779, rv ob_2815, rv ob_3018, rv ob_3047, iv 0, iv 0]) rfl) ?_
       refine oS (fun _ => XS.iload X3082.here hx rfl (hb hby at_201) rfl) ?_
       refine oS (fun _ => XS.iload X3082.here hx rfl (hb hby at_203) rfl) ?_
       show own_G p e below (T3078.setTop (mkF m 205 #[iv in_1, iv in_2, iv in_3, iv in_4, iv in_5, iv in_2778, iv 0, iv in_2773, iv in_2774, iv in_2775, iv in_2776, iv 2, rv ob_2779, rv ob_2815, rv ob_3018, rv ob_3047, iv 0, iv 0] [(.int 0), (.int 0)])) _
       refine oS (fun _ => XS.icmpNo X3082.here hx rfl (hb hby at_205) rfl (XT.ii_ne_f (by decide))) ?_
       show own_G p e below (T3078.setTop (mkF m 208 #[iv in_1, iv in_2, iv in_3, iv in_4, iv in_5, iv in_2778, iv 0, iv in_2773, iv in_2774, iv in_2775, iv in_2776, iv 2, rv ob_2779, rv ob_2815, rv ob_3018, rv ob_3047, iv 0, iv 0] [])) _
       refine oS (fun _ => XS.iconst X3082.here hx rfl (hb hby at_208) ) ?_
       refine oS (fun _ => XS.goto X3082.here hx rfl (pc0 := 209) (pc' := 213) rfl (hb hby at_209) (by decide) (by decide)) ?_
       show own_G p e below (T3078.setTop (mkF m 213 #[iv in_1, iv in_2, iv in_3, iv in_4, iv in_5, iv in_2778, iv 0, iv in_2773, iv in_2774, iv in_2775, iv in_2776, iv 2, rv ob_2779, rv ob_2815, rv ob_3018, rv ob_3047, iv 0, iv 0] [(.int 1)])) _
       have K3090 : Keep h0 h3059 [] := (((((Keep.refl h0 []).trans K2819 all0).trans K3022 all0).ext E3041).trans K3067 (allS (Or.inr (by omega)) all0))
       exact own_retNW X3082 hx (t := .boolean) Bd.notSynchronized Bd.returns (by simp) (hb hby at_213) (by decide) hS hZ hEL hh R3074 e3089 (by omega) (by decide) (by decide) (⟨rfl, N3088⟩)
   · skip
     refine own_cast (g' := (mkF m 109 #[iv in_1, iv in_2, iv in_3, iv in_4, iv in_5, iv in_2778, iv 1, iv in_2773, iv in_2774, iv in_2775, iv in_2776, iv in_2777, rv ob_2779, .unset, .unset, .unset, .unset, .unset] [])) (by rw [q2804]) ?_
     show own_G p e below (T2781.setTop (mkF m 109 #[iv in_1, iv in_2, iv in_3, iv in_4, iv in_5, iv in_2778, iv 1, iv in_2773, iv in_2774, iv in_2775, iv in_2776, iv in_2777, rv ob_2779, .unset, .unset, .unset, .unset, .unset] [])) _
     refine oS (fun _ => XS.iload X2782.here hx rfl (hb hby at_109) rfl) ?_
     refine oS (fun _ => XS.iload X2782.here hx rfl (hb hby at_111) rfl) ?_
     refine oS (fun _ => XS.iload X2782.here hx rfl (hb hby at_113) rfl) ?_
     obtain ⟨T3091, h3092, v3093, L3094, X3095, e3096, q3097, s3098⟩ := own_callS X2782 hx hZ hown e2783 (y := (⟨"com/example/latente/latente/query/TokenIsSymbolPinLaw", "str", "(ICC)Ljava/lang/String;"⟩ : MethodName)) (oW hw 8 rfl) (oW hw 9 rfl) (oW hw 3 rfl) (oW hw 10 rfl) (by decide) (W := 0) (own_rm16 l Z a0 hw [] in_2773 in_2774 in_6 h0 n0 Z0 O0 I487 I495 I2790) (by decide) (by decide) (by decide) (by decide) (g := (mkF m 115 #[iv in_1, iv in_2, iv in_3, iv in_4, iv in_5, iv in_2778, iv 1, iv in_2773, iv in_2774, iv in_2775, iv in_2776, iv in_2777, rv ob_2779, .unset, .unset, .unset, .unset, .unset] [(.int in_2774), (.int in_2773), (.int 1)])) rfl (by rw [hml]; rfl) (argsL := [(.int 1), (.int in_2773), (.int in_2774)]) (rest := []) rfl (lenOf own_pd2 rfl) rfl (by show 2 * 0 + _ ≤ _; exact Nat.le_of_eq rfl) (hb hby at_115)
     refine oS s3098 ?_
     obtain ⟨ob_3099, ob_3100, kk_3101, rfl, N3102, K3103, F3104, F3105, F3106, F3107, F3108, F3109, F3110, F3111, F3112⟩ := q3097
     have N3113 := Fr.app N2785 N3102
     have R3114 : CHr Z own_EL s.vm h0 s.vm h3092 := hR.trans (CHr.keep K3103 sf0 hR.1)
     have z3115 := K3103.1
     have S3116 : Safe Z own_EL s.vm h0 ob_3099 := Safe.new (by omega)
     have S3117 : Safe Z own_EL s.vm h0 ob_3100 := Safe.new (by omega)
     show own_G p e below (T3091.setTop (mkF m 118 #[iv in_1, iv in_2, iv in_3, iv in_4, iv in_5, iv in_2778, iv 1, iv in_2773, iv in_2774, iv in_2775, iv in_2776, iv in_2777, rv ob_2779, .unset, .unset, .unset, .unset, .unset] [(.ref ob_3099)])) _
     refine oS (fun _ => XS.astore X3095.here hx rfl (hb hby at_118) rfl rfl (l' := #[iv in_1, iv in_2, iv in_3, iv in_4, iv in_5, iv in_2778, iv 1, iv in_2773, iv in_2774, iv in_2775, iv in_2776, iv in_2777, rv ob_2779, rv ob_3099, .unset, .unset, .unset, .unset]) rfl) ?_
     show own_G p e below (T3091.setTop (mkF m 120 #[iv in_1, iv in_2, iv in_3, iv in_4, iv in_5, iv in_2778, iv 1, iv in_2773, iv in_2774, iv in_2775, iv in_2776, iv in_2777, rv ob_2779, rv ob_3099, .unset, .unset, .unset, .unset] [])) _
     rcases own_in3 I2788 with q3118 | q3119 | q3120
     · skip
       refine own_cast (g' := (mkF m 120 #[iv in_1, iv in_2, iv in_3, iv in_4, iv in_5, iv in_2778, iv 1, iv in_2773, iv in_2774, iv in_2775, iv in_2776, iv 0, rv ob_2779, rv ob_3099, .unset, .unset, .unset, .unset] [])) (by rw [q3118]) ?_
       show own_G p e below (T3091.setTop (mkF m 120 #[iv in_1, iv in_2, iv in_3, iv in_4, iv in_5, iv in_2778, iv 1, iv in_2773, iv in_2774, iv in_2775, iv in_2776, iv 0, rv ob_2779, rv ob_3099, .unset, .unset, .unset, .unset] [])) _
       refine oS (fun _ => XS.iload X3095.here hx rfl (hb hby at_120) rfl) ?_
       refine oS (fun _ => XS.iload X3095.here hx rfl (hb hby at_122) rfl) ?_
       refine oS (fun _ => XS.iload X3095.here hx rfl (hb hby at_124) rfl) ?_
       have O3121 : Old Z n0 h3092 := O0.keep K3103 all0
       have Z3122 : n0 ≤ h3092.size := by omega
       obtain ⟨T3123, h3124, v3125, L3126, X3127, e3128, q3129, hS, hZ, hown, A3130, s3131⟩ := own_callSW X3095 hx hZ hown e3096 (y := (⟨"com/example/latente/latente/query/TokenIsSymbolPinLaw", "str", "(ICC)Ljava/lang/String;"⟩ : MethodName)) (sf := []) (oW hw 8 rfl) (oW hw 9 rfl) (oW hw 3 rfl) (oW hw 10 rfl) (by decide) hS (by omega) hEL R3114.1 sf0 all0 (W := 0) (own_rm5 l Z a0 hw hEL [] in_2775 in_2776 h3092 n0 Z3122 O3121 ) (by decide) (by decide) (by decide) (by decide) (g := (mkF m 126 #[iv in_1, iv in_2, iv in_3, iv in_4, iv in_5, iv in_2778, iv 1, iv in_2773, iv in_2774, iv in_2775, iv in_2776, iv 0, rv ob_2779, rv ob_3099, .unset, .unset, .unset, .unset] [(.int in_2776), (.int in_2775), (.int 0)])) rfl (by rw [hml]; rfl) (argsL := [(.int 0), (.int in_2775), (.int in_2776)]) (rest := []) rfl (lenOf own_pd2 rfl) rfl (by show 2 * 0 + _ ≤ _; exact Nat.le_of_eq rfl) (hb hby at_126)
       refine oS s3131 ?_
       obtain ⟨ob_3132, ob_3133, kk_3134, rfl, N3135, K3136, F3137, F3138, F3139, F3140, F3141, F3142, F3143⟩ := q3129
       have N3144 := Fr.app N3113 N3135
       have R3145 : CHr Z own_EL s.vm h0 T3123.vm h3124 := R3114.trans A3130
       have z3146 := K3136.1
       show own_G p e below (T3123.setTop (mkF m 129 #[iv in_1, iv in_2, iv in_3, iv in_4, iv in_5, iv in_2778, iv 1, iv in_2773, iv in_2774, iv in_2775, iv in_2776, iv 0, rv ob_2779, rv ob_3099, .unset, .unset, .unset, .unset] [(.ref ob_3132)])) _
       refine oS (fun _ => XS.astore X3127.here hx rfl (hb hby at_129) rfl rfl (l' := #[iv in_1, iv in_2, iv in_3, iv in_4, iv in_5, iv in_2778, iv 1, iv in_2773, iv in_2774, iv in_2775, iv in_2776, iv 0, rv ob_2779, rv ob_3099, rv ob_3132, .unset, .unset, .unset]) rfl) ?_
       obtain ⟨T3147, h3148, X3149, e3150, E3151, A3152, D3153, U3156, s3154⟩ := newO X3127 hx hZ hown (oW hw 33 rfl) (oW hw 34 rfl) (oW hw 35 rfl) e3128 (g := (mkF m 131 #[iv in_1, iv in_2, iv in_3, iv in_4, iv in_5, iv in_2778, iv 1, iv in_2773, iv in_2774, iv in_2775, iv in_2776, iv 0, rv ob_2779, rv ob_3099, rv ob_3132, .unset, .unset, .unset] [])) rfl (hb hby at_131) (by decide) (by decide)
       obtain ⟨ob_3157, g3158⟩ : ∃ z, z = h3124.size := ⟨_, rfl⟩
       rw [← g3158] at A3152 D3153 U3156 s3154
       have z3159 := E3151.1
       have y3155 : @LT.lt Nat instLTNat ob_3157 h3148.size := A3152.lt
       refine oS s3154 ?_
       have R3160 : CHr Z own_EL s.vm h0 T3123.vm h3148 := R3145.trans (CHr.ext E3151 R3145.1)
       have F3161 : Fld Z h3148 ob_3157 "com/example/latente/latente/query/JpqlLexer$Token" "kind" "Lcom/example/latente/latente/query/JpqlLexer$Kind;" .null := D3153 (Or.inr (oW hw 46 rfl)) (ty := (.object "com/example/latente/latente/query/JpqlLexer$Kind")) (by decide)
       have F3162 : Fld Z h3148 ob_3157 "com/example/latente/latente/query/JpqlLexer$Token" "text" "Ljava/lang/String;" .null := D3153 (Or.inr (oW hw 48 rfl)) (ty := (.object "java/lang/String")) (by decide)
       have F3163 : Fld Z h3148 ob_3157 "com/example/latente/latente/query/JpqlLexer$Token" "position" "I" (.int 0) := D3153 (Or.inr (oW hw 50 rfl)) (ty := .int) (by decide)
       show own_G p e below (T3147.setTop (mkF m 134 #[iv in_1, iv in_2, iv in_3, iv in_4, iv in_5, iv in_2778, iv 1, iv in_2773, iv in_2774, iv in_2775, iv in_2776, iv 0, rv ob_2779, rv ob_3099, rv ob_3132, .unset, .unset, .unset] [(.ref ob_3157)])) _
       refine oS (fun _ => XS.dup X3149.here hx rfl (hb hby at_134) rfl rfl) ?_
       refine oS (fun _ => XS.aload X3149.here hx rfl (hb hby at_135) rfl rfl) ?_
       refine oS (fun _ => XS.aload X3149.here hx rfl (hb hby at_137) rfl rfl) ?_
       refine oS (fun _ => XS.iload X3149.here hx rfl (hb hby at_139) rfl) ?_
       show own_G p e below (T3147.setTop (mkF m 141 #[iv in_1, iv in_2, iv in_3, iv in_4, iv in_5, iv in_2778, iv 1, iv in_2773, iv in_2774, iv in_2775, iv in_2776, iv 0, rv ob_2779, rv ob_3099, rv ob_3132, .unset, .unset, .unset] [(.int in_5), (.ref ob_3099), (.ref ob_2779), (.ref ob_3157), (.ref ob_3157)])) _
       have N3164 : n0 ≤ ob_3157 := by omega
       have O3165 : Old Z n0 h3124 := O3121.keep K3136 all0
       have O3166 : Old Z n0 h3148 := O3165.ext E3151
       have Z3167 : n0 ≤ h3148.size := by omega
       obtain ⟨T3168, h3169, v3170, L3171, X3172, e3173, q3174, s3175⟩ := own_callN X3149 hx hZ hown e3150 (y := (⟨"com/example/latente/latente/query/JpqlLexer$Token", "<init>", "(Lcom/example/latente/latente/query/JpqlLexer$Kind;Ljava/lang/String;I)V"⟩ : MethodName)) (b := ob_3157) rfl (oW hw 36 rfl) (oW hw 37 rfl) (oW hw 35 rfl) (oW hw 38 rfl) (by decide) (W := 1) (own_rm11 l Z a0 hw [] ob_3157 ob_2779 ob_3099 in_5 h3148 n0 Z3167 O3166 F3161 A3152 N3164 F3162 F3163) (by decide) (by decide) (by decide) (by decide) (g := (mkF m 141 #[iv in_1, iv in_2, iv in_3, iv in_4, iv in_5, iv in_2778, iv 1, iv in_2773, iv in_2774, iv in_2775, iv in_2776, iv 0, rv ob_2779, rv ob_3099, rv ob_3132, .unset, .unset, .unset] [(.int in_5), (.ref ob_3099), (.ref ob_2779), (.ref ob_3157), (.ref ob_3157)])) rfl (by rw [hml]; rfl) (argsL := [(.ref ob_2779), (.ref ob_3099), (.int in_5)]) (rest := [(.ref ob_3157)]) rfl (lenOf own_pd4 rfl) rfl (by show 2 * 0 + _ ≤ _; exact Nat.le_of_eq rfl) (hb hby at_141)
       refine oS s3175 ?_
       obtain ⟨rfl, N3176, K3177, F3178, F3179, F3180, F3181⟩ := q3174
       have N3182 := Fr.app N3144 N3176
       have S3183 : Safe Z own_EL T3123.vm h3148 ob_3157 := Safe.exa hZ.alike A3152 (by decide) (by decide)
       have R3184 : CHr Z own_EL s.vm h0 T3123.vm h3169 := R3160.trans (CHr.keep K3177 (sfS S3183 sf0) R3160.1)
       have z3185 := K3177.1
       show own_G p e below (T3168.setTop (mkF m 144 #[iv in_1, iv in_2, iv in_3, iv in_4, iv in_5, iv in_2778, iv 1, iv in_2773, iv in_2774, iv in_2775, iv in_2776, iv 0, rv ob_2779, rv ob_3099, rv ob_3132, .unset, .unset, .unset] [(.ref ob_3157)])) _
       refine oS (fun _ => XS.astore X3172.here hx rfl (hb hby at_144) rfl rfl (l' := #[iv in_1, iv in_2, iv in_3, iv in_4, iv in_5, iv in_2778, iv 1, iv in_2773, iv in_2774, iv in_2775, iv in_2776, iv 0, rv ob_2779, rv ob_3099, rv ob_3132, rv ob_3157, .unset, .unset]) rfl) ?_
       refine oS (fun _ => XS.aload X3172.here hx rfl (hb hby at_146) rfl rfl) ?_
       refine oS (fun _ => XS.aload X3172.here hx rfl (hb hby at_148) rfl rfl) ?_
       have O3186 : Old Z n0 h3169 := O3166.keep K3177 (allS N3164 all0)
       have Z3187 : n0 ≤ h3169.size := by omega
       obtain ⟨T3188, h3189, v3190, L3191, X3192, e3193, q3194, s3195⟩ := own_callV X3172 hx hZ hown e3173 (y := (⟨"com/example/latente/latente/query/JpqlLexer$Token", "isSymbol", "(Ljava/lang/String;)Z"⟩ : MethodName)) (z := (⟨"com/example/latente/latente/query/JpqlLexer$Token", "isSymbol", "(Ljava/lang/String;)Z"⟩ : MethodName)) (C := "com/example/latente/latente/query/JpqlLexer$Token") (b := ob_3157) (oW hw 51 rfl) (oW hw 52 rfl) (notFace_of_selects (args := #[]) (mvT hZ (oW hw 54 rfl))) (oW hw 54 rfl) (oW hw 53 rfl) (oW hw 35 rfl) (oW hw 55 rfl) (by decide) F3180 (W := 0) (own_rm51 l Z a0 hw [] ob_3157 ob_3132 ob_2779 ob_9 h3169 n0 Z3187 O3186 F3178 I460 I2802) (by decide) (by decide) (by decide) (by decide) (g := (mkF m 150 #[iv in_1, iv in_2, iv in_3, iv in_4, iv in_5, iv in_2778, iv 1, iv in_2773, iv in_2774, iv in_2775, iv in_2776, iv 0, rv ob_2779, rv ob_3099, rv ob_3132, rv ob_3157, .unset, .unset] [(.ref ob_3132), (.ref ob_3157)])) rfl (by rw [hml]; rfl) (argsL := [(.ref ob_3132)]) (rest := []) rfl (lenOf own_pd7 rfl) rfl (by show 2 * 0 + _ ≤ _; exact Nat.le_of_eq rfl) (hb hby at_150)
       refine oS s3195 ?_
       obtain ⟨rfl, N3196, K3197⟩ := q3194
       have N3198 := Fr.app N3182 N3196
       have e3199 := e3193.trans K3197
       show own_G p e below (T3188.setTop (mkF m 153 #[iv in_1, iv in_2, iv in_3, iv in_4, iv in_5, iv in_2778, iv 1, iv in_2773, iv in_2774, iv in_2775, iv in_2776, iv 0, rv ob_2779, rv ob_3099, rv ob_3132, rv ob_3157, .unset, .unset] [(.int 0)])) _
       refine oS (fun _ => XS.istore X3192.here hx rfl (hb hby at_153) rfl (l' := #[iv in_1, iv in_2, iv in_3, iv in_4, iv in_5, iv in_2778, iv 1, iv in_2773, iv in_2774, iv in_2775, iv in_2776, iv 0, rv ob_2779, rv ob_3099, rv ob_3132, rv ob_3157, iv 0, .unset]) rfl) ?_
       refine oS (fun _ => XS.iload X3192.here hx rfl (hb hby at_155) rfl) ?_
       refine oS (fun _ => XS.iconst X3192.here hx rfl (hb hby at_157) ) ?_
       refine oS (fun _ => XS.icmpYes X3192.here hx rfl (pc0 := 158) (pc' := 198) rfl (hb hby at_158) rfl (XT.ii_ne_t I2801) (by decide) (by decide)) ?_
       show own_G p e below (T3188.setTop (mkF m 198 #[iv in_1, iv in_2, iv in_3, iv in_4, iv in_5, iv in_2778, iv 1, iv in_2773, iv in_2774, iv in_2775, iv in_2776, iv 0, rv ob_2779, rv ob_3099, rv ob_3132, rv ob_3157, iv 0, .unset] [])) _
       refine oS (fun _ => XS.iconst X3192.here hx rfl (hb hby at_198) ) ?_
       refine oS (fun _ => XS.istore X3192.here hx rfl (hb hby at_199) rfl (l' := #[iv in_1, iv in_2, iv in_3, iv in_4, iv in_5, iv in_2778, iv 1, iv in_2773, iv in_2774, iv in_2775, iv in_2776, iv 0, rv ob_2779, rv ob_3099, rv ob_3132, rv ob_3157, iv 0, iv 0]) rfl) ?_
       refine oS (fun _ => XS.iload X3192.here hx rfl (hb hby at_201) rfl) ?_
       refine oS (fun _ => XS.iload X3192.here hx rfl (hb hby at_203) rfl) ?_
       show own_G p e below (T3188.setTop (mkF m 205 #[iv in_1, iv in_2, iv in_3, iv in_4, iv in_5, iv in_2778, iv 1, iv in_2773, iv in_2774, iv in_2775, iv in_2776, iv 0, rv ob_2779, rv ob_3099, rv ob_3132, rv ob_3157, iv 0, iv 0] [(.int 0), (.int 0)])) _
       refine oS (fun _ => XS.icmpNo X3192.here hx rfl (hb hby at_205) rfl (XT.ii_ne_f (by decide))) ?_
       show own_G p e below (T3188.setTop (mkF m 208 #[iv in_1, iv in_2, iv in_3, iv in_4, iv in_5, iv in_2778, iv 1, iv in_2773, iv in_2774, iv in_2775, iv in_2776, iv 0, rv ob_2779, rv ob_3099, rv ob_3132, rv ob_3157, iv 0, iv 0] [])) _
       refine oS (fun _ => XS.iconst X3192.here hx rfl (hb hby at_208) ) ?_
       refine oS (fun _ => XS.goto X3192.here hx rfl (pc0 := 209) (pc' := 213) rfl (hb hby at_209) (by decide) (by decide)) ?_
       show own_G p e below (T3188.setTop (mkF m 213 #[iv in_1, iv in_2, iv in_3, iv in_4, iv in_5, iv in_2778, iv 1, iv in_2773, iv in_2774, iv in_2775, iv in_2776, iv 0, rv ob_2779, rv ob_3099, rv ob_3132, rv ob_3157, iv 0, iv 0] [(.int 1)])) _
       have K3200 : Keep h0 h3169 [] := (((((Keep.refl h0 []).trans K3103 all0).trans K3136 all0).ext E3151).trans K3177 (allS (Or.inr (by omega)) all0))
       exact own_retNW X3192 hx (t := .boolean) Bd.notSynchronized Bd.returns (by simp) (hb hby at_213) (by decide) hS hZ hEL hh R3184 e3199 (by omega) (by decide) (by decide) (⟨rfl, N3198⟩)
     · skip
       refine own_cast (g' := (mkF m 120 #[iv in_1, iv in_2, iv in_3, iv in_4, iv in_5, iv in_2778, iv 1, iv in_2773, iv in_2774, iv in_2775, iv in_2776, iv 1, rv ob_2779, rv ob_3099, .unset, .unset, .unset, .unset] [])) (by rw [q3119]) ?_
       show own_G p e below (T3091.setTop (mkF m 120 #[iv in_1, iv in_2, iv in_3, iv in_4, iv in_5, iv in_2778, iv 1, iv in_2773, iv in_2774, iv in_2775, iv in_2776, iv 1, rv ob_2779, rv ob_3099, .unset, .unset, .unset, .unset] [])) _
       refine oS (fun _ => XS.iload X3095.here hx rfl (hb hby at_120) rfl) ?_
       refine oS (fun _ => XS.iload X3095.here hx rfl (hb hby at_122) rfl) ?_
       refine oS (fun _ => XS.iload X3095.here hx rfl (hb hby at_124) rfl) ?_
       have O3201 : Old Z n0 h3092 := O0.keep K3103 all0
       have Z3202 : n0 ≤ h3092.size := by omega
       obtain ⟨T3203, h3204, v3205, L3206, X3207, e3208, q3209, s3210⟩ := own_callS X3095 hx hZ hown e3096 (y := (⟨"com/example/latente/latente/query/TokenIsSymbolPinLaw", "str", "(ICC)Ljava/lang/String;"⟩ : MethodName)) (oW hw 8 rfl) (oW hw 9 rfl) (oW hw 3 rfl) (oW hw 10 rfl) (by decide) (W := 0) (own_rm16 l Z a0 hw [] in_2775 in_2776 in_6 h3092 n0 Z3202 O3201 I487 I495 I2796) (by decide) (by decide) (by decide) (by decide) (g := (mkF m 126 #[iv in_1, iv in_2, iv in_3, iv in_4, iv in_5, iv in_2778, iv 1, iv in_2773, iv in_2774, iv in_2775, iv in_2776, iv 1, rv ob_2779, rv ob_3099, .unset, .unset, .unset, .unset] [(.int in_2776), (.int in_2775), (.int 1)])) rfl (by rw [hml]; rfl) (argsL := [(.int 1), (.int in_2775), (.int in_2776)]) (rest := []) rfl (lenOf own_pd2 rfl) rfl (by show 2 * 0 + _ ≤ _; exact Nat.le_of_eq rfl) (hb hby at_126)
       refine oS s3210 ?_
       obtain ⟨ob_3211, ob_3212, kk_3213, rfl, N3214, K3215, F3216, F3217, F3218, F3219, F3220, F3221, F3222, F3223, F3224⟩ := q3209
       have N3225 := Fr.app N3113 N3214
       have R3226 : CHr Z own_EL s.vm h0 s.vm h3204 := R3114.trans (CHr.keep K3215 sf0 R3114.1)
       have z3227 := K3215.1
       have S3228 : Safe Z own_EL s.vm h3092 ob_3211 := Safe.new (by omega)
       have S3229 : Safe Z own_EL s.vm h3092 ob_3212 := Safe.new (by omega)
       show own_G p e below (T3203.setTop (mkF m 129 #[iv in_1, iv in_2, iv in_3, iv in_4, iv in_5, iv in_2778, iv 1, iv in_2773, iv in_2774, iv in_2775, iv in_2776, iv 1, rv ob_2779, rv ob_3099, .unset, .unset, .unset, .unset] [(.ref ob_3211)])) _
       refine oS (fun _ => XS.astore X3207.here hx rfl (hb hby at_129) rfl rfl (l' := #[iv in_1, iv in_2, iv in_3, iv in_4, iv in_5, iv in_2778, iv 1, iv in_2773, iv in_2774, iv in_2775, iv in_2776, iv 1, rv ob_2779, rv ob_3099, rv ob_3211, .unset, .unset, .unset]) rfl) ?_
       obtain ⟨T3230, h3231, X3232, e3233, E3234, A3235, D3236, U3239, s3237⟩ := newO X3207 hx hZ hown (oW hw 33 rfl) (oW hw 34 rfl) (oW hw 35 rfl) e3208 (g := (mkF m 131 #[iv in_1, iv in_2, iv in_3, iv in_4, iv in_5, iv in_2778, iv 1, iv in_2773, iv in_2774, iv in_2775, iv in_2776, iv 1, rv ob_2779, rv ob_3099, rv ob_3211, .unset, .unset, .unset] [])) rfl (hb hby at_131) (by decide) (by decide)
       obtain ⟨ob_3240, g3241⟩ : ∃ z, z = h3204.size := ⟨_, rfl⟩
       rw [← g3241] at A3235 D3236 U3239 s3237
       have z3242 := E3234.1
       have y3238 : @LT.lt Nat instLTNat ob_3240 h3231.size := A3235.lt
       refine oS s3237 ?_
       have R3243 : CHr Z own_EL s.vm h0 s.vm h3231 := R3226.trans (CHr.ext E3234 R3226.1)
       have F3244 : Fld Z h3231 ob_3240 "com/example/latente/latente/query/JpqlLexer$Token" "kind" "Lcom/example/latente/latente/query/JpqlLexer$Kind;" .null := D3236 (Or.inr (oW hw 46 rfl)) (ty := (.object "com/example/latente/latente/query/JpqlLexer$Kind")) (by decide)
       have F3245 : Fld Z h3231 ob_3240 "com/example/latente/latente/query/JpqlLexer$Token" "text" "Ljava/lang/String;" .null := D3236 (Or.inr (oW hw 48 rfl)) (ty := (.object "java/lang/String")) (by decide)
       have F3246 : Fld Z h3231 ob_3240 "com/example/latente/latente/query/JpqlLexer$Token" "position" "I" (.int 0) := D3236 (Or.inr (oW hw 50 rfl)) (ty := .int) (by decide)
       show own_G p e below (T3230.setTop (mkF m 134 #[iv in_1, iv in_2, iv in_3, iv in_4, iv in_5, iv in_2778, iv 1, iv in_2773, iv in_2774, iv in_2775, iv in_2776, iv 1, rv ob_2779, rv ob_3099, rv ob_3211, .unset, .unset, .unset] [(.ref ob_3240)])) _
       refine oS (fun _ => XS.dup X3232.here hx rfl (hb hby at_134) rfl rfl) ?_
       refine oS (fun _ => XS.aload X3232.here hx rfl (hb hby at_135) rfl rfl) ?_
       refine oS (fun _ => XS.aload X3232.here hx rfl (hb hby at_137) rfl rfl) ?_
       refine oS (fun _ => XS.iload X3232.here hx rfl (hb hby at_139) rfl) ?_
       show own_G p e below (T3230.setTop (mkF m 141 #[iv in_1, iv in_2, iv in_3, iv in_4, iv in_5, iv in_2778, iv 1, iv in_2773, iv in_2774, iv in_2775, iv in_2776, iv 1, rv ob_2779, rv ob_3099, rv ob_3211, .unset, .unset, .unset] [(.int in_5), (.ref ob_3099), (.ref ob_2779), (.ref ob_3240), (.ref ob_3240)])) _
       have N3247 : n0 ≤ ob_3240 := by omega
       have O3248 : Old Z n0 h3204 := O3201.keep K3215 all0
       have O3249 : Old Z n0 h3231 := O3248.ext E3234
       have Z3250 : n0 ≤ h3231.size := by omega
       obtain ⟨T3251, h3252, v3253, L3254, X3255, e3256, q3257, s3258⟩ := own_callN X3232 hx hZ hown e3233 (y := (⟨"com/example/latente/latente/query/JpqlLexer$Token", "<init>", "(Lcom/example/latente/latente/query/JpqlLexer$Kind;Ljava/lang/String;I)V"⟩ : MethodName)) (b := ob_3240) rfl (oW hw 36 rfl) (oW hw 37 rfl) (oW hw 35 rfl) (oW hw 38 rfl) (by decide) (W := 1) (own_rm11 l Z a0 hw [] ob_3240 ob_2779 ob_3099 in_5 h3231 n0 Z3250 O3249 F3244 A3235 N3247 F3245 F3246) (by decide) (by decide) (by decide) (by decide) (g := (mkF m 141 #[iv in_1, iv in_2, iv in_3, iv in_4, iv in_5, iv in_2778, iv 1, iv in_2773, iv in_2774, iv in_2775, iv in_2776, iv 1, rv ob_2779, rv ob_3099, rv ob_3211, .unset, .unset, .unset] [(.int in_5), (.ref ob_3099), (.ref ob_2779), (.ref ob_3240), (.ref ob_3240)])) rfl (by rw [hml]; rfl) (argsL := [(.ref ob_2779), (.ref ob_3099), (.int in_5)]) (rest := [(.ref ob_3240)]) rfl (lenOf own_pd4 rfl) rfl (by show 2 * 0 + _ ≤ _; exact Nat.le_of_eq rfl) (hb hby at_141)
       refine oS s3258 ?_
       obtain ⟨rfl, N3259, K3260, F3261, F3262, F3263, F3264⟩ := q3257
       have N3265 := Fr.app N3225 N3259
       have S3266 : Safe Z own_EL s.vm h3231 ob_3240 := Safe.exa hZ.alike A3235 (by decide) (by decide)
       have R3267 : CHr Z own_EL s.vm h0 s.vm h3252 := R3243.trans (CHr.keep K3260 (sfS S3266 sf0) R3243.1)
       have z3268 := K3260.1
       show own_G p e below (T3251.setTop (mkF m 144 #[iv in_1, iv in_2, iv in_3, iv in_4, iv in_5, iv in_2778, iv 1, iv in_2773, iv in_2774, iv in_2775, iv in_2776, iv 1, rv ob_2779, rv ob_3099, rv ob_3211, .unset, .unset, .unset] [(.ref ob_3240)])) _
       refine oS (fun _ => XS.astore X3255.here hx rfl (hb hby at_144) rfl rfl (l' := #[iv in_1, iv in_2, iv in_3, iv in_4, iv in_5, iv in_2778, iv 1, iv in_2773, iv in_2774, iv in_2775, iv in_2776, iv 1, rv ob_2779, rv ob_3099, rv ob_3211, rv ob_3240, .unset, .unset]) rfl) ?_
       refine oS (fun _ => XS.aload X3255.here hx rfl (hb hby at_146) rfl rfl) ?_
       refine oS (fun _ => XS.aload X3255.here hx rfl (hb hby at_148) rfl rfl) ?_
       have O3269 : Old Z n0 h3252 := O3249.keep K3260 (allS N3247 all0)
       have Z3270 : n0 ≤ h3252.size := by omega
       obtain ⟨T3271, h3272, v3273, L3274, X3275, e3276, q3277, s3278⟩ := own_callV X3255 hx hZ hown e3256 (y := (⟨"com/example/latente/latente/query/JpqlLexer$Token", "isSymbol", "(Ljava/lang/String;)Z"⟩ : MethodName)) (z := (⟨"com/example/latente/latente/query/JpqlLexer$Token", "isSymbol", "(Ljava/lang/String;)Z"⟩ : MethodName)) (C := "com/example/latente/latente/query/JpqlLexer$Token") (b := ob_3240) (oW hw 51 rfl) (oW hw 52 rfl) (notFace_of_selects (args := #[]) (mvT hZ (oW hw 54 rfl))) (oW hw 54 rfl) (oW hw 53 rfl) (oW hw 35 rfl) (oW hw 55 rfl) (by decide) F3263 (W := 0) (own_rm51 l Z a0 hw [] ob_3240 ob_3211 ob_2779 ob_9 h3252 n0 Z3270 O3269 F3261 I460 I2802) (by decide) (by decide) (by decide) (by decide) (g := (mkF m 150 #[iv in_1, iv in_2, iv in_3, iv in_4, iv in_5, iv in_2778, iv 1, iv in_2773, iv in_2774, iv in_2775, iv in_2776, iv 1, rv ob_2779, rv ob_3099, rv ob_3211, rv ob_3240, .unset, .unset] [(.ref ob_3211), (.ref ob_3240)])) rfl (by rw [hml]; rfl) (argsL := [(.ref ob_3211)]) (rest := []) rfl (lenOf own_pd7 rfl) rfl (by show 2 * 0 + _ ≤ _; exact Nat.le_of_eq rfl) (hb hby at_150)
       refine oS s3278 ?_
       obtain ⟨rfl, N3279, K3280⟩ := q3277
       have N3281 := Fr.app N3265 N3279
       have e3282 := e3276.trans K3280
       show own_G p e below (T3271.setTop (mkF m 153 #[iv in_1, iv in_2, iv in_3, iv in_4, iv in_5, iv in_2778, iv 1, iv in_2773, iv in_2774, iv in_2775, iv in_2776, iv 1, rv ob_2779, rv ob_3099, rv ob_3211, rv ob_3240, .unset, .unset] [(.int 0)])) _
       refine oS (fun _ => XS.istore X3275.here hx rfl (hb hby at_153) rfl (l' := #[iv in_1, iv in_2, iv in_3, iv in_4, iv in_5, iv in_2778, iv 1, iv in_2773, iv in_2774, iv in_2775, iv in_2776, iv 1, rv ob_2779, rv ob_3099, rv ob_3211, rv ob_3240, iv 0, .unset]) rfl) ?_
       refine oS (fun _ => XS.iload X3275.here hx rfl (hb hby at_155) rfl) ?_
       refine oS (fun _ => XS.iconst X3275.here hx rfl (hb hby at_157) ) ?_
       refine oS (fun _ => XS.icmpYes X3275.here hx rfl (pc0 := 158) (pc' := 198) rfl (hb hby at_158) rfl (XT.ii_ne_t I2801) (by decide) (by decide)) ?_
       show own_G p e below (T3271.setTop (mkF m 198 #[iv in_1, iv in_2, iv in_3, iv in_4, iv in_5, iv in_2778, iv 1, iv in_2773, iv in_2774, iv in_2775, iv in_2776, iv 1, rv ob_2779, rv ob_3099, rv ob_3211, rv ob_3240, iv 0, .unset] [])) _
       refine oS (fun _ => XS.iconst X3275.here hx rfl (hb hby at_198) ) ?_
       refine oS (fun _ => XS.istore X3275.here hx rfl (hb hby at_199) rfl (l' := #[iv in_1, iv in_2, iv in_3, iv in_4, iv in_5, iv in_2778, iv 1, iv in_2773, iv in_2774, iv in_2775, iv in_2776, iv 1, rv ob_2779, rv ob_3099, rv ob_3211, rv ob_3240, iv 0, iv 0]) rfl) ?_
       refine oS (fun _ => XS.iload X3275.here hx rfl (hb hby at_201) rfl) ?_
       refine oS (fun _ => XS.iload X3275.here hx rfl (hb hby at_203) rfl) ?_
       show own_G p e below (T3271.setTop (mkF m 205 #[iv in_1, iv in_2, iv in_3, iv in_4, iv in_5, iv in_2778, iv 1, iv in_2773, iv in_2774, iv in_2775, iv in_2776, iv 1, rv ob_2779, rv ob_3099, rv ob_3211, rv ob_3240, iv 0, iv 0] [(.int 0), (.int 0)])) _
       refine oS (fun _ => XS.icmpNo X3275.here hx rfl (hb hby at_205) rfl (XT.ii_ne_f (by decide))) ?_
       show own_G p e below (T3271.setTop (mkF m 208 #[iv in_1, iv in_2, iv in_3, iv in_4, iv in_5, iv in_2778, iv 1, iv in_2773, iv in_2774, iv in_2775, iv in_2776, iv 1, rv ob_2779, rv ob_3099, rv ob_3211, rv ob_3240, iv 0, iv 0] [])) _
       refine oS (fun _ => XS.iconst X3275.here hx rfl (hb hby at_208) ) ?_
       refine oS (fun _ => XS.goto X3275.here hx rfl (pc0 := 209) (pc' := 213) rfl (hb hby at_209) (by decide) (by decide)) ?_
       show own_G p e below (T3271.setTop (mkF m 213 #[iv in_1, iv in_2, iv in_3, iv in_4, iv in_5, iv in_2778, iv 1, iv in_2773, iv in_2774, iv in_2775, iv in_2776, iv 1, rv ob_2779, rv ob_3099, rv ob_3211, rv ob_3240, iv 0, iv 0] [(.int 1)])) _
       have K3283 : Keep h0 h3252 [] := (((((Keep.refl h0 []).trans K3103 all0).trans K3215 all0).ext E3234).trans K3260 (allS (Or.inr (by omega)) all0))
       exact own_retNW X3275 hx (t := .boolean) Bd.notSynchronized Bd.returns (by simp) (hb hby at_213) (by decide) hS hZ hEL hh R3267 e3282 (by omega) (by decide) (by decide) (⟨rfl, N3281⟩)
     · skip
       refine own_cast (g' := (mkF m 120 #[iv in_1, iv in_2, iv in_3, iv in_4, iv in_5, iv in_2778, iv 1, iv in_2773, iv in_2774, iv in_2775, iv in_2776, iv 2, rv ob_2779, rv ob_3099, .unset, .unset, .unset, .unset] [])) (by rw [q3120]) ?_
       show own_G p e below (T3091.setTop (mkF m 120 #[iv in_1, iv in_2, iv in_3, iv in_4, iv in_5, iv in_2778, iv 1, iv in_2773, iv in_2774, iv in_2775, iv in_2776, iv 2, rv ob_2779, rv ob_3099, .unset, .unset, .unset, .unset] [])) _
       refine oS (fun _ => XS.iload X3095.here hx rfl (hb hby at_120) rfl) ?_
       refine oS (fun _ => XS.iload X3095.here hx rfl (hb hby at_122) rfl) ?_
       refine oS (fun _ => XS.iload X3095.here hx rfl (hb hby at_124) rfl) ?_
       have O3284 : Old Z n0 h3092 := O0.keep K3103 all0
       have Z3285 : n0 ≤ h3092.size := by omega
       obtain ⟨T3286, h3287, v3288, L3289, X3290, e3291, q3292, s3293⟩ := own_callS X3095 hx hZ hown e3096 (y := (⟨"com/example/latente/latente/query/TokenIsSymbolPinLaw", "str", "(ICC)Ljava/lang/String;"⟩ : MethodName)) (oW hw 8 rfl) (oW hw 9 rfl) (oW hw 3 rfl) (oW hw 10 rfl) (by decide) (W := 0) (own_rm24 l Z a0 hw [] in_2775 in_2776 in_6 h3092 n0 Z3285 O3284 I2797 I2800 I487 I495 I2796 I2799) (by decide) (by decide) (by decide) (by decide) (g := (mkF m 126 #[iv in_1, iv in_2, iv in_3, iv in_4, iv in_5, iv in_2778, iv 1, iv in_2773, iv in_2774, iv in_2775, iv in_2776, iv 2, rv ob_2779, rv ob_3099, .unset, .unset, .unset, .unset] [(.int in_2776), (.int in_2775), (.int 2)])) rfl (by rw [hml]; rfl) (argsL := [(.int 2), (.int in_2775), (.int in_2776)]) (rest := []) rfl (lenOf own_pd2 rfl) rfl (by show 2 * 0 + _ ≤ _; exact Nat.le_of_eq rfl) (hb hby at_126)
       refine oS s3293 ?_
       obtain ⟨ob_3294, ob_3295, kk_3296, rfl, N3297, K3298, F3299, F3300, F3301, F3302, F3303, F3304, F3305, F3306, F3307⟩ := q3292
       have N3308 := Fr.app N3113 N3297
       have R3309 : CHr Z own_EL s.vm h0 s.vm h3287 := R3114.trans (CHr.keep K3298 sf0 R3114.1)
       have z3310 := K3298.1
       have S3311 : Safe Z own_EL s.vm h3092 ob_3294 := Safe.new (by omega)
       have S3312 : Safe Z own_EL s.vm h3092 ob_3295 := Safe.new (by omega)
       show own_G p e below (T3286.setTop (mkF m 129 #[iv in_1, iv in_2, iv in_3, iv in_4, iv in_5, iv in_2778, iv 1, iv in_2773, iv in_2774, iv in_2775, iv in_2776, iv 2, rv ob_2779, rv ob_3099, .unset, .unset, .unset, .unset] [(.ref ob_3294)])) _
       refine oS (fun _ => XS.astore X3290.here hx rfl (hb hby at_129) rfl rfl (l' := #[iv in_1, iv in_2, iv in_3, iv in_4, iv in_5, iv in_2778, iv 1, iv in_2773, iv in_2774, iv in_2775, iv in_2776, iv 2, rv ob_2779, rv ob_3099, rv ob_3294, .unset, .unset, .unset]) rfl) ?_
       obtain ⟨T3313, h3314, X3315, e3316, E3317, A3318, D3319, U3322, s3320⟩ := newO X3290 hx hZ hown (oW hw 33 rfl) (oW hw 34 rfl) (oW hw 35 rfl) e3291 (g := (mkF m 131 #[iv in_1, iv in_2, iv in_3, iv in_4, iv in_5, iv in_2778, iv 1, iv in_2773, iv in_2774, iv in_2775, iv in_2776, iv 2, rv ob_2779, rv ob_3099, rv ob_3294, .unset, .unset, .unset] [])) rfl (hb hby at_131) (by decide) (by decide)
       obtain ⟨ob_3323, g3324⟩ : ∃ z, z = h3287.size := ⟨_, rfl⟩
       rw [← g3324] at A3318 D3319 U3322 s3320
       have z3325 := E3317.1
       have y3321 : @LT.lt Nat instLTNat ob_3323 h3314.size := A3318.lt
       refine oS s3320 ?_
       have R3326 : CHr Z own_EL s.vm h0 s.vm h3314 := R3309.trans (CHr.ext E3317 R3309.1)
       have F3327 : Fld Z h3314 ob_3323 "com/example/latente/latente/query/JpqlLexer$Token" "kind" "Lcom/example/latente/latente/query/JpqlLexer$Kind;" .null := D3319 (Or.inr (oW hw 46 rfl)) (ty := (.object "com/example/latente/latente/query/JpqlLexer$Kind")) (by decide)
       have F3328 : Fld Z h3314 ob_3323 "com/example/latente/latente/query/JpqlLexer$Token" "text" "Ljava/lang/String;" .null := D3319 (Or.inr (oW hw 48 rfl)) (ty := (.object "java/lang/String")) (by decide)
       have F3329 : Fld Z h3314 ob_3323 "com/example/latente/latente/query/JpqlLexer$Token" "position" "I" (.int 0) := D3319 (Or.inr (oW hw 50 rfl)) (ty := .int) (by decide)
       show own_G p e below (T3313.setTop (mkF m 134 #[iv in_1, iv in_2, iv in_3, iv in_4, iv in_5, iv in_2778, iv 1, iv in_2773, iv in_2774, iv in_2775, iv in_2776, iv 2, rv ob_2779, rv ob_3099, rv ob_3294, .unset, .unset, .unset] [(.ref ob_3323)])) _
       refine oS (fun _ => XS.dup X3315.here hx rfl (hb hby at_134) rfl rfl) ?_
       refine oS (fun _ => XS.aload X3315.here hx rfl (hb hby at_135) rfl rfl) ?_
       refine oS (fun _ => XS.aload X3315.here hx rfl (hb hby at_137) rfl rfl) ?_
       refine oS (fun _ => XS.iload X3315.here hx rfl (hb hby at_139) rfl) ?_
       show own_G p e below (T3313.setTop (mkF m 141 #[iv in_1, iv in_2, iv in_3, iv in_4, iv in_5, iv in_2778, iv 1, iv in_2773, iv in_2774, iv in_2775, iv in_2776, iv 2, rv ob_2779, rv ob_3099, rv ob_3294, .unset, .unset, .unset] [(.int in_5), (.ref ob_3099), (.ref ob_2779), (.ref ob_3323), (.ref ob_3323)])) _
       have N3330 : n0 ≤ ob_3323 := by omega
       have O3331 : Old Z n0 h3287 := O3284.keep K3298 all0
       have O3332 : Old Z n0 h3314 := O3331.ext E3317
       have Z3333 : n0 ≤ h3314.size := by omega
       obtain ⟨T3334, h3335, v3336, L3337, X3338, e3339, q3340, s3341⟩ := own_callN X3315 hx hZ hown e3316 (y := (⟨"com/example/latente/latente/query/JpqlLexer$Token", "<init>", "(Lcom/example/latente/latente/query/JpqlLexer$Kind;Ljava/lang/String;I)V"⟩ : MethodName)) (b := ob_3323) rfl (oW hw 36 rfl) (oW hw 37 rfl) (oW hw 35 rfl) (oW hw 38 rfl) (by decide) (W := 1) (own_rm11 l Z a0 hw [] ob_3323 ob_2779 ob_3099 in_5 h3314 n0 Z3333 O3332 F3327 A3318 N3330 F3328 F3329) (by decide) (by decide) (by decide) (by decide) (g := (mkF m 141 #[iv in_1, iv in_2, iv in_3, iv in_4, iv in_5, iv in_2778, iv 1, iv in_2773, iv in_2774, iv in_2775, iv in_2776, iv 2, rv ob_2779, rv ob_3099, rv ob_3294, .unset, .unset, .unset] [(.int in_5), (.ref ob_3099), (.ref ob_2779), (.ref ob_3323), (.ref ob_3323)])) rfl (by rw [hml]; rfl) (argsL := [(.ref ob_2779), (.ref ob_3099), (.int in_5)]) (rest := [(.ref ob_3323)]) rfl (lenOf own_pd4 rfl) rfl (by show 2 * 0 + _ ≤ _; exact Nat.le_of_eq rfl) (hb hby at_141)
       refine oS s3341 ?_
       obtain ⟨rfl, N3342, K3343, F3344, F3345, F3346, F3347⟩ := q3340
       have N3348 := Fr.app N3308 N3342
       have S3349 : Safe Z own_EL s.vm h3314 ob_3323 := Safe.exa hZ.alike A3318 (by decide) (by decide)
       have R3350 : CHr Z own_EL s.vm h0 s.vm h3335 := R3326.trans (CHr.keep K3343 (sfS S3349 sf0) R3326.1)
       have z3351 := K3343.1
       show own_G p e below (T3334.setTop (mkF m 144 #[iv in_1, iv in_2, iv in_3, iv in_4, iv in_5, iv in_2778, iv 1, iv in_2773, iv in_2774, iv in_2775, iv in_2776, iv 2, rv ob_2779, rv ob_3099, rv ob_3294, .unset, .unset, .unset] [(.ref ob_3323)])) _
       refine oS (fun _ => XS.astore X3338.here hx rfl (hb hby at_144) rfl rfl (l' := #[iv in_1, iv in_2, iv in_3, iv in_4, iv in_5, iv in_2778, iv 1, iv in_2773, iv in_2774, iv in_2775, iv in_2776, iv 2, rv ob_2779, rv ob_3099, rv ob_3294, rv ob_3323, .unset, .unset]) rfl) ?_
       refine oS (fun _ => XS.aload X3338.here hx rfl (hb hby at_146) rfl rfl) ?_
       refine oS (fun _ => XS.aload X3338.here hx rfl (hb hby at_148) rfl rfl) ?_
       have O3352 : Old Z n0 h3335 := O3332.keep K3343 (allS N3330 all0)
       have Z3353 : n0 ≤ h3335.size := by omega
       obtain ⟨T3354, h3355, v3356, L3357, X3358, e3359, q3360, s3361⟩ := own_callV X3338 hx hZ hown e3339 (y := (⟨"com/example/latente/latente/query/JpqlLexer$Token", "isSymbol", "(Ljava/lang/String;)Z"⟩ : MethodName)) (z := (⟨"com/example/latente/latente/query/JpqlLexer$Token", "isSymbol", "(Ljava/lang/String;)Z"⟩ : MethodName)) (C := "com/example/latente/latente/query/JpqlLexer$Token") (b := ob_3323) (oW hw 51 rfl) (oW hw 52 rfl) (notFace_of_selects (args := #[]) (mvT hZ (oW hw 54 rfl))) (oW hw 54 rfl) (oW hw 53 rfl) (oW hw 35 rfl) (oW hw 55 rfl) (by decide) F3346 (W := 0) (own_rm51 l Z a0 hw [] ob_3323 ob_3294 ob_2779 ob_9 h3335 n0 Z3353 O3352 F3344 I460 I2802) (by decide) (by decide) (by decide) (by decide) (g := (mkF m 150 #[iv in_1, iv in_2, iv in_3, iv in_4, iv in_5, iv in_2778, iv 1, iv in_2773, iv in_2774, iv in_2775, iv in_2776, iv 2, rv ob_2779, rv ob_3099, rv ob_3294, rv ob_3323, .unset, .unset] [(.ref ob_3294), (.ref ob_3323)])) rfl (by rw [hml]; rfl) (argsL := [(.ref ob_3294)]) (rest := []) rfl (lenOf own_pd7 rfl) rfl (by show 2 * 0 + _ ≤ _; exact Nat.le_of_eq rfl) (hb hby at_150)
       refine oS s3361 ?_
       obtain ⟨rfl, N3362, K3363⟩ := q3360
       have N3364 := Fr.app N3348 N3362
       have e3365 := e3359.trans K3363
       show own_G p e below (T3354.setTop (mkF m 153 #[iv in_1, iv in_2, iv in_3, iv in_4, iv in_5, iv in_2778, iv 1, iv in_2773, iv in_2774, iv in_2775, iv in_2776, iv 2, rv ob_2779, rv ob_3099, rv ob_3294, rv ob_3323, .unset, .unset] [(.int 0)])) _
       refine oS (fun _ => XS.istore X3358.here hx rfl (hb hby at_153) rfl (l' := #[iv in_1, iv in_2, iv in_3, iv in_4, iv in_5, iv in_2778, iv 1, iv in_2773, iv in_2774, iv in_2775, iv in_2776, iv 2, rv ob_2779, rv ob_3099, rv ob_3294, rv ob_3323, iv 0, .unset]) rfl) ?_
       refine oS (fun _ => XS.iload X3358.here hx rfl (hb hby at_155) rfl) ?_
       refine oS (fun _ => XS.iconst X3358.here hx rfl (hb hby at_157) ) ?_
       refine oS (fun _ => XS.icmpYes X3358.here hx rfl (pc0 := 158) (pc' := 198) rfl (hb hby at_158) rfl (XT.ii_ne_t I2801) (by decide) (by decide)) ?_
       show own_G p e below (T3354.setTop (mkF m 198 #[iv in_1, iv in_2, iv in_3, iv in_4, iv in_5, iv in_2778, iv 1, iv in_2773, iv in_2774, iv in_2775, iv in_2776, iv 2, rv ob_2779, rv ob_3099, rv ob_3294, rv ob_3323, iv 0, .unset] [])) _
       refine oS (fun _ => XS.iconst X3358.here hx rfl (hb hby at_198) ) ?_
       refine oS (fun _ => XS.istore X3358.here hx rfl (hb hby at_199) rfl (l' := #[iv in_1, iv in_2, iv in_3, iv in_4, iv in_5, iv in_2778, iv 1, iv in_2773, iv in_2774, iv in_2775, iv in_2776, iv 2, rv ob_2779, rv ob_3099, rv ob_3294, rv ob_3323, iv 0, iv 0]) rfl) ?_
       refine oS (fun _ => XS.iload X3358.here hx rfl (hb hby at_201) rfl) ?_
       refine oS (fun _ => XS.iload X3358.here hx rfl (hb hby at_203) rfl) ?_
       show own_G p e below (T3354.setTop (mkF m 205 #[iv in_1, iv in_2, iv in_3, iv in_4, iv in_5, iv in_2778, iv 1, iv in_2773, iv in_2774, iv in_2775, iv in_2776, iv 2, rv ob_2779, rv ob_3099, rv ob_3294, rv ob_3323, iv 0, iv 0] [(.int 0), (.int 0)])) _
       refine oS (fun _ => XS.icmpNo X3358.here hx rfl (hb hby at_205) rfl (XT.ii_ne_f (by decide))) ?_
       show own_G p e below (T3354.setTop (mkF m 208 #[iv in_1, iv in_2, iv in_3, iv in_4, iv in_5, iv in_2778, iv 1, iv in_2773, iv in_2774, iv in_2775, iv in_2776, iv 2, rv ob_2779, rv ob_3099, rv ob_3294, rv ob_3323, iv 0, iv 0] [])) _
       refine oS (fun _ => XS.iconst X3358.here hx rfl (hb hby at_208) ) ?_
       refine oS (fun _ => XS.goto X3358.here hx rfl (pc0 := 209) (pc' := 213) rfl (hb hby at_209) (by decide) (by decide)) ?_
       show own_G p e below (T3354.setTop (mkF m 213 #[iv in_1, iv in_2, iv in_3, iv in_4, iv in_5, iv in_2778, iv 1, iv in_2773, iv in_2774, iv in_2775, iv in_2776, iv 2, rv ob_2779, rv ob_3099, rv ob_3294, rv ob_3323, iv 0, iv 0] [(.int 1)])) _
       have K3366 : Keep h0 h3335 [] := (((((Keep.refl h0 []).trans K3103 all0).trans K3298 all0).ext E3317).trans K3343 (allS (Or.inr (by omega)) all0))
       exact own_retNW X3358 hx (t := .boolean) Bd.notSynchronized Bd.returns (by simp) (hb hby at_213) (by decide) hS hZ hEL hh R3350 e3365 (by omega) (by decide) (by decide) (⟨rfl, N3364⟩)
   · skip
     refine own_cast (g' := (mkF m 109 #[iv in_1, iv in_2, iv in_3, iv in_4, iv in_5, iv in_2778, iv 2, iv in_2773, iv in_2774, iv in_2775, iv in_2776, iv in_2777, rv ob_2779, .unset, .unset, .unset, .unset, .unset] [])) (by rw [q2805]) ?_
     show own_G p e below (T2781.setTop (mkF m 109 #[iv in_1, iv in_2, iv in_3, iv in_4, iv in_5, iv in_2778, iv 2, iv in_2773, iv in_2774, iv in_2775, iv in_2776, iv in_2777, rv ob_2779, .unset, .unset, .unset, .unset, .unset] [])) _
     refine oS (fun _ => XS.iload X2782.here hx rfl (hb hby at_109) rfl) ?_
     refine oS (fun _ => XS.iload X2782.here hx rfl (hb hby at_111) rfl) ?_
     refine oS (fun _ => XS.iload X2782.here hx rfl (hb hby at_113) rfl) ?_
     obtain ⟨T3367, h3368, v3369, L3370, X3371, e3372, q3373, s3374⟩ := own_callS X2782 hx hZ hown e2783 (y := (⟨"com/example/latente/latente/query/TokenIsSymbolPinLaw", "str", "(ICC)Ljava/lang/String;"⟩ : MethodName)) (oW hw 8 rfl) (oW hw 9 rfl) (oW hw 3 rfl) (oW hw 10 rfl) (by decide) (W := 0) (own_rm24 l Z a0 hw [] in_2773 in_2774 in_6 h0 n0 Z0 O0 I2791 I2794 I487 I495 I2790 I2793) (by decide) (by decide) (by decide) (by decide) (g := (mkF m 115 #[iv in_1, iv in_2, iv in_3, iv in_4, iv in_5, iv in_2778, iv 2, iv in_2773, iv in_2774, iv in_2775, iv in_2776, iv in_2777, rv ob_2779, .unset, .unset, .unset, .unset, .unset] [(.int in_2774), (.int in_2773), (.int 2)])) rfl (by rw [hml]; rfl) (argsL := [(.int 2), (.int in_2773), (.int in_2774)]) (rest := []) rfl (lenOf own_pd2 rfl) rfl (by show 2 * 0 + _ ≤ _; exact Nat.le_of_eq rfl) (hb hby at_115)
     refine oS s3374 ?_
     obtain ⟨ob_3375, ob_3376, kk_3377, rfl, N3378, K3379, F3380, F3381, F3382, F3383, F3384, F3385, F3386, F3387, F3388⟩ := q3373
     have N3389 := Fr.app N2785 N3378
     have R3390 : CHr Z own_EL s.vm h0 s.vm h3368 := hR.trans (CHr.keep K3379 sf0 hR.1)
     have z3391 := K3379.1
     have S3392 : Safe Z own_EL s.vm h0 ob_3375 := Safe.new (by omega)
     have S3393 : Safe Z own_EL s.vm h0 ob_3376 := Safe.new (by omega)
     show own_G p e below (T3367.setTop (mkF m 118 #[iv in_1, iv in_2, iv in_3, iv in_4, iv in_5, iv in_2778, iv 2, iv in_2773, iv in_2774, iv in_2775, iv in_2776, iv in_2777, rv ob_2779, .unset, .unset, .unset, .unset, .unset] [(.ref ob_3375)])) _
     refine oS (fun _ => XS.astore X3371.here hx rfl (hb hby at_118) rfl rfl (l' := #[iv in_1, iv in_2, iv in_3, iv in_4, iv in_5, iv in_2778, iv 2, iv in_2773, iv in_2774, iv in_2775, iv in_2776, iv in_2777, rv ob_2779, rv ob_3375, .unset, .unset, .unset, .unset]) rfl) ?_
     show own_G p e below (T3367.setTop (mkF m 120 #[iv in_1, iv in_2, iv in_3, iv in_4, iv in_5, iv in_2778, iv 2, iv in_2773, iv in_2774, iv in_2775, iv in_2776, iv in_2777, rv ob_2779, rv ob_3375, .unset, .unset, .unset, .unset] [])) _
     rcases own_in3 I2788 with q3394 | q3395 | q3396
     · skip
       refine own_cast (g' := (mkF m 120 #[iv in_1, iv in_2, iv in_3, iv in_4, iv in_5, iv in_2778, iv 2, iv in_2773, iv in_2774, iv in_2775, iv in_2776, iv 0, rv ob_2779, rv ob_3375, .unset, .unset, .unset, .unset] [])) (by rw [q3394]) ?_
       show own_G p e below (T3367.setTop (mkF m 120 #[iv in_1, iv in_2, iv in_3, iv in_4, iv in_5, iv in_2778, iv 2, iv in_2773, iv in_2774, iv in_2775, iv in_2776, iv 0, rv ob_2779, rv ob_3375, .unset, .unset, .unset, .unset] [])) _
       refine oS (fun _ => XS.iload X3371.here hx rfl (hb hby at_120) rfl) ?_
       refine oS (fun _ => XS.iload X3371.here hx rfl (hb hby at_122) rfl) ?_
       refine oS (fun _ => XS.iload X3371.here hx rfl (hb hby at_124) rfl) ?_
       have O3397 : Old Z n0 h3368 := O0.keep K3379 all0
       have Z3398 : n0 ≤ h3368.size := by omega
       obtain ⟨T3399, h3400, v3401, L3402, X3403, e3404, q3405, hS, hZ, hown, A3406, s3407⟩ := own_callSW X3371 hx hZ hown e3372 (y := (⟨"com/example/latente/latente/query/TokenIsSymbolPinLaw", "str", "(ICC)Ljava/lang/String;"⟩ : MethodName)) (sf := []) (oW hw 8 rfl) (oW hw 9 rfl) (oW hw 3 rfl) (oW hw 10 rfl) (by decide) hS (by omega) hEL R3390.1 sf0 all0 (W := 0) (own_rm5 l Z a0 hw hEL [] in_2775 in_2776 h3368 n0 Z3398 O3397 ) (by decide) (by decide) (by decide) (by decide) (g := (mkF m 126 #[iv in_1, iv in_2, iv in_3, iv in_4, iv in_5, iv in_2778, iv 2, iv in_2773, iv in_2774, iv in_2775, iv in_2776, iv 0, rv ob_2779, rv ob_3375, .unset, .unset, .unset, .unset] [(.int in_2776), (.int in_2775), (.int 0)])) rfl (by rw [hml]; rfl) (argsL := [(.int 0), (.int in_2775), (.int in_2776)]) (rest := []) rfl (lenOf own_pd2 rfl) rfl (by show 2 * 0 + _ ≤ _; exact Nat.le_of_eq rfl) (hb hby at_126)
       refine oS s3407 ?_
       obtain ⟨ob_3408, ob_3409, kk_3410, rfl, N3411, K3412, F3413, F3414, F3415, F3416, F3417, F3418, F3419⟩ := q3405
       have N3420 := Fr.app N3389 N3411
       have R3421 : CHr Z own_EL s.vm h0 T3399.vm h3400 := R3390.trans A3406
       have z3422 := K3412.1
       show own_G p e below (T3399.setTop (mkF m 129 #[iv in_1, iv in_2, iv in_3, iv in_4, iv in_5, iv in_2778, iv 2, iv in_2773, iv in_2774, iv in_2775, iv in_2776, iv 0, rv ob_2779, rv ob_3375, .unset, .unset, .unset, .unset] [(.ref ob_3408)])) _
       refine oS (fun _ => XS.astore X3403.here hx rfl (hb hby at_129) rfl rfl (l' := #[iv in_1, iv in_2, iv in_3, iv in_4, iv in_5, iv in_2778, iv 2, iv in_2773, iv in_2774, iv in_2775, iv in_2776, iv 0, rv ob_2779, rv ob_3375, rv ob_3408, .unset, .unset, .unset]) rfl) ?_
       obtain ⟨T3423, h3424, X3425, e3426, E3427, A3428, D3429, U3432, s3430⟩ := newO X3403 hx hZ hown (oW hw 33 rfl) (oW hw 34 rfl) (oW hw 35 rfl) e3404 (g := (mkF m 131 #[iv in_1, iv in_2, iv in_3, iv in_4, iv in_5, iv in_2778, iv 2, iv in_2773, iv in_2774, iv in_2775, iv in_2776, iv 0, rv ob_2779, rv ob_3375, rv ob_3408, .unset, .unset, .unset] [])) rfl (hb hby at_131) (by decide) (by decide)
       obtain ⟨ob_3433, g3434⟩ : ∃ z, z = h3400.size := ⟨_, rfl⟩
       rw [← g3434] at A3428 D3429 U3432 s3430
       have z3435 := E3427.1
       have y3431 : @LT.lt Nat instLTNat ob_3433 h3424.size := A3428.lt
       refine oS s3430 ?_
       have R3436 : CHr Z own_EL s.vm h0 T3399.vm h3424 := R3421.trans (CHr.ext E3427 R3421.1)
       have F3437 : Fld Z h3424 ob_3433 "com/example/latente/latente/query/JpqlLexer$Token" "kind" "Lcom/example/latente/latente/query/JpqlLexer$Kind;" .null := D3429 (Or.inr (oW hw 46 rfl)) (ty := (.object "com/example/latente/latente/query/JpqlLexer$Kind")) (by decide)
       have F3438 : Fld Z h3424 ob_3433 "com/example/latente/latente/query/JpqlLexer$Token" "text" "Ljava/lang/String;" .null := D3429 (Or.inr (oW hw 48 rfl)) (ty := (.object "java/lang/String")) (by decide)
       have F3439 : Fld Z h3424 ob_3433 "com/example/latente/latente/query/JpqlLexer$Token" "position" "I" (.int 0) := D3429 (Or.inr (oW hw 50 rfl)) (ty := .int) (by decide)
       show own_G p e below (T3423.setTop (mkF m 134 #[iv in_1, iv in_2, iv in_3, iv in_4, iv in_5, iv in_2778, iv 2, iv in_2773, iv in_2774, iv in_2775, iv in_2776, iv 0, rv ob_2779, rv ob_3375, rv ob_3408, .unset, .unset, .unset] [(.ref ob_3433)])) _
       refine oS (fun _ => XS.dup X3425.here hx rfl (hb hby at_134) rfl rfl) ?_
       refine oS (fun _ => XS.aload X3425.here hx rfl (hb hby at_135) rfl rfl) ?_
       refine oS (fun _ => XS.aload X3425.here hx rfl (hb hby at_137) rfl rfl) ?_
       refine oS (fun _ => XS.iload X3425.here hx rfl (hb hby at_139) rfl) ?_
       show own_G p e below (T3423.setTop (mkF m 141 #[iv in_1, iv in_2, iv in_3, iv in_4, iv in_5, iv in_2778, iv 2, iv in_2773, iv in_2774, iv in_2775, iv in_2776, iv 0, rv ob_2779, rv ob_3375, rv ob_3408, .unset, .unset, .unset] [(.int in_5), (.ref ob_3375), (.ref ob_2779), (.ref ob_3433), (.ref ob_3433)])) _
       have N3440 : n0 ≤ ob_3433 := by omega
       have O3441 : Old Z n0 h3400 := O3397.keep K3412 all0
       have O3442 : Old Z n0 h3424 := O3441.ext E3427
       have Z3443 : n0 ≤ h3424.size := by omega
       obtain ⟨T3444, h3445, v3446, L3447, X3448, e3449, q3450, s3451⟩ := own_callN X3425 hx hZ hown e3426 (y := (⟨"com/example/latente/latente/query/JpqlLexer$Token", "<init>", "(Lcom/example/latente/latente/query/JpqlLexer$Kind;Ljava/lang/String;I)V"⟩ : MethodName)) (b := ob_3433) rfl (oW hw 36 rfl) (oW hw 37 rfl) (oW hw 35 rfl) (oW hw 38 rfl) (by decide) (W := 1) (own_rm11 l Z a0 hw [] ob_3433 ob_2779 ob_3375 in_5 h3424 n0 Z3443 O3442 F3437 A3428 N3440 F3438 F3439) (by decide) (by decide) (by decide) (by decide) (g := (mkF m 141 #[iv in_1, iv in_2, iv in_3, iv in_4, iv in_5, iv in_2778, iv 2, iv in_2773, iv in_2774, iv in_2775, iv in_2776, iv 0, rv ob_2779, rv ob_3375, rv ob_3408, .unset, .unset, .unset] [(.int in_5), (.ref ob_3375), (.ref ob_2779), (.ref ob_3433), (.ref ob_3433)])) rfl (by rw [hml]; rfl) (argsL := [(.ref ob_2779), (.ref ob_3375), (.int in_5)]) (rest := [(.ref ob_3433)]) rfl (lenOf own_pd4 rfl) rfl (by show 2 * 0 + _ ≤ _; exact Nat.le_of_eq rfl) (hb hby at_141)
       refine oS s3451 ?_
       obtain ⟨rfl, N3452, K3453, F3454, F3455, F3456, F3457⟩ := q3450
       have N3458 := Fr.app N3420 N3452
       have S3459 : Safe Z own_EL T3399.vm h3424 ob_3433 := Safe.exa hZ.alike A3428 (by decide) (by decide)
       have R3460 : CHr Z own_EL s.vm h0 T3399.vm h3445 := R3436.trans (CHr.keep K3453 (sfS S3459 sf0) R3436.1)
       have z3461 := K3453.1
       show own_G p e below (T3444.setTop (mkF m 144 #[iv in_1, iv in_2, iv in_3, iv in_4, iv in_5, iv in_2778, iv 2, iv in_2773, iv in_2774, iv in_2775, iv in_2776, iv 0, rv ob_2779, rv ob_3375, rv ob_3408, .unset, .unset, .unset] [(.ref ob_3433)])) _
       refine oS (fun _ => XS.astore X3448.here hx rfl (hb hby at_144) rfl rfl (l' := #[iv in_1, iv in_2, iv in_3, iv in_4, iv in_5, iv in_2778, iv 2, iv in_2773, iv in_2774, iv in_2775, iv in_2776, iv 0, rv ob_2779, rv ob_3375, rv ob_3408, rv ob_3433, .unset, .unset]) rfl) ?_
       refine oS (fun _ => XS.aload X3448.here hx rfl (hb hby at_146) rfl rfl) ?_
       refine oS (fun _ => XS.aload X3448.here hx rfl (hb hby at_148) rfl rfl) ?_
       have O3462 : Old Z n0 h3445 := O3442.keep K3453 (allS N3440 all0)
       have Z3463 : n0 ≤ h3445.size := by omega
       obtain ⟨T3464, h3465, v3466, L3467, X3468, e3469, q3470, s3471⟩ := own_callV X3448 hx hZ hown e3449 (y := (⟨"com/example/latente/latente/query/JpqlLexer$Token", "isSymbol", "(Ljava/lang/String;)Z"⟩ : MethodName)) (z := (⟨"com/example/latente/latente/query/JpqlLexer$Token", "isSymbol", "(Ljava/lang/String;)Z"⟩ : MethodName)) (C := "com/example/latente/latente/query/JpqlLexer$Token") (b := ob_3433) (oW hw 51 rfl) (oW hw 52 rfl) (notFace_of_selects (args := #[]) (mvT hZ (oW hw 54 rfl))) (oW hw 54 rfl) (oW hw 53 rfl) (oW hw 35 rfl) (oW hw 55 rfl) (by decide) F3456 (W := 0) (own_rm51 l Z a0 hw [] ob_3433 ob_3408 ob_2779 ob_9 h3445 n0 Z3463 O3462 F3454 I460 I2802) (by decide) (by decide) (by decide) (by decide) (g := (mkF m 150 #[iv in_1, iv in_2, iv in_3, iv in_4, iv in_5, iv in_2778, iv 2, iv in_2773, iv in_2774, iv in_2775, iv in_2776, iv 0, rv ob_2779, rv ob_3375, rv ob_3408, rv ob_3433, .unset, .unset] [(.ref ob_3408), (.ref ob_3433)])) rfl (by rw [hml]; rfl) (argsL := [(.ref ob_3408)]) (rest := []) rfl (lenOf own_pd7 rfl) rfl (by show 2 * 0 + _ ≤ _; exact Nat.le_of_eq rfl) (hb hby at_150)
       refine oS s3471 ?_
       obtain ⟨rfl, N3472, K3473⟩ := q3470
       have N3474 := Fr.app N3458 N3472
       have e3475 := e3469.trans K3473
       show own_G p e below (T3464.setTop (mkF m 153 #[iv in_1, iv in_2, iv in_3, iv in_4, iv in_5, iv in_2778, iv 2, iv in_2773, iv in_2774, iv in_2775, iv in_2776, iv 0, rv ob_2779, rv ob_3375, rv ob_3408, rv ob_3433, .unset, .unset] [(.int 0)])) _
       refine oS (fun _ => XS.istore X3468.here hx rfl (hb hby at_153) rfl (l' := #[iv in_1, iv in_2, iv in_3, iv in_4, iv in_5, iv in_2778, iv 2, iv in_2773, iv in_2774, iv in_2775, iv in_2776, iv 0, rv ob_2779, rv ob_3375, rv ob_3408, rv ob_3433, iv 0, .unset]) rfl) ?_
       refine oS (fun _ => XS.iload X3468.here hx rfl (hb hby at_155) rfl) ?_
       refine oS (fun _ => XS.iconst X3468.here hx rfl (hb hby at_157) ) ?_
       refine oS (fun _ => XS.icmpYes X3468.here hx rfl (pc0 := 158) (pc' := 198) rfl (hb hby at_158) rfl (XT.ii_ne_t I2801) (by decide) (by decide)) ?_
       show own_G p e below (T3464.setTop (mkF m 198 #[iv in_1, iv in_2, iv in_3, iv in_4, iv in_5, iv in_2778, iv 2, iv in_2773, iv in_2774, iv in_2775, iv in_2776, iv 0, rv ob_2779, rv ob_3375, rv ob_3408, rv ob_3433, iv 0, .unset] [])) _
       refine oS (fun _ => XS.iconst X3468.here hx rfl (hb hby at_198) ) ?_
       refine oS (fun _ => XS.istore X3468.here hx rfl (hb hby at_199) rfl (l' := #[iv in_1, iv in_2, iv in_3, iv in_4, iv in_5, iv in_2778, iv 2, iv in_2773, iv in_2774, iv in_2775, iv in_2776, iv 0, rv ob_2779, rv ob_3375, rv ob_3408, rv ob_3433, iv 0, iv 0]) rfl) ?_
       refine oS (fun _ => XS.iload X3468.here hx rfl (hb hby at_201) rfl) ?_
       refine oS (fun _ => XS.iload X3468.here hx rfl (hb hby at_203) rfl) ?_
       show own_G p e below (T3464.setTop (mkF m 205 #[iv in_1, iv in_2, iv in_3, iv in_4, iv in_5, iv in_2778, iv 2, iv in_2773, iv in_2774, iv in_2775, iv in_2776, iv 0, rv ob_2779, rv ob_3375, rv ob_3408, rv ob_3433, iv 0, iv 0] [(.int 0), (.int 0)])) _
       refine oS (fun _ => XS.icmpNo X3468.here hx rfl (hb hby at_205) rfl (XT.ii_ne_f (by decide))) ?_
       show own_G p e below (T3464.setTop (mkF m 208 #[iv in_1, iv in_2, iv in_3, iv in_4, iv in_5, iv in_2778, iv 2, iv in_2773, iv in_2774, iv in_2775, iv in_2776, iv 0, rv ob_2779, rv ob_3375, rv ob_3408, rv ob_3433, iv 0, iv 0] [])) _
       refine oS (fun _ => XS.iconst X3468.here hx rfl (hb hby at_208) ) ?_
       refine oS (fun _ => XS.goto X3468.here hx rfl (pc0 := 209) (pc' := 213) rfl (hb hby at_209) (by decide) (by decide)) ?_
       show own_G p e below (T3464.setTop (mkF m 213 #[iv in_1, iv in_2, iv in_3, iv in_4, iv in_5, iv in_2778, iv 2, iv in_2773, iv in_2774, iv in_2775, iv in_2776, iv 0, rv ob_2779, rv ob_3375, rv ob_3408, rv ob_3433, iv 0, iv 0] [(.int 1)])) _
       have K3476 : Keep h0 h3445 [] := (((((Keep.refl h0 []).trans K3379 all0).trans K3412 all0).ext E3427).trans K3453 (allS (Or.inr (by omega)) all0))
       exact own_retNW X3468 hx (t := .boolean) Bd.notSynchronized Bd.returns (by simp) (hb hby at_213) (by decide) hS hZ hEL hh R3460 e3475 (by omega) (by decide) (by decide) (⟨rfl, N3474⟩)
     · skip
       refine own_cast (g' := (mkF m 120 #[iv in_1, iv in_2, iv in_3, iv in_4, iv in_5, iv in_2778, iv 2, iv in_2773, iv in_2774, iv in_2775, iv in_2776, iv 1, rv ob_2779, rv ob_3375, .unset, .unset, .unset, .unset] [])) (by rw [q3395]) ?_
       show own_G p e below (T3367.setTop (mkF m 120 #[iv in_1, iv in_2, iv in_3, iv in_4, iv in_5, iv in_2778, iv 2, iv in_2773, iv in_2774, iv in_2775, iv in_2776, iv 1, rv ob_2779, rv ob_3375, .unset, .unset, .unset, .unset] [])) _
       refine oS (fun _ => XS.iload X3371.here hx rfl (hb hby at_120) rfl) ?_
       refine oS (fun _ => XS.iload X3371.here hx rfl (hb hby at_122) rfl) ?_
       refine oS (fun _ => XS.iload X3371.here hx rfl (hb hby at_124) rfl) ?_
       have O3477 : Old Z n0 h3368 := O0.keep K3379 all0
       have Z3478 : n0 ≤ h3368.size := by omega
       obtain ⟨T3479, h3480, v3481, L3482, X3483, e3484, q3485, s3486⟩ := own_callS X3371 hx hZ hown e3372 (y := (⟨"com/example/latente/latente/query/TokenIsSymbolPinLaw", "str", "(ICC)Ljava/lang/String;"⟩ : MethodName)) (oW hw 8 rfl) (oW hw 9 rfl) (oW hw 3 rfl) (oW hw 10 rfl) (by decide) (W := 0) (own_rm16 l Z a0 hw [] in_2775 in_2776 in_6 h3368 n0 Z3478 O3477 I487 I495 I2796) (by decide) (by decide) (by decide) (by decide) (g := (mkF m 126 #[iv in_1, iv in_2, iv in_3, iv in_4, iv in_5, iv in_2778, iv 2, iv in_2773, iv in_2774, iv in_2775, iv in_2776, iv 1, rv ob_2779, rv ob_3375, .unset, .unset, .unset, .unset] [(.int in_2776), (.int in_2775), (.int 1)])) rfl (by rw [hml]; rfl) (argsL := [(.int 1), (.int in_2775), (.int in_2776)]) (rest := []) rfl (lenOf own_pd2 rfl) rfl (by show 2 * 0 + _ ≤ _; exact Nat.le_of_eq rfl) (hb hby at_126)
       refine oS s3486 ?_
       obtain ⟨ob_3487, ob_3488, kk_3489, rfl, N3490, K3491, F3492, F3493, F3494, F3495, F3496, F3497, F3498, F3499, F3500⟩ := q3485
       have N3501 := Fr.app N3389 N3490
       have R3502 : CHr Z own_EL s.vm h0 s.vm h3480 := R3390.trans (CHr.keep K3491 sf0 R3390.1)
       have z3503 := K3491.1
       have S3504 : Safe Z own_EL s.vm h3368 ob_3487 := Safe.new (by omega)
       have S3505 : Safe Z own_EL s.vm h3368 ob_3488 := Safe.new (by omega)
       show own_G p e below (T3479.setTop (mkF m 129 #[iv in_1, iv in_2, iv in_3, iv in_4, iv in_5, iv in_2778, iv 2, iv in_2773, iv in_2774, iv in_2775, iv in_2776, iv 1, rv ob_2779, rv ob_3375, .unset, .unset, .unset, .unset] [(.ref ob_3487)])) _
       refine oS (fun _ => XS.astore X3483.here hx rfl (hb hby at_129) rfl rfl (l' := #[iv in_1, iv in_2, iv in_3, iv in_4, iv in_5, iv in_2778, iv 2, iv in_2773, iv in_2774, iv in_2775, iv in_2776, iv 1, rv ob_2779, rv ob_3375, rv ob_3487, .unset, .unset, .unset]) rfl) ?_
       obtain ⟨T3506, h3507, X3508, e3509, E3510, A3511, D3512, U3515, s3513⟩ := newO X3483 hx hZ hown (oW hw 33 rfl) (oW hw 34 rfl) (oW hw 35 rfl) e3484 (g := (mkF m 131 #[iv in_1, iv in_2, iv in_3, iv in_4, iv in_5, iv in_2778, iv 2, iv in_2773, iv in_2774, iv in_2775, iv in_2776, iv 1, rv ob_2779, rv ob_3375, rv ob_3487, .unset, .unset, .unset] [])) rfl (hb hby at_131) (by decide) (by decide)
       obtain ⟨ob_3516, g3517⟩ : ∃ z, z = h3480.size := ⟨_, rfl⟩
       rw [← g3517] at A3511 D3512 U3515 s3513
       have z3518 := E3510.1
       have y3514 : @LT.lt Nat instLTNat ob_3516 h3507.size := A3511.lt
       refine oS s3513 ?_
       have R3519 : CHr Z own_EL s.vm h0 s.vm h3507 := R3502.trans (CHr.ext E3510 R3502.1)
       have F3520 : Fld Z h3507 ob_3516 "com/example/latente/latente/query/JpqlLexer$Token" "kind" "Lcom/example/latente/latente/query/JpqlLexer$Kind;" .null := D3512 (Or.inr (oW hw 46 rfl)) (ty := (.object "com/example/latente/latente/query/JpqlLexer$Kind")) (by decide)
       have F3521 : Fld Z h3507 ob_3516 "com/example/latente/latente/query/JpqlLexer$Token" "text" "Ljava/lang/String;" .null := D3512 (Or.inr (oW hw 48 rfl)) (ty := (.object "java/lang/String")) (by decide)
       have F3522 : Fld Z h3507 ob_3516 "com/example/latente/latente/query/JpqlLexer$Token" "position" "I" (.int 0) := D3512 (Or.inr (oW hw 50 rfl)) (ty := .int) (by decide)
       show own_G p e below (T3506.setTop (mkF m 134 #[iv in_1, iv in_2, iv in_3, iv in_4, iv in_5, iv in_2778, iv 2, iv in_2773, iv in_2774, iv in_2775, iv in_2776, iv 1, rv ob_2779, rv ob_3375, rv ob_3487, .unset, .unset, .unset] [(.ref ob_3516)])) _
       refine oS (fun _ => XS.dup X3508.here hx rfl (hb hby at_134) rfl rfl) ?_
       refine oS (fun _ => XS.aload X3508.here hx rfl (hb hby at_135) rfl rfl) ?_
       refine oS (fun _ => XS.aload X3508.here hx rfl (hb hby at_137) rfl rfl) ?_
       refine oS (fun _ => XS.iload X3508.here hx rfl (hb hby at_139) rfl) ?_
       show own_G p e below (T3506.setTop (mkF m 141 #[iv in_1, iv in_2, iv in_3, iv in_4, iv in_5, iv in_2778, iv 2, iv in_2773, iv in_2774, iv in_2775, iv in_2776, iv 1, rv ob_2779, rv ob_3375, rv ob_3487, .unset, .unset, .unset] [(.int in_5), (.ref ob_3375), (.ref ob_2779), (.ref ob_3516), (.ref ob_3516)])) _
       have N3523 : n0 ≤ ob_3516 := by omega
       have O3524 : Old Z n0 h3480 := O3477.keep K3491 all0
       have O3525 : Old Z n0 h3507 := O3524.ext E3510
       have Z3526 : n0 ≤ h3507.size := by omega
       obtain ⟨T3527, h3528, v3529, L3530, X3531, e3532, q3533, s3534⟩ := own_callN X3508 hx hZ hown e3509 (y := (⟨"com/example/latente/latente/query/JpqlLexer$Token", "<init>", "(Lcom/example/latente/latente/query/JpqlLexer$Kind;Ljava/lang/String;I)V"⟩ : MethodName)) (b := ob_3516) rfl (oW hw 36 rfl) (oW hw 37 rfl) (oW hw 35 rfl) (oW hw 38 rfl) (by decide) (W := 1) (own_rm11 l Z a0 hw [] ob_3516 ob_2779 ob_3375 in_5 h3507 n0 Z3526 O3525 F3520 A3511 N3523 F3521 F3522) (by decide) (by decide) (by decide) (by decide) (g := (mkF m 141 #[iv in_1, iv in_2, iv in_3, iv in_4, iv in_5, iv in_2778, iv 2, iv in_2773, iv in_2774, iv in_2775, iv in_2776, iv 1, rv ob_2779, rv ob_3375, rv ob_3487, .unset, .unset, .unset] [(.int in_5), (.ref ob_3375), (.ref ob_2779), (.ref ob_3516), (.ref ob_3516)])) rfl (by rw [hml]; rfl) (argsL := [(.ref ob_2779), (.ref ob_3375), (.int in_5)]) (rest := [(.ref ob_3516)]) rfl (lenOf own_pd4 rfl) rfl (by show 2 * 0 + _ ≤ _; exact Nat.le_of_eq rfl) (hb hby at_141)
       refine oS s3534 ?_
       obtain ⟨rfl, N3535, K3536, F3537, F3538, F3539, F3540⟩ := q3533
       have N3541 := Fr.app N3501 N3535
       have S3542 : Safe Z own_EL s.vm h3507 ob_3516 := Safe.exa hZ.alike A3511 (by decide) (by decide)
       have R3543 : CHr Z own_EL s.vm h0 s.vm h3528 := R3519.trans (CHr.keep K3536 (sfS S3542 sf0) R3519.1)
       have z3544 := K3536.1
       show own_G p e below (T3527.setTop (mkF m 144 #[iv in_1, iv in_2, iv in_3, iv in_4, iv in_5, iv in_2778, iv 2, iv in_2773, iv in_2774, iv in_2775, iv in_2776, iv 1, rv ob_2779, rv ob_3375, rv ob_3487, .unset, .unset, .unset] [(.ref ob_3516)])) _
       refine oS (fun _ => XS.astore X3531.here hx rfl (hb hby at_144) rfl rfl (l' := #[iv in_1, iv in_2, iv in_3, iv in_4, iv in_5, iv in_2778, iv 2, iv in_2773, iv in_2774, iv in_2775, iv in_2776, iv 1, rv ob_2779, rv ob_3375, rv ob_3487, rv ob_3516, .unset, .unset]) rfl) ?_
       refine oS (fun _ => XS.aload X3531.here hx rfl (hb hby at_146) rfl rfl) ?_
       refine oS (fun _ => XS.aload X3531.here hx rfl (hb hby at_148) rfl rfl) ?_
       have O3545 : Old Z n0 h3528 := O3525.keep K3536 (allS N3523 all0)
       have Z3546 : n0 ≤ h3528.size := by omega
       obtain ⟨T3547, h3548, v3549, L3550, X3551, e3552, q3553, s3554⟩ := own_callV X3531 hx hZ hown e3532 (y := (⟨"com/example/latente/latente/query/JpqlLexer$Token", "isSymbol", "(Ljava/lang/String;)Z"⟩ : MethodName)) (z := (⟨"com/example/latente/latente/query/JpqlLexer$Token", "isSymbol", "(Ljava/lang/String;)Z"⟩ : MethodName)) (C := "com/example/latente/latente/query/JpqlLexer$Token") (b := ob_3516) (oW hw 51 rfl) (oW hw 52 rfl) (notFace_of_selects (args := #[]) (mvT hZ (oW hw 54 rfl))) (oW hw 54 rfl) (oW hw 53 rfl) (oW hw 35 rfl) (oW hw 55 rfl) (by decide) F3539 (W := 0) (own_rm51 l Z a0 hw [] ob_3516 ob_3487 ob_2779 ob_9 h3528 n0 Z3546 O3545 F3537 I460 I2802) (by decide) (by decide) (by decide) (by decide) (g := (mkF m 150 #[iv in_1, iv in_2, iv in_3, iv in_4, iv in_5, iv in_2778, iv 2, iv in_2773, iv in_2774, iv in_2775, iv in_2776, iv 1, rv ob_2779, rv ob_3375, rv ob_3487, rv ob_3516, .unset, .unset] [(.ref ob_3487), (.ref ob_3516)])) rfl (by rw [hml]; rfl) (argsL := [(.ref ob_3487)]) (rest := []) rfl (lenOf own_pd7 rfl) rfl (by show 2 * 0 + _ ≤ _; exact Nat.le_of_eq rfl) (hb hby at_150)
       refine oS s3554 ?_
       obtain ⟨rfl, N3555, K3556⟩ := q3553
       have N3557 := Fr.app N3541 N3555
       have e3558 := e3552.trans K3556
       show own_G p e below (T3547.setTop (mkF m 153 #[iv in_1, iv in_2, iv in_3, iv in_4, iv in_5, iv in_2778, iv 2, iv in_2773, iv in_2774, iv in_2775, iv in_2776, iv 1, rv ob_2779, rv ob_3375, rv ob_3487, rv ob_3516, .unset, .unset] [(.int 0)])) _
       refine oS (fun _ => XS.istore X3551.here hx rfl (hb hby at_153) rfl (l' := #[iv in_1, iv in_2, iv in_3, iv in_4, iv in_5, iv in_2778, iv 2, iv in_2773, iv in_2774, iv in_2775, iv in_2776, iv 1, rv ob_2779, rv ob_3375, rv ob_3487, rv ob_3516, iv 0, .unset]) rfl) ?_
       refine oS (fun _ => XS.iload X3551.here hx rfl (hb hby at_155) rfl) ?_
       refine oS (fun _ => XS.iconst X3551.here hx rfl (hb hby at_157) ) ?_
       refine oS (fun _ => XS.icmpYes X3551.here hx rfl (pc0 := 158) (pc' := 198) rfl (hb hby at_158) rfl (XT.ii_ne_t I2801) (by decide) (by decide)) ?_
       show own_G p e below (T3547.setTop (mkF m 198 #[iv in_1, iv in_2, iv in_3, iv in_4, iv in_5, iv in_2778, iv 2, iv in_2773, iv in_2774, iv in_2775, iv in_2776, iv 1, rv ob_2779, rv ob_3375, rv ob_3487, rv ob_3516, iv 0, .unset] [])) _
       refine oS (fun _ => XS.iconst X3551.here hx rfl (hb hby at_198) ) ?_
       refine oS (fun _ => XS.istore X3551.here hx rfl (hb hby at_199) rfl (l' := #[iv in_1, iv in_2, iv in_3, iv in_4, iv in_5, iv in_2778, iv 2, iv in_2773, iv in_2774, iv in_2775, iv in_2776, iv 1, rv ob_2779, rv ob_3375, rv ob_3487, rv ob_3516, iv 0, iv 0]) rfl) ?_
       refine oS (fun _ => XS.iload X3551.here hx rfl (hb hby at_201) rfl) ?_
       refine oS (fun _ => XS.iload X3551.here hx rfl (hb hby at_203) rfl) ?_
       show own_G p e below (T3547.setTop (mkF m 205 #[iv in_1, iv in_2, iv in_3, iv in_4, iv in_5, iv in_2778, iv 2, iv in_2773, iv in_2774, iv in_2775, iv in_2776, iv 1, rv ob_2779, rv ob_3375, rv ob_3487, rv ob_3516, iv 0, iv 0] [(.int 0), (.int 0)])) _
       refine oS (fun _ => XS.icmpNo X3551.here hx rfl (hb hby at_205) rfl (XT.ii_ne_f (by decide))) ?_
       show own_G p e below (T3547.setTop (mkF m 208 #[iv in_1, iv in_2, iv in_3, iv in_4, iv in_5, iv in_2778, iv 2, iv in_2773, iv in_2774, iv in_2775, iv in_2776, iv 1, rv ob_2779, rv ob_3375, rv ob_3487, rv ob_3516, iv 0, iv 0] [])) _
       refine oS (fun _ => XS.iconst X3551.here hx rfl (hb hby at_208) ) ?_
       refine oS (fun _ => XS.goto X3551.here hx rfl (pc0 := 209) (pc' := 213) rfl (hb hby at_209) (by decide) (by decide)) ?_
       show own_G p e below (T3547.setTop (mkF m 213 #[iv in_1, iv in_2, iv in_3, iv in_4, iv in_5, iv in_2778, iv 2, iv in_2773, iv in_2774, iv in_2775, iv in_2776, iv 1, rv ob_2779, rv ob_3375, rv ob_3487, rv ob_3516, iv 0, iv 0] [(.int 1)])) _
       have K3559 : Keep h0 h3528 [] := (((((Keep.refl h0 []).trans K3379 all0).trans K3491 all0).ext E3510).trans K3536 (allS (Or.inr (by omega)) all0))
       exact own_retNW X3551 hx (t := .boolean) Bd.notSynchronized Bd.returns (by simp) (hb hby at_213) (by decide) hS hZ hEL hh R3543 e3558 (by omega) (by decide) (by decide) (⟨rfl, N3557⟩)
     · skip
       refine own_cast (g' := (mkF m 120 #[iv in_1, iv in_2, iv in_3, iv in_4, iv in_5, iv in_2778, iv 2, iv in_2773, iv in_2774, iv in_2775, iv in_2776, iv 2, rv ob_2779, rv ob_3375, .unset, .unset, .unset, .unset] [])) (by rw [q3396]) ?_
       show own_G p e below (T3367.setTop (mkF m 120 #[iv in_1, iv in_2, iv in_3, iv in_4, iv in_5, iv in_2778, iv 2, iv in_2773, iv in_2774, iv in_2775, iv in_2776, iv 2, rv ob_2779, rv ob_3375, .unset, .unset, .unset, .unset] [])) _
       refine oS (fun _ => XS.iload X3371.here hx rfl (hb hby at_120) rfl) ?_
       refine oS (fun _ => XS.iload X3371.here hx rfl (hb hby at_122) rfl) ?_
       refine oS (fun _ => XS.iload X3371.here hx rfl (hb hby at_124) rfl) ?_
       have O3560 : Old Z n0 h3368 := O0.keep K3379 all0
       have Z3561 : n0 ≤ h3368.size := by omega
       obtain ⟨T3562, h3563, v3564, L3565, X3566, e3567, q3568, s3569⟩ := own_callS X3371 hx hZ hown e3372 (y := (⟨"com/example/latente/latente/query/TokenIsSymbolPinLaw", "str", "(ICC)Ljava/lang/String;"⟩ : MethodName)) (oW hw 8 rfl) (oW hw 9 rfl) (oW hw 3 rfl) (oW hw 10 rfl) (by decide) (W := 0) (own_rm24 l Z a0 hw [] in_2775 in_2776 in_6 h3368 n0 Z3561 O3560 I2797 I2800 I487 I495 I2796 I2799) (by decide) (by decide) (by decide) (by decide) (g := (mkF m 126 #[iv in_1, iv in_2, iv in_3, iv in_4, iv in_5, iv in_2778, iv 2, iv in_2773, iv in_2774, iv in_2775, iv in_2776, iv 2, rv ob_2779, rv ob_3375, .unset, .unset, .unset, .unset] [(.int in_2776), (.int in_2775), (.int 2)])) rfl (by rw [hml]; rfl) (argsL := [(.int 2), (.int in_2775), (.int in_2776)]) (rest := []) rfl (lenOf own_pd2 rfl) rfl (by show 2 * 0 + _ ≤ _; exact Nat.le_of_eq rfl) (hb hby at_126)
       refine oS s3569 ?_
       obtain ⟨ob_3570, ob_3571, kk_3572, rfl, N3573, K3574, F3575, F3576, F3577, F3578, F3579, F3580, F3581, F3582, F3583⟩ := q3568
       have N3584 := Fr.app N3389 N3573
       have R3585 : CHr Z own_EL s.vm h0 s.vm h3563 := R3390.trans (CHr.keep K3574 sf0 R3390.1)
       have z3586 := K3574.1
       have S3587 : Safe Z own_EL s.vm h3368 ob_3570 := Safe.new (by omega)
       have S3588 : Safe Z own_EL s.vm h3368 ob_3571 := Safe.new (by omega)
       show own_G p e below (T3562.setTop (mkF m 129 #[iv in_1, iv in_2, iv in_3, iv in_4, iv in_5, iv in_2778, iv 2, iv in_2773, iv in_2774, iv in_2775, iv in_2776, iv 2, rv ob_2779, rv ob_3375, .unset, .unset, .unset, .unset] [(.ref ob_3570)])) _
       refine oS (fun _ => XS.astore X3566.here hx rfl (hb hby at_129) rfl rfl (l' := #[iv in_1, iv in_2, iv in_3, iv in_4, iv in_5, iv in_2778, iv 2, iv in_2773, iv in_2774, iv in_2775, iv in_2776, iv 2, rv ob_2779, rv ob_3375, rv ob_3570, .unset, .unset, .unset]) rfl) ?_
       obtain ⟨T3589, h3590, X3591, e3592, E3593, A3594, D3595, U3598, s3596⟩ := newO X3566 hx hZ hown (oW hw 33 rfl) (oW hw 34 rfl) (oW hw 35 rfl) e3567 (g := (mkF m 131 #[iv in_1, iv in_2, iv in_3, iv in_4, iv in_5, iv in_2778, iv 2, iv in_2773, iv in_2774, iv in_2775, iv in_2776, iv 2, rv ob_2779, rv ob_3375, rv ob_3570, .unset, .unset, .unset] [])) rfl (hb hby at_131) (by decide) (by decide)
       obtain ⟨ob_3599, g3600⟩ : ∃ z, z = h3563.size := ⟨_, rfl⟩
       rw [← g3600] at A3594 D3595 U3598 s3596
       have z3601 := E3593.1
       have y3597 : @LT.lt Nat instLTNat ob_3599 h3590.size := A3594.lt
       refine oS s3596 ?_
       have R3602 : CHr Z own_EL s.vm h0 s.vm h3590 := R3585.trans (CHr.ext E3593 R3585.1)
       have F3603 : Fld Z h3590 ob_3599 "com/example/latente/latente/query/JpqlLexer$Token" "kind" "Lcom/example/latente/latente/query/JpqlLexer$Kind;" .null := D3595 (Or.inr (oW hw 46 rfl)) (ty := (.object "com/example/latente/latente/query/JpqlLexer$Kind")) (by decide)
       have F3604 : Fld Z h3590 ob_3599 "com/example/latente/latente/query/JpqlLexer$Token" "text" "Ljava/lang/String;" .null := D3595 (Or.inr (oW hw 48 rfl)) (ty := (.object "java/lang/String")) (by decide)
       have F3605 : Fld Z h3590 ob_3599 "com/example/latente/latente/query/JpqlLexer$Token" "position" "I" (.int 0) := D3595 (Or.inr (oW hw 50 rfl)) (ty := .int) (by decide)
       show own_G p e below (T3589.setTop (mkF m 134 #[iv in_1, iv in_2, iv in_3, iv in_4, iv in_5, iv in_2778, iv 2, iv in_2773, iv in_2774, iv in_2775, iv in_2776, iv 2, rv ob_2779, rv ob_3375, rv ob_3570, .unset, .unset, .unset] [(.ref ob_3599)])) _
       refine oS (fun _ => XS.dup X3591.here hx rfl (hb hby at_134) rfl rfl) ?_
       refine oS (fun _ => XS.aload X3591.here hx rfl (hb hby at_135) rfl rfl) ?_
       refine oS (fun _ => XS.aload X3591.here hx rfl (hb hby at_137) rfl rfl) ?_
       refine oS (fun _ => XS.iload X3591.here hx rfl (hb hby at_139) rfl) ?_
       show own_G p e below (T3589.setTop (mkF m 141 #[iv in_1, iv in_2, iv in_3, iv in_4, iv in_5, iv in_2778, iv 2, iv in_2773, iv in_2774, iv in_2775, iv in_2776, iv 2, rv ob_2779, rv ob_3375, rv ob_3570, .unset, .unset, .unset] [(.int in_5), (.ref ob_3375), (.ref ob_2779), (.ref ob_3599), (.ref ob_3599)])) _
       have N3606 : n0 ≤ ob_3599 := by omega
       have O3607 : Old Z n0 h3563 := O3560.keep K3574 all0
       have O3608 : Old Z n0 h3590 := O3607.ext E3593
       have Z3609 : n0 ≤ h3590.size := by omega
       obtain ⟨T3610, h3611, v3612, L3613, X3614, e3615, q3616, s3617⟩ := own_callN X3591 hx hZ hown e3592 (y := (⟨"com/example/latente/latente/query/JpqlLexer$Token", "<init>", "(Lcom/example/latente/latente/query/JpqlLexer$Kind;Ljava/lang/String;I)V"⟩ : MethodName)) (b := ob_3599) rfl (oW hw 36 rfl) (oW hw 37 rfl) (oW hw 35 rfl) (oW hw 38 rfl) (by decide) (W := 1) (own_rm11 l Z a0 hw [] ob_3599 ob_2779 ob_3375 in_5 h3590 n0 Z3609 O3608 F3603 A3594 N3606 F3604 F3605) (by decide) (by decide) (by decide) (by decide) (g := (mkF m 141 #[iv in_1, iv in_2, iv in_3, iv in_4, iv in_5, iv in_2778, iv 2, iv in_2773, iv in_2774, iv in_2775, iv in_2776, iv 2, rv ob_2779, rv ob_3375, rv ob_3570, .unset, .unset, .unset] [(.int in_5), (.ref ob_3375), (.ref ob_2779), (.ref ob_3599), (.ref ob_3599)])) rfl (by rw [hml]; rfl) (argsL := [(.ref ob_2779), (.ref ob_3375), (.int in_5)]) (rest := [(.ref ob_3599)]) rfl (lenOf own_pd4 rfl) rfl (by show 2 * 0 + _ ≤ _; exact Nat.le_of_eq rfl) (hb hby at_141)
       refine oS s3617 ?_
       obtain ⟨rfl, N3618, K3619, F3620, F3621, F3622, F3623⟩ := q3616
       have N3624 := Fr.app N3584 N3618
       have S3625 : Safe Z own_EL s.vm h3590 ob_3599 := Safe.exa hZ.alike A3594 (by decide) (by decide)
       have R3626 : CHr Z own_EL s.vm h0 s.vm h3611 := R3602.trans (CHr.keep K3619 (sfS S3625 sf0) R3602.1)
       have z3627 := K3619.1
       show own_G p e below (T3610.setTop (mkF m 144 #[iv in_1, iv in_2, iv in_3, iv in_4, iv in_5, iv in_2778, iv 2, iv in_2773, iv in_2774, iv in_2775, iv in_2776, iv 2, rv ob_2779, rv ob_3375, rv ob_3570, .unset, .unset, .unset] [(.ref ob_3599)])) _
       refine oS (fun _ => XS.astore X3614.here hx rfl (hb hby at_144) rfl rfl (l' := #[iv in_1, iv in_2, iv in_3, iv in_4, iv in_5, iv in_2778, iv 2, iv in_2773, iv in_2774, iv in_2775, iv in_2776, iv 2, rv ob_2779, rv ob_3375, rv ob_3570, rv ob_3599, .unset, .unset]) rfl) ?_
       refine oS (fun _ => XS.aload X3614.here hx rfl (hb hby at_146) rfl rfl) ?_
       refine oS (fun _ => XS.aload X3614.here hx rfl (hb hby at_148) rfl rfl) ?_
       have O3628 : Old Z n0 h3611 := O3608.keep K3619 (allS N3606 all0)
       have Z3629 : n0 ≤ h3611.size := by omega
       obtain ⟨T3630, h3631, v3632, L3633, X3634, e3635, q3636, s3637⟩ := own_callV X3614 hx hZ hown e3615 (y := (⟨"com/example/latente/latente/query/JpqlLexer$Token", "isSymbol", "(Ljava/lang/String;)Z"⟩ : MethodName)) (z := (⟨"com/example/latente/latente/query/JpqlLexer$Token", "isSymbol", "(Ljava/lang/String;)Z"⟩ : MethodName)) (C := "com/example/latente/latente/query/JpqlLexer$Token") (b := ob_3599) (oW hw 51 rfl) (oW hw 52 rfl) (notFace_of_selects (args := #[]) (mvT hZ (oW hw 54 rfl))) (oW hw 54 rfl) (oW hw 53 rfl) (oW hw 35 rfl) (oW hw 55 rfl) (by decide) F3622 (W := 0) (own_rm51 l Z a0 hw [] ob_3599 ob_3570 ob_2779 ob_9 h3611 n0 Z3629 O3628 F3620 I460 I2802) (by decide) (by decide) (by decide) (by decide) (g := (mkF m 150 #[iv in_1, iv in_2, iv in_3, iv in_4, iv in_5, iv in_2778, iv 2, iv in_2773, iv in_2774, iv in_2775, iv in_2776, iv 2, rv ob_2779, rv ob_3375, rv ob_3570, rv ob_3599, .unset, .unset] [(.ref ob_3570), (.ref ob_3599)])) rfl (by rw [hml]; rfl) (argsL := [(.ref ob_3570)]) (rest := []) rfl (lenOf own_pd7 rfl) rfl (by show 2 * 0 + _ ≤ _; exact Nat.le_of_eq rfl) (hb hby at_150)
       refine oS s3637 ?_
       obtain ⟨rfl, N3638, K3639⟩ := q3636
       have N3640 := Fr.app N3624 N3638
       have e3641 := e3635.trans K3639
       show own_G p e below (T3630.setTop (mkF m 153 #[iv in_1, iv in_2, iv in_3, iv in_4, iv in_5, iv in_2778, iv 2, iv in_2773, iv in_2774, iv in_2775, iv in_2776, iv 2, rv ob_2779, rv ob_3375, rv ob_3570, rv ob_3599, .unset, .unset] [(.int 0)])) _
       refine oS (fun _ => XS.istore X3634.here hx rfl (hb hby at_153) rfl (l' := #[iv in_1, iv in_2, iv in_3, iv in_4, iv in_5, iv in_2778, iv 2, iv in_2773, iv in_2774, iv in_2775, iv in_2776, iv 2, rv ob_2779, rv ob_3375, rv ob_3570, rv ob_3599, iv 0, .unset]) rfl) ?_
       refine oS (fun _ => XS.iload X3634.here hx rfl (hb hby at_155) rfl) ?_
       refine oS (fun _ => XS.iconst X3634.here hx rfl (hb hby at_157) ) ?_
       refine oS (fun _ => XS.icmpYes X3634.here hx rfl (pc0 := 158) (pc' := 198) rfl (hb hby at_158) rfl (XT.ii_ne_t I2801) (by decide) (by decide)) ?_
       show own_G p e below (T3630.setTop (mkF m 198 #[iv in_1, iv in_2, iv in_3, iv in_4, iv in_5, iv in_2778, iv 2, iv in_2773, iv in_2774, iv in_2775, iv in_2776, iv 2, rv ob_2779, rv ob_3375, rv ob_3570, rv ob_3599, iv 0, .unset] [])) _
       refine oS (fun _ => XS.iconst X3634.here hx rfl (hb hby at_198) ) ?_
       refine oS (fun _ => XS.istore X3634.here hx rfl (hb hby at_199) rfl (l' := #[iv in_1, iv in_2, iv in_3, iv in_4, iv in_5, iv in_2778, iv 2, iv in_2773, iv in_2774, iv in_2775, iv in_2776, iv 2, rv ob_2779, rv ob_3375, rv ob_3570, rv ob_3599, iv 0, iv 0]) rfl) ?_
       refine oS (fun _ => XS.iload X3634.here hx rfl (hb hby at_201) rfl) ?_
       refine oS (fun _ => XS.iload X3634.here hx rfl (hb hby at_203) rfl) ?_
       show own_G p e below (T3630.setTop (mkF m 205 #[iv in_1, iv in_2, iv in_3, iv in_4, iv in_5, iv in_2778, iv 2, iv in_2773, iv in_2774, iv in_2775, iv in_2776, iv 2, rv ob_2779, rv ob_3375, rv ob_3570, rv ob_3599, iv 0, iv 0] [(.int 0), (.int 0)])) _
       refine oS (fun _ => XS.icmpNo X3634.here hx rfl (hb hby at_205) rfl (XT.ii_ne_f (by decide))) ?_
       show own_G p e below (T3630.setTop (mkF m 208 #[iv in_1, iv in_2, iv in_3, iv in_4, iv in_5, iv in_2778, iv 2, iv in_2773, iv in_2774, iv in_2775, iv in_2776, iv 2, rv ob_2779, rv ob_3375, rv ob_3570, rv ob_3599, iv 0, iv 0] [])) _
       refine oS (fun _ => XS.iconst X3634.here hx rfl (hb hby at_208) ) ?_
       refine oS (fun _ => XS.goto X3634.here hx rfl (pc0 := 209) (pc' := 213) rfl (hb hby at_209) (by decide) (by decide)) ?_
       show own_G p e below (T3630.setTop (mkF m 213 #[iv in_1, iv in_2, iv in_3, iv in_4, iv in_5, iv in_2778, iv 2, iv in_2773, iv in_2774, iv in_2775, iv in_2776, iv 2, rv ob_2779, rv ob_3375, rv ob_3570, rv ob_3599, iv 0, iv 0] [(.int 1)])) _
       have K3642 : Keep h0 h3611 [] := (((((Keep.refl h0 []).trans K3379 all0).trans K3574 all0).ext E3593).trans K3619 (allS (Or.inr (by omega)) all0))
       exact own_retNW X3634 hx (t := .boolean) Bd.notSynchronized Bd.returns (by simp) (hb hby at_213) (by decide) hS hZ hEL hh R3626 e3641 (by omega) (by decide) (by decide) (⟨rfl, N3640⟩)
  have J3650 : ∀ (T3651 : State) (L3654 : List Loc) (X3652 : Stand p l e room_1 (s.setVm s.vm) m #[(.int in_1), (.int in_2), (.int in_3), (.int in_4), (.int in_5)] below meth c T3651 L3654 0 0) (e3653 : T3651.heap = h0) (N3655 : Fr n0 L3654) (in_3643 : Int32) (in_3644 : Int32) (in_3645 : Int32) (in_3646 : Int32) (in_3647 : Int32) (in_3648 : Int32) (in_3649 : Int32) (I3656 : 0 ≤ in_3643.toInt ∧ in_3643.toInt < 3) (I3657 : 0 ≤ in_3648.toInt ∧ in_3648.toInt < 3) (I3658 : ¬ (in_3644 < 0)) (I3659 : ¬ (255 < in_3644)) (I3660 : nar .char in_3644 = in_3644) (I3661 : ¬ (in_3645 < 0)) (I3662 : ¬ (255 < in_3645)) (I3663 : nar .char in_3645 = in_3645) (I3664 : ¬ (in_3646 < 0)) (I3665 : ¬ (255 < in_3646)) (I3666 : nar .char in_3646 = in_3646) (I3667 : ¬ (in_3647 < 0)) (I3668 : ¬ (255 < in_3647)) (I3669 : nar .char in_3647 = in_3647) (I3670 : 0 ≤ in_3649.toInt ∧ in_3649.toInt < 7), own_G p e below (T3651.setTop (mkF m 102 #[iv in_1, iv in_2, iv in_3, iv in_4, iv in_5, iv in_3649, iv in_3643, iv in_3644, iv in_3645, iv in_3646, iv in_3647, iv in_3648, .unset, .unset, .unset, .unset, .unset, .unset] [])) (own_PW Z own_EL s (own_Q1 Z in_1 in_2 in_3 in_4 in_5 ob_9 in_6 ob_8 ob_11 ob_13 ob_10 ob_14 ob_12 h0 n0) 24 1152) := by
   intro T3651 L3654 X3652 e3653 N3655 in_3643 in_3644 in_3645 in_3646 in_3647 in_3648 in_3649 I3656 I3657 I3658 I3659 I3660 I3661 I3662 I3663 I3664 I3665 I3666 I3667 I3668 I3669 I3670
   rcases own_in7 I3670 with q3671 | q3672 | q3673 | q3674 | q3675 | q3676 | q3677
   · skip
     refine own_cast (g' := (mkF m 102 #[iv in_1, iv in_2, iv in_3, iv in_4, iv in_5, iv 0, iv in_3643, iv in_3644, iv in_3645, iv in_3646, iv in_3647, iv in_3648, .unset, .unset, .unset, .unset, .unset, .unset] [])) (by rw [q3671]) ?_
     show own_G p e below (T3651.setTop (mkF m 102 #[iv in_1, iv in_2, iv in_3, iv in_4, iv in_5, iv 0, iv in_3643, iv in_3644, iv in_3645, iv in_3646, iv in_3647, iv in_3648, .unset, .unset, .unset, .unset, .unset, .unset] [])) _
     refine oS (fun _ => XS.iload X3652.here hx rfl (hb hby at_102) rfl) ?_
     obtain ⟨T3685, h3686, v3687, L3688, X3689, e3690, q3691, s3692⟩ := own_callS X3652 hx hZ hown e3653 (y := (⟨"com/example/latente/latente/query/TokenIsSymbolPinLaw", "kindOf", "(I)Lcom/example/latente/latente/query/JpqlLexer$Kind;"⟩ : MethodName)) (oW hw 1 rfl) (oW hw 2 rfl) (oW hw 3 rfl) (oW hw 4 rfl) (by decide) (W := 0) (own_rm52 l Z a0 hw [] ob_8 h0 n0 Z0 O0 I3678) (by decide) (by decide) (by decide) (by decide) (g := (mkF m 104 #[iv in_1, iv in_2, iv in_3, iv in_4, iv in_5, iv 0, iv in_3643, iv in_3644, iv in_3645, iv in_3646, iv in_3647, iv in_3648, .unset, .unset, .unset, .unset, .unset, .unset] [(.int 0)])) rfl (by rw [hml]; rfl) (argsL := [(.int 0)]) (rest := []) rfl (lenOf own_pd15 rfl) rfl (by show 2 * 0 + _ ≤ _; exact Nat.le_of_eq rfl) (hb hby at_104)
     refine oS s3692 ?_
     obtain ⟨rfl, N3693, K3694⟩ := q3691
     have N3695 := Fr.app N3655 N3693
     have e3696 := e3690.trans K3694
     show own_G p e below (T3685.setTop (mkF m 107 #[iv in_1, iv in_2, iv in_3, iv in_4, iv in_5, iv 0, iv in_3643, iv in_3644, iv in_3645, iv in_3646, iv in_3647, iv in_3648, .unset, .unset, .unset, .unset, .unset, .unset] [(.ref ob_8)])) _
     refine oS (fun _ => XS.astore X3689.here hx rfl (hb hby at_107) rfl rfl (l' := #[iv in_1, iv in_2, iv in_3, iv in_4, iv in_5, iv 0, iv in_3643, iv in_3644, iv in_3645, iv in_3646, iv in_3647, iv in_3648, rv ob_8, .unset, .unset, .unset, .unset, .unset]) rfl) ?_
     have F3698 : Fld Z h0 ob_8 "java/lang/Enum" "ordinal" "I" (.int 0) := Fld.ext O0.2 I3697
     have F3700 : Fld Z h0 ob_9 "java/lang/Enum" "ordinal" "I" (.int 5) := Fld.ext O0.2 I3699
     have N3701 : ob_8 ≠ ob_9 := Fld.ne F3698 F3700 (by decide)
     exact J2780 T3685 _ X3689 e3696 N3695 in_3643 in_3644 in_3645 in_3646 in_3647 in_3648 0 ob_8 I3702 I3656 I3657 I3658 I3659 I3660 I3661 I3662 I3663 I3664 I3665 I3666 I3667 I3668 I3669 (by decide) N3701
   · skip
     refine own_cast (g' := (mkF m 102 #[iv in_1, iv in_2, iv in_3, iv in_4, iv in_5, iv 1, iv in_3643, iv in_3644, iv in_3645, iv in_3646, iv in_3647, iv in_3648, .unset, .unset, .unset, .unset, .unset, .unset] [])) (by rw [q3672]) ?_
     show own_G p e below (T3651.setTop (mkF m 102 #[iv in_1, iv in_2, iv in_3, iv in_4, iv in_5, iv 1, iv in_3643, iv in_3644, iv in_3645, iv in_3646, iv in_3647, iv in_3648, .unset, .unset, .unset, .unset, .unset, .unset] [])) _
     refine oS (fun _ => XS.iload X3652.here hx rfl (hb hby at_102) rfl) ?_
     obtain ⟨T3710, h3711, v3712, L3713, X3714, e3715, q3716, s3717⟩ := own_callS X3652 hx hZ hown e3653 (y := (⟨"com/example/latente/latente/query/TokenIsSymbolPinLaw", "kindOf", "(I)Lcom/example/latente/latente/query/JpqlLexer$Kind;"⟩ : MethodName)) (oW hw 1 rfl) (oW hw 2 rfl) (oW hw 3 rfl) (oW hw 4 rfl) (by decide) (W := 0) (own_rm53 l Z a0 hw [] ob_11 h0 n0 Z0 O0 I3703) (by decide) (by decide) (by decide) (by decide) (g := (mkF m 104 #[iv in_1, iv in_2, iv in_3, iv in_4, iv in_5, iv 1, iv in_3643, iv in_3644, iv in_3645, iv in_3646, iv in_3647, iv in_3648, .unset, .unset, .unset, .unset, .unset, .unset] [(.int 1)])) rfl (by rw [hml]; rfl) (argsL := [(.int 1)]) (rest := []) rfl (lenOf own_pd15 rfl) rfl (by show 2 * 0 + _ ≤ _; exact Nat.le_of_eq rfl) (hb hby at_104)
     refine oS s3717 ?_
     obtain ⟨rfl, N3718, K3719⟩ := q3716
     have N3720 := Fr.app N3655 N3718
     have e3721 := e3715.trans K3719
     show own_G p e below (T3710.setTop (mkF m 107 #[iv in_1, iv in_2, iv in_3, iv in_4, iv in_5, iv 1, iv in_3643, iv in_3644, iv in_3645, iv in_3646, iv in_3647, iv in_3648, .unset, .unset, .unset, .unset, .unset, .unset] [(.ref ob_11)])) _
     refine oS (fun _ => XS.astore X3714.here hx rfl (hb hby at_107) rfl rfl (l' := #[iv in_1, iv in_2, iv in_3, iv in_4, iv in_5, iv 1, iv in_3643, iv in_3644, iv in_3645, iv in_3646, iv in_3647, iv in_3648, rv ob_11, .unset, .unset, .unset, .unset, .unset]) rfl) ?_
     have F3723 : Fld Z h0 ob_11 "java/lang/Enum" "ordinal" "I" (.int 1) := Fld.ext O0.2 I3722
     have F3724 : Fld Z h0 ob_9 "java/lang/Enum" "ordinal" "I" (.int 5) := Fld.ext O0.2 I3699
     have N3725 : ob_11 ≠ ob_9 := Fld.ne F3723 F3724 (by decide)
     exact J2780 T3710 _ X3714 e3721 N3720 in_3643 in_3644 in_3645 in_3646 in_3647 in_3648 1 ob_11 I3726 I3656 I3657 I3658 I3659 I3660 I3661 I3662 I3663 I3664 I3665 I3666 I3667 I3668 I3669 (by decide) N3725
   · skip
     refine own_cast (g' := (mkF m 102 #[iv in_1, iv in_2, iv in_3, iv in_4, iv in_5, iv 2, iv in_3643, iv in_3644, iv in_3645, iv in_3646, iv in_3647, iv in_3648, .unset, .unset, .unset, .unset, .unset, .unset] [])) (by rw [q3673]) ?_
     show own_G p e below (T3651.setTop (mkF m 102 #[iv in_1, iv in_2, iv in_3, iv in_4, iv in_5, iv 2, iv in_3643, iv in_3644, iv in_3645, iv in_3646, iv in_3647, iv in_3648, .unset, .unset, .unset, .unset, .unset, .unset] [])) _
     refine oS (fun _ => XS.iload X3652.here hx rfl (hb hby at_102) rfl) ?_
     obtain ⟨T3734, h3735, v3736, L3737, X3738, e3739, q3740, s3741⟩ := own_callS X3652 hx hZ hown e3653 (y := (⟨"com/example/latente/latente/query/TokenIsSymbolPinLaw", "kindOf", "(I)Lcom/example/latente/latente/query/JpqlLexer$Kind;"⟩ : MethodName)) (oW hw 1 rfl) (oW hw 2 rfl) (oW hw 3 rfl) (oW hw 4 rfl) (by decide) (W := 0) (own_rm54 l Z a0 hw [] ob_13 h0 n0 Z0 O0 I3727) (by decide) (by decide) (by decide) (by decide) (g := (mkF m 104 #[iv in_1, iv in_2, iv in_3, iv in_4, iv in_5, iv 2, iv in_3643, iv in_3644, iv in_3645, iv in_3646, iv in_3647, iv in_3648, .unset, .unset, .unset, .unset, .unset, .unset] [(.int 2)])) rfl (by rw [hml]; rfl) (argsL := [(.int 2)]) (rest := []) rfl (lenOf own_pd15 rfl) rfl (by show 2 * 0 + _ ≤ _; exact Nat.le_of_eq rfl) (hb hby at_104)
     refine oS s3741 ?_
     obtain ⟨rfl, N3742, K3743⟩ := q3740
     have N3744 := Fr.app N3655 N3742
     have e3745 := e3739.trans K3743
     show own_G p e below (T3734.setTop (mkF m 107 #[iv in_1, iv in_2, iv in_3, iv in_4, iv in_5, iv 2, iv in_3643, iv in_3644, iv in_3645, iv in_3646, iv in_3647, iv in_3648, .unset, .unset, .unset, .unset, .unset, .unset] [(.ref ob_13)])) _
     refine oS (fun _ => XS.astore X3738.here hx rfl (hb hby at_107) rfl rfl (l' := #[iv in_1, iv in_2, iv in_3, iv in_4, iv in_5, iv 2, iv in_3643, iv in_3644, iv in_3645, iv in_3646, iv in_3647, iv in_3648, rv ob_13, .unset, .unset, .unset, .unset, .unset]) rfl) ?_
     have F3747 : Fld Z h0 ob_13 "java/lang/Enum" "ordinal" "I" (.int 2) := Fld.ext O0.2 I3746
     have F3748 : Fld Z h0 ob_9 "java/lang/Enum" "ordinal" "I" (.int 5) := Fld.ext O0.2 I3699
     have N3749 : ob_13 ≠ ob_9 := Fld.ne F3747 F3748 (by decide)
     exact J2780 T3734 _ X3738 e3745 N3744 in_3643 in_3644 in_3645 in_3646 in_3647 in_3648 2 ob_13 I3750 I3656 I3657 I3658 I3659 I3660 I3661 I3662 I3663 I3664 I3665 I3666 I3667 I3668 I3669 (by decide) N3749
   · skip
     refine own_cast (g' := (mkF m 102 #[iv in_1, iv in_2, iv in_3, iv in_4, iv in_5, iv 3, iv in_3643, iv in_3644, iv in_3645, iv in_3646, iv in_3647, iv in_3648, .unset, .unset, .unset, .unset, .unset, .unset] [])) (by rw [q3674]) ?_
     show own_G p e below (T3651.setTop (mkF m 102 #[iv in_1, iv in_2, iv in_3, iv in_4, iv in_5, iv 3, iv in_3643, iv in_3644, iv in_3645, iv in_3646, iv in_3647, iv in_3648, .unset, .unset, .unset, .unset, .unset, .unset] [])) _
     refine oS (fun _ => XS.iload X3652.here hx rfl (hb hby at_102) rfl) ?_
     obtain ⟨T3758, h3759, v3760, L3761, X3762, e3763, q3764, s3765⟩ := own_callS X3652 hx hZ hown e3653 (y := (⟨"com/example/latente/latente/query/TokenIsSymbolPinLaw", "kindOf", "(I)Lcom/example/latente/latente/query/JpqlLexer$Kind;"⟩ : MethodName)) (oW hw 1 rfl) (oW hw 2 rfl) (oW hw 3 rfl) (oW hw 4 rfl) (by decide) (W := 0) (own_rm55 l Z a0 hw [] ob_10 h0 n0 Z0 O0 I3751) (by decide) (by decide) (by decide) (by decide) (g := (mkF m 104 #[iv in_1, iv in_2, iv in_3, iv in_4, iv in_5, iv 3, iv in_3643, iv in_3644, iv in_3645, iv in_3646, iv in_3647, iv in_3648, .unset, .unset, .unset, .unset, .unset, .unset] [(.int 3)])) rfl (by rw [hml]; rfl) (argsL := [(.int 3)]) (rest := []) rfl (lenOf own_pd15 rfl) rfl (by show 2 * 0 + _ ≤ _; exact Nat.le_of_eq rfl) (hb hby at_104)
     refine oS s3765 ?_
     obtain ⟨rfl, N3766, K3767⟩ := q3764
     have N3768 := Fr.app N3655 N3766
     have e3769 := e3763.trans K3767
     show own_G p e below (T3758.setTop (mkF m 107 #[iv in_1, iv in_2, iv in_3, iv in_4, iv in_5, iv 3, iv in_3643, iv in_3644, iv in_3645, iv in_3646, iv in_3647, iv in_3648, .unset, .unset, .unset, .unset, .unset, .unset] [(.ref ob_10)])) _
     refine oS (fun _ => XS.astore X3762.here hx rfl (hb hby at_107) rfl rfl (l' := #[iv in_1, iv in_2, iv in_3, iv in_4, iv in_5, iv 3, iv in_3643, iv in_3644, iv in_3645, iv in_3646, iv in_3647, iv in_3648, rv ob_10, .unset, .unset, .unset, .unset, .unset]) rfl) ?_
     have F3771 : Fld Z h0 ob_10 "java/lang/Enum" "ordinal" "I" (.int 3) := Fld.ext O0.2 I3770
     have F3772 : Fld Z h0 ob_9 "java/lang/Enum" "ordinal" "I" (.int 5) := Fld.ext O0.2 I3699
     have N3773 : ob_10 ≠ ob_9 := Fld.ne F3771 F3772 (by decide)
     exact J2780 T3758 _ X3762 e3769 N3768 in_3643 in_3644 in_3645 in_3646 in_3647 in_3648 3 ob_10 I3774 I3656 I3657 I3658 I3659 I3660 I3661 I3662 I3663 I3664 I3665 I3666 I3667 I3668 I3669 (by decide) N3773
   · skip
     refine own_cast (g' := (mkF m 102 #[iv in_1, iv in_2, iv in_3, iv in_4, iv in_5, iv 4, iv in_3643, iv in_3644, iv in_3645, iv in_3646, iv in_3647, iv in_3648, .unset, .unset, .unset, .unset, .unset, .unset] [])) (by rw [q3675]) ?_
     show own_G p e below (T3651.setTop (mkF m 102 #[iv in_1, iv in_2, iv in_3, iv in_4, iv in_5, iv 4, iv in_3643, iv in_3644, iv in_3645, iv in_3646, iv in_3647, iv in_3648, .unset, .unset, .unset, .unset, .unset, .unset] [])) _
     refine oS (fun _ => XS.iload X3652.here hx rfl (hb hby at_102) rfl) ?_
     obtain ⟨T3782, h3783, v3784, L3785, X3786, e3787, q3788, s3789⟩ := own_callS X3652 hx hZ hown e3653 (y := (⟨"com/example/latente/latente/query/TokenIsSymbolPinLaw", "kindOf", "(I)Lcom/example/latente/latente/query/JpqlLexer$Kind;"⟩ : MethodName)) (oW hw 1 rfl) (oW hw 2 rfl) (oW hw 3 rfl) (oW hw 4 rfl) (by decide) (W := 0) (own_rm56 l Z a0 hw [] ob_14 h0 n0 Z0 O0 I3775) (by decide) (by decide) (by decide) (by decide) (g := (mkF m 104 #[iv in_1, iv in_2, iv in_3, iv in_4, iv in_5, iv 4, iv in_3643, iv in_3644, iv in_3645, iv in_3646, iv in_3647, iv in_3648, .unset, .unset, .unset, .unset, .unset, .unset] [(.int 4)])) rfl (by rw [hml]; rfl) (argsL := [(.int 4)]) (rest := []) rfl (lenOf own_pd15 rfl) rfl (by show 2 * 0 + _ ≤ _; exact Nat.le_of_eq rfl) (hb hby at_104)
     refine oS s3789 ?_
     obtain ⟨rfl, N3790, K3791⟩ := q3788
     have N3792 := Fr.app N3655 N3790
     have e3793 := e3787.trans K3791
     show own_G p e below (T3782.setTop (mkF m 107 #[iv in_1, iv in_2, iv in_3, iv in_4, iv in_5, iv 4, iv in_3643, iv in_3644, iv in_3645, iv in_3646, iv in_3647, iv in_3648, .unset, .unset, .unset, .unset, .unset, .unset] [(.ref ob_14)])) _
     refine oS (fun _ => XS.astore X3786.here hx rfl (hb hby at_107) rfl rfl (l' := #[iv in_1, iv in_2, iv in_3, iv in_4, iv in_5, iv 4, iv in_3643, iv in_3644, iv in_3645, iv in_3646, iv in_3647, iv in_3648, rv ob_14, .unset, .unset, .unset, .unset, .unset]) rfl) ?_
     have F3795 : Fld Z h0 ob_14 "java/lang/Enum" "ordinal" "I" (.int 4) := Fld.ext O0.2 I3794
     have F3796 : Fld Z h0 ob_9 "java/lang/Enum" "ordinal" "I" (.int 5) := Fld.ext O0.2 I3699
     have N3797 : ob_14 ≠ ob_9 := Fld.ne F3795 F3796 (by decide)
     exact J2780 T3782 _ X3786 e3793 N3792 in_3643 in_3644 in_3645 in_3646 in_3647 in_3648 4 ob_14 I3798 I3656 I3657 I3658 I3659 I3660 I3661 I3662 I3663 I3664 I3665 I3666 I3667 I3668 I3669 (by decide) N3797
   · skip
     refine own_cast (g' := (mkF m 102 #[iv in_1, iv in_2, iv in_3, iv in_4, iv in_5, iv 5, iv in_3643, iv in_3644, iv in_3645, iv in_3646, iv in_3647, iv in_3648, .unset, .unset, .unset, .unset, .unset, .unset] [])) (by rw [q3676]) ?_
     show own_G p e below (T3651.setTop (mkF m 102 #[iv in_1, iv in_2, iv in_3, iv in_4, iv in_5, iv 5, iv in_3643, iv in_3644, iv in_3645, iv in_3646, iv in_3647, iv in_3648, .unset, .unset, .unset, .unset, .unset, .unset] [])) _
     refine oS (fun _ => XS.iload X3652.here hx rfl (hb hby at_102) rfl) ?_
     obtain ⟨T3805, h3806, v3807, L3808, X3809, e3810, q3811, s3812⟩ := own_callS X3652 hx hZ hown e3653 (y := (⟨"com/example/latente/latente/query/TokenIsSymbolPinLaw", "kindOf", "(I)Lcom/example/latente/latente/query/JpqlLexer$Kind;"⟩ : MethodName)) (oW hw 1 rfl) (oW hw 2 rfl) (oW hw 3 rfl) (oW hw 4 rfl) (by decide) (W := 0) (own_rm57 l Z a0 hw [] ob_9 h0 n0 Z0 O0 I460) (by decide) (by decide) (by decide) (by decide) (g := (mkF m 104 #[iv in_1, iv in_2, iv in_3, iv in_4, iv in_5, iv 5, iv in_3643, iv in_3644, iv in_3645, iv in_3646, iv in_3647, iv in_3648, .unset, .unset, .unset, .unset, .unset, .unset] [(.int 5)])) rfl (by rw [hml]; rfl) (argsL := [(.int 5)]) (rest := []) rfl (lenOf own_pd15 rfl) rfl (by show 2 * 0 + _ ≤ _; exact Nat.le_of_eq rfl) (hb hby at_104)
     refine oS s3812 ?_
     obtain ⟨rfl, N3813, K3814⟩ := q3811
     have N3815 := Fr.app N3655 N3813
     have e3816 := e3810.trans K3814
     show own_G p e below (T3805.setTop (mkF m 107 #[iv in_1, iv in_2, iv in_3, iv in_4, iv in_5, iv 5, iv in_3643, iv in_3644, iv in_3645, iv in_3646, iv in_3647, iv in_3648, .unset, .unset, .unset, .unset, .unset, .unset] [(.ref ob_9)])) _
     refine oS (fun _ => XS.astore X3809.here hx rfl (hb hby at_107) rfl rfl (l' := #[iv in_1, iv in_2, iv in_3, iv in_4, iv in_5, iv 5, iv in_3643, iv in_3644, iv in_3645, iv in_3646, iv in_3647, iv in_3648, rv ob_9, .unset, .unset, .unset, .unset, .unset]) rfl) ?_
     exact J21 T3805 _ X3809 e3816 N3815 in_3643 in_3644 in_3645 in_3646 in_3647 in_3648 I3656 I3657 I3658 I3659 I3660 I3661 I3662 I3663 I3664 I3665 I3666 I3667 I3668 I3669
   · skip
     refine own_cast (g' := (mkF m 102 #[iv in_1, iv in_2, iv in_3, iv in_4, iv in_5, iv 6, iv in_3643, iv in_3644, iv in_3645, iv in_3646, iv in_3647, iv in_3648, .unset, .unset, .unset, .unset, .unset, .unset] [])) (by rw [q3677]) ?_
     show own_G p e below (T3651.setTop (mkF m 102 #[iv in_1, iv in_2, iv in_3, iv in_4, iv in_5, iv 6, iv in_3643, iv in_3644, iv in_3645, iv in_3646, iv in_3647, iv in_3648, .unset, .unset, .unset, .unset, .unset, .unset] [])) _
     refine oS (fun _ => XS.iload X3652.here hx rfl (hb hby at_102) rfl) ?_
     obtain ⟨T3824, h3825, v3826, L3827, X3828, e3829, q3830, s3831⟩ := own_callS X3652 hx hZ hown e3653 (y := (⟨"com/example/latente/latente/query/TokenIsSymbolPinLaw", "kindOf", "(I)Lcom/example/latente/latente/query/JpqlLexer$Kind;"⟩ : MethodName)) (oW hw 1 rfl) (oW hw 2 rfl) (oW hw 3 rfl) (oW hw 4 rfl) (by decide) (W := 0) (own_rm58 l Z a0 hw [] ob_12 h0 n0 Z0 O0 I3817) (by decide) (by decide) (by decide) (by decide) (g := (mkF m 104 #[iv in_1, iv in_2, iv in_3, iv in_4, iv in_5, iv 6, iv in_3643, iv in_3644, iv in_3645, iv in_3646, iv in_3647, iv in_3648, .unset, .unset, .unset, .unset, .unset, .unset] [(.int 6)])) rfl (by rw [hml]; rfl) (argsL := [(.int 6)]) (rest := []) rfl (lenOf own_pd15 rfl) rfl (by show 2 * 0 + _ ≤ _; exact Nat.le_of_eq rfl) (hb hby at_104)
     refine oS s3831 ?_
     obtain ⟨rfl, N3832, K3833⟩ := q3830
     have N3834 := Fr.app N3655 N3832
     have e3835 := e3829.trans K3833
     show own_G p e below (T3824.setTop (mkF m 107 #[iv in_1, iv in_2, iv in_3, iv in_4, iv in_5, iv 6, iv in_3643, iv in_3644, iv in_3645, iv in_3646, iv in_3647, iv in_3648, .unset, .unset, .unset, .unset, .unset, .unset] [(.ref ob_12)])) _
     refine oS (fun _ => XS.astore X3828.here hx rfl (hb hby at_107) rfl rfl (l' := #[iv in_1, iv in_2, iv in_3, iv in_4, iv in_5, iv 6, iv in_3643, iv in_3644, iv in_3645, iv in_3646, iv in_3647, iv in_3648, rv ob_12, .unset, .unset, .unset, .unset, .unset]) rfl) ?_
     have F3837 : Fld Z h0 ob_12 "java/lang/Enum" "ordinal" "I" (.int 6) := Fld.ext O0.2 I3836
     have F3838 : Fld Z h0 ob_9 "java/lang/Enum" "ordinal" "I" (.int 5) := Fld.ext O0.2 I3699
     have N3839 : ob_12 ≠ ob_9 := Fld.ne F3837 F3838 (by decide)
     exact J2780 T3824 _ X3828 e3835 N3834 in_3643 in_3644 in_3645 in_3646 in_3647 in_3648 6 ob_12 I3840 I3656 I3657 I3658 I3659 I3660 I3661 I3662 I3663 I3664 I3665 I3666 I3667 I3668 I3669 (by decide) N3839
  refine oS (fun _ => XS.iloadN X0.here hx rfl (hb hby at_0) rfl) ?_
  refine oS (fun _ => X0.ldcI hx hown (mvT hZ (oW hw 0 rfl)) rfl (hb hby at_1)) ?_
  show own_G p e below (s₁.setTop (mkF m 3 #[iv in_1, iv in_2, iv in_3, iv in_4, iv in_5, .unset, .unset, .unset, .unset, .unset, .unset, .unset, .unset, .unset, .unset, .unset, .unset, .unset] [(.int 2147483647), (.int in_1)])) _
  refine oS (fun _ => XS.iand X0.here hx rfl (hb hby at_3) rfl) ?_
  refine oS (fun _ => XS.bipush X0.here hx rfl (hb hby at_4) ) ?_
  refine oS (fun _ => iremM X0 hx rfl (hb hby at_6) rfl (by decide)) ?_
  show own_G p e below (s₁.setTop (mkF m 7 #[iv in_1, iv in_2, iv in_3, iv in_4, iv in_5, .unset, .unset, .unset, .unset, .unset, .unset, .unset, .unset, .unset, .unset, .unset, .unset, .unset] [(.int ((in_1 &&& 2147483647) % 7))])) _
  obtain ⟨in_3841, q3842, b3843⟩ := own_nm in_1 7 (by decide)
  refine own_cast (g' := (mkF m 7 #[iv in_1, iv in_2, iv in_3, iv in_4, iv in_5, .unset, .unset, .unset, .unset, .unset, .unset, .unset, .unset, .unset, .unset, .unset, .unset, .unset] [(.int in_3841)])) (by rw [q3842]) ?_
  refine oS (fun _ => XS.istore X0.here hx rfl (hb hby at_7) rfl (l' := #[iv in_1, iv in_2, iv in_3, iv in_4, iv in_5, iv in_3841, .unset, .unset, .unset, .unset, .unset, .unset, .unset, .unset, .unset, .unset, .unset, .unset]) rfl) ?_
  refine oS (fun _ => XS.iloadN X0.here hx rfl (hb hby at_9) rfl) ?_
  refine oS (fun _ => XS.bipush X0.here hx rfl (hb hby at_10) ) ?_
  refine oS (fun _ => XT.iushr X0.here hx rfl (hb hby at_12) rfl) ?_
  show own_G p e below (s₁.setTop (mkF m 13 #[iv in_1, iv in_2, iv in_3, iv in_4, iv in_5, iv in_3841, .unset, .unset, .unset, .unset, .unset, .unset, .unset, .unset, .unset, .unset, .unset, .unset] [(.int (XT.ushr in_4 8))])) _
  refine oS (fun _ => XS.bipush X0.here hx rfl (hb hby at_13) ) ?_
  refine oS (fun _ => XS.iand X0.here hx rfl (hb hby at_15) rfl) ?_
  refine oS (fun _ => XS.iconst X0.here hx rfl (hb hby at_16) ) ?_
  refine oS (fun _ => iremM X0 hx rfl (hb hby at_17) rfl (by decide)) ?_
  show own_G p e below (s₁.setTop (mkF m 18 #[iv in_1, iv in_2, iv in_3, iv in_4, iv in_5, iv in_3841, .unset, .unset, .unset, .unset, .unset, .unset, .unset, .unset, .unset, .unset, .unset, .unset] [(.int (((XT.ushr in_4 8) &&& 127) % 3))])) _
  obtain ⟨in_3844, q3845, b3846⟩ := own_nq (XT.ushr in_4 8) 3 (by decide)
  refine own_cast (g' := (mkF m 18 #[iv in_1, iv in_2, iv in_3, iv in_4, iv in_5, iv in_3841, .unset, .unset, .unset, .unset, .unset, .unset, .unset, .unset, .unset, .unset, .unset, .unset] [(.int in_3844)])) (by rw [q3845]) ?_
  refine oS (fun _ => XS.istore X0.here hx rfl (hb hby at_18) rfl (l' := #[iv in_1, iv in_2, iv in_3, iv in_4, iv in_5, iv in_3841, iv in_3844, .unset, .unset, .unset, .unset, .unset, .unset, .unset, .unset, .unset, .unset, .unset]) rfl) ?_
  refine oS (fun _ => XS.iloadN X0.here hx rfl (hb hby at_20) rfl) ?_
  refine oS (fun _ => XS.sipush X0.here hx rfl (hb hby at_21) ) ?_
  refine oS (fun _ => XS.iand X0.here hx rfl (hb hby at_24) rfl) ?_
  show own_G p e below (s₁.setTop (mkF m 25 #[iv in_1, iv in_2, iv in_3, iv in_4, iv in_5, iv in_3841, iv in_3844, .unset, .unset, .unset, .unset, .unset, .unset, .unset, .unset, .unset, .unset, .unset] [(.int (in_2 &&& 255))])) _
  refine oS (fun _ => XT.i2c X0.here hx rfl (hb hby at_25) rfl) ?_
  show own_G p e below (s₁.setTop (mkF m 26 #[iv in_1, iv in_2, iv in_3, iv in_4, iv in_5, iv in_3841, iv in_3844, .unset, .unset, .unset, .unset, .unset, .unset, .unset, .unset, .unset, .unset, .unset] [(.int ((in_2 &&& 255).toUInt32.toUInt16.toUInt32.toInt32))])) _
  obtain ⟨in_3847, q3848, b3849, b3850, b3851⟩ := own_chr in_2
  refine own_cast (g' := (mkF m 26 #[iv in_1, iv in_2, iv in_3, iv in_4, iv in_5, iv in_3841, iv in_3844, .unset, .unset, .unset, .unset, .unset, .unset, .unset, .unset, .unset, .unset, .unset] [(.int in_3847)])) (by rw [q3848]) ?_
  refine oS (fun _ => XS.istore X0.here hx rfl (hb hby at_26) rfl (l' := #[iv in_1, iv in_2, iv in_3, iv in_4, iv in_5, iv in_3841, iv in_3844, iv in_3847, .unset, .unset, .unset, .unset, .unset, .unset, .unset, .unset, .unset, .unset]) rfl) ?_
  refine oS (fun _ => XS.iloadN X0.here hx rfl (hb hby at_28) rfl) ?_
  refine oS (fun _ => XS.bipush X0.here hx rfl (hb hby at_29) ) ?_
  refine oS (fun _ => XT.iushr X0.here hx rfl (hb hby at_31) rfl) ?_
  show own_G p e below (s₁.setTop (mkF m 32 #[iv in_1, iv in_2, iv in_3, iv in_4, iv in_5, iv in_3841, iv in_3844, iv in_3847, .unset, .unset, .unset, .unset, .unset, .unset, .unset, .unset, .unset, .unset] [(.int (XT.ushr in_2 8))])) _
  refine oS (fun _ => XS.sipush X0.here hx rfl (hb hby at_32) ) ?_
  refine oS (fun _ => XS.iand X0.here hx rfl (hb hby at_35) rfl) ?_
  refine oS (fun _ => XT.i2c X0.here hx rfl (hb hby at_36) rfl) ?_
  show own_G p e below (s₁.setTop (mkF m 37 #[iv in_1, iv in_2, iv in_3, iv in_4, iv in_5, iv in_3841, iv in_3844, iv in_3847, .unset, .unset, .unset, .unset, .unset, .unset, .unset, .unset, .unset, .unset] [(.int (((XT.ushr in_2 8) &&& 255).toUInt32.toUInt16.toUInt32.toInt32))])) _
  obtain ⟨in_3852, q3853, b3854, b3855, b3856⟩ := own_chr (XT.ushr in_2 8)
  refine own_cast (g' := (mkF m 37 #[iv in_1, iv in_2, iv in_3, iv in_4, iv in_5, iv in_3841, iv in_3844, iv in_3847, .unset, .unset, .unset, .unset, .unset, .unset, .unset, .unset, .unset, .unset] [(.int in_3852)])) (by rw [q3853]) ?_
  refine oS (fun _ => XS.istore X0.here hx rfl (hb hby at_37) rfl (l' := #[iv in_1, iv in_2, iv in_3, iv in_4, iv in_5, iv in_3841, iv in_3844, iv in_3847, iv in_3852, .unset, .unset, .unset, .unset, .unset, .unset, .unset, .unset, .unset]) rfl) ?_
  refine oS (fun _ => XS.iloadN X0.here hx rfl (hb hby at_39) rfl) ?_
  refine oS (fun _ => XS.iconst X0.here hx rfl (hb hby at_40) ) ?_
  refine oS (fun _ => XS.iand X0.here hx rfl (hb hby at_41) rfl) ?_
  show own_G p e below (s₁.setTop (mkF m 42 #[iv in_1, iv in_2, iv in_3, iv in_4, iv in_5, iv in_3841, iv in_3844, iv in_3847, iv in_3852, .unset, .unset, .unset, .unset, .unset, .unset, .unset, .unset, .unset] [(.int (in_4 &&& 2))])) _
  by_cases b3857 : (in_4 &&& 2) = 0
  · skip
    refine oS (fun _ => XS.ifYes X0.here hx rfl (pc0 := 42) (pc' := 50) rfl (hb hby at_42) rfl (XT.i0_eq_t b3857) (by decide) (by decide)) ?_
    show own_G p e below (s₁.setTop (mkF m 50 #[iv in_1, iv in_2, iv in_3, iv in_4, iv in_5, iv in_3841, iv in_3844, iv in_3847, iv in_3852, .unset, .unset, .unset, .unset, .unset, .unset, .unset, .unset, .unset] [])) _
    refine oS (fun _ => XS.iloadN X0.here hx rfl (hb hby at_50) rfl) ?_
    refine oS (fun _ => XS.sipush X0.here hx rfl (hb hby at_51) ) ?_
    refine oS (fun _ => XS.iand X0.here hx rfl (hb hby at_54) rfl) ?_
    refine oS (fun _ => XT.i2c X0.here hx rfl (hb hby at_55) rfl) ?_
    show own_G p e below (s₁.setTop (mkF m 56 #[iv in_1, iv in_2, iv in_3, iv in_4, iv in_5, iv in_3841, iv in_3844, iv in_3847, iv in_3852, .unset, .unset, .unset, .unset, .unset, .unset, .unset, .unset, .unset] [(.int ((in_3 &&& 255).toUInt32.toUInt16.toUInt32.toInt32))])) _
    obtain ⟨in_3858, q3859, b3860, b3861, b3862⟩ := own_chr in_3
    refine own_cast (g' := (mkF m 56 #[iv in_1, iv in_2, iv in_3, iv in_4, iv in_5, iv in_3841, iv in_3844, iv in_3847, iv in_3852, .unset, .unset, .unset, .unset, .unset, .unset, .unset, .unset, .unset] [(.int in_3858)])) (by rw [q3859]) ?_
    refine oS (fun _ => XS.istore X0.here hx rfl (hb hby at_56) rfl (l' := #[iv in_1, iv in_2, iv in_3, iv in_4, iv in_5, iv in_3841, iv in_3844, iv in_3847, iv in_3852, iv in_3858, .unset, .unset, .unset, .unset, .unset, .unset, .unset, .unset]) rfl) ?_
    refine oS (fun _ => XS.iloadN X0.here hx rfl (hb hby at_58) rfl) ?_
    refine oS (fun _ => XS.iconst X0.here hx rfl (hb hby at_59) ) ?_
    refine oS (fun _ => XS.iand X0.here hx rfl (hb hby at_60) rfl) ?_
    show own_G p e below (s₁.setTop (mkF m 61 #[iv in_1, iv in_2, iv in_3, iv in_4, iv in_5, iv in_3841, iv in_3844, iv in_3847, iv in_3852, iv in_3858, .unset, .unset, .unset, .unset, .unset, .unset, .unset, .unset] [(.int (in_4 &&& 4))])) _
    by_cases b3863 : (in_4 &&& 4) = 0
    · skip
      refine oS (fun _ => XS.ifYes X0.here hx rfl (pc0 := 61) (pc' := 69) rfl (hb hby at_61) rfl (XT.i0_eq_t b3863) (by decide) (by decide)) ?_
      show own_G p e below (s₁.setTop (mkF m 69 #[iv in_1, iv in_2, iv in_3, iv in_4, iv in_5, iv in_3841, iv in_3844, iv in_3847, iv in_3852, iv in_3858, .unset, .unset, .unset, .unset, .unset, .unset, .unset, .unset] [])) _
      refine oS (fun _ => XS.iloadN X0.here hx rfl (hb hby at_69) rfl) ?_
      refine oS (fun _ => XS.bipush X0.here hx rfl (hb hby at_70) ) ?_
      refine oS (fun _ => XT.iushr X0.here hx rfl (hb hby at_72) rfl) ?_
      refine oS (fun _ => XS.sipush X0.here hx rfl (hb hby at_73) ) ?_
      show own_G p e below (s₁.setTop (mkF m 76 #[iv in_1, iv in_2, iv in_3, iv in_4, iv in_5, iv in_3841, iv in_3844, iv in_3847, iv in_3852, iv in_3858, .unset, .unset, .unset, .unset, .unset, .unset, .unset, .unset] [(.int 255), (.int (XT.ushr in_3 8))])) _
      refine oS (fun _ => XS.iand X0.here hx rfl (hb hby at_76) rfl) ?_
      refine oS (fun _ => XT.i2c X0.here hx rfl (hb hby at_77) rfl) ?_
      show own_G p e below (s₁.setTop (mkF m 78 #[iv in_1, iv in_2, iv in_3, iv in_4, iv in_5, iv in_3841, iv in_3844, iv in_3847, iv in_3852, iv in_3858, .unset, .unset, .unset, .unset, .unset, .unset, .unset, .unset] [(.int (((XT.ushr in_3 8) &&& 255).toUInt32.toUInt16.toUInt32.toInt32))])) _
      obtain ⟨in_3864, q3865, b3866, b3867, b3868⟩ := own_chr (XT.ushr in_3 8)
      refine own_cast (g' := (mkF m 78 #[iv in_1, iv in_2, iv in_3, iv in_4, iv in_5, iv in_3841, iv in_3844, iv in_3847, iv in_3852, iv in_3858, .unset, .unset, .unset, .unset, .unset, .unset, .unset, .unset] [(.int in_3864)])) (by rw [q3865]) ?_
      refine oS (fun _ => XS.istore X0.here hx rfl (hb hby at_78) rfl (l' := #[iv in_1, iv in_2, iv in_3, iv in_4, iv in_5, iv in_3841, iv in_3844, iv in_3847, iv in_3852, iv in_3858, iv in_3864, .unset, .unset, .unset, .unset, .unset, .unset, .unset]) rfl) ?_
      refine oS (fun _ => XS.iloadN X0.here hx rfl (hb hby at_80) rfl) ?_
      refine oS (fun _ => XS.iconst X0.here hx rfl (hb hby at_81) ) ?_
      refine oS (fun _ => XS.iand X0.here hx rfl (hb hby at_82) rfl) ?_
      show own_G p e below (s₁.setTop (mkF m 83 #[iv in_1, iv in_2, iv in_3, iv in_4, iv in_5, iv in_3841, iv in_3844, iv in_3847, iv in_3852, iv in_3858, iv in_3864, .unset, .unset, .unset, .unset, .unset, .unset, .unset] [(.int (in_4 &&& 1))])) _
      by_cases b3869 : (in_4 &&& 1) = 0
      · skip
        refine oS (fun _ => XS.ifYes X0.here hx rfl (pc0 := 83) (pc' := 91) rfl (hb hby at_83) rfl (XT.i0_eq_t b3869) (by decide) (by decide)) ?_
        show own_G p e below (s₁.setTop (mkF m 91 #[iv in_1, iv in_2, iv in_3, iv in_4, iv in_5, iv in_3841, iv in_3844, iv in_3847, iv in_3852, iv in_3858, iv in_3864, .unset, .unset, .unset, .unset, .unset, .unset, .unset] [])) _
        refine oS (fun _ => XS.iloadN X0.here hx rfl (hb hby at_91) rfl) ?_
        refine oS (fun _ => XS.bipush X0.here hx rfl (hb hby at_92) ) ?_
        refine oS (fun _ => XT.iushr X0.here hx rfl (hb hby at_94) rfl) ?_
        refine oS (fun _ => XS.bipush X0.here hx rfl (hb hby at_95) ) ?_
        show own_G p e below (s₁.setTop (mkF m 97 #[iv in_1, iv in_2, iv in_3, iv in_4, iv in_5, iv in_3841, iv in_3844, iv in_3847, iv in_3852, iv in_3858, iv in_3864, .unset, .unset, .unset, .unset, .unset, .unset, .unset] [(.int 127), (.int (XT.ushr in_3 16))])) _
        refine oS (fun _ => XS.iand X0.here hx rfl (hb hby at_97) rfl) ?_
        refine oS (fun _ => XS.iconst X0.here hx rfl (hb hby at_98) ) ?_
        refine oS (fun _ => iremM X0 hx rfl (hb hby at_99) rfl (by decide)) ?_
        show own_G p e below (s₁.setTop (mkF m 100 #[iv in_1, iv in_2, iv in_3, iv in_4, iv in_5, iv in_3841, iv in_3844, iv in_3847, iv in_3852, iv in_3858, iv in_3864, .unset, .unset, .unset, .unset, .unset, .unset, .unset] [(.int (((XT.ushr in_3 16) &&& 127) % 3))])) _
        obtain ⟨in_3870, q3871, b3872⟩ := own_nq (XT.ushr in_3 16) 3 (by decide)
        refine own_cast (g' := (mkF m 100 #[iv in_1, iv in_2, iv in_3, iv in_4, iv in_5, iv in_3841, iv in_3844, iv in_3847, iv in_3852, iv in_3858, iv in_3864, .unset, .unset, .unset, .unset, .unset, .unset, .unset] [(.int in_3870)])) (by rw [q3871]) ?_
        refine oS (fun _ => XS.istore X0.here hx rfl (hb hby at_100) rfl (l' := #[iv in_1, iv in_2, iv in_3, iv in_4, iv in_5, iv in_3841, iv in_3844, iv in_3847, iv in_3852, iv in_3858, iv in_3864, iv in_3870, .unset, .unset, .unset, .unset, .unset, .unset]) rfl) ?_
        exact J3650 s₁ _ X0 e0 N0 in_3844 in_3847 in_3852 in_3858 in_3864 in_3870 in_3841 b3846 b3872 b3849 b3850 b3851 b3854 b3855 b3856 b3860 b3861 b3862 b3866 b3867 b3868 b3843
      · skip
        refine oS (fun _ => XS.ifNo X0.here hx rfl (hb hby at_83) rfl (XT.i0_eq_f b3869)) ?_
        show own_G p e below (s₁.setTop (mkF m 86 #[iv in_1, iv in_2, iv in_3, iv in_4, iv in_5, iv in_3841, iv in_3844, iv in_3847, iv in_3852, iv in_3858, iv in_3864, .unset, .unset, .unset, .unset, .unset, .unset, .unset] [])) _
        refine oS (fun _ => XS.iload X0.here hx rfl (hb hby at_86) rfl) ?_
        refine oS (fun _ => XS.goto X0.here hx rfl (pc0 := 88) (pc' := 100) rfl (hb hby at_88) (by decide) (by decide)) ?_
        show own_G p e below (s₁.setTop (mkF m 100 #[iv in_1, iv in_2, iv in_3, iv in_4, iv in_5, iv in_3841, iv in_3844, iv in_3847, iv in_3852, iv in_3858, iv in_3864, .unset, .unset, .unset, .unset, .unset, .unset, .unset] [(.int in_3844)])) _
        refine oS (fun _ => XS.istore X0.here hx rfl (hb hby at_100) rfl (l' := #[iv in_1, iv in_2, iv in_3, iv in_4, iv in_5, iv in_3841, iv in_3844, iv in_3847, iv in_3852, iv in_3858, iv in_3864, iv in_3844, .unset, .unset, .unset, .unset, .unset, .unset]) rfl) ?_
        exact J3650 s₁ _ X0 e0 N0 in_3844 in_3847 in_3852 in_3858 in_3864 in_3844 in_3841 b3846 b3846 b3849 b3850 b3851 b3854 b3855 b3856 b3860 b3861 b3862 b3866 b3867 b3868 b3843
    · skip
      refine oS (fun _ => XS.ifNo X0.here hx rfl (hb hby at_61) rfl (XT.i0_eq_f b3863)) ?_
      show own_G p e below (s₁.setTop (mkF m 64 #[iv in_1, iv in_2, iv in_3, iv in_4, iv in_5, iv in_3841, iv in_3844, iv in_3847, iv in_3852, iv in_3858, .unset, .unset, .unset, .unset, .unset, .unset, .unset, .unset] [])) _
      refine oS (fun _ => XS.iload X0.here hx rfl (hb hby at_64) rfl) ?_
      refine oS (fun _ => XS.goto X0.here hx rfl (pc0 := 66) (pc' := 78) rfl (hb hby at_66) (by decide) (by decide)) ?_
      show own_G p e below (s₁.setTop (mkF m 78 #[iv in_1, iv in_2, iv in_3, iv in_4, iv in_5, iv in_3841, iv in_3844, iv in_3847, iv in_3852, iv in_3858, .unset, .unset, .unset, .unset, .unset, .unset, .unset, .unset] [(.int in_3852)])) _
      refine oS (fun _ => XS.istore X0.here hx rfl (hb hby at_78) rfl (l' := #[iv in_1, iv in_2, iv in_3, iv in_4, iv in_5, iv in_3841, iv in_3844, iv in_3847, iv in_3852, iv in_3858, iv in_3852, .unset, .unset, .unset, .unset, .unset, .unset, .unset]) rfl) ?_
      refine oS (fun _ => XS.iloadN X0.here hx rfl (hb hby at_80) rfl) ?_
      refine oS (fun _ => XS.iconst X0.here hx rfl (hb hby at_81) ) ?_
      refine oS (fun _ => XS.iand X0.here hx rfl (hb hby at_82) rfl) ?_
      show own_G p e below (s₁.setTop (mkF m 83 #[iv in_1, iv in_2, iv in_3, iv in_4, iv in_5, iv in_3841, iv in_3844, iv in_3847, iv in_3852, iv in_3858, iv in_3852, .unset, .unset, .unset, .unset, .unset, .unset, .unset] [(.int (in_4 &&& 1))])) _
      by_cases b3873 : (in_4 &&& 1) = 0
      · skip
        refine oS (fun _ => XS.ifYes X0.here hx rfl (pc0 := 83) (pc' := 91) rfl (hb hby at_83) rfl (XT.i0_eq_t b3873) (by decide) (by decide)) ?_
        show own_G p e below (s₁.setTop (mkF m 91 #[iv in_1, iv in_2, iv in_3, iv in_4, iv in_5, iv in_3841, iv in_3844, iv in_3847, iv in_3852, iv in_3858, iv in_3852, .unset, .unset, .unset, .unset, .unset, .unset, .unset] [])) _
        refine oS (fun _ => XS.iloadN X0.here hx rfl (hb hby at_91) rfl) ?_
        refine oS (fun _ => XS.bipush X0.here hx rfl (hb hby at_92) ) ?_
        refine oS (fun _ => XT.iushr X0.here hx rfl (hb hby at_94) rfl) ?_
        refine oS (fun _ => XS.bipush X0.here hx rfl (hb hby at_95) ) ?_
        show own_G p e below (s₁.setTop (mkF m 97 #[iv in_1, iv in_2, iv in_3, iv in_4, iv in_5, iv in_3841, iv in_3844, iv in_3847, iv in_3852, iv in_3858, iv in_3852, .unset, .unset, .unset, .unset, .unset, .unset, .unset] [(.int 127), (.int (XT.ushr in_3 16))])) _
        refine oS (fun _ => XS.iand X0.here hx rfl (hb hby at_97) rfl) ?_
        refine oS (fun _ => XS.iconst X0.here hx rfl (hb hby at_98) ) ?_
        refine oS (fun _ => iremM X0 hx rfl (hb hby at_99) rfl (by decide)) ?_
        show own_G p e below (s₁.setTop (mkF m 100 #[iv in_1, iv in_2, iv in_3, iv in_4, iv in_5, iv in_3841, iv in_3844, iv in_3847, iv in_3852, iv in_3858, iv in_3852, .unset, .unset, .unset, .unset, .unset, .unset, .unset] [(.int (((XT.ushr in_3 16) &&& 127) % 3))])) _
        obtain ⟨in_3874, q3875, b3876⟩ := own_nq (XT.ushr in_3 16) 3 (by decide)
        refine own_cast (g' := (mkF m 100 #[iv in_1, iv in_2, iv in_3, iv in_4, iv in_5, iv in_3841, iv in_3844, iv in_3847, iv in_3852, iv in_3858, iv in_3852, .unset, .unset, .unset, .unset, .unset, .unset, .unset] [(.int in_3874)])) (by rw [q3875]) ?_
        refine oS (fun _ => XS.istore X0.here hx rfl (hb hby at_100) rfl (l' := #[iv in_1, iv in_2, iv in_3, iv in_4, iv in_5, iv in_3841, iv in_3844, iv in_3847, iv in_3852, iv in_3858, iv in_3852, iv in_3874, .unset, .unset, .unset, .unset, .unset, .unset]) rfl) ?_
        exact J3650 s₁ _ X0 e0 N0 in_3844 in_3847 in_3852 in_3858 in_3852 in_3874 in_3841 b3846 b3876 b3849 b3850 b3851 b3854 b3855 b3856 b3860 b3861 b3862 b3854 b3855 b3856 b3843
      · skip
        refine oS (fun _ => XS.ifNo X0.here hx rfl (hb hby at_83) rfl (XT.i0_eq_f b3873)) ?_
        show own_G p e below (s₁.setTop (mkF m 86 #[iv in_1, iv in_2, iv in_3, iv in_4, iv in_5, iv in_3841, iv in_3844, iv in_3847, iv in_3852, iv in_3858, iv in_3852, .unset, .unset, .unset, .unset, .unset, .unset, .unset] [])) _
        refine oS (fun _ => XS.iload X0.here hx rfl (hb hby at_86) rfl) ?_
        refine oS (fun _ => XS.goto X0.here hx rfl (pc0 := 88) (pc' := 100) rfl (hb hby at_88) (by decide) (by decide)) ?_
        show own_G p e below (s₁.setTop (mkF m 100 #[iv in_1, iv in_2, iv in_3, iv in_4, iv in_5, iv in_3841, iv in_3844, iv in_3847, iv in_3852, iv in_3858, iv in_3852, .unset, .unset, .unset, .unset, .unset, .unset, .unset] [(.int in_3844)])) _
        refine oS (fun _ => XS.istore X0.here hx rfl (hb hby at_100) rfl (l' := #[iv in_1, iv in_2, iv in_3, iv in_4, iv in_5, iv in_3841, iv in_3844, iv in_3847, iv in_3852, iv in_3858, iv in_3852, iv in_3844, .unset, .unset, .unset, .unset, .unset, .unset]) rfl) ?_
        exact J3650 s₁ _ X0 e0 N0 in_3844 in_3847 in_3852 in_3858 in_3852 in_3844 in_3841 b3846 b3846 b3849 b3850 b3851 b3854 b3855 b3856 b3860 b3861 b3862 b3854 b3855 b3856 b3843
  · skip
    refine oS (fun _ => XS.ifNo X0.here hx rfl (hb hby at_42) rfl (XT.i0_eq_f b3857)) ?_
    show own_G p e below (s₁.setTop (mkF m 45 #[iv in_1, iv in_2, iv in_3, iv in_4, iv in_5, iv in_3841, iv in_3844, iv in_3847, iv in_3852, .unset, .unset, .unset, .unset, .unset, .unset, .unset, .unset, .unset] [])) _
    refine oS (fun _ => XS.iload X0.here hx rfl (hb hby at_45) rfl) ?_
    refine oS (fun _ => XS.goto X0.here hx rfl (pc0 := 47) (pc' := 56) rfl (hb hby at_47) (by decide) (by decide)) ?_
    show own_G p e below (s₁.setTop (mkF m 56 #[iv in_1, iv in_2, iv in_3, iv in_4, iv in_5, iv in_3841, iv in_3844, iv in_3847, iv in_3852, .unset, .unset, .unset, .unset, .unset, .unset, .unset, .unset, .unset] [(.int in_3847)])) _
    refine oS (fun _ => XS.istore X0.here hx rfl (hb hby at_56) rfl (l' := #[iv in_1, iv in_2, iv in_3, iv in_4, iv in_5, iv in_3841, iv in_3844, iv in_3847, iv in_3852, iv in_3847, .unset, .unset, .unset, .unset, .unset, .unset, .unset, .unset]) rfl) ?_
    refine oS (fun _ => XS.iloadN X0.here hx rfl (hb hby at_58) rfl) ?_
    refine oS (fun _ => XS.iconst X0.here hx rfl (hb hby at_59) ) ?_
    refine oS (fun _ => XS.iand X0.here hx rfl (hb hby at_60) rfl) ?_
    show own_G p e below (s₁.setTop (mkF m 61 #[iv in_1, iv in_2, iv in_3, iv in_4, iv in_5, iv in_3841, iv in_3844, iv in_3847, iv in_3852, iv in_3847, .unset, .unset, .unset, .unset, .unset, .unset, .unset, .unset] [(.int (in_4 &&& 4))])) _
    by_cases b3877 : (in_4 &&& 4) = 0
    · skip
      refine oS (fun _ => XS.ifYes X0.here hx rfl (pc0 := 61) (pc' := 69) rfl (hb hby at_61) rfl (XT.i0_eq_t b3877) (by decide) (by decide)) ?_
      show own_G p e below (s₁.setTop (mkF m 69 #[iv in_1, iv in_2, iv in_3, iv in_4, iv in_5, iv in_3841, iv in_3844, iv in_3847, iv in_3852, iv in_3847, .unset, .unset, .unset, .unset, .unset, .unset, .unset, .unset] [])) _
      refine oS (fun _ => XS.iloadN X0.here hx rfl (hb hby at_69) rfl) ?_
      refine oS (fun _ => XS.bipush X0.here hx rfl (hb hby at_70) ) ?_
      refine oS (fun _ => XT.iushr X0.here hx rfl (hb hby at_72) rfl) ?_
      refine oS (fun _ => XS.sipush X0.here hx rfl (hb hby at_73) ) ?_
      show own_G p e below (s₁.setTop (mkF m 76 #[iv in_1, iv in_2, iv in_3, iv in_4, iv in_5, iv in_3841, iv in_3844, iv in_3847, iv in_3852, iv in_3847, .unset, .unset, .unset, .unset, .unset, .unset, .unset, .unset] [(.int 255), (.int (XT.ushr in_3 8))])) _
      refine oS (fun _ => XS.iand X0.here hx rfl (hb hby at_76) rfl) ?_
      refine oS (fun _ => XT.i2c X0.here hx rfl (hb hby at_77) rfl) ?_
      show own_G p e below (s₁.setTop (mkF m 78 #[iv in_1, iv in_2, iv in_3, iv in_4, iv in_5, iv in_3841, iv in_3844, iv in_3847, iv in_3852, iv in_3847, .unset, .unset, .unset, .unset, .unset, .unset, .unset, .unset] [(.int (((XT.ushr in_3 8) &&& 255).toUInt32.toUInt16.toUInt32.toInt32))])) _
      obtain ⟨in_3878, q3879, b3880, b3881, b3882⟩ := own_chr (XT.ushr in_3 8)
      refine own_cast (g' := (mkF m 78 #[iv in_1, iv in_2, iv in_3, iv in_4, iv in_5, iv in_3841, iv in_3844, iv in_3847, iv in_3852, iv in_3847, .unset, .unset, .unset, .unset, .unset, .unset, .unset, .unset] [(.int in_3878)])) (by rw [q3879]) ?_
      refine oS (fun _ => XS.istore X0.here hx rfl (hb hby at_78) rfl (l' := #[iv in_1, iv in_2, iv in_3, iv in_4, iv in_5, iv in_3841, iv in_3844, iv in_3847, iv in_3852, iv in_3847, iv in_3878, .unset, .unset, .unset, .unset, .unset, .unset, .unset]) rfl) ?_
      refine oS (fun _ => XS.iloadN X0.here hx rfl (hb hby at_80) rfl) ?_
      refine oS (fun _ => XS.iconst X0.here hx rfl (hb hby at_81) ) ?_
      refine oS (fun _ => XS.iand X0.here hx rfl (hb hby at_82) rfl) ?_
      show own_G p e below (s₁.setTop (mkF m 83 #[iv in_1, iv in_2, iv in_3, iv in_4, iv in_5, iv in_3841, iv in_3844, iv in_3847, iv in_3852, iv in_3847, iv in_3878, .unset, .unset, .unset, .unset, .unset, .unset, .unset] [(.int (in_4 &&& 1))])) _
      by_cases b3883 : (in_4 &&& 1) = 0
      · skip
        refine oS (fun _ => XS.ifYes X0.here hx rfl (pc0 := 83) (pc' := 91) rfl (hb hby at_83) rfl (XT.i0_eq_t b3883) (by decide) (by decide)) ?_
        show own_G p e below (s₁.setTop (mkF m 91 #[iv in_1, iv in_2, iv in_3, iv in_4, iv in_5, iv in_3841, iv in_3844, iv in_3847, iv in_3852, iv in_3847, iv in_3878, .unset, .unset, .unset, .unset, .unset, .unset, .unset] [])) _
        refine oS (fun _ => XS.iloadN X0.here hx rfl (hb hby at_91) rfl) ?_
        refine oS (fun _ => XS.bipush X0.here hx rfl (hb hby at_92) ) ?_
        refine oS (fun _ => XT.iushr X0.here hx rfl (hb hby at_94) rfl) ?_
        refine oS (fun _ => XS.bipush X0.here hx rfl (hb hby at_95) ) ?_
        show own_G p e below (s₁.setTop (mkF m 97 #[iv in_1, iv in_2, iv in_3, iv in_4, iv in_5, iv in_3841, iv in_3844, iv in_3847, iv in_3852, iv in_3847, iv in_3878, .unset, .unset, .unset, .unset, .unset, .unset, .unset] [(.int 127), (.int (XT.ushr in_3 16))])) _
        refine oS (fun _ => XS.iand X0.here hx rfl (hb hby at_97) rfl) ?_
        refine oS (fun _ => XS.iconst X0.here hx rfl (hb hby at_98) ) ?_
        refine oS (fun _ => iremM X0 hx rfl (hb hby at_99) rfl (by decide)) ?_
        show own_G p e below (s₁.setTop (mkF m 100 #[iv in_1, iv in_2, iv in_3, iv in_4, iv in_5, iv in_3841, iv in_3844, iv in_3847, iv in_3852, iv in_3847, iv in_3878, .unset, .unset, .unset, .unset, .unset, .unset, .unset] [(.int (((XT.ushr in_3 16) &&& 127) % 3))])) _
        obtain ⟨in_3884, q3885, b3886⟩ := own_nq (XT.ushr in_3 16) 3 (by decide)
        refine own_cast (g' := (mkF m 100 #[iv in_1, iv in_2, iv in_3, iv in_4, iv in_5, iv in_3841, iv in_3844, iv in_3847, iv in_3852, iv in_3847, iv in_3878, .unset, .unset, .unset, .unset, .unset, .unset, .unset] [(.int in_3884)])) (by rw [q3885]) ?_
        refine oS (fun _ => XS.istore X0.here hx rfl (hb hby at_100) rfl (l' := #[iv in_1, iv in_2, iv in_3, iv in_4, iv in_5, iv in_3841, iv in_3844, iv in_3847, iv in_3852, iv in_3847, iv in_3878, iv in_3884, .unset, .unset, .unset, .unset, .unset, .unset]) rfl) ?_
        exact J3650 s₁ _ X0 e0 N0 in_3844 in_3847 in_3852 in_3847 in_3878 in_3884 in_3841 b3846 b3886 b3849 b3850 b3851 b3854 b3855 b3856 b3849 b3850 b3851 b3880 b3881 b3882 b3843
      · skip
        refine oS (fun _ => XS.ifNo X0.here hx rfl (hb hby at_83) rfl (XT.i0_eq_f b3883)) ?_
        show own_G p e below (s₁.setTop (mkF m 86 #[iv in_1, iv in_2, iv in_3, iv in_4, iv in_5, iv in_3841, iv in_3844, iv in_3847, iv in_3852, iv in_3847, iv in_3878, .unset, .unset, .unset, .unset, .unset, .unset, .unset] [])) _
        refine oS (fun _ => XS.iload X0.here hx rfl (hb hby at_86) rfl) ?_
        refine oS (fun _ => XS.goto X0.here hx rfl (pc0 := 88) (pc' := 100) rfl (hb hby at_88) (by decide) (by decide)) ?_
        show own_G p e below (s₁.setTop (mkF m 100 #[iv in_1, iv in_2, iv in_3, iv in_4, iv in_5, iv in_3841, iv in_3844, iv in_3847, iv in_3852, iv in_3847, iv in_3878, .unset, .unset, .unset, .unset, .unset, .unset, .unset] [(.int in_3844)])) _
        refine oS (fun _ => XS.istore X0.here hx rfl (hb hby at_100) rfl (l' := #[iv in_1, iv in_2, iv in_3, iv in_4, iv in_5, iv in_3841, iv in_3844, iv in_3847, iv in_3852, iv in_3847, iv in_3878, iv in_3844, .unset, .unset, .unset, .unset, .unset, .unset]) rfl) ?_
        exact J3650 s₁ _ X0 e0 N0 in_3844 in_3847 in_3852 in_3847 in_3878 in_3844 in_3841 b3846 b3846 b3849 b3850 b3851 b3854 b3855 b3856 b3849 b3850 b3851 b3880 b3881 b3882 b3843
    · skip
      refine oS (fun _ => XS.ifNo X0.here hx rfl (hb hby at_61) rfl (XT.i0_eq_f b3877)) ?_
      show own_G p e below (s₁.setTop (mkF m 64 #[iv in_1, iv in_2, iv in_3, iv in_4, iv in_5, iv in_3841, iv in_3844, iv in_3847, iv in_3852, iv in_3847, .unset, .unset, .unset, .unset, .unset, .unset, .unset, .unset] [])) _
      refine oS (fun _ => XS.iload X0.here hx rfl (hb hby at_64) rfl) ?_
      refine oS (fun _ => XS.goto X0.here hx rfl (pc0 := 66) (pc' := 78) rfl (hb hby at_66) (by decide) (by decide)) ?_
      show own_G p e below (s₁.setTop (mkF m 78 #[iv in_1, iv in_2, iv in_3, iv in_4, iv in_5, iv in_3841, iv in_3844, iv in_3847, iv in_3852, iv in_3847, .unset, .unset, .unset, .unset, .unset, .unset, .unset, .unset] [(.int in_3852)])) _
      refine oS (fun _ => XS.istore X0.here hx rfl (hb hby at_78) rfl (l' := #[iv in_1, iv in_2, iv in_3, iv in_4, iv in_5, iv in_3841, iv in_3844, iv in_3847, iv in_3852, iv in_3847, iv in_3852, .unset, .unset, .unset, .unset, .unset, .unset, .unset]) rfl) ?_
      refine oS (fun _ => XS.iloadN X0.here hx rfl (hb hby at_80) rfl) ?_
      refine oS (fun _ => XS.iconst X0.here hx rfl (hb hby at_81) ) ?_
      refine oS (fun _ => XS.iand X0.here hx rfl (hb hby at_82) rfl) ?_
      show own_G p e below (s₁.setTop (mkF m 83 #[iv in_1, iv in_2, iv in_3, iv in_4, iv in_5, iv in_3841, iv in_3844, iv in_3847, iv in_3852, iv in_3847, iv in_3852, .unset, .unset, .unset, .unset, .unset, .unset, .unset] [(.int (in_4 &&& 1))])) _
      by_cases b3887 : (in_4 &&& 1) = 0
      · skip
        refine oS (fun _ => XS.ifYes X0.here hx rfl (pc0 := 83) (pc' := 91) rfl (hb hby at_83) rfl (XT.i0_eq_t b3887) (by decide) (by decide)) ?_
        show own_G p e below (s₁.setTop (mkF m 91 #[iv in_1, iv in_2, iv in_3, iv in_4, iv in_5, iv in_3841, iv in_3844, iv in_3847, iv in_3852, iv in_3847, iv in_3852, .unset, .unset, .unset, .unset, .unset, .unset, .unset] [])) _
        refine oS (fun _ => XS.iloadN X0.here hx rfl (hb hby at_91) rfl) ?_
        refine oS (fun _ => XS.bipush X0.here hx rfl (hb hby at_92) ) ?_
        refine oS (fun _ => XT.iushr X0.here hx rfl (hb hby at_94) rfl) ?_
        refine oS (fun _ => XS.bipush X0.here hx rfl (hb hby at_95) ) ?_
        show own_G p e below (s₁.setTop (mkF m 97 #[iv in_1, iv in_2, iv in_3, iv in_4, iv in_5, iv in_3841, iv in_3844, iv in_3847, iv in_3852, iv in_3847, iv in_3852, .unset, .unset, .unset, .unset, .unset, .unset, .unset] [(.int 127), (.int (XT.ushr in_3 16))])) _
        refine oS (fun _ => XS.iand X0.here hx rfl (hb hby at_97) rfl) ?_
        refine oS (fun _ => XS.iconst X0.here hx rfl (hb hby at_98) ) ?_
        refine oS (fun _ => iremM X0 hx rfl (hb hby at_99) rfl (by decide)) ?_
        show own_G p e below (s₁.setTop (mkF m 100 #[iv in_1, iv in_2, iv in_3, iv in_4, iv in_5, iv in_3841, iv in_3844, iv in_3847, iv in_3852, iv in_3847, iv in_3852, .unset, .unset, .unset, .unset, .unset, .unset, .unset] [(.int (((XT.ushr in_3 16) &&& 127) % 3))])) _
        obtain ⟨in_3888, q3889, b3890⟩ := own_nq (XT.ushr in_3 16) 3 (by decide)
        refine own_cast (g' := (mkF m 100 #[iv in_1, iv in_2, iv in_3, iv in_4, iv in_5, iv in_3841, iv in_3844, iv in_3847, iv in_3852, iv in_3847, iv in_3852, .unset, .unset, .unset, .unset, .unset, .unset, .unset] [(.int in_3888)])) (by rw [q3889]) ?_
        refine oS (fun _ => XS.istore X0.here hx rfl (hb hby at_100) rfl (l' := #[iv in_1, iv in_2, iv in_3, iv in_4, iv in_5, iv in_3841, iv in_3844, iv in_3847, iv in_3852, iv in_3847, iv in_3852, iv in_3888, .unset, .unset, .unset, .unset, .unset, .unset]) rfl) ?_
        exact J3650 s₁ _ X0 e0 N0 in_3844 in_3847 in_3852 in_3847 in_3852 in_3888 in_3841 b3846 b3890 b3849 b3850 b3851 b3854 b3855 b3856 b3849 b3850 b3851 b3854 b3855 b3856 b3843
      · skip
        refine oS (fun _ => XS.ifNo X0.here hx rfl (hb hby at_83) rfl (XT.i0_eq_f b3887)) ?_
        show own_G p e below (s₁.setTop (mkF m 86 #[iv in_1, iv in_2, iv in_3, iv in_4, iv in_5, iv in_3841, iv in_3844, iv in_3847, iv in_3852, iv in_3847, iv in_3852, .unset, .unset, .unset, .unset, .unset, .unset, .unset] [])) _
        refine oS (fun _ => XS.iload X0.here hx rfl (hb hby at_86) rfl) ?_
        refine oS (fun _ => XS.goto X0.here hx rfl (pc0 := 88) (pc' := 100) rfl (hb hby at_88) (by decide) (by decide)) ?_
        show own_G p e below (s₁.setTop (mkF m 100 #[iv in_1, iv in_2, iv in_3, iv in_4, iv in_5, iv in_3841, iv in_3844, iv in_3847, iv in_3852, iv in_3847, iv in_3852, .unset, .unset, .unset, .unset, .unset, .unset, .unset] [(.int in_3844)])) _
        refine oS (fun _ => XS.istore X0.here hx rfl (hb hby at_100) rfl (l' := #[iv in_1, iv in_2, iv in_3, iv in_4, iv in_5, iv in_3841, iv in_3844, iv in_3847, iv in_3852, iv in_3847, iv in_3852, iv in_3844, .unset, .unset, .unset, .unset, .unset, .unset]) rfl) ?_
        exact J3650 s₁ _ X0 e0 N0 in_3844 in_3847 in_3852 in_3847 in_3852 in_3844 in_3841 b3846 b3846 b3849 b3850 b3851 b3854 b3855 b3856 b3849 b3850 b3851 b3854 b3855 b3856 b3843
set_option maxRecDepth 65536 in
set_option maxHeartbeats 40000000 in
theorem comes_1 {Post : Tables → Env → Array Value → State → Outcome → State → Prop} (hpost : ∀ tb e args s v u, (limb_1_1.after args s (.returned v) u = true ∧ limb_1_2.after args s (.returned v) u = true ∧ True) → ReturnedEndW s (.returned v) u (Jvm.fieldLocs frame_1_writes args s ++ Jvm.arrayLocs frame_1_arrays args s ++ Jvm.staticLocs frame_1_statics s) 24 1152 → Post tb e args s (.returned v) u) :
    ArmFor flags0 classFile x code maxLocals ret World_1 tables_1 room_1 Calls_1 rest_1 Pre_1 Post := by
  intro l hfl _ _ p e ha hc hk s m args below hf hA hF happ hP
  obtain ⟨hcalls, hrest, hpre⟩ := hP
  obtain ⟨-, -, -, hnamed, -, -, -, hat⟩ := (Spec.applies_iff hf).mp happ
  obtain ⟨hg, hn⟩ := and_e (Cond.before_iff.mp (show (Jvm.Cond.and given_1 narrow_1).before args s = true from hpre))
  obtain ⟨g0, gg0⟩ := and_e hg
  obtain ⟨w0, w1, w2, w3, w4, rfl⟩ : ∃ w0 w1 w2 w3 w4 : Value, args = #[w0, w1, w2, w3, w4] := by
    have hs : args.size = 5 := by simpa [Cond.value, given_1] using g0
    obtain ⟨L⟩ := args
    match L, hs with
    | [w0, w1, w2, w3, w4], _ => exact ⟨w0, w1, w2, w3, w4, rfl⟩
  have hw := fun d (hd : d ∈ tables_1) => atoms_spec (ws := Jvm.Cond.code x code maxLocals ret :: tables_1) hat d (List.mem_cons_of_mem _ hd)
  obtain ⟨hsets, hown0⟩ := atoms_of _ (rest_1_c_eq ▸ (show rest_1_c.before _ s = true from hrest))
  have hfit : Fit s := fun {y c} hc i hi => by
    obtain ⟨ha, rfl⟩ := Array.getElem?_eq_some_iff.mp hc
    have q := List.all_eq_true.mp ((Array.all_eq_true_iff_forall_mem.mp hF) _ (Array.getElem_mem ha)) i (List.mem_range.mpr hi)
    simpa [Array.getElem?_eq_getElem hi] using q
  obtain ⟨ga0, gg1⟩ := and_e gg0
  obtain ⟨in_1, ea0⟩ := is_v ga0
  obtain rfl : w0 = (.int in_1) := Option.some.inj ea0
  obtain ⟨ga1, gg2⟩ := and_e gg1
  obtain ⟨in_2, ea1⟩ := is_v ga1
  obtain rfl : w1 = (.int in_2) := Option.some.inj ea1
  obtain ⟨ga2, gg3⟩ := and_e gg2
  obtain ⟨in_3, ea2⟩ := is_v ga2
  obtain rfl : w2 = (.int in_3) := Option.some.inj ea2
  obtain ⟨ga3, gg4⟩ := and_e gg3
  obtain ⟨in_4, ea3⟩ := is_v ga3
  obtain rfl : w3 = (.int in_4) := Option.some.inj ea3
  obtain ⟨in_5, ea4⟩ := is_v gg4
  obtain rfl : w4 = (.int in_5) := Option.some.inj ea4
  obtain ⟨c0, r0⟩ := and_e hn
  obtain ⟨c1, r1⟩ := and_e r0
  obtain ⟨c2, r2⟩ := and_e r1
  obtain ⟨c3, r3⟩ := and_e r2
  obtain ⟨c4, r4⟩ := and_e r3
  obtain ⟨c5, r5⟩ := and_e r4
  obtain ⟨c6, r6⟩ := and_e r5
  obtain ⟨c7, r7⟩ := and_e r6
  obtain ⟨c8, r8⟩ := and_e r7
  obtain ⟨c9, r9⟩ := and_e r8
  obtain ⟨c10, r10⟩ := and_e r9
  obtain ⟨c11, r11⟩ := and_e r10
  obtain ⟨c12, c13⟩ := and_e r11
  obtain ⟨in_6, ev_in_6⟩ := is_v (Cond.before_iff.mp (hsets _ (List.mem_of_getElem? (i := 1) rfl)))
  obtain ⟨va_7, ev_va_7, rf_va_7⟩ := isR_v (Cond.before_iff.mp (hsets _ (List.mem_of_getElem? (i := 8) rfl)))
  obtain ⟨ob_8, ev_ob_8⟩ := exa_v c0
  obtain ⟨ob_9, ev_ob_9⟩ := exa_v c1
  obtain ⟨ob_10, ev_ob_10⟩ := exa_v c4
  obtain ⟨ob_11, ev_ob_11⟩ := exa_v c6
  obtain ⟨ob_12, ev_ob_12⟩ := exa_v c8
  obtain ⟨ob_13, ev_ob_13⟩ := exa_v c10
  obtain ⟨ob_14, ev_ob_14⟩ := exa_v c12
  have hEL : EW s _ own_EL := (EW.cons (oW hw 25 rfl) (by decide) EW.nil)
  have hCH : CHv s own_EL s.vm s.heap := CHv.start hEL (fun p hp => hcalls.1 p hp) (hsets _ (List.mem_of_getElem? (i := 2) rfl)) (oW hw 26 rfl) (oW hw 12 rfl)
  obtain ⟨n, o, h1, h2, h3, _, L, rfl, ⟨rfl, N⟩, -, hq⟩ := own_rm1 l s _ hw hEL tables_1 in_1 in_2 in_3 in_4 in_5 ob_9 in_6 ob_8 ob_11 ob_13 ob_10 ob_14 ob_12 s.heap s.heap.size (Nat.le_refl _) (Old.start s) (Sta.start ev_ob_9 (Or.inr ⟨(oW hw 6 rfl), (oW hw 57 rfl)⟩)) (Sta.start ev_in_6 (Or.inl (hsets _ (List.mem_of_getElem? (i := 0) rfl)))) (gotF (Cond.eq_ints ev_in_6 (Term.int_eval 0)) (not_v (Cond.before_iff.mp (hsets _ (List.mem_of_getElem? (i := 2) rfl))))) (Sta.start ev_ob_8 (Or.inr ⟨(oW hw 6 rfl), (oW hw 7 rfl)⟩)) (own_fv ev_ob_8 (Term.int_eval 0) c2) (own_fv ev_ob_9 (Term.int_eval 5) c3) (Exa.start ev_ob_8 c0) (Sta.start ev_ob_11 (Or.inr ⟨(oW hw 6 rfl), (oW hw 85 rfl)⟩)) (own_fv ev_ob_11 (Term.int_eval 1) c7) (Exa.start ev_ob_11 c6) (Sta.start ev_ob_13 (Or.inr ⟨(oW hw 6 rfl), (oW hw 99 rfl)⟩)) (own_fv ev_ob_13 (Term.int_eval 2) c11) (Exa.start ev_ob_13 c10) (Sta.start ev_ob_10 (Or.inr ⟨(oW hw 6 rfl), (oW hw 59 rfl)⟩)) (own_fv ev_ob_10 (Term.int_eval 3) c5) (Exa.start ev_ob_10 c4) (Sta.start ev_ob_14 (Or.inr ⟨(oW hw 6 rfl), (oW hw 101 rfl)⟩)) (own_fv ev_ob_14 (Term.int_eval 4) c13) (Exa.start ev_ob_14 c12) (Sta.start ev_ob_12 (Or.inr ⟨(oW hw 6 rfl), (oW hw 87 rfl)⟩)) (own_fv ev_ob_12 (Term.int_eval 6) c9) (Exa.start ev_ob_12 c8) p e ha hc hk s m _ below hf ((Spec.applies_iff_loose hf).mp happ).1 ⟨rfl, State.Warmed39.refl s, rfl, hCH, fun _ q => nomatch q⟩ trivial
  refine ⟨n, _, h1, h2, h3, hpost _ _ _ _ _ _ ⟨Cond.after_iff.mpr rfl, Cond.after_iff.mpr (eq_i res_at (Term.int_eval (1)) rfl), trivial⟩ ⟨hq.1, hq.2.1, hq.2.2.1, (hq.2.2.2.sift fun y hy => Or.inr (N y hy)).mono (by decide) (by decide)⟩⟩
theorem main_1_1 : Claimed_1_1 := comes_1 fun _ _ _ _ _ _ h hF => ⟨h.1, hF⟩
theorem main_1_2 : Claimed_1_2 := comes_1 fun _ _ _ _ _ _ h hF => ⟨h.2.1, hF⟩
end Jvm.Pilot.@@N@@
namespace Jvm.Pilot.@@N@@
open Jvm Jvm.ClassFile Sem Op Lib Jvm.Free Jvm.Stand Jvm.Pilot.@@N@@.Jvm.D
/-! MADE BY PROGRAM (witnessworld.py) out of the Statement's table words and the real class files: 23 classes; the members and pool entries that the words name. The judged class is class 1, her method 3. -/
namespace start1
open Jvm.ClassFile
def u (s : String) : CpInfo := .utf8 (stringToUtf16 s)
/-- a pool by its gaps: so many unusable entries, then the entry; so many at the end -/
def gap : Nat → List CpInfo → List CpInfo
  | 0, r => r
  | n + 1, r => .unusable :: gap n r
def poolList (es : List (Nat × CpInfo)) (last : Nat) : List CpInfo := es.foldr (fun e r => gap e.1 (e.2 :: r)) (gap last [])
def pool (es : List (Nat × CpInfo)) (last : Nat) : Array CpInfo := ⟨poolList es last⟩
def fileOf (pool : Array CpInfo) (this : Nat) (attrs : Array Attribute := #[]) (ms : Array MethodInfo := #[]) (fl : Nat := 33) (sup : Nat := 0) (ifs : Array Nat := #[]) (fds : Array FieldInfo := #[]) : ClassFile where
  minorVersion := 0
  majorVersion := 65
  constantPool := pool
  accessFlags := fl
  thisClass := this
  superClass := sup
  interfaces := ifs
  fields := fds
  methods := ms
  attributes := attrs
def plain (name : String) (sup : Option ClassId) : Class where
  name := name
  kind := .ordinary
  loader := none
  accessFlags := 33
  super := sup
  interfaces := #[]
  cf := none
  fields := #[]
  methods := #[]
  instanceTypes := #[]
  staticTypes := #[]
  resolved := #[]
  callSites := []
  init := .initialized
  statics := none
  mirror := none

def pool0 : Array CpInfo := pool [(5, u "<init>"), (0, u "()V"), (1, .class_ 10), (1, u "java/lang/Object")] 113

def k0c0 : Code := { maxStack := 0, maxLocals := 1, code := object_method_1_code, exceptionTable := #[], attributes := #[] }
def k0m0 : Method := { name := "<init>", desc := "()V", sig := { parameters := [], returnType := none }, accessFlags := 1, code := some k0c0 }
/-- java/lang/Object -/
def k0 : Class := { plain "java/lang/Object" none with
  accessFlags := 33
  interfaces := #[]
  cf := some (fileOf pool0 8 #[] #[{ accessFlags := 1, nameIndex := 5, descriptorIndex := 6, attributes := #[] }] 33 0 #[] #[])
  fields := #[]
  methods := #[k0m0]
  instanceTypes := #[]
  staticTypes := #[]
  resolved := Array.replicate 124 none
  statics := none }

def pool1 : Array CpInfo := pool [(2, .class_ 4), (1, u "java/lang/Object"), (0, u "<init>"), (0, u "()V"), (0, .fieldref 8 9), (0, .class_ 10), (0, .nameAndType 11 12), (0, u "com/example/latente/latente/query/JpqlLexer$Kind"), (0, u "IDENTIFIER"), (0, u "Lcom/example/latente/latente/query/JpqlLexer$Kind;"), (0, .fieldref 8 14), (0, .nameAndType 15 12), (0, u "STRING"), (0, .fieldref 8 17), (0, .nameAndType 18 12), (0, u "NUMBER"), (0, .fieldref 8 20), (0, .nameAndType 21 12), (0, u "NAMED_PARAMETER"), (0, .fieldref 8 23), (0, .nameAndType 24 12), (0, u "POSITIONAL_PARAMETER"), (0, .fieldref 8 26), (0, .nameAndType 27 12), (0, u "SYMBOL"), (0, .fieldref 8 29), (0, .nameAndType 30 12), (0, u "END"), (0, .class_ 32), (0, u "java/lang/String"), (0, .methodref 31 34), (0, .nameAndType 5 35), (0, u "([C)V"), (0, .methodref 31 37), (0, .nameAndType 38 39), (0, u "valueOf"), (0, u "(C)Ljava/lang/String;"), (0, .integer 2147483647), (0, .methodref 42 43), (0, .class_ 44), (0, .nameAndType 45 46), (0, u "com/example/latente/latente/query/TokenIsSymbolPinLaw"), (0, u "kindOf"), (0, u "(I)Lcom/example/latente/latente/query/JpqlLexer$Kind;"), (0, .methodref 42 48), (0, .nameAndType 49 50), (0, u "str"), (0, u "(ICC)Ljava/lang/String;"), (0, .class_ 52), (0, u "com/example/latente/latente/query/JpqlLexer$Token"), (0, .methodref 51 54), (0, .nameAndType 5 55), (0, u "(Lcom/example/latente/latente/query/JpqlLexer$Kind;Ljava/lang/String;I)V"), (0, .methodref 51 57), (0, .nameAndType 58 59), (0, u "isSymbol"), (0, u "(Ljava/lang/String;)Z"), (3, u "law"), (0, u "(IIIII)Z")] 7

def k1m0 : Method := { name := "<init>", desc := "()V", sig := { parameters := [], returnType := none }, accessFlags := 1, code := none }
def k1c1 : Code := { maxStack := 2, maxLocals := 1, code := method_2_code, exceptionTable := #[], attributes := #[] }
def k1m1 : Method := { name := "kindOf", desc := "(I)Lcom/example/latente/latente/query/JpqlLexer$Kind;", sig := { parameters := [.int], returnType := some (.object "com/example/latente/latente/query/JpqlLexer$Kind") }, accessFlags := 10, code := some k1c1 }
def k1c2 : Code := { maxStack := 6, maxLocals := 3, code := method_3_code, exceptionTable := #[], attributes := #[] }
def k1m2 : Method := { name := "str", desc := "(ICC)Ljava/lang/String;", sig := { parameters := [.int, .char, .char], returnType := some (.object "java/lang/String") }, accessFlags := 10, code := some k1c2 }
def k1c3 : Code := { maxStack := 5, maxLocals := 18, code := code, exceptionTable := #[], attributes := #[] }
def k1m3 : Method := { name := "law", desc := "(IIIII)Z", sig := { parameters := [.int, .int, .int, .int, .int], returnType := some .boolean }, accessFlags := 9, code := some k1c3 }
/-- com/example/latente/latente/query/TokenIsSymbolPinLaw -/
def k1 : Class := { plain "com/example/latente/latente/query/TokenIsSymbolPinLaw" (some 0) with
  accessFlags := 49
  interfaces := #[]
  cf := some (fileOf pool1 42 #[] #[{ accessFlags := 1, nameIndex := 5, descriptorIndex := 6, attributes := #[] }, { accessFlags := 10, nameIndex := 45, descriptorIndex := 46, attributes := #[] }, { accessFlags := 10, nameIndex := 49, descriptorIndex := 50, attributes := #[] }, { accessFlags := 9, nameIndex := 63, descriptorIndex := 64, attributes := #[] }] 49 2 #[] #[])
  fields := #[]
  methods := #[k1m0, k1m1, k1m2, k1m3]
  instanceTypes := #[]
  staticTypes := #[]
  resolved := Array.replicate 72 none
  statics := none }

def pool2 : Array CpInfo := pool [(1, .class_ 2), (0, u "java/lang/constant/Constable"), (0, .class_ 4), (0, u "java/lang/Object")] 6

/-- java/lang/constant/Constable -/
def k2 : Class := { plain "java/lang/constant/Constable" (some 0) with
  accessFlags := 1537
  interfaces := #[]
  cf := some (fileOf pool2 1 #[] #[] 1537 3 #[] #[])
  fields := #[]
  methods := #[]
  instanceTypes := #[]
  staticTypes := #[]
  resolved := Array.replicate 11 none
  statics := none }

def pool3 : Array CpInfo := pool [(1, .class_ 2), (0, u "java/lang/Comparable"), (0, .class_ 4), (0, u "java/lang/Object")] 7

/-- java/lang/Comparable -/
def k3 : Class := { plain "java/lang/Comparable" (some 0) with
  accessFlags := 1537
  interfaces := #[]
  cf := some (fileOf pool3 1 #[] #[] 1537 3 #[] #[])
  fields := #[]
  methods := #[]
  instanceTypes := #[]
  staticTypes := #[]
  resolved := Array.replicate 12 none
  statics := none }

def pool4 : Array CpInfo := pool [(1, .class_ 2), (0, u "java/io/Serializable"), (0, .class_ 4), (0, u "java/lang/Object")] 2

/-- java/io/Serializable -/
def k4 : Class := { plain "java/io/Serializable" (some 0) with
  accessFlags := 1537
  interfaces := #[]
  cf := some (fileOf pool4 1 #[] #[] 1537 3 #[] #[])
  fields := #[]
  methods := #[]
  instanceTypes := #[]
  staticTypes := #[]
  resolved := Array.replicate 7 none
  statics := none }

def pool5 : Array CpInfo := pool [(2, .class_ 4), (1, u "java/lang/Enum"), (0, u "name"), (0, u "Ljava/lang/String;"), (2, u "ordinal"), (0, u "I"), (1, .class_ 14), (1, u "java/lang/Object"), (4, u "hash"), (86, .class_ 108), (1, u "java/lang/Enum$EnumDesc"), (2, .class_ 112), (0, u "java/lang/constant/Constable"), (0, .class_ 114), (0, u "java/lang/Comparable"), (0, .class_ 116), (0, u "java/io/Serializable")] 87

/-- java/lang/Enum -/
def k5 : Class := { plain "java/lang/Enum" (some 0) with
  accessFlags := 1057
  interfaces := #[2, 3, 4]
  cf := some (fileOf pool5 2 #[.nestMembers #[106]] #[] 1057 12 #[111, 113, 115] #[{ accessFlags := 18, nameIndex := 5, descriptorIndex := 6, attributes := #[] }, { accessFlags := 18, nameIndex := 9, descriptorIndex := 10, attributes := #[] }, { accessFlags := 2, nameIndex := 19, descriptorIndex := 10, attributes := #[] }])
  fields := #[{ name := "name", type := (.object "java/lang/String"), accessFlags := 18, slot := 0, constantValue := 0 }, { name := "ordinal", type := .int, accessFlags := 18, slot := 1, constantValue := 0 }, { name := "hash", type := .int, accessFlags := 2, slot := 2, constantValue := 0 }]
  methods := #[]
  instanceTypes := #[(.object "java/lang/String"), .int, .int]
  staticTypes := #[]
  resolved := Array.replicate 204 none
  statics := none }

def pool6 : Array CpInfo := pool [(1, .class_ 2), (0, u "com/example/latente/latente/query/JpqlLexer$Kind"), (2, u "IDENTIFIER"), (0, u "Lcom/example/latente/latente/query/JpqlLexer$Kind;"), (2, u "STRING"), (2, u "NUMBER"), (2, u "NAMED_PARAMETER"), (2, u "POSITIONAL_PARAMETER"), (2, u "SYMBOL"), (2, u "END"), (2, u "$VALUES"), (0, u "[Lcom/example/latente/latente/query/JpqlLexer$Kind;"), (6, .class_ 37), (1, u "java/lang/Enum"), (30, .class_ 69), (0, u "com/example/latente/latente/query/JpqlLexer")] 2

/-- com/example/latente/latente/query/JpqlLexer$Kind -/
def k6 : Class := { plain "com/example/latente/latente/query/JpqlLexer$Kind" (some 5) with
  accessFlags := 16432
  interfaces := #[]
  cf := some (fileOf pool6 1 #[.nestHost 68] #[] 16432 35 #[] #[{ accessFlags := 16409, nameIndex := 5, descriptorIndex := 6, attributes := #[] }, { accessFlags := 16409, nameIndex := 9, descriptorIndex := 6, attributes := #[] }, { accessFlags := 16409, nameIndex := 12, descriptorIndex := 6, attributes := #[] }, { accessFlags := 16409, nameIndex := 15, descriptorIndex := 6, attributes := #[] }, { accessFlags := 16409, nameIndex := 18, descriptorIndex := 6, attributes := #[] }, { accessFlags := 16409, nameIndex := 21, descriptorIndex := 6, attributes := #[] }, { accessFlags := 16409, nameIndex := 24, descriptorIndex := 6, attributes := #[] }, { accessFlags := 4122, nameIndex := 27, descriptorIndex := 28, attributes := #[] }])
  fields := #[{ name := "IDENTIFIER", type := (.object "com/example/latente/latente/query/JpqlLexer$Kind"), accessFlags := 16409, slot := 0, constantValue := 0 }, { name := "STRING", type := (.object "com/example/latente/latente/query/JpqlLexer$Kind"), accessFlags := 16409, slot := 1, constantValue := 0 }, { name := "NUMBER", type := (.object "com/example/latente/latente/query/JpqlLexer$Kind"), accessFlags := 16409, slot := 2, constantValue := 0 }, { name := "NAMED_PARAMETER", type := (.object "com/example/latente/latente/query/JpqlLexer$Kind"), accessFlags := 16409, slot := 3, constantValue := 0 }, { name := "POSITIONAL_PARAMETER", type := (.object "com/example/latente/latente/query/JpqlLexer$Kind"), accessFlags := 16409, slot := 4, constantValue := 0 }, { name := "SYMBOL", type := (.object "com/example/latente/latente/query/JpqlLexer$Kind"), accessFlags := 16409, slot := 5, constantValue := 0 }, { name := "END", type := (.object "com/example/latente/latente/query/JpqlLexer$Kind"), accessFlags := 16409, slot := 6, constantValue := 0 }, { name := "$VALUES", type := (.array (.object "com/example/latente/latente/query/JpqlLexer$Kind")), accessFlags := 4122, slot := 7, constantValue := 0 }]
  methods := #[]
  instanceTypes := #[(.object "java/lang/String"), .int, .int]
  staticTypes := #[(.object "com/example/latente/latente/query/JpqlLexer$Kind"), (.object "com/example/latente/latente/query/JpqlLexer$Kind"), (.object "com/example/latente/latente/query/JpqlLexer$Kind"), (.object "com/example/latente/latente/query/JpqlLexer$Kind"), (.object "com/example/latente/latente/query/JpqlLexer$Kind"), (.object "com/example/latente/latente/query/JpqlLexer$Kind"), (.object "com/example/latente/latente/query/JpqlLexer$Kind"), (.array (.object "com/example/latente/latente/query/JpqlLexer$Kind"))]
  resolved := Array.replicate 72 none
  statics := some 0 }

def pool7 : Array CpInfo := pool [(2, .class_ 4), (1, u "java/lang/CharSequence"), (42, .class_ 48), (0, u "java/lang/CharSequence$1CodePointIterator"), (10, .class_ 60), (0, u "java/lang/CharSequence$1CharIterator"), (5, .class_ 67), (0, u "java/lang/Object")] 63

/-- java/lang/CharSequence -/
def k7 : Class := { plain "java/lang/CharSequence" (some 0) with
  accessFlags := 1537
  interfaces := #[]
  cf := some (fileOf pool7 2 #[.nestMembers #[47, 59]] #[] 1537 66 #[] #[])
  fields := #[]
  methods := #[]
  instanceTypes := #[]
  staticTypes := #[]
  resolved := Array.replicate 131 none
  statics := none }

def pool8 : Array CpInfo := pool [(1, .class_ 2), (0, u "java/lang/constant/ConstantDesc"), (0, .class_ 4), (0, u "java/lang/Object")] 32

/-- java/lang/constant/ConstantDesc -/
def k8 : Class := { plain "java/lang/constant/ConstantDesc" (some 0) with
  accessFlags := 1537
  interfaces := #[]
  cf := some (fileOf pool8 1 #[] #[] 1537 3 #[] #[])
  fields := #[]
  methods := #[]
  instanceTypes := #[]
  staticTypes := #[]
  resolved := Array.replicate 37 none
  statics := none }

def pool9 : Array CpInfo := pool [(1, .methodref 2 3), (0, .class_ 4), (0, .nameAndType 5 6), (0, u "java/lang/Object"), (0, u "<init>"), (0, u "()V"), (0, .string 8), (0, u ""), (0, .fieldref 10 11), (0, .class_ 12), (0, .nameAndType 13 14), (0, u "java/lang/String"), (0, u "value"), (0, u "[B"), (0, .fieldref 10 16), (0, .nameAndType 17 18), (0, u "coder"), (0, u "B"), (2, u "hash"), (0, u "I"), (2, u "hashIsZero"), (0, u "Z"), (0, .methodref 10 28), (0, .nameAndType 5 29), (0, u "([CIILjava/lang/Void;)V"), (8, .fieldref 10 39), (0, .nameAndType 40 26), (0, u "COMPACT_STRINGS"), (1, .class_ 44), (1, u "java/lang/StringUTF16"), (0, u "compress"), (1, .methodref 42 48), (0, .nameAndType 49 50), (0, u "coderFromArrayLen"), (0, u "([BI)B"), (2, u "toBytes"), (53, .class_ 109), (1, u "java/lang/StringLatin1"), (67, .methodref 42 178), (0, .nameAndType 45 179), (0, u "([CII)[B"), (29, .methodref 10 210), (0, .nameAndType 5 211), (0, u "([BB)V"), (157, u "(C)Z"), (171, .methodref 107 542), (0, .nameAndType 543 544), (0, u "equals"), (0, u "([B[B)Z"), (28, u "(Ljava/lang/Object;)Z"), (1, .class_ 576), (0, u "java/lang/CharSequence"), (22, u "CASE_INSENSITIVE_ORDER"), (0, u "Ljava/util/Comparator;"), (181, u "valueOf"), (0, u "(C)Ljava/lang/String;"), (226, u "([C)V"), (4, .methodref 107 1016), (0, .nameAndType 1017 369), (0, u "canEncode"), (0, .methodref 107 1019), (0, .nameAndType 53 1020), (0, u "(C)[B"), (80, u "serialPersistentFields"), (0, u "[Ljava/io/ObjectStreamField;"), (0, .class_ 1104), (0, u "java/lang/String$CaseInsensitiveComparator"), (1, .class_ 1107), (0, u "java/io/Serializable"), (0, .class_ 1109), (0, u "java/lang/Comparable"), (0, .class_ 1111), (0, u "java/lang/constant/Constable"), (0, .class_ 1113), (0, u "java/lang/constant/ConstantDesc"), (2, u "serialVersionUID"), (0, u "J"), (3, u "REPL"), (0, u "C"), (2, u "LATIN1"), (1, u "UTF16")] 323

def k9m0 : Method := { name := "<init>", desc := "()V", sig := { parameters := [], returnType := none }, accessFlags := 1, code := none }
def k9c1 : Code := { maxStack := 5, maxLocals := 2, code := jdk_42_method_3_code, exceptionTable := #[], attributes := #[] }
def k9m1 : Method := { name := "<init>", desc := "([C)V", sig := { parameters := [(.array .char)], returnType := none }, accessFlags := 1, code := some k9c1 }
def k9c2 : Code := { maxStack := 2, maxLocals := 3, code := jdk_42_method_66_code, exceptionTable := #[], attributes := #[] }
def k9m2 : Method := { name := "equals", desc := "(Ljava/lang/Object;)Z", sig := { parameters := [(.object "java/lang/Object")], returnType := some .boolean }, accessFlags := 1, code := some k9c2 }
def k9c3 : Code := { maxStack := 4, maxLocals := 1, code := jdk_42_method_139_code, exceptionTable := #[], attributes := #[] }
def k9m3 : Method := { name := "valueOf", desc := "(C)Ljava/lang/String;", sig := { parameters := [.char], returnType := some (.object "java/lang/String") }, accessFlags := 9, code := some k9c3 }
def k9c4 : Code := { maxStack := 4, maxLocals := 6, code := jdk_42_method_149_code, exceptionTable := #[], attributes := #[] }
def k9m4 : Method := { name := "<init>", desc := "([CIILjava/lang/Void;)V", sig := { parameters := [(.array .char), .int, .int, (.object "java/lang/Void")], returnType := none }, accessFlags := 2, code := some k9c4 }
def k9c5 : Code := { maxStack := 2, maxLocals := 3, code := jdk_42_method_151_code, exceptionTable := #[], attributes := #[] }
def k9m5 : Method := { name := "<init>", desc := "([BB)V", sig := { parameters := [(.array .byte), .byte], returnType := none }, accessFlags := 0, code := some k9c5 }
/-- java/lang/String -/
def k9 : Class := { plain "java/lang/String" (some 0) with
  accessFlags := 49
  interfaces := #[4, 3, 7, 2, 8]
  cf := some (fileOf pool9 10 #[.nestMembers #[1103]] #[{ accessFlags := 1, nameIndex := 5, descriptorIndex := 6, attributes := #[] }, { accessFlags := 1, nameIndex := 5, descriptorIndex := 1010, attributes := #[] }, { accessFlags := 1, nameIndex := 543, descriptorIndex := 573, attributes := #[] }, { accessFlags := 9, nameIndex := 782, descriptorIndex := 783, attributes := #[] }, { accessFlags := 2, nameIndex := 5, descriptorIndex := 29, attributes := #[] }, { accessFlags := 0, nameIndex := 5, descriptorIndex := 211, attributes := #[] }] 49 2 #[1106, 1108, 575, 1110, 1112] #[{ accessFlags := 18, nameIndex := 13, descriptorIndex := 14, attributes := #[] }, { accessFlags := 18, nameIndex := 17, descriptorIndex := 18, attributes := #[] }, { accessFlags := 2, nameIndex := 21, descriptorIndex := 22, attributes := #[] }, { accessFlags := 2, nameIndex := 25, descriptorIndex := 26, attributes := #[] }, { accessFlags := 26, nameIndex := 1116, descriptorIndex := 1117, attributes := #[] }, { accessFlags := 24, nameIndex := 40, descriptorIndex := 26, attributes := #[] }, { accessFlags := 26, nameIndex := 1101, descriptorIndex := 1102, attributes := #[] }, { accessFlags := 26, nameIndex := 1121, descriptorIndex := 1122, attributes := #[] }, { accessFlags := 25, nameIndex := 599, descriptorIndex := 600, attributes := #[] }, { accessFlags := 24, nameIndex := 1125, descriptorIndex := 18, attributes := #[] }, { accessFlags := 24, nameIndex := 1127, descriptorIndex := 18, attributes := #[] }])
  fields := #[{ name := "value", type := (.array .byte), accessFlags := 18, slot := 0, constantValue := 0 }, { name := "coder", type := .byte, accessFlags := 18, slot := 1, constantValue := 0 }, { name := "hash", type := .int, accessFlags := 2, slot := 2, constantValue := 0 }, { name := "hashIsZero", type := .boolean, accessFlags := 2, slot := 3, constantValue := 0 }, { name := "serialVersionUID", type := .long, accessFlags := 26, slot := 0, constantValue := 0 }, { name := "COMPACT_STRINGS", type := .boolean, accessFlags := 24, slot := 1, constantValue := 0 }, { name := "serialPersistentFields", type := (.array (.object "java/io/ObjectStreamField")), accessFlags := 26, slot := 2, constantValue := 0 }, { name := "REPL", type := .char, accessFlags := 26, slot := 3, constantValue := 0 }, { name := "CASE_INSENSITIVE_ORDER", type := (.object "java/util/Comparator"), accessFlags := 25, slot := 4, constantValue := 0 }, { name := "LATIN1", type := .byte, accessFlags := 24, slot := 5, constantValue := 0 }, { name := "UTF16", type := .byte, accessFlags := 24, slot := 6, constantValue := 0 }]
  methods := #[k9m0, k9m1, k9m2, k9m3, k9m4, k9m5]
  instanceTypes := #[(.array .byte), .byte, .int, .boolean]
  staticTypes := #[.long, .boolean, (.array (.object "java/io/ObjectStreamField")), .char, (.object "java/util/Comparator"), .byte, .byte]
  resolved := Array.replicate 1451 none
  statics := some 1 }

def pool10 : Array CpInfo := pool [(1, .methodref 2 3), (0, .class_ 4), (0, .nameAndType 5 6), (0, u "java/lang/Object"), (0, u "<init>"), (0, u "()V"), (0, .class_ 8), (0, u "java/lang/Record")] 13

def k10c0 : Code := { maxStack := 1, maxLocals := 1, code := jdk_30_method_1_code, exceptionTable := #[], attributes := #[] }
def k10m0 : Method := { name := "<init>", desc := "()V", sig := { parameters := [], returnType := none }, accessFlags := 4, code := some k10c0 }
/-- java/lang/Record -/
def k10 : Class := { plain "java/lang/Record" (some 0) with
  accessFlags := 1057
  interfaces := #[]
  cf := some (fileOf pool10 7 #[] #[{ accessFlags := 4, nameIndex := 5, descriptorIndex := 6, attributes := #[] }] 1057 2 #[] #[])
  fields := #[]
  methods := #[k10m0]
  instanceTypes := #[]
  staticTypes := #[]
  resolved := Array.replicate 22 none
  statics := none }

def pool11 : Array CpInfo := pool [(1, .methodref 2 3), (0, .class_ 4), (0, .nameAndType 5 6), (0, u "java/lang/Record"), (0, u "<init>"), (0, u "()V"), (0, .fieldref 8 9), (0, .class_ 10), (0, .nameAndType 11 12), (0, u "com/example/latente/latente/query/JpqlLexer$Token"), (0, u "kind"), (0, u "Lcom/example/latente/latente/query/JpqlLexer$Kind;"), (0, .fieldref 8 14), (0, .nameAndType 15 16), (0, u "text"), (0, u "Ljava/lang/String;"), (0, .fieldref 8 18), (0, .nameAndType 19 20), (0, u "position"), (0, u "I"), (1, .class_ 24), (1, u "com/example/latente/latente/query/JpqlLexer$Kind"), (2, .class_ 29), (1, u "java/lang/String"), (1, u "(Ljava/lang/String;)Z"), (0, .fieldref 22 33), (0, .nameAndType 34 12), (0, u "SYMBOL"), (0, .methodref 27 36), (0, .nameAndType 37 38), (0, u "equals"), (0, u "(Ljava/lang/Object;)Z"), (31, u "(Lcom/example/latente/latente/query/JpqlLexer$Kind;Ljava/lang/String;I)V"), (5, u "isSymbol"), (6, .class_ 84), (0, u "com/example/latente/latente/query/JpqlLexer")] 34

def k11c0 : Code := { maxStack := 2, maxLocals := 4, code := prog_9_method_1_code, exceptionTable := #[], attributes := #[] }
def k11m0 : Method := { name := "<init>", desc := "(Lcom/example/latente/latente/query/JpqlLexer$Kind;Ljava/lang/String;I)V", sig := { parameters := [(.object "com/example/latente/latente/query/JpqlLexer$Kind"), (.object "java/lang/String"), .int], returnType := none }, accessFlags := 0, code := some k11c0 }
def k11c1 : Code := { maxStack := 2, maxLocals := 2, code := prog_9_method_3_code, exceptionTable := #[], attributes := #[] }
def k11m1 : Method := { name := "isSymbol", desc := "(Ljava/lang/String;)Z", sig := { parameters := [(.object "java/lang/String")], returnType := some .boolean }, accessFlags := 0, code := some k11c1 }
/-- com/example/latente/latente/query/JpqlLexer$Token -/
def k11 : Class := { plain "com/example/latente/latente/query/JpqlLexer$Token" (some 10) with
  accessFlags := 48
  interfaces := #[]
  cf := some (fileOf pool11 8 #[.nestHost 83] #[{ accessFlags := 0, nameIndex := 5, descriptorIndex := 70, attributes := #[] }, { accessFlags := 0, nameIndex := 76, descriptorIndex := 31, attributes := #[] }] 48 2 #[] #[{ accessFlags := 18, nameIndex := 11, descriptorIndex := 12, attributes := #[] }, { accessFlags := 18, nameIndex := 15, descriptorIndex := 16, attributes := #[] }, { accessFlags := 18, nameIndex := 19, descriptorIndex := 20, attributes := #[] }])
  fields := #[{ name := "kind", type := (.object "com/example/latente/latente/query/JpqlLexer$Kind"), accessFlags := 18, slot := 0, constantValue := 0 }, { name := "text", type := (.object "java/lang/String"), accessFlags := 18, slot := 1, constantValue := 0 }, { name := "position", type := .int, accessFlags := 18, slot := 2, constantValue := 0 }]
  methods := #[k11m0, k11m1]
  instanceTypes := #[(.object "com/example/latente/latente/query/JpqlLexer$Kind"), (.object "java/lang/String"), .int]
  staticTypes := #[]
  resolved := Array.replicate 119 none
  statics := none }

def pool12 : Array CpInfo := pool [(4, .class_ 6), (1, u "java/lang/Object"), (0, u "<init>"), (0, u "()V"), (5, .class_ 16), (1, u "java/lang/StringLatin1"), (73, u "canEncode"), (14, u "(C)Z"), (15, u "$assertionsDisabled"), (0, u "Z"), (98, .class_ 223), (1, u "java/lang/StringLatin1$LinesSpliterator"), (57, u "equals"), (0, u "([B[B)Z"), (97, u "toBytes"), (1, u "(C)[B"), (7, .class_ 391), (0, u "java/lang/StringLatin1$CharsSpliterator")] 3

def k12m0 : Method := { name := "<init>", desc := "()V", sig := { parameters := [], returnType := none }, accessFlags := 0, code := none }
def k12c1 : Code := { maxStack := 2, maxLocals := 1, code := jdk_43_method_3_code, exceptionTable := #[], attributes := #[] }
def k12m1 : Method := { name := "canEncode", desc := "(C)Z", sig := { parameters := [.char], returnType := some .boolean }, accessFlags := 9, code := some k12c1 }
def k12c2 : Code := { maxStack := 3, maxLocals := 3, code := jdk_43_method_13_code, exceptionTable := #[], attributes := #[] }
def k12m2 : Method := { name := "equals", desc := "([B[B)Z", sig := { parameters := [(.array .byte), (.array .byte)], returnType := some .boolean }, accessFlags := 9, code := some k12c2 }
def k12c3 : Code := { maxStack := 4, maxLocals := 1, code := jdk_43_method_46_code, exceptionTable := #[], attributes := #[] }
def k12m3 : Method := { name := "toBytes", desc := "(C)[B", sig := { parameters := [.char], returnType := some (.array .byte) }, accessFlags := 9, code := some k12c3 }
/-- java/lang/StringLatin1 -/
def k12 : Class := { plain "java/lang/StringLatin1" (some 0) with
  accessFlags := 48
  interfaces := #[]
  cf := some (fileOf pool12 14 #[.nestMembers #[390, 221]] #[{ accessFlags := 0, nameIndex := 7, descriptorIndex := 8, attributes := #[] }, { accessFlags := 9, nameIndex := 90, descriptorIndex := 105, attributes := #[] }, { accessFlags := 9, nameIndex := 281, descriptorIndex := 282, attributes := #[] }, { accessFlags := 9, nameIndex := 380, descriptorIndex := 382, attributes := #[] }] 48 4 #[] #[{ accessFlags := 4120, nameIndex := 121, descriptorIndex := 122, attributes := #[] }])
  fields := #[{ name := "$assertionsDisabled", type := .boolean, accessFlags := 4120, slot := 0, constantValue := 0 }]
  methods := #[k12m0, k12m1, k12m2, k12m3]
  instanceTypes := #[]
  staticTypes := #[.boolean]
  resolved := Array.replicate 395 none
  statics := none }

def pool13 : Array CpInfo := pool [(6, .class_ 8), (1, u "java/lang/Object"), (0, u "<init>"), (0, u "()V"), (1, .class_ 14), (1, u "java/lang/StringUTF16"), (31, u "$assertionsDisabled"), (0, u "Z"), (13, u "HI_BYTE_SHIFT"), (0, u "I"), (2, u "LO_BYTE_SHIFT"), (49, .methodref 12 116), (0, .nameAndType 117 118), (0, u "compress"), (0, u "([CI[BII)I"), (3, u "([CII)[B"), (138, u "coderFromArrayLen"), (0, u "([BI)B"), (106, .class_ 371), (1, u "java/lang/StringUTF16$LinesSpliterator"), (58, u "MAX_LENGTH"), (196, .class_ 628), (0, u "java/lang/StringUTF16$CodePointsSpliterator"), (0, .class_ 630), (0, u "java/lang/StringUTF16$CharsSpliterator")] 4

def k13m0 : Method := { name := "<init>", desc := "()V", sig := { parameters := [], returnType := none }, accessFlags := 0, code := none }
def k13c1 : Code := { maxStack := 2, maxLocals := 2, code := jdk_52_method_15_code, exceptionTable := #[], attributes := #[] }
def k13m1 : Method := { name := "coderFromArrayLen", desc := "([BI)B", sig := { parameters := [(.array .byte), .int], returnType := some .byte }, accessFlags := 8, code := some k13c1 }
def k13c2 : Code := { maxStack := 5, maxLocals := 6, code := jdk_52_method_16_code, exceptionTable := #[], attributes := #[] }
def k13m2 : Method := { name := "compress", desc := "([CII)[B", sig := { parameters := [(.array .char), .int, .int], returnType := some (.array .byte) }, accessFlags := 9, code := some k13c2 }
def k13c3 : Code := { maxStack := 3, maxLocals := 7, code := jdk_52_method_21_code, exceptionTable := #[], attributes := #[] }
def k13m3 : Method := { name := "compress", desc := "([CI[BII)I", sig := { parameters := [(.array .char), .int, (.array .byte), .int, .int], returnType := some .int }, accessFlags := 9, code := some k13c3 }
/-- java/lang/StringUTF16 -/
def k13 : Class := { plain "java/lang/StringUTF16" (some 0) with
  accessFlags := 48
  interfaces := #[]
  cf := some (fileOf pool13 12 #[.nestMembers #[627, 629, 369]] #[{ accessFlags := 0, nameIndex := 9, descriptorIndex := 10, attributes := #[] }, { accessFlags := 8, nameIndex := 261, descriptorIndex := 262, attributes := #[] }, { accessFlags := 9, nameIndex := 117, descriptorIndex := 122, attributes := #[] }, { accessFlags := 9, nameIndex := 117, descriptorIndex := 118, attributes := #[] }] 48 6 #[] #[{ accessFlags := 26, nameIndex := 61, descriptorIndex := 62, attributes := #[] }, { accessFlags := 26, nameIndex := 65, descriptorIndex := 62, attributes := #[] }, { accessFlags := 24, nameIndex := 430, descriptorIndex := 62, attributes := #[] }, { accessFlags := 4120, nameIndex := 46, descriptorIndex := 47, attributes := #[] }])
  fields := #[{ name := "HI_BYTE_SHIFT", type := .int, accessFlags := 26, slot := 0, constantValue := 0 }, { name := "LO_BYTE_SHIFT", type := .int, accessFlags := 26, slot := 1, constantValue := 0 }, { name := "MAX_LENGTH", type := .int, accessFlags := 24, slot := 2, constantValue := 0 }, { name := "$assertionsDisabled", type := .boolean, accessFlags := 4120, slot := 3, constantValue := 0 }]
  methods := #[k13m0, k13m1, k13m2, k13m3]
  instanceTypes := #[]
  staticTypes := #[.int, .int, .int, .boolean]
  resolved := Array.replicate 635 none
  statics := none }

def pool14 : Array CpInfo := pool [(2, .class_ 4), (1, u "java/lang/Object"), (0, u "<init>"), (0, u "()V"), (17, .class_ 26), (1, u "jdk/internal/util/Preconditions"), (28, .class_ 56), (0, u "jdk/internal/util/Preconditions$4"), (57, .class_ 115), (0, u "jdk/internal/util/Preconditions$1"), (7, u "SIOOBE_FORMATTER"), (0, u "Ljava/util/function/BiFunction;"), (0, .class_ 126), (0, u "jdk/internal/util/Preconditions$2"), (3, u "AIOOBE_FORMATTER"), (0, .class_ 132), (0, u "jdk/internal/util/Preconditions$3"), (3, u "IOOBE_FORMATTER")] 57

def k14m0 : Method := { name := "<init>", desc := "()V", sig := { parameters := [], returnType := none }, accessFlags := 1, code := none }
/-- jdk/internal/util/Preconditions -/
def k14 : Class := { plain "jdk/internal/util/Preconditions" (some 0) with
  accessFlags := 33
  interfaces := #[]
  cf := some (fileOf pool14 24 #[.nestMembers #[55, 131, 125, 114]] #[{ accessFlags := 1, nameIndex := 5, descriptorIndex := 6, attributes := #[] }] 33 2 #[] #[{ accessFlags := 25, nameIndex := 123, descriptorIndex := 124, attributes := #[] }, { accessFlags := 25, nameIndex := 130, descriptorIndex := 124, attributes := #[] }, { accessFlags := 25, nameIndex := 136, descriptorIndex := 124, attributes := #[] }])
  fields := #[{ name := "SIOOBE_FORMATTER", type := (.object "java/util/function/BiFunction"), accessFlags := 25, slot := 0, constantValue := 0 }, { name := "AIOOBE_FORMATTER", type := (.object "java/util/function/BiFunction"), accessFlags := 25, slot := 1, constantValue := 0 }, { name := "IOOBE_FORMATTER", type := (.object "java/util/function/BiFunction"), accessFlags := 25, slot := 2, constantValue := 0 }]
  methods := #[k14m0]
  instanceTypes := #[]
  staticTypes := #[(.object "java/util/function/BiFunction"), (.object "java/util/function/BiFunction"), (.object "java/util/function/BiFunction")]
  resolved := Array.replicate 194 none
  statics := some 2 }

def pool15 : Array CpInfo := pool [(9, u "<init>"), (6, .class_ 18), (1, u "java/lang/Object"), (0, u "()V"), (1, .class_ 23), (1, u "jdk/internal/util/ArraysSupport"), (0, u "LOG2_ARRAY_LONG_INDEX_SCALE"), (0, u "I"), (2, u "U"), (0, u "Ljdk/internal/misc/Unsafe;"), (8, u "BIG_ENDIAN"), (0, u "Z"), (8, u "LOG2_BYTE_BIT_SIZE"), (4, u "LOG2_ARRAY_INT_INDEX_SCALE"), (54, u "JLA"), (0, u "Ljdk/internal/access/JavaLangAccess;"), (11, u "LOG2_ARRAY_BOOLEAN_INDEX_SCALE"), (9, u "LOG2_ARRAY_BYTE_INDEX_SCALE"), (5, u "LOG2_ARRAY_CHAR_INDEX_SCALE"), (5, u "LOG2_ARRAY_SHORT_INDEX_SCALE"), (18, u "LOG2_ARRAY_FLOAT_INDEX_SCALE"), (24, u "LOG2_ARRAY_DOUBLE_INDEX_SCALE"), (89, u "T_BOOLEAN"), (2, u "T_CHAR"), (1, u "T_FLOAT"), (1, u "T_DOUBLE"), (1, u "T_BYTE"), (1, u "T_SHORT"), (1, u "T_INT"), (1, u "T_LONG"), (1, u "SOFT_MAX_ARRAY_LENGTH")] 83

def k15m0 : Method := { name := "<init>", desc := "()V", sig := { parameters := [], returnType := none }, accessFlags := 2, code := none }
/-- jdk/internal/util/ArraysSupport -/
def k15 : Class := { plain "jdk/internal/util/ArraysSupport" (some 0) with
  accessFlags := 33
  interfaces := #[]
  cf := some (fileOf pool15 21 #[] #[{ accessFlags := 2, nameIndex := 9, descriptorIndex := 19, attributes := #[] }] 33 16 #[] #[{ accessFlags := 24, nameIndex := 28, descriptorIndex := 29, attributes := #[] }, { accessFlags := 26, nameIndex := 38, descriptorIndex := 39, attributes := #[] }, { accessFlags := 25, nameIndex := 121, descriptorIndex := 25, attributes := #[] }, { accessFlags := 25, nameIndex := 131, descriptorIndex := 25, attributes := #[] }, { accessFlags := 25, nameIndex := 137, descriptorIndex := 25, attributes := #[] }, { accessFlags := 25, nameIndex := 143, descriptorIndex := 25, attributes := #[] }, { accessFlags := 25, nameIndex := 53, descriptorIndex := 25, attributes := #[] }, { accessFlags := 25, nameIndex := 24, descriptorIndex := 25, attributes := #[] }, { accessFlags := 25, nameIndex := 162, descriptorIndex := 25, attributes := #[] }, { accessFlags := 25, nameIndex := 187, descriptorIndex := 25, attributes := #[] }, { accessFlags := 26, nameIndex := 48, descriptorIndex := 25, attributes := #[] }, { accessFlags := 25, nameIndex := 277, descriptorIndex := 25, attributes := #[] }, { accessFlags := 25, nameIndex := 280, descriptorIndex := 25, attributes := #[] }, { accessFlags := 25, nameIndex := 282, descriptorIndex := 25, attributes := #[] }, { accessFlags := 25, nameIndex := 284, descriptorIndex := 25, attributes := #[] }, { accessFlags := 25, nameIndex := 286, descriptorIndex := 25, attributes := #[] }, { accessFlags := 25, nameIndex := 288, descriptorIndex := 25, attributes := #[] }, { accessFlags := 25, nameIndex := 290, descriptorIndex := 25, attributes := #[] }, { accessFlags := 25, nameIndex := 292, descriptorIndex := 25, attributes := #[] }, { accessFlags := 26, nameIndex := 108, descriptorIndex := 109, attributes := #[] }, { accessFlags := 25, nameIndex := 294, descriptorIndex := 25, attributes := #[] }])
  fields := #[{ name := "U", type := (.object "jdk/internal/misc/Unsafe"), accessFlags := 24, slot := 0, constantValue := 0 }, { name := "BIG_ENDIAN", type := .boolean, accessFlags := 26, slot := 1, constantValue := 0 }, { name := "LOG2_ARRAY_BOOLEAN_INDEX_SCALE", type := .int, accessFlags := 25, slot := 2, constantValue := 0 }, { name := "LOG2_ARRAY_BYTE_INDEX_SCALE", type := .int, accessFlags := 25, slot := 3, constantValue := 0 }, { name := "LOG2_ARRAY_CHAR_INDEX_SCALE", type := .int, accessFlags := 25, slot := 4, constantValue := 0 }, { name := "LOG2_ARRAY_SHORT_INDEX_SCALE", type := .int, accessFlags := 25, slot := 5, constantValue := 0 }, { name := "LOG2_ARRAY_INT_INDEX_SCALE", type := .int, accessFlags := 25, slot := 6, constantValue := 0 }, { name := "LOG2_ARRAY_LONG_INDEX_SCALE", type := .int, accessFlags := 25, slot := 7, constantValue := 0 }, { name := "LOG2_ARRAY_FLOAT_INDEX_SCALE", type := .int, accessFlags := 25, slot := 8, constantValue := 0 }, { name := "LOG2_ARRAY_DOUBLE_INDEX_SCALE", type := .int, accessFlags := 25, slot := 9, constantValue := 0 }, { name := "LOG2_BYTE_BIT_SIZE", type := .int, accessFlags := 26, slot := 10, constantValue := 0 }, { name := "T_BOOLEAN", type := .int, accessFlags := 25, slot := 11, constantValue := 0 }, { name := "T_CHAR", type := .int, accessFlags := 25, slot := 12, constantValue := 0 }, { name := "T_FLOAT", type := .int, accessFlags := 25, slot := 13, constantValue := 0 }, { name := "T_DOUBLE", type := .int, accessFlags := 25, slot := 14, constantValue := 0 }, { name := "T_BYTE", type := .int, accessFlags := 25, slot := 15, constantValue := 0 }, { name := "T_SHORT", type := .int, accessFlags := 25, slot := 16, constantValue := 0 }, { name := "T_INT", type := .int, accessFlags := 25, slot := 17, constantValue := 0 }, { name := "T_LONG", type := .int, accessFlags := 25, slot := 18, constantValue := 0 }, { name := "JLA", type := (.object "jdk/internal/access/JavaLangAccess"), accessFlags := 26, slot := 19, constantValue := 0 }, { name := "SOFT_MAX_ARRAY_LENGTH", type := .int, accessFlags := 25, slot := 20, constantValue := 0 }]
  methods := #[k15m0]
  instanceTypes := #[]
  staticTypes := #[(.object "jdk/internal/misc/Unsafe"), .boolean, .int, .int, .int, .int, .int, .int, .int, .int, .int, .int, .int, .int, .int, .int, .int, .int, .int, (.object "jdk/internal/access/JavaLangAccess"), .int]
  resolved := Array.replicate 378 none
  statics := none }

def pool16 : Array CpInfo := pool [(1, u "java/lang/Cloneable"), (0, .class_ 1), (0, u "java/lang/Object"), (0, .class_ 3)] 3

/-- java/lang/Cloneable -/
def k16 : Class := { plain "java/lang/Cloneable" (some 0) with
  accessFlags := 1537
  interfaces := #[]
  cf := some (fileOf pool16 2 #[] #[] 1537 4 #[] #[])
  fields := #[]
  methods := #[]
  instanceTypes := #[]
  staticTypes := #[]
  resolved := Array.replicate 8 none
  statics := none }

/-- the primitive byte -/
def k17 : Class := { plain "byte" none with kind := .primitive 'B', accessFlags := 0x411 }
/-- [B -/
def k18 : Class := { plain "[B" (some 0) with kind := .array 17 .byte, interfaces := #[16, 4], accessFlags := 1041 }

/-- the primitive char -/
def k19 : Class := { plain "char" none with kind := .primitive 'C', accessFlags := 0x411 }
/-- [C -/
def k20 : Class := { plain "[C" (some 0) with kind := .array 19 .char, interfaces := #[16, 4], accessFlags := 1041 }

/-- the primitive int -/
def k21 : Class := { plain "int" none with kind := .primitive 'I', accessFlags := 0x411 }
/-- [I -/
def k22 : Class := { plain "[I" (some 0) with kind := .array 21 .int, interfaces := #[16, 4], accessFlags := 1041 }

def heap : Heap := #[{ cls := 6, slots := #[.ref 3, .ref 6, .ref 8, .ref 5, .ref 9, .ref 4, .ref 7, .null], vm := .statics 6 },
  { cls := 9, slots := #[.long 0, .int 1, .null, .int 0, .null, .int 0, .int 0], vm := .statics 9 },
  { cls := 14, slots := #[.null, .null, .null], vm := .statics 14 },
  { cls := 6, slots := #[.null, .int 0, .int 0], vm := .none },
  { cls := 6, slots := #[.null, .int 5, .int 0], vm := .none },
  { cls := 6, slots := #[.null, .int 3, .int 0], vm := .none },
  { cls := 6, slots := #[.null, .int 1, .int 0], vm := .none },
  { cls := 6, slots := #[.null, .int 6, .int 0], vm := .none },
  { cls := 6, slots := #[.null, .int 2, .int 0], vm := .none },
  { cls := 6, slots := #[.null, .int 4, .int 0], vm := .none }]
def classes : Array Class := #[k0, k1, k2, k3, k4, k5, k6, k7, k8, k9, k10, k11, k12, k13, k14, k15, k16, k17, k18, k19, k20, k21, k22]
def interned : List (Array UInt16 × Addr) := []
def slotsUsed : Nat := 39
def theMethod : MethodId := ⟨1, 3⟩
def args0 : Array Value := #[.int 5, .int 65, .int 66, .int 7, .int 1]
def aboutOver (below : List Frame) : State where
  vm := { classes := classes, interned := interned.toArray }
  heap := heap
  slotsUsed := slotsUsed
  threads := #[{ frames := .invoking theMethod args0 :: below }]
def below0 : List Frame := [.native { method := ⟨0, 0⟩, args := #[] }]
def about1 : State := aboutOver below0
def p0 : Program := .bare "" "" ""
def e0 : Env := launch0.env 0 0 0
theorem w_frames : about1.frames = Frame.invoking theMethod args0 :: below0 := rfl
set_option maxRecDepth 65536 in
theorem w_args : argsFit about1.vm theMethod args0 = true := by decide +kernel
set_option maxRecDepth 65536 in
theorem w_heap : heapFits about1 = true := by decide +kernel
set_option maxRecDepth 65536 in
theorem w_runnable : about1.curStatus? = some .runnable := by decide +kernel
set_option maxRecDepth 65536 in
theorem w_alone : about1.alone = true := by decide +kernel
set_option maxRecDepth 65536 in
theorem w_named : about1.methodNamed? x = some theMethod := by decide +kernel
set_option maxRecDepth 65536 in
theorem w_hears : about1.hears theMethod below0 = true := by decide +kernel
set_option maxRecDepth 65536 in
theorem w_ripe : about1.ripe theMethod args0 below0 = true := by decide +kernel
theorem w_running : about1.status = .running := rfl
set_option maxRecDepth 65536 in
theorem w_room : about1.hasRoom e0.platform room_1 = true :=
  launch0.hasRoom_least _ room_1 (by decide +kernel) (by decide +kernel) (by decide +kernel) (by decide +kernel) (by decide +kernel) (by decide +kernel)
theorem allAtoms_all (ts : List Jvm.Cond) (a : Array Jvm.Value) (st : Jvm.State) : (allAtoms ts).before a st = ts.all (fun c => c.before a st) := by
  induction ts with
  | nil => rfl
  | cons c t ih =>
    show (Jvm.Cond.and c (allAtoms t)).before a st = _
    rw [Jvm.Cond.before_and, ih, List.all_cons]
def words1 : List Jvm.Cond := Jvm.Cond.code x code maxLocals ret :: tables_1
/-- a 'code' word, met by the world's own term for the bytes: nothing is compared byte by byte -/
theorem code_word {y : MethodName} {bytes : ByteArray} {mx : Nat} {rt : Option FieldType} {a : Array Value} {s : State} {m : MethodId} {meth : Method} {c : Code} (h1 : s.methodNamed? y = some m) (h2 : s.vm.method? m = some meth) (h3 : meth.code = some c) (h4 : c.code = bytes)
    (h5 : (c.maxLocals == mx && c.exceptionTable.isEmpty && decide (c.maxStack ≤ mostOperands) && decide (meth.sig.returnType = rt) && !meth.locks && decide (parseMethodDescriptor y.desc = some meth.sig)) = true) : (Jvm.Cond.code y bytes mx rt).before a s = true := by
  simp only [Bool.and_eq_true, beq_iff_eq, Bool.not_eq_true', decide_eq_true_eq] at h5
  obtain ⟨⟨⟨⟨⟨g1, g2⟩, g3⟩, g4⟩, g5⟩, g6⟩ := h5
  simp [Cond.before, Cond.holds, Cond.value, h1, h2, h3, h4, g1, g2, g3, g4, g5, g6]
def isCode : Jvm.Cond → Bool
  | .code _ _ _ _ => true
  | _ => false
theorem all_split {L : List Jvm.Cond} {P : Jvm.Cond → Bool} (h1 : L.all (fun c => isCode c || P c) = true) (h2 : ∀ c ∈ L.filter isCode, P c = true) : L.all P = true := by
  refine List.all_eq_true.mpr fun c hc => ?_
  have h := List.all_eq_true.mp h1 c hc
  rcases Bool.eq_false_or_eq_true (isCode c) with hi | hi
  · exact h2 c (List.mem_filter.mpr ⟨hc, hi⟩)
  · simpa [hi] using h
set_option maxRecDepth 65536 in
theorem w_c0 : (Jvm.Cond.code x code maxLocals ret).before args0 about1 = true := code_word (m := ⟨1, 3⟩) (meth := k1m3) (c := k1c3) (by decide +kernel) rfl rfl rfl (by decide +kernel)
set_option maxRecDepth 65536 in
theorem w_c1 : (Jvm.Cond.code ({ cls := "com/example/latente/latente/query/TokenIsSymbolPinLaw", name := "kindOf", desc := "(I)Lcom/example/latente/latente/query/JpqlLexer$Kind;" } : Jvm.MethodName) method_2_code (1 : Nat) (Option.some (Jvm.ClassFile.FieldType.object "com/example/latente/latente/query/JpqlLexer$Kind"))).before args0 about1 = true := code_word (m := ⟨1, 1⟩) (meth := k1m1) (c := k1c1) (by decide +kernel) rfl rfl rfl (by decide +kernel)
set_option maxRecDepth 65536 in
theorem w_c2 : (Jvm.Cond.code ({ cls := "com/example/latente/latente/query/TokenIsSymbolPinLaw", name := "str", desc := "(ICC)Ljava/lang/String;" } : Jvm.MethodName) method_3_code (3 : Nat) (Option.some (Jvm.ClassFile.FieldType.object "java/lang/String"))).before args0 about1 = true := code_word (m := ⟨1, 2⟩) (meth := k1m2) (c := k1c2) (by decide +kernel) rfl rfl rfl (by decide +kernel)
set_option maxRecDepth 65536 in
theorem w_c3 : (Jvm.Cond.code ({ cls := "java/lang/String", name := "<init>", desc := "([C)V" } : Jvm.MethodName) jdk_42_method_3_code (2 : Nat) (Option.none : Option Jvm.ClassFile.FieldType)).before args0 about1 = true := code_word (m := ⟨9, 1⟩) (meth := k9m1) (c := k9c1) (by decide +kernel) rfl rfl rfl (by decide +kernel)
set_option maxRecDepth 65536 in
theorem w_c4 : (Jvm.Cond.code ({ cls := "java/lang/String", name := "<init>", desc := "([CIILjava/lang/Void;)V" } : Jvm.MethodName) jdk_42_method_149_code (6 : Nat) (Option.none : Option Jvm.ClassFile.FieldType)).before args0 about1 = true := code_word (m := ⟨9, 4⟩) (meth := k9m4) (c := k9c4) (by decide +kernel) rfl rfl rfl (by decide +kernel)
set_option maxRecDepth 65536 in
theorem w_c5 : (Jvm.Cond.code ({ cls := "java/lang/Object", name := "<init>", desc := "()V" } : Jvm.MethodName) object_method_1_code (1 : Nat) (Option.none : Option Jvm.ClassFile.FieldType)).before args0 about1 = true := code_word (m := ⟨0, 0⟩) (meth := k0m0) (c := k0c0) (by decide +kernel) rfl rfl rfl (by decide +kernel)
set_option maxRecDepth 65536 in
theorem w_c6 : (Jvm.Cond.code ({ cls := "com/example/latente/latente/query/JpqlLexer$Token", name := "<init>", desc := "(Lcom/example/latente/latente/query/JpqlLexer$Kind;Ljava/lang/String;I)V" } : Jvm.MethodName) prog_9_method_1_code (4 : Nat) (Option.none : Option Jvm.ClassFile.FieldType)).before args0 about1 = true := code_word (m := ⟨11, 0⟩) (meth := k11m0) (c := k11c0) (by decide +kernel) rfl rfl rfl (by decide +kernel)
set_option maxRecDepth 65536 in
theorem w_c7 : (Jvm.Cond.code ({ cls := "java/lang/Record", name := "<init>", desc := "()V" } : Jvm.MethodName) jdk_30_method_1_code (1 : Nat) (Option.none : Option Jvm.ClassFile.FieldType)).before args0 about1 = true := code_word (m := ⟨10, 0⟩) (meth := k10m0) (c := k10c0) (by decide +kernel) rfl rfl rfl (by decide +kernel)
set_option maxRecDepth 65536 in
theorem w_c8 : (Jvm.Cond.code ({ cls := "com/example/latente/latente/query/JpqlLexer$Token", name := "isSymbol", desc := "(Ljava/lang/String;)Z" } : Jvm.MethodName) prog_9_method_3_code (2 : Nat) (Option.some Jvm.ClassFile.FieldType.boolean)).before args0 about1 = true := code_word (m := ⟨11, 1⟩) (meth := k11m1) (c := k11c1) (by decide +kernel) rfl rfl rfl (by decide +kernel)
set_option maxRecDepth 65536 in
theorem w_c9 : (Jvm.Cond.code ({ cls := "java/lang/String", name := "equals", desc := "(Ljava/lang/Object;)Z" } : Jvm.MethodName) jdk_42_method_66_code (3 : Nat) (Option.some Jvm.ClassFile.FieldType.boolean)).before args0 about1 = true := code_word (m := ⟨9, 2⟩) (meth := k9m2) (c := k9c2) (by decide +kernel) rfl rfl rfl (by decide +kernel)
set_option maxRecDepth 65536 in
theorem w_c10 : (Jvm.Cond.code ({ cls := "java/lang/StringLatin1", name := "equals", desc := "([B[B)Z" } : Jvm.MethodName) jdk_43_method_13_code (3 : Nat) (Option.some Jvm.ClassFile.FieldType.boolean)).before args0 about1 = true := code_word (m := ⟨12, 2⟩) (meth := k12m2) (c := k12c2) (by decide +kernel) rfl rfl rfl (by decide +kernel)
set_option maxRecDepth 65536 in
theorem w_c11 : (Jvm.Cond.code ({ cls := "java/lang/String", name := "valueOf", desc := "(C)Ljava/lang/String;" } : Jvm.MethodName) jdk_42_method_139_code (1 : Nat) (Option.some (Jvm.ClassFile.FieldType.object "java/lang/String"))).before args0 about1 = true := code_word (m := ⟨9, 3⟩) (meth := k9m3) (c := k9c3) (by decide +kernel) rfl rfl rfl (by decide +kernel)
set_option maxRecDepth 65536 in
theorem w_c12 : (Jvm.Cond.code ({ cls := "java/lang/StringLatin1", name := "canEncode", desc := "(C)Z" } : Jvm.MethodName) jdk_43_method_3_code (1 : Nat) (Option.some Jvm.ClassFile.FieldType.boolean)).before args0 about1 = true := code_word (m := ⟨12, 1⟩) (meth := k12m1) (c := k12c1) (by decide +kernel) rfl rfl rfl (by decide +kernel)
set_option maxRecDepth 65536 in
theorem w_c13 : (Jvm.Cond.code ({ cls := "java/lang/StringLatin1", name := "toBytes", desc := "(C)[B" } : Jvm.MethodName) jdk_43_method_46_code (1 : Nat) (Option.some (Jvm.ClassFile.FieldType.array Jvm.ClassFile.FieldType.byte))).before args0 about1 = true := code_word (m := ⟨12, 3⟩) (meth := k12m3) (c := k12c3) (by decide +kernel) rfl rfl rfl (by decide +kernel)
set_option maxRecDepth 65536 in
theorem w_c14 : (Jvm.Cond.code ({ cls := "java/lang/String", name := "<init>", desc := "([BB)V" } : Jvm.MethodName) jdk_42_method_151_code (3 : Nat) (Option.none : Option Jvm.ClassFile.FieldType)).before args0 about1 = true := code_word (m := ⟨9, 5⟩) (meth := k9m5) (c := k9c5) (by decide +kernel) rfl rfl rfl (by decide +kernel)
set_option maxRecDepth 65536 in
theorem w_c15 : (Jvm.Cond.code ({ cls := "java/lang/StringUTF16", name := "compress", desc := "([CII)[B" } : Jvm.MethodName) jdk_52_method_16_code (6 : Nat) (Option.some (Jvm.ClassFile.FieldType.array Jvm.ClassFile.FieldType.byte))).before args0 about1 = true := code_word (m := ⟨13, 2⟩) (meth := k13m2) (c := k13c2) (by decide +kernel) rfl rfl rfl (by decide +kernel)
set_option maxRecDepth 65536 in
theorem w_c16 : (Jvm.Cond.code ({ cls := "java/lang/StringUTF16", name := "compress", desc := "([CI[BII)I" } : Jvm.MethodName) jdk_52_method_21_code (7 : Nat) (Option.some Jvm.ClassFile.FieldType.int)).before args0 about1 = true := code_word (m := ⟨13, 3⟩) (meth := k13m3) (c := k13c3) (by decide +kernel) rfl rfl rfl (by decide +kernel)
set_option maxRecDepth 65536 in
theorem w_c17 : (Jvm.Cond.code ({ cls := "java/lang/StringUTF16", name := "coderFromArrayLen", desc := "([BI)B" } : Jvm.MethodName) jdk_52_method_15_code (2 : Nat) (Option.some Jvm.ClassFile.FieldType.byte)).before args0 about1 = true := code_word (m := ⟨13, 1⟩) (meth := k13m1) (c := k13c1) (by decide +kernel) rfl rfl rfl (by decide +kernel)
def codes1 : List Jvm.Cond := [Jvm.Cond.code x code maxLocals ret, Jvm.Cond.code ({ cls := "com/example/latente/latente/query/TokenIsSymbolPinLaw", name := "kindOf", desc := "(I)Lcom/example/latente/latente/query/JpqlLexer$Kind;" } : Jvm.MethodName) method_2_code (1 : Nat) (Option.some (Jvm.ClassFile.FieldType.object "com/example/latente/latente/query/JpqlLexer$Kind")), Jvm.Cond.code ({ cls := "com/example/latente/latente/query/TokenIsSymbolPinLaw", name := "str", desc := "(ICC)Ljava/lang/String;" } : Jvm.MethodName) method_3_code (3 : Nat) (Option.some (Jvm.ClassFile.FieldType.object "java/lang/String")), Jvm.Cond.code ({ cls := "java/lang/String", name := "<init>", desc := "([C)V" } : Jvm.MethodName) jdk_42_method_3_code (2 : Nat) (Option.none : Option Jvm.ClassFile.FieldType), Jvm.Cond.code ({ cls := "java/lang/String", name := "<init>", desc := "([CIILjava/lang/Void;)V" } : Jvm.MethodName) jdk_42_method_149_code (6 : Nat) (Option.none : Option Jvm.ClassFile.FieldType), Jvm.Cond.code ({ cls := "java/lang/Object", name := "<init>", desc := "()V" } : Jvm.MethodName) object_method_1_code (1 : Nat) (Option.none : Option Jvm.ClassFile.FieldType), Jvm.Cond.code ({ cls := "com/example/latente/latente/query/JpqlLexer$Token", name := "<init>", desc := "(Lcom/example/latente/latente/query/JpqlLexer$Kind;Ljava/lang/String;I)V" } : Jvm.MethodName) prog_9_method_1_code (4 : Nat) (Option.none : Option Jvm.ClassFile.FieldType), Jvm.Cond.code ({ cls := "java/lang/Record", name := "<init>", desc := "()V" } : Jvm.MethodName) jdk_30_method_1_code (1 : Nat) (Option.none : Option Jvm.ClassFile.FieldType), Jvm.Cond.code ({ cls := "com/example/latente/latente/query/JpqlLexer$Token", name := "isSymbol", desc := "(Ljava/lang/String;)Z" } : Jvm.MethodName) prog_9_method_3_code (2 : Nat) (Option.some Jvm.ClassFile.FieldType.boolean), Jvm.Cond.code ({ cls := "java/lang/String", name := "equals", desc := "(Ljava/lang/Object;)Z" } : Jvm.MethodName) jdk_42_method_66_code (3 : Nat) (Option.some Jvm.ClassFile.FieldType.boolean), Jvm.Cond.code ({ cls := "java/lang/StringLatin1", name := "equals", desc := "([B[B)Z" } : Jvm.MethodName) jdk_43_method_13_code (3 : Nat) (Option.some Jvm.ClassFile.FieldType.boolean), Jvm.Cond.code ({ cls := "java/lang/String", name := "valueOf", desc := "(C)Ljava/lang/String;" } : Jvm.MethodName) jdk_42_method_139_code (1 : Nat) (Option.some (Jvm.ClassFile.FieldType.object "java/lang/String")), Jvm.Cond.code ({ cls := "java/lang/StringLatin1", name := "canEncode", desc := "(C)Z" } : Jvm.MethodName) jdk_43_method_3_code (1 : Nat) (Option.some Jvm.ClassFile.FieldType.boolean), Jvm.Cond.code ({ cls := "java/lang/StringLatin1", name := "toBytes", desc := "(C)[B" } : Jvm.MethodName) jdk_43_method_46_code (1 : Nat) (Option.some (Jvm.ClassFile.FieldType.array Jvm.ClassFile.FieldType.byte)), Jvm.Cond.code ({ cls := "java/lang/String", name := "<init>", desc := "([BB)V" } : Jvm.MethodName) jdk_42_method_151_code (3 : Nat) (Option.none : Option Jvm.ClassFile.FieldType), Jvm.Cond.code ({ cls := "java/lang/StringUTF16", name := "compress", desc := "([CII)[B" } : Jvm.MethodName) jdk_52_method_16_code (6 : Nat) (Option.some (Jvm.ClassFile.FieldType.array Jvm.ClassFile.FieldType.byte)), Jvm.Cond.code ({ cls := "java/lang/StringUTF16", name := "compress", desc := "([CI[BII)I" } : Jvm.MethodName) jdk_52_method_21_code (7 : Nat) (Option.some Jvm.ClassFile.FieldType.int), Jvm.Cond.code ({ cls := "java/lang/StringUTF16", name := "coderFromArrayLen", desc := "([BI)B" } : Jvm.MethodName) jdk_52_method_15_code (2 : Nat) (Option.some Jvm.ClassFile.FieldType.byte)]
set_option maxRecDepth 65536 in
theorem codes_eq : words1.filter isCode = codes1 := rfl
theorem w_codes : ∀ c ∈ words1.filter isCode, c.before args0 about1 = true := by
  rw [codes_eq]
  intro c hc
  simp only [codes1, List.mem_cons, List.not_mem_nil, or_false] at hc
  rcases hc with rfl | rfl | rfl | rfl | rfl | rfl | rfl | rfl | rfl | rfl | rfl | rfl | rfl | rfl | rfl | rfl | rfl | rfl
  · exact w_c0
  · exact w_c1
  · exact w_c2
  · exact w_c3
  · exact w_c4
  · exact w_c5
  · exact w_c6
  · exact w_c7
  · exact w_c8
  · exact w_c9
  · exact w_c10
  · exact w_c11
  · exact w_c12
  · exact w_c13
  · exact w_c14
  · exact w_c15
  · exact w_c16
  · exact w_c17
set_option maxRecDepth 65536 in
theorem w_t1 : (words1.take 24).all (fun c => isCode c || c.before args0 about1) = true := by decide +kernel
set_option maxRecDepth 65536 in
theorem w_t2 : ((words1.drop 24).take 24).all (fun c => isCode c || c.before args0 about1) = true := by decide +kernel
set_option maxRecDepth 65536 in
theorem w_t3 : (((words1.drop 24).drop 24).take 24).all (fun c => isCode c || c.before args0 about1) = true := by decide +kernel
set_option maxRecDepth 65536 in
theorem w_t4 : ((((words1.drop 24).drop 24).drop 24).take 24).all (fun c => isCode c || c.before args0 about1) = true := by decide +kernel
set_option maxRecDepth 65536 in
theorem w_t5 : ((((words1.drop 24).drop 24).drop 24).drop 24).all (fun c => isCode c || c.before args0 about1) = true := by decide +kernel
theorem w_tables : (allAtoms (Jvm.Cond.code x code maxLocals ret :: tables_1)).before args0 about1 = true := by
  rw [allAtoms_all]
  show words1.all (fun c => c.before args0 about1) = true
  refine all_split ?_ w_codes
  rw [← List.take_append_drop 24 words1, List.all_append, w_t1, ← List.take_append_drop 24 (words1.drop 24), List.all_append, w_t2, ← List.take_append_drop 24 ((words1.drop 24).drop 24), List.all_append, w_t3, ← List.take_append_drop 24 (((words1.drop 24).drop 24).drop 24), List.all_append, w_t4, w_t5]
  rfl
set_option maxRecDepth 65536 in
theorem w_rest : rest_1_c.before args0 about1 = true := by decide +kernel
set_option maxRecDepth 65536 in
theorem w_case : (Jvm.Cond.and given_1 narrow_1).before args0 about1 = true := by decide +kernel
set_option maxRecDepth 65536 in
theorem w_consts : constsHeld consts_1 about1 := Jvm.Lit.constsHeldB_iff.mp (by decide +kernel)
theorem w_applies : (headSpec (Jvm.Cond.code x code maxLocals ret :: tables_1) room_1).applies x e0.platform about1 = true :=
  (Spec.applies_iff w_frames).mpr ⟨w_running, w_runnable, w_alone, w_named, w_hears, w_ripe, w_room, w_tables⟩
theorem atStart : AtStart classFile x code maxLocals ret World_1 tables_1 room_1 Calls_1 rest_1 Pre_1 launch0 p0 e0 about1 theMethod args0 below0 :=
  ⟨lists_1, trivial, launch0.admits_env _ _ _, launch0.least_env, fairChoices_fair.cas, fairChoices_fair.clock, w_frames, w_args, w_heap, w_applies, ⟨w_consts, trivial⟩, w_rest, w_case⟩
end start1
theorem witness_1 : WitnessClaimed_1 := ⟨start1.p0, start1.e0, start1.about1, start1.theMethod, start1.args0, start1.below0, start1.atStart⟩
end Jvm.Pilot.@@N@@
