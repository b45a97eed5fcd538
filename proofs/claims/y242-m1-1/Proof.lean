import JvmDerived
import JvmDerived.Pilot.@@N@@Statement
import JvmDerived.Pilot.@@N@@Code
set_option linter.unusedVariables false
set_option linter.unusedSimpArgs false
@@BLOCK:NumsL.lean.txt@@
namespace Jvm.Pilot.@@N@@
open Jvm Jvm.ClassFile Sem Op Lib Jvm.Free Jvm.Stand Jvm.LawKit Jvm.RoadKit Bundle Jvm.Pilot.@@N@@.Jvm.D
section Own
variable {p : Program} {l : Launch} {e : Env} {R : Room} {s : State} {m : MethodId} {args : Array Value} {below : List Frame} {meth : Method} {c : Code} {T : State} {locs : List Loc} {cells slots : Nat} {Z : State} {a0 : Array Value} {h : Heap}
/-- a walk that goes forward: from S the run comes to an end of which P holds -/
def own_G (p : Program) (e : Env) (below : List Frame) (S : State) (P : Outcome → State → Prop) : Prop :=
  ∃ s₂ o, Steps p.tables e below S s₂ ∧ s₂.status = .running ∧ Ended s₂ below o ∧ P o s₂
/-- what a body leaves -/
def own_P (s : State) (Q : Option Value → Heap → List Loc → Prop) (kc ks : Nat) (o : Outcome) (U : State) : Prop := ∃ v L, o = .returned v ∧ Q v U.heap L ∧ FrameEnd s o U L kc ks
theorem oS {S S' : State} {P : Outcome → State → Prop} (k : ∀ t, Steps p.tables e below S' t → Steps p.tables e below S t) (h : own_G p e below S' P) : own_G p e below S P := by
  obtain ⟨s2, o, h1, h2⟩ := h; exact ⟨s2, o, k _ h1, h2⟩
theorem oW {Z : State} {a0 : Array Value} (hw : ∀ d ∈ tables_1, d.before a0 Z = true) (i : Nat) {d : Jvm.Cond} (q : tables_1[i]? = some d) : d.before a0 Z = true := hw _ (List.mem_of_getElem? q)
theorem own_cast {g g' : JFrame} {P : Outcome → State → Prop} (q : g = g') (k : own_G p e below (T.setTop g') P) : own_G p e below (T.setTop g) P := q ▸ k
theorem own_leave (X : Stand p l e R s m args below meth c T locs cells slots) {g : JFrame} {v : Option Value} {Q : Option Value → Heap → List Loc → Prop} {kc ks : Nat} (hlocks : meth.locks = false) (hv : meth.sig.returnType = none → v = none)
    (k : ∀ fs, (∀ (f : JFrame) (acts : List Action), f.method = m → f.locked = none → f.entered = [] → (doReturn e (T.setTop f) acts v).1 = T.setFrames fs) → Steps p.tables e below (T.setTop g) (T.setFrames fs))
    (eT : T.heap = h) (hc : cells ≤ kc) (hs : slots ≤ ks) (hq : Q v h locs) : own_G p e below (T.setTop g) (own_P s Q kc ks) := by
  obtain ⟨fs, hr, hrun, hended, hW, hsame⟩ := X.leave (v := v) hv hlocks
  exact ⟨_, _, k fs hr, hrun, hended, _, _, rfl, by show Q v T.heap locs; rw [eT]; exact hq, ⟨_, rfl⟩, hW, hsame.mono hc hs⟩
theorem own_retN (X : Stand p l e R s m args below meth c T locs cells slots) (hx : p.tables.exec = Jvm.exec) {pc : Nat} {Ls : Array Slot} {z : Int32} {t : FieldType} {rest : List Value} {Q : Option Value → Heap → List Loc → Prop} {kc ks : Nat} (hlocks : meth.locks = false) (hret : meth.sig.returnType = some t) (ht : t = .boolean ∨ t = .byte ∨ t = .char ∨ t = .short)
    (hd : decode c.code pc = .ok (.ireturn, 1)) (hn : nar t z = z) (eT : T.heap = h) (hc : cells ≤ kc) (hs : slots ≤ ks) (hq : Q (some (.int z)) h locs) : own_G p e below (T.setTop (mkF m pc Ls (.int z :: rest))) (own_P s Q kc ks) :=
  own_leave X (v := some (.int z)) hlocks (fun q => by rw [hret] at q; cases q) (fun fs hl => retN X hx hret ht hd (by rw [hn]; exact hl)) eT hc hs hq
theorem own_retI (X : Stand p l e R s m args below meth c T locs cells slots) (hx : p.tables.exec = Jvm.exec) {pc : Nat} {Ls : Array Slot} {z : Int32} {rest : List Value} {Q : Option Value → Heap → List Loc → Prop} {kc ks : Nat} (hlocks : meth.locks = false) (hret : meth.sig.returnType = some .int)
    (hd : decode c.code pc = .ok (.ireturn, 1)) (eT : T.heap = h) (hc : cells ≤ kc) (hs : slots ≤ ks) (hq : Q (some (.int z)) h locs) : own_G p e below (T.setTop (mkF m pc Ls (.int z :: rest))) (own_P s Q kc ks) :=
  own_leave X (v := some (.int z)) hlocks (fun q => by rw [hret] at q; cases q) (fun fs hl => retOut X hx hret rfl (Or.inl ⟨rfl, Or.inl rfl, _, rfl⟩) hd hl) eT hc hs hq
theorem own_retL (X : Stand p l e R s m args below meth c T locs cells slots) (hx : p.tables.exec = Jvm.exec) {pc : Nat} {Ls : Array Slot} {z : Int64} {rest : List Value} {Q : Option Value → Heap → List Loc → Prop} {kc ks : Nat} (hlocks : meth.locks = false) (hret : meth.sig.returnType = some .long)
    (hd : decode c.code pc = .ok (.lreturn, 1)) (eT : T.heap = h) (hc : cells ≤ kc) (hs : slots ≤ ks) (hq : Q (some (.long z)) h locs) : own_G p e below (T.setTop (mkF m pc Ls (.long z :: rest))) (own_P s Q kc ks) :=
  own_leave X (v := some (.long z)) hlocks (fun q => by rw [hret] at q; cases q) (fun fs hl => retOut X hx hret rfl (Or.inr (Or.inl ⟨rfl, rfl, _, rfl⟩)) hd hl) eT hc hs hq
theorem own_narR {t : FieldType} {w : Value} (h : w.isRef = true) : narrow t w = w := by
  rcases ref_cases h with rfl | ⟨a, rfl⟩ <;> cases t <;> rfl
theorem own_retA (X : Stand p l e R s m args below meth c T locs cells slots) (hx : p.tables.exec = Jvm.exec) {pc : Nat} {Ls : Array Slot} {w : Value} {t : FieldType} {rest : List Value} {Q : Option Value → Heap → List Loc → Prop} {kc ks : Nat} (hlocks : meth.locks = false) (hret : meth.sig.returnType = some t) (ht : t.isReference = true) (hw : w.isRef = true)
    (hd : decode c.code pc = .ok (.areturn, 1)) (eT : T.heap = h) (hc : cells ≤ kc) (hs : slots ≤ ks) (hq : Q (some w) h locs) : own_G p e below (T.setTop (mkF m pc Ls (w :: rest))) (own_P s Q kc ks) :=
  own_leave X (v := some w) hlocks (fun q => by rw [hret] at q; cases q) (fun fs hl => retOut X hx hret (own_narR hw) (Or.inr (Or.inr (Or.inr (Or.inr ⟨rfl, ht, hw⟩)))) hd hl) eT hc hs hq
theorem own_retV (X : Stand p l e R s m args below meth c T locs cells slots) (hx : p.tables.exec = Jvm.exec) {pc : Nat} {Ls : Array Slot} {Q : Option Value → Heap → List Loc → Prop} {kc ks : Nat} (hlocks : meth.locks = false) (hret : meth.sig.returnType = none)
    (hd : decode c.code pc = .ok (.return_, 1)) (eT : T.heap = h) (hc : cells ≤ kc) (hs : slots ≤ ks) (hq : Q none h locs) : own_G p e below (T.setTop (mkF m pc Ls [])) (own_P s Q kc ks) :=
  own_leave X (v := none) hlocks (fun _ => rfl) (fun fs hl => X.returnOut hx hret hd hl) eT hc hs hq
abbrev own_Met (l : Launch) (Z : State) (h : Heap) (y : MethodName) (bytes : ByteArray) (maxL : Nat) (ret : Option FieldType) (ws : List Jvm.Cond) (rm : Room) (as' : Array Value) (Q : Option Value → Heap → List Loc → Prop) (kc ks : Nat) : Prop :=
  MetFree l y (head1 (Jvm.Cond.code y bytes maxL ret :: ws) rm) (fun a U => a = as' ∧ Z.Warmed39 U.vm ∧ U.heap = h) (fun _ _ _ _ _ => True) (fun _ U o U' => ∃ v L, o = .returned v ∧ Q v U'.heap L ∧ FrameEnd U o U' L kc ks)
variable {own : String} {index : Nat} {y : MethodName} {bytes : ByteArray} {maxL : Nat} {ret : Option FieldType} {rm : Room} {W : Nat} {as' : Array Value} {Q : Option Value → Heap → List Loc → Prop}
abbrev own_After (p : Program) (l : Launch) (e : Env) (R : Room) (s : State) (m : MethodId) (args : Array Value) (below : List Frame) (meth : Method) (c : Code) (T : State) (locs : List Loc) (kc ks : Nat) (g : JFrame) (rest : List Value) (Q : Option Value → Heap → List Loc → Prop) (len : Nat := 3) : Prop :=
  ∃ (T' : State) (h' : Heap) (v : Option Value) (L : List Loc), Stand p l e R s m args below meth c T' (locs ++ L) kc ks ∧ T'.heap = h' ∧ Q v h' L ∧ ∀ target, Steps p.tables e below (T'.setTop { g with pc := g.pc + len, stack := v.toList ++ rest }) target → Steps p.tables e below (T.setTop g) target
theorem own_callS (X : Stand p l e R s m args below meth c T locs cells slots) (hx : p.tables.exec = Jvm.exec) (hZ : Z.Warmed39 s.vm) (hown : s.vm.findClass own = some m.cls) (eT : T.heap = h)
    (w1 : (Jvm.Cond.methodLink own index y).before a0 Z = true) (w2 : (Jvm.Cond.static y).before a0 Z = true) (w3 : (Jvm.Cond.initialized y.cls).before a0 Z = true) (w4 : (Jvm.Cond.code y bytes maxL ret).before a0 Z = true) (hy : y.cls ≠ "java/lang/invoke/MethodHandle" ∧ y.cls ≠ "java/lang/invoke/VarHandle")
    (hM : own_Met l Z h y bytes maxL ret [] rm as' Q rm.cells rm.slots)
    (hf : rm.frames + 1 ≤ R.frames) (hl : W + (maxL + 11) + rm.locals ≤ R.locals) (hc : cells + rm.cells ≤ R.cells) (hsl : slots + rm.slots ≤ R.slots)
    {g : JFrame} (hg : g.method = m) (hsize : g.locals.size = c.maxLocals) {argsL rest : List Value} (has : argsL.toArray = as') (hlen : ∀ sig, parseMethodDescriptor y.desc = some sig → argsL.length = sig.parameters.length)
    (hstack : g.stack = argsL.reverse ++ rest) (hW : 2 * g.monitorRoom + (rest.map fun v => v.category).sum ≤ W) (hd : decode c.code g.pc = .ok (.invokestatic index, 3)) :
    own_After p l e R s m args below meth c T locs (cells + rm.cells) (slots + rm.slots) g rest Q := by
  obtain ⟨v, vm1, ⟨T', L', k', n'⟩, -, X', ⟨Lc, hQ, l1, y1, z1⟩, st⟩ := Jvm.LawKit.callS X hx (y := y) hown (mvT hZ w1) (mvT hZ w2) (mvT hZ w3) (mvT hZ w4) hy (backOf (W := W) hM hZ w4 w3 hf hl) hg hsize hlen hstack hW hd (fun _ _ => ⟨has, eT, hc, hsl⟩)
  dsimp only [Pt.U, Pt.locs, Pt.cells, Pt.slots] at X' l1 y1 z1 st hQ
  subst l1 y1 z1
  exact ⟨T', _, v, Lc, X', rfl, hQ, st⟩
theorem own_callV (X : Stand p l e R s m args below meth c T locs cells slots) (hx : p.tables.exec = Jvm.exec) (hZ : Z.Warmed39 s.vm) (hown : s.vm.findClass own = some m.cls) (eT : T.heap = h) {z : MethodName} {C : String} {b : Addr}
    (w1 : (Jvm.Cond.methodLink own index y).before a0 Z = true) (w2 : (Jvm.Cond.declares y).before a0 Z = true) (nf : NotFace s y) (w3 : (Jvm.Cond.selects C y z).before a0 Z = true) (w5 : (Jvm.Cond.instanceMethod z).before a0 Z = true) (w6 : (Jvm.Cond.initialized z.cls).before a0 Z = true) (w4 : (Jvm.Cond.code z bytes maxL ret).before a0 Z = true) (hy : y.cls ≠ "java/lang/invoke/MethodHandle" ∧ y.cls ≠ "java/lang/invoke/VarHandle")
    (E : Exa Z h b C) (hM : own_Met l Z h z bytes maxL ret [] rm as' Q rm.cells rm.slots)
    (hf : rm.frames + 1 ≤ R.frames) (hl : W + (maxL + 11) + rm.locals ≤ R.locals) (hc : cells + rm.cells ≤ R.cells) (hsl : slots + rm.slots ≤ R.slots)
    {g : JFrame} (hg : g.method = m) (hsize : g.locals.size = c.maxLocals) {argsL rest : List Value} (has : (.ref b :: argsL).toArray = as') (hlen : ∀ sig, parseMethodDescriptor y.desc = some sig → argsL.length = sig.parameters.length)
    (hstack : g.stack = argsL.reverse ++ .ref b :: rest) (hW : 2 * g.monitorRoom + (rest.map fun v => v.category).sum ≤ W) (hd : decode c.code g.pc = .ok (.invokevirtual index, 3)) :
    own_After p l e R s m args below meth c T locs (cells + rm.cells) (slots + rm.slots) g rest Q := by
  obtain ⟨cq, kq, q1, q2, q3⟩ := isOf hZ eT E
  obtain ⟨v, vm1, ⟨T', L', k', n'⟩, -, X', ⟨Lc, hQ, l1, y1, z1⟩, st⟩ := X.virtualBack hx (y := y) (z := z) hown (mvT hZ w1) (mvT hZ w2) nf (mvT hZ w3) (mvT hZ w5) hy (backOf (W := W) hM hZ w4 w6 hf hl) q1 q3 hg hsize (Steps.refl _) hlen hstack hW hd (fun _ _ => ⟨has, eT, hc, hsl⟩)
  dsimp only [Pt.U, Pt.locs, Pt.cells, Pt.slots] at X' l1 y1 z1 st hQ
  subst l1 y1 z1
  exact ⟨T', _, v, Lc, X', rfl, hQ, fun _ k => st.trans k⟩
theorem own_callU (X : Stand p l e R s m args below meth c T locs cells slots) (hx : p.tables.exec = Jvm.exec) (hZ : Z.Warmed39 s.vm) (hown : s.vm.findClass own = some m.cls) (eT : T.heap = h) {z : MethodName} {C owner : String} {b : Addr}
    (w1 : (Jvm.Cond.methodLink own index y).before a0 Z = true) (w2 : (Jvm.Cond.sameMethod y.cls owner y.name y.desc).before a0 Z = true) (w7 : (Jvm.Cond.declares ⟨owner, y.name, y.desc⟩).before a0 Z = true) (w3 : (Jvm.Cond.selects C y z).before a0 Z = true) (w5 : (Jvm.Cond.instanceMethod z).before a0 Z = true) (w6 : (Jvm.Cond.initialized z.cls).before a0 Z = true) (w4 : (Jvm.Cond.code z bytes maxL ret).before a0 Z = true) (hy : owner ≠ "java/lang/invoke/MethodHandle" ∧ owner ≠ "java/lang/invoke/VarHandle")
    (E : Exa Z h b C) (hM : own_Met l Z h z bytes maxL ret [] rm as' Q rm.cells rm.slots)
    (hf : rm.frames + 1 ≤ R.frames) (hl : W + (maxL + 11) + rm.locals ≤ R.locals) (hc : cells + rm.cells ≤ R.cells) (hsl : slots + rm.slots ≤ R.slots)
    {g : JFrame} (hg : g.method = m) (hsize : g.locals.size = c.maxLocals) {argsL rest : List Value} (has : (.ref b :: argsL).toArray = as') (hlen : ∀ sig, parseMethodDescriptor y.desc = some sig → argsL.length = sig.parameters.length)
    (hstack : g.stack = argsL.reverse ++ .ref b :: rest) (hW : 2 * g.monitorRoom + (rest.map fun v => v.category).sum ≤ W) (hd : decode c.code g.pc = .ok (.invokevirtual index, 3)) :
    own_After p l e R s m args below meth c T locs (cells + rm.cells) (slots + rm.slots) g rest Q := by
  obtain ⟨cq, kq, q1, q2, q3⟩ := isOf hZ eT E
  obtain ⟨v, vm1, ⟨T', L', k', n'⟩, -, X', ⟨Lc, hQ, l1, y1, z1⟩, st⟩ := X.virtualBackUp hx (x := y) (y := z) (owner := owner) hown (mvT hZ w1) (mvT hZ w2) (mvT hZ w7) hy (mvT hZ w3) (mvT hZ w5) (backOf (W := W) hM hZ w4 w6 hf hl) q1 q3 hg hsize (Steps.refl _) hlen hstack hW hd (fun _ _ => ⟨has, eT, hc, hsl⟩)
  dsimp only [Pt.U, Pt.locs, Pt.cells, Pt.slots] at X' l1 y1 z1 st hQ
  subst l1 y1 z1
  exact ⟨T', _, v, Lc, X', rfl, hQ, fun _ k => st.trans k⟩
theorem own_callN (X : Stand p l e R s m args below meth c T locs cells slots) (hx : p.tables.exec = Jvm.exec) (hZ : Z.Warmed39 s.vm) (hown : s.vm.findClass own = some m.cls) (eT : T.heap = h) {b : Addr} (hy1 : y.name = "<init>")
    (w1 : (Jvm.Cond.methodLink own index y).before a0 Z = true) (w5 : (Jvm.Cond.instanceMethod y).before a0 Z = true) (w6 : (Jvm.Cond.initialized y.cls).before a0 Z = true) (w4 : (Jvm.Cond.code y bytes maxL none).before a0 Z = true) (hy : y.cls ≠ "java/lang/invoke/MethodHandle" ∧ y.cls ≠ "java/lang/invoke/VarHandle")
    (hM : own_Met l Z h y bytes maxL none [] rm as' Q rm.cells rm.slots)
    (hf : rm.frames + 1 ≤ R.frames) (hl : W + (maxL + 11) + rm.locals ≤ R.locals) (hc : cells + rm.cells ≤ R.cells) (hsl : slots + rm.slots ≤ R.slots)
    {g : JFrame} (hg : g.method = m) (hsize : g.locals.size = c.maxLocals) {argsL rest : List Value} (has : (.ref b :: argsL).toArray = as') (hlen : ∀ sig, parseMethodDescriptor y.desc = some sig → argsL.length = sig.parameters.length)
    (hstack : g.stack = argsL.reverse ++ .ref b :: rest) (hW : 2 * g.monitorRoom + (rest.map fun v => v.category).sum ≤ W) (hd : decode c.code g.pc = .ok (.invokespecial index, 3)) :
    own_After p l e R s m args below meth c T locs (cells + rm.cells) (slots + rm.slots) g rest Q := by
  obtain ⟨v, vm1, ⟨T', L', k', n'⟩, -, X', ⟨Lc, hQ, l1, y1, z1⟩, st⟩ := X.specialBack hx (y := y) hy1 hown (mvT hZ w1) (mvT hZ w5) (mvT hZ w4) hy (backOf (W := W) hM hZ w4 w6 hf hl) hg hsize (Steps.refl _) hlen hstack hW hd (fun _ _ => ⟨has, eT, hc, hsl⟩)
  dsimp only [Pt.U, Pt.locs, Pt.cells, Pt.slots] at X' l1 y1 z1 st hQ
  subst l1 y1 z1
  exact ⟨T', _, v, Lc, X', rfl, hQ, fun _ k => st.trans k⟩
theorem own_callI (X : Stand p l e R s m args below meth c T locs cells slots) (hx : p.tables.exec = Jvm.exec) (hZ : Z.Warmed39 s.vm) (hown : s.vm.findClass own = some m.cls) (eT : T.heap = h) {z : MethodName} {C : String} {b : Addr} {count : Nat}
    (w1 : (Jvm.Cond.methodLink own index y).before a0 Z = true) (w2 : (Jvm.Cond.declares y).before a0 Z = true) (w7 : (Jvm.Cond.interfaceMethod y.cls y.cls y.name y.desc).before a0 Z = true) (h7 : ((Jvm.Cond.interfaceMethod y.cls y.cls y.name y.desc).onTables && (Jvm.Cond.interfaceMethod y.cls y.cls y.name y.desc).keepsFace) = true) (w3 : (Jvm.Cond.selects C y z).before a0 Z = true) (w5 : (Jvm.Cond.instanceMethod z).before a0 Z = true) (w8 : (Jvm.Cond.publicMethod z).before a0 Z = true) (w9 : (Jvm.Cond.unhidden C y.name y.desc).before a0 Z = true) (w10 : (Jvm.Cond.castable C y.cls).before a0 Z = true) (w6 : (Jvm.Cond.initialized z.cls).before a0 Z = true) (w4 : (Jvm.Cond.code z bytes maxL ret).before a0 Z = true) (hy : y.cls ≠ "java/lang/invoke/MethodHandle" ∧ y.cls ≠ "java/lang/invoke/VarHandle")
    (E : Exa Z h b C) (hM : own_Met l Z h z bytes maxL ret [] rm as' Q rm.cells rm.slots)
    (hf : rm.frames + 1 ≤ R.frames) (hl : W + (maxL + 11) + rm.locals ≤ R.locals) (hc : cells + rm.cells ≤ R.cells) (hsl : slots + rm.slots ≤ R.slots)
    {g : JFrame} (hg : g.method = m) (hsize : g.locals.size = c.maxLocals) {argsL rest : List Value} (has : (.ref b :: argsL).toArray = as') (hlen : ∀ sig, parseMethodDescriptor y.desc = some sig → argsL.length = sig.parameters.length)
    (hstack : g.stack = argsL.reverse ++ .ref b :: rest) (hW : 2 * g.monitorRoom + (rest.map fun v => v.category).sum ≤ W) (hd : decode c.code g.pc = .ok (.invokeinterface index count, 5)) :
    own_After p l e R s m args below meth c T locs (cells + rm.cells) (slots + rm.slots) g rest Q 5 := by
  obtain ⟨cq, kq, q1, q2, q3⟩ := isOf hZ eT E
  obtain ⟨v, vm1, ⟨T', L', k', n'⟩, -, X', ⟨Lc, hQ, l1, y1, z1⟩, st⟩ := X.interfaceBack hx (xi := y) (y := z) hown (mvT hZ w1) (mvT hZ w2) (mvT hZ w7 h7) (mvT hZ w3) (mvT hZ w5) (mvT hZ w8) (mvT hZ w9) (mvT hZ w10) hy (backOf (W := W) hM hZ w4 w6 hf hl) q1 q2 q3 hg hsize (Steps.refl _) hlen hstack hW hd (fun _ _ => ⟨has, eT, hc, hsl⟩)
  dsimp only [Pt.U, Pt.locs, Pt.cells, Pt.slots] at X' l1 y1 z1 st hQ
  subst l1 y1 z1
  exact ⟨T', _, v, Lc, X', rfl, hQ, fun _ k => st.trans k⟩
theorem own_callP (X : Stand p l e R s m args below meth c T locs cells slots) (hx : p.tables.exec = Jvm.exec) (hZ : Z.Warmed39 s.vm) (hown : s.vm.findClass own = some m.cls) (eT : T.heap = h) {b : Addr} {C : String}
    (w1 : (Jvm.Cond.methodLink own index y).before a0 Z = true) (w5 : (Jvm.Cond.instanceMethod y).before a0 Z = true) (w3 : (Jvm.Cond.selects y.cls y y).before a0 Z = true) (w7 : (Jvm.Cond.privateMethod y).before a0 Z = true) (w6 : (Jvm.Cond.initialized y.cls).before a0 Z = true) (w4 : (Jvm.Cond.code y bytes maxL ret).before a0 Z = true) (hy : y.cls ≠ "java/lang/invoke/MethodHandle" ∧ y.cls ≠ "java/lang/invoke/VarHandle")
    (E : Exa Z h b C) (hM : own_Met l Z h y bytes maxL ret [] rm as' Q rm.cells rm.slots)
    (hf : rm.frames + 1 ≤ R.frames) (hl : W + (maxL + 11) + rm.locals ≤ R.locals) (hc : cells + rm.cells ≤ R.cells) (hsl : slots + rm.slots ≤ R.slots)
    {g : JFrame} (hg : g.method = m) (hsize : g.locals.size = c.maxLocals) {argsL rest : List Value} (has : (.ref b :: argsL).toArray = as') (hlen : ∀ sig, parseMethodDescriptor y.desc = some sig → argsL.length = sig.parameters.length)
    (hstack : g.stack = argsL.reverse ++ .ref b :: rest) (hW : 2 * g.monitorRoom + (rest.map fun v => v.category).sum ≤ W) (hd : decode c.code g.pc = .ok (.invokevirtual index, 3)) :
    own_After p l e R s m args below meth c T locs (cells + rm.cells) (slots + rm.slots) g rest Q := by
  obtain ⟨cell, hcell, hobj⟩ := E.cell
  obtain ⟨v, vm1, ⟨T', L', k', n'⟩, -, X', ⟨Lc, hQ, l1, y1, z1⟩, st⟩ := X.privateBack hx (y := y) hown (mvT hZ w1) (mvT hZ w5) (mvT hZ w3) (Cond.privateMethod_at (mvP (args := #[]) hZ w7)) (mvT hZ w4) hy (backOf (W := W) hM hZ w4 w6 hf hl) hg hsize (Steps.refl _) (by rw [eT]; exact hcell) hobj hlen hstack hW hd (fun _ _ => ⟨has, eT, hc, hsl⟩)
  dsimp only [Pt.U, Pt.locs, Pt.cells, Pt.slots] at X' l1 y1 z1 st hQ
  subst l1 y1 z1
  exact ⟨T', _, v, Lc, X', rfl, hQ, fun _ k => st.trans k⟩
theorem own_rne {a b : Addr} (h : a ≠ b) : ¬ (Value.ref a = Value.ref b) := fun q => h (Value.ref.inj q)
def own_pl : Value → Bool
  | .int _ => true
  | .ref _ => true
  | .null => true
  | .long _ => true
  | _ => false
theorem own_eqv {args : Array Value} {f : State} {o : Option Outcome} {idx : List Nat} {t u : Term} {x y : Value} (ha : t.eval args f o idx s = some x) (hb : u.eval args f o idx s = some y) (h : (Jvm.Cond.eq t u).value args f o s idx = some true) (hk : own_pl y = true := by rfl) : x = y := by
  cases x <;> cases y <;> simp [Jvm.Cond.value, ha, hb, own_pl] at h hk ⊢ <;> first | exact h | exact h.symm
theorem own_fv {args : Array Value} {t u : Term} {O n d : String} {a : Addr} {y : Value} (ht : t.eval args s none [] s = some (.ref a)) (hu : u.eval args s none [] s = some y) (h : (Jvm.Cond.eq (.field t O n d) u).value args s none s [] = some true) (hk : own_pl y = true := by rfl) : Fld s s.heap a O n d y := by
  obtain ⟨x, y', e1, e2, -, -⟩ := cmp_v (Or.inl h)
  have q := own_eqv e1 hu h hk
  subst q
  exact Fld.start ((fld_at ht).symm.trans e1)
end Own
theorem own_bm32 {n : Int} (h1 : -2147483648 ≤ n) (h2 : n < 2147483648) : n.bmod (2 ^ 32) = n := Int.bmod_eq_of_le (by omega) (by omega)
theorem own_modlt (x : Int32) (n : Int32) (hn : 0 < n.toInt) : 0 ≤ ((x &&& 2147483647) % n).toInt ∧ ((x &&& 2147483647) % n).toInt < n.toInt := by
  have e := Jvm.Kit.i32_mask x 2147483647 (k := 31) (by decide) (by decide)
  rw [Int32.toInt_mod, e]
  have h0 : 0 ≤ x.toInt % 2 ^ 31 := Int.emod_nonneg _ (by decide)
  rw [Int.tmod_eq_emod_of_nonneg h0]
  exact ⟨Int.emod_nonneg _ (by omega), Int.emod_lt_of_pos _ hn⟩
theorem own_i32 {x : Int32} {k : Int32} (h : x.toInt = k.toInt) : x = k := Int32.toInt_inj.mp h
theorem own_in2 {x : Int32} (h : 0 ≤ x.toInt ∧ x.toInt < 2) : x = 0 ∨ x = 1 := by
  rcases (by omega : x.toInt = 0 ∨ x.toInt = 1) with q | q
  · exact .inl (own_i32 (k := 0) q)
  · exact .inr (own_i32 (k := 1) q)
theorem own_in3 {x : Int32} (h : 0 ≤ x.toInt ∧ x.toInt < 3) : x = 0 ∨ x = 1 ∨ x = 2 := by
  rcases (by omega : x.toInt = 0 ∨ x.toInt = 1 ∨ x.toInt = 2) with q | q | q
  · exact .inl (own_i32 (k := 0) q)
  · exact .inr (.inl (own_i32 (k := 1) q))
  · exact .inr (.inr (own_i32 (k := 2) q))
theorem own_in4 {x : Int32} (h : 0 ≤ x.toInt ∧ x.toInt < 4) : x = 0 ∨ x = 1 ∨ x = 2 ∨ x = 3 := by
  rcases (by omega : x.toInt = 0 ∨ x.toInt = 1 ∨ x.toInt = 2 ∨ x.toInt = 3) with q | q | q | q
  · exact .inl (own_i32 (k := 0) q)
  · exact .inr (.inl (own_i32 (k := 1) q))
  · exact .inr (.inr (.inl (own_i32 (k := 2) q)))
  · exact .inr (.inr (.inr (own_i32 (k := 3) q)))
theorem own_in5 {x : Int32} (h : 0 ≤ x.toInt ∧ x.toInt < 5) : x = 0 ∨ x = 1 ∨ x = 2 ∨ x = 3 ∨ x = 4 := by
  rcases (by omega : x.toInt = 0 ∨ x.toInt = 1 ∨ x.toInt = 2 ∨ x.toInt = 3 ∨ x.toInt = 4) with q | q | q | q | q
  · exact .inl (own_i32 (k := 0) q)
  · exact .inr (.inl (own_i32 (k := 1) q))
  · exact .inr (.inr (.inl (own_i32 (k := 2) q)))
  · exact .inr (.inr (.inr (.inl (own_i32 (k := 3) q))))
  · exact .inr (.inr (.inr (.inr (own_i32 (k := 4) q))))
theorem own_in6 {x : Int32} (h : 0 ≤ x.toInt ∧ x.toInt < 6) : x = 0 ∨ x = 1 ∨ x = 2 ∨ x = 3 ∨ x = 4 ∨ x = 5 := by
  rcases (by omega : x.toInt = 0 ∨ x.toInt = 1 ∨ x.toInt = 2 ∨ x.toInt = 3 ∨ x.toInt = 4 ∨ x.toInt = 5) with q | q | q | q | q | q
  · exact .inl (own_i32 (k := 0) q)
  · exact .inr (.inl (own_i32 (k := 1) q))
  · exact .inr (.inr (.inl (own_i32 (k := 2) q)))
  · exact .inr (.inr (.inr (.inl (own_i32 (k := 3) q))))
  · exact .inr (.inr (.inr (.inr (.inl (own_i32 (k := 4) q)))))
  · exact .inr (.inr (.inr (.inr (.inr (own_i32 (k := 5) q)))))
theorem own_in7 {x : Int32} (h : 0 ≤ x.toInt ∧ x.toInt < 7) : x = 0 ∨ x = 1 ∨ x = 2 ∨ x = 3 ∨ x = 4 ∨ x = 5 ∨ x = 6 := by
  rcases (by omega : x.toInt = 0 ∨ x.toInt = 1 ∨ x.toInt = 2 ∨ x.toInt = 3 ∨ x.toInt = 4 ∨ x.toInt = 5 ∨ x.toInt = 6) with q | q | q | q | q | q | q
  · exact .inl (own_i32 (k := 0) q)
  · exact .inr (.inl (own_i32 (k := 1) q))
  · exact .inr (.inr (.inl (own_i32 (k := 2) q)))
  · exact .inr (.inr (.inr (.inl (own_i32 (k := 3) q))))
  · exact .inr (.inr (.inr (.inr (.inl (own_i32 (k := 4) q)))))
  · exact .inr (.inr (.inr (.inr (.inr (.inl (own_i32 (k := 5) q))))))
  · exact .inr (.inr (.inr (.inr (.inr (.inr (own_i32 (k := 6) q))))))
theorem own_ef0 (m : MethodId) (x0 : Int32) : entryFrame m #[(.int x0)] maxLocals = mkF m 0 #[.val (.int x0), .unset, .unset, .unset, .unset] [] := by first | (simp [entryFrame, mkF, argsToLocals, Value.category, maxLocals]; done) | rfl
theorem own_ef1 (m : MethodId) (x0 : Addr) : entryFrame m #[(.ref x0)] 1 = mkF m 0 #[.val (.ref x0)] [] := by first | (simp [entryFrame, mkF, argsToLocals, Value.category]; done) | rfl
theorem dd0_0 : decode prog_28_method_4_code 0 = .ok (.aload_n 0, 1) := by decide +kernel
theorem dd0_1 : decode prog_28_method_4_code 1 = .ok (.getfield 38, 3) := by decide +kernel
theorem dd0_4 : decode prog_28_method_4_code 4 = .ok (.ifnull 7, 3) := by decide +kernel
theorem dd0_7 : decode prog_28_method_4_code 7 = .ok (.iconst 1, 1) := by decide +kernel
theorem dd0_8 : decode prog_28_method_4_code 8 = .ok (.goto 4, 3) := by decide +kernel
theorem dd0_12 : decode prog_28_method_4_code 12 = .ok (.ireturn, 1) := by decide +kernel
def own_Q2 (Z : State) (ob_2 : Addr) (ob_3 : Addr) (h0 : Heap) (n0 : Nat) (v : Option Value) (h : Heap) (L : List Loc) : Prop := (v = some (.int 1) ∧ Fr n0 L ∧ h = h0)
theorem own_pn0 : plainName "com/example/offset/offset/model/SplitKind" = true := by first | (simp [plainName, overriddenIn]; done) | decide +kernel
set_option maxRecDepth 65536 in
set_option maxHeartbeats 40000000 in
theorem own_rm2 (l : Launch) (Z : State) (a0 : Array Value) (hw : ∀ d ∈ tables_1, d.before a0 Z = true) (ws : List Jvm.Cond) (ob_2 : Addr) (ob_3 : Addr) (h0 : Heap) (n0 : Nat) (Z0 : n0 ≤ h0.size) (O0 : Old Z n0 h0) (I21 : Fld Z Z.heap ob_2 "com/example/offset/offset/model/SplitKind" "movement" "Lcom/example/offset/offset/model/MovementType;" (.ref ob_3)) :
    own_Met l Z h0 (⟨"com/example/offset/offset/model/SplitKind", "isWalletShare", "()Z"⟩ : MethodName) prog_28_method_4_code 1 (Option.some FieldType.boolean) ws ({ frames := 0, cells := 0, slots := 0, locals := 0 } : Room) #[(.ref ob_2)] (own_Q2 Z ob_2 ob_3 h0 n0) 0 0 := by
  refine MetFree.of_bodySF (plainFor_of_name own_pn0) hisR ?_
  intro p e s m args below meth c s₁ Bd hml0 hP hK
  obtain ⟨rfl, hZ, hh⟩ := hP
  have hx := Bd.exec
  have hby := Bd.bytes
  have hml : c.maxLocals = 1 := hml0
  have hown : s.vm.findClass "com/example/offset/offset/model/SplitKind" = some m.cls := findClass_of_methodNamed Bd.named
  have hnm := (name_of_methodNamed Bd.named Bd.method).1
  have X0 : Stand p l e ({ frames := 0, cells := 0, slots := 0, locals := 0 } : Room) s m #[(.ref ob_2)] below meth c s₁ [] 0 0 := Stand.of_body Bd
  have e0 : s₁.heap = h0 := by rw [← hh, Bd.state]; rfl
  have N0 := Fr.nil n0
  show own_G p e below (s₁.setTop (entryFrame m #[(.ref ob_2)] 1)) (own_P s (own_Q2 Z ob_2 ob_3 h0 n0) 0 0)
  refine own_cast (own_ef1 m ob_2) ?_
  show own_G p e below (s₁.setTop (mkF m 0 #[rv ob_2] [])) _
  refine oS (fun _ => XS.aloadN X0.here hx rfl (hb hby dd0_0) rfl rfl) ?_
  have F22 : Fld Z h0 ob_2 "com/example/offset/offset/model/SplitKind" "movement" "Lcom/example/offset/offset/model/MovementType;" (.ref ob_3) := Fld.ext O0.2 I21
  obtain ⟨T23, X24, e25, s26⟩ := getF X0 hx hZ hown (host := "") (Or.inl (oW hw 9 rfl)) Via.refl e0 F22 (g := (mkF m 1 #[rv ob_2] [(.ref ob_2)])) rfl rfl (hb hby dd0_1)
  refine oS s26 ?_
  show own_G p e below (T23.setTop (mkF m 4 #[rv ob_2] [(.ref ob_3)])) _
  refine oS (fun _ => XS.ifnullNo X24.here hx rfl (hb hby dd0_4) rfl) ?_
  show own_G p e below (T23.setTop (mkF m 7 #[rv ob_2] [])) _
  refine oS (fun _ => XS.iconst X24.here hx rfl (hb hby dd0_7) ) ?_
  refine oS (fun _ => XS.goto X24.here hx rfl (pc0 := 8) (pc' := 12) rfl (hb hby dd0_8) (by decide) (by decide)) ?_
  show own_G p e below (T23.setTop (mkF m 12 #[rv ob_2] [(.int 1)])) _
  exact own_retN X24 hx (t := .boolean) Bd.notSynchronized Bd.returns (by simp) (hb hby dd0_12) (by decide) e25 (by decide) (by decide) (⟨rfl, N0, rfl⟩)
theorem own_pd0 : parseMethodDescriptor "()Z" = some ⟨[], (some .boolean)⟩ := by decide +kernel
theorem dd1_0 : decode prog_28_method_5_code 0 = .ok (.aload_n 0, 1) := by decide +kernel
theorem dd1_1 : decode prog_28_method_5_code 1 = .ok (.getfield 38, 3) := by decide +kernel
theorem dd1_4 : decode prog_28_method_5_code 4 = .ok (.areturn, 1) := by decide +kernel
def own_Q3 (Z : State) (ob_2 : Addr) (ob_3 : Addr) (h0 : Heap) (n0 : Nat) (v : Option Value) (h : Heap) (L : List Loc) : Prop := (v = some (.ref ob_3) ∧ Fr n0 L ∧ h = h0)
set_option maxRecDepth 65536 in
set_option maxHeartbeats 40000000 in
theorem own_rm3 (l : Launch) (Z : State) (a0 : Array Value) (hw : ∀ d ∈ tables_1, d.before a0 Z = true) (ws : List Jvm.Cond) (ob_2 : Addr) (ob_3 : Addr) (h0 : Heap) (n0 : Nat) (Z0 : n0 ≤ h0.size) (O0 : Old Z n0 h0) (I41 : Fld Z Z.heap ob_2 "com/example/offset/offset/model/SplitKind" "movement" "Lcom/example/offset/offset/model/MovementType;" (.ref ob_3)) :
    own_Met l Z h0 (⟨"com/example/offset/offset/model/SplitKind", "movement", "()Lcom/example/offset/offset/model/MovementType;"⟩ : MethodName) prog_28_method_5_code 1 (Option.some (FieldType.object "com/example/offset/offset/model/MovementType")) ws ({ frames := 0, cells := 0, slots := 0, locals := 0 } : Room) #[(.ref ob_2)] (own_Q3 Z ob_2 ob_3 h0 n0) 0 0 := by
  refine MetFree.of_bodySF (plainFor_of_name own_pn0) hisR ?_
  intro p e s m args below meth c s₁ Bd hml0 hP hK
  obtain ⟨rfl, hZ, hh⟩ := hP
  have hx := Bd.exec
  have hby := Bd.bytes
  have hml : c.maxLocals = 1 := hml0
  have hown : s.vm.findClass "com/example/offset/offset/model/SplitKind" = some m.cls := findClass_of_methodNamed Bd.named
  have hnm := (name_of_methodNamed Bd.named Bd.method).1
  have X0 : Stand p l e ({ frames := 0, cells := 0, slots := 0, locals := 0 } : Room) s m #[(.ref ob_2)] below meth c s₁ [] 0 0 := Stand.of_body Bd
  have e0 : s₁.heap = h0 := by rw [← hh, Bd.state]; rfl
  have N0 := Fr.nil n0
  show own_G p e below (s₁.setTop (entryFrame m #[(.ref ob_2)] 1)) (own_P s (own_Q3 Z ob_2 ob_3 h0 n0) 0 0)
  refine own_cast (own_ef1 m ob_2) ?_
  show own_G p e below (s₁.setTop (mkF m 0 #[rv ob_2] [])) _
  refine oS (fun _ => XS.aloadN X0.here hx rfl (hb hby dd1_0) rfl rfl) ?_
  have F42 : Fld Z h0 ob_2 "com/example/offset/offset/model/SplitKind" "movement" "Lcom/example/offset/offset/model/MovementType;" (.ref ob_3) := Fld.ext O0.2 I41
  obtain ⟨T43, X44, e45, s46⟩ := getF X0 hx hZ hown (host := "") (Or.inl (oW hw 9 rfl)) Via.refl e0 F42 (g := (mkF m 1 #[rv ob_2] [(.ref ob_2)])) rfl rfl (hb hby dd1_1)
  refine oS s46 ?_
  show own_G p e below (T43.setTop (mkF m 4 #[rv ob_2] [(.ref ob_3)])) _
  exact own_retA X44 hx Bd.notSynchronized Bd.returns rfl rfl (hb hby dd1_4) e45 (by decide) (by decide) (⟨rfl, N0, rfl⟩)
theorem own_pd1 : parseMethodDescriptor "()Lcom/example/offset/offset/model/MovementType;" = some ⟨[], (some (.object "com/example/offset/offset/model/MovementType"))⟩ := by decide +kernel
theorem dd0_11 : decode prog_28_method_4_code 11 = .ok (.iconst 0, 1) := by decide +kernel
def own_Q4 (Z : State) (ob_8 : Addr) (h0 : Heap) (n0 : Nat) (v : Option Value) (h : Heap) (L : List Loc) : Prop := (v = some (.int 0) ∧ Fr n0 L ∧ h = h0)
set_option maxRecDepth 65536 in
set_option maxHeartbeats 40000000 in
theorem own_rm4 (l : Launch) (Z : State) (a0 : Array Value) (hw : ∀ d ∈ tables_1, d.before a0 Z = true) (ws : List Jvm.Cond) (ob_8 : Addr) (h0 : Heap) (n0 : Nat) (Z0 : n0 ≤ h0.size) (O0 : Old Z n0 h0) (I99 : Fld Z Z.heap ob_8 "com/example/offset/offset/model/SplitKind" "movement" "Lcom/example/offset/offset/model/MovementType;" .null) :
    own_Met l Z h0 (⟨"com/example/offset/offset/model/SplitKind", "isWalletShare", "()Z"⟩ : MethodName) prog_28_method_4_code 1 (Option.some FieldType.boolean) ws ({ frames := 0, cells := 0, slots := 0, locals := 0 } : Room) #[(.ref ob_8)] (own_Q4 Z ob_8 h0 n0) 0 0 := by
  refine MetFree.of_bodySF (plainFor_of_name own_pn0) hisR ?_
  intro p e s m args below meth c s₁ Bd hml0 hP hK
  obtain ⟨rfl, hZ, hh⟩ := hP
  have hx := Bd.exec
  have hby := Bd.bytes
  have hml : c.maxLocals = 1 := hml0
  have hown : s.vm.findClass "com/example/offset/offset/model/SplitKind" = some m.cls := findClass_of_methodNamed Bd.named
  have hnm := (name_of_methodNamed Bd.named Bd.method).1
  have X0 : Stand p l e ({ frames := 0, cells := 0, slots := 0, locals := 0 } : Room) s m #[(.ref ob_8)] below meth c s₁ [] 0 0 := Stand.of_body Bd
  have e0 : s₁.heap = h0 := by rw [← hh, Bd.state]; rfl
  have N0 := Fr.nil n0
  show own_G p e below (s₁.setTop (entryFrame m #[(.ref ob_8)] 1)) (own_P s (own_Q4 Z ob_8 h0 n0) 0 0)
  refine own_cast (own_ef1 m ob_8) ?_
  show own_G p e below (s₁.setTop (mkF m 0 #[rv ob_8] [])) _
  refine oS (fun _ => XS.aloadN X0.here hx rfl (hb hby dd0_0) rfl rfl) ?_
  have F100 : Fld Z h0 ob_8 "com/example/offset/offset/model/SplitKind" "movement" "Lcom/example/offset/offset/model/MovementType;" .null := Fld.ext O0.2 I99
  obtain ⟨T101, X102, e103, s104⟩ := getF X0 hx hZ hown (host := "") (Or.inl (oW hw 9 rfl)) Via.refl e0 F100 (g := (mkF m 1 #[rv ob_8] [(.ref ob_8)])) rfl rfl (hb hby dd0_1)
  refine oS s104 ?_
  show own_G p e below (T101.setTop (mkF m 4 #[rv ob_8] [.null])) _
  refine oS (fun _ => XS.ifnullYes X102.here hx rfl (pc0 := 4) (pc' := 11) rfl (hb hby dd0_4) rfl (by decide) (by decide)) ?_
  show own_G p e below (T101.setTop (mkF m 11 #[rv ob_8] [])) _
  refine oS (fun _ => XS.iconst X102.here hx rfl (hb hby dd0_11) ) ?_
  exact own_retN X102 hx (t := .boolean) Bd.notSynchronized Bd.returns (by simp) (hb hby dd0_12) (by decide) e103 (by decide) (by decide) (⟨rfl, N0, rfl⟩)
def own_Q5 (Z : State) (ob_8 : Addr) (h0 : Heap) (n0 : Nat) (v : Option Value) (h : Heap) (L : List Loc) : Prop := (v = some .null ∧ Fr n0 L ∧ h = h0)
set_option maxRecDepth 65536 in
set_option maxHeartbeats 40000000 in
theorem own_rm5 (l : Launch) (Z : State) (a0 : Array Value) (hw : ∀ d ∈ tables_1, d.before a0 Z = true) (ws : List Jvm.Cond) (ob_8 : Addr) (h0 : Heap) (n0 : Nat) (Z0 : n0 ≤ h0.size) (O0 : Old Z n0 h0) (I119 : Fld Z Z.heap ob_8 "com/example/offset/offset/model/SplitKind" "movement" "Lcom/example/offset/offset/model/MovementType;" .null) :
    own_Met l Z h0 (⟨"com/example/offset/offset/model/SplitKind", "movement", "()Lcom/example/offset/offset/model/MovementType;"⟩ : MethodName) prog_28_method_5_code 1 (Option.some (FieldType.object "com/example/offset/offset/model/MovementType")) ws ({ frames := 0, cells := 0, slots := 0, locals := 0 } : Room) #[(.ref ob_8)] (own_Q5 Z ob_8 h0 n0) 0 0 := by
  refine MetFree.of_bodySF (plainFor_of_name own_pn0) hisR ?_
  intro p e s m args below meth c s₁ Bd hml0 hP hK
  obtain ⟨rfl, hZ, hh⟩ := hP
  have hx := Bd.exec
  have hby := Bd.bytes
  have hml : c.maxLocals = 1 := hml0
  have hown : s.vm.findClass "com/example/offset/offset/model/SplitKind" = some m.cls := findClass_of_methodNamed Bd.named
  have hnm := (name_of_methodNamed Bd.named Bd.method).1
  have X0 : Stand p l e ({ frames := 0, cells := 0, slots := 0, locals := 0 } : Room) s m #[(.ref ob_8)] below meth c s₁ [] 0 0 := Stand.of_body Bd
  have e0 : s₁.heap = h0 := by rw [← hh, Bd.state]; rfl
  have N0 := Fr.nil n0
  show own_G p e below (s₁.setTop (entryFrame m #[(.ref ob_8)] 1)) (own_P s (own_Q5 Z ob_8 h0 n0) 0 0)
  refine own_cast (own_ef1 m ob_8) ?_
  show own_G p e below (s₁.setTop (mkF m 0 #[rv ob_8] [])) _
  refine oS (fun _ => XS.aloadN X0.here hx rfl (hb hby dd1_0) rfl rfl) ?_
  have F120 : Fld Z h0 ob_8 "com/example/offset/offset/model/SplitKind" "movement" "Lcom/example/offset/offset/model/MovementType;" .null := Fld.ext O0.2 I119
  obtain ⟨T121, X122, e123, s124⟩ := getF X0 hx hZ hown (host := "") (Or.inl (oW hw 9 rfl)) Via.refl e0 F120 (g := (mkF m 1 #[rv ob_8] [(.ref ob_8)])) rfl rfl (hb hby dd1_1)
  refine oS s124 ?_
  show own_G p e below (T121.setTop (mkF m 4 #[rv ob_8] [.null])) _
  exact own_retA X122 hx Bd.notSynchronized Bd.returns rfl rfl (hb hby dd1_4) e123 (by decide) (by decide) (⟨rfl, N0, rfl⟩)
def own_Q1 (Z : State) (in_1 : Int32) (ob_2 : Addr) (ob_3 : Addr) (ob_5 : Addr) (ob_6 : Addr) (ob_8 : Addr) (ob_4 : Addr) (ob_7 : Addr) (h0 : Heap) (n0 : Nat) (v : Option Value) (h : Heap) (L : List Loc) : Prop := (v = some (.int 1) ∧ Fr n0 L)
theorem own_pn1 : plainName "com/example/offset/offset/model/SplitKindIsWalletSharePinLaw" = true := by first | (simp [plainName, overriddenIn]; done) | decide +kernel
set_option maxRecDepth 65536 in
set_option maxHeartbeats 40000000 in
theorem own_rm1 (l : Launch) (Z : State) (a0 : Array Value) (hw : ∀ d ∈ tables_1, d.before a0 Z = true) (ws : List Jvm.Cond) (in_1 : Int32) (ob_2 : Addr) (ob_3 : Addr) (ob_5 : Addr) (ob_6 : Addr) (ob_8 : Addr) (ob_4 : Addr) (ob_7 : Addr) (h0 : Heap) (n0 : Nat) (Z0 : n0 ≤ h0.size) (O0 : Old Z n0 h0) (I14 : Sta Z Z.heap "com/example/offset/offset/model/SplitKind" "ORDER_EARNING" "Lcom/example/offset/offset/model/SplitKind;" (.ref ob_2)) (I20 : Fld Z Z.heap ob_2 "com/example/offset/offset/model/SplitKind" "movement" "Lcom/example/offset/offset/model/MovementType;" (.ref ob_3)) (I35 : Exa Z Z.heap ob_2 "com/example/offset/offset/model/SplitKind") (I59 : Sta Z Z.heap "com/example/offset/offset/model/SplitKind" "DELIVERY_EARNING" "Lcom/example/offset/offset/model/SplitKind;" (.ref ob_5)) (I65 : Fld Z Z.heap ob_5 "com/example/offset/offset/model/SplitKind" "movement" "Lcom/example/offset/offset/model/MovementType;" (.ref ob_6)) (I74 : Exa Z Z.heap ob_5 "com/example/offset/offset/model/SplitKind") (I92 : Sta Z Z.heap "com/example/offset/offset/model/SplitKind" "COMMISSION" "Lcom/example/offset/offset/model/SplitKind;" (.ref ob_8)) (I98 : Fld Z Z.heap ob_8 "com/example/offset/offset/model/SplitKind" "movement" "Lcom/example/offset/offset/model/MovementType;" .null) (I113 : Exa Z Z.heap ob_8 "com/example/offset/offset/model/SplitKind") (I137 : Sta Z Z.heap "com/example/offset/offset/model/SplitKind" "SERVICE_FEE" "Lcom/example/offset/offset/model/SplitKind;" (.ref ob_4)) (I143 : Fld Z Z.heap ob_4 "com/example/offset/offset/model/SplitKind" "movement" "Lcom/example/offset/offset/model/MovementType;" .null) (I152 : Exa Z Z.heap ob_4 "com/example/offset/offset/model/SplitKind") (I170 : Sta Z Z.heap "com/example/offset/offset/model/SplitKind" "DELIVERY_MARGIN" "Lcom/example/offset/offset/model/SplitKind;" (.ref ob_7)) (I176 : Fld Z Z.heap ob_7 "com/example/offset/offset/model/SplitKind" "movement" "Lcom/example/offset/offset/model/MovementType;" .null) (I185 : Exa Z Z.heap ob_7 "com/example/offset/offset/model/SplitKind") :
    own_Met l Z h0 x code maxLocals ret ws room_1 #[(.int in_1)] (own_Q1 Z in_1 ob_2 ob_3 ob_5 ob_6 ob_8 ob_4 ob_7 h0 n0) 0 0 := by
  refine MetFree.of_bodySF (plainFor_of_name own_pn1) hisR ?_
  intro p e s m args below meth c s₁ Bd hml0 hP hK
  obtain ⟨rfl, hZ, hh⟩ := hP
  have hx := Bd.exec
  have hby := Bd.bytes
  have hml : c.maxLocals = 5 := hml0
  have hown : s.vm.findClass "com/example/offset/offset/model/SplitKindIsWalletSharePinLaw" = some m.cls := findClass_of_methodNamed Bd.named
  have hnm := (name_of_methodNamed Bd.named Bd.method).1
  have X0 : Stand p l e room_1 s m #[(.int in_1)] below meth c s₁ [] 0 0 := Stand.of_body Bd
  have e0 : s₁.heap = h0 := by rw [← hh, Bd.state]; rfl
  have N0 := Fr.nil n0
  show own_G p e below (s₁.setTop (entryFrame m #[(.int in_1)] maxLocals)) (own_P s (own_Q1 Z in_1 ob_2 ob_3 ob_5 ob_6 ob_8 ob_4 ob_7 h0 n0) 0 0)
  refine own_cast (own_ef0 m in_1) ?_
  show own_G p e below (s₁.setTop (mkF m 0 #[iv in_1, .unset, .unset, .unset, .unset] [])) _
  refine oS (fun _ => XS.iloadN X0.here hx rfl (hb hby at_0) rfl) ?_
  refine oS (fun _ => X0.ldcI hx hown (mvT hZ (oW hw 0 rfl)) rfl (hb hby at_1)) ?_
  show own_G p e below (s₁.setTop (mkF m 3 #[iv in_1, .unset, .unset, .unset, .unset] [(.int 2147483647), (.int in_1)])) _
  refine oS (fun _ => XS.iand X0.here hx rfl (hb hby at_3) rfl) ?_
  refine oS (fun _ => XS.iconst X0.here hx rfl (hb hby at_4) ) ?_
  refine oS (fun _ => iremM X0 hx rfl (hb hby at_5) rfl (by decide)) ?_
  show own_G p e below (s₁.setTop (mkF m 6 #[iv in_1, .unset, .unset, .unset, .unset] [(.int ((in_1 &&& 2147483647) % 5))])) _
  rcases own_in5 (own_modlt in_1 5 (by decide)) with q9 | q10 | q11 | q12 | q13
  · skip
    refine own_cast (g' := (mkF m 6 #[iv in_1, .unset, .unset, .unset, .unset] [(.int 0)])) (by rw [q9]) ?_
    show own_G p e below (s₁.setTop (mkF m 6 #[iv in_1, .unset, .unset, .unset, .unset] [(.int 0)])) _
    refine oS (fun _ => XS.istoreN X0.here hx rfl (hb hby at_6) rfl (l' := #[iv in_1, iv 0, .unset, .unset, .unset]) rfl) ?_
    refine oS (fun _ => XS.iloadN X0.here hx rfl (hb hby at_7) rfl) ?_
    refine oS (fun _ => XS.ifNo X0.here hx rfl (hb hby at_8) rfl (XT.i0_ne_f (by decide))) ?_
    show own_G p e below (s₁.setTop (mkF m 11 #[iv in_1, iv 0, .unset, .unset, .unset] [])) _
    have F15 : Sta Z h0 "com/example/offset/offset/model/SplitKind" "ORDER_EARNING" "Lcom/example/offset/offset/model/SplitKind;" (.ref ob_2) := Sta.ext O0.2 I14
    obtain ⟨T16, X17, e18, s19⟩ := getS X0 hx hZ hown (host := "") (oW hw 1 rfl) Via.refl e0 F15 (g := (mkF m 11 #[iv in_1, iv 0, .unset, .unset, .unset] [])) rfl (hb hby at_11)
    refine oS s19 ?_
    show own_G p e below (T16.setTop (mkF m 14 #[iv in_1, iv 0, .unset, .unset, .unset] [(.ref ob_2)])) _
    refine oS (fun _ => XS.astoreN X17.here hx rfl (hb hby at_14) rfl rfl (l' := #[iv in_1, iv 0, rv ob_2, .unset, .unset]) rfl) ?_
    refine oS (fun _ => XS.iconst X17.here hx rfl (hb hby at_15) ) ?_
    refine oS (fun _ => XS.istoreN X17.here hx rfl (hb hby at_16) rfl (l' := #[iv in_1, iv 0, rv ob_2, iv 1, .unset]) rfl) ?_
    refine oS (fun _ => XS.goto X17.here hx rfl (pc0 := 17) (pc' := 68) rfl (hb hby at_17) (by decide) (by decide)) ?_
    show own_G p e below (T16.setTop (mkF m 68 #[iv in_1, iv 0, rv ob_2, iv 1, .unset] [])) _
    refine oS (fun _ => XS.aloadN X17.here hx rfl (hb hby at_68) rfl rfl) ?_
    have F36 : Exa Z h0 ob_2 "com/example/offset/offset/model/SplitKind" := Exa.ext O0.2 I35
    obtain ⟨T27, h28, v29, L30, X31, e32, q33, s34⟩ := own_callV X17 hx hZ hown e18 (y := (⟨"com/example/offset/offset/model/SplitKind", "isWalletShare", "()Z"⟩ : MethodName)) (z := (⟨"com/example/offset/offset/model/SplitKind", "isWalletShare", "()Z"⟩ : MethodName)) (C := "com/example/offset/offset/model/SplitKind") (b := ob_2) (oW hw 4 rfl) (oW hw 5 rfl) (notFace_of_selects (args := #[]) (mvT hZ (oW hw 7 rfl))) (oW hw 7 rfl) (oW hw 6 rfl) (oW hw 2 rfl) (oW hw 8 rfl) (by decide) F36 (W := 0) (own_rm2 l Z a0 hw [] ob_2 ob_3 h0 n0 Z0 O0 I20) (by decide) (by decide) (by decide) (by decide) (g := (mkF m 69 #[iv in_1, iv 0, rv ob_2, iv 1, .unset] [(.ref ob_2)])) rfl (by rw [hml]; rfl) (argsL := []) (rest := []) rfl (lenOf own_pd0 rfl) rfl (by show 2 * 0 + _ ≤ _; exact Nat.le_of_eq rfl) (hb hby at_69)
    refine oS s34 ?_
    obtain ⟨rfl, N37, K38⟩ := q33
    have N39 := Fr.app N0 N37
    have e40 := e32.trans K38
    show own_G p e below (T27.setTop (mkF m 72 #[iv in_1, iv 0, rv ob_2, iv 1, .unset] [(.int 1)])) _
    refine oS (fun _ => XS.istore X31.here hx rfl (hb hby at_72) rfl (l' := #[iv in_1, iv 0, rv ob_2, iv 1, iv 1]) rfl) ?_
    refine oS (fun _ => XS.iload X31.here hx rfl (hb hby at_74) rfl) ?_
    refine oS (fun _ => XS.iloadN X31.here hx rfl (hb hby at_76) rfl) ?_
    refine oS (fun _ => XS.icmpNo X31.here hx rfl (hb hby at_77) rfl (XT.ii_ne_f (by decide))) ?_
    show own_G p e below (T27.setTop (mkF m 80 #[iv in_1, iv 0, rv ob_2, iv 1, iv 1] [])) _
    refine oS (fun _ => XS.iload X31.here hx rfl (hb hby at_80) rfl) ?_
    refine oS (fun _ => XS.aloadN X31.here hx rfl (hb hby at_82) rfl rfl) ?_
    obtain ⟨T47, h48, v49, L50, X51, e52, q53, s54⟩ := own_callV X31 hx hZ hown e40 (y := (⟨"com/example/offset/offset/model/SplitKind", "movement", "()Lcom/example/offset/offset/model/MovementType;"⟩ : MethodName)) (z := (⟨"com/example/offset/offset/model/SplitKind", "movement", "()Lcom/example/offset/offset/model/MovementType;"⟩ : MethodName)) (C := "com/example/offset/offset/model/SplitKind") (b := ob_2) (oW hw 13 rfl) (oW hw 14 rfl) (notFace_of_selects (args := #[]) (mvT hZ (oW hw 16 rfl))) (oW hw 16 rfl) (oW hw 15 rfl) (oW hw 2 rfl) (oW hw 17 rfl) (by decide) F36 (W := 1) (own_rm3 l Z a0 hw [] ob_2 ob_3 h0 n0 Z0 O0 I20) (by decide) (by decide) (by decide) (by decide) (g := (mkF m 83 #[iv in_1, iv 0, rv ob_2, iv 1, iv 1] [(.ref ob_2), (.int 1)])) rfl (by rw [hml]; rfl) (argsL := []) (rest := [(.int 1)]) rfl (lenOf own_pd1 rfl) rfl (by show 2 * 0 + _ ≤ _; exact Nat.le_of_eq rfl) (hb hby at_83)
    refine oS s54 ?_
    obtain ⟨rfl, N55, K56⟩ := q53
    have N57 := Fr.app N39 N55
    have e58 := e52.trans K56
    show own_G p e below (T47.setTop (mkF m 86 #[iv in_1, iv 0, rv ob_2, iv 1, iv 1] [(.ref ob_3), (.int 1)])) _
    refine oS (fun _ => XS.ifnullNo X51.here hx rfl (hb hby at_86) rfl) ?_
    show own_G p e below (T47.setTop (mkF m 89 #[iv in_1, iv 0, rv ob_2, iv 1, iv 1] [(.int 1)])) _
    refine oS (fun _ => XS.iconst X51.here hx rfl (hb hby at_89) ) ?_
    refine oS (fun _ => XS.goto X51.here hx rfl (pc0 := 90) (pc' := 94) rfl (hb hby at_90) (by decide) (by decide)) ?_
    show own_G p e below (T47.setTop (mkF m 94 #[iv in_1, iv 0, rv ob_2, iv 1, iv 1] [(.int 1), (.int 1)])) _
    refine oS (fun _ => XS.icmpNo X51.here hx rfl (hb hby at_94) rfl (XT.ii_ne_f (by decide))) ?_
    show own_G p e below (T47.setTop (mkF m 97 #[iv in_1, iv 0, rv ob_2, iv 1, iv 1] [])) _
    refine oS (fun _ => XS.iconst X51.here hx rfl (hb hby at_97) ) ?_
    refine oS (fun _ => XS.goto X51.here hx rfl (pc0 := 98) (pc' := 102) rfl (hb hby at_98) (by decide) (by decide)) ?_
    show own_G p e below (T47.setTop (mkF m 102 #[iv in_1, iv 0, rv ob_2, iv 1, iv 1] [(.int 1)])) _
    exact own_retN X51 hx (t := .boolean) Bd.notSynchronized Bd.returns (by simp) (hb hby at_102) (by decide) e58 (by decide) (by decide) (⟨rfl, N57⟩)
  · skip
    refine own_cast (g' := (mkF m 6 #[iv in_1, .unset, .unset, .unset, .unset] [(.int 1)])) (by rw [q10]) ?_
    show own_G p e below (s₁.setTop (mkF m 6 #[iv in_1, .unset, .unset, .unset, .unset] [(.int 1)])) _
    refine oS (fun _ => XS.istoreN X0.here hx rfl (hb hby at_6) rfl (l' := #[iv in_1, iv 1, .unset, .unset, .unset]) rfl) ?_
    refine oS (fun _ => XS.iloadN X0.here hx rfl (hb hby at_7) rfl) ?_
    refine oS (fun _ => XS.ifYes X0.here hx rfl (pc0 := 8) (pc' := 20) rfl (hb hby at_8) rfl (XT.i0_ne_t (by decide)) (by decide) (by decide)) ?_
    show own_G p e below (s₁.setTop (mkF m 20 #[iv in_1, iv 1, .unset, .unset, .unset] [])) _
    refine oS (fun _ => XS.iloadN X0.here hx rfl (hb hby at_20) rfl) ?_
    refine oS (fun _ => XS.iconst X0.here hx rfl (hb hby at_21) ) ?_
    refine oS (fun _ => XS.icmpNo X0.here hx rfl (hb hby at_22) rfl (XT.ii_ne_f (by decide))) ?_
    show own_G p e below (s₁.setTop (mkF m 25 #[iv in_1, iv 1, .unset, .unset, .unset] [])) _
    have F60 : Sta Z h0 "com/example/offset/offset/model/SplitKind" "DELIVERY_EARNING" "Lcom/example/offset/offset/model/SplitKind;" (.ref ob_5) := Sta.ext O0.2 I59
    obtain ⟨T61, X62, e63, s64⟩ := getS X0 hx hZ hown (host := "") (oW hw 20 rfl) Via.refl e0 F60 (g := (mkF m 25 #[iv in_1, iv 1, .unset, .unset, .unset] [])) rfl (hb hby at_25)
    refine oS s64 ?_
    show own_G p e below (T61.setTop (mkF m 28 #[iv in_1, iv 1, .unset, .unset, .unset] [(.ref ob_5)])) _
    refine oS (fun _ => XS.astoreN X62.here hx rfl (hb hby at_28) rfl rfl (l' := #[iv in_1, iv 1, rv ob_5, .unset, .unset]) rfl) ?_
    refine oS (fun _ => XS.iconst X62.here hx rfl (hb hby at_29) ) ?_
    refine oS (fun _ => XS.istoreN X62.here hx rfl (hb hby at_30) rfl (l' := #[iv in_1, iv 1, rv ob_5, iv 1, .unset]) rfl) ?_
    refine oS (fun _ => XS.goto X62.here hx rfl (pc0 := 31) (pc' := 68) rfl (hb hby at_31) (by decide) (by decide)) ?_
    show own_G p e below (T61.setTop (mkF m 68 #[iv in_1, iv 1, rv ob_5, iv 1, .unset] [])) _
    refine oS (fun _ => XS.aloadN X62.here hx rfl (hb hby at_68) rfl rfl) ?_
    have F75 : Exa Z h0 ob_5 "com/example/offset/offset/model/SplitKind" := Exa.ext O0.2 I74
    obtain ⟨T66, h67, v68, L69, X70, e71, q72, s73⟩ := own_callV X62 hx hZ hown e63 (y := (⟨"com/example/offset/offset/model/SplitKind", "isWalletShare", "()Z"⟩ : MethodName)) (z := (⟨"com/example/offset/offset/model/SplitKind", "isWalletShare", "()Z"⟩ : MethodName)) (C := "com/example/offset/offset/model/SplitKind") (b := ob_5) (oW hw 4 rfl) (oW hw 5 rfl) (notFace_of_selects (args := #[]) (mvT hZ (oW hw 7 rfl))) (oW hw 7 rfl) (oW hw 6 rfl) (oW hw 2 rfl) (oW hw 8 rfl) (by decide) F75 (W := 0) (own_rm2 l Z a0 hw [] ob_5 ob_6 h0 n0 Z0 O0 I65) (by decide) (by decide) (by decide) (by decide) (g := (mkF m 69 #[iv in_1, iv 1, rv ob_5, iv 1, .unset] [(.ref ob_5)])) rfl (by rw [hml]; rfl) (argsL := []) (rest := []) rfl (lenOf own_pd0 rfl) rfl (by show 2 * 0 + _ ≤ _; exact Nat.le_of_eq rfl) (hb hby at_69)
    refine oS s73 ?_
    obtain ⟨rfl, N76, K77⟩ := q72
    have N78 := Fr.app N0 N76
    have e79 := e71.trans K77
    show own_G p e below (T66.setTop (mkF m 72 #[iv in_1, iv 1, rv ob_5, iv 1, .unset] [(.int 1)])) _
    refine oS (fun _ => XS.istore X70.here hx rfl (hb hby at_72) rfl (l' := #[iv in_1, iv 1, rv ob_5, iv 1, iv 1]) rfl) ?_
    refine oS (fun _ => XS.iload X70.here hx rfl (hb hby at_74) rfl) ?_
    refine oS (fun _ => XS.iloadN X70.here hx rfl (hb hby at_76) rfl) ?_
    refine oS (fun _ => XS.icmpNo X70.here hx rfl (hb hby at_77) rfl (XT.ii_ne_f (by decide))) ?_
    show own_G p e below (T66.setTop (mkF m 80 #[iv in_1, iv 1, rv ob_5, iv 1, iv 1] [])) _
    refine oS (fun _ => XS.iload X70.here hx rfl (hb hby at_80) rfl) ?_
    refine oS (fun _ => XS.aloadN X70.here hx rfl (hb hby at_82) rfl rfl) ?_
    obtain ⟨T80, h81, v82, L83, X84, e85, q86, s87⟩ := own_callV X70 hx hZ hown e79 (y := (⟨"com/example/offset/offset/model/SplitKind", "movement", "()Lcom/example/offset/offset/model/MovementType;"⟩ : MethodName)) (z := (⟨"com/example/offset/offset/model/SplitKind", "movement", "()Lcom/example/offset/offset/model/MovementType;"⟩ : MethodName)) (C := "com/example/offset/offset/model/SplitKind") (b := ob_5) (oW hw 13 rfl) (oW hw 14 rfl) (notFace_of_selects (args := #[]) (mvT hZ (oW hw 16 rfl))) (oW hw 16 rfl) (oW hw 15 rfl) (oW hw 2 rfl) (oW hw 17 rfl) (by decide) F75 (W := 1) (own_rm3 l Z a0 hw [] ob_5 ob_6 h0 n0 Z0 O0 I65) (by decide) (by decide) (by decide) (by decide) (g := (mkF m 83 #[iv in_1, iv 1, rv ob_5, iv 1, iv 1] [(.ref ob_5), (.int 1)])) rfl (by rw [hml]; rfl) (argsL := []) (rest := [(.int 1)]) rfl (lenOf own_pd1 rfl) rfl (by show 2 * 0 + _ ≤ _; exact Nat.le_of_eq rfl) (hb hby at_83)
    refine oS s87 ?_
    obtain ⟨rfl, N88, K89⟩ := q86
    have N90 := Fr.app N78 N88
    have e91 := e85.trans K89
    show own_G p e below (T80.setTop (mkF m 86 #[iv in_1, iv 1, rv ob_5, iv 1, iv 1] [(.ref ob_6), (.int 1)])) _
    refine oS (fun _ => XS.ifnullNo X84.here hx rfl (hb hby at_86) rfl) ?_
    show own_G p e below (T80.setTop (mkF m 89 #[iv in_1, iv 1, rv ob_5, iv 1, iv 1] [(.int 1)])) _
    refine oS (fun _ => XS.iconst X84.here hx rfl (hb hby at_89) ) ?_
    refine oS (fun _ => XS.goto X84.here hx rfl (pc0 := 90) (pc' := 94) rfl (hb hby at_90) (by decide) (by decide)) ?_
    show own_G p e below (T80.setTop (mkF m 94 #[iv in_1, iv 1, rv ob_5, iv 1, iv 1] [(.int 1), (.int 1)])) _
    refine oS (fun _ => XS.icmpNo X84.here hx rfl (hb hby at_94) rfl (XT.ii_ne_f (by decide))) ?_
    show own_G p e below (T80.setTop (mkF m 97 #[iv in_1, iv 1, rv ob_5, iv 1, iv 1] [])) _
    refine oS (fun _ => XS.iconst X84.here hx rfl (hb hby at_97) ) ?_
    refine oS (fun _ => XS.goto X84.here hx rfl (pc0 := 98) (pc' := 102) rfl (hb hby at_98) (by decide) (by decide)) ?_
    show own_G p e below (T80.setTop (mkF m 102 #[iv in_1, iv 1, rv ob_5, iv 1, iv 1] [(.int 1)])) _
    exact own_retN X84 hx (t := .boolean) Bd.notSynchronized Bd.returns (by simp) (hb hby at_102) (by decide) e91 (by decide) (by decide) (⟨rfl, N90⟩)
  · skip
    refine own_cast (g' := (mkF m 6 #[iv in_1, .unset, .unset, .unset, .unset] [(.int 2)])) (by rw [q11]) ?_
    show own_G p e below (s₁.setTop (mkF m 6 #[iv in_1, .unset, .unset, .unset, .unset] [(.int 2)])) _
    refine oS (fun _ => XS.istoreN X0.here hx rfl (hb hby at_6) rfl (l' := #[iv in_1, iv 2, .unset, .unset, .unset]) rfl) ?_
    refine oS (fun _ => XS.iloadN X0.here hx rfl (hb hby at_7) rfl) ?_
    refine oS (fun _ => XS.ifYes X0.here hx rfl (pc0 := 8) (pc' := 20) rfl (hb hby at_8) rfl (XT.i0_ne_t (by decide)) (by decide) (by decide)) ?_
    show own_G p e below (s₁.setTop (mkF m 20 #[iv in_1, iv 2, .unset, .unset, .unset] [])) _
    refine oS (fun _ => XS.iloadN X0.here hx rfl (hb hby at_20) rfl) ?_
    refine oS (fun _ => XS.iconst X0.here hx rfl (hb hby at_21) ) ?_
    refine oS (fun _ => XS.icmpYes X0.here hx rfl (pc0 := 22) (pc' := 34) rfl (hb hby at_22) rfl (XT.ii_ne_t (by decide)) (by decide) (by decide)) ?_
    show own_G p e below (s₁.setTop (mkF m 34 #[iv in_1, iv 2, .unset, .unset, .unset] [])) _
    refine oS (fun _ => XS.iloadN X0.here hx rfl (hb hby at_34) rfl) ?_
    refine oS (fun _ => XS.iconst X0.here hx rfl (hb hby at_35) ) ?_
    refine oS (fun _ => XS.icmpNo X0.here hx rfl (hb hby at_36) rfl (XT.ii_ne_f (by decide))) ?_
    show own_G p e below (s₁.setTop (mkF m 39 #[iv in_1, iv 2, .unset, .unset, .unset] [])) _
    have F93 : Sta Z h0 "com/example/offset/offset/model/SplitKind" "COMMISSION" "Lcom/example/offset/offset/model/SplitKind;" (.ref ob_8) := Sta.ext O0.2 I92
    obtain ⟨T94, X95, e96, s97⟩ := getS X0 hx hZ hown (host := "") (oW hw 25 rfl) Via.refl e0 F93 (g := (mkF m 39 #[iv in_1, iv 2, .unset, .unset, .unset] [])) rfl (hb hby at_39)
    refine oS s97 ?_
    show own_G p e below (T94.setTop (mkF m 42 #[iv in_1, iv 2, .unset, .unset, .unset] [(.ref ob_8)])) _
    refine oS (fun _ => XS.astoreN X95.here hx rfl (hb hby at_42) rfl rfl (l' := #[iv in_1, iv 2, rv ob_8, .unset, .unset]) rfl) ?_
    refine oS (fun _ => XS.iconst X95.here hx rfl (hb hby at_43) ) ?_
    refine oS (fun _ => XS.istoreN X95.here hx rfl (hb hby at_44) rfl (l' := #[iv in_1, iv 2, rv ob_8, iv 0, .unset]) rfl) ?_
    refine oS (fun _ => XS.goto X95.here hx rfl (pc0 := 45) (pc' := 68) rfl (hb hby at_45) (by decide) (by decide)) ?_
    show own_G p e below (T94.setTop (mkF m 68 #[iv in_1, iv 2, rv ob_8, iv 0, .unset] [])) _
    refine oS (fun _ => XS.aloadN X95.here hx rfl (hb hby at_68) rfl rfl) ?_
    have F114 : Exa Z h0 ob_8 "com/example/offset/offset/model/SplitKind" := Exa.ext O0.2 I113
    obtain ⟨T105, h106, v107, L108, X109, e110, q111, s112⟩ := own_callV X95 hx hZ hown e96 (y := (⟨"com/example/offset/offset/model/SplitKind", "isWalletShare", "()Z"⟩ : MethodName)) (z := (⟨"com/example/offset/offset/model/SplitKind", "isWalletShare", "()Z"⟩ : MethodName)) (C := "com/example/offset/offset/model/SplitKind") (b := ob_8) (oW hw 4 rfl) (oW hw 5 rfl) (notFace_of_selects (args := #[]) (mvT hZ (oW hw 7 rfl))) (oW hw 7 rfl) (oW hw 6 rfl) (oW hw 2 rfl) (oW hw 8 rfl) (by decide) F114 (W := 0) (own_rm4 l Z a0 hw [] ob_8 h0 n0 Z0 O0 I98) (by decide) (by decide) (by decide) (by decide) (g := (mkF m 69 #[iv in_1, iv 2, rv ob_8, iv 0, .unset] [(.ref ob_8)])) rfl (by rw [hml]; rfl) (argsL := []) (rest := []) rfl (lenOf own_pd0 rfl) rfl (by show 2 * 0 + _ ≤ _; exact Nat.le_of_eq rfl) (hb hby at_69)
    refine oS s112 ?_
    obtain ⟨rfl, N115, K116⟩ := q111
    have N117 := Fr.app N0 N115
    have e118 := e110.trans K116
    show own_G p e below (T105.setTop (mkF m 72 #[iv in_1, iv 2, rv ob_8, iv 0, .unset] [(.int 0)])) _
    refine oS (fun _ => XS.istore X109.here hx rfl (hb hby at_72) rfl (l' := #[iv in_1, iv 2, rv ob_8, iv 0, iv 0]) rfl) ?_
    refine oS (fun _ => XS.iload X109.here hx rfl (hb hby at_74) rfl) ?_
    refine oS (fun _ => XS.iloadN X109.here hx rfl (hb hby at_76) rfl) ?_
    refine oS (fun _ => XS.icmpNo X109.here hx rfl (hb hby at_77) rfl (XT.ii_ne_f (by decide))) ?_
    show own_G p e below (T105.setTop (mkF m 80 #[iv in_1, iv 2, rv ob_8, iv 0, iv 0] [])) _
    refine oS (fun _ => XS.iload X109.here hx rfl (hb hby at_80) rfl) ?_
    refine oS (fun _ => XS.aloadN X109.here hx rfl (hb hby at_82) rfl rfl) ?_
    obtain ⟨T125, h126, v127, L128, X129, e130, q131, s132⟩ := own_callV X109 hx hZ hown e118 (y := (⟨"com/example/offset/offset/model/SplitKind", "movement", "()Lcom/example/offset/offset/model/MovementType;"⟩ : MethodName)) (z := (⟨"com/example/offset/offset/model/SplitKind", "movement", "()Lcom/example/offset/offset/model/MovementType;"⟩ : MethodName)) (C := "com/example/offset/offset/model/SplitKind") (b := ob_8) (oW hw 13 rfl) (oW hw 14 rfl) (notFace_of_selects (args := #[]) (mvT hZ (oW hw 16 rfl))) (oW hw 16 rfl) (oW hw 15 rfl) (oW hw 2 rfl) (oW hw 17 rfl) (by decide) F114 (W := 1) (own_rm5 l Z a0 hw [] ob_8 h0 n0 Z0 O0 I98) (by decide) (by decide) (by decide) (by decide) (g := (mkF m 83 #[iv in_1, iv 2, rv ob_8, iv 0, iv 0] [(.ref ob_8), (.int 0)])) rfl (by rw [hml]; rfl) (argsL := []) (rest := [(.int 0)]) rfl (lenOf own_pd1 rfl) rfl (by show 2 * 0 + _ ≤ _; exact Nat.le_of_eq rfl) (hb hby at_83)
    refine oS s132 ?_
    obtain ⟨rfl, N133, K134⟩ := q131
    have N135 := Fr.app N117 N133
    have e136 := e130.trans K134
    show own_G p e below (T125.setTop (mkF m 86 #[iv in_1, iv 2, rv ob_8, iv 0, iv 0] [.null, (.int 0)])) _
    refine oS (fun _ => XS.ifnullYes X129.here hx rfl (pc0 := 86) (pc' := 93) rfl (hb hby at_86) rfl (by decide) (by decide)) ?_
    show own_G p e below (T125.setTop (mkF m 93 #[iv in_1, iv 2, rv ob_8, iv 0, iv 0] [(.int 0)])) _
    refine oS (fun _ => XS.iconst X129.here hx rfl (hb hby at_93) ) ?_
    refine oS (fun _ => XS.icmpNo X129.here hx rfl (hb hby at_94) rfl (XT.ii_ne_f (by decide))) ?_
    show own_G p e below (T125.setTop (mkF m 97 #[iv in_1, iv 2, rv ob_8, iv 0, iv 0] [])) _
    refine oS (fun _ => XS.iconst X129.here hx rfl (hb hby at_97) ) ?_
    refine oS (fun _ => XS.goto X129.here hx rfl (pc0 := 98) (pc' := 102) rfl (hb hby at_98) (by decide) (by decide)) ?_
    show own_G p e below (T125.setTop (mkF m 102 #[iv in_1, iv 2, rv ob_8, iv 0, iv 0] [(.int 1)])) _
    exact own_retN X129 hx (t := .boolean) Bd.notSynchronized Bd.returns (by simp) (hb hby at_102) (by decide) e136 (by decide) (by decide) (⟨rfl, N135⟩)
  · skip
    refine own_cast (g' := (mkF m 6 #[iv in_1, .unset, .unset, .unset, .unset] [(.int 3)])) (by rw [q12]) ?_
    show own_G p e below (s₁.setTop (mkF m 6 #[iv in_1, .unset, .unset, .unset, .unset] [(.int 3)])) _
    refine oS (fun _ => XS.istoreN X0.here hx rfl (hb hby at_6) rfl (l' := #[iv in_1, iv 3, .unset, .unset, .unset]) rfl) ?_
    refine oS (fun _ => XS.iloadN X0.here hx rfl (hb hby at_7) rfl) ?_
    refine oS (fun _ => XS.ifYes X0.here hx rfl (pc0 := 8) (pc' := 20) rfl (hb hby at_8) rfl (XT.i0_ne_t (by decide)) (by decide) (by decide)) ?_
    show own_G p e below (s₁.setTop (mkF m 20 #[iv in_1, iv 3, .unset, .unset, .unset] [])) _
    refine oS (fun _ => XS.iloadN X0.here hx rfl (hb hby at_20) rfl) ?_
    refine oS (fun _ => XS.iconst X0.here hx rfl (hb hby at_21) ) ?_
    refine oS (fun _ => XS.icmpYes X0.here hx rfl (pc0 := 22) (pc' := 34) rfl (hb hby at_22) rfl (XT.ii_ne_t (by decide)) (by decide) (by decide)) ?_
    show own_G p e below (s₁.setTop (mkF m 34 #[iv in_1, iv 3, .unset, .unset, .unset] [])) _
    refine oS (fun _ => XS.iloadN X0.here hx rfl (hb hby at_34) rfl) ?_
    refine oS (fun _ => XS.iconst X0.here hx rfl (hb hby at_35) ) ?_
    refine oS (fun _ => XS.icmpYes X0.here hx rfl (pc0 := 36) (pc' := 48) rfl (hb hby at_36) rfl (XT.ii_ne_t (by decide)) (by decide) (by decide)) ?_
    show own_G p e below (s₁.setTop (mkF m 48 #[iv in_1, iv 3, .unset, .unset, .unset] [])) _
    refine oS (fun _ => XS.iloadN X0.here hx rfl (hb hby at_48) rfl) ?_
    refine oS (fun _ => XS.iconst X0.here hx rfl (hb hby at_49) ) ?_
    refine oS (fun _ => XS.icmpNo X0.here hx rfl (hb hby at_50) rfl (XT.ii_ne_f (by decide))) ?_
    show own_G p e below (s₁.setTop (mkF m 53 #[iv in_1, iv 3, .unset, .unset, .unset] [])) _
    have F138 : Sta Z h0 "com/example/offset/offset/model/SplitKind" "SERVICE_FEE" "Lcom/example/offset/offset/model/SplitKind;" (.ref ob_4) := Sta.ext O0.2 I137
    obtain ⟨T139, X140, e141, s142⟩ := getS X0 hx hZ hown (host := "") (oW hw 18 rfl) Via.refl e0 F138 (g := (mkF m 53 #[iv in_1, iv 3, .unset, .unset, .unset] [])) rfl (hb hby at_53)
    refine oS s142 ?_
    show own_G p e below (T139.setTop (mkF m 56 #[iv in_1, iv 3, .unset, .unset, .unset] [(.ref ob_4)])) _
    refine oS (fun _ => XS.astoreN X140.here hx rfl (hb hby at_56) rfl rfl (l' := #[iv in_1, iv 3, rv ob_4, .unset, .unset]) rfl) ?_
    refine oS (fun _ => XS.iconst X140.here hx rfl (hb hby at_57) ) ?_
    refine oS (fun _ => XS.istoreN X140.here hx rfl (hb hby at_58) rfl (l' := #[iv in_1, iv 3, rv ob_4, iv 0, .unset]) rfl) ?_
    refine oS (fun _ => XS.goto X140.here hx rfl (pc0 := 59) (pc' := 68) rfl (hb hby at_59) (by decide) (by decide)) ?_
    show own_G p e below (T139.setTop (mkF m 68 #[iv in_1, iv 3, rv ob_4, iv 0, .unset] [])) _
    refine oS (fun _ => XS.aloadN X140.here hx rfl (hb hby at_68) rfl rfl) ?_
    have F153 : Exa Z h0 ob_4 "com/example/offset/offset/model/SplitKind" := Exa.ext O0.2 I152
    obtain ⟨T144, h145, v146, L147, X148, e149, q150, s151⟩ := own_callV X140 hx hZ hown e141 (y := (⟨"com/example/offset/offset/model/SplitKind", "isWalletShare", "()Z"⟩ : MethodName)) (z := (⟨"com/example/offset/offset/model/SplitKind", "isWalletShare", "()Z"⟩ : MethodName)) (C := "com/example/offset/offset/model/SplitKind") (b := ob_4) (oW hw 4 rfl) (oW hw 5 rfl) (notFace_of_selects (args := #[]) (mvT hZ (oW hw 7 rfl))) (oW hw 7 rfl) (oW hw 6 rfl) (oW hw 2 rfl) (oW hw 8 rfl) (by decide) F153 (W := 0) (own_rm4 l Z a0 hw [] ob_4 h0 n0 Z0 O0 I143) (by decide) (by decide) (by decide) (by decide) (g := (mkF m 69 #[iv in_1, iv 3, rv ob_4, iv 0, .unset] [(.ref ob_4)])) rfl (by rw [hml]; rfl) (argsL := []) (rest := []) rfl (lenOf own_pd0 rfl) rfl (by show 2 * 0 + _ ≤ _; exact Nat.le_of_eq rfl) (hb hby at_69)
    refine oS s151 ?_
    obtain ⟨rfl, N154, K155⟩ := q150
    have N156 := Fr.app N0 N154
    have e157 := e149.trans K155
    show own_G p e below (T144.setTop (mkF m 72 #[iv in_1, iv 3, rv ob_4, iv 0, .unset] [(.int 0)])) _
    refine oS (fun _ => XS.istore X148.here hx rfl (hb hby at_72) rfl (l' := #[iv in_1, iv 3, rv ob_4, iv 0, iv 0]) rfl) ?_
    refine oS (fun _ => XS.iload X148.here hx rfl (hb hby at_74) rfl) ?_
    refine oS (fun _ => XS.iloadN X148.here hx rfl (hb hby at_76) rfl) ?_
    refine oS (fun _ => XS.icmpNo X148.here hx rfl (hb hby at_77) rfl (XT.ii_ne_f (by decide))) ?_
    show own_G p e below (T144.setTop (mkF m 80 #[iv in_1, iv 3, rv ob_4, iv 0, iv 0] [])) _
    refine oS (fun _ => XS.iload X148.here hx rfl (hb hby at_80) rfl) ?_
    refine oS (fun _ => XS.aloadN X148.here hx rfl (hb hby at_82) rfl rfl) ?_
    obtain ⟨T158, h159, v160, L161, X162, e163, q164, s165⟩ := own_callV X148 hx hZ hown e157 (y := (⟨"com/example/offset/offset/model/SplitKind", "movement", "()Lcom/example/offset/offset/model/MovementType;"⟩ : MethodName)) (z := (⟨"com/example/offset/offset/model/SplitKind", "movement", "()Lcom/example/offset/offset/model/MovementType;"⟩ : MethodName)) (C := "com/example/offset/offset/model/SplitKind") (b := ob_4) (oW hw 13 rfl) (oW hw 14 rfl) (notFace_of_selects (args := #[]) (mvT hZ (oW hw 16 rfl))) (oW hw 16 rfl) (oW hw 15 rfl) (oW hw 2 rfl) (oW hw 17 rfl) (by decide) F153 (W := 1) (own_rm5 l Z a0 hw [] ob_4 h0 n0 Z0 O0 I143) (by decide) (by decide) (by decide) (by decide) (g := (mkF m 83 #[iv in_1, iv 3, rv ob_4, iv 0, iv 0] [(.ref ob_4), (.int 0)])) rfl (by rw [hml]; rfl) (argsL := []) (rest := [(.int 0)]) rfl (lenOf own_pd1 rfl) rfl (by show 2 * 0 + _ ≤ _; exact Nat.le_of_eq rfl) (hb hby at_83)
    refine oS s165 ?_
    obtain ⟨rfl, N166, K167⟩ := q164
    have N168 := Fr.app N156 N166
    have e169 := e163.trans K167
    show own_G p e below (T158.setTop (mkF m 86 #[iv in_1, iv 3, rv ob_4, iv 0, iv 0] [.null, (.int 0)])) _
    refine oS (fun _ => XS.ifnullYes X162.here hx rfl (pc0 := 86) (pc' := 93) rfl (hb hby at_86) rfl (by decide) (by decide)) ?_
    show own_G p e below (T158.setTop (mkF m 93 #[iv in_1, iv 3, rv ob_4, iv 0, iv 0] [(.int 0)])) _
    refine oS (fun _ => XS.iconst X162.here hx rfl (hb hby at_93) ) ?_
    refine oS (fun _ => XS.icmpNo X162.here hx rfl (hb hby at_94) rfl (XT.ii_ne_f (by decide))) ?_
    show own_G p e below (T158.setTop (mkF m 97 #[iv in_1, iv 3, rv ob_4, iv 0, iv 0] [])) _
    refine oS (fun _ => XS.iconst X162.here hx rfl (hb hby at_97) ) ?_
    refine oS (fun _ => XS.goto X162.here hx rfl (pc0 := 98) (pc' := 102) rfl (hb hby at_98) (by decide) (by decide)) ?_
    show own_G p e below (T158.setTop (mkF m 102 #[iv in_1, iv 3, rv ob_4, iv 0, iv 0] [(.int 1)])) _
    exact own_retN X162 hx (t := .boolean) Bd.notSynchronized Bd.returns (by simp) (hb hby at_102) (by decide) e169 (by decide) (by decide) (⟨rfl, N168⟩)
  · skip
    refine own_cast (g' := (mkF m 6 #[iv in_1, .unset, .unset, .unset, .unset] [(.int 4)])) (by rw [q13]) ?_
    show own_G p e below (s₁.setTop (mkF m 6 #[iv in_1, .unset, .unset, .unset, .unset] [(.int 4)])) _
    refine oS (fun _ => XS.istoreN X0.here hx rfl (hb hby at_6) rfl (l' := #[iv in_1, iv 4, .unset, .unset, .unset]) rfl) ?_
    refine oS (fun _ => XS.iloadN X0.here hx rfl (hb hby at_7) rfl) ?_
    refine oS (fun _ => XS.ifYes X0.here hx rfl (pc0 := 8) (pc' := 20) rfl (hb hby at_8) rfl (XT.i0_ne_t (by decide)) (by decide) (by decide)) ?_
    show own_G p e below (s₁.setTop (mkF m 20 #[iv in_1, iv 4, .unset, .unset, .unset] [])) _
    refine oS (fun _ => XS.iloadN X0.here hx rfl (hb hby at_20) rfl) ?_
    refine oS (fun _ => XS.iconst X0.here hx rfl (hb hby at_21) ) ?_
    refine oS (fun _ => XS.icmpYes X0.here hx rfl (pc0 := 22) (pc' := 34) rfl (hb hby at_22) rfl (XT.ii_ne_t (by decide)) (by decide) (by decide)) ?_
    show own_G p e below (s₁.setTop (mkF m 34 #[iv in_1, iv 4, .unset, .unset, .unset] [])) _
    refine oS (fun _ => XS.iloadN X0.here hx rfl (hb hby at_34) rfl) ?_
    refine oS (fun _ => XS.iconst X0.here hx rfl (hb hby at_35) ) ?_
    refine oS (fun _ => XS.icmpYes X0.here hx rfl (pc0 := 36) (pc' := 48) rfl (hb hby at_36) rfl (XT.ii_ne_t (by decide)) (by decide) (by decide)) ?_
    show own_G p e below (s₁.setTop (mkF m 48 #[iv in_1, iv 4, .unset, .unset, .unset] [])) _
    refine oS (fun _ => XS.iloadN X0.here hx rfl (hb hby at_48) rfl) ?_
    refine oS (fun _ => XS.iconst X0.here hx rfl (hb hby at_49) ) ?_
    refine oS (fun _ => XS.icmpYes X0.here hx rfl (pc0 := 50) (pc' := 62) rfl (hb hby at_50) rfl (XT.ii_ne_t (by decide)) (by decide) (by decide)) ?_
    show own_G p e below (s₁.setTop (mkF m 62 #[iv in_1, iv 4, .unset, .unset, .unset] [])) _
    have F171 : Sta Z h0 "com/example/offset/offset/model/SplitKind" "DELIVERY_MARGIN" "Lcom/example/offset/offset/model/SplitKind;" (.ref ob_7) := Sta.ext O0.2 I170
    obtain ⟨T172, X173, e174, s175⟩ := getS X0 hx hZ hown (host := "") (oW hw 23 rfl) Via.refl e0 F171 (g := (mkF m 62 #[iv in_1, iv 4, .unset, .unset, .unset] [])) rfl (hb hby at_62)
    refine oS s175 ?_
    show own_G p e below (T172.setTop (mkF m 65 #[iv in_1, iv 4, .unset, .unset, .unset] [(.ref ob_7)])) _
    refine oS (fun _ => XS.astoreN X173.here hx rfl (hb hby at_65) rfl rfl (l' := #[iv in_1, iv 4, rv ob_7, .unset, .unset]) rfl) ?_
    refine oS (fun _ => XS.iconst X173.here hx rfl (hb hby at_66) ) ?_
    refine oS (fun _ => XS.istoreN X173.here hx rfl (hb hby at_67) rfl (l' := #[iv in_1, iv 4, rv ob_7, iv 0, .unset]) rfl) ?_
    refine oS (fun _ => XS.aloadN X173.here hx rfl (hb hby at_68) rfl rfl) ?_
    show own_G p e below (T172.setTop (mkF m 69 #[iv in_1, iv 4, rv ob_7, iv 0, .unset] [(.ref ob_7)])) _
    have F186 : Exa Z h0 ob_7 "com/example/offset/offset/model/SplitKind" := Exa.ext O0.2 I185
    obtain ⟨T177, h178, v179, L180, X181, e182, q183, s184⟩ := own_callV X173 hx hZ hown e174 (y := (⟨"com/example/offset/offset/model/SplitKind", "isWalletShare", "()Z"⟩ : MethodName)) (z := (⟨"com/example/offset/offset/model/SplitKind", "isWalletShare", "()Z"⟩ : MethodName)) (C := "com/example/offset/offset/model/SplitKind") (b := ob_7) (oW hw 4 rfl) (oW hw 5 rfl) (notFace_of_selects (args := #[]) (mvT hZ (oW hw 7 rfl))) (oW hw 7 rfl) (oW hw 6 rfl) (oW hw 2 rfl) (oW hw 8 rfl) (by decide) F186 (W := 0) (own_rm4 l Z a0 hw [] ob_7 h0 n0 Z0 O0 I176) (by decide) (by decide) (by decide) (by decide) (g := (mkF m 69 #[iv in_1, iv 4, rv ob_7, iv 0, .unset] [(.ref ob_7)])) rfl (by rw [hml]; rfl) (argsL := []) (rest := []) rfl (lenOf own_pd0 rfl) rfl (by show 2 * 0 + _ ≤ _; exact Nat.le_of_eq rfl) (hb hby at_69)
    refine oS s184 ?_
    obtain ⟨rfl, N187, K188⟩ := q183
    have N189 := Fr.app N0 N187
    have e190 := e182.trans K188
    show own_G p e below (T177.setTop (mkF m 72 #[iv in_1, iv 4, rv ob_7, iv 0, .unset] [(.int 0)])) _
    refine oS (fun _ => XS.istore X181.here hx rfl (hb hby at_72) rfl (l' := #[iv in_1, iv 4, rv ob_7, iv 0, iv 0]) rfl) ?_
    refine oS (fun _ => XS.iload X181.here hx rfl (hb hby at_74) rfl) ?_
    refine oS (fun _ => XS.iloadN X181.here hx rfl (hb hby at_76) rfl) ?_
    refine oS (fun _ => XS.icmpNo X181.here hx rfl (hb hby at_77) rfl (XT.ii_ne_f (by decide))) ?_
    show own_G p e below (T177.setTop (mkF m 80 #[iv in_1, iv 4, rv ob_7, iv 0, iv 0] [])) _
    refine oS (fun _ => XS.iload X181.here hx rfl (hb hby at_80) rfl) ?_
    refine oS (fun _ => XS.aloadN X181.here hx rfl (hb hby at_82) rfl rfl) ?_
    obtain ⟨T191, h192, v193, L194, X195, e196, q197, s198⟩ := own_callV X181 hx hZ hown e190 (y := (⟨"com/example/offset/offset/model/SplitKind", "movement", "()Lcom/example/offset/offset/model/MovementType;"⟩ : MethodName)) (z := (⟨"com/example/offset/offset/model/SplitKind", "movement", "()Lcom/example/offset/offset/model/MovementType;"⟩ : MethodName)) (C := "com/example/offset/offset/model/SplitKind") (b := ob_7) (oW hw 13 rfl) (oW hw 14 rfl) (notFace_of_selects (args := #[]) (mvT hZ (oW hw 16 rfl))) (oW hw 16 rfl) (oW hw 15 rfl) (oW hw 2 rfl) (oW hw 17 rfl) (by decide) F186 (W := 1) (own_rm5 l Z a0 hw [] ob_7 h0 n0 Z0 O0 I176) (by decide) (by decide) (by decide) (by decide) (g := (mkF m 83 #[iv in_1, iv 4, rv ob_7, iv 0, iv 0] [(.ref ob_7), (.int 0)])) rfl (by rw [hml]; rfl) (argsL := []) (rest := [(.int 0)]) rfl (lenOf own_pd1 rfl) rfl (by show 2 * 0 + _ ≤ _; exact Nat.le_of_eq rfl) (hb hby at_83)
    refine oS s198 ?_
    obtain ⟨rfl, N199, K200⟩ := q197
    have N201 := Fr.app N189 N199
    have e202 := e196.trans K200
    show own_G p e below (T191.setTop (mkF m 86 #[iv in_1, iv 4, rv ob_7, iv 0, iv 0] [.null, (.int 0)])) _
    refine oS (fun _ => XS.ifnullYes X195.here hx rfl (pc0 := 86) (pc' := 93) rfl (hb hby at_86) rfl (by decide) (by decide)) ?_
    show own_G p e below (T191.setTop (mkF m 93 #[iv in_1, iv 4, rv ob_7, iv 0, iv 0] [(.int 0)])) _
    refine oS (fun _ => XS.iconst X195.here hx rfl (hb hby at_93) ) ?_
    refine oS (fun _ => XS.icmpNo X195.here hx rfl (hb hby at_94) rfl (XT.ii_ne_f (by decide))) ?_
    show own_G p e below (T191.setTop (mkF m 97 #[iv in_1, iv 4, rv ob_7, iv 0, iv 0] [])) _
    refine oS (fun _ => XS.iconst X195.here hx rfl (hb hby at_97) ) ?_
    refine oS (fun _ => XS.goto X195.here hx rfl (pc0 := 98) (pc' := 102) rfl (hb hby at_98) (by decide) (by decide)) ?_
    show own_G p e below (T191.setTop (mkF m 102 #[iv in_1, iv 4, rv ob_7, iv 0, iv 0] [(.int 1)])) _
    exact own_retN X195 hx (t := .boolean) Bd.notSynchronized Bd.returns (by simp) (hb hby at_102) (by decide) e202 (by decide) (by decide) (⟨rfl, N201⟩)
set_option maxRecDepth 65536 in
set_option maxHeartbeats 40000000 in
theorem comes_1 {Post : Tables → Env → Array Value → State → Outcome → State → Prop} (hpost : ∀ tb e args s v u, (limb_1_1.after args s (.returned v) u = true ∧ limb_1_2.after args s (.returned v) u = true ∧ True) → FrameEnd s (.returned v) u (Jvm.fieldLocs frame_1_writes args s ++ Jvm.arrayLocs frame_1_arrays args s ++ Jvm.staticLocs frame_1_statics s) 0 0 → Post tb e args s (.returned v) u) :
    ArmFor flags0 classFile x code maxLocals ret World_1 tables_1 room_1 Calls_1 rest_1 Pre_1 Post := by
  intro l hfl _ _ p e ha hc hk s m args below hf hA hF happ hP
  obtain ⟨hcalls, hrest, hpre⟩ := hP
  obtain ⟨-, -, -, hnamed, -, -, -, hat⟩ := (Spec.applies_iff hf).mp happ
  obtain ⟨hg, hn⟩ := and_e (Cond.before_iff.mp (show (Jvm.Cond.and given_1 narrow_1).before args s = true from hpre))
  obtain ⟨g0, gg0⟩ := and_e hg
  obtain ⟨w0, rfl⟩ : ∃ w0 : Value, args = #[w0] := by
    have hs : args.size = 1 := by simpa [Cond.value, given_1] using g0
    obtain ⟨L⟩ := args
    match L, hs with
    | [w0], _ => exact ⟨w0, rfl⟩
  have hw := fun d (hd : d ∈ tables_1) => atoms_spec (ws := Jvm.Cond.code x code maxLocals ret :: tables_1) hat d (List.mem_cons_of_mem _ hd)
  have hfit : Fit s := fun {y c} hc i hi => by
    obtain ⟨ha, rfl⟩ := Array.getElem?_eq_some_iff.mp hc
    have q := List.all_eq_true.mp ((Array.all_eq_true_iff_forall_mem.mp hF) _ (Array.getElem_mem ha)) i (List.mem_range.mpr hi)
    simpa [Array.getElem?_eq_getElem hi] using q
  obtain ⟨in_1, ea0⟩ := is_v gg0
  obtain rfl : w0 = (.int in_1) := Option.some.inj ea0
  obtain ⟨c0, r0⟩ := and_e hn
  obtain ⟨c1, r1⟩ := and_e r0
  obtain ⟨c2, r2⟩ := and_e r1
  obtain ⟨c3, r3⟩ := and_e r2
  obtain ⟨c4, r4⟩ := and_e r3
  obtain ⟨c5, r5⟩ := and_e r4
  obtain ⟨c6, r6⟩ := and_e r5
  obtain ⟨c7, r7⟩ := and_e r6
  obtain ⟨c8, r8⟩ := and_e r7
  obtain ⟨c9, r9⟩ := and_e r8
  obtain ⟨c10, c11⟩ := and_e r9
  obtain ⟨ob_2, ev_ob_2⟩ := exa_v c0
  obtain ⟨ob_3, ev_ob_3⟩ := exa_v c1
  obtain ⟨ob_4, ev_ob_4⟩ := exa_v c3
  obtain ⟨ob_5, ev_ob_5⟩ := exa_v c5
  obtain ⟨ob_6, ev_ob_6⟩ := exa_v c6
  obtain ⟨ob_7, ev_ob_7⟩ := exa_v c8
  obtain ⟨ob_8, ev_ob_8⟩ := exa_v c10
  obtain ⟨n, o, h1, h2, h3, _, L, rfl, ⟨rfl, N⟩, hq⟩ := own_rm1 l s _ hw tables_1 in_1 ob_2 ob_3 ob_5 ob_6 ob_8 ob_4 ob_7 s.heap s.heap.size (Nat.le_refl _) (Old.start s) (Sta.start ev_ob_2 (Or.inr ⟨(oW hw 2 rfl), (oW hw 3 rfl)⟩)) (own_fv ev_ob_2 ev_ob_3 c2) (Exa.start ev_ob_2 c0) (Sta.start ev_ob_5 (Or.inr ⟨(oW hw 2 rfl), (oW hw 21 rfl)⟩)) (own_fv ev_ob_5 ev_ob_6 c7) (Exa.start ev_ob_5 c5) (Sta.start ev_ob_8 (Or.inr ⟨(oW hw 2 rfl), (oW hw 26 rfl)⟩)) (own_fv ev_ob_8 rfl c11) (Exa.start ev_ob_8 c10) (Sta.start ev_ob_4 (Or.inr ⟨(oW hw 2 rfl), (oW hw 19 rfl)⟩)) (own_fv ev_ob_4 rfl c4) (Exa.start ev_ob_4 c3) (Sta.start ev_ob_7 (Or.inr ⟨(oW hw 2 rfl), (oW hw 24 rfl)⟩)) (own_fv ev_ob_7 rfl c9) (Exa.start ev_ob_7 c8) p e ha hc hk s m _ below hf ((Spec.applies_iff_loose hf).mp happ).1 ⟨rfl, State.Warmed39.refl s, rfl⟩ trivial
  refine ⟨n, _, h1, h2, h3, hpost _ _ _ _ _ _ ⟨Cond.after_iff.mpr rfl, Cond.after_iff.mpr (eq_i res_at (Term.int_eval (1)) rfl), trivial⟩ ⟨hq.1, hq.2.1, (hq.2.2.sift fun y hy => Or.inr (N y hy)).mono (by decide) (by decide)⟩⟩
theorem main_1_1 : Claimed_1_1 := comes_1 fun _ _ _ _ _ _ h hF => ⟨h.1, hF⟩
theorem main_1_2 : Claimed_1_2 := comes_1 fun _ _ _ _ _ _ h hF => ⟨h.2.1, hF⟩
end Jvm.Pilot.@@N@@
namespace Jvm.Pilot.@@N@@
open Jvm Jvm.ClassFile Sem Op Lib Jvm.Free Jvm.Stand Jvm.Pilot.@@N@@.Jvm.D
/-! MADE BY PROGRAM (witnessworld.py) out of the Statement's table words and the real class files: 13 classes; the members and pool entries that the words name. The judged class is class 1, her method 1. -/
namespace start1
open Jvm.ClassFile
def u (s : String) : CpInfo := .utf8 (stringToUtf16 s)
/-- a pool by its gaps: so many unusable entries, then the entry; so many at the end -/
def gap : Nat → List CpInfo → List CpInfo
  | 0, r => r
  | n + 1, r => .unusable :: gap n r
def poolList (es : List (Nat × CpInfo)) (last : Nat) : List CpInfo := es.foldr (fun e r => gap e.1 (e.2 :: r)) (gap last [])
def pool (es : List (Nat × CpInfo)) (last : Nat) : Array CpInfo := ⟨poolList es last⟩
def fileOf (pool : Array CpInfo) (this : Nat) (attrs : Array Attribute := #[]) (ms : Array MethodInfo := #[]) (fl : Nat := 33) (sup : Nat := 0) (ifs : Array Nat := #[]) (fds : Array FieldInfo := #[]) : ClassFile where
  minorVersion := 0
  majorVersion := 65
  constantPool := pool
  accessFlags := fl
  thisClass := this
  superClass := sup
  interfaces := ifs
  fields := fds
  methods := ms
  attributes := attrs
def plain (name : String) (sup : Option ClassId) : Class where
  name := name
  kind := .ordinary
  loader := none
  accessFlags := 33
  super := sup
  interfaces := #[]
  cf := none
  fields := #[]
  methods := #[]
  instanceTypes := #[]
  staticTypes := #[]
  resolved := #[]
  callSites := []
  init := .initialized
  statics := none
  mirror := none

def pool0 : Array CpInfo := pool [(5, u "<init>"), (0, u "()V"), (1, .class_ 10), (1, u "java/lang/Object")] 113

def k0m0 : Method := { name := "<init>", desc := "()V", sig := { parameters := [], returnType := none }, accessFlags := 1, code := none }
/-- java/lang/Object -/
def k0 : Class := { plain "java/lang/Object" none with
  accessFlags := 33
  interfaces := #[]
  cf := some (fileOf pool0 8 #[] #[{ accessFlags := 1, nameIndex := 5, descriptorIndex := 6, attributes := #[] }] 33 0 #[] #[])
  fields := #[]
  methods := #[k0m0]
  instanceTypes := #[]
  staticTypes := #[]
  resolved := Array.replicate 124 none
  statics := none }

def pool1 : Array CpInfo := pool [(2, .class_ 4), (1, u "java/lang/Object"), (0, u "<init>"), (0, u "()V"), (0, .integer 2147483647), (0, .fieldref 9 10), (0, .class_ 11), (0, .nameAndType 12 13), (0, u "com/example/offset/offset/model/SplitKind"), (0, u "ORDER_EARNING"), (0, u "Lcom/example/offset/offset/model/SplitKind;"), (0, .fieldref 9 15), (0, .nameAndType 16 13), (0, u "DELIVERY_EARNING"), (0, .fieldref 9 18), (0, .nameAndType 19 13), (0, u "COMMISSION"), (0, .fieldref 9 21), (0, .nameAndType 22 13), (0, u "SERVICE_FEE"), (0, .fieldref 9 24), (0, .nameAndType 25 13), (0, u "DELIVERY_MARGIN"), (0, .methodref 9 27), (0, .nameAndType 28 29), (0, u "isWalletShare"), (0, u "()Z"), (0, .methodref 9 31), (0, .nameAndType 32 33), (0, u "movement"), (0, u "()Lcom/example/offset/offset/model/MovementType;"), (0, .class_ 35), (0, u "com/example/offset/offset/model/SplitKindIsWalletSharePinLaw"), (2, u "law"), (0, u "(I)Z")] 3

def k1m0 : Method := { name := "<init>", desc := "()V", sig := { parameters := [], returnType := none }, accessFlags := 1, code := none }
def k1c1 : Code := { maxStack := 2, maxLocals := 5, code := code, exceptionTable := #[], attributes := #[] }
def k1m1 : Method := { name := "law", desc := "(I)Z", sig := { parameters := [.int], returnType := some .boolean }, accessFlags := 9, code := some k1c1 }
/-- com/example/offset/offset/model/SplitKindIsWalletSharePinLaw -/
def k1 : Class := { plain "com/example/offset/offset/model/SplitKindIsWalletSharePinLaw" (some 0) with
  accessFlags := 49
  interfaces := #[]
  cf := some (fileOf pool1 34 #[] #[{ accessFlags := 1, nameIndex := 5, descriptorIndex := 6, attributes := #[] }, { accessFlags := 9, nameIndex := 38, descriptorIndex := 39, attributes := #[] }] 49 2 #[] #[])
  fields := #[]
  methods := #[k1m0, k1m1]
  instanceTypes := #[]
  staticTypes := #[]
  resolved := Array.replicate 43 none
  statics := none }

def pool2 : Array CpInfo := pool [(1, .class_ 2), (0, u "java/lang/constant/Constable"), (0, .class_ 4), (0, u "java/lang/Object")] 6

/-- java/lang/constant/Constable -/
def k2 : Class := { plain "java/lang/constant/Constable" (some 0) with
  accessFlags := 1537
  interfaces := #[]
  cf := some (fileOf pool2 1 #[] #[] 1537 3 #[] #[])
  fields := #[]
  methods := #[]
  instanceTypes := #[]
  staticTypes := #[]
  resolved := Array.replicate 11 none
  statics := none }

def pool3 : Array CpInfo := pool [(1, .class_ 2), (0, u "java/lang/Comparable"), (0, .class_ 4), (0, u "java/lang/Object")] 7

/-- java/lang/Comparable -/
def k3 : Class := { plain "java/lang/Comparable" (some 0) with
  accessFlags := 1537
  interfaces := #[]
  cf := some (fileOf pool3 1 #[] #[] 1537 3 #[] #[])
  fields := #[]
  methods := #[]
  instanceTypes := #[]
  staticTypes := #[]
  resolved := Array.replicate 12 none
  statics := none }

def pool4 : Array CpInfo := pool [(1, .class_ 2), (0, u "java/io/Serializable"), (0, .class_ 4), (0, u "java/lang/Object")] 2

/-- java/io/Serializable -/
def k4 : Class := { plain "java/io/Serializable" (some 0) with
  accessFlags := 1537
  interfaces := #[]
  cf := some (fileOf pool4 1 #[] #[] 1537 3 #[] #[])
  fields := #[]
  methods := #[]
  instanceTypes := #[]
  staticTypes := #[]
  resolved := Array.replicate 7 none
  statics := none }

def pool5 : Array CpInfo := pool [(2, .class_ 4), (1, u "java/lang/Enum"), (0, u "name"), (0, u "Ljava/lang/String;"), (2, u "ordinal"), (0, u "I"), (1, .class_ 14), (1, u "java/lang/Object"), (4, u "hash"), (86, .class_ 108), (1, u "java/lang/Enum$EnumDesc"), (2, .class_ 112), (0, u "java/lang/constant/Constable"), (0, .class_ 114), (0, u "java/lang/Comparable"), (0, .class_ 116), (0, u "java/io/Serializable")] 87

/-- java/lang/Enum -/
def k5 : Class := { plain "java/lang/Enum" (some 0) with
  accessFlags := 1057
  interfaces := #[2, 3, 4]
  cf := some (fileOf pool5 2 #[.nestMembers #[106]] #[] 1057 12 #[111, 113, 115] #[{ accessFlags := 18, nameIndex := 5, descriptorIndex := 6, attributes := #[] }, { accessFlags := 18, nameIndex := 9, descriptorIndex := 10, attributes := #[] }, { accessFlags := 2, nameIndex := 19, descriptorIndex := 10, attributes := #[] }])
  fields := #[{ name := "name", type := (.object "java/lang/String"), accessFlags := 18, slot := 0, constantValue := 0 }, { name := "ordinal", type := .int, accessFlags := 18, slot := 1, constantValue := 0 }, { name := "hash", type := .int, accessFlags := 2, slot := 2, constantValue := 0 }]
  methods := #[]
  instanceTypes := #[(.object "java/lang/String"), .int, .int]
  staticTypes := #[]
  resolved := Array.replicate 204 none
  statics := none }

def pool6 : Array CpInfo := pool [(1, .class_ 2), (0, u "com/example/offset/offset/model/SplitKind"), (2, u "ORDER_EARNING"), (0, u "Lcom/example/offset/offset/model/SplitKind;"), (2, u "DELIVERY_EARNING"), (2, u "COMMISSION"), (2, u "SERVICE_FEE"), (2, u "DELIVERY_MARGIN"), (2, u "$VALUES"), (0, u "[Lcom/example/offset/offset/model/SplitKind;"), (6, .class_ 31), (1, u "java/lang/Enum"), (6, .fieldref 1 39), (0, .nameAndType 40 41), (0, u "movement"), (0, u "Lcom/example/offset/offset/model/MovementType;"), (25, u "isWalletShare"), (0, u "()Z"), (1, u "()Lcom/example/offset/offset/model/MovementType;")] 5

def k6c0 : Code := { maxStack := 1, maxLocals := 1, code := prog_28_method_4_code, exceptionTable := #[], attributes := #[] }
def k6m0 : Method := { name := "isWalletShare", desc := "()Z", sig := { parameters := [], returnType := some .boolean }, accessFlags := 1, code := some k6c0 }
def k6c1 : Code := { maxStack := 1, maxLocals := 1, code := prog_28_method_5_code, exceptionTable := #[], attributes := #[] }
def k6m1 : Method := { name := "movement", desc := "()Lcom/example/offset/offset/model/MovementType;", sig := { parameters := [], returnType := some (.object "com/example/offset/offset/model/MovementType") }, accessFlags := 1, code := some k6c1 }
/-- com/example/offset/offset/model/SplitKind -/
def k6 : Class := { plain "com/example/offset/offset/model/SplitKind" (some 5) with
  accessFlags := 16433
  interfaces := #[]
  cf := some (fileOf pool6 1 #[] #[{ accessFlags := 1, nameIndex := 67, descriptorIndex := 68, attributes := #[] }, { accessFlags := 1, nameIndex := 40, descriptorIndex := 70, attributes := #[] }] 16433 29 #[] #[{ accessFlags := 16409, nameIndex := 5, descriptorIndex := 6, attributes := #[] }, { accessFlags := 16409, nameIndex := 9, descriptorIndex := 6, attributes := #[] }, { accessFlags := 16409, nameIndex := 12, descriptorIndex := 6, attributes := #[] }, { accessFlags := 16409, nameIndex := 15, descriptorIndex := 6, attributes := #[] }, { accessFlags := 16409, nameIndex := 18, descriptorIndex := 6, attributes := #[] }, { accessFlags := 18, nameIndex := 40, descriptorIndex := 41, attributes := #[] }, { accessFlags := 4122, nameIndex := 21, descriptorIndex := 22, attributes := #[] }])
  fields := #[{ name := "ORDER_EARNING", type := (.object "com/example/offset/offset/model/SplitKind"), accessFlags := 16409, slot := 0, constantValue := 0 }, { name := "DELIVERY_EARNING", type := (.object "com/example/offset/offset/model/SplitKind"), accessFlags := 16409, slot := 1, constantValue := 0 }, { name := "COMMISSION", type := (.object "com/example/offset/offset/model/SplitKind"), accessFlags := 16409, slot := 2, constantValue := 0 }, { name := "SERVICE_FEE", type := (.object "com/example/offset/offset/model/SplitKind"), accessFlags := 16409, slot := 3, constantValue := 0 }, { name := "DELIVERY_MARGIN", type := (.object "com/example/offset/offset/model/SplitKind"), accessFlags := 16409, slot := 4, constantValue := 0 }, { name := "movement", type := (.object "com/example/offset/offset/model/MovementType"), accessFlags := 18, slot := 3, constantValue := 0 }, { name := "$VALUES", type := (.array (.object "com/example/offset/offset/model/SplitKind")), accessFlags := 4122, slot := 5, constantValue := 0 }]
  methods := #[k6m0, k6m1]
  instanceTypes := #[(.object "java/lang/String"), .int, .int, (.object "com/example/offset/offset/model/MovementType")]
  staticTypes := #[(.object "com/example/offset/offset/model/SplitKind"), (.object "com/example/offset/offset/model/SplitKind"), (.object "com/example/offset/offset/model/SplitKind"), (.object "com/example/offset/offset/model/SplitKind"), (.object "com/example/offset/offset/model/SplitKind"), (.array (.object "com/example/offset/offset/model/SplitKind"))]
  resolved := Array.replicate 76 none
  statics := some 0 }

def pool7 : Array CpInfo := pool [(1, .class_ 2), (0, u "com/example/offset/offset/model/MovementType"), (2, u "TOPUP"), (0, u "Lcom/example/offset/offset/model/MovementType;"), (2, u "ADJUSTMENT"), (2, u "ORDER_PAYMENT"), (2, u "ORDER_EARNING"), (2, u "DELIVERY_EARNING"), (2, u "$VALUES"), (0, u "[Lcom/example/offset/offset/model/MovementType;"), (6, .class_ 31), (1, u "java/lang/Enum")] 27

/-- com/example/offset/offset/model/MovementType -/
def k7 : Class := { plain "com/example/offset/offset/model/MovementType" (some 5) with
  accessFlags := 16433
  interfaces := #[]
  cf := some (fileOf pool7 1 #[] #[] 16433 29 #[] #[{ accessFlags := 16409, nameIndex := 5, descriptorIndex := 6, attributes := #[] }, { accessFlags := 16409, nameIndex := 9, descriptorIndex := 6, attributes := #[] }, { accessFlags := 16409, nameIndex := 12, descriptorIndex := 6, attributes := #[] }, { accessFlags := 16409, nameIndex := 15, descriptorIndex := 6, attributes := #[] }, { accessFlags := 16409, nameIndex := 18, descriptorIndex := 6, attributes := #[] }, { accessFlags := 4122, nameIndex := 21, descriptorIndex := 22, attributes := #[] }])
  fields := #[{ name := "TOPUP", type := (.object "com/example/offset/offset/model/MovementType"), accessFlags := 16409, slot := 0, constantValue := 0 }, { name := "ADJUSTMENT", type := (.object "com/example/offset/offset/model/MovementType"), accessFlags := 16409, slot := 1, constantValue := 0 }, { name := "ORDER_PAYMENT", type := (.object "com/example/offset/offset/model/MovementType"), accessFlags := 16409, slot := 2, constantValue := 0 }, { name := "ORDER_EARNING", type := (.object "com/example/offset/offset/model/MovementType"), accessFlags := 16409, slot := 3, constantValue := 0 }, { name := "DELIVERY_EARNING", type := (.object "com/example/offset/offset/model/MovementType"), accessFlags := 16409, slot := 4, constantValue := 0 }, { name := "$VALUES", type := (.array (.object "com/example/offset/offset/model/MovementType")), accessFlags := 4122, slot := 5, constantValue := 0 }]
  methods := #[]
  instanceTypes := #[(.object "java/lang/String"), .int, .int]
  staticTypes := #[(.object "com/example/offset/offset/model/MovementType"), (.object "com/example/offset/offset/model/MovementType"), (.object "com/example/offset/offset/model/MovementType"), (.object "com/example/offset/offset/model/MovementType"), (.object "com/example/offset/offset/model/MovementType"), (.array (.object "com/example/offset/offset/model/MovementType"))]
  resolved := Array.replicate 59 none
  statics := some 1 }

def pool8 : Array CpInfo := pool [(1, u "java/lang/Cloneable"), (0, .class_ 1), (0, u "java/lang/Object"), (0, .class_ 3)] 3

/-- java/lang/Cloneable -/
def k8 : Class := { plain "java/lang/Cloneable" (some 0) with
  accessFlags := 1537
  interfaces := #[]
  cf := some (fileOf pool8 2 #[] #[] 1537 4 #[] #[])
  fields := #[]
  methods := #[]
  instanceTypes := #[]
  staticTypes := #[]
  resolved := Array.replicate 8 none
  statics := none }

/-- the primitive byte -/
def k9 : Class := { plain "byte" none with kind := .primitive 'B', accessFlags := 0x411 }
/-- [B -/
def k10 : Class := { plain "[B" (some 0) with kind := .array 9 .byte, interfaces := #[8, 4], accessFlags := 1041 }

/-- the primitive int -/
def k11 : Class := { plain "int" none with kind := .primitive 'I', accessFlags := 0x411 }
/-- [I -/
def k12 : Class := { plain "[I" (some 0) with kind := .array 11 .int, interfaces := #[8, 4], accessFlags := 1041 }

def heap : Heap := #[{ cls := 6, slots := #[.ref 2, .ref 5, .ref 8, .ref 4, .ref 7, .null], vm := .statics 6 },
  { cls := 7, slots := #[.null, .null, .null, .ref 3, .ref 6, .null], vm := .statics 7 },
  { cls := 6, slots := #[.null, .int 0, .int 0, .ref 3], vm := .none },
  { cls := 7, slots := #[.null, .int 0, .int 0], vm := .none },
  { cls := 6, slots := #[.null, .int 0, .int 0, .null], vm := .none },
  { cls := 6, slots := #[.null, .int 0, .int 0, .ref 6], vm := .none },
  { cls := 7, slots := #[.null, .int 0, .int 0], vm := .none },
  { cls := 6, slots := #[.null, .int 0, .int 0, .null], vm := .none },
  { cls := 6, slots := #[.null, .int 0, .int 0, .null], vm := .none }]
def classes : Array Class := #[k0, k1, k2, k3, k4, k5, k6, k7, k8, k9, k10, k11, k12]
def interned : List (Array UInt16 × Addr) := []
def slotsUsed : Nat := 38
def theMethod : MethodId := ⟨1, 1⟩
def args0 : Array Value := #[.int 5]
def aboutOver (below : List Frame) : State where
  vm := { classes := classes, interned := interned.toArray }
  heap := heap
  slotsUsed := slotsUsed
  threads := #[{ frames := .invoking theMethod args0 :: below }]
def below0 : List Frame := [.native { method := ⟨0, 0⟩, args := #[] }]
def about1 : State := aboutOver below0
def p0 : Program := .bare "" "" ""
def e0 : Env := launch0.env 0 0 0
theorem w_frames : about1.frames = Frame.invoking theMethod args0 :: below0 := rfl
set_option maxRecDepth 65536 in
theorem w_args : argsFit about1.vm theMethod args0 = true := by decide +kernel
set_option maxRecDepth 65536 in
theorem w_heap : heapFits about1 = true := by decide +kernel
set_option maxRecDepth 65536 in
theorem w_runnable : about1.curStatus? = some .runnable := by decide +kernel
set_option maxRecDepth 65536 in
theorem w_alone : about1.alone = true := by decide +kernel
set_option maxRecDepth 65536 in
theorem w_named : about1.methodNamed? x = some theMethod := by decide +kernel
set_option maxRecDepth 65536 in
theorem w_hears : about1.hears theMethod below0 = true := by decide +kernel
set_option maxRecDepth 65536 in
theorem w_ripe : about1.ripe theMethod args0 below0 = true := by decide +kernel
theorem w_running : about1.status = .running := rfl
set_option maxRecDepth 65536 in
theorem w_room : about1.hasRoom e0.platform room_1 = true :=
  launch0.hasRoom_least _ room_1 (by decide +kernel) (by decide +kernel) (by decide +kernel) (by decide +kernel) (by decide +kernel) (by decide +kernel)
theorem allAtoms_all (ts : List Jvm.Cond) (a : Array Jvm.Value) (st : Jvm.State) : (allAtoms ts).before a st = ts.all (fun c => c.before a st) := by
  induction ts with
  | nil => rfl
  | cons c t ih =>
    show (Jvm.Cond.and c (allAtoms t)).before a st = _
    rw [Jvm.Cond.before_and, ih, List.all_cons]
def words1 : List Jvm.Cond := Jvm.Cond.code x code maxLocals ret :: tables_1
/-- a 'code' word, met by the world's own term for the bytes: nothing is compared byte by byte -/
theorem code_word {y : MethodName} {bytes : ByteArray} {mx : Nat} {rt : Option FieldType} {a : Array Value} {s : State} {m : MethodId} {meth : Method} {c : Code} (h1 : s.methodNamed? y = some m) (h2 : s.vm.method? m = some meth) (h3 : meth.code = some c) (h4 : c.code = bytes)
    (h5 : (c.maxLocals == mx && c.exceptionTable.isEmpty && decide (c.maxStack ≤ mostOperands) && decide (meth.sig.returnType = rt) && !meth.locks && decide (parseMethodDescriptor y.desc = some meth.sig)) = true) : (Jvm.Cond.code y bytes mx rt).before a s = true := by
  simp only [Bool.and_eq_true, beq_iff_eq, Bool.not_eq_true', decide_eq_true_eq] at h5
  obtain ⟨⟨⟨⟨⟨g1, g2⟩, g3⟩, g4⟩, g5⟩, g6⟩ := h5
  simp [Cond.before, Cond.holds, Cond.value, h1, h2, h3, h4, g1, g2, g3, g4, g5, g6]
def isCode : Jvm.Cond → Bool
  | .code _ _ _ _ => true
  | _ => false
theorem all_split {L : List Jvm.Cond} {P : Jvm.Cond → Bool} (h1 : L.all (fun c => isCode c || P c) = true) (h2 : ∀ c ∈ L.filter isCode, P c = true) : L.all P = true := by
  refine List.all_eq_true.mpr fun c hc => ?_
  have h := List.all_eq_true.mp h1 c hc
  rcases Bool.eq_false_or_eq_true (isCode c) with hi | hi
  · exact h2 c (List.mem_filter.mpr ⟨hc, hi⟩)
  · simpa [hi] using h
set_option maxRecDepth 65536 in
theorem w_c0 : (Jvm.Cond.code x code maxLocals ret).before args0 about1 = true := code_word (m := ⟨1, 1⟩) (meth := k1m1) (c := k1c1) (by decide +kernel) rfl rfl rfl (by decide +kernel)
set_option maxRecDepth 65536 in
theorem w_c1 : (Jvm.Cond.code ({ cls := "com/example/offset/offset/model/SplitKind", name := "isWalletShare", desc := "()Z" } : Jvm.MethodName) prog_28_method_4_code (1 : Nat) (Option.some Jvm.ClassFile.FieldType.boolean)).before args0 about1 = true := code_word (m := ⟨6, 0⟩) (meth := k6m0) (c := k6c0) (by decide +kernel) rfl rfl rfl (by decide +kernel)
set_option maxRecDepth 65536 in
theorem w_c2 : (Jvm.Cond.code ({ cls := "com/example/offset/offset/model/SplitKind", name := "movement", desc := "()Lcom/example/offset/offset/model/MovementType;" } : Jvm.MethodName) prog_28_method_5_code (1 : Nat) (Option.some (Jvm.ClassFile.FieldType.object "com/example/offset/offset/model/MovementType"))).before args0 about1 = true := code_word (m := ⟨6, 1⟩) (meth := k6m1) (c := k6c1) (by decide +kernel) rfl rfl rfl (by decide +kernel)
def codes1 : List Jvm.Cond := [Jvm.Cond.code x code maxLocals ret, Jvm.Cond.code ({ cls := "com/example/offset/offset/model/SplitKind", name := "isWalletShare", desc := "()Z" } : Jvm.MethodName) prog_28_method_4_code (1 : Nat) (Option.some Jvm.ClassFile.FieldType.boolean), Jvm.Cond.code ({ cls := "com/example/offset/offset/model/SplitKind", name := "movement", desc := "()Lcom/example/offset/offset/model/MovementType;" } : Jvm.MethodName) prog_28_method_5_code (1 : Nat) (Option.some (Jvm.ClassFile.FieldType.object "com/example/offset/offset/model/MovementType"))]
set_option maxRecDepth 65536 in
theorem codes_eq : words1.filter isCode = codes1 := rfl
theorem w_codes : ∀ c ∈ words1.filter isCode, c.before args0 about1 = true := by
  rw [codes_eq]
  intro c hc
  simp only [codes1, List.mem_cons, List.not_mem_nil, or_false] at hc
  rcases hc with rfl | rfl | rfl
  · exact w_c0
  · exact w_c1
  · exact w_c2
set_option maxRecDepth 65536 in
theorem w_t1 : (words1.take 24).all (fun c => isCode c || c.before args0 about1) = true := by decide +kernel
set_option maxRecDepth 65536 in
theorem w_t2 : (words1.drop 24).all (fun c => isCode c || c.before args0 about1) = true := by decide +kernel
theorem w_tables : (allAtoms (Jvm.Cond.code x code maxLocals ret :: tables_1)).before args0 about1 = true := by
  rw [allAtoms_all]
  show words1.all (fun c => c.before args0 about1) = true
  refine all_split ?_ w_codes
  rw [← List.take_append_drop 24 words1, List.all_append, w_t1, w_t2]
  rfl
set_option maxRecDepth 65536 in
theorem w_case : (Jvm.Cond.and given_1 narrow_1).before args0 about1 = true := by decide +kernel
theorem w_applies : (headSpec (Jvm.Cond.code x code maxLocals ret :: tables_1) room_1).applies x e0.platform about1 = true :=
  (Spec.applies_iff w_frames).mpr ⟨w_running, w_runnable, w_alone, w_named, w_hears, w_ripe, w_room, w_tables⟩
theorem atStart : AtStart classFile x code maxLocals ret World_1 tables_1 room_1 Calls_1 rest_1 Pre_1 launch0 p0 e0 about1 theMethod args0 below0 :=
  ⟨lists_1, trivial, launch0.admits_env _ _ _, launch0.least_env, fairChoices_fair.cas, fairChoices_fair.clock, w_frames, w_args, w_heap, w_applies, trivial, trivial, w_case⟩
end start1
theorem witness_1 : WitnessClaimed_1 := ⟨start1.p0, start1.e0, start1.about1, start1.theMethod, start1.args0, start1.below0, start1.atStart⟩
end Jvm.Pilot.@@N@@
