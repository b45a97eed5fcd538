import JvmDerived
import JvmDerived.Pilot.@@N@@Statement
import JvmDerived.Pilot.@@N@@Code
set_option linter.unusedVariables false
set_option linter.unusedSimpArgs false
@@BLOCK:NumsL.lean.txt@@
namespace Jvm.Pilot.@@N@@
open Jvm Jvm.ClassFile Sem Op Lib Jvm.Free Jvm.Stand Jvm.LawKit Jvm.RoadKit Bundle Jvm.Pilot.@@N@@.Jvm.D
section Own
variable {p : Program} {l : Launch} {e : Env} {R : Room} {s : State} {m : MethodId} {args : Array Value} {below : List Frame} {meth : Method} {c : Code} {T : State} {locs : List Loc} {cells slots : Nat} {Z : State} {a0 : Array Value} {h : Heap}
/-- a walk that goes forward: from S the run comes to an end of which P holds -/
def own_G (p : Program) (e : Env) (below : List Frame) (S : State) (P : Outcome → State → Prop) : Prop :=
  ∃ s₂ o, Steps p.tables e below S s₂ ∧ s₂.status = .running ∧ Ended s₂ below o ∧ P o s₂
/-- what a body leaves -/
def own_P (s : State) (Q : Option Value → Heap → List Loc → Prop) (kc ks : Nat) (o : Outcome) (U : State) : Prop := ∃ v L, o = .returned v ∧ Q v U.heap L ∧ FrameEnd s o U L kc ks
theorem oS {S S' : State} {P : Outcome → State → Prop} (k : ∀ t, Steps p.tables e below S' t → Steps p.tables e below S t) (h : own_G p e below S' P) : own_G p e below S P := by
  obtain ⟨s2, o, h1, h2⟩ := h; exact ⟨s2, o, k _ h1, h2⟩
theorem oW {Z : State} {a0 : Array Value} (hw : ∀ d ∈ tables_1, d.before a0 Z = true) (i : Nat) {d : Jvm.Cond} (q : tables_1[i]? = some d) : d.before a0 Z = true := hw _ (List.mem_of_getElem? q)
theorem own_cast {g g' : JFrame} {P : Outcome → State → Prop} (q : g = g') (k : own_G p e below (T.setTop g') P) : own_G p e below (T.setTop g) P := q ▸ k
theorem own_leave (X : Stand p l e R s m args below meth c T locs cells slots) {g : JFrame} {v : Option Value} {Q : Option Value → Heap → List Loc → Prop} {kc ks : Nat} (hlocks : meth.locks = false) (hv : meth.sig.returnType = none → v = none)
    (k : ∀ fs, (∀ (f : JFrame) (acts : List Action), f.method = m → f.locked = none → f.entered = [] → (doReturn e (T.setTop f) acts v).1 = T.setFrames fs) → Steps p.tables e below (T.setTop g) (T.setFrames fs))
    (eT : T.heap = h) (hc : cells ≤ kc) (hs : slots ≤ ks) (hq : Q v h locs) : own_G p e below (T.setTop g) (own_P s Q kc ks) := by
  obtain ⟨fs, hr, hrun, hended, hW, hsame⟩ := X.leave (v := v) hv hlocks
  exact ⟨_, _, k fs hr, hrun, hended, _, _, rfl, by show Q v T.heap locs; rw [eT]; exact hq, ⟨_, rfl⟩, hW, hsame.mono hc hs⟩
theorem own_retN (X : Stand p l e R s m args below meth c T locs cells slots) (hx : p.tables.exec = Jvm.exec) {pc : Nat} {Ls : Array Slot} {z : Int32} {t : FieldType} {rest : List Value} {Q : Option Value → Heap → List Loc → Prop} {kc ks : Nat} (hlocks : meth.locks = false) (hret : meth.sig.returnType = some t) (ht : t = .boolean ∨ t = .byte ∨ t = .char ∨ t = .short)
    (hd : decode c.code pc = .ok (.ireturn, 1)) (hn : nar t z = z) (eT : T.heap = h) (hc : cells ≤ kc) (hs : slots ≤ ks) (hq : Q (some (.int z)) h locs) : own_G p e below (T.setTop (mkF m pc Ls (.int z :: rest))) (own_P s Q kc ks) :=
  own_leave X (v := some (.int z)) hlocks (fun q => by rw [hret] at q; cases q) (fun fs hl => retN X hx hret ht hd (by rw [hn]; exact hl)) eT hc hs hq
theorem own_retI (X : Stand p l e R s m args below meth c T locs cells slots) (hx : p.tables.exec = Jvm.exec) {pc : Nat} {Ls : Array Slot} {z : Int32} {rest : List Value} {Q : Option Value → Heap → List Loc → Prop} {kc ks : Nat} (hlocks : meth.locks = false) (hret : meth.sig.returnType = some .int)
    (hd : decode c.code pc = .ok (.ireturn, 1)) (eT : T.heap = h) (hc : cells ≤ kc) (hs : slots ≤ ks) (hq : Q (some (.int z)) h locs) : own_G p e below (T.setTop (mkF m pc Ls (.int z :: rest))) (own_P s Q kc ks) :=
  own_leave X (v := some (.int z)) hlocks (fun q => by rw [hret] at q; cases q) (fun fs hl => retOut X hx hret rfl (Or.inl ⟨rfl, Or.inl rfl, _, rfl⟩) hd hl) eT hc hs hq
theorem own_retL (X : Stand p l e R s m args below meth c T locs cells slots) (hx : p.tables.exec = Jvm.exec) {pc : Nat} {Ls : Array Slot} {z : Int64} {rest : List Value} {Q : Option Value → Heap → List Loc → Prop} {kc ks : Nat} (hlocks : meth.locks = false) (hret : meth.sig.returnType = some .long)
    (hd : decode c.code pc = .ok (.lreturn, 1)) (eT : T.heap = h) (hc : cells ≤ kc) (hs : slots ≤ ks) (hq : Q (some (.long z)) h locs) : own_G p e below (T.setTop (mkF m pc Ls (.long z :: rest))) (own_P s Q kc ks) :=
  own_leave X (v := some (.long z)) hlocks (fun q => by rw [hret] at q; cases q) (fun fs hl => retOut X hx hret rfl (Or.inr (Or.inl ⟨rfl, rfl, _, rfl⟩)) hd hl) eT hc hs hq
theorem own_narR {t : FieldType} {w : Value} (h : w.isRef = true) : narrow t w = w := by
  rcases ref_cases h with rfl | ⟨a, rfl⟩ <;> cases t <;> rfl
theorem own_retA (X : Stand p l e R s m args below meth c T locs cells slots) (hx : p.tables.exec = Jvm.exec) {pc : Nat} {Ls : Array Slot} {w : Value} {t : FieldType} {rest : List Value} {Q : Option Value → Heap → List Loc → Prop} {kc ks : Nat} (hlocks : meth.locks = false) (hret : meth.sig.returnType = some t) (ht : t.isReference = true) (hw : w.isRef = true)
    (hd : decode c.code pc = .ok (.areturn, 1)) (eT : T.heap = h) (hc : cells ≤ kc) (hs : slots ≤ ks) (hq : Q (some w) h locs) : own_G p e below (T.setTop (mkF m pc Ls (w :: rest))) (own_P s Q kc ks) :=
  own_leave X (v := some w) hlocks (fun q => by rw [hret] at q; cases q) (fun fs hl => retOut X hx hret (own_narR hw) (Or.inr (Or.inr (Or.inr (Or.inr ⟨rfl, ht, hw⟩)))) hd hl) eT hc hs hq
theorem own_retV (X : Stand p l e R s m args below meth c T locs cells slots) (hx : p.tables.exec = Jvm.exec) {pc : Nat} {Ls : Array Slot} {Q : Option Value → Heap → List Loc → Prop} {kc ks : Nat} (hlocks : meth.locks = false) (hret : meth.sig.returnType = none)
    (hd : decode c.code pc = .ok (.return_, 1)) (eT : T.heap = h) (hc : cells ≤ kc) (hs : slots ≤ ks) (hq : Q none h locs) : own_G p e below (T.setTop (mkF m pc Ls [])) (own_P s Q kc ks) :=
  own_leave X (v := none) hlocks (fun _ => rfl) (fun fs hl => X.returnOut hx hret hd hl) eT hc hs hq
abbrev own_Met (l : Launch) (Z : State) (h : Heap) (y : MethodName) (bytes : ByteArray) (maxL : Nat) (ret : Option FieldType) (ws : List Jvm.Cond) (rm : Room) (as' : Array Value) (Q : Option Value → Heap → List Loc → Prop) (kc ks : Nat) : Prop :=
  MetFree l y (head1 (Jvm.Cond.code y bytes maxL ret :: ws) rm) (fun a U => a = as' ∧ Z.Warmed39 U.vm ∧ U.heap = h) (fun _ _ _ _ _ => True) (fun _ U o U' => ∃ v L, o = .returned v ∧ Q v U'.heap L ∧ FrameEnd U o U' L kc ks)
variable {own : String} {index : Nat} {y : MethodName} {bytes : ByteArray} {maxL : Nat} {ret : Option FieldType} {rm : Room} {W : Nat} {as' : Array Value} {Q : Option Value → Heap → List Loc → Prop}
abbrev own_After (p : Program) (l : Launch) (e : Env) (R : Room) (s : State) (m : MethodId) (args : Array Value) (below : List Frame) (meth : Method) (c : Code) (T : State) (locs : List Loc) (kc ks : Nat) (g : JFrame) (rest : List Value) (Q : Option Value → Heap → List Loc → Prop) (len : Nat := 3) : Prop :=
  ∃ (T' : State) (h' : Heap) (v : Option Value) (L : List Loc), Stand p l e R s m args below meth c T' (locs ++ L) kc ks ∧ T'.heap = h' ∧ Q v h' L ∧ ∀ target, Steps p.tables e below (T'.setTop { g with pc := g.pc + len, stack := v.toList ++ rest }) target → Steps p.tables e below (T.setTop g) target
theorem own_callS (X : Stand p l e R s m args below meth c T locs cells slots) (hx : p.tables.exec = Jvm.exec) (hZ : Z.Warmed39 s.vm) (hown : s.vm.findClass own = some m.cls) (eT : T.heap = h)
    (w1 : (Jvm.Cond.methodLink own index y).before a0 Z = true) (w2 : (Jvm.Cond.static y).before a0 Z = true) (w3 : (Jvm.Cond.initialized y.cls).before a0 Z = true) (w4 : (Jvm.Cond.code y bytes maxL ret).before a0 Z = true) (hy : y.cls ≠ "java/lang/invoke/MethodHandle" ∧ y.cls ≠ "java/lang/invoke/VarHandle")
    (hM : own_Met l Z h y bytes maxL ret [] rm as' Q rm.cells rm.slots)
    (hf : rm.frames + 1 ≤ R.frames) (hl : W + (maxL + 11) + rm.locals ≤ R.locals) (hc : cells + rm.cells ≤ R.cells) (hsl : slots + rm.slots ≤ R.slots)
    {g : JFrame} (hg : g.method = m) (hsize : g.locals.size = c.maxLocals) {argsL rest : List Value} (has : argsL.toArray = as') (hlen : ∀ sig, parseMethodDescriptor y.desc = some sig → argsL.length = sig.parameters.length)
    (hstack : g.stack = argsL.reverse ++ rest) (hW : 2 * g.monitorRoom + (rest.map fun v => v.category).sum ≤ W) (hd : decode c.code g.pc = .ok (.invokestatic index, 3)) :
    own_After p l e R s m args below meth c T locs (cells + rm.cells) (slots + rm.slots) g rest Q := by
  obtain ⟨v, vm1, ⟨T', L', k', n'⟩, -, X', ⟨Lc, hQ, l1, y1, z1⟩, st⟩ := Jvm.LawKit.callS X hx (y := y) hown (mvT hZ w1) (mvT hZ w2) (mvT hZ w3) (mvT hZ w4) hy (backOf (W := W) hM hZ w4 w3 hf hl) hg hsize hlen hstack hW hd (fun _ _ => ⟨has, eT, hc, hsl⟩)
  dsimp only [Pt.U, Pt.locs, Pt.cells, Pt.slots] at X' l1 y1 z1 st hQ
  subst l1 y1 z1
  exact ⟨T', _, v, Lc, X', rfl, hQ, st⟩
theorem own_callV (X : Stand p l e R s m args below meth c T locs cells slots) (hx : p.tables.exec = Jvm.exec) (hZ : Z.Warmed39 s.vm) (hown : s.vm.findClass own = some m.cls) (eT : T.heap = h) {z : MethodName} {C : String} {b : Addr}
    (w1 : (Jvm.Cond.methodLink own index y).before a0 Z = true) (w2 : (Jvm.Cond.declares y).before a0 Z = true) (nf : NotFace s y) (w3 : (Jvm.Cond.selects C y z).before a0 Z = true) (w5 : (Jvm.Cond.instanceMethod z).before a0 Z = true) (w6 : (Jvm.Cond.initialized z.cls).before a0 Z = true) (w4 : (Jvm.Cond.code z bytes maxL ret).before a0 Z = true) (hy : y.cls ≠ "java/lang/invoke/MethodHandle" ∧ y.cls ≠ "java/lang/invoke/VarHandle")
    (E : Exa Z h b C) (hM : own_Met l Z h z bytes maxL ret [] rm as' Q rm.cells rm.slots)
    (hf : rm.frames + 1 ≤ R.frames) (hl : W + (maxL + 11) + rm.locals ≤ R.locals) (hc : cells + rm.cells ≤ R.cells) (hsl : slots + rm.slots ≤ R.slots)
    {g : JFrame} (hg : g.method = m) (hsize : g.locals.size = c.maxLocals) {argsL rest : List Value} (has : (.ref b :: argsL).toArray = as') (hlen : ∀ sig, parseMethodDescriptor y.desc = some sig → argsL.length = sig.parameters.length)
    (hstack : g.stack = argsL.reverse ++ .ref b :: rest) (hW : 2 * g.monitorRoom + (rest.map fun v => v.category).sum ≤ W) (hd : decode c.code g.pc = .ok (.invokevirtual index, 3)) :
    own_After p l e R s m args below meth c T locs (cells + rm.cells) (slots + rm.slots) g rest Q := by
  obtain ⟨cq, kq, q1, q2, q3⟩ := isOf hZ eT E
  obtain ⟨v, vm1, ⟨T', L', k', n'⟩, -, X', ⟨Lc, hQ, l1, y1, z1⟩, st⟩ := X.virtualBack hx (y := y) (z := z) hown (mvT hZ w1) (mvT hZ w2) nf (mvT hZ w3) (mvT hZ w5) hy (backOf (W := W) hM hZ w4 w6 hf hl) q1 q3 hg hsize (Steps.refl _) hlen hstack hW hd (fun _ _ => ⟨has, eT, hc, hsl⟩)
  dsimp only [Pt.U, Pt.locs, Pt.cells, Pt.slots] at X' l1 y1 z1 st hQ
  subst l1 y1 z1
  exact ⟨T', _, v, Lc, X', rfl, hQ, fun _ k => st.trans k⟩
theorem own_callU (X : Stand p l e R s m args below meth c T locs cells slots) (hx : p.tables.exec = Jvm.exec) (hZ : Z.Warmed39 s.vm) (hown : s.vm.findClass own = some m.cls) (eT : T.heap = h) {z : MethodName} {C owner : String} {b : Addr}
    (w1 : (Jvm.Cond.methodLink own index y).before a0 Z = true) (w2 : (Jvm.Cond.sameMethod y.cls owner y.name y.desc).before a0 Z = true) (w7 : (Jvm.Cond.declares ⟨owner, y.name, y.desc⟩).before a0 Z = true) (w3 : (Jvm.Cond.selects C y z).before a0 Z = true) (w5 : (Jvm.Cond.instanceMethod z).before a0 Z = true) (w6 : (Jvm.Cond.initialized z.cls).before a0 Z = true) (w4 : (Jvm.Cond.code z bytes maxL ret).before a0 Z = true) (hy : owner ≠ "java/lang/invoke/MethodHandle" ∧ owner ≠ "java/lang/invoke/VarHandle")
    (E : Exa Z h b C) (hM : own_Met l Z h z bytes maxL ret [] rm as' Q rm.cells rm.slots)
    (hf : rm.frames + 1 ≤ R.frames) (hl : W + (maxL + 11) + rm.locals ≤ R.locals) (hc : cells + rm.cells ≤ R.cells) (hsl : slots + rm.slots ≤ R.slots)
    {g : JFrame} (hg : g.method = m) (hsize : g.locals.size = c.maxLocals) {argsL rest : List Value} (has : (.ref b :: argsL).toArray = as') (hlen : ∀ sig, parseMethodDescriptor y.desc = some sig → argsL.length = sig.parameters.length)
    (hstack : g.stack = argsL.reverse ++ .ref b :: rest) (hW : 2 * g.monitorRoom + (rest.map fun v => v.category).sum ≤ W) (hd : decode c.code g.pc = .ok (.invokevirtual index, 3)) :
    own_After p l e R s m args below meth c T locs (cells + rm.cells) (slots + rm.slots) g rest Q := by
  obtain ⟨cq, kq, q1, q2, q3⟩ := isOf hZ eT E
  obtain ⟨v, vm1, ⟨T', L', k', n'⟩, -, X', ⟨Lc, hQ, l1, y1, z1⟩, st⟩ := X.virtualBackUp hx (x := y) (y := z) (owner := owner) hown (mvT hZ w1) (mvT hZ w2) (mvT hZ w7) hy (mvT hZ w3) (mvT hZ w5) (backOf (W := W) hM hZ w4 w6 hf hl) q1 q3 hg hsize (Steps.refl _) hlen hstack hW hd (fun _ _ => ⟨has, eT, hc, hsl⟩)
  dsimp only [Pt.U, Pt.locs, Pt.cells, Pt.slots] at X' l1 y1 z1 st hQ
  subst l1 y1 z1
  exact ⟨T', _, v, Lc, X', rfl, hQ, fun _ k => st.trans k⟩
theorem own_callN (X : Stand p l e R s m args below meth c T locs cells slots) (hx : p.tables.exec = Jvm.exec) (hZ : Z.Warmed39 s.vm) (hown : s.vm.findClass own = some m.cls) (eT : T.heap = h) {b : Addr} (hy1 : y.name = "<init>")
    (w1 : (Jvm.Cond.methodLink own index y).before a0 Z = true) (w5 : (Jvm.Cond.instanceMethod y).before a0 Z = true) (w6 : (Jvm.Cond.initialized y.cls).before a0 Z = true) (w4 : (Jvm.Cond.code y bytes maxL none).before a0 Z = true) (hy : y.cls ≠ "java/lang/invoke/MethodHandle" ∧ y.cls ≠ "java/lang/invoke/VarHandle")
    (hM : own_Met l Z h y bytes maxL none [] rm as' Q rm.cells rm.slots)
    (hf : rm.frames + 1 ≤ R.frames) (hl : W + (maxL + 11) + rm.locals ≤ R.locals) (hc : cells + rm.cells ≤ R.cells) (hsl : slots + rm.slots ≤ R.slots)
    {g : JFrame} (hg : g.method = m) (hsize : g.locals.size = c.maxLocals) {argsL rest : List Value} (has : (.ref b :: argsL).toArray = as') (hlen : ∀ sig, parseMethodDescriptor y.desc = some sig → argsL.length = sig.parameters.length)
    (hstack : g.stack = argsL.reverse ++ .ref b :: rest) (hW : 2 * g.monitorRoom + (rest.map fun v => v.category).sum ≤ W) (hd : decode c.code g.pc = .ok (.invokespecial index, 3)) :
    own_After p l e R s m args below meth c T locs (cells + rm.cells) (slots + rm.slots) g rest Q := by
  obtain ⟨v, vm1, ⟨T', L', k', n'⟩, -, X', ⟨Lc, hQ, l1, y1, z1⟩, st⟩ := X.specialBack hx (y := y) hy1 hown (mvT hZ w1) (mvT hZ w5) (mvT hZ w4) hy (backOf (W := W) hM hZ w4 w6 hf hl) hg hsize (Steps.refl _) hlen hstack hW hd (fun _ _ => ⟨has, eT, hc, hsl⟩)
  dsimp only [Pt.U, Pt.locs, Pt.cells, Pt.slots] at X' l1 y1 z1 st hQ
  subst l1 y1 z1
  exact ⟨T', _, v, Lc, X', rfl, hQ, fun _ k => st.trans k⟩
theorem own_callI (X : Stand p l e R s m args below meth c T locs cells slots) (hx : p.tables.exec = Jvm.exec) (hZ : Z.Warmed39 s.vm) (hown : s.vm.findClass own = some m.cls) (eT : T.heap = h) {z : MethodName} {C : String} {b : Addr} {count : Nat}
    (w1 : (Jvm.Cond.methodLink own index y).before a0 Z = true) (w2 : (Jvm.Cond.declares y).before a0 Z = true) (w7 : (Jvm.Cond.interfaceMethod y.cls y.cls y.name y.desc).before a0 Z = true) (h7 : ((Jvm.Cond.interfaceMethod y.cls y.cls y.name y.desc).onTables && (Jvm.Cond.interfaceMethod y.cls y.cls y.name y.desc).keepsFace) = true) (w3 : (Jvm.Cond.selects C y z).before a0 Z = true) (w5 : (Jvm.Cond.instanceMethod z).before a0 Z = true) (w8 : (Jvm.Cond.publicMethod z).before a0 Z = true) (w9 : (Jvm.Cond.unhidden C y.name y.desc).before a0 Z = true) (w10 : (Jvm.Cond.castable C y.cls).before a0 Z = true) (w6 : (Jvm.Cond.initialized z.cls).before a0 Z = true) (w4 : (Jvm.Cond.code z bytes maxL ret).before a0 Z = true) (hy : y.cls ≠ "java/lang/invoke/MethodHandle" ∧ y.cls ≠ "java/lang/invoke/VarHandle")
    (E : Exa Z h b C) (hM : own_Met l Z h z bytes maxL ret [] rm as' Q rm.cells rm.slots)
    (hf : rm.frames + 1 ≤ R.frames) (hl : W + (maxL + 11) + rm.locals ≤ R.locals) (hc : cells + rm.cells ≤ R.cells) (hsl : slots + rm.slots ≤ R.slots)
    {g : JFrame} (hg : g.method = m) (hsize : g.locals.size = c.maxLocals) {argsL rest : List Value} (has : (.ref b :: argsL).toArray = as') (hlen : ∀ sig, parseMethodDescriptor y.desc = some sig → argsL.length = sig.parameters.length)
    (hstack : g.stack = argsL.reverse ++ .ref b :: rest) (hW : 2 * g.monitorRoom + (rest.map fun v => v.category).sum ≤ W) (hd : decode c.code g.pc = .ok (.invokeinterface index count, 5)) :
    own_After p l e R s m args below meth c T locs (cells + rm.cells) (slots + rm.slots) g rest Q 5 := by
  obtain ⟨cq, kq, q1, q2, q3⟩ := isOf hZ eT E
  obtain ⟨v, vm1, ⟨T', L', k', n'⟩, -, X', ⟨Lc, hQ, l1, y1, z1⟩, st⟩ := X.interfaceBack hx (xi := y) (y := z) hown (mvT hZ w1) (mvT hZ w2) (mvT hZ w7 h7) (mvT hZ w3) (mvT hZ w5) (mvT hZ w8) (mvT hZ w9) (mvT hZ w10) hy (backOf (W := W) hM hZ w4 w6 hf hl) q1 q2 q3 hg hsize (Steps.refl _) hlen hstack hW hd (fun _ _ => ⟨has, eT, hc, hsl⟩)
  dsimp only [Pt.U, Pt.locs, Pt.cells, Pt.slots] at X' l1 y1 z1 st hQ
  subst l1 y1 z1
  exact ⟨T', _, v, Lc, X', rfl, hQ, fun _ k => st.trans k⟩
theorem own_callP (X : Stand p l e R s m args below meth c T locs cells slots) (hx : p.tables.exec = Jvm.exec) (hZ : Z.Warmed39 s.vm) (hown : s.vm.findClass own = some m.cls) (eT : T.heap = h) {b : Addr} {C : String}
    (w1 : (Jvm.Cond.methodLink own index y).before a0 Z = true) (w5 : (Jvm.Cond.instanceMethod y).before a0 Z = true) (w3 : (Jvm.Cond.selects y.cls y y).before a0 Z = true) (w7 : (Jvm.Cond.privateMethod y).before a0 Z = true) (w6 : (Jvm.Cond.initialized y.cls).before a0 Z = true) (w4 : (Jvm.Cond.code y bytes maxL ret).before a0 Z = true) (hy : y.cls ≠ "java/lang/invoke/MethodHandle" ∧ y.cls ≠ "java/lang/invoke/VarHandle")
    (E : Exa Z h b C) (hM : own_Met l Z h y bytes maxL ret [] rm as' Q rm.cells rm.slots)
    (hf : rm.frames + 1 ≤ R.frames) (hl : W + (maxL + 11) + rm.locals ≤ R.locals) (hc : cells + rm.cells ≤ R.cells) (hsl : slots + rm.slots ≤ R.slots)
    {g : JFrame} (hg : g.method = m) (hsize : g.locals.size = c.maxLocals) {argsL rest : List Value} (has : (.ref b :: argsL).toArray = as') (hlen : ∀ sig, parseMethodDescriptor y.desc = some sig → argsL.length = sig.parameters.length)
    (hstack : g.stack = argsL.reverse ++ .ref b :: rest) (hW : 2 * g.monitorRoom + (rest.map fun v => v.category).sum ≤ W) (hd : decode c.code g.pc = .ok (.invokevirtual index, 3)) :
    own_After p l e R s m args below meth c T locs (cells + rm.cells) (slots + rm.slots) g rest Q := by
  obtain ⟨cell, hcell, hobj⟩ := E.cell
  obtain ⟨v, vm1, ⟨T', L', k', n'⟩, -, X', ⟨Lc, hQ, l1, y1, z1⟩, st⟩ := X.privateBack hx (y := y) hown (mvT hZ w1) (mvT hZ w5) (mvT hZ w3) (Cond.privateMethod_at (mvP (args := #[]) hZ w7)) (mvT hZ w4) hy (backOf (W := W) hM hZ w4 w6 hf hl) hg hsize (Steps.refl _) (by rw [eT]; exact hcell) hobj hlen hstack hW hd (fun _ _ => ⟨has, eT, hc, hsl⟩)
  dsimp only [Pt.U, Pt.locs, Pt.cells, Pt.slots] at X' l1 y1 z1 st hQ
  subst l1 y1 z1
  exact ⟨T', _, v, Lc, X', rfl, hQ, fun _ k => st.trans k⟩
theorem own_lsw (X : Stand p l e R s m args below meth c T locs cells slots) (hx : p.tables.exec = Jvm.exec) {g : JFrame} (hg : g.method = m) {k : Int32} {rest : List Value} (hs : g.stack = .int k :: rest) {dflt : Int} {pairs : Array (Int × Int)} {len : Nat} (hd : decode c.code g.pc = .ok (.lookupswitch dflt pairs, len))
    (hsorted : (pairs.toList.zip (pairs.toList.drop 1)).all (fun (a, next) => a.1 < next.1) = true) {a off : Int} (hfind : pairs.find? (·.1 == k.toInt) = some (a, off)) {pc0 pc' : Nat} (hpc : g.pc = pc0) (ho : 0 ≤ (pc0 : Int) + off) (hp : ((pc0 : Int) + off).toNat = pc') :
    ∀ t, Steps p.tables e below (T.setTop { g with pc := pc', stack := rest }) t → Steps p.tables e below (T.setTop g) t := by
  subst hpc hp; exact fun t hr => X.lookupswitchHit hx hg hs hd hsorted hfind ho t hr
theorem own_rne {a b : Addr} (h : a ≠ b) : ¬ (Value.ref a = Value.ref b) := fun q => h (Value.ref.inj q)
def own_pl : Value → Bool
  | .int _ => true
  | .ref _ => true
  | .null => true
  | .long _ => true
  | _ => false
theorem own_eqv {args : Array Value} {f : State} {o : Option Outcome} {idx : List Nat} {t u : Term} {x y : Value} (ha : t.eval args f o idx s = some x) (hb : u.eval args f o idx s = some y) (h : (Jvm.Cond.eq t u).value args f o s idx = some true) (hk : own_pl y = true := by rfl) : x = y := by
  cases x <;> cases y <;> simp [Jvm.Cond.value, ha, hb, own_pl] at h hk ⊢ <;> first | exact h | exact h.symm
theorem own_fv {args : Array Value} {t u : Term} {O n d : String} {a : Addr} {y : Value} (ht : t.eval args s none [] s = some (.ref a)) (hu : u.eval args s none [] s = some y) (h : (Jvm.Cond.eq (.field t O n d) u).value args s none s [] = some true) (hk : own_pl y = true := by rfl) : Fld s s.heap a O n d y := by
  obtain ⟨x, y', e1, e2, -, -⟩ := cmp_v (Or.inl h)
  have q := own_eqv e1 hu h hk
  subst q
  exact Fld.start ((fld_at ht).symm.trans e1)
end Own
section OwnArr
variable {p : Program} {l : Launch} {e : Env} {R : Room} {s : State} {m : MethodId} {args : Array Value} {below : List Frame} {meth : Method} {c : Code} {T : State} {locs : List Loc} {cells slots : Nat} {Z : State} {a0 : Array Value} {h : Heap} {a : Addr} {k : ClassId} {ty : FieldType} {z j : Int32} {vs : List Value} {dv v : Value}
theorem own_newA (A : Arr Z h a (newA k ty z) ty) (q : ¬ z < 0) (hv : vs = List.replicate z.toNatClampNeg (defaultValue ty)) (hd : dv = defaultValue ty) : Arv Z h a k ty z vs dv := by
  subst hv hd; exact (Arv.new A q).pad (pad_rep [] _ _)
theorem own_newP (X : Stand p l e R s m args below meth c T locs cells slots) (hx : p.tables.exec = Jvm.exec) (hZ : Z.Warmed39 s.vm) {aty : ArrayType} (w : (Jvm.Cond.arrayClass (newarray.typeOf aty)).before a0 Z = true) (eT : T.heap = h) {nm : String} (hnm : "[" ++ (newarray.typeOf aty).toString = nm)
    {g : JFrame} (hg : g.method = m) (hd : decode c.code g.pc = .ok (.newarray aty, 2)) {n : Int32} {rest : List Value} (hs : g.stack = .int n :: rest) (hn : ¬ n < 0) {cap : Nat} (hcap : n.toNatClampNeg ≤ cap) (hb : cap * 8 ≤ 536870912) (hc : cells + 1 ≤ R.cells) (hl : slots + cap ≤ R.slots) :
    ∃ T' h' cA, Stand p l e R s m args below meth c T' locs (cells + 1) (slots + cap) ∧ T'.heap = h' ∧ Ext h h' ∧ Arr Z h' h.size (newA cA (newarray.typeOf aty) n) (newarray.typeOf aty) ∧ Exa Z h' h.size nm ∧
      ∀ target, Steps p.tables e below (T'.setTop { g with pc := g.pc + 2, stack := .ref h.size :: rest }) target → Steps p.tables e below (T.setTop g) target := by
  subst hnm eT
  obtain ⟨cA, kA, comp, h1, h2, h3, X', st⟩ := X.newarrayPrim hx (mvA hZ w) hg hd hs hn (Nat.le_trans (Nat.mul_le_mul hcap (by cases aty <;> decide : componentBytes (newarray.typeOf aty) ≤ 8)) hb) hc (by omega)
  rw [hZ.alike.findClass] at h1
  obtain ⟨kZ, z1, -⟩ := Vm.findClass_spec h1
  obtain ⟨k', z2, z3⟩ := hZ.alike.2.2 _ _ z1
  cases h2.symm.trans z2
  have hk : kZ.kind = .array comp (newarray.typeOf aty) := by rw [← h3, z3]
  have hN : (T.heap.push (newA cA (newarray.typeOf aty) n))[T.heap.size]? = some (newA cA (newarray.typeOf aty) n) := by simp
  have hE : Ext T.heap (T.heap.push (newA cA (newarray.typeOf aty) n)) := ext_of fun a q => Array.getElem?_push_lt q |>.trans (Array.getElem?_eq_getElem q).symm
  exact ⟨_, _, cA, X'.more (Nat.le_refl _) (by omega), rfl, hE, ⟨hN, ⟨by simp [newA], kZ, z1, comp, hk⟩, by simp [newA]⟩, ⟨_, kZ, hN, h1, z1, rfl, fun q => by rw [hk] at q; cases q⟩, st⟩
theorem own_len (X : Stand p l e R s m args below meth c T locs cells slots) (hx : p.tables.exec = Jvm.exec) (hZ : Z.Warmed39 s.vm) (eT : T.heap = h) (A : Arv Z h a k ty z vs dv) {g : JFrame} (hg : g.method = m) {rest : List Value} (hs : g.stack = .ref a :: rest) (hd : decode c.code g.pc = .ok (.arraylength, 1)) :
    ∀ target, Steps p.tables e below (T.setTop { g with pc := g.pc + 1, stack := .int z :: rest }) target → Steps p.tables e below (T.setTop g) target := by
  obtain ⟨cl, A1, q1, S, q3, H, G⟩ := A
  intro target hr
  refine X.arraylength hx (cell := cl) (by rw [eT]; exact A1.1) (State.isArrayOf_alike hZ.alike A1.2.1) hg hs hd target ?_
  rw [len_of S q3]; exact hr
theorem own_iaload (X : Stand p l e R s m args below meth c T locs cells slots) (hx : p.tables.exec = Jvm.exec) (hZ : Z.Warmed39 s.vm) (eT : T.heap = h) (A : Arv Z h a k .int z vs dv) (hj : ¬ j < 0 ∧ j < z) (hv : vs.getD j.toNatClampNeg dv = v) {g : JFrame} (hg : g.method = m) {rest : List Value} (hs : g.stack = .int j :: .ref a :: rest) (hd : decode c.code g.pc = .ok (.iaload, 1)) :
    ∀ target, Steps p.tables e below (T.setTop { g with pc := g.pc + 1, stack := v :: rest }) target → Steps p.tables e below (T.setTop g) target := by
  obtain ⟨cl, A1, q1, S, q3, H, G⟩ := A
  exact fun t k => X.iaload hx (by rw [eT]; exact A1.1) (State.isArrayOf_alike hZ.alike A1.2.1) A1.2.2 (inb_of S hj) (H.at (inb_of S hj) hv) hg hs hd t k
theorem own_baload (X : Stand p l e R s m args below meth c T locs cells slots) (hx : p.tables.exec = Jvm.exec) (hZ : Z.Warmed39 s.vm) (eT : T.heap = h) (A : Arv Z h a k .byte z vs dv) (hj : ¬ j < 0 ∧ j < z) (hv : vs.getD j.toNatClampNeg dv = v) {g : JFrame} (hg : g.method = m) {rest : List Value} (hs : g.stack = .int j :: .ref a :: rest) (hd : decode c.code g.pc = .ok (.baload, 1)) :
    ∀ target, Steps p.tables e below (T.setTop { g with pc := g.pc + 1, stack := v :: rest }) target → Steps p.tables e below (T.setTop g) target := by
  obtain ⟨cl, A1, q1, S, q3, H, G⟩ := A
  exact fun t k => X.baloadBytes hx (by rw [eT]; exact A1.1) (State.isArrayOf_alike hZ.alike A1.2.1) A1.2.2 (inb_of S hj) (H.at (inb_of S hj) hv) hg hs hd t k
theorem own_caload (X : Stand p l e R s m args below meth c T locs cells slots) (hx : p.tables.exec = Jvm.exec) (hZ : Z.Warmed39 s.vm) (eT : T.heap = h) (A : Arv Z h a k .char z vs dv) (hj : ¬ j < 0 ∧ j < z) (hv : vs.getD j.toNatClampNeg dv = v) {g : JFrame} (hg : g.method = m) {rest : List Value} (hs : g.stack = .int j :: .ref a :: rest) (hd : decode c.code g.pc = .ok (.caload, 1)) :
    ∀ target, Steps p.tables e below (T.setTop { g with pc := g.pc + 1, stack := v :: rest }) target → Steps p.tables e below (T.setTop g) target := by
  obtain ⟨cl, A1, q1, S, q3, H, G⟩ := A
  exact fun t k => X.caload hx (by rw [eT]; exact A1.1) (State.isArrayOf_alike hZ.alike A1.2.1) A1.2.2 (inb_of S hj) (H.at (inb_of S hj) hv) hg hs hd t k
theorem own_aaload (X : Stand p l e R s m args below meth c T locs cells slots) (hx : p.tables.exec = Jvm.exec) (hZ : Z.Warmed39 s.vm) (eT : T.heap = h) (A : Arv Z h a k ty z vs dv) (hty : ty.isReference = true) (hj : ¬ j < 0 ∧ j < z) (hv : vs.getD j.toNatClampNeg dv = v) {g : JFrame} (hg : g.method = m) {rest : List Value} (hs : g.stack = .int j :: .ref a :: rest) (hd : decode c.code g.pc = .ok (.aaload, 1)) :
    ∀ target, Steps p.tables e below (T.setTop { g with pc := g.pc + 1, stack := v :: rest }) target → Steps p.tables e below (T.setTop g) target := by
  obtain ⟨cl, A1, q1, S, q3, H, G⟩ := A
  exact fun t k => X.aaload hx (by rw [eT]; exact A1.1) (State.isArrayOf_alike hZ.alike A1.2.1) hty A1.2.2 (inb_of S hj) (H.at (inb_of S hj) hv) hg hs hd t k
theorem own_stB (X : Stand p l e R s m args below meth c T locs cells slots) (hx : p.tables.exec = Jvm.exec) (hZ : Z.Warmed39 s.vm) (eT : T.heap = h) (A : Arv Z h a k .byte z vs dv) {x x' : Int32} (i : Nat) (hn : nar .byte x = x') (hji : j.toNatClampNeg = i) (hj : ¬ j < 0 ∧ j < z) (hi : i < vs.length) {g : JFrame} (hg : g.method = m) {rest : List Value} (hs : g.stack = .int x :: .int j :: .ref a :: rest) (hd : decode c.code g.pc = .ok (.bastore, 1)) :
    ∃ T' h', Stand p l e R s m args below meth c T' (locs ++ [⟨a, i⟩]) cells slots ∧ T'.heap = h' ∧ Wr h h' a i (.int x') ∧ Arv Z h' a k .byte z (vs.set i (.int x')) dv ∧ ∀ target, Steps p.tables e below (T'.setTop { g with pc := g.pc + 1, stack := rest }) target → Steps p.tables e below (T.setTop g) target := by
  obtain ⟨cl, A1, q1, S, q3, H, G⟩ := A
  obtain ⟨T', h', X', e', W, st⟩ := stB X hx hZ eT A1 (inb_of S hj) hg hs hd
  subst hn hji
  exact ⟨T', h', X', e', W, Arv.set A1 q1 S q3 H G (fits_byte_narrow x) W _ rfl hi, st⟩
theorem own_stC (X : Stand p l e R s m args below meth c T locs cells slots) (hx : p.tables.exec = Jvm.exec) (hZ : Z.Warmed39 s.vm) (eT : T.heap = h) (A : Arv Z h a k .char z vs dv) {x x' : Int32} (i : Nat) (hn : nar .char x = x') (hji : j.toNatClampNeg = i) (hj : ¬ j < 0 ∧ j < z) (hi : i < vs.length) {g : JFrame} (hg : g.method = m) {rest : List Value} (hs : g.stack = .int x :: .int j :: .ref a :: rest) (hd : decode c.code g.pc = .ok (.castore, 1)) :
    ∃ T' h', Stand p l e R s m args below meth c T' (locs ++ [⟨a, i⟩]) cells slots ∧ T'.heap = h' ∧ Wr h h' a i (.int x') ∧ Arv Z h' a k .char z (vs.set i (.int x')) dv ∧ ∀ target, Steps p.tables e below (T'.setTop { g with pc := g.pc + 1, stack := rest }) target → Steps p.tables e below (T.setTop g) target := by
  obtain ⟨cl, A1, q1, S, q3, H, G⟩ := A
  obtain ⟨T', h', X', e', W, st⟩ := stC X hx hZ eT A1 (inb_of S hj) hg hs hd
  subst hn hji
  exact ⟨T', h', X', e', W, Arv.set A1 q1 S q3 H G (fits_nar_char x) W _ rfl hi, st⟩
theorem own_stI (X : Stand p l e R s m args below meth c T locs cells slots) (hx : p.tables.exec = Jvm.exec) (hZ : Z.Warmed39 s.vm) (eT : T.heap = h) (A : Arv Z h a k .int z vs dv) {x : Int32} (i : Nat) (hji : j.toNatClampNeg = i) (hj : ¬ j < 0 ∧ j < z) (hi : i < vs.length) {g : JFrame} (hg : g.method = m) {rest : List Value} (hs : g.stack = .int x :: .int j :: .ref a :: rest) (hd : decode c.code g.pc = .ok (.iastore, 1)) :
    ∃ T' h', Stand p l e R s m args below meth c T' (locs ++ [⟨a, i⟩]) cells slots ∧ T'.heap = h' ∧ Wr h h' a i (.int x) ∧ Arv Z h' a k .int z (vs.set i (.int x)) dv ∧ ∀ target, Steps p.tables e below (T'.setTop { g with pc := g.pc + 1, stack := rest }) target → Steps p.tables e below (T.setTop g) target := by
  obtain ⟨cl, A1, q1, S, q3, H, G⟩ := A
  obtain ⟨T', h', X', e', W, st⟩ := stI X hx hZ eT A1 (inb_of S hj) hg hs hd
  subst hji
  exact ⟨T', h', X', e', W, Arv.set A1 q1 S q3 H G rfl W _ rfl hi, st⟩
theorem own_stR (X : Stand p l e R s m args below meth c T locs cells slots) (hx : p.tables.exec = Jvm.exec) (hZ : Z.Warmed39 s.vm) (eT : T.heap = h) (A : Arv Z h a k ty z vs dv) (hty : ty.isReference = true) (i : Nat) (F : Sto Z h a v) (hf : fits ty v = true) (hji : j.toNatClampNeg = i) (hj : ¬ j < 0 ∧ j < z) (hi : i < vs.length) {g : JFrame} (hg : g.method = m) {rest : List Value} (hs : g.stack = v :: .int j :: .ref a :: rest) (hd : decode c.code g.pc = .ok (.aastore, 1)) :
    ∃ T' h', Stand p l e R s m args below meth c T' (locs ++ [⟨a, i⟩]) cells slots ∧ T'.heap = h' ∧ Wr h h' a i v ∧ Arv Z h' a k ty z (vs.set i v) dv ∧ ∀ target, Steps p.tables e below (T'.setTop { g with pc := g.pc + 1, stack := rest }) target → Steps p.tables e below (T.setTop g) target := by
  obtain ⟨cl, A1, q1, S, q3, H, G⟩ := A
  obtain ⟨T', h', X', e', W, st⟩ := stR X hx hZ eT A1 (inb_of S hj) hty F hg hs hd
  subst hji
  exact ⟨T', h', X', e', W, Arv.set A1 q1 S q3 H G hf W _ rfl hi, st⟩
theorem own_sto {C : String} {y : Addr} (A : Arv Z h a k ty z vs dv) (O : Ovr Z k C) (I : Ins Z h y C true) : Sto Z h a (.ref y) := by
  obtain ⟨cl, A1, q1, S, q3, H, G⟩ := A
  exact Sto.ofV A1 q1 O I
theorem own_narB (x : Int32) : nar .byte (x.toInt8.toInt32) = x.toInt8.toInt32 := Value.int.inj (XT.narrow_b x)
theorem own_narC (x : Int32) : nar .char (x.toUInt32.toUInt16.toUInt32.toInt32) = x.toUInt32.toUInt16.toUInt32.toInt32 := Value.int.inj (XT.narrow_c x)
theorem own_fitc {cl : Cell} (A : Arr Z h a cl ty) (H : Has cl vs dv) (G : ∀ i, i < cl.slots.size → fits ty (vs.getD i dv) = true) : FitC Z cl := fun i v hv => by
  obtain ⟨hi, q0⟩ := Array.getElem?_eq_some_iff.mp hv
  have q := G i hi
  have q2 := (H i hi).symm.trans hv
  rw [Option.some.inj q2] at q
  obtain ⟨hs, k, hk, comp, hkind⟩ := A.2.1
  simp [State.fitsSlot, State.slotType?, hk, hkind]; exact q
theorem own_clone (X : Stand p l e R s m args below meth c T locs cells slots) (hx : p.tables.exec = Jvm.exec) (hZ : Z.Warmed39 s.vm) {own ad : String} {index : Nat} (hown : s.vm.findClass own = some m.cls) (eT : T.heap = h)
    (w1 : (Jvm.Cond.methodLink own index ⟨ad, "clone", "()Ljava/lang/Object;"⟩).before a0 Z = true) (w2 : (Jvm.Cond.sameMethod ad "java/lang/Object" "clone" "()Ljava/lang/Object;").before a0 Z = true) (w3 : (Jvm.Cond.native ⟨"java/lang/Object", "clone", "()Ljava/lang/Object;"⟩).before a0 Z = true)
    (w4 : (Jvm.Cond.instanceMethod ⟨"java/lang/Object", "clone", "()Ljava/lang/Object;"⟩).before a0 Z = true) (w5 : (Jvm.Cond.selects ad ⟨ad, "clone", "()Ljava/lang/Object;"⟩ ⟨"java/lang/Object", "clone", "()Ljava/lang/Object;"⟩).before a0 Z = true) (w6 : (Jvm.Cond.castable ad "java/lang/Cloneable").before a0 Z = true)
    (A : Arv Z h a k ty z vs dv) (E : Exa Z h a ad) {g : JFrame} (hg : g.method = m) (hsize : g.locals.size = c.maxLocals) {rest : List Value} (hs : g.stack = .ref a :: rest) (hd : decode c.code g.pc = .ok (.invokevirtual index, 3))
    (hf : 1 ≤ R.frames) {W cap : Nat} (hW : 2 * g.monitorRoom + (rest.map fun v => v.category).sum ≤ W) (hl : W + 14 ≤ R.locals) (hcap : z.toNatClampNeg ≤ cap) (hc : cells + 1 ≤ R.cells) (hsl : slots + cap ≤ R.slots) :
    ∃ T' h', Stand p l e R s m args below meth c T' locs (cells + 1) (slots + cap) ∧ T'.heap = h' ∧ Ext h h' ∧ Arv Z h' h.size k ty z vs dv ∧ Exa Z h' h.size ad ∧
      ∀ target, Steps p.tables e below (T'.setTop { g with pc := g.pc + 3, stack := .ref h.size :: rest }) target → Steps p.tables e below (T.setTop g) target := by
  obtain ⟨cl, A1, q1, S, q3, H, G⟩ := A
  obtain ⟨T', h', X', e', E', A', E2, st⟩ := cloneA X hx hZ hown w1 w2 w3 w4 w5 w6 eT A1 E (own_fitc A1 H G) hg hsize hs hd hf hW hl (by rw [S]; exact hcap) hc hsl
  exact ⟨T', h', X', e', E', ⟨_, A', q1, S, q3, H, G⟩, E2, st⟩
end OwnArr
theorem own_bm32 {n : Int} (h1 : -2147483648 ≤ n) (h2 : n < 2147483648) : n.bmod (2 ^ 32) = n := Int.bmod_eq_of_le (by omega) (by omega)
theorem own_modlt (x : Int32) (n : Int32) (hn : 0 < n.toInt) : 0 ≤ ((x &&& 2147483647) % n).toInt ∧ ((x &&& 2147483647) % n).toInt < n.toInt := by
  have e := Jvm.Kit.i32_mask x 2147483647 (k := 31) (by decide) (by decide)
  rw [Int32.toInt_mod, e]
  have h0 : 0 ≤ x.toInt % 2 ^ 31 := Int.emod_nonneg _ (by decide)
  rw [Int.tmod_eq_emod_of_nonneg h0]
  exact ⟨Int.emod_nonneg _ (by omega), Int.emod_lt_of_pos _ hn⟩
theorem own_i32 {x : Int32} {k : Int32} (h : x.toInt = k.toInt) : x = k := Int32.toInt_inj.mp h
theorem own_in2 {x : Int32} (h : 0 ≤ x.toInt ∧ x.toInt < 2) : x = 0 ∨ x = 1 := by
  rcases (by omega : x.toInt = 0 ∨ x.toInt = 1) with q | q
  · exact .inl (own_i32 (k := 0) q)
  · exact .inr (own_i32 (k := 1) q)
theorem own_in3 {x : Int32} (h : 0 ≤ x.toInt ∧ x.toInt < 3) : x = 0 ∨ x = 1 ∨ x = 2 := by
  rcases (by omega : x.toInt = 0 ∨ x.toInt = 1 ∨ x.toInt = 2) with q | q | q
  · exact .inl (own_i32 (k := 0) q)
  · exact .inr (.inl (own_i32 (k := 1) q))
  · exact .inr (.inr (own_i32 (k := 2) q))
theorem own_in4 {x : Int32} (h : 0 ≤ x.toInt ∧ x.toInt < 4) : x = 0 ∨ x = 1 ∨ x = 2 ∨ x = 3 := by
  rcases (by omega : x.toInt = 0 ∨ x.toInt = 1 ∨ x.toInt = 2 ∨ x.toInt = 3) with q | q | q | q
  · exact .inl (own_i32 (k := 0) q)
  · exact .inr (.inl (own_i32 (k := 1) q))
  · exact .inr (.inr (.inl (own_i32 (k := 2) q)))
  · exact .inr (.inr (.inr (own_i32 (k := 3) q)))
theorem own_in5 {x : Int32} (h : 0 ≤ x.toInt ∧ x.toInt < 5) : x = 0 ∨ x = 1 ∨ x = 2 ∨ x = 3 ∨ x = 4 := by
  rcases (by omega : x.toInt = 0 ∨ x.toInt = 1 ∨ x.toInt = 2 ∨ x.toInt = 3 ∨ x.toInt = 4) with q | q | q | q | q
  · exact .inl (own_i32 (k := 0) q)
  · exact .inr (.inl (own_i32 (k := 1) q))
  · exact .inr (.inr (.inl (own_i32 (k := 2) q)))
  · exact .inr (.inr (.inr (.inl (own_i32 (k := 3) q))))
  · exact .inr (.inr (.inr (.inr (own_i32 (k := 4) q))))
theorem own_in6 {x : Int32} (h : 0 ≤ x.toInt ∧ x.toInt < 6) : x = 0 ∨ x = 1 ∨ x = 2 ∨ x = 3 ∨ x = 4 ∨ x = 5 := by
  rcases (by omega : x.toInt = 0 ∨ x.toInt = 1 ∨ x.toInt = 2 ∨ x.toInt = 3 ∨ x.toInt = 4 ∨ x.toInt = 5) with q | q | q | q | q | q
  · exact .inl (own_i32 (k := 0) q)
  · exact .inr (.inl (own_i32 (k := 1) q))
  · exact .inr (.inr (.inl (own_i32 (k := 2) q)))
  · exact .inr (.inr (.inr (.inl (own_i32 (k := 3) q))))
  · exact .inr (.inr (.inr (.inr (.inl (own_i32 (k := 4) q)))))
  · exact .inr (.inr (.inr (.inr (.inr (own_i32 (k := 5) q)))))
theorem own_in7 {x : Int32} (h : 0 ≤ x.toInt ∧ x.toInt < 7) : x = 0 ∨ x = 1 ∨ x = 2 ∨ x = 3 ∨ x = 4 ∨ x = 5 ∨ x = 6 := by
  rcases (by omega : x.toInt = 0 ∨ x.toInt = 1 ∨ x.toInt = 2 ∨ x.toInt = 3 ∨ x.toInt = 4 ∨ x.toInt = 5 ∨ x.toInt = 6) with q | q | q | q | q | q | q
  · exact .inl (own_i32 (k := 0) q)
  · exact .inr (.inl (own_i32 (k := 1) q))
  · exact .inr (.inr (.inl (own_i32 (k := 2) q)))
  · exact .inr (.inr (.inr (.inl (own_i32 (k := 3) q))))
  · exact .inr (.inr (.inr (.inr (.inl (own_i32 (k := 4) q)))))
  · exact .inr (.inr (.inr (.inr (.inr (.inl (own_i32 (k := 5) q))))))
  · exact .inr (.inr (.inr (.inr (.inr (.inr (own_i32 (k := 6) q))))))
theorem own_and3 (x : Int32) : 0 ≤ (x &&& 3).toInt ∧ (x &&& 3).toInt < 4 := by
  have e := Jvm.Kit.i32_mask x 3 (k := 2) (by decide) (by decide)
  rw [e]; omega
theorem own_ef0 (m : MethodId) (x0 : Int32) (x1 : Int32) (x2 : Int32) (x3 : Int32) (x4 : Int32) : entryFrame m #[(.int x0), (.int x1), (.int x2), (.int x3), (.int x4)] maxLocals = mkF m 0 #[.val (.int x0), .val (.int x1), .val (.int x2), .val (.int x3), .val (.int x4), .unset, .unset, .unset, .unset, .unset, .unset, .unset, .unset, .unset] [] := by first | (simp [entryFrame, mkF, argsToLocals, Value.category, maxLocals]; done) | rfl
theorem own_ef1 (m : MethodId) (x0 : Addr) (x1 : Addr) : entryFrame m #[(.ref x0), (.ref x1)] 2 = mkF m 0 #[.val (.ref x0), .val (.ref x1)] [] := by first | (simp [entryFrame, mkF, argsToLocals, Value.category]; done) | rfl
theorem dd0_0 : decode prog_11_method_6_code 0 = .ok (.aload_n 1, 1) := by decide +kernel
theorem dd0_1 : decode prog_11_method_6_code 1 = .ok (.arraylength, 1) := by decide +kernel
theorem dd0_2 : decode prog_11_method_6_code 2 = .ok (.ifCond .le 17, 3) := by decide +kernel
theorem dd0_19 : decode prog_11_method_6_code 19 = .ok (.iconst 0, 1) := by decide +kernel
theorem dd0_20 : decode prog_11_method_6_code 20 = .ok (.ireturn, 1) := by decide +kernel
def own_Q2 (Z : State) (ob_11 : Addr) (ob_35 : Addr) (kk_33 : ClassId) (h0 : Heap) (n0 : Nat) (v : Option Value) (h : Heap) (L : List Loc) : Prop := (v = some (.int 0) ∧ Fr n0 L ∧ h = h0)
theorem own_pn0 : plainFor (⟨"com/example/ombor/ombor/db/Keyspace", "holds", "([B)Z"⟩ : MethodName) = true := by decide +kernel
set_option maxRecDepth 65536 in
set_option maxHeartbeats 40000000 in
theorem own_rm2 (l : Launch) (Z : State) (a0 : Array Value) (hw : ∀ d ∈ tables_1, d.before a0 Z = true) (ws : List Jvm.Cond) (ob_11 : Addr) (ob_35 : Addr) (kk_33 : ClassId) (h0 : Heap) (n0 : Nat) (Z0 : n0 ≤ h0.size) (O0 : Old Z n0 h0) (I39 : Arv Z h0 ob_35 kk_33 .byte 0 [] (.int 0)) :
    own_Met l Z h0 (⟨"com/example/ombor/ombor/db/Keyspace", "holds", "([B)Z"⟩ : MethodName) prog_11_method_6_code 2 (Option.some FieldType.boolean) ws ({ frames := 0, cells := 0, slots := 0, locals := 0 } : Room) #[(.ref ob_11), (.ref ob_35)] (own_Q2 Z ob_11 ob_35 kk_33 h0 n0) 0 0 := by
  refine MetFree.of_bodySF own_pn0 hisR ?_
  intro p e s m args below meth c s₁ Bd hml0 hP hK
  obtain ⟨rfl, hZ, hh⟩ := hP
  have hx := Bd.exec
  have hby := Bd.bytes
  have hml : c.maxLocals = 2 := hml0
  have hown : s.vm.findClass "com/example/ombor/ombor/db/Keyspace" = some m.cls := findClass_of_methodNamed Bd.named
  have hnm := (name_of_methodNamed Bd.named Bd.method).1
  have X0 : Stand p l e ({ frames := 0, cells := 0, slots := 0, locals := 0 } : Room) s m #[(.ref ob_11), (.ref ob_35)] below meth c s₁ [] 0 0 := Stand.of_body Bd
  have e0 : s₁.heap = h0 := by rw [← hh, Bd.state]; rfl
  have N0 := Fr.nil n0
  show own_G p e below (s₁.setTop (entryFrame m #[(.ref ob_11), (.ref ob_35)] 2)) (own_P s (own_Q2 Z ob_11 ob_35 kk_33 h0 n0) 0 0)
  refine own_cast (own_ef1 m ob_11 ob_35) ?_
  show own_G p e below (s₁.setTop (mkF m 0 #[rv ob_11, rv ob_35] [])) _
  refine oS (fun _ => XS.aloadN X0.here hx rfl (hb hby dd0_0) rfl rfl) ?_
  refine oS (own_len X0 hx hZ e0 I39 rfl rfl (hb hby dd0_1)) ?_
  show own_G p e below (s₁.setTop (mkF m 2 #[rv ob_11, rv ob_35] [(.int 0)])) _
  refine oS (fun _ => XS.ifYes X0.here hx rfl (pc0 := 2) (pc' := 19) rfl (hb hby dd0_2) rfl (XT.i0_le_t (by decide)) (by decide) (by decide)) ?_
  show own_G p e below (s₁.setTop (mkF m 19 #[rv ob_11, rv ob_35] [])) _
  refine oS (fun _ => XS.iconst X0.here hx rfl (hb hby dd0_19) ) ?_
  exact own_retN X0 hx (t := .boolean) Bd.notSynchronized Bd.returns (by simp) (hb hby dd0_20) (by decide) e0 (by decide) (by decide) (⟨rfl, N0, rfl⟩)
theorem own_pd0 : parseMethodDescriptor "([B)Z" = some ⟨[(.array .byte)], (some .boolean)⟩ := by decide +kernel
theorem dd0_5 : decode prog_11_method_6_code 5 = .ok (.aload_n 1, 1) := by decide +kernel
theorem dd0_6 : decode prog_11_method_6_code 6 = .ok (.iconst 0, 1) := by decide +kernel
theorem dd0_7 : decode prog_11_method_6_code 7 = .ok (.baload, 1) := by decide +kernel
theorem dd0_8 : decode prog_11_method_6_code 8 = .ok (.aload_n 0, 1) := by decide +kernel
theorem dd0_9 : decode prog_11_method_6_code 9 = .ok (.getfield 35, 3) := by decide +kernel
theorem dd0_12 : decode prog_11_method_6_code 12 = .ok (.if_icmp .ne 7, 3) := by decide +kernel
theorem dd0_15 : decode prog_11_method_6_code 15 = .ok (.iconst 1, 1) := by decide +kernel
theorem dd0_16 : decode prog_11_method_6_code 16 = .ok (.goto 4, 3) := by decide +kernel
def own_Q3 (Z : State) (ob_11 : Addr) (ob_99 : Addr) (kk_97 : ClassId) (in_3 : Int32) (in_12 : Int32) (h0 : Heap) (n0 : Nat) (v : Option Value) (h : Heap) (L : List Loc) : Prop := (v = some (.int 1) ∧ Fr n0 L ∧ h = h0)
set_option maxRecDepth 65536 in
set_option maxHeartbeats 40000000 in
theorem own_rm3 (l : Launch) (Z : State) (a0 : Array Value) (hw : ∀ d ∈ tables_1, d.before a0 Z = true) (ws : List Jvm.Cond) (ob_11 : Addr) (ob_99 : Addr) (kk_97 : ClassId) (in_3 : Int32) (in_12 : Int32) (h0 : Heap) (n0 : Nat) (Z0 : n0 ≤ h0.size) (O0 : Old Z n0 h0) (I115 : Arv Z h0 ob_99 kk_97 .byte 1 [(.int (in_3.toInt8.toInt32))] (.int 0)) (I116 : Fld Z Z.heap ob_11 "com/example/ombor/ombor/db/Keyspace" "prefix" "B" (.int in_12)) (I122 : (in_3.toInt8.toInt32) = in_12) :
    own_Met l Z h0 (⟨"com/example/ombor/ombor/db/Keyspace", "holds", "([B)Z"⟩ : MethodName) prog_11_method_6_code 2 (Option.some FieldType.boolean) ws ({ frames := 0, cells := 0, slots := 0, locals := 0 } : Room) #[(.ref ob_11), (.ref ob_99)] (own_Q3 Z ob_11 ob_99 kk_97 in_3 in_12 h0 n0) 0 0 := by
  refine MetFree.of_bodySF own_pn0 hisR ?_
  intro p e s m args below meth c s₁ Bd hml0 hP hK
  obtain ⟨rfl, hZ, hh⟩ := hP
  have hx := Bd.exec
  have hby := Bd.bytes
  have hml : c.maxLocals = 2 := hml0
  have hown : s.vm.findClass "com/example/ombor/ombor/db/Keyspace" = some m.cls := findClass_of_methodNamed Bd.named
  have hnm := (name_of_methodNamed Bd.named Bd.method).1
  have X0 : Stand p l e ({ frames := 0, cells := 0, slots := 0, locals := 0 } : Room) s m #[(.ref ob_11), (.ref ob_99)] below meth c s₁ [] 0 0 := Stand.of_body Bd
  have e0 : s₁.heap = h0 := by rw [← hh, Bd.state]; rfl
  have N0 := Fr.nil n0
  show own_G p e below (s₁.setTop (entryFrame m #[(.ref ob_11), (.ref ob_99)] 2)) (own_P s (own_Q3 Z ob_11 ob_99 kk_97 in_3 in_12 h0 n0) 0 0)
  refine own_cast (own_ef1 m ob_11 ob_99) ?_
  show own_G p e below (s₁.setTop (mkF m 0 #[rv ob_11, rv ob_99] [])) _
  refine oS (fun _ => XS.aloadN X0.here hx rfl (hb hby dd0_0) rfl rfl) ?_
  refine oS (own_len X0 hx hZ e0 I115 rfl rfl (hb hby dd0_1)) ?_
  show own_G p e below (s₁.setTop (mkF m 2 #[rv ob_11, rv ob_99] [(.int 1)])) _
  refine oS (fun _ => XS.ifNo X0.here hx rfl (hb hby dd0_2) rfl (XT.i0_le_f (by decide))) ?_
  show own_G p e below (s₁.setTop (mkF m 5 #[rv ob_11, rv ob_99] [])) _
  refine oS (fun _ => XS.aloadN X0.here hx rfl (hb hby dd0_5) rfl rfl) ?_
  refine oS (fun _ => XS.iconst X0.here hx rfl (hb hby dd0_6) ) ?_
  refine oS (own_baload X0 hx hZ e0 I115 (by decide) (v := (.int (in_3.toInt8.toInt32))) rfl rfl rfl (hb hby dd0_7)) ?_
  show own_G p e below (s₁.setTop (mkF m 8 #[rv ob_11, rv ob_99] [(.int (in_3.toInt8.toInt32))])) _
  refine oS (fun _ => XS.aloadN X0.here hx rfl (hb hby dd0_8) rfl rfl) ?_
  have F117 : Fld Z h0 ob_11 "com/example/ombor/ombor/db/Keyspace" "prefix" "B" (.int in_12) := Fld.ext O0.2 I116
  obtain ⟨T118, X119, e120, s121⟩ := getF X0 hx hZ hown (host := "") (Or.inl (oW hw 12 rfl)) Via.refl e0 F117 (g := (mkF m 9 #[rv ob_11, rv ob_99] [(.ref ob_11), (.int (in_3.toInt8.toInt32))])) rfl rfl (hb hby dd0_9)
  refine oS s121 ?_
  show own_G p e below (T118.setTop (mkF m 12 #[rv ob_11, rv ob_99] [(.int in_12), (.int (in_3.toInt8.toInt32))])) _
  refine oS (fun _ => XS.icmpNo X119.here hx rfl (hb hby dd0_12) rfl (XT.ii_ne_f I122)) ?_
  show own_G p e below (T118.setTop (mkF m 15 #[rv ob_11, rv ob_99] [])) _
  refine oS (fun _ => XS.iconst X119.here hx rfl (hb hby dd0_15) ) ?_
  refine oS (fun _ => XS.goto X119.here hx rfl (pc0 := 16) (pc' := 20) rfl (hb hby dd0_16) (by decide) (by decide)) ?_
  show own_G p e below (T118.setTop (mkF m 20 #[rv ob_11, rv ob_99] [(.int 1)])) _
  exact own_retN X119 hx (t := .boolean) Bd.notSynchronized Bd.returns (by simp) (hb hby dd0_20) (by decide) e120 (by decide) (by decide) (⟨rfl, N0, rfl⟩)
def own_Q4 (Z : State) (ob_11 : Addr) (ob_99 : Addr) (kk_97 : ClassId) (in_3 : Int32) (in_12 : Int32) (h0 : Heap) (n0 : Nat) (v : Option Value) (h : Heap) (L : List Loc) : Prop := (v = some (.int 0) ∧ Fr n0 L ∧ h = h0)
set_option maxRecDepth 65536 in
set_option maxHeartbeats 40000000 in
theorem own_rm4 (l : Launch) (Z : State) (a0 : Array Value) (hw : ∀ d ∈ tables_1, d.before a0 Z = true) (ws : List Jvm.Cond) (ob_11 : Addr) (ob_99 : Addr) (kk_97 : ClassId) (in_3 : Int32) (in_12 : Int32) (h0 : Heap) (n0 : Nat) (Z0 : n0 ≤ h0.size) (O0 : Old Z n0 h0) (I140 : Arv Z h0 ob_99 kk_97 .byte 1 [(.int (in_3.toInt8.toInt32))] (.int 0)) (I141 : Fld Z Z.heap ob_11 "com/example/ombor/ombor/db/Keyspace" "prefix" "B" (.int in_12)) (I147 : ¬ ((in_3.toInt8.toInt32) = in_12)) :
    own_Met l Z h0 (⟨"com/example/ombor/ombor/db/Keyspace", "holds", "([B)Z"⟩ : MethodName) prog_11_method_6_code 2 (Option.some FieldType.boolean) ws ({ frames := 0, cells := 0, slots := 0, locals := 0 } : Room) #[(.ref ob_11), (.ref ob_99)] (own_Q4 Z ob_11 ob_99 kk_97 in_3 in_12 h0 n0) 0 0 := by
  refine MetFree.of_bodySF own_pn0 hisR ?_
  intro p e s m args below meth c s₁ Bd hml0 hP hK
  obtain ⟨rfl, hZ, hh⟩ := hP
  have hx := Bd.exec
  have hby := Bd.bytes
  have hml : c.maxLocals = 2 := hml0
  have hown : s.vm.findClass "com/example/ombor/ombor/db/Keyspace" = some m.cls := findClass_of_methodNamed Bd.named
  have hnm := (name_of_methodNamed Bd.named Bd.method).1
  have X0 : Stand p l e ({ frames := 0, cells := 0, slots := 0, locals := 0 } : Room) s m #[(.ref ob_11), (.ref ob_99)] below meth c s₁ [] 0 0 := Stand.of_body Bd
  have e0 : s₁.heap = h0 := by rw [← hh, Bd.state]; rfl
  have N0 := Fr.nil n0
  show own_G p e below (s₁.setTop (entryFrame m #[(.ref ob_11), (.ref ob_99)] 2)) (own_P s (own_Q4 Z ob_11 ob_99 kk_97 in_3 in_12 h0 n0) 0 0)
  refine own_cast (own_ef1 m ob_11 ob_99) ?_
  show own_G p e below (s₁.setTop (mkF m 0 #[rv ob_11, rv ob_99] [])) _
  refine oS (fun _ => XS.aloadN X0.here hx rfl (hb hby dd0_0) rfl rfl) ?_
  refine oS (own_len X0 hx hZ e0 I140 rfl rfl (hb hby dd0_1)) ?_
  show own_G p e below (s₁.setTop (mkF m 2 #[rv ob_11, rv ob_99] [(.int 1)])) _
  refine oS (fun _ => XS.ifNo X0.here hx rfl (hb hby dd0_2) rfl (XT.i0_le_f (by decide))) ?_
  show own_G p e below (s₁.setTop (mkF m 5 #[rv ob_11, rv ob_99] [])) _
  refine oS (fun _ => XS.aloadN X0.here hx rfl (hb hby dd0_5) rfl rfl) ?_
  refine oS (fun _ => XS.iconst X0.here hx rfl (hb hby dd0_6) ) ?_
  refine oS (own_baload X0 hx hZ e0 I140 (by decide) (v := (.int (in_3.toInt8.toInt32))) rfl rfl rfl (hb hby dd0_7)) ?_
  show own_G p e below (s₁.setTop (mkF m 8 #[rv ob_11, rv ob_99] [(.int (in_3.toInt8.toInt32))])) _
  refine oS (fun _ => XS.aloadN X0.here hx rfl (hb hby dd0_8) rfl rfl) ?_
  have F142 : Fld Z h0 ob_11 "com/example/ombor/ombor/db/Keyspace" "prefix" "B" (.int in_12) := Fld.ext O0.2 I141
  obtain ⟨T143, X144, e145, s146⟩ := getF X0 hx hZ hown (host := "") (Or.inl (oW hw 12 rfl)) Via.refl e0 F142 (g := (mkF m 9 #[rv ob_11, rv ob_99] [(.ref ob_11), (.int (in_3.toInt8.toInt32))])) rfl rfl (hb hby dd0_9)
  refine oS s146 ?_
  show own_G p e below (T143.setTop (mkF m 12 #[rv ob_11, rv ob_99] [(.int in_12), (.int (in_3.toInt8.toInt32))])) _
  refine oS (fun _ => XS.icmpYes X144.here hx rfl (pc0 := 12) (pc' := 19) rfl (hb hby dd0_12) rfl (XT.ii_ne_t I147) (by decide) (by decide)) ?_
  show own_G p e below (T143.setTop (mkF m 19 #[rv ob_11, rv ob_99] [])) _
  refine oS (fun _ => XS.iconst X144.here hx rfl (hb hby dd0_19) ) ?_
  exact own_retN X144 hx (t := .boolean) Bd.notSynchronized Bd.returns (by simp) (hb hby dd0_20) (by decide) e145 (by decide) (by decide) (⟨rfl, N0, rfl⟩)
def own_Q5 (Z : State) (ob_11 : Addr) (ob_176 : Addr) (kk_174 : ClassId) (in_12 : Int32) (h0 : Heap) (n0 : Nat) (v : Option Value) (h : Heap) (L : List Loc) : Prop := (v = some (.int 1) ∧ Fr n0 L ∧ h = h0)
set_option maxRecDepth 65536 in
set_option maxHeartbeats 40000000 in
theorem own_rm5 (l : Launch) (Z : State) (a0 : Array Value) (hw : ∀ d ∈ tables_1, d.before a0 Z = true) (ws : List Jvm.Cond) (ob_11 : Addr) (ob_176 : Addr) (kk_174 : ClassId) (in_12 : Int32) (h0 : Heap) (n0 : Nat) (Z0 : n0 ≤ h0.size) (O0 : Old Z n0 h0) (I191 : Arv Z h0 ob_176 kk_174 .byte 1 [(.int in_12)] (.int 0)) (I192 : Fld Z Z.heap ob_11 "com/example/ombor/ombor/db/Keyspace" "prefix" "B" (.int in_12)) :
    own_Met l Z h0 (⟨"com/example/ombor/ombor/db/Keyspace", "holds", "([B)Z"⟩ : MethodName) prog_11_method_6_code 2 (Option.some FieldType.boolean) ws ({ frames := 0, cells := 0, slots := 0, locals := 0 } : Room) #[(.ref ob_11), (.ref ob_176)] (own_Q5 Z ob_11 ob_176 kk_174 in_12 h0 n0) 0 0 := by
  refine MetFree.of_bodySF own_pn0 hisR ?_
  intro p e s m args below meth c s₁ Bd hml0 hP hK
  obtain ⟨rfl, hZ, hh⟩ := hP
  have hx := Bd.exec
  have hby := Bd.bytes
  have hml : c.maxLocals = 2 := hml0
  have hown : s.vm.findClass "com/example/ombor/ombor/db/Keyspace" = some m.cls := findClass_of_methodNamed Bd.named
  have hnm := (name_of_methodNamed Bd.named Bd.method).1
  have X0 : Stand p l e ({ frames := 0, cells := 0, slots := 0, locals := 0 } : Room) s m #[(.ref ob_11), (.ref ob_176)] below meth c s₁ [] 0 0 := Stand.of_body Bd
  have e0 : s₁.heap = h0 := by rw [← hh, Bd.state]; rfl
  have N0 := Fr.nil n0
  show own_G p e below (s₁.setTop (entryFrame m #[(.ref ob_11), (.ref ob_176)] 2)) (own_P s (own_Q5 Z ob_11 ob_176 kk_174 in_12 h0 n0) 0 0)
  refine own_cast (own_ef1 m ob_11 ob_176) ?_
  show own_G p e below (s₁.setTop (mkF m 0 #[rv ob_11, rv ob_176] [])) _
  refine oS (fun _ => XS.aloadN X0.here hx rfl (hb hby dd0_0) rfl rfl) ?_
  refine oS (own_len X0 hx hZ e0 I191 rfl rfl (hb hby dd0_1)) ?_
  show own_G p e below (s₁.setTop (mkF m 2 #[rv ob_11, rv ob_176] [(.int 1)])) _
  refine oS (fun _ => XS.ifNo X0.here hx rfl (hb hby dd0_2) rfl (XT.i0_le_f (by decide))) ?_
  show own_G p e below (s₁.setTop (mkF m 5 #[rv ob_11, rv ob_176] [])) _
  refine oS (fun _ => XS.aloadN X0.here hx rfl (hb hby dd0_5) rfl rfl) ?_
  refine oS (fun _ => XS.iconst X0.here hx rfl (hb hby dd0_6) ) ?_
  refine oS (own_baload X0 hx hZ e0 I191 (by decide) (v := (.int in_12)) rfl rfl rfl (hb hby dd0_7)) ?_
  show own_G p e below (s₁.setTop (mkF m 8 #[rv ob_11, rv ob_176] [(.int in_12)])) _
  refine oS (fun _ => XS.aloadN X0.here hx rfl (hb hby dd0_8) rfl rfl) ?_
  have F193 : Fld Z h0 ob_11 "com/example/ombor/ombor/db/Keyspace" "prefix" "B" (.int in_12) := Fld.ext O0.2 I192
  obtain ⟨T194, X195, e196, s197⟩ := getF X0 hx hZ hown (host := "") (Or.inl (oW hw 12 rfl)) Via.refl e0 F193 (g := (mkF m 9 #[rv ob_11, rv ob_176] [(.ref ob_11), (.int in_12)])) rfl rfl (hb hby dd0_9)
  refine oS s197 ?_
  show own_G p e below (T194.setTop (mkF m 12 #[rv ob_11, rv ob_176] [(.int in_12), (.int in_12)])) _
  refine oS (fun _ => XS.icmpNo X195.here hx rfl (hb hby dd0_12) rfl (XT.ii_ne_f rfl)) ?_
  show own_G p e below (T194.setTop (mkF m 15 #[rv ob_11, rv ob_176] [])) _
  refine oS (fun _ => XS.iconst X195.here hx rfl (hb hby dd0_15) ) ?_
  refine oS (fun _ => XS.goto X195.here hx rfl (pc0 := 16) (pc' := 20) rfl (hb hby dd0_16) (by decide) (by decide)) ?_
  show own_G p e below (T194.setTop (mkF m 20 #[rv ob_11, rv ob_176] [(.int 1)])) _
  exact own_retN X195 hx (t := .boolean) Bd.notSynchronized Bd.returns (by simp) (hb hby dd0_20) (by decide) e196 (by decide) (by decide) (⟨rfl, N0, rfl⟩)
def own_Q6 (Z : State) (ob_11 : Addr) (ob_227 : Addr) (kk_225 : ClassId) (in_3 : Int32) (in_4 : Int32) (in_12 : Int32) (h0 : Heap) (n0 : Nat) (v : Option Value) (h : Heap) (L : List Loc) : Prop := (v = some (.int 1) ∧ Fr n0 L ∧ h = h0)
set_option maxRecDepth 65536 in
set_option maxHeartbeats 40000000 in
theorem own_rm6 (l : Launch) (Z : State) (a0 : Array Value) (hw : ∀ d ∈ tables_1, d.before a0 Z = true) (ws : List Jvm.Cond) (ob_11 : Addr) (ob_227 : Addr) (kk_225 : ClassId) (in_3 : Int32) (in_4 : Int32) (in_12 : Int32) (h0 : Heap) (n0 : Nat) (Z0 : n0 ≤ h0.size) (O0 : Old Z n0 h0) (I253 : Arv Z h0 ob_227 kk_225 .byte 2 [(.int (in_3.toInt8.toInt32)), (.int (in_4.toInt8.toInt32))] (.int 0)) (I254 : Fld Z Z.heap ob_11 "com/example/ombor/ombor/db/Keyspace" "prefix" "B" (.int in_12)) (I260 : (in_3.toInt8.toInt32) = in_12) :
    own_Met l Z h0 (⟨"com/example/ombor/ombor/db/Keyspace", "holds", "([B)Z"⟩ : MethodName) prog_11_method_6_code 2 (Option.some FieldType.boolean) ws ({ frames := 0, cells := 0, slots := 0, locals := 0 } : Room) #[(.ref ob_11), (.ref ob_227)] (own_Q6 Z ob_11 ob_227 kk_225 in_3 in_4 in_12 h0 n0) 0 0 := by
  refine MetFree.of_bodySF own_pn0 hisR ?_
  intro p e s m args below meth c s₁ Bd hml0 hP hK
  obtain ⟨rfl, hZ, hh⟩ := hP
  have hx := Bd.exec
  have hby := Bd.bytes
  have hml : c.maxLocals = 2 := hml0
  have hown : s.vm.findClass "com/example/ombor/ombor/db/Keyspace" = some m.cls := findClass_of_methodNamed Bd.named
  have hnm := (name_of_methodNamed Bd.named Bd.method).1
  have X0 : Stand p l e ({ frames := 0, cells := 0, slots := 0, locals := 0 } : Room) s m #[(.ref ob_11), (.ref ob_227)] below meth c s₁ [] 0 0 := Stand.of_body Bd
  have e0 : s₁.heap = h0 := by rw [← hh, Bd.state]; rfl
  have N0 := Fr.nil n0
  show own_G p e below (s₁.setTop (entryFrame m #[(.ref ob_11), (.ref ob_227)] 2)) (own_P s (own_Q6 Z ob_11 ob_227 kk_225 in_3 in_4 in_12 h0 n0) 0 0)
  refine own_cast (own_ef1 m ob_11 ob_227) ?_
  show own_G p e below (s₁.setTop (mkF m 0 #[rv ob_11, rv ob_227] [])) _
  refine oS (fun _ => XS.aloadN X0.here hx rfl (hb hby dd0_0) rfl rfl) ?_
  refine oS (own_len X0 hx hZ e0 I253 rfl rfl (hb hby dd0_1)) ?_
  show own_G p e below (s₁.setTop (mkF m 2 #[rv ob_11, rv ob_227] [(.int 2)])) _
  refine oS (fun _ => XS.ifNo X0.here hx rfl (hb hby dd0_2) rfl (XT.i0_le_f (by decide))) ?_
  show own_G p e below (s₁.setTop (mkF m 5 #[rv ob_11, rv ob_227] [])) _
  refine oS (fun _ => XS.aloadN X0.here hx rfl (hb hby dd0_5) rfl rfl) ?_
  refine oS (fun _ => XS.iconst X0.here hx rfl (hb hby dd0_6) ) ?_
  refine oS (own_baload X0 hx hZ e0 I253 (by decide) (v := (.int (in_3.toInt8.toInt32))) rfl rfl rfl (hb hby dd0_7)) ?_
  show own_G p e below (s₁.setTop (mkF m 8 #[rv ob_11, rv ob_227] [(.int (in_3.toInt8.toInt32))])) _
  refine oS (fun _ => XS.aloadN X0.here hx rfl (hb hby dd0_8) rfl rfl) ?_
  have F255 : Fld Z h0 ob_11 "com/example/ombor/ombor/db/Keyspace" "prefix" "B" (.int in_12) := Fld.ext O0.2 I254
  obtain ⟨T256, X257, e258, s259⟩ := getF X0 hx hZ hown (host := "") (Or.inl (oW hw 12 rfl)) Via.refl e0 F255 (g := (mkF m 9 #[rv ob_11, rv ob_227] [(.ref ob_11), (.int (in_3.toInt8.toInt32))])) rfl rfl (hb hby dd0_9)
  refine oS s259 ?_
  show own_G p e below (T256.setTop (mkF m 12 #[rv ob_11, rv ob_227] [(.int in_12), (.int (in_3.toInt8.toInt32))])) _
  refine oS (fun _ => XS.icmpNo X257.here hx rfl (hb hby dd0_12) rfl (XT.ii_ne_f I260)) ?_
  show own_G p e below (T256.setTop (mkF m 15 #[rv ob_11, rv ob_227] [])) _
  refine oS (fun _ => XS.iconst X257.here hx rfl (hb hby dd0_15) ) ?_
  refine oS (fun _ => XS.goto X257.here hx rfl (pc0 := 16) (pc' := 20) rfl (hb hby dd0_16) (by decide) (by decide)) ?_
  show own_G p e below (T256.setTop (mkF m 20 #[rv ob_11, rv ob_227] [(.int 1)])) _
  exact own_retN X257 hx (t := .boolean) Bd.notSynchronized Bd.returns (by simp) (hb hby dd0_20) (by decide) e258 (by decide) (by decide) (⟨rfl, N0, rfl⟩)
def own_Q7 (Z : State) (ob_11 : Addr) (ob_227 : Addr) (kk_225 : ClassId) (in_3 : Int32) (in_4 : Int32) (in_12 : Int32) (h0 : Heap) (n0 : Nat) (v : Option Value) (h : Heap) (L : List Loc) : Prop := (v = some (.int 0) ∧ Fr n0 L ∧ h = h0)
set_option maxRecDepth 65536 in
set_option maxHeartbeats 40000000 in
theorem own_rm7 (l : Launch) (Z : State) (a0 : Array Value) (hw : ∀ d ∈ tables_1, d.before a0 Z = true) (ws : List Jvm.Cond) (ob_11 : Addr) (ob_227 : Addr) (kk_225 : ClassId) (in_3 : Int32) (in_4 : Int32) (in_12 : Int32) (h0 : Heap) (n0 : Nat) (Z0 : n0 ≤ h0.size) (O0 : Old Z n0 h0) (I279 : Arv Z h0 ob_227 kk_225 .byte 2 [(.int (in_3.toInt8.toInt32)), (.int (in_4.toInt8.toInt32))] (.int 0)) (I280 : Fld Z Z.heap ob_11 "com/example/ombor/ombor/db/Keyspace" "prefix" "B" (.int in_12)) (I286 : ¬ ((in_3.toInt8.toInt32) = in_12)) :
    own_Met l Z h0 (⟨"com/example/ombor/ombor/db/Keyspace", "holds", "([B)Z"⟩ : MethodName) prog_11_method_6_code 2 (Option.some FieldType.boolean) ws ({ frames := 0, cells := 0, slots := 0, locals := 0 } : Room) #[(.ref ob_11), (.ref ob_227)] (own_Q7 Z ob_11 ob_227 kk_225 in_3 in_4 in_12 h0 n0) 0 0 := by
  refine MetFree.of_bodySF own_pn0 hisR ?_
  intro p e s m args below meth c s₁ Bd hml0 hP hK
  obtain ⟨rfl, hZ, hh⟩ := hP
  have hx := Bd.exec
  have hby := Bd.bytes
  have hml : c.maxLocals = 2 := hml0
  have hown : s.vm.findClass "com/example/ombor/ombor/db/Keyspace" = some m.cls := findClass_of_methodNamed Bd.named
  have hnm := (name_of_methodNamed Bd.named Bd.method).1
  have X0 : Stand p l e ({ frames := 0, cells := 0, slots := 0, locals := 0 } : Room) s m #[(.ref ob_11), (.ref ob_227)] below meth c s₁ [] 0 0 := Stand.of_body Bd
  have e0 : s₁.heap = h0 := by rw [← hh, Bd.state]; rfl
  have N0 := Fr.nil n0
  show own_G p e below (s₁.setTop (entryFrame m #[(.ref ob_11), (.ref ob_227)] 2)) (own_P s (own_Q7 Z ob_11 ob_227 kk_225 in_3 in_4 in_12 h0 n0) 0 0)
  refine own_cast (own_ef1 m ob_11 ob_227) ?_
  show own_G p e below (s₁.setTop (mkF m 0 #[rv ob_11, rv ob_227] [])) _
  refine oS (fun _ => XS.aloadN X0.here hx rfl (hb hby dd0_0) rfl rfl) ?_
  refine oS (own_len X0 hx hZ e0 I279 rfl rfl (hb hby dd0_1)) ?_
  show own_G p e below (s₁.setTop (mkF m 2 #[rv ob_11, rv ob_227] [(.int 2)])) _
  refine oS (fun _ => XS.ifNo X0.here hx rfl (hb hby dd0_2) rfl (XT.i0_le_f (by decide))) ?_
  show own_G p e below (s₁.setTop (mkF m 5 #[rv ob_11, rv ob_227] [])) _
  refine oS (fun _ => XS.aloadN X0.here hx rfl (hb hby dd0_5) rfl rfl) ?_
  refine oS (fun _ => XS.iconst X0.here hx rfl (hb hby dd0_6) ) ?_
  refine oS (own_baload X0 hx hZ e0 I279 (by decide) (v := (.int (in_3.toInt8.toInt32))) rfl rfl rfl (hb hby dd0_7)) ?_
  show own_G p e below (s₁.setTop (mkF m 8 #[rv ob_11, rv ob_227] [(.int (in_3.toInt8.toInt32))])) _
  refine oS (fun _ => XS.aloadN X0.here hx rfl (hb hby dd0_8) rfl rfl) ?_
  have F281 : Fld Z h0 ob_11 "com/example/ombor/ombor/db/Keyspace" "prefix" "B" (.int in_12) := Fld.ext O0.2 I280
  obtain ⟨T282, X283, e284, s285⟩ := getF X0 hx hZ hown (host := "") (Or.inl (oW hw 12 rfl)) Via.refl e0 F281 (g := (mkF m 9 #[rv ob_11, rv ob_227] [(.ref ob_11), (.int (in_3.toInt8.toInt32))])) rfl rfl (hb hby dd0_9)
  refine oS s285 ?_
  show own_G p e below (T282.setTop (mkF m 12 #[rv ob_11, rv ob_227] [(.int in_12), (.int (in_3.toInt8.toInt32))])) _
  refine oS (fun _ => XS.icmpYes X283.here hx rfl (pc0 := 12) (pc' := 19) rfl (hb hby dd0_12) rfl (XT.ii_ne_t I286) (by decide) (by decide)) ?_
  show own_G p e below (T282.setTop (mkF m 19 #[rv ob_11, rv ob_227] [])) _
  refine oS (fun _ => XS.iconst X283.here hx rfl (hb hby dd0_19) ) ?_
  exact own_retN X283 hx (t := .boolean) Bd.notSynchronized Bd.returns (by simp) (hb hby dd0_20) (by decide) e284 (by decide) (by decide) (⟨rfl, N0, rfl⟩)
def own_Q8 (Z : State) (ob_11 : Addr) (ob_316 : Addr) (kk_314 : ClassId) (in_12 : Int32) (in_4 : Int32) (h0 : Heap) (n0 : Nat) (v : Option Value) (h : Heap) (L : List Loc) : Prop := (v = some (.int 1) ∧ Fr n0 L ∧ h = h0)
set_option maxRecDepth 65536 in
set_option maxHeartbeats 40000000 in
theorem own_rm8 (l : Launch) (Z : State) (a0 : Array Value) (hw : ∀ d ∈ tables_1, d.before a0 Z = true) (ws : List Jvm.Cond) (ob_11 : Addr) (ob_316 : Addr) (kk_314 : ClassId) (in_12 : Int32) (in_4 : Int32) (h0 : Heap) (n0 : Nat) (Z0 : n0 ≤ h0.size) (O0 : Old Z n0 h0) (I341 : Arv Z h0 ob_316 kk_314 .byte 2 [(.int in_12), (.int (in_4.toInt8.toInt32))] (.int 0)) (I342 : Fld Z Z.heap ob_11 "com/example/ombor/ombor/db/Keyspace" "prefix" "B" (.int in_12)) :
    own_Met l Z h0 (⟨"com/example/ombor/ombor/db/Keyspace", "holds", "([B)Z"⟩ : MethodName) prog_11_method_6_code 2 (Option.some FieldType.boolean) ws ({ frames := 0, cells := 0, slots := 0, locals := 0 } : Room) #[(.ref ob_11), (.ref ob_316)] (own_Q8 Z ob_11 ob_316 kk_314 in_12 in_4 h0 n0) 0 0 := by
  refine MetFree.of_bodySF own_pn0 hisR ?_
  intro p e s m args below meth c s₁ Bd hml0 hP hK
  obtain ⟨rfl, hZ, hh⟩ := hP
  have hx := Bd.exec
  have hby := Bd.bytes
  have hml : c.maxLocals = 2 := hml0
  have hown : s.vm.findClass "com/example/ombor/ombor/db/Keyspace" = some m.cls := findClass_of_methodNamed Bd.named
  have hnm := (name_of_methodNamed Bd.named Bd.method).1
  have X0 : Stand p l e ({ frames := 0, cells := 0, slots := 0, locals := 0 } : Room) s m #[(.ref ob_11), (.ref ob_316)] below meth c s₁ [] 0 0 := Stand.of_body Bd
  have e0 : s₁.heap = h0 := by rw [← hh, Bd.state]; rfl
  have N0 := Fr.nil n0
  show own_G p e below (s₁.setTop (entryFrame m #[(.ref ob_11), (.ref ob_316)] 2)) (own_P s (own_Q8 Z ob_11 ob_316 kk_314 in_12 in_4 h0 n0) 0 0)
  refine own_cast (own_ef1 m ob_11 ob_316) ?_
  show own_G p e below (s₁.setTop (mkF m 0 #[rv ob_11, rv ob_316] [])) _
  refine oS (fun _ => XS.aloadN X0.here hx rfl (hb hby dd0_0) rfl rfl) ?_
  refine oS (own_len X0 hx hZ e0 I341 rfl rfl (hb hby dd0_1)) ?_
  show own_G p e below (s₁.setTop (mkF m 2 #[rv ob_11, rv ob_316] [(.int 2)])) _
  refine oS (fun _ => XS.ifNo X0.here hx rfl (hb hby dd0_2) rfl (XT.i0_le_f (by decide))) ?_
  show own_G p e below (s₁.setTop (mkF m 5 #[rv ob_11, rv ob_316] [])) _
  refine oS (fun _ => XS.aloadN X0.here hx rfl (hb hby dd0_5) rfl rfl) ?_
  refine oS (fun _ => XS.iconst X0.here hx rfl (hb hby dd0_6) ) ?_
  refine oS (own_baload X0 hx hZ e0 I341 (by decide) (v := (.int in_12)) rfl rfl rfl (hb hby dd0_7)) ?_
  show own_G p e below (s₁.setTop (mkF m 8 #[rv ob_11, rv ob_316] [(.int in_12)])) _
  refine oS (fun _ => XS.aloadN X0.here hx rfl (hb hby dd0_8) rfl rfl) ?_
  have F343 : Fld Z h0 ob_11 "com/example/ombor/ombor/db/Keyspace" "prefix" "B" (.int in_12) := Fld.ext O0.2 I342
  obtain ⟨T344, X345, e346, s347⟩ := getF X0 hx hZ hown (host := "") (Or.inl (oW hw 12 rfl)) Via.refl e0 F343 (g := (mkF m 9 #[rv ob_11, rv ob_316] [(.ref ob_11), (.int in_12)])) rfl rfl (hb hby dd0_9)
  refine oS s347 ?_
  show own_G p e below (T344.setTop (mkF m 12 #[rv ob_11, rv ob_316] [(.int in_12), (.int in_12)])) _
  refine oS (fun _ => XS.icmpNo X345.here hx rfl (hb hby dd0_12) rfl (XT.ii_ne_f rfl)) ?_
  show own_G p e below (T344.setTop (mkF m 15 #[rv ob_11, rv ob_316] [])) _
  refine oS (fun _ => XS.iconst X345.here hx rfl (hb hby dd0_15) ) ?_
  refine oS (fun _ => XS.goto X345.here hx rfl (pc0 := 16) (pc' := 20) rfl (hb hby dd0_16) (by decide) (by decide)) ?_
  show own_G p e below (T344.setTop (mkF m 20 #[rv ob_11, rv ob_316] [(.int 1)])) _
  exact own_retN X345 hx (t := .boolean) Bd.notSynchronized Bd.returns (by simp) (hb hby dd0_20) (by decide) e346 (by decide) (by decide) (⟨rfl, N0, rfl⟩)
def own_Q1 (Z : State) (in_1 : Int32) (in_2 : Int32) (in_3 : Int32) (in_4 : Int32) (in_5 : Int32) (ob_6 : Addr) (ob_9 : Addr) (ob_8 : Addr) (ob_7 : Addr) (h0 : Heap) (n0 : Nat) (v : Option Value) (h : Heap) (L : List Loc) : Prop := (v = some (.int 1) ∧ Fr n0 L)
theorem own_pn1 : plainFor x = true := by decide +kernel
set_option maxRecDepth 65536 in
set_option maxHeartbeats 40000000 in
theorem own_rm1 (l : Launch) (Z : State) (a0 : Array Value) (hw : ∀ d ∈ tables_1, d.before a0 Z = true) (ws : List Jvm.Cond) (in_1 : Int32) (in_2 : Int32) (in_3 : Int32) (in_4 : Int32) (in_5 : Int32) (ob_6 : Addr) (ob_9 : Addr) (ob_8 : Addr) (ob_7 : Addr) (h0 : Heap) (n0 : Nat) (Z0 : n0 ≤ h0.size) (O0 : Old Z n0 h0) (I370 : Sta Z Z.heap "com/example/ombor/ombor/db/Keyspace" "PRODUCTS" "Lcom/example/ombor/ombor/db/Keyspace;" (.ref ob_6)) (I376 : Exa Z Z.heap ob_6 "com/example/ombor/ombor/db/Keyspace") (I377 : Fld Z Z.heap ob_6 "com/example/ombor/ombor/db/Keyspace" "prefix" "B" (.int 112)) (I378 : Sta Z Z.heap "com/example/ombor/ombor/db/Keyspace" "OPERATIONS" "Lcom/example/ombor/ombor/db/Keyspace;" (.ref ob_9)) (I384 : Exa Z Z.heap ob_9 "com/example/ombor/ombor/db/Keyspace") (I385 : Fld Z Z.heap ob_9 "com/example/ombor/ombor/db/Keyspace" "prefix" "B" (.int 79)) (I386 : Sta Z Z.heap "com/example/ombor/ombor/db/Keyspace" "OPERATIONS_WITHOUT_RECEIPT" "Lcom/example/ombor/ombor/db/Keyspace;" (.ref ob_8)) (I392 : Exa Z Z.heap ob_8 "com/example/ombor/ombor/db/Keyspace") (I393 : Fld Z Z.heap ob_8 "com/example/ombor/ombor/db/Keyspace" "prefix" "B" (.int 111)) (I394 : Sta Z Z.heap "com/example/ombor/ombor/db/Keyspace" "ENTITIES" "Lcom/example/ombor/ombor/db/Keyspace;" (.ref ob_7)) (I400 : Exa Z Z.heap ob_7 "com/example/ombor/ombor/db/Keyspace") (I401 : Fld Z Z.heap ob_7 "com/example/ombor/ombor/db/Keyspace" "prefix" "B" (.int 101)) :
    own_Met l Z h0 x code maxLocals ret ws room_1 #[(.int in_1), (.int in_2), (.int in_3), (.int in_4), (.int in_5)] (own_Q1 Z in_1 in_2 in_3 in_4 in_5 ob_6 ob_9 ob_8 ob_7 h0 n0) 16 128 := by
  refine MetFree.of_bodySF own_pn1 hisR ?_
  intro p e s m args below meth c s₁ Bd hml0 hP hK
  obtain ⟨rfl, hZ, hh⟩ := hP
  have hx := Bd.exec
  have hby := Bd.bytes
  have hml : c.maxLocals = 14 := hml0
  have hown : s.vm.findClass "com/example/ombor/ombor/db/KeyspaceHoldsPinLaw" = some m.cls := findClass_of_methodNamed Bd.named
  have hnm := (name_of_methodNamed Bd.named Bd.method).1
  have X0 : Stand p l e room_1 s m #[(.int in_1), (.int in_2), (.int in_3), (.int in_4), (.int in_5)] below meth c s₁ [] 0 0 := Stand.of_body Bd
  have e0 : s₁.heap = h0 := by rw [← hh, Bd.state]; rfl
  have N0 := Fr.nil n0
  show own_G p e below (s₁.setTop (entryFrame m #[(.int in_1), (.int in_2), (.int in_3), (.int in_4), (.int in_5)] maxLocals)) (own_P s (own_Q1 Z in_1 in_2 in_3 in_4 in_5 ob_6 ob_9 ob_8 ob_7 h0 n0) 16 128)
  refine own_cast (own_ef0 m in_1 in_2 in_3 in_4 in_5) ?_
  show own_G p e below (s₁.setTop (mkF m 0 #[iv in_1, iv in_2, iv in_3, iv in_4, iv in_5, .unset, .unset, .unset, .unset, .unset, .unset, .unset, .unset, .unset] [])) _
  have J13 : ∀ (T14 : State) (X15 : Stand p l e room_1 s m #[(.int in_1), (.int in_2), (.int in_3), (.int in_4), (.int in_5)] below meth c T14 [] 0 0) (e16 : T14.heap = h0) (in_10 : Int32) (ob_11 : Addr) (in_12 : Int32) (I17 : Exa Z Z.heap ob_11 "com/example/ombor/ombor/db/Keyspace") (I18 : Fld Z Z.heap ob_11 "com/example/ombor/ombor/db/Keyspace" "prefix" "B" (.int in_12)) (I19 : nar .byte in_12 = in_12), own_G p e below (T14.setTop (mkF m 67 #[iv in_1, iv in_2, iv in_3, iv in_4, iv in_5, iv in_10, rv ob_11, iv in_12, .unset, .unset, .unset, .unset, .unset, .unset] [])) (own_P s (own_Q1 Z in_1 in_2 in_3 in_4 in_5 ob_6 ob_9 ob_8 ob_7 h0 n0) 16 128) := by
   intro T14 X15 e16 in_10 ob_11 in_12 I17 I18 I19
   refine oS (fun _ => XS.iloadN X15.here hx rfl (hb hby at_67) rfl) ?_
   refine oS (fun _ => X15.ldcI hx hown (mvT hZ (oW hw 3 rfl)) rfl (hb hby at_68)) ?_
   show own_G p e below (T14.setTop (mkF m 70 #[iv in_1, iv in_2, iv in_3, iv in_4, iv in_5, iv in_10, rv ob_11, iv in_12, .unset, .unset, .unset, .unset, .unset, .unset] [(.int 2147483647), (.int in_2)])) _
   refine oS (fun _ => XS.iand X15.here hx rfl (hb hby at_70) rfl) ?_
   refine oS (fun _ => XS.iconst X15.here hx rfl (hb hby at_71) ) ?_
   refine oS (fun _ => iremM X15 hx rfl (hb hby at_72) rfl (by decide)) ?_
   show own_G p e below (T14.setTop (mkF m 73 #[iv in_1, iv in_2, iv in_3, iv in_4, iv in_5, iv in_10, rv ob_11, iv in_12, .unset, .unset, .unset, .unset, .unset, .unset] [(.int ((in_2 &&& 2147483647) % 3))])) _
   rcases own_in3 (own_modlt in_2 3 (by decide)) with q20 | q21 | q22
   · skip
     refine own_cast (g' := (mkF m 73 #[iv in_1, iv in_2, iv in_3, iv in_4, iv in_5, iv in_10, rv ob_11, iv in_12, .unset, .unset, .unset, .unset, .unset, .unset] [(.int 0)])) (by rw [q20]) ?_
     show own_G p e below (T14.setTop (mkF m 73 #[iv in_1, iv in_2, iv in_3, iv in_4, iv in_5, iv in_10, rv ob_11, iv in_12, .unset, .unset, .unset, .unset, .unset, .unset] [(.int 0)])) _
     refine oS (fun _ => XS.istore X15.here hx rfl (hb hby at_73) rfl (l' := #[iv in_1, iv in_2, iv in_3, iv in_4, iv in_5, iv in_10, rv ob_11, iv in_12, iv 0, .unset, .unset, .unset, .unset, .unset]) rfl) ?_
     refine oS (fun _ => XS.iload X15.here hx rfl (hb hby at_75) rfl) ?_
     refine oS (fun _ => XS.iconst X15.here hx rfl (hb hby at_77) ) ?_
     refine oS (fun _ => XS.iand X15.here hx rfl (hb hby at_78) rfl) ?_
     show own_G p e below (T14.setTop (mkF m 79 #[iv in_1, iv in_2, iv in_3, iv in_4, iv in_5, iv in_10, rv ob_11, iv in_12, iv 0, .unset, .unset, .unset, .unset, .unset] [(.int (in_5 &&& 1))])) _
     by_cases b23 : (in_5 &&& 1) = 0
     · skip
       refine oS (fun _ => XS.ifYes X15.here hx rfl (pc0 := 79) (pc' := 86) rfl (hb hby at_79) rfl (XT.i0_eq_t b23) (by decide) (by decide)) ?_
       show own_G p e below (T14.setTop (mkF m 86 #[iv in_1, iv in_2, iv in_3, iv in_4, iv in_5, iv in_10, rv ob_11, iv in_12, iv 0, .unset, .unset, .unset, .unset, .unset] [])) _
       refine oS (fun _ => XS.iconst X15.here hx rfl (hb hby at_86) ) ?_
       refine oS (fun _ => XS.istore X15.here hx rfl (hb hby at_87) rfl (l' := #[iv in_1, iv in_2, iv in_3, iv in_4, iv in_5, iv in_10, rv ob_11, iv in_12, iv 0, iv 0, .unset, .unset, .unset, .unset]) rfl) ?_
       refine oS (fun _ => XS.iload X15.here hx rfl (hb hby at_89) rfl) ?_
       refine oS (fun _ => XS.ifYes X15.here hx rfl (pc0 := 91) (pc' := 99) rfl (hb hby at_91) rfl (XT.i0_eq_t (by decide)) (by decide) (by decide)) ?_
       show own_G p e below (T14.setTop (mkF m 99 #[iv in_1, iv in_2, iv in_3, iv in_4, iv in_5, iv in_10, rv ob_11, iv in_12, iv 0, iv 0, .unset, .unset, .unset, .unset] [])) _
       refine oS (fun _ => XS.iloadN X15.here hx rfl (hb hby at_99) rfl) ?_
       refine oS (fun _ => XT.i2b X15.here hx rfl (hb hby at_100) rfl) ?_
       refine oS (fun _ => XS.istore X15.here hx rfl (hb hby at_101) rfl (l' := #[iv in_1, iv in_2, iv in_3, iv in_4, iv in_5, iv in_10, rv ob_11, iv in_12, iv 0, iv 0, iv (in_3.toInt8.toInt32), .unset, .unset, .unset]) rfl) ?_
       refine oS (fun _ => XS.iloadN X15.here hx rfl (hb hby at_103) rfl) ?_
       show own_G p e below (T14.setTop (mkF m 104 #[iv in_1, iv in_2, iv in_3, iv in_4, iv in_5, iv in_10, rv ob_11, iv in_12, iv 0, iv 0, iv (in_3.toInt8.toInt32), .unset, .unset, .unset] [(.int in_4)])) _
       refine oS (fun _ => XT.i2b X15.here hx rfl (hb hby at_104) rfl) ?_
       refine oS (fun _ => XS.istore X15.here hx rfl (hb hby at_105) rfl (l' := #[iv in_1, iv in_2, iv in_3, iv in_4, iv in_5, iv in_10, rv ob_11, iv in_12, iv 0, iv 0, iv (in_3.toInt8.toInt32), iv (in_4.toInt8.toInt32), .unset, .unset]) rfl) ?_
       refine oS (fun _ => XS.iload X15.here hx rfl (hb hby at_107) rfl) ?_
       refine oS (fun _ => XS.ifNo X15.here hx rfl (hb hby at_109) rfl (XT.i0_ne_f (by decide))) ?_
       show own_G p e below (T14.setTop (mkF m 112 #[iv in_1, iv in_2, iv in_3, iv in_4, iv in_5, iv in_10, rv ob_11, iv in_12, iv 0, iv 0, iv (in_3.toInt8.toInt32), iv (in_4.toInt8.toInt32), .unset, .unset] [])) _
       refine oS (fun _ => XS.iconst X15.here hx rfl (hb hby at_112) ) ?_
       obtain ⟨T24, h25, kk_33, X27, e28, E29, A30, B34, s31⟩ := own_newP X15 hx hZ (aty := .byte) (oW hw 4 rfl) e16 (nm := "[B") rfl (g := (mkF m 113 #[iv in_1, iv in_2, iv in_3, iv in_4, iv in_5, iv in_10, rv ob_11, iv in_12, iv 0, iv 0, iv (in_3.toInt8.toInt32), iv (in_4.toInt8.toInt32), .unset, .unset] [(.int 0)])) rfl (hb hby at_113) (n := 0) (rest := []) rfl (by decide) (cap := 0) (by decide) (by decide) (by decide) (by decide)
       obtain ⟨ob_35, g36⟩ : ∃ z, z = h0.size := ⟨_, rfl⟩
       rw [← g36] at A30 B34 s31
       have F37 : Arv Z h25 ob_35 kk_33 .byte 0 [] (.int 0) := own_newA A30 (by decide) rfl rfl
       have z38 := E29.1
       have y32 := F37.lt
       refine oS s31 ?_
       show own_G p e below (T24.setTop (mkF m 115 #[iv in_1, iv in_2, iv in_3, iv in_4, iv in_5, iv in_10, rv ob_11, iv in_12, iv 0, iv 0, iv (in_3.toInt8.toInt32), iv (in_4.toInt8.toInt32), .unset, .unset] [(.ref ob_35)])) _
       refine oS (fun _ => XS.astore X27.here hx rfl (hb hby at_115) rfl rfl (l' := #[iv in_1, iv in_2, iv in_3, iv in_4, iv in_5, iv in_10, rv ob_11, iv in_12, iv 0, iv 0, iv (in_3.toInt8.toInt32), iv (in_4.toInt8.toInt32), rv ob_35, .unset]) rfl) ?_
       refine oS (fun _ => XS.goto X27.here hx rfl (pc0 := 117) (pc' := 154) rfl (hb hby at_117) (by decide) (by decide)) ?_
       show own_G p e below (T24.setTop (mkF m 154 #[iv in_1, iv in_2, iv in_3, iv in_4, iv in_5, iv in_10, rv ob_11, iv in_12, iv 0, iv 0, iv (in_3.toInt8.toInt32), iv (in_4.toInt8.toInt32), rv ob_35, .unset] [])) _
       refine oS (fun _ => XS.iload X27.here hx rfl (hb hby at_154) rfl) ?_
       refine oS (fun _ => XS.ifYes X27.here hx rfl (pc0 := 156) (pc' := 170) rfl (hb hby at_156) rfl (XT.i0_le_t (by decide)) (by decide) (by decide)) ?_
       show own_G p e below (T24.setTop (mkF m 170 #[iv in_1, iv in_2, iv in_3, iv in_4, iv in_5, iv in_10, rv ob_11, iv in_12, iv 0, iv 0, iv (in_3.toInt8.toInt32), iv (in_4.toInt8.toInt32), rv ob_35, .unset] [])) _
       refine oS (fun _ => XS.iconst X27.here hx rfl (hb hby at_170) ) ?_
       refine oS (fun _ => XS.istore X27.here hx rfl (hb hby at_171) rfl (l' := #[iv in_1, iv in_2, iv in_3, iv in_4, iv in_5, iv in_10, rv ob_11, iv in_12, iv 0, iv 0, iv (in_3.toInt8.toInt32), iv (in_4.toInt8.toInt32), rv ob_35, iv 0]) rfl) ?_
       refine oS (fun _ => XS.aload X27.here hx rfl (hb hby at_173) rfl rfl) ?_
       refine oS (fun _ => XS.aload X27.here hx rfl (hb hby at_175) rfl rfl) ?_
       show own_G p e below (T24.setTop (mkF m 177 #[iv in_1, iv in_2, iv in_3, iv in_4, iv in_5, iv in_10, rv ob_11, iv in_12, iv 0, iv 0, iv (in_3.toInt8.toInt32), iv (in_4.toInt8.toInt32), rv ob_35, iv 0] [(.ref ob_35), (.ref ob_11)])) _
       have O40 : Old Z n0 h25 := O0.ext E29
       have Z41 : n0 ≤ h25.size := by omega
       have F50 : Exa Z h25 ob_11 "com/example/ombor/ombor/db/Keyspace" := Exa.ext O40.2 I17
       obtain ⟨T42, h43, v44, L45, X46, e47, q48, s49⟩ := own_callV X27 hx hZ hown e28 (y := (⟨"com/example/ombor/ombor/db/Keyspace", "holds", "([B)Z"⟩ : MethodName)) (z := (⟨"com/example/ombor/ombor/db/Keyspace", "holds", "([B)Z"⟩ : MethodName)) (C := "com/example/ombor/ombor/db/Keyspace") (b := ob_11) (oW hw 5 rfl) (oW hw 6 rfl) (notFace_of_selects (args := #[]) (mvT hZ (oW hw 8 rfl))) (oW hw 8 rfl) (oW hw 7 rfl) (oW hw 1 rfl) (oW hw 9 rfl) (by decide) F50 (W := 0) (own_rm2 l Z a0 hw [] ob_11 ob_35 kk_33 h25 n0 Z41 O40 F37) (by decide) (by decide) (by decide) (by decide) (g := (mkF m 177 #[iv in_1, iv in_2, iv in_3, iv in_4, iv in_5, iv in_10, rv ob_11, iv in_12, iv 0, iv 0, iv (in_3.toInt8.toInt32), iv (in_4.toInt8.toInt32), rv ob_35, iv 0] [(.ref ob_35), (.ref ob_11)])) rfl (by rw [hml]; rfl) (argsL := [(.ref ob_35)]) (rest := []) rfl (lenOf own_pd0 rfl) rfl (by show 2 * 0 + _ ≤ _; exact Nat.le_of_eq rfl) (hb hby at_177)
       refine oS s49 ?_
       obtain ⟨rfl, N51, K52⟩ := q48
       have N53 := Fr.app N0 N51
       have e54 := e47.trans K52
       show own_G p e below (T42.setTop (mkF m 180 #[iv in_1, iv in_2, iv in_3, iv in_4, iv in_5, iv in_10, rv ob_11, iv in_12, iv 0, iv 0, iv (in_3.toInt8.toInt32), iv (in_4.toInt8.toInt32), rv ob_35, iv 0] [(.int 0)])) _
       refine oS (fun _ => XS.iload X46.here hx rfl (hb hby at_180) rfl) ?_
       refine oS (fun _ => XS.icmpNo X46.here hx rfl (hb hby at_182) rfl (XT.ii_ne_f (by decide))) ?_
       show own_G p e below (T42.setTop (mkF m 185 #[iv in_1, iv in_2, iv in_3, iv in_4, iv in_5, iv in_10, rv ob_11, iv in_12, iv 0, iv 0, iv (in_3.toInt8.toInt32), iv (in_4.toInt8.toInt32), rv ob_35, iv 0] [])) _
       refine oS (fun _ => XS.iconst X46.here hx rfl (hb hby at_185) ) ?_
       refine oS (fun _ => XS.goto X46.here hx rfl (pc0 := 186) (pc' := 190) rfl (hb hby at_186) (by decide) (by decide)) ?_
       show own_G p e below (T42.setTop (mkF m 190 #[iv in_1, iv in_2, iv in_3, iv in_4, iv in_5, iv in_10, rv ob_11, iv in_12, iv 0, iv 0, iv (in_3.toInt8.toInt32), iv (in_4.toInt8.toInt32), rv ob_35, iv 0] [(.int 1)])) _
       have K55 : Keep h0 h25 [] := ((Keep.refl h0 []).ext E29)
       exact own_retN X46 hx (t := .boolean) Bd.notSynchronized Bd.returns (by simp) (hb hby at_190) (by decide) e54 (by decide) (by decide) (⟨rfl, N53⟩)
     · skip
       refine oS (fun _ => XS.ifNo X15.here hx rfl (hb hby at_79) rfl (XT.i0_eq_f b23)) ?_
       show own_G p e below (T14.setTop (mkF m 82 #[iv in_1, iv in_2, iv in_3, iv in_4, iv in_5, iv in_10, rv ob_11, iv in_12, iv 0, .unset, .unset, .unset, .unset, .unset] [])) _
       refine oS (fun _ => XS.iconst X15.here hx rfl (hb hby at_82) ) ?_
       refine oS (fun _ => XS.goto X15.here hx rfl (pc0 := 83) (pc' := 87) rfl (hb hby at_83) (by decide) (by decide)) ?_
       show own_G p e below (T14.setTop (mkF m 87 #[iv in_1, iv in_2, iv in_3, iv in_4, iv in_5, iv in_10, rv ob_11, iv in_12, iv 0, .unset, .unset, .unset, .unset, .unset] [(.int 1)])) _
       refine oS (fun _ => XS.istore X15.here hx rfl (hb hby at_87) rfl (l' := #[iv in_1, iv in_2, iv in_3, iv in_4, iv in_5, iv in_10, rv ob_11, iv in_12, iv 0, iv 1, .unset, .unset, .unset, .unset]) rfl) ?_
       refine oS (fun _ => XS.iload X15.here hx rfl (hb hby at_89) rfl) ?_
       refine oS (fun _ => XS.ifNo X15.here hx rfl (hb hby at_91) rfl (XT.i0_eq_f (by decide))) ?_
       show own_G p e below (T14.setTop (mkF m 94 #[iv in_1, iv in_2, iv in_3, iv in_4, iv in_5, iv in_10, rv ob_11, iv in_12, iv 0, iv 1, .unset, .unset, .unset, .unset] [])) _
       refine oS (fun _ => XS.iload X15.here hx rfl (hb hby at_94) rfl) ?_
       refine oS (fun _ => XS.goto X15.here hx rfl (pc0 := 96) (pc' := 101) rfl (hb hby at_96) (by decide) (by decide)) ?_
       show own_G p e below (T14.setTop (mkF m 101 #[iv in_1, iv in_2, iv in_3, iv in_4, iv in_5, iv in_10, rv ob_11, iv in_12, iv 0, iv 1, .unset, .unset, .unset, .unset] [(.int in_12)])) _
       refine oS (fun _ => XS.istore X15.here hx rfl (hb hby at_101) rfl (l' := #[iv in_1, iv in_2, iv in_3, iv in_4, iv in_5, iv in_10, rv ob_11, iv in_12, iv 0, iv 1, iv in_12, .unset, .unset, .unset]) rfl) ?_
       refine oS (fun _ => XS.iloadN X15.here hx rfl (hb hby at_103) rfl) ?_
       refine oS (fun _ => XT.i2b X15.here hx rfl (hb hby at_104) rfl) ?_
       refine oS (fun _ => XS.istore X15.here hx rfl (hb hby at_105) rfl (l' := #[iv in_1, iv in_2, iv in_3, iv in_4, iv in_5, iv in_10, rv ob_11, iv in_12, iv 0, iv 1, iv in_12, iv (in_4.toInt8.toInt32), .unset, .unset]) rfl) ?_
       show own_G p e below (T14.setTop (mkF m 107 #[iv in_1, iv in_2, iv in_3, iv in_4, iv in_5, iv in_10, rv ob_11, iv in_12, iv 0, iv 1, iv in_12, iv (in_4.toInt8.toInt32), .unset, .unset] [])) _
       refine oS (fun _ => XS.iload X15.here hx rfl (hb hby at_107) rfl) ?_
       refine oS (fun _ => XS.ifNo X15.here hx rfl (hb hby at_109) rfl (XT.i0_ne_f (by decide))) ?_
       show own_G p e below (T14.setTop (mkF m 112 #[iv in_1, iv in_2, iv in_3, iv in_4, iv in_5, iv in_10, rv ob_11, iv in_12, iv 0, iv 1, iv in_12, iv (in_4.toInt8.toInt32), .unset, .unset] [])) _
       refine oS (fun _ => XS.iconst X15.here hx rfl (hb hby at_112) ) ?_
       obtain ⟨T56, h57, kk_65, X59, e60, E61, A62, B66, s63⟩ := own_newP X15 hx hZ (aty := .byte) (oW hw 4 rfl) e16 (nm := "[B") rfl (g := (mkF m 113 #[iv in_1, iv in_2, iv in_3, iv in_4, iv in_5, iv in_10, rv ob_11, iv in_12, iv 0, iv 1, iv in_12, iv (in_4.toInt8.toInt32), .unset, .unset] [(.int 0)])) rfl (hb hby at_113) (n := 0) (rest := []) rfl (by decide) (cap := 0) (by decide) (by decide) (by decide) (by decide)
       obtain ⟨ob_67, g68⟩ : ∃ z, z = h0.size := ⟨_, rfl⟩
       rw [← g68] at A62 B66 s63
       have F69 : Arv Z h57 ob_67 kk_65 .byte 0 [] (.int 0) := own_newA A62 (by decide) rfl rfl
       have z70 := E61.1
       have y64 := F69.lt
       refine oS s63 ?_
       show own_G p e below (T56.setTop (mkF m 115 #[iv in_1, iv in_2, iv in_3, iv in_4, iv in_5, iv in_10, rv ob_11, iv in_12, iv 0, iv 1, iv in_12, iv (in_4.toInt8.toInt32), .unset, .unset] [(.ref ob_67)])) _
       refine oS (fun _ => XS.astore X59.here hx rfl (hb hby at_115) rfl rfl (l' := #[iv in_1, iv in_2, iv in_3, iv in_4, iv in_5, iv in_10, rv ob_11, iv in_12, iv 0, iv 1, iv in_12, iv (in_4.toInt8.toInt32), rv ob_67, .unset]) rfl) ?_
       refine oS (fun _ => XS.goto X59.here hx rfl (pc0 := 117) (pc' := 154) rfl (hb hby at_117) (by decide) (by decide)) ?_
       show own_G p e below (T56.setTop (mkF m 154 #[iv in_1, iv in_2, iv in_3, iv in_4, iv in_5, iv in_10, rv ob_11, iv in_12, iv 0, iv 1, iv in_12, iv (in_4.toInt8.toInt32), rv ob_67, .unset] [])) _
       refine oS (fun _ => XS.iload X59.here hx rfl (hb hby at_154) rfl) ?_
       refine oS (fun _ => XS.ifYes X59.here hx rfl (pc0 := 156) (pc' := 170) rfl (hb hby at_156) rfl (XT.i0_le_t (by decide)) (by decide) (by decide)) ?_
       show own_G p e below (T56.setTop (mkF m 170 #[iv in_1, iv in_2, iv in_3, iv in_4, iv in_5, iv in_10, rv ob_11, iv in_12, iv 0, iv 1, iv in_12, iv (in_4.toInt8.toInt32), rv ob_67, .unset] [])) _
       refine oS (fun _ => XS.iconst X59.here hx rfl (hb hby at_170) ) ?_
       refine oS (fun _ => XS.istore X59.here hx rfl (hb hby at_171) rfl (l' := #[iv in_1, iv in_2, iv in_3, iv in_4, iv in_5, iv in_10, rv ob_11, iv in_12, iv 0, iv 1, iv in_12, iv (in_4.toInt8.toInt32), rv ob_67, iv 0]) rfl) ?_
       refine oS (fun _ => XS.aload X59.here hx rfl (hb hby at_173) rfl rfl) ?_
       refine oS (fun _ => XS.aload X59.here hx rfl (hb hby at_175) rfl rfl) ?_
       show own_G p e below (T56.setTop (mkF m 177 #[iv in_1, iv in_2, iv in_3, iv in_4, iv in_5, iv in_10, rv ob_11, iv in_12, iv 0, iv 1, iv in_12, iv (in_4.toInt8.toInt32), rv ob_67, iv 0] [(.ref ob_67), (.ref ob_11)])) _
       have O71 : Old Z n0 h57 := O0.ext E61
       have Z72 : n0 ≤ h57.size := by omega
       have F81 : Exa Z h57 ob_11 "com/example/ombor/ombor/db/Keyspace" := Exa.ext O71.2 I17
       obtain ⟨T73, h74, v75, L76, X77, e78, q79, s80⟩ := own_callV X59 hx hZ hown e60 (y := (⟨"com/example/ombor/ombor/db/Keyspace", "holds", "([B)Z"⟩ : MethodName)) (z := (⟨"com/example/ombor/ombor/db/Keyspace", "holds", "([B)Z"⟩ : MethodName)) (C := "com/example/ombor/ombor/db/Keyspace") (b := ob_11) (oW hw 5 rfl) (oW hw 6 rfl) (notFace_of_selects (args := #[]) (mvT hZ (oW hw 8 rfl))) (oW hw 8 rfl) (oW hw 7 rfl) (oW hw 1 rfl) (oW hw 9 rfl) (by decide) F81 (W := 0) (own_rm2 l Z a0 hw [] ob_11 ob_67 kk_65 h57 n0 Z72 O71 F69) (by decide) (by decide) (by decide) (by decide) (g := (mkF m 177 #[iv in_1, iv in_2, iv in_3, iv in_4, iv in_5, iv in_10, rv ob_11, iv in_12, iv 0, iv 1, iv in_12, iv (in_4.toInt8.toInt32), rv ob_67, iv 0] [(.ref ob_67), (.ref ob_11)])) rfl (by rw [hml]; rfl) (argsL := [(.ref ob_67)]) (rest := []) rfl (lenOf own_pd0 rfl) rfl (by show 2 * 0 + _ ≤ _; exact Nat.le_of_eq rfl) (hb hby at_177)
       refine oS s80 ?_
       obtain ⟨rfl, N82, K83⟩ := q79
       have N84 := Fr.app N0 N82
       have e85 := e78.trans K83
       show own_G p e below (T73.setTop (mkF m 180 #[iv in_1, iv in_2, iv in_3, iv in_4, iv in_5, iv in_10, rv ob_11, iv in_12, iv 0, iv 1, iv in_12, iv (in_4.toInt8.toInt32), rv ob_67, iv 0] [(.int 0)])) _
       refine oS (fun _ => XS.iload X77.here hx rfl (hb hby at_180) rfl) ?_
       refine oS (fun _ => XS.icmpNo X77.here hx rfl (hb hby at_182) rfl (XT.ii_ne_f (by decide))) ?_
       show own_G p e below (T73.setTop (mkF m 185 #[iv in_1, iv in_2, iv in_3, iv in_4, iv in_5, iv in_10, rv ob_11, iv in_12, iv 0, iv 1, iv in_12, iv (in_4.toInt8.toInt32), rv ob_67, iv 0] [])) _
       refine oS (fun _ => XS.iconst X77.here hx rfl (hb hby at_185) ) ?_
       refine oS (fun _ => XS.goto X77.here hx rfl (pc0 := 186) (pc' := 190) rfl (hb hby at_186) (by decide) (by decide)) ?_
       show own_G p e below (T73.setTop (mkF m 190 #[iv in_1, iv in_2, iv in_3, iv in_4, iv in_5, iv in_10, rv ob_11, iv in_12, iv 0, iv 1, iv in_12, iv (in_4.toInt8.toInt32), rv ob_67, iv 0] [(.int 1)])) _
       have K86 : Keep h0 h57 [] := ((Keep.refl h0 []).ext E61)
       exact own_retN X77 hx (t := .boolean) Bd.notSynchronized Bd.returns (by simp) (hb hby at_190) (by decide) e85 (by decide) (by decide) (⟨rfl, N84⟩)
   · skip
     refine own_cast (g' := (mkF m 73 #[iv in_1, iv in_2, iv in_3, iv in_4, iv in_5, iv in_10, rv ob_11, iv in_12, .unset, .unset, .unset, .unset, .unset, .unset] [(.int 1)])) (by rw [q21]) ?_
     show own_G p e below (T14.setTop (mkF m 73 #[iv in_1, iv in_2, iv in_3, iv in_4, iv in_5, iv in_10, rv ob_11, iv in_12, .unset, .unset, .unset, .unset, .unset, .unset] [(.int 1)])) _
     refine oS (fun _ => XS.istore X15.here hx rfl (hb hby at_73) rfl (l' := #[iv in_1, iv in_2, iv in_3, iv in_4, iv in_5, iv in_10, rv ob_11, iv in_12, iv 1, .unset, .unset, .unset, .unset, .unset]) rfl) ?_
     refine oS (fun _ => XS.iload X15.here hx rfl (hb hby at_75) rfl) ?_
     refine oS (fun _ => XS.iconst X15.here hx rfl (hb hby at_77) ) ?_
     refine oS (fun _ => XS.iand X15.here hx rfl (hb hby at_78) rfl) ?_
     show own_G p e below (T14.setTop (mkF m 79 #[iv in_1, iv in_2, iv in_3, iv in_4, iv in_5, iv in_10, rv ob_11, iv in_12, iv 1, .unset, .unset, .unset, .unset, .unset] [(.int (in_5 &&& 1))])) _
     by_cases b87 : (in_5 &&& 1) = 0
     · skip
       refine oS (fun _ => XS.ifYes X15.here hx rfl (pc0 := 79) (pc' := 86) rfl (hb hby at_79) rfl (XT.i0_eq_t b87) (by decide) (by decide)) ?_
       show own_G p e below (T14.setTop (mkF m 86 #[iv in_1, iv in_2, iv in_3, iv in_4, iv in_5, iv in_10, rv ob_11, iv in_12, iv 1, .unset, .unset, .unset, .unset, .unset] [])) _
       refine oS (fun _ => XS.iconst X15.here hx rfl (hb hby at_86) ) ?_
       refine oS (fun _ => XS.istore X15.here hx rfl (hb hby at_87) rfl (l' := #[iv in_1, iv in_2, iv in_3, iv in_4, iv in_5, iv in_10, rv ob_11, iv in_12, iv 1, iv 0, .unset, .unset, .unset, .unset]) rfl) ?_
       refine oS (fun _ => XS.iload X15.here hx rfl (hb hby at_89) rfl) ?_
       refine oS (fun _ => XS.ifYes X15.here hx rfl (pc0 := 91) (pc' := 99) rfl (hb hby at_91) rfl (XT.i0_eq_t (by decide)) (by decide) (by decide)) ?_
       show own_G p e below (T14.setTop (mkF m 99 #[iv in_1, iv in_2, iv in_3, iv in_4, iv in_5, iv in_10, rv ob_11, iv in_12, iv 1, iv 0, .unset, .unset, .unset, .unset] [])) _
       refine oS (fun _ => XS.iloadN X15.here hx rfl (hb hby at_99) rfl) ?_
       refine oS (fun _ => XT.i2b X15.here hx rfl (hb hby at_100) rfl) ?_
       refine oS (fun _ => XS.istore X15.here hx rfl (hb hby at_101) rfl (l' := #[iv in_1, iv in_2, iv in_3, iv in_4, iv in_5, iv in_10, rv ob_11, iv in_12, iv 1, iv 0, iv (in_3.toInt8.toInt32), .unset, .unset, .unset]) rfl) ?_
       refine oS (fun _ => XS.iloadN X15.here hx rfl (hb hby at_103) rfl) ?_
       show own_G p e below (T14.setTop (mkF m 104 #[iv in_1, iv in_2, iv in_3, iv in_4, iv in_5, iv in_10, rv ob_11, iv in_12, iv 1, iv 0, iv (in_3.toInt8.toInt32), .unset, .unset, .unset] [(.int in_4)])) _
       refine oS (fun _ => XT.i2b X15.here hx rfl (hb hby at_104) rfl) ?_
       refine oS (fun _ => XS.istore X15.here hx rfl (hb hby at_105) rfl (l' := #[iv in_1, iv in_2, iv in_3, iv in_4, iv in_5, iv in_10, rv ob_11, iv in_12, iv 1, iv 0, iv (in_3.toInt8.toInt32), iv (in_4.toInt8.toInt32), .unset, .unset]) rfl) ?_
       refine oS (fun _ => XS.iload X15.here hx rfl (hb hby at_107) rfl) ?_
       refine oS (fun _ => XS.ifYes X15.here hx rfl (pc0 := 109) (pc' := 120) rfl (hb hby at_109) rfl (XT.i0_ne_t (by decide)) (by decide) (by decide)) ?_
       show own_G p e below (T14.setTop (mkF m 120 #[iv in_1, iv in_2, iv in_3, iv in_4, iv in_5, iv in_10, rv ob_11, iv in_12, iv 1, iv 0, iv (in_3.toInt8.toInt32), iv (in_4.toInt8.toInt32), .unset, .unset] [])) _
       refine oS (fun _ => XS.iload X15.here hx rfl (hb hby at_120) rfl) ?_
       refine oS (fun _ => XS.iconst X15.here hx rfl (hb hby at_122) ) ?_
       refine oS (fun _ => XS.icmpNo X15.here hx rfl (hb hby at_123) rfl (XT.ii_ne_f (by decide))) ?_
       show own_G p e below (T14.setTop (mkF m 126 #[iv in_1, iv in_2, iv in_3, iv in_4, iv in_5, iv in_10, rv ob_11, iv in_12, iv 1, iv 0, iv (in_3.toInt8.toInt32), iv (in_4.toInt8.toInt32), .unset, .unset] [])) _
       refine oS (fun _ => XS.iconst X15.here hx rfl (hb hby at_126) ) ?_
       obtain ⟨T88, h89, kk_97, X91, e92, E93, A94, B98, s95⟩ := own_newP X15 hx hZ (aty := .byte) (oW hw 4 rfl) e16 (nm := "[B") rfl (g := (mkF m 127 #[iv in_1, iv in_2, iv in_3, iv in_4, iv in_5, iv in_10, rv ob_11, iv in_12, iv 1, iv 0, iv (in_3.toInt8.toInt32), iv (in_4.toInt8.toInt32), .unset, .unset] [(.int 1)])) rfl (hb hby at_127) (n := 1) (rest := []) rfl (by decide) (cap := 1) (by decide) (by decide) (by decide) (by decide)
       obtain ⟨ob_99, g100⟩ : ∃ z, z = h0.size := ⟨_, rfl⟩
       rw [← g100] at A94 B98 s95
       have F101 : Arv Z h89 ob_99 kk_97 .byte 1 [(.int 0)] (.int 0) := own_newA A94 (by decide) rfl rfl
       have z102 := E93.1
       have y96 := F101.lt
       refine oS s95 ?_
       show own_G p e below (T88.setTop (mkF m 129 #[iv in_1, iv in_2, iv in_3, iv in_4, iv in_5, iv in_10, rv ob_11, iv in_12, iv 1, iv 0, iv (in_3.toInt8.toInt32), iv (in_4.toInt8.toInt32), .unset, .unset] [(.ref ob_99)])) _
       refine oS (fun _ => XS.dup X91.here hx rfl (hb hby at_129) rfl rfl) ?_
       refine oS (fun _ => XS.iconst X91.here hx rfl (hb hby at_130) ) ?_
       refine oS (fun _ => XS.iload X91.here hx rfl (hb hby at_131) rfl) ?_
       obtain ⟨T103, h104, X105, e106, W107, A108, s109⟩ := own_stB X91 hx hZ e92 F101 (x' := (in_3.toInt8.toInt32)) 0 (own_narB _) rfl (by decide) (by simp) (g := (mkF m 133 #[iv in_1, iv in_2, iv in_3, iv in_4, iv in_5, iv in_10, rv ob_11, iv in_12, iv 1, iv 0, iv (in_3.toInt8.toInt32), iv (in_4.toInt8.toInt32), .unset, .unset] [(.int (in_3.toInt8.toInt32)), (.int 0), (.ref ob_99), (.ref ob_99)])) rfl (rest := [(.ref ob_99)]) rfl (hb hby at_133)
       have N111 : n0 ≤ ob_99 := by omega
       have N110 := Fr.snoc X105 N0 N111
       have z112 := W107.size
       have F113 : Arv Z h104 ob_99 kk_97 .byte 1 [(.int (in_3.toInt8.toInt32))] (.int 0) := A108
       refine oS s109 ?_
       show own_G p e below (T103.setTop (mkF m 134 #[iv in_1, iv in_2, iv in_3, iv in_4, iv in_5, iv in_10, rv ob_11, iv in_12, iv 1, iv 0, iv (in_3.toInt8.toInt32), iv (in_4.toInt8.toInt32), .unset, .unset] [(.ref ob_99)])) _
       refine oS (fun _ => XS.astore X105.here hx rfl (hb hby at_134) rfl rfl (l' := #[iv in_1, iv in_2, iv in_3, iv in_4, iv in_5, iv in_10, rv ob_11, iv in_12, iv 1, iv 0, iv (in_3.toInt8.toInt32), iv (in_4.toInt8.toInt32), rv ob_99, .unset]) rfl) ?_
       refine oS (fun _ => XS.goto X105.here hx rfl (pc0 := 136) (pc' := 154) rfl (hb hby at_136) (by decide) (by decide)) ?_
       show own_G p e below (T103.setTop (mkF m 154 #[iv in_1, iv in_2, iv in_3, iv in_4, iv in_5, iv in_10, rv ob_11, iv in_12, iv 1, iv 0, iv (in_3.toInt8.toInt32), iv (in_4.toInt8.toInt32), rv ob_99, .unset] [])) _
       refine oS (fun _ => XS.iload X105.here hx rfl (hb hby at_154) rfl) ?_
       refine oS (fun _ => XS.ifNo X105.here hx rfl (hb hby at_156) rfl (XT.i0_le_f (by decide))) ?_
       show own_G p e below (T103.setTop (mkF m 159 #[iv in_1, iv in_2, iv in_3, iv in_4, iv in_5, iv in_10, rv ob_11, iv in_12, iv 1, iv 0, iv (in_3.toInt8.toInt32), iv (in_4.toInt8.toInt32), rv ob_99, .unset] [])) _
       refine oS (fun _ => XS.iload X105.here hx rfl (hb hby at_159) rfl) ?_
       refine oS (fun _ => XS.iload X105.here hx rfl (hb hby at_161) rfl) ?_
       by_cases b114 : (in_3.toInt8.toInt32) = in_12
       · skip
         refine oS (fun _ => XS.icmpNo X105.here hx rfl (hb hby at_163) rfl (XT.ii_ne_f b114)) ?_
         show own_G p e below (T103.setTop (mkF m 166 #[iv in_1, iv in_2, iv in_3, iv in_4, iv in_5, iv in_10, rv ob_11, iv in_12, iv 1, iv 0, iv (in_3.toInt8.toInt32), iv (in_4.toInt8.toInt32), rv ob_99, .unset] [])) _
         refine oS (fun _ => XS.iconst X105.here hx rfl (hb hby at_166) ) ?_
         refine oS (fun _ => XS.goto X105.here hx rfl (pc0 := 167) (pc' := 171) rfl (hb hby at_167) (by decide) (by decide)) ?_
         show own_G p e below (T103.setTop (mkF m 171 #[iv in_1, iv in_2, iv in_3, iv in_4, iv in_5, iv in_10, rv ob_11, iv in_12, iv 1, iv 0, iv (in_3.toInt8.toInt32), iv (in_4.toInt8.toInt32), rv ob_99, .unset] [(.int 1)])) _
         refine oS (fun _ => XS.istore X105.here hx rfl (hb hby at_171) rfl (l' := #[iv in_1, iv in_2, iv in_3, iv in_4, iv in_5, iv in_10, rv ob_11, iv in_12, iv 1, iv 0, iv (in_3.toInt8.toInt32), iv (in_4.toInt8.toInt32), rv ob_99, iv 1]) rfl) ?_
         refine oS (fun _ => XS.aload X105.here hx rfl (hb hby at_173) rfl rfl) ?_
         refine oS (fun _ => XS.aload X105.here hx rfl (hb hby at_175) rfl rfl) ?_
         have O123 : Old Z n0 h89 := O0.ext E93
         have O124 : Old Z n0 h104 := O123.wr W107 N111
         have Z125 : n0 ≤ h104.size := by omega
         have F134 : Exa Z h104 ob_11 "com/example/ombor/ombor/db/Keyspace" := Exa.ext O124.2 I17
         obtain ⟨T126, h127, v128, L129, X130, e131, q132, s133⟩ := own_callV X105 hx hZ hown e106 (y := (⟨"com/example/ombor/ombor/db/Keyspace", "holds", "([B)Z"⟩ : MethodName)) (z := (⟨"com/example/ombor/ombor/db/Keyspace", "holds", "([B)Z"⟩ : MethodName)) (C := "com/example/ombor/ombor/db/Keyspace") (b := ob_11) (oW hw 5 rfl) (oW hw 6 rfl) (notFace_of_selects (args := #[]) (mvT hZ (oW hw 8 rfl))) (oW hw 8 rfl) (oW hw 7 rfl) (oW hw 1 rfl) (oW hw 9 rfl) (by decide) F134 (W := 0) (own_rm3 l Z a0 hw [] ob_11 ob_99 kk_97 in_3 in_12 h104 n0 Z125 O124 F113 I18 b114) (by decide) (by decide) (by decide) (by decide) (g := (mkF m 177 #[iv in_1, iv in_2, iv in_3, iv in_4, iv in_5, iv in_10, rv ob_11, iv in_12, iv 1, iv 0, iv (in_3.toInt8.toInt32), iv (in_4.toInt8.toInt32), rv ob_99, iv 1] [(.ref ob_99), (.ref ob_11)])) rfl (by rw [hml]; rfl) (argsL := [(.ref ob_99)]) (rest := []) rfl (lenOf own_pd0 rfl) rfl (by show 2 * 0 + _ ≤ _; exact Nat.le_of_eq rfl) (hb hby at_177)
         refine oS s133 ?_
         obtain ⟨rfl, N135, K136⟩ := q132
         have N137 := Fr.app N110 N135
         have e138 := e131.trans K136
         show own_G p e below (T126.setTop (mkF m 180 #[iv in_1, iv in_2, iv in_3, iv in_4, iv in_5, iv in_10, rv ob_11, iv in_12, iv 1, iv 0, iv (in_3.toInt8.toInt32), iv (in_4.toInt8.toInt32), rv ob_99, iv 1] [(.int 1)])) _
         refine oS (fun _ => XS.iload X130.here hx rfl (hb hby at_180) rfl) ?_
         refine oS (fun _ => XS.icmpNo X130.here hx rfl (hb hby at_182) rfl (XT.ii_ne_f (by decide))) ?_
         show own_G p e below (T126.setTop (mkF m 185 #[iv in_1, iv in_2, iv in_3, iv in_4, iv in_5, iv in_10, rv ob_11, iv in_12, iv 1, iv 0, iv (in_3.toInt8.toInt32), iv (in_4.toInt8.toInt32), rv ob_99, iv 1] [])) _
         refine oS (fun _ => XS.iconst X130.here hx rfl (hb hby at_185) ) ?_
         refine oS (fun _ => XS.goto X130.here hx rfl (pc0 := 186) (pc' := 190) rfl (hb hby at_186) (by decide) (by decide)) ?_
         show own_G p e below (T126.setTop (mkF m 190 #[iv in_1, iv in_2, iv in_3, iv in_4, iv in_5, iv in_10, rv ob_11, iv in_12, iv 1, iv 0, iv (in_3.toInt8.toInt32), iv (in_4.toInt8.toInt32), rv ob_99, iv 1] [(.int 1)])) _
         have K139 : Keep h0 h104 [] := (((Keep.refl h0 []).ext E93).wr W107 (Or.inr (by omega)))
         exact own_retN X130 hx (t := .boolean) Bd.notSynchronized Bd.returns (by simp) (hb hby at_190) (by decide) e138 (by decide) (by decide) (⟨rfl, N137⟩)
       · skip
         refine oS (fun _ => XS.icmpYes X105.here hx rfl (pc0 := 163) (pc' := 170) rfl (hb hby at_163) rfl (XT.ii_ne_t b114) (by decide) (by decide)) ?_
         show own_G p e below (T103.setTop (mkF m 170 #[iv in_1, iv in_2, iv in_3, iv in_4, iv in_5, iv in_10, rv ob_11, iv in_12, iv 1, iv 0, iv (in_3.toInt8.toInt32), iv (in_4.toInt8.toInt32), rv ob_99, .unset] [])) _
         refine oS (fun _ => XS.iconst X105.here hx rfl (hb hby at_170) ) ?_
         refine oS (fun _ => XS.istore X105.here hx rfl (hb hby at_171) rfl (l' := #[iv in_1, iv in_2, iv in_3, iv in_4, iv in_5, iv in_10, rv ob_11, iv in_12, iv 1, iv 0, iv (in_3.toInt8.toInt32), iv (in_4.toInt8.toInt32), rv ob_99, iv 0]) rfl) ?_
         refine oS (fun _ => XS.aload X105.here hx rfl (hb hby at_173) rfl rfl) ?_
         refine oS (fun _ => XS.aload X105.here hx rfl (hb hby at_175) rfl rfl) ?_
         show own_G p e below (T103.setTop (mkF m 177 #[iv in_1, iv in_2, iv in_3, iv in_4, iv in_5, iv in_10, rv ob_11, iv in_12, iv 1, iv 0, iv (in_3.toInt8.toInt32), iv (in_4.toInt8.toInt32), rv ob_99, iv 0] [(.ref ob_99), (.ref ob_11)])) _
         have O148 : Old Z n0 h89 := O0.ext E93
         have O149 : Old Z n0 h104 := O148.wr W107 N111
         have Z150 : n0 ≤ h104.size := by omega
         have F159 : Exa Z h104 ob_11 "com/example/ombor/ombor/db/Keyspace" := Exa.ext O149.2 I17
         obtain ⟨T151, h152, v153, L154, X155, e156, q157, s158⟩ := own_callV X105 hx hZ hown e106 (y := (⟨"com/example/ombor/ombor/db/Keyspace", "holds", "([B)Z"⟩ : MethodName)) (z := (⟨"com/example/ombor/ombor/db/Keyspace", "holds", "([B)Z"⟩ : MethodName)) (C := "com/example/ombor/ombor/db/Keyspace") (b := ob_11) (oW hw 5 rfl) (oW hw 6 rfl) (notFace_of_selects (args := #[]) (mvT hZ (oW hw 8 rfl))) (oW hw 8 rfl) (oW hw 7 rfl) (oW hw 1 rfl) (oW hw 9 rfl) (by decide) F159 (W := 0) (own_rm4 l Z a0 hw [] ob_11 ob_99 kk_97 in_3 in_12 h104 n0 Z150 O149 F113 I18 b114) (by decide) (by decide) (by decide) (by decide) (g := (mkF m 177 #[iv in_1, iv in_2, iv in_3, iv in_4, iv in_5, iv in_10, rv ob_11, iv in_12, iv 1, iv 0, iv (in_3.toInt8.toInt32), iv (in_4.toInt8.toInt32), rv ob_99, iv 0] [(.ref ob_99), (.ref ob_11)])) rfl (by rw [hml]; rfl) (argsL := [(.ref ob_99)]) (rest := []) rfl (lenOf own_pd0 rfl) rfl (by show 2 * 0 + _ ≤ _; exact Nat.le_of_eq rfl) (hb hby at_177)
         refine oS s158 ?_
         obtain ⟨rfl, N160, K161⟩ := q157
         have N162 := Fr.app N110 N160
         have e163 := e156.trans K161
         show own_G p e below (T151.setTop (mkF m 180 #[iv in_1, iv in_2, iv in_3, iv in_4, iv in_5, iv in_10, rv ob_11, iv in_12, iv 1, iv 0, iv (in_3.toInt8.toInt32), iv (in_4.toInt8.toInt32), rv ob_99, iv 0] [(.int 0)])) _
         refine oS (fun _ => XS.iload X155.here hx rfl (hb hby at_180) rfl) ?_
         refine oS (fun _ => XS.icmpNo X155.here hx rfl (hb hby at_182) rfl (XT.ii_ne_f (by decide))) ?_
         show own_G p e below (T151.setTop (mkF m 185 #[iv in_1, iv in_2, iv in_3, iv in_4, iv in_5, iv in_10, rv ob_11, iv in_12, iv 1, iv 0, iv (in_3.toInt8.toInt32), iv (in_4.toInt8.toInt32), rv ob_99, iv 0] [])) _
         refine oS (fun _ => XS.iconst X155.here hx rfl (hb hby at_185) ) ?_
         refine oS (fun _ => XS.goto X155.here hx rfl (pc0 := 186) (pc' := 190) rfl (hb hby at_186) (by decide) (by decide)) ?_
         show own_G p e below (T151.setTop (mkF m 190 #[iv in_1, iv in_2, iv in_3, iv in_4, iv in_5, iv in_10, rv ob_11, iv in_12, iv 1, iv 0, iv (in_3.toInt8.toInt32), iv (in_4.toInt8.toInt32), rv ob_99, iv 0] [(.int 1)])) _
         have K164 : Keep h0 h104 [] := (((Keep.refl h0 []).ext E93).wr W107 (Or.inr (by omega)))
         exact own_retN X155 hx (t := .boolean) Bd.notSynchronized Bd.returns (by simp) (hb hby at_190) (by decide) e163 (by decide) (by decide) (⟨rfl, N162⟩)
     · skip
       refine oS (fun _ => XS.ifNo X15.here hx rfl (hb hby at_79) rfl (XT.i0_eq_f b87)) ?_
       show own_G p e below (T14.setTop (mkF m 82 #[iv in_1, iv in_2, iv in_3, iv in_4, iv in_5, iv in_10, rv ob_11, iv in_12, iv 1, .unset, .unset, .unset, .unset, .unset] [])) _
       refine oS (fun _ => XS.iconst X15.here hx rfl (hb hby at_82) ) ?_
       refine oS (fun _ => XS.goto X15.here hx rfl (pc0 := 83) (pc' := 87) rfl (hb hby at_83) (by decide) (by decide)) ?_
       show own_G p e below (T14.setTop (mkF m 87 #[iv in_1, iv in_2, iv in_3, iv in_4, iv in_5, iv in_10, rv ob_11, iv in_12, iv 1, .unset, .unset, .unset, .unset, .unset] [(.int 1)])) _
       refine oS (fun _ => XS.istore X15.here hx rfl (hb hby at_87) rfl (l' := #[iv in_1, iv in_2, iv in_3, iv in_4, iv in_5, iv in_10, rv ob_11, iv in_12, iv 1, iv 1, .unset, .unset, .unset, .unset]) rfl) ?_
       refine oS (fun _ => XS.iload X15.here hx rfl (hb hby at_89) rfl) ?_
       refine oS (fun _ => XS.ifNo X15.here hx rfl (hb hby at_91) rfl (XT.i0_eq_f (by decide))) ?_
       show own_G p e below (T14.setTop (mkF m 94 #[iv in_1, iv in_2, iv in_3, iv in_4, iv in_5, iv in_10, rv ob_11, iv in_12, iv 1, iv 1, .unset, .unset, .unset, .unset] [])) _
       refine oS (fun _ => XS.iload X15.here hx rfl (hb hby at_94) rfl) ?_
       refine oS (fun _ => XS.goto X15.here hx rfl (pc0 := 96) (pc' := 101) rfl (hb hby at_96) (by decide) (by decide)) ?_
       show own_G p e below (T14.setTop (mkF m 101 #[iv in_1, iv in_2, iv in_3, iv in_4, iv in_5, iv in_10, rv ob_11, iv in_12, iv 1, iv 1, .unset, .unset, .unset, .unset] [(.int in_12)])) _
       refine oS (fun _ => XS.istore X15.here hx rfl (hb hby at_101) rfl (l' := #[iv in_1, iv in_2, iv in_3, iv in_4, iv in_5, iv in_10, rv ob_11, iv in_12, iv 1, iv 1, iv in_12, .unset, .unset, .unset]) rfl) ?_
       refine oS (fun _ => XS.iloadN X15.here hx rfl (hb hby at_103) rfl) ?_
       refine oS (fun _ => XT.i2b X15.here hx rfl (hb hby at_104) rfl) ?_
       refine oS (fun _ => XS.istore X15.here hx rfl (hb hby at_105) rfl (l' := #[iv in_1, iv in_2, iv in_3, iv in_4, iv in_5, iv in_10, rv ob_11, iv in_12, iv 1, iv 1, iv in_12, iv (in_4.toInt8.toInt32), .unset, .unset]) rfl) ?_
       show own_G p e below (T14.setTop (mkF m 107 #[iv in_1, iv in_2, iv in_3, iv in_4, iv in_5, iv in_10, rv ob_11, iv in_12, iv 1, iv 1, iv in_12, iv (in_4.toInt8.toInt32), .unset, .unset] [])) _
       refine oS (fun _ => XS.iload X15.here hx rfl (hb hby at_107) rfl) ?_
       refine oS (fun _ => XS.ifYes X15.here hx rfl (pc0 := 109) (pc' := 120) rfl (hb hby at_109) rfl (XT.i0_ne_t (by decide)) (by decide) (by decide)) ?_
       show own_G p e below (T14.setTop (mkF m 120 #[iv in_1, iv in_2, iv in_3, iv in_4, iv in_5, iv in_10, rv ob_11, iv in_12, iv 1, iv 1, iv in_12, iv (in_4.toInt8.toInt32), .unset, .unset] [])) _
       refine oS (fun _ => XS.iload X15.here hx rfl (hb hby at_120) rfl) ?_
       refine oS (fun _ => XS.iconst X15.here hx rfl (hb hby at_122) ) ?_
       refine oS (fun _ => XS.icmpNo X15.here hx rfl (hb hby at_123) rfl (XT.ii_ne_f (by decide))) ?_
       show own_G p e below (T14.setTop (mkF m 126 #[iv in_1, iv in_2, iv in_3, iv in_4, iv in_5, iv in_10, rv ob_11, iv in_12, iv 1, iv 1, iv in_12, iv (in_4.toInt8.toInt32), .unset, .unset] [])) _
       refine oS (fun _ => XS.iconst X15.here hx rfl (hb hby at_126) ) ?_
       obtain ⟨T165, h166, kk_174, X168, e169, E170, A171, B175, s172⟩ := own_newP X15 hx hZ (aty := .byte) (oW hw 4 rfl) e16 (nm := "[B") rfl (g := (mkF m 127 #[iv in_1, iv in_2, iv in_3, iv in_4, iv in_5, iv in_10, rv ob_11, iv in_12, iv 1, iv 1, iv in_12, iv (in_4.toInt8.toInt32), .unset, .unset] [(.int 1)])) rfl (hb hby at_127) (n := 1) (rest := []) rfl (by decide) (cap := 1) (by decide) (by decide) (by decide) (by decide)
       obtain ⟨ob_176, g177⟩ : ∃ z, z = h0.size := ⟨_, rfl⟩
       rw [← g177] at A171 B175 s172
       have F178 : Arv Z h166 ob_176 kk_174 .byte 1 [(.int 0)] (.int 0) := own_newA A171 (by decide) rfl rfl
       have z179 := E170.1
       have y173 := F178.lt
       refine oS s172 ?_
       show own_G p e below (T165.setTop (mkF m 129 #[iv in_1, iv in_2, iv in_3, iv in_4, iv in_5, iv in_10, rv ob_11, iv in_12, iv 1, iv 1, iv in_12, iv (in_4.toInt8.toInt32), .unset, .unset] [(.ref ob_176)])) _
       refine oS (fun _ => XS.dup X168.here hx rfl (hb hby at_129) rfl rfl) ?_
       refine oS (fun _ => XS.iconst X168.here hx rfl (hb hby at_130) ) ?_
       refine oS (fun _ => XS.iload X168.here hx rfl (hb hby at_131) rfl) ?_
       obtain ⟨T180, h181, X182, e183, W184, A185, s186⟩ := own_stB X168 hx hZ e169 F178 (x' := in_12) 0 I19 rfl (by decide) (by simp) (g := (mkF m 133 #[iv in_1, iv in_2, iv in_3, iv in_4, iv in_5, iv in_10, rv ob_11, iv in_12, iv 1, iv 1, iv in_12, iv (in_4.toInt8.toInt32), .unset, .unset] [(.int in_12), (.int 0), (.ref ob_176), (.ref ob_176)])) rfl (rest := [(.ref ob_176)]) rfl (hb hby at_133)
       have N188 : n0 ≤ ob_176 := by omega
       have N187 := Fr.snoc X182 N0 N188
       have z189 := W184.size
       have F190 : Arv Z h181 ob_176 kk_174 .byte 1 [(.int in_12)] (.int 0) := A185
       refine oS s186 ?_
       show own_G p e below (T180.setTop (mkF m 134 #[iv in_1, iv in_2, iv in_3, iv in_4, iv in_5, iv in_10, rv ob_11, iv in_12, iv 1, iv 1, iv in_12, iv (in_4.toInt8.toInt32), .unset, .unset] [(.ref ob_176)])) _
       refine oS (fun _ => XS.astore X182.here hx rfl (hb hby at_134) rfl rfl (l' := #[iv in_1, iv in_2, iv in_3, iv in_4, iv in_5, iv in_10, rv ob_11, iv in_12, iv 1, iv 1, iv in_12, iv (in_4.toInt8.toInt32), rv ob_176, .unset]) rfl) ?_
       refine oS (fun _ => XS.goto X182.here hx rfl (pc0 := 136) (pc' := 154) rfl (hb hby at_136) (by decide) (by decide)) ?_
       show own_G p e below (T180.setTop (mkF m 154 #[iv in_1, iv in_2, iv in_3, iv in_4, iv in_5, iv in_10, rv ob_11, iv in_12, iv 1, iv 1, iv in_12, iv (in_4.toInt8.toInt32), rv ob_176, .unset] [])) _
       refine oS (fun _ => XS.iload X182.here hx rfl (hb hby at_154) rfl) ?_
       refine oS (fun _ => XS.ifNo X182.here hx rfl (hb hby at_156) rfl (XT.i0_le_f (by decide))) ?_
       show own_G p e below (T180.setTop (mkF m 159 #[iv in_1, iv in_2, iv in_3, iv in_4, iv in_5, iv in_10, rv ob_11, iv in_12, iv 1, iv 1, iv in_12, iv (in_4.toInt8.toInt32), rv ob_176, .unset] [])) _
       refine oS (fun _ => XS.iload X182.here hx rfl (hb hby at_159) rfl) ?_
       refine oS (fun _ => XS.iload X182.here hx rfl (hb hby at_161) rfl) ?_
       refine oS (fun _ => XS.icmpNo X182.here hx rfl (hb hby at_163) rfl (XT.ii_ne_f rfl)) ?_
       show own_G p e below (T180.setTop (mkF m 166 #[iv in_1, iv in_2, iv in_3, iv in_4, iv in_5, iv in_10, rv ob_11, iv in_12, iv 1, iv 1, iv in_12, iv (in_4.toInt8.toInt32), rv ob_176, .unset] [])) _
       refine oS (fun _ => XS.iconst X182.here hx rfl (hb hby at_166) ) ?_
       refine oS (fun _ => XS.goto X182.here hx rfl (pc0 := 167) (pc' := 171) rfl (hb hby at_167) (by decide) (by decide)) ?_
       show own_G p e below (T180.setTop (mkF m 171 #[iv in_1, iv in_2, iv in_3, iv in_4, iv in_5, iv in_10, rv ob_11, iv in_12, iv 1, iv 1, iv in_12, iv (in_4.toInt8.toInt32), rv ob_176, .unset] [(.int 1)])) _
       refine oS (fun _ => XS.istore X182.here hx rfl (hb hby at_171) rfl (l' := #[iv in_1, iv in_2, iv in_3, iv in_4, iv in_5, iv in_10, rv ob_11, iv in_12, iv 1, iv 1, iv in_12, iv (in_4.toInt8.toInt32), rv ob_176, iv 1]) rfl) ?_
       refine oS (fun _ => XS.aload X182.here hx rfl (hb hby at_173) rfl rfl) ?_
       refine oS (fun _ => XS.aload X182.here hx rfl (hb hby at_175) rfl rfl) ?_
       have O198 : Old Z n0 h166 := O0.ext E170
       have O199 : Old Z n0 h181 := O198.wr W184 N188
       have Z200 : n0 ≤ h181.size := by omega
       have F209 : Exa Z h181 ob_11 "com/example/ombor/ombor/db/Keyspace" := Exa.ext O199.2 I17
       obtain ⟨T201, h202, v203, L204, X205, e206, q207, s208⟩ := own_callV X182 hx hZ hown e183 (y := (⟨"com/example/ombor/ombor/db/Keyspace", "holds", "([B)Z"⟩ : MethodName)) (z := (⟨"com/example/ombor/ombor/db/Keyspace", "holds", "([B)Z"⟩ : MethodName)) (C := "com/example/ombor/ombor/db/Keyspace") (b := ob_11) (oW hw 5 rfl) (oW hw 6 rfl) (notFace_of_selects (args := #[]) (mvT hZ (oW hw 8 rfl))) (oW hw 8 rfl) (oW hw 7 rfl) (oW hw 1 rfl) (oW hw 9 rfl) (by decide) F209 (W := 0) (own_rm5 l Z a0 hw [] ob_11 ob_176 kk_174 in_12 h181 n0 Z200 O199 F190 I18) (by decide) (by decide) (by decide) (by decide) (g := (mkF m 177 #[iv in_1, iv in_2, iv in_3, iv in_4, iv in_5, iv in_10, rv ob_11, iv in_12, iv 1, iv 1, iv in_12, iv (in_4.toInt8.toInt32), rv ob_176, iv 1] [(.ref ob_176), (.ref ob_11)])) rfl (by rw [hml]; rfl) (argsL := [(.ref ob_176)]) (rest := []) rfl (lenOf own_pd0 rfl) rfl (by show 2 * 0 + _ ≤ _; exact Nat.le_of_eq rfl) (hb hby at_177)
       refine oS s208 ?_
       obtain ⟨rfl, N210, K211⟩ := q207
       have N212 := Fr.app N187 N210
       have e213 := e206.trans K211
       show own_G p e below (T201.setTop (mkF m 180 #[iv in_1, iv in_2, iv in_3, iv in_4, iv in_5, iv in_10, rv ob_11, iv in_12, iv 1, iv 1, iv in_12, iv (in_4.toInt8.toInt32), rv ob_176, iv 1] [(.int 1)])) _
       refine oS (fun _ => XS.iload X205.here hx rfl (hb hby at_180) rfl) ?_
       refine oS (fun _ => XS.icmpNo X205.here hx rfl (hb hby at_182) rfl (XT.ii_ne_f (by decide))) ?_
       show own_G p e below (T201.setTop (mkF m 185 #[iv in_1, iv in_2, iv in_3, iv in_4, iv in_5, iv in_10, rv ob_11, iv in_12, iv 1, iv 1, iv in_12, iv (in_4.toInt8.toInt32), rv ob_176, iv 1] [])) _
       refine oS (fun _ => XS.iconst X205.here hx rfl (hb hby at_185) ) ?_
       refine oS (fun _ => XS.goto X205.here hx rfl (pc0 := 186) (pc' := 190) rfl (hb hby at_186) (by decide) (by decide)) ?_
       show own_G p e below (T201.setTop (mkF m 190 #[iv in_1, iv in_2, iv in_3, iv in_4, iv in_5, iv in_10, rv ob_11, iv in_12, iv 1, iv 1, iv in_12, iv (in_4.toInt8.toInt32), rv ob_176, iv 1] [(.int 1)])) _
       have K214 : Keep h0 h181 [] := (((Keep.refl h0 []).ext E170).wr W184 (Or.inr (by omega)))
       exact own_retN X205 hx (t := .boolean) Bd.notSynchronized Bd.returns (by simp) (hb hby at_190) (by decide) e213 (by decide) (by decide) (⟨rfl, N212⟩)
   · skip
     refine own_cast (g' := (mkF m 73 #[iv in_1, iv in_2, iv in_3, iv in_4, iv in_5, iv in_10, rv ob_11, iv in_12, .unset, .unset, .unset, .unset, .unset, .unset] [(.int 2)])) (by rw [q22]) ?_
     show own_G p e below (T14.setTop (mkF m 73 #[iv in_1, iv in_2, iv in_3, iv in_4, iv in_5, iv in_10, rv ob_11, iv in_12, .unset, .unset, .unset, .unset, .unset, .unset] [(.int 2)])) _
     refine oS (fun _ => XS.istore X15.here hx rfl (hb hby at_73) rfl (l' := #[iv in_1, iv in_2, iv in_3, iv in_4, iv in_5, iv in_10, rv ob_11, iv in_12, iv 2, .unset, .unset, .unset, .unset, .unset]) rfl) ?_
     refine oS (fun _ => XS.iload X15.here hx rfl (hb hby at_75) rfl) ?_
     refine oS (fun _ => XS.iconst X15.here hx rfl (hb hby at_77) ) ?_
     refine oS (fun _ => XS.iand X15.here hx rfl (hb hby at_78) rfl) ?_
     show own_G p e below (T14.setTop (mkF m 79 #[iv in_1, iv in_2, iv in_3, iv in_4, iv in_5, iv in_10, rv ob_11, iv in_12, iv 2, .unset, .unset, .unset, .unset, .unset] [(.int (in_5 &&& 1))])) _
     by_cases b215 : (in_5 &&& 1) = 0
     · skip
       refine oS (fun _ => XS.ifYes X15.here hx rfl (pc0 := 79) (pc' := 86) rfl (hb hby at_79) rfl (XT.i0_eq_t b215) (by decide) (by decide)) ?_
       show own_G p e below (T14.setTop (mkF m 86 #[iv in_1, iv in_2, iv in_3, iv in_4, iv in_5, iv in_10, rv ob_11, iv in_12, iv 2, .unset, .unset, .unset, .unset, .unset] [])) _
       refine oS (fun _ => XS.iconst X15.here hx rfl (hb hby at_86) ) ?_
       refine oS (fun _ => XS.istore X15.here hx rfl (hb hby at_87) rfl (l' := #[iv in_1, iv in_2, iv in_3, iv in_4, iv in_5, iv in_10, rv ob_11, iv in_12, iv 2, iv 0, .unset, .unset, .unset, .unset]) rfl) ?_
       refine oS (fun _ => XS.iload X15.here hx rfl (hb hby at_89) rfl) ?_
       refine oS (fun _ => XS.ifYes X15.here hx rfl (pc0 := 91) (pc' := 99) rfl (hb hby at_91) rfl (XT.i0_eq_t (by decide)) (by decide) (by decide)) ?_
       show own_G p e below (T14.setTop (mkF m 99 #[iv in_1, iv in_2, iv in_3, iv in_4, iv in_5, iv in_10, rv ob_11, iv in_12, iv 2, iv 0, .unset, .unset, .unset, .unset] [])) _
       refine oS (fun _ => XS.iloadN X15.here hx rfl (hb hby at_99) rfl) ?_
       refine oS (fun _ => XT.i2b X15.here hx rfl (hb hby at_100) rfl) ?_
       refine oS (fun _ => XS.istore X15.here hx rfl (hb hby at_101) rfl (l' := #[iv in_1, iv in_2, iv in_3, iv in_4, iv in_5, iv in_10, rv ob_11, iv in_12, iv 2, iv 0, iv (in_3.toInt8.toInt32), .unset, .unset, .unset]) rfl) ?_
       refine oS (fun _ => XS.iloadN X15.here hx rfl (hb hby at_103) rfl) ?_
       show own_G p e below (T14.setTop (mkF m 104 #[iv in_1, iv in_2, iv in_3, iv in_4, iv in_5, iv in_10, rv ob_11, iv in_12, iv 2, iv 0, iv (in_3.toInt8.toInt32), .unset, .unset, .unset] [(.int in_4)])) _
       refine oS (fun _ => XT.i2b X15.here hx rfl (hb hby at_104) rfl) ?_
       refine oS (fun _ => XS.istore X15.here hx rfl (hb hby at_105) rfl (l' := #[iv in_1, iv in_2, iv in_3, iv in_4, iv in_5, iv in_10, rv ob_11, iv in_12, iv 2, iv 0, iv (in_3.toInt8.toInt32), iv (in_4.toInt8.toInt32), .unset, .unset]) rfl) ?_
       refine oS (fun _ => XS.iload X15.here hx rfl (hb hby at_107) rfl) ?_
       refine oS (fun _ => XS.ifYes X15.here hx rfl (pc0 := 109) (pc' := 120) rfl (hb hby at_109) rfl (XT.i0_ne_t (by decide)) (by decide) (by decide)) ?_
       show own_G p e below (T14.setTop (mkF m 120 #[iv in_1, iv in_2, iv in_3, iv in_4, iv in_5, iv in_10, rv ob_11, iv in_12, iv 2, iv 0, iv (in_3.toInt8.toInt32), iv (in_4.toInt8.toInt32), .unset, .unset] [])) _
       refine oS (fun _ => XS.iload X15.here hx rfl (hb hby at_120) rfl) ?_
       refine oS (fun _ => XS.iconst X15.here hx rfl (hb hby at_122) ) ?_
       refine oS (fun _ => XS.icmpYes X15.here hx rfl (pc0 := 123) (pc' := 139) rfl (hb hby at_123) rfl (XT.ii_ne_t (by decide)) (by decide) (by decide)) ?_
       show own_G p e below (T14.setTop (mkF m 139 #[iv in_1, iv in_2, iv in_3, iv in_4, iv in_5, iv in_10, rv ob_11, iv in_12, iv 2, iv 0, iv (in_3.toInt8.toInt32), iv (in_4.toInt8.toInt32), .unset, .unset] [])) _
       refine oS (fun _ => XS.iconst X15.here hx rfl (hb hby at_139) ) ?_
       obtain ⟨T216, h217, kk_225, X219, e220, E221, A222, B226, s223⟩ := own_newP X15 hx hZ (aty := .byte) (oW hw 4 rfl) e16 (nm := "[B") rfl (g := (mkF m 140 #[iv in_1, iv in_2, iv in_3, iv in_4, iv in_5, iv in_10, rv ob_11, iv in_12, iv 2, iv 0, iv (in_3.toInt8.toInt32), iv (in_4.toInt8.toInt32), .unset, .unset] [(.int 2)])) rfl (hb hby at_140) (n := 2) (rest := []) rfl (by decide) (cap := 2) (by decide) (by decide) (by decide) (by decide)
       obtain ⟨ob_227, g228⟩ : ∃ z, z = h0.size := ⟨_, rfl⟩
       rw [← g228] at A222 B226 s223
       have F229 : Arv Z h217 ob_227 kk_225 .byte 2 [(.int 0), (.int 0)] (.int 0) := own_newA A222 (by decide) rfl rfl
       have z230 := E221.1
       have y224 := F229.lt
       refine oS s223 ?_
       show own_G p e below (T216.setTop (mkF m 142 #[iv in_1, iv in_2, iv in_3, iv in_4, iv in_5, iv in_10, rv ob_11, iv in_12, iv 2, iv 0, iv (in_3.toInt8.toInt32), iv (in_4.toInt8.toInt32), .unset, .unset] [(.ref ob_227)])) _
       refine oS (fun _ => XS.dup X219.here hx rfl (hb hby at_142) rfl rfl) ?_
       refine oS (fun _ => XS.iconst X219.here hx rfl (hb hby at_143) ) ?_
       refine oS (fun _ => XS.iload X219.here hx rfl (hb hby at_144) rfl) ?_
       obtain ⟨T231, h232, X233, e234, W235, A236, s237⟩ := own_stB X219 hx hZ e220 F229 (x' := (in_3.toInt8.toInt32)) 0 (own_narB _) rfl (by decide) (by simp) (g := (mkF m 146 #[iv in_1, iv in_2, iv in_3, iv in_4, iv in_5, iv in_10, rv ob_11, iv in_12, iv 2, iv 0, iv (in_3.toInt8.toInt32), iv (in_4.toInt8.toInt32), .unset, .unset] [(.int (in_3.toInt8.toInt32)), (.int 0), (.ref ob_227), (.ref ob_227)])) rfl (rest := [(.ref ob_227)]) rfl (hb hby at_146)
       have N239 : n0 ≤ ob_227 := by omega
       have N238 := Fr.snoc X233 N0 N239
       have z240 := W235.size
       have F241 : Arv Z h232 ob_227 kk_225 .byte 2 [(.int (in_3.toInt8.toInt32)), (.int 0)] (.int 0) := A236
       refine oS s237 ?_
       show own_G p e below (T231.setTop (mkF m 147 #[iv in_1, iv in_2, iv in_3, iv in_4, iv in_5, iv in_10, rv ob_11, iv in_12, iv 2, iv 0, iv (in_3.toInt8.toInt32), iv (in_4.toInt8.toInt32), .unset, .unset] [(.ref ob_227)])) _
       refine oS (fun _ => XS.dup X233.here hx rfl (hb hby at_147) rfl rfl) ?_
       refine oS (fun _ => XS.iconst X233.here hx rfl (hb hby at_148) ) ?_
       refine oS (fun _ => XS.iload X233.here hx rfl (hb hby at_149) rfl) ?_
       obtain ⟨T242, h243, X244, e245, W246, A247, s248⟩ := own_stB X233 hx hZ e234 F241 (x' := (in_4.toInt8.toInt32)) 1 (own_narB _) rfl (by decide) (by simp) (g := (mkF m 151 #[iv in_1, iv in_2, iv in_3, iv in_4, iv in_5, iv in_10, rv ob_11, iv in_12, iv 2, iv 0, iv (in_3.toInt8.toInt32), iv (in_4.toInt8.toInt32), .unset, .unset] [(.int (in_4.toInt8.toInt32)), (.int 1), (.ref ob_227), (.ref ob_227)])) rfl (rest := [(.ref ob_227)]) rfl (hb hby at_151)
       have N249 := Fr.snoc X244 N238 N239
       have z250 := W246.size
       have F251 : Arv Z h243 ob_227 kk_225 .byte 2 [(.int (in_3.toInt8.toInt32)), (.int (in_4.toInt8.toInt32))] (.int 0) := A247
       refine oS s248 ?_
       show own_G p e below (T242.setTop (mkF m 152 #[iv in_1, iv in_2, iv in_3, iv in_4, iv in_5, iv in_10, rv ob_11, iv in_12, iv 2, iv 0, iv (in_3.toInt8.toInt32), iv (in_4.toInt8.toInt32), .unset, .unset] [(.ref ob_227)])) _
       refine oS (fun _ => XS.astore X244.here hx rfl (hb hby at_152) rfl rfl (l' := #[iv in_1, iv in_2, iv in_3, iv in_4, iv in_5, iv in_10, rv ob_11, iv in_12, iv 2, iv 0, iv (in_3.toInt8.toInt32), iv (in_4.toInt8.toInt32), rv ob_227, .unset]) rfl) ?_
       refine oS (fun _ => XS.iload X244.here hx rfl (hb hby at_154) rfl) ?_
       refine oS (fun _ => XS.ifNo X244.here hx rfl (hb hby at_156) rfl (XT.i0_le_f (by decide))) ?_
       show own_G p e below (T242.setTop (mkF m 159 #[iv in_1, iv in_2, iv in_3, iv in_4, iv in_5, iv in_10, rv ob_11, iv in_12, iv 2, iv 0, iv (in_3.toInt8.toInt32), iv (in_4.toInt8.toInt32), rv ob_227, .unset] [])) _
       refine oS (fun _ => XS.iload X244.here hx rfl (hb hby at_159) rfl) ?_
       refine oS (fun _ => XS.iload X244.here hx rfl (hb hby at_161) rfl) ?_
       by_cases b252 : (in_3.toInt8.toInt32) = in_12
       · skip
         refine oS (fun _ => XS.icmpNo X244.here hx rfl (hb hby at_163) rfl (XT.ii_ne_f b252)) ?_
         show own_G p e below (T242.setTop (mkF m 166 #[iv in_1, iv in_2, iv in_3, iv in_4, iv in_5, iv in_10, rv ob_11, iv in_12, iv 2, iv 0, iv (in_3.toInt8.toInt32), iv (in_4.toInt8.toInt32), rv ob_227, .unset] [])) _
         refine oS (fun _ => XS.iconst X244.here hx rfl (hb hby at_166) ) ?_
         refine oS (fun _ => XS.goto X244.here hx rfl (pc0 := 167) (pc' := 171) rfl (hb hby at_167) (by decide) (by decide)) ?_
         show own_G p e below (T242.setTop (mkF m 171 #[iv in_1, iv in_2, iv in_3, iv in_4, iv in_5, iv in_10, rv ob_11, iv in_12, iv 2, iv 0, iv (in_3.toInt8.toInt32), iv (in_4.toInt8.toInt32), rv ob_227, .unset] [(.int 1)])) _
         refine oS (fun _ => XS.istore X244.here hx rfl (hb hby at_171) rfl (l' := #[iv in_1, iv in_2, iv in_3, iv in_4, iv in_5, iv in_10, rv ob_11, iv in_12, iv 2, iv 0, iv (in_3.toInt8.toInt32), iv (in_4.toInt8.toInt32), rv ob_227, iv 1]) rfl) ?_
         refine oS (fun _ => XS.aload X244.here hx rfl (hb hby at_173) rfl rfl) ?_
         refine oS (fun _ => XS.aload X244.here hx rfl (hb hby at_175) rfl rfl) ?_
         have O261 : Old Z n0 h217 := O0.ext E221
         have O262 : Old Z n0 h232 := O261.wr W235 N239
         have O263 : Old Z n0 h243 := O262.wr W246 N239
         have Z264 : n0 ≤ h243.size := by omega
         have F273 : Exa Z h243 ob_11 "com/example/ombor/ombor/db/Keyspace" := Exa.ext O263.2 I17
         obtain ⟨T265, h266, v267, L268, X269, e270, q271, s272⟩ := own_callV X244 hx hZ hown e245 (y := (⟨"com/example/ombor/ombor/db/Keyspace", "holds", "([B)Z"⟩ : MethodName)) (z := (⟨"com/example/ombor/ombor/db/Keyspace", "holds", "([B)Z"⟩ : MethodName)) (C := "com/example/ombor/ombor/db/Keyspace") (b := ob_11) (oW hw 5 rfl) (oW hw 6 rfl) (notFace_of_selects (args := #[]) (mvT hZ (oW hw 8 rfl))) (oW hw 8 rfl) (oW hw 7 rfl) (oW hw 1 rfl) (oW hw 9 rfl) (by decide) F273 (W := 0) (own_rm6 l Z a0 hw [] ob_11 ob_227 kk_225 in_3 in_4 in_12 h243 n0 Z264 O263 F251 I18 b252) (by decide) (by decide) (by decide) (by decide) (g := (mkF m 177 #[iv in_1, iv in_2, iv in_3, iv in_4, iv in_5, iv in_10, rv ob_11, iv in_12, iv 2, iv 0, iv (in_3.toInt8.toInt32), iv (in_4.toInt8.toInt32), rv ob_227, iv 1] [(.ref ob_227), (.ref ob_11)])) rfl (by rw [hml]; rfl) (argsL := [(.ref ob_227)]) (rest := []) rfl (lenOf own_pd0 rfl) rfl (by show 2 * 0 + _ ≤ _; exact Nat.le_of_eq rfl) (hb hby at_177)
         refine oS s272 ?_
         obtain ⟨rfl, N274, K275⟩ := q271
         have N276 := Fr.app N249 N274
         have e277 := e270.trans K275
         show own_G p e below (T265.setTop (mkF m 180 #[iv in_1, iv in_2, iv in_3, iv in_4, iv in_5, iv in_10, rv ob_11, iv in_12, iv 2, iv 0, iv (in_3.toInt8.toInt32), iv (in_4.toInt8.toInt32), rv ob_227, iv 1] [(.int 1)])) _
         refine oS (fun _ => XS.iload X269.here hx rfl (hb hby at_180) rfl) ?_
         refine oS (fun _ => XS.icmpNo X269.here hx rfl (hb hby at_182) rfl (XT.ii_ne_f (by decide))) ?_
         show own_G p e below (T265.setTop (mkF m 185 #[iv in_1, iv in_2, iv in_3, iv in_4, iv in_5, iv in_10, rv ob_11, iv in_12, iv 2, iv 0, iv (in_3.toInt8.toInt32), iv (in_4.toInt8.toInt32), rv ob_227, iv 1] [])) _
         refine oS (fun _ => XS.iconst X269.here hx rfl (hb hby at_185) ) ?_
         refine oS (fun _ => XS.goto X269.here hx rfl (pc0 := 186) (pc' := 190) rfl (hb hby at_186) (by decide) (by decide)) ?_
         show own_G p e below (T265.setTop (mkF m 190 #[iv in_1, iv in_2, iv in_3, iv in_4, iv in_5, iv in_10, rv ob_11, iv in_12, iv 2, iv 0, iv (in_3.toInt8.toInt32), iv (in_4.toInt8.toInt32), rv ob_227, iv 1] [(.int 1)])) _
         have K278 : Keep h0 h243 [] := ((((Keep.refl h0 []).ext E221).wr W235 (Or.inr (by omega))).wr W246 (Or.inr (by omega)))
         exact own_retN X269 hx (t := .boolean) Bd.notSynchronized Bd.returns (by simp) (hb hby at_190) (by decide) e277 (by decide) (by decide) (⟨rfl, N276⟩)
       · skip
         refine oS (fun _ => XS.icmpYes X244.here hx rfl (pc0 := 163) (pc' := 170) rfl (hb hby at_163) rfl (XT.ii_ne_t b252) (by decide) (by decide)) ?_
         show own_G p e below (T242.setTop (mkF m 170 #[iv in_1, iv in_2, iv in_3, iv in_4, iv in_5, iv in_10, rv ob_11, iv in_12, iv 2, iv 0, iv (in_3.toInt8.toInt32), iv (in_4.toInt8.toInt32), rv ob_227, .unset] [])) _
         refine oS (fun _ => XS.iconst X244.here hx rfl (hb hby at_170) ) ?_
         refine oS (fun _ => XS.istore X244.here hx rfl (hb hby at_171) rfl (l' := #[iv in_1, iv in_2, iv in_3, iv in_4, iv in_5, iv in_10, rv ob_11, iv in_12, iv 2, iv 0, iv (in_3.toInt8.toInt32), iv (in_4.toInt8.toInt32), rv ob_227, iv 0]) rfl) ?_
         refine oS (fun _ => XS.aload X244.here hx rfl (hb hby at_173) rfl rfl) ?_
         refine oS (fun _ => XS.aload X244.here hx rfl (hb hby at_175) rfl rfl) ?_
         show own_G p e below (T242.setTop (mkF m 177 #[iv in_1, iv in_2, iv in_3, iv in_4, iv in_5, iv in_10, rv ob_11, iv in_12, iv 2, iv 0, iv (in_3.toInt8.toInt32), iv (in_4.toInt8.toInt32), rv ob_227, iv 0] [(.ref ob_227), (.ref ob_11)])) _
         have O287 : Old Z n0 h217 := O0.ext E221
         have O288 : Old Z n0 h232 := O287.wr W235 N239
         have O289 : Old Z n0 h243 := O288.wr W246 N239
         have Z290 : n0 ≤ h243.size := by omega
         have F299 : Exa Z h243 ob_11 "com/example/ombor/ombor/db/Keyspace" := Exa.ext O289.2 I17
         obtain ⟨T291, h292, v293, L294, X295, e296, q297, s298⟩ := own_callV X244 hx hZ hown e245 (y := (⟨"com/example/ombor/ombor/db/Keyspace", "holds", "([B)Z"⟩ : MethodName)) (z := (⟨"com/example/ombor/ombor/db/Keyspace", "holds", "([B)Z"⟩ : MethodName)) (C := "com/example/ombor/ombor/db/Keyspace") (b := ob_11) (oW hw 5 rfl) (oW hw 6 rfl) (notFace_of_selects (args := #[]) (mvT hZ (oW hw 8 rfl))) (oW hw 8 rfl) (oW hw 7 rfl) (oW hw 1 rfl) (oW hw 9 rfl) (by decide) F299 (W := 0) (own_rm7 l Z a0 hw [] ob_11 ob_227 kk_225 in_3 in_4 in_12 h243 n0 Z290 O289 F251 I18 b252) (by decide) (by decide) (by decide) (by decide) (g := (mkF m 177 #[iv in_1, iv in_2, iv in_3, iv in_4, iv in_5, iv in_10, rv ob_11, iv in_12, iv 2, iv 0, iv (in_3.toInt8.toInt32), iv (in_4.toInt8.toInt32), rv ob_227, iv 0] [(.ref ob_227), (.ref ob_11)])) rfl (by rw [hml]; rfl) (argsL := [(.ref ob_227)]) (rest := []) rfl (lenOf own_pd0 rfl) rfl (by show 2 * 0 + _ ≤ _; exact Nat.le_of_eq rfl) (hb hby at_177)
         refine oS s298 ?_
         obtain ⟨rfl, N300, K301⟩ := q297
         have N302 := Fr.app N249 N300
         have e303 := e296.trans K301
         show own_G p e below (T291.setTop (mkF m 180 #[iv in_1, iv in_2, iv in_3, iv in_4, iv in_5, iv in_10, rv ob_11, iv in_12, iv 2, iv 0, iv (in_3.toInt8.toInt32), iv (in_4.toInt8.toInt32), rv ob_227, iv 0] [(.int 0)])) _
         refine oS (fun _ => XS.iload X295.here hx rfl (hb hby at_180) rfl) ?_
         refine oS (fun _ => XS.icmpNo X295.here hx rfl (hb hby at_182) rfl (XT.ii_ne_f (by decide))) ?_
         show own_G p e below (T291.setTop (mkF m 185 #[iv in_1, iv in_2, iv in_3, iv in_4, iv in_5, iv in_10, rv ob_11, iv in_12, iv 2, iv 0, iv (in_3.toInt8.toInt32), iv (in_4.toInt8.toInt32), rv ob_227, iv 0] [])) _
         refine oS (fun _ => XS.iconst X295.here hx rfl (hb hby at_185) ) ?_
         refine oS (fun _ => XS.goto X295.here hx rfl (pc0 := 186) (pc' := 190) rfl (hb hby at_186) (by decide) (by decide)) ?_
         show own_G p e below (T291.setTop (mkF m 190 #[iv in_1, iv in_2, iv in_3, iv in_4, iv in_5, iv in_10, rv ob_11, iv in_12, iv 2, iv 0, iv (in_3.toInt8.toInt32), iv (in_4.toInt8.toInt32), rv ob_227, iv 0] [(.int 1)])) _
         have K304 : Keep h0 h243 [] := ((((Keep.refl h0 []).ext E221).wr W235 (Or.inr (by omega))).wr W246 (Or.inr (by omega)))
         exact own_retN X295 hx (t := .boolean) Bd.notSynchronized Bd.returns (by simp) (hb hby at_190) (by decide) e303 (by decide) (by decide) (⟨rfl, N302⟩)
     · skip
       refine oS (fun _ => XS.ifNo X15.here hx rfl (hb hby at_79) rfl (XT.i0_eq_f b215)) ?_
       show own_G p e below (T14.setTop (mkF m 82 #[iv in_1, iv in_2, iv in_3, iv in_4, iv in_5, iv in_10, rv ob_11, iv in_12, iv 2, .unset, .unset, .unset, .unset, .unset] [])) _
       refine oS (fun _ => XS.iconst X15.here hx rfl (hb hby at_82) ) ?_
       refine oS (fun _ => XS.goto X15.here hx rfl (pc0 := 83) (pc' := 87) rfl (hb hby at_83) (by decide) (by decide)) ?_
       show own_G p e below (T14.setTop (mkF m 87 #[iv in_1, iv in_2, iv in_3, iv in_4, iv in_5, iv in_10, rv ob_11, iv in_12, iv 2, .unset, .unset, .unset, .unset, .unset] [(.int 1)])) _
       refine oS (fun _ => XS.istore X15.here hx rfl (hb hby at_87) rfl (l' := #[iv in_1, iv in_2, iv in_3, iv in_4, iv in_5, iv in_10, rv ob_11, iv in_12, iv 2, iv 1, .unset, .unset, .unset, .unset]) rfl) ?_
       refine oS (fun _ => XS.iload X15.here hx rfl (hb hby at_89) rfl) ?_
       refine oS (fun _ => XS.ifNo X15.here hx rfl (hb hby at_91) rfl (XT.i0_eq_f (by decide))) ?_
       show own_G p e below (T14.setTop (mkF m 94 #[iv in_1, iv in_2, iv in_3, iv in_4, iv in_5, iv in_10, rv ob_11, iv in_12, iv 2, iv 1, .unset, .unset, .unset, .unset] [])) _
       refine oS (fun _ => XS.iload X15.here hx rfl (hb hby at_94) rfl) ?_
       refine oS (fun _ => XS.goto X15.here hx rfl (pc0 := 96) (pc' := 101) rfl (hb hby at_96) (by decide) (by decide)) ?_
       show own_G p e below (T14.setTop (mkF m 101 #[iv in_1, iv in_2, iv in_3, iv in_4, iv in_5, iv in_10, rv ob_11, iv in_12, iv 2, iv 1, .unset, .unset, .unset, .unset] [(.int in_12)])) _
       refine oS (fun _ => XS.istore X15.here hx rfl (hb hby at_101) rfl (l' := #[iv in_1, iv in_2, iv in_3, iv in_4, iv in_5, iv in_10, rv ob_11, iv in_12, iv 2, iv 1, iv in_12, .unset, .unset, .unset]) rfl) ?_
       refine oS (fun _ => XS.iloadN X15.here hx rfl (hb hby at_103) rfl) ?_
       refine oS (fun _ => XT.i2b X15.here hx rfl (hb hby at_104) rfl) ?_
       refine oS (fun _ => XS.istore X15.here hx rfl (hb hby at_105) rfl (l' := #[iv in_1, iv in_2, iv in_3, iv in_4, iv in_5, iv in_10, rv ob_11, iv in_12, iv 2, iv 1, iv in_12, iv (in_4.toInt8.toInt32), .unset, .unset]) rfl) ?_
       show own_G p e below (T14.setTop (mkF m 107 #[iv in_1, iv in_2, iv in_3, iv in_4, iv in_5, iv in_10, rv ob_11, iv in_12, iv 2, iv 1, iv in_12, iv (in_4.toInt8.toInt32), .unset, .unset] [])) _
       refine oS (fun _ => XS.iload X15.here hx rfl (hb hby at_107) rfl) ?_
       refine oS (fun _ => XS.ifYes X15.here hx rfl (pc0 := 109) (pc' := 120) rfl (hb hby at_109) rfl (XT.i0_ne_t (by decide)) (by decide) (by decide)) ?_
       show own_G p e below (T14.setTop (mkF m 120 #[iv in_1, iv in_2, iv in_3, iv in_4, iv in_5, iv in_10, rv ob_11, iv in_12, iv 2, iv 1, iv in_12, iv (in_4.toInt8.toInt32), .unset, .unset] [])) _
       refine oS (fun _ => XS.iload X15.here hx rfl (hb hby at_120) rfl) ?_
       refine oS (fun _ => XS.iconst X15.here hx rfl (hb hby at_122) ) ?_
       refine oS (fun _ => XS.icmpYes X15.here hx rfl (pc0 := 123) (pc' := 139) rfl (hb hby at_123) rfl (XT.ii_ne_t (by decide)) (by decide) (by decide)) ?_
       show own_G p e below (T14.setTop (mkF m 139 #[iv in_1, iv in_2, iv in_3, iv in_4, iv in_5, iv in_10, rv ob_11, iv in_12, iv 2, iv 1, iv in_12, iv (in_4.toInt8.toInt32), .unset, .unset] [])) _
       refine oS (fun _ => XS.iconst X15.here hx rfl (hb hby at_139) ) ?_
       obtain ⟨T305, h306, kk_314, X308, e309, E310, A311, B315, s312⟩ := own_newP X15 hx hZ (aty := .byte) (oW hw 4 rfl) e16 (nm := "[B") rfl (g := (mkF m 140 #[iv in_1, iv in_2, iv in_3, iv in_4, iv in_5, iv in_10, rv ob_11, iv in_12, iv 2, iv 1, iv in_12, iv (in_4.toInt8.toInt32), .unset, .unset] [(.int 2)])) rfl (hb hby at_140) (n := 2) (rest := []) rfl (by decide) (cap := 2) (by decide) (by decide) (by decide) (by decide)
       obtain ⟨ob_316, g317⟩ : ∃ z, z = h0.size := ⟨_, rfl⟩
       rw [← g317] at A311 B315 s312
       have F318 : Arv Z h306 ob_316 kk_314 .byte 2 [(.int 0), (.int 0)] (.int 0) := own_newA A311 (by decide) rfl rfl
       have z319 := E310.1
       have y313 := F318.lt
       refine oS s312 ?_
       show own_G p e below (T305.setTop (mkF m 142 #[iv in_1, iv in_2, iv in_3, iv in_4, iv in_5, iv in_10, rv ob_11, iv in_12, iv 2, iv 1, iv in_12, iv (in_4.toInt8.toInt32), .unset, .unset] [(.ref ob_316)])) _
       refine oS (fun _ => XS.dup X308.here hx rfl (hb hby at_142) rfl rfl) ?_
       refine oS (fun _ => XS.iconst X308.here hx rfl (hb hby at_143) ) ?_
       refine oS (fun _ => XS.iload X308.here hx rfl (hb hby at_144) rfl) ?_
       obtain ⟨T320, h321, X322, e323, W324, A325, s326⟩ := own_stB X308 hx hZ e309 F318 (x' := in_12) 0 I19 rfl (by decide) (by simp) (g := (mkF m 146 #[iv in_1, iv in_2, iv in_3, iv in_4, iv in_5, iv in_10, rv ob_11, iv in_12, iv 2, iv 1, iv in_12, iv (in_4.toInt8.toInt32), .unset, .unset] [(.int in_12), (.int 0), (.ref ob_316), (.ref ob_316)])) rfl (rest := [(.ref ob_316)]) rfl (hb hby at_146)
       have N328 : n0 ≤ ob_316 := by omega
       have N327 := Fr.snoc X322 N0 N328
       have z329 := W324.size
       have F330 : Arv Z h321 ob_316 kk_314 .byte 2 [(.int in_12), (.int 0)] (.int 0) := A325
       refine oS s326 ?_
       show own_G p e below (T320.setTop (mkF m 147 #[iv in_1, iv in_2, iv in_3, iv in_4, iv in_5, iv in_10, rv ob_11, iv in_12, iv 2, iv 1, iv in_12, iv (in_4.toInt8.toInt32), .unset, .unset] [(.ref ob_316)])) _
       refine oS (fun _ => XS.dup X322.here hx rfl (hb hby at_147) rfl rfl) ?_
       refine oS (fun _ => XS.iconst X322.here hx rfl (hb hby at_148) ) ?_
       refine oS (fun _ => XS.iload X322.here hx rfl (hb hby at_149) rfl) ?_
       obtain ⟨T331, h332, X333, e334, W335, A336, s337⟩ := own_stB X322 hx hZ e323 F330 (x' := (in_4.toInt8.toInt32)) 1 (own_narB _) rfl (by decide) (by simp) (g := (mkF m 151 #[iv in_1, iv in_2, iv in_3, iv in_4, iv in_5, iv in_10, rv ob_11, iv in_12, iv 2, iv 1, iv in_12, iv (in_4.toInt8.toInt32), .unset, .unset] [(.int (in_4.toInt8.toInt32)), (.int 1), (.ref ob_316), (.ref ob_316)])) rfl (rest := [(.ref ob_316)]) rfl (hb hby at_151)
       have N338 := Fr.snoc X333 N327 N328
       have z339 := W335.size
       have F340 : Arv Z h332 ob_316 kk_314 .byte 2 [(.int in_12), (.int (in_4.toInt8.toInt32))] (.int 0) := A336
       refine oS s337 ?_
       show own_G p e below (T331.setTop (mkF m 152 #[iv in_1, iv in_2, iv in_3, iv in_4, iv in_5, iv in_10, rv ob_11, iv in_12, iv 2, iv 1, iv in_12, iv (in_4.toInt8.toInt32), .unset, .unset] [(.ref ob_316)])) _
       refine oS (fun _ => XS.astore X333.here hx rfl (hb hby at_152) rfl rfl (l' := #[iv in_1, iv in_2, iv in_3, iv in_4, iv in_5, iv in_10, rv ob_11, iv in_12, iv 2, iv 1, iv in_12, iv (in_4.toInt8.toInt32), rv ob_316, .unset]) rfl) ?_
       refine oS (fun _ => XS.iload X333.here hx rfl (hb hby at_154) rfl) ?_
       refine oS (fun _ => XS.ifNo X333.here hx rfl (hb hby at_156) rfl (XT.i0_le_f (by decide))) ?_
       show own_G p e below (T331.setTop (mkF m 159 #[iv in_1, iv in_2, iv in_3, iv in_4, iv in_5, iv in_10, rv ob_11, iv in_12, iv 2, iv 1, iv in_12, iv (in_4.toInt8.toInt32), rv ob_316, .unset] [])) _
       refine oS (fun _ => XS.iload X333.here hx rfl (hb hby at_159) rfl) ?_
       refine oS (fun _ => XS.iload X333.here hx rfl (hb hby at_161) rfl) ?_
       refine oS (fun _ => XS.icmpNo X333.here hx rfl (hb hby at_163) rfl (XT.ii_ne_f rfl)) ?_
       show own_G p e below (T331.setTop (mkF m 166 #[iv in_1, iv in_2, iv in_3, iv in_4, iv in_5, iv in_10, rv ob_11, iv in_12, iv 2, iv 1, iv in_12, iv (in_4.toInt8.toInt32), rv ob_316, .unset] [])) _
       refine oS (fun _ => XS.iconst X333.here hx rfl (hb hby at_166) ) ?_
       refine oS (fun _ => XS.goto X333.here hx rfl (pc0 := 167) (pc' := 171) rfl (hb hby at_167) (by decide) (by decide)) ?_
       show own_G p e below (T331.setTop (mkF m 171 #[iv in_1, iv in_2, iv in_3, iv in_4, iv in_5, iv in_10, rv ob_11, iv in_12, iv 2, iv 1, iv in_12, iv (in_4.toInt8.toInt32), rv ob_316, .unset] [(.int 1)])) _
       refine oS (fun _ => XS.istore X333.here hx rfl (hb hby at_171) rfl (l' := #[iv in_1, iv in_2, iv in_3, iv in_4, iv in_5, iv in_10, rv ob_11, iv in_12, iv 2, iv 1, iv in_12, iv (in_4.toInt8.toInt32), rv ob_316, iv 1]) rfl) ?_
       refine oS (fun _ => XS.aload X333.here hx rfl (hb hby at_173) rfl rfl) ?_
       refine oS (fun _ => XS.aload X333.here hx rfl (hb hby at_175) rfl rfl) ?_
       have O348 : Old Z n0 h306 := O0.ext E310
       have O349 : Old Z n0 h321 := O348.wr W324 N328
       have O350 : Old Z n0 h332 := O349.wr W335 N328
       have Z351 : n0 ≤ h332.size := by omega
       have F360 : Exa Z h332 ob_11 "com/example/ombor/ombor/db/Keyspace" := Exa.ext O350.2 I17
       obtain ⟨T352, h353, v354, L355, X356, e357, q358, s359⟩ := own_callV X333 hx hZ hown e334 (y := (⟨"com/example/ombor/ombor/db/Keyspace", "holds", "([B)Z"⟩ : MethodName)) (z := (⟨"com/example/ombor/ombor/db/Keyspace", "holds", "([B)Z"⟩ : MethodName)) (C := "com/example/ombor/ombor/db/Keyspace") (b := ob_11) (oW hw 5 rfl) (oW hw 6 rfl) (notFace_of_selects (args := #[]) (mvT hZ (oW hw 8 rfl))) (oW hw 8 rfl) (oW hw 7 rfl) (oW hw 1 rfl) (oW hw 9 rfl) (by decide) F360 (W := 0) (own_rm8 l Z a0 hw [] ob_11 ob_316 kk_314 in_12 in_4 h332 n0 Z351 O350 F340 I18) (by decide) (by decide) (by decide) (by decide) (g := (mkF m 177 #[iv in_1, iv in_2, iv in_3, iv in_4, iv in_5, iv in_10, rv ob_11, iv in_12, iv 2, iv 1, iv in_12, iv (in_4.toInt8.toInt32), rv ob_316, iv 1] [(.ref ob_316), (.ref ob_11)])) rfl (by rw [hml]; rfl) (argsL := [(.ref ob_316)]) (rest := []) rfl (lenOf own_pd0 rfl) rfl (by show 2 * 0 + _ ≤ _; exact Nat.le_of_eq rfl) (hb hby at_177)
       refine oS s359 ?_
       obtain ⟨rfl, N361, K362⟩ := q358
       have N363 := Fr.app N338 N361
       have e364 := e357.trans K362
       show own_G p e below (T352.setTop (mkF m 180 #[iv in_1, iv in_2, iv in_3, iv in_4, iv in_5, iv in_10, rv ob_11, iv in_12, iv 2, iv 1, iv in_12, iv (in_4.toInt8.toInt32), rv ob_316, iv 1] [(.int 1)])) _
       refine oS (fun _ => XS.iload X356.here hx rfl (hb hby at_180) rfl) ?_
       refine oS (fun _ => XS.icmpNo X356.here hx rfl (hb hby at_182) rfl (XT.ii_ne_f (by decide))) ?_
       show own_G p e below (T352.setTop (mkF m 185 #[iv in_1, iv in_2, iv in_3, iv in_4, iv in_5, iv in_10, rv ob_11, iv in_12, iv 2, iv 1, iv in_12, iv (in_4.toInt8.toInt32), rv ob_316, iv 1] [])) _
       refine oS (fun _ => XS.iconst X356.here hx rfl (hb hby at_185) ) ?_
       refine oS (fun _ => XS.goto X356.here hx rfl (pc0 := 186) (pc' := 190) rfl (hb hby at_186) (by decide) (by decide)) ?_
       show own_G p e below (T352.setTop (mkF m 190 #[iv in_1, iv in_2, iv in_3, iv in_4, iv in_5, iv in_10, rv ob_11, iv in_12, iv 2, iv 1, iv in_12, iv (in_4.toInt8.toInt32), rv ob_316, iv 1] [(.int 1)])) _
       have K365 : Keep h0 h332 [] := ((((Keep.refl h0 []).ext E310).wr W324 (Or.inr (by omega))).wr W335 (Or.inr (by omega)))
       exact own_retN X356 hx (t := .boolean) Bd.notSynchronized Bd.returns (by simp) (hb hby at_190) (by decide) e364 (by decide) (by decide) (⟨rfl, N363⟩)
  refine oS (fun _ => XS.iloadN X0.here hx rfl (hb hby at_0) rfl) ?_
  refine oS (fun _ => XS.iconst X0.here hx rfl (hb hby at_1) ) ?_
  refine oS (fun _ => XS.iand X0.here hx rfl (hb hby at_2) rfl) ?_
  show own_G p e below (s₁.setTop (mkF m 3 #[iv in_1, iv in_2, iv in_3, iv in_4, iv in_5, .unset, .unset, .unset, .unset, .unset, .unset, .unset, .unset, .unset] [(.int (in_1 &&& 3))])) _
  rcases own_in4 (own_and3 in_1) with q366 | q367 | q368 | q369
  · skip
    refine own_cast (g' := (mkF m 3 #[iv in_1, iv in_2, iv in_3, iv in_4, iv in_5, .unset, .unset, .unset, .unset, .unset, .unset, .unset, .unset, .unset] [(.int 0)])) (by rw [q366]) ?_
    show own_G p e below (s₁.setTop (mkF m 3 #[iv in_1, iv in_2, iv in_3, iv in_4, iv in_5, .unset, .unset, .unset, .unset, .unset, .unset, .unset, .unset, .unset] [(.int 0)])) _
    refine oS (fun _ => XS.istore X0.here hx rfl (hb hby at_3) rfl (l' := #[iv in_1, iv in_2, iv in_3, iv in_4, iv in_5, iv 0, .unset, .unset, .unset, .unset, .unset, .unset, .unset, .unset]) rfl) ?_
    refine oS (fun _ => XS.iload X0.here hx rfl (hb hby at_5) rfl) ?_
    refine oS (fun _ => XS.ifNo X0.here hx rfl (hb hby at_7) rfl (XT.i0_ne_f (by decide))) ?_
    show own_G p e below (s₁.setTop (mkF m 10 #[iv in_1, iv in_2, iv in_3, iv in_4, iv in_5, iv 0, .unset, .unset, .unset, .unset, .unset, .unset, .unset, .unset] [])) _
    have F371 : Sta Z h0 "com/example/ombor/ombor/db/Keyspace" "PRODUCTS" "Lcom/example/ombor/ombor/db/Keyspace;" (.ref ob_6) := Sta.ext O0.2 I370
    obtain ⟨T372, X373, e374, s375⟩ := getS X0 hx hZ hown (host := "") (oW hw 0 rfl) Via.refl e0 F371 (g := (mkF m 10 #[iv in_1, iv in_2, iv in_3, iv in_4, iv in_5, iv 0, .unset, .unset, .unset, .unset, .unset, .unset, .unset, .unset] [])) rfl (hb hby at_10)
    refine oS s375 ?_
    show own_G p e below (T372.setTop (mkF m 13 #[iv in_1, iv in_2, iv in_3, iv in_4, iv in_5, iv 0, .unset, .unset, .unset, .unset, .unset, .unset, .unset, .unset] [(.ref ob_6)])) _
    refine oS (fun _ => XS.astore X373.here hx rfl (hb hby at_13) rfl rfl (l' := #[iv in_1, iv in_2, iv in_3, iv in_4, iv in_5, iv 0, rv ob_6, .unset, .unset, .unset, .unset, .unset, .unset, .unset]) rfl) ?_
    refine oS (fun _ => XS.bipush X373.here hx rfl (hb hby at_15) ) ?_
    refine oS (fun _ => XS.istore X373.here hx rfl (hb hby at_17) rfl (l' := #[iv in_1, iv in_2, iv in_3, iv in_4, iv in_5, iv 0, rv ob_6, iv 112, .unset, .unset, .unset, .unset, .unset, .unset]) rfl) ?_
    refine oS (fun _ => XS.goto X373.here hx rfl (pc0 := 19) (pc' := 67) rfl (hb hby at_19) (by decide) (by decide)) ?_
    show own_G p e below (T372.setTop (mkF m 67 #[iv in_1, iv in_2, iv in_3, iv in_4, iv in_5, iv 0, rv ob_6, iv 112, .unset, .unset, .unset, .unset, .unset, .unset] [])) _
    exact J13 T372 X373 e374 0 ob_6 112 I376 I377 (by decide)
  · skip
    refine own_cast (g' := (mkF m 3 #[iv in_1, iv in_2, iv in_3, iv in_4, iv in_5, .unset, .unset, .unset, .unset, .unset, .unset, .unset, .unset, .unset] [(.int 1)])) (by rw [q367]) ?_
    show own_G p e below (s₁.setTop (mkF m 3 #[iv in_1, iv in_2, iv in_3, iv in_4, iv in_5, .unset, .unset, .unset, .unset, .unset, .unset, .unset, .unset, .unset] [(.int 1)])) _
    refine oS (fun _ => XS.istore X0.here hx rfl (hb hby at_3) rfl (l' := #[iv in_1, iv in_2, iv in_3, iv in_4, iv in_5, iv 1, .unset, .unset, .unset, .unset, .unset, .unset, .unset, .unset]) rfl) ?_
    refine oS (fun _ => XS.iload X0.here hx rfl (hb hby at_5) rfl) ?_
    refine oS (fun _ => XS.ifYes X0.here hx rfl (pc0 := 7) (pc' := 22) rfl (hb hby at_7) rfl (XT.i0_ne_t (by decide)) (by decide) (by decide)) ?_
    show own_G p e below (s₁.setTop (mkF m 22 #[iv in_1, iv in_2, iv in_3, iv in_4, iv in_5, iv 1, .unset, .unset, .unset, .unset, .unset, .unset, .unset, .unset] [])) _
    refine oS (fun _ => XS.iload X0.here hx rfl (hb hby at_22) rfl) ?_
    refine oS (fun _ => XS.iconst X0.here hx rfl (hb hby at_24) ) ?_
    refine oS (fun _ => XS.icmpNo X0.here hx rfl (hb hby at_25) rfl (XT.ii_ne_f (by decide))) ?_
    show own_G p e below (s₁.setTop (mkF m 28 #[iv in_1, iv in_2, iv in_3, iv in_4, iv in_5, iv 1, .unset, .unset, .unset, .unset, .unset, .unset, .unset, .unset] [])) _
    have F379 : Sta Z h0 "com/example/ombor/ombor/db/Keyspace" "OPERATIONS" "Lcom/example/ombor/ombor/db/Keyspace;" (.ref ob_9) := Sta.ext O0.2 I378
    obtain ⟨T380, X381, e382, s383⟩ := getS X0 hx hZ hown (host := "") (oW hw 16 rfl) Via.refl e0 F379 (g := (mkF m 28 #[iv in_1, iv in_2, iv in_3, iv in_4, iv in_5, iv 1, .unset, .unset, .unset, .unset, .unset, .unset, .unset, .unset] [])) rfl (hb hby at_28)
    refine oS s383 ?_
    show own_G p e below (T380.setTop (mkF m 31 #[iv in_1, iv in_2, iv in_3, iv in_4, iv in_5, iv 1, .unset, .unset, .unset, .unset, .unset, .unset, .unset, .unset] [(.ref ob_9)])) _
    refine oS (fun _ => XS.astore X381.here hx rfl (hb hby at_31) rfl rfl (l' := #[iv in_1, iv in_2, iv in_3, iv in_4, iv in_5, iv 1, rv ob_9, .unset, .unset, .unset, .unset, .unset, .unset, .unset]) rfl) ?_
    refine oS (fun _ => XS.bipush X381.here hx rfl (hb hby at_33) ) ?_
    refine oS (fun _ => XS.istore X381.here hx rfl (hb hby at_35) rfl (l' := #[iv in_1, iv in_2, iv in_3, iv in_4, iv in_5, iv 1, rv ob_9, iv 79, .unset, .unset, .unset, .unset, .unset, .unset]) rfl) ?_
    refine oS (fun _ => XS.goto X381.here hx rfl (pc0 := 37) (pc' := 67) rfl (hb hby at_37) (by decide) (by decide)) ?_
    show own_G p e below (T380.setTop (mkF m 67 #[iv in_1, iv in_2, iv in_3, iv in_4, iv in_5, iv 1, rv ob_9, iv 79, .unset, .unset, .unset, .unset, .unset, .unset] [])) _
    exact J13 T380 X381 e382 1 ob_9 79 I384 I385 (by decide)
  · skip
    refine own_cast (g' := (mkF m 3 #[iv in_1, iv in_2, iv in_3, iv in_4, iv in_5, .unset, .unset, .unset, .unset, .unset, .unset, .unset, .unset, .unset] [(.int 2)])) (by rw [q368]) ?_
    show own_G p e below (s₁.setTop (mkF m 3 #[iv in_1, iv in_2, iv in_3, iv in_4, iv in_5, .unset, .unset, .unset, .unset, .unset, .unset, .unset, .unset, .unset] [(.int 2)])) _
    refine oS (fun _ => XS.istore X0.here hx rfl (hb hby at_3) rfl (l' := #[iv in_1, iv in_2, iv in_3, iv in_4, iv in_5, iv 2, .unset, .unset, .unset, .unset, .unset, .unset, .unset, .unset]) rfl) ?_
    refine oS (fun _ => XS.iload X0.here hx rfl (hb hby at_5) rfl) ?_
    refine oS (fun _ => XS.ifYes X0.here hx rfl (pc0 := 7) (pc' := 22) rfl (hb hby at_7) rfl (XT.i0_ne_t (by decide)) (by decide) (by decide)) ?_
    show own_G p e below (s₁.setTop (mkF m 22 #[iv in_1, iv in_2, iv in_3, iv in_4, iv in_5, iv 2, .unset, .unset, .unset, .unset, .unset, .unset, .unset, .unset] [])) _
    refine oS (fun _ => XS.iload X0.here hx rfl (hb hby at_22) rfl) ?_
    refine oS (fun _ => XS.iconst X0.here hx rfl (hb hby at_24) ) ?_
    refine oS (fun _ => XS.icmpYes X0.here hx rfl (pc0 := 25) (pc' := 40) rfl (hb hby at_25) rfl (XT.ii_ne_t (by decide)) (by decide) (by decide)) ?_
    show own_G p e below (s₁.setTop (mkF m 40 #[iv in_1, iv in_2, iv in_3, iv in_4, iv in_5, iv 2, .unset, .unset, .unset, .unset, .unset, .unset, .unset, .unset] [])) _
    refine oS (fun _ => XS.iload X0.here hx rfl (hb hby at_40) rfl) ?_
    refine oS (fun _ => XS.iconst X0.here hx rfl (hb hby at_42) ) ?_
    refine oS (fun _ => XS.icmpNo X0.here hx rfl (hb hby at_43) rfl (XT.ii_ne_f (by decide))) ?_
    show own_G p e below (s₁.setTop (mkF m 46 #[iv in_1, iv in_2, iv in_3, iv in_4, iv in_5, iv 2, .unset, .unset, .unset, .unset, .unset, .unset, .unset, .unset] [])) _
    have F387 : Sta Z h0 "com/example/ombor/ombor/db/Keyspace" "OPERATIONS_WITHOUT_RECEIPT" "Lcom/example/ombor/ombor/db/Keyspace;" (.ref ob_8) := Sta.ext O0.2 I386
    obtain ⟨T388, X389, e390, s391⟩ := getS X0 hx hZ hown (host := "") (oW hw 14 rfl) Via.refl e0 F387 (g := (mkF m 46 #[iv in_1, iv in_2, iv in_3, iv in_4, iv in_5, iv 2, .unset, .unset, .unset, .unset, .unset, .unset, .unset, .unset] [])) rfl (hb hby at_46)
    refine oS s391 ?_
    show own_G p e below (T388.setTop (mkF m 49 #[iv in_1, iv in_2, iv in_3, iv in_4, iv in_5, iv 2, .unset, .unset, .unset, .unset, .unset, .unset, .unset, .unset] [(.ref ob_8)])) _
    refine oS (fun _ => XS.astore X389.here hx rfl (hb hby at_49) rfl rfl (l' := #[iv in_1, iv in_2, iv in_3, iv in_4, iv in_5, iv 2, rv ob_8, .unset, .unset, .unset, .unset, .unset, .unset, .unset]) rfl) ?_
    refine oS (fun _ => XS.bipush X389.here hx rfl (hb hby at_51) ) ?_
    refine oS (fun _ => XS.istore X389.here hx rfl (hb hby at_53) rfl (l' := #[iv in_1, iv in_2, iv in_3, iv in_4, iv in_5, iv 2, rv ob_8, iv 111, .unset, .unset, .unset, .unset, .unset, .unset]) rfl) ?_
    refine oS (fun _ => XS.goto X389.here hx rfl (pc0 := 55) (pc' := 67) rfl (hb hby at_55) (by decide) (by decide)) ?_
    show own_G p e below (T388.setTop (mkF m 67 #[iv in_1, iv in_2, iv in_3, iv in_4, iv in_5, iv 2, rv ob_8, iv 111, .unset, .unset, .unset, .unset, .unset, .unset] [])) _
    exact J13 T388 X389 e390 2 ob_8 111 I392 I393 (by decide)
  · skip
    refine own_cast (g' := (mkF m 3 #[iv in_1, iv in_2, iv in_3, iv in_4, iv in_5, .unset, .unset, .unset, .unset, .unset, .unset, .unset, .unset, .unset] [(.int 3)])) (by rw [q369]) ?_
    show own_G p e below (s₁.setTop (mkF m 3 #[iv in_1, iv in_2, iv in_3, iv in_4, iv in_5, .unset, .unset, .unset, .unset, .unset, .unset, .unset, .unset, .unset] [(.int 3)])) _
    refine oS (fun _ => XS.istore X0.here hx rfl (hb hby at_3) rfl (l' := #[iv in_1, iv in_2, iv in_3, iv in_4, iv in_5, iv 3, .unset, .unset, .unset, .unset, .unset, .unset, .unset, .unset]) rfl) ?_
    refine oS (fun _ => XS.iload X0.here hx rfl (hb hby at_5) rfl) ?_
    refine oS (fun _ => XS.ifYes X0.here hx rfl (pc0 := 7) (pc' := 22) rfl (hb hby at_7) rfl (XT.i0_ne_t (by decide)) (by decide) (by decide)) ?_
    show own_G p e below (s₁.setTop (mkF m 22 #[iv in_1, iv in_2, iv in_3, iv in_4, iv in_5, iv 3, .unset, .unset, .unset, .unset, .unset, .unset, .unset, .unset] [])) _
    refine oS (fun _ => XS.iload X0.here hx rfl (hb hby at_22) rfl) ?_
    refine oS (fun _ => XS.iconst X0.here hx rfl (hb hby at_24) ) ?_
    refine oS (fun _ => XS.icmpYes X0.here hx rfl (pc0 := 25) (pc' := 40) rfl (hb hby at_25) rfl (XT.ii_ne_t (by decide)) (by decide) (by decide)) ?_
    show own_G p e below (s₁.setTop (mkF m 40 #[iv in_1, iv in_2, iv in_3, iv in_4, iv in_5, iv 3, .unset, .unset, .unset, .unset, .unset, .unset, .unset, .unset] [])) _
    refine oS (fun _ => XS.iload X0.here hx rfl (hb hby at_40) rfl) ?_
    refine oS (fun _ => XS.iconst X0.here hx rfl (hb hby at_42) ) ?_
    refine oS (fun _ => XS.icmpYes X0.here hx rfl (pc0 := 43) (pc' := 58) rfl (hb hby at_43) rfl (XT.ii_ne_t (by decide)) (by decide) (by decide)) ?_
    show own_G p e below (s₁.setTop (mkF m 58 #[iv in_1, iv in_2, iv in_3, iv in_4, iv in_5, iv 3, .unset, .unset, .unset, .unset, .unset, .unset, .unset, .unset] [])) _
    have F395 : Sta Z h0 "com/example/ombor/ombor/db/Keyspace" "ENTITIES" "Lcom/example/ombor/ombor/db/Keyspace;" (.ref ob_7) := Sta.ext O0.2 I394
    obtain ⟨T396, X397, e398, s399⟩ := getS X0 hx hZ hown (host := "") (oW hw 10 rfl) Via.refl e0 F395 (g := (mkF m 58 #[iv in_1, iv in_2, iv in_3, iv in_4, iv in_5, iv 3, .unset, .unset, .unset, .unset, .unset, .unset, .unset, .unset] [])) rfl (hb hby at_58)
    refine oS s399 ?_
    show own_G p e below (T396.setTop (mkF m 61 #[iv in_1, iv in_2, iv in_3, iv in_4, iv in_5, iv 3, .unset, .unset, .unset, .unset, .unset, .unset, .unset, .unset] [(.ref ob_7)])) _
    refine oS (fun _ => XS.astore X397.here hx rfl (hb hby at_61) rfl rfl (l' := #[iv in_1, iv in_2, iv in_3, iv in_4, iv in_5, iv 3, rv ob_7, .unset, .unset, .unset, .unset, .unset, .unset, .unset]) rfl) ?_
    refine oS (fun _ => XS.bipush X397.here hx rfl (hb hby at_63) ) ?_
    refine oS (fun _ => XS.istore X397.here hx rfl (hb hby at_65) rfl (l' := #[iv in_1, iv in_2, iv in_3, iv in_4, iv in_5, iv 3, rv ob_7, iv 101, .unset, .unset, .unset, .unset, .unset, .unset]) rfl) ?_
    exact J13 T396 X397 e398 3 ob_7 101 I400 I401 (by decide)
set_option maxRecDepth 65536 in
set_option maxHeartbeats 40000000 in
theorem comes_1 {Post : Tables → Env → Array Value → State → Outcome → State → Prop} (hpost : ∀ tb e args s v u, (limb_1_1.after args s (.returned v) u = true ∧ limb_1_2.after args s (.returned v) u = true ∧ True) → FrameEnd s (.returned v) u (Jvm.fieldLocs frame_1_writes args s ++ Jvm.arrayLocs frame_1_arrays args s ++ Jvm.staticLocs frame_1_statics s) 16 128 → Post tb e args s (.returned v) u) :
    ArmFor flags0 classFile x code maxLocals ret World_1 tables_1 room_1 Calls_1 rest_1 Pre_1 Post := by
  intro l hfl _ _ p e ha hc hk s m args below hf hA hF happ hP
  obtain ⟨hcalls, hrest, hpre⟩ := hP
  obtain ⟨-, -, -, hnamed, -, -, -, hat⟩ := (Spec.applies_iff hf).mp happ
  obtain ⟨hg, hn⟩ := and_e (Cond.before_iff.mp (show (Jvm.Cond.and given_1 narrow_1).before args s = true from hpre))
  obtain ⟨g0, gg0⟩ := and_e hg
  obtain ⟨w0, w1, w2, w3, w4, rfl⟩ : ∃ w0 w1 w2 w3 w4 : Value, args = #[w0, w1, w2, w3, w4] := by
    have hs : args.size = 5 := by simpa [Cond.value, given_1] using g0
    obtain ⟨L⟩ := args
    match L, hs with
    | [w0, w1, w2, w3, w4], _ => exact ⟨w0, w1, w2, w3, w4, rfl⟩
  have hw := fun d (hd : d ∈ tables_1) => atoms_spec (ws := Jvm.Cond.code x code maxLocals ret :: tables_1) hat d (List.mem_cons_of_mem _ hd)
  have hfit : Fit s := fun {y c} hc i hi => by
    obtain ⟨ha, rfl⟩ := Array.getElem?_eq_some_iff.mp hc
    have q := List.all_eq_true.mp ((Array.all_eq_true_iff_forall_mem.mp hF) _ (Array.getElem_mem ha)) i (List.mem_range.mpr hi)
    simpa [Array.getElem?_eq_getElem hi] using q
  obtain ⟨ga0, gg1⟩ := and_e gg0
  obtain ⟨in_1, ea0⟩ := is_v ga0
  obtain rfl : w0 = (.int in_1) := Option.some.inj ea0
  obtain ⟨ga1, gg2⟩ := and_e gg1
  obtain ⟨in_2, ea1⟩ := is_v ga1
  obtain rfl : w1 = (.int in_2) := Option.some.inj ea1
  obtain ⟨ga2, gg3⟩ := and_e gg2
  obtain ⟨in_3, ea2⟩ := is_v ga2
  obtain rfl : w2 = (.int in_3) := Option.some.inj ea2
  obtain ⟨ga3, gg4⟩ := and_e gg3
  obtain ⟨in_4, ea3⟩ := is_v ga3
  obtain rfl : w3 = (.int in_4) := Option.some.inj ea3
  obtain ⟨in_5, ea4⟩ := is_v gg4
  obtain rfl : w4 = (.int in_5) := Option.some.inj ea4
  obtain ⟨c0, r0⟩ := and_e hn
  obtain ⟨c1, r1⟩ := and_e r0
  obtain ⟨c2, r2⟩ := and_e r1
  obtain ⟨c3, r3⟩ := and_e r2
  obtain ⟨c4, r4⟩ := and_e r3
  obtain ⟨c5, r5⟩ := and_e r4
  obtain ⟨c6, c7⟩ := and_e r5
  obtain ⟨ob_6, ev_ob_6⟩ := exa_v c0
  obtain ⟨ob_7, ev_ob_7⟩ := exa_v c1
  obtain ⟨ob_8, ev_ob_8⟩ := exa_v c4
  obtain ⟨ob_9, ev_ob_9⟩ := exa_v c6
  obtain ⟨n, o, h1, h2, h3, _, L, rfl, ⟨rfl, N⟩, hq⟩ := own_rm1 l s _ hw tables_1 in_1 in_2 in_3 in_4 in_5 ob_6 ob_9 ob_8 ob_7 s.heap s.heap.size (Nat.le_refl _) (Old.start s) (Sta.start ev_ob_6 (Or.inr ⟨(oW hw 1 rfl), (oW hw 2 rfl)⟩)) (Exa.start ev_ob_6 c0) (own_fv ev_ob_6 (Term.int_eval 112) c3) (Sta.start ev_ob_9 (Or.inr ⟨(oW hw 1 rfl), (oW hw 17 rfl)⟩)) (Exa.start ev_ob_9 c6) (own_fv ev_ob_9 (Term.int_eval 79) c7) (Sta.start ev_ob_8 (Or.inr ⟨(oW hw 1 rfl), (oW hw 15 rfl)⟩)) (Exa.start ev_ob_8 c4) (own_fv ev_ob_8 (Term.int_eval 111) c5) (Sta.start ev_ob_7 (Or.inr ⟨(oW hw 1 rfl), (oW hw 11 rfl)⟩)) (Exa.start ev_ob_7 c1) (own_fv ev_ob_7 (Term.int_eval 101) c2) p e ha hc hk s m _ below hf ((Spec.applies_iff_loose hf).mp happ).1 ⟨rfl, State.Warmed39.refl s, rfl⟩ trivial
  refine ⟨n, _, h1, h2, h3, hpost _ _ _ _ _ _ ⟨Cond.after_iff.mpr rfl, Cond.after_iff.mpr (eq_i res_at (Term.int_eval (1)) rfl), trivial⟩ ⟨hq.1, hq.2.1, (hq.2.2.sift fun y hy => Or.inr (N y hy)).mono (by decide) (by decide)⟩⟩
theorem main_1_1 : Claimed_1_1 := comes_1 fun _ _ _ _ _ _ h hF => ⟨h.1, hF⟩
theorem main_1_2 : Claimed_1_2 := comes_1 fun _ _ _ _ _ _ h hF => ⟨h.2.1, hF⟩
end Jvm.Pilot.@@N@@
namespace Jvm.Pilot.@@N@@
open Jvm Jvm.ClassFile Sem Op Lib Jvm.Free Jvm.Stand Jvm.Pilot.@@N@@.Jvm.D
/-! MADE BY PROGRAM (witnessworld.py) out of the Statement's table words and the real class files: 12 classes; the members and pool entries that the words name. The judged class is class 1, her method 1. -/
namespace start1
open Jvm.ClassFile
def u (s : String) : CpInfo := .utf8 (stringToUtf16 s)
/-- a pool by its gaps: so many unusable entries, then the entry; so many at the end -/
def gap : Nat → List CpInfo → List CpInfo
  | 0, r => r
  | n + 1, r => .unusable :: gap n r
def poolList (es : List (Nat × CpInfo)) (last : Nat) : List CpInfo := es.foldr (fun e r => gap e.1 (e.2 :: r)) (gap last [])
def pool (es : List (Nat × CpInfo)) (last : Nat) : Array CpInfo := ⟨poolList es last⟩
def fileOf (pool : Array CpInfo) (this : Nat) (attrs : Array Attribute := #[]) (ms : Array MethodInfo := #[]) (fl : Nat := 33) (sup : Nat := 0) (ifs : Array Nat := #[]) (fds : Array FieldInfo := #[]) : ClassFile where
  minorVersion := 0
  majorVersion := 65
  constantPool := pool
  accessFlags := fl
  thisClass := this
  superClass := sup
  interfaces := ifs
  fields := fds
  methods := ms
  attributes := attrs
def plain (name : String) (sup : Option ClassId) : Class where
  name := name
  kind := .ordinary
  loader := none
  accessFlags := 33
  super := sup
  interfaces := #[]
  cf := none
  fields := #[]
  methods := #[]
  instanceTypes := #[]
  staticTypes := #[]
  resolved := #[]
  callSites := []
  init := .initialized
  statics := none
  mirror := none

def pool0 : Array CpInfo := pool [(5, u "<init>"), (0, u "()V"), (1, .class_ 10), (1, u "java/lang/Object")] 113

def k0m0 : Method := { name := "<init>", desc := "()V", sig := { parameters := [], returnType := none }, accessFlags := 1, code := none }
/-- java/lang/Object -/
def k0 : Class := { plain "java/lang/Object" none with
  accessFlags := 33
  interfaces := #[]
  cf := some (fileOf pool0 8 #[] #[{ accessFlags := 1, nameIndex := 5, descriptorIndex := 6, attributes := #[] }] 33 0 #[] #[])
  fields := #[]
  methods := #[k0m0]
  instanceTypes := #[]
  staticTypes := #[]
  resolved := Array.replicate 124 none
  statics := none }

def pool1 : Array CpInfo := pool [(2, .class_ 4), (1, u "java/lang/Object"), (0, u "<init>"), (0, u "()V"), (0, .fieldref 8 9), (0, .class_ 10), (0, .nameAndType 11 12), (0, u "com/example/ombor/ombor/db/Keyspace"), (0, u "PRODUCTS"), (0, u "Lcom/example/ombor/ombor/db/Keyspace;"), (0, .fieldref 8 14), (0, .nameAndType 15 12), (0, u "OPERATIONS"), (0, .fieldref 8 17), (0, .nameAndType 18 12), (0, u "OPERATIONS_WITHOUT_RECEIPT"), (0, .fieldref 8 20), (0, .nameAndType 21 12), (0, u "ENTITIES"), (0, .integer 2147483647), (0, .methodref 8 24), (0, .nameAndType 25 26), (0, u "holds"), (0, u "([B)Z"), (0, .class_ 28), (0, u "com/example/ombor/ombor/db/KeyspaceHoldsPinLaw"), (2, u "law"), (0, u "(IIIII)Z")] 5

def k1m0 : Method := { name := "<init>", desc := "()V", sig := { parameters := [], returnType := none }, accessFlags := 1, code := none }
def k1c1 : Code := { maxStack := 4, maxLocals := 14, code := code, exceptionTable := #[], attributes := #[] }
def k1m1 : Method := { name := "law", desc := "(IIIII)Z", sig := { parameters := [.int, .int, .int, .int, .int], returnType := some .boolean }, accessFlags := 9, code := some k1c1 }
/-- com/example/ombor/ombor/db/KeyspaceHoldsPinLaw -/
def k1 : Class := { plain "com/example/ombor/ombor/db/KeyspaceHoldsPinLaw" (some 0) with
  accessFlags := 49
  interfaces := #[]
  cf := some (fileOf pool1 27 #[] #[{ accessFlags := 1, nameIndex := 5, descriptorIndex := 6, attributes := #[] }, { accessFlags := 9, nameIndex := 31, descriptorIndex := 32, attributes := #[] }] 49 2 #[] #[])
  fields := #[]
  methods := #[k1m0, k1m1]
  instanceTypes := #[]
  staticTypes := #[]
  resolved := Array.replicate 38 none
  statics := none }

def pool2 : Array CpInfo := pool [(1, .class_ 2), (0, u "java/lang/constant/Constable"), (0, .class_ 4), (0, u "java/lang/Object")] 6

/-- java/lang/constant/Constable -/
def k2 : Class := { plain "java/lang/constant/Constable" (some 0) with
  accessFlags := 1537
  interfaces := #[]
  cf := some (fileOf pool2 1 #[] #[] 1537 3 #[] #[])
  fields := #[]
  methods := #[]
  instanceTypes := #[]
  staticTypes := #[]
  resolved := Array.replicate 11 none
  statics := none }

def pool3 : Array CpInfo := pool [(1, .class_ 2), (0, u "java/lang/Comparable"), (0, .class_ 4), (0, u "java/lang/Object")] 7

/-- java/lang/Comparable -/
def k3 : Class := { plain "java/lang/Comparable" (some 0) with
  accessFlags := 1537
  interfaces := #[]
  cf := some (fileOf pool3 1 #[] #[] 1537 3 #[] #[])
  fields := #[]
  methods := #[]
  instanceTypes := #[]
  staticTypes := #[]
  resolved := Array.replicate 12 none
  statics := none }

def pool4 : Array CpInfo := pool [(1, .class_ 2), (0, u "java/io/Serializable"), (0, .class_ 4), (0, u "java/lang/Object")] 2

/-- java/io/Serializable -/
def k4 : Class := { plain "java/io/Serializable" (some 0) with
  accessFlags := 1537
  interfaces := #[]
  cf := some (fileOf pool4 1 #[] #[] 1537 3 #[] #[])
  fields := #[]
  methods := #[]
  instanceTypes := #[]
  staticTypes := #[]
  resolved := Array.replicate 7 none
  statics := none }

def pool5 : Array CpInfo := pool [(2, .class_ 4), (1, u "java/lang/Enum"), (0, u "name"), (0, u "Ljava/lang/String;"), (2, u "ordinal"), (0, u "I"), (1, .class_ 14), (1, u "java/lang/Object"), (4, u "hash"), (86, .class_ 108), (1, u "java/lang/Enum$EnumDesc"), (2, .class_ 112), (0, u "java/lang/constant/Constable"), (0, .class_ 114), (0, u "java/lang/Comparable"), (0, .class_ 116), (0, u "java/io/Serializable")] 87

/-- java/lang/Enum -/
def k5 : Class := { plain "java/lang/Enum" (some 0) with
  accessFlags := 1057
  interfaces := #[2, 3, 4]
  cf := some (fileOf pool5 2 #[.nestMembers #[106]] #[] 1057 12 #[111, 113, 115] #[{ accessFlags := 18, nameIndex := 5, descriptorIndex := 6, attributes := #[] }, { accessFlags := 18, nameIndex := 9, descriptorIndex := 10, attributes := #[] }, { accessFlags := 2, nameIndex := 19, descriptorIndex := 10, attributes := #[] }])
  fields := #[{ name := "name", type := (.object "java/lang/String"), accessFlags := 18, slot := 0, constantValue := 0 }, { name := "ordinal", type := .int, accessFlags := 18, slot := 1, constantValue := 0 }, { name := "hash", type := .int, accessFlags := 2, slot := 2, constantValue := 0 }]
  methods := #[]
  instanceTypes := #[(.object "java/lang/String"), .int, .int]
  staticTypes := #[]
  resolved := Array.replicate 204 none
  statics := none }

def pool6 : Array CpInfo := pool [(1, .class_ 2), (0, u "com/example/ombor/ombor/db/Keyspace"), (2, u "PRODUCTS"), (0, u "Lcom/example/ombor/ombor/db/Keyspace;"), (2, u "OPERATIONS"), (2, u "OPERATIONS_WITHOUT_RECEIPT"), (2, u "ENTITIES"), (2, u "$VALUES"), (0, u "[Lcom/example/ombor/ombor/db/Keyspace;"), (6, .class_ 28), (1, u "java/lang/Enum"), (6, .fieldref 1 36), (0, .nameAndType 37 38), (0, u "prefix"), (0, u "B"), (43, u "holds"), (0, u "([B)Z")] 8

def k6c0 : Code := { maxStack := 2, maxLocals := 2, code := prog_11_method_6_code, exceptionTable := #[], attributes := #[] }
def k6m0 : Method := { name := "holds", desc := "([B)Z", sig := { parameters := [(.array .byte)], returnType := some .boolean }, accessFlags := 0, code := some k6c0 }
/-- com/example/ombor/ombor/db/Keyspace -/
def k6 : Class := { plain "com/example/ombor/ombor/db/Keyspace" (some 5) with
  accessFlags := 16433
  interfaces := #[]
  cf := some (fileOf pool6 1 #[] #[{ accessFlags := 0, nameIndex := 82, descriptorIndex := 83, attributes := #[] }] 16433 26 #[] #[{ accessFlags := 16409, nameIndex := 5, descriptorIndex := 6, attributes := #[] }, { accessFlags := 16409, nameIndex := 9, descriptorIndex := 6, attributes := #[] }, { accessFlags := 16409, nameIndex := 12, descriptorIndex := 6, attributes := #[] }, { accessFlags := 16409, nameIndex := 15, descriptorIndex := 6, attributes := #[] }, { accessFlags := 18, nameIndex := 37, descriptorIndex := 38, attributes := #[] }, { accessFlags := 4122, nameIndex := 18, descriptorIndex := 19, attributes := #[] }])
  fields := #[{ name := "PRODUCTS", type := (.object "com/example/ombor/ombor/db/Keyspace"), accessFlags := 16409, slot := 0, constantValue := 0 }, { name := "OPERATIONS", type := (.object "com/example/ombor/ombor/db/Keyspace"), accessFlags := 16409, slot := 1, constantValue := 0 }, { name := "OPERATIONS_WITHOUT_RECEIPT", type := (.object "com/example/ombor/ombor/db/Keyspace"), accessFlags := 16409, slot := 2, constantValue := 0 }, { name := "ENTITIES", type := (.object "com/example/ombor/ombor/db/Keyspace"), accessFlags := 16409, slot := 3, constantValue := 0 }, { name := "prefix", type := .byte, accessFlags := 18, slot := 3, constantValue := 0 }, { name := "$VALUES", type := (.array (.object "com/example/ombor/ombor/db/Keyspace")), accessFlags := 4122, slot := 4, constantValue := 0 }]
  methods := #[k6m0]
  instanceTypes := #[(.object "java/lang/String"), .int, .int, .byte]
  staticTypes := #[(.object "com/example/ombor/ombor/db/Keyspace"), (.object "com/example/ombor/ombor/db/Keyspace"), (.object "com/example/ombor/ombor/db/Keyspace"), (.object "com/example/ombor/ombor/db/Keyspace"), (.array (.object "com/example/ombor/ombor/db/Keyspace"))]
  resolved := Array.replicate 92 none
  statics := some 0 }

def pool7 : Array CpInfo := pool [(1, u "java/lang/Cloneable"), (0, .class_ 1), (0, u "java/lang/Object"), (0, .class_ 3)] 3

/-- java/lang/Cloneable -/
def k7 : Class := { plain "java/lang/Cloneable" (some 0) with
  accessFlags := 1537
  interfaces := #[]
  cf := some (fileOf pool7 2 #[] #[] 1537 4 #[] #[])
  fields := #[]
  methods := #[]
  instanceTypes := #[]
  staticTypes := #[]
  resolved := Array.replicate 8 none
  statics := none }

/-- the primitive byte -/
def k8 : Class := { plain "byte" none with kind := .primitive 'B', accessFlags := 0x411 }
/-- [B -/
def k9 : Class := { plain "[B" (some 0) with kind := .array 8 .byte, interfaces := #[7, 4], accessFlags := 1041 }

/-- the primitive int -/
def k10 : Class := { plain "int" none with kind := .primitive 'I', accessFlags := 0x411 }
/-- [I -/
def k11 : Class := { plain "[I" (some 0) with kind := .array 10 .int, interfaces := #[7, 4], accessFlags := 1041 }

def heap : Heap := #[{ cls := 6, slots := #[.ref 1, .ref 4, .ref 3, .ref 2, .null], vm := .statics 6 },
  { cls := 6, slots := #[.null, .int 0, .int 0, .int 112], vm := .none },
  { cls := 6, slots := #[.null, .int 0, .int 0, .int 101], vm := .none },
  { cls := 6, slots := #[.null, .int 0, .int 0, .int 111], vm := .none },
  { cls := 6, slots := #[.null, .int 0, .int 0, .int 79], vm := .none }]
def classes : Array Class := #[k0, k1, k2, k3, k4, k5, k6, k7, k8, k9, k10, k11]
def interned : List (Array UInt16 × Addr) := []
def slotsUsed : Nat := 21
def theMethod : MethodId := ⟨1, 1⟩
def args0 : Array Value := #[.int 5, .int 1, .int 2, .int 3, .int 4]
def aboutOver (below : List Frame) : State where
  vm := { classes := classes, interned := interned.toArray }
  heap := heap
  slotsUsed := slotsUsed
  threads := #[{ frames := .invoking theMethod args0 :: below }]
def below0 : List Frame := [.native { method := ⟨0, 0⟩, args := #[] }]
def about1 : State := aboutOver below0
def p0 : Program := .bare "" "" ""
def e0 : Env := launch0.env 0 0 0
theorem w_frames : about1.frames = Frame.invoking theMethod args0 :: below0 := rfl
set_option maxRecDepth 65536 in
theorem w_args : argsFit about1.vm theMethod args0 = true := by decide +kernel
set_option maxRecDepth 65536 in
theorem w_heap : heapFits about1 = true := by decide +kernel
set_option maxRecDepth 65536 in
theorem w_runnable : about1.curStatus? = some .runnable := by decide +kernel
set_option maxRecDepth 65536 in
theorem w_alone : about1.alone = true := by decide +kernel
set_option maxRecDepth 65536 in
theorem w_named : about1.methodNamed? x = some theMethod := by decide +kernel
set_option maxRecDepth 65536 in
theorem w_hears : about1.hears theMethod below0 = true := by decide +kernel
set_option maxRecDepth 65536 in
theorem w_ripe : about1.ripe theMethod args0 below0 = true := by decide +kernel
theorem w_running : about1.status = .running := rfl
set_option maxRecDepth 65536 in
theorem w_room : about1.hasRoom e0.platform room_1 = true :=
  launch0.hasRoom_least _ room_1 (by decide +kernel) (by decide +kernel) (by decide +kernel) (by decide +kernel) (by decide +kernel) (by decide +kernel)
theorem allAtoms_all (ts : List Jvm.Cond) (a : Array Jvm.Value) (st : Jvm.State) : (allAtoms ts).before a st = ts.all (fun c => c.before a st) := by
  induction ts with
  | nil => rfl
  | cons c t ih =>
    show (Jvm.Cond.and c (allAtoms t)).before a st = _
    rw [Jvm.Cond.before_and, ih, List.all_cons]
def words1 : List Jvm.Cond := Jvm.Cond.code x code maxLocals ret :: tables_1
/-- a 'code' word, met by the world's own term for the bytes: nothing is compared byte by byte -/
theorem code_word {y : MethodName} {bytes : ByteArray} {mx : Nat} {rt : Option FieldType} {a : Array Value} {s : State} {m : MethodId} {meth : Method} {c : Code} (h1 : s.methodNamed? y = some m) (h2 : s.vm.method? m = some meth) (h3 : meth.code = some c) (h4 : c.code = bytes)
    (h5 : (c.maxLocals == mx && c.exceptionTable.isEmpty && decide (c.maxStack ≤ mostOperands) && decide (meth.sig.returnType = rt) && !meth.locks && decide (parseMethodDescriptor y.desc = some meth.sig)) = true) : (Jvm.Cond.code y bytes mx rt).before a s = true := by
  simp only [Bool.and_eq_true, beq_iff_eq, Bool.not_eq_true', decide_eq_true_eq] at h5
  obtain ⟨⟨⟨⟨⟨g1, g2⟩, g3⟩, g4⟩, g5⟩, g6⟩ := h5
  simp [Cond.before, Cond.holds, Cond.value, h1, h2, h3, h4, g1, g2, g3, g4, g5, g6]
def isCode : Jvm.Cond → Bool
  | .code _ _ _ _ => true
  | _ => false
theorem all_split {L : List Jvm.Cond} {P : Jvm.Cond → Bool} (h1 : L.all (fun c => isCode c || P c) = true) (h2 : ∀ c ∈ L.filter isCode, P c = true) : L.all P = true := by
  refine List.all_eq_true.mpr fun c hc => ?_
  have h := List.all_eq_true.mp h1 c hc
  rcases Bool.eq_false_or_eq_true (isCode c) with hi | hi
  · exact h2 c (List.mem_filter.mpr ⟨hc, hi⟩)
  · simpa [hi] using h
set_option maxRecDepth 65536 in
theorem w_c0 : (Jvm.Cond.code x code maxLocals ret).before args0 about1 = true := code_word (m := ⟨1, 1⟩) (meth := k1m1) (c := k1c1) (by decide +kernel) rfl rfl rfl (by decide +kernel)
set_option maxRecDepth 65536 in
theorem w_c1 : (Jvm.Cond.code ({ cls := "com/example/ombor/ombor/db/Keyspace", name := "holds", desc := "([B)Z" } : Jvm.MethodName) prog_11_method_6_code (2 : Nat) (Option.some Jvm.ClassFile.FieldType.boolean)).before args0 about1 = true := code_word (m := ⟨6, 0⟩) (meth := k6m0) (c := k6c0) (by decide +kernel) rfl rfl rfl (by decide +kernel)
def codes1 : List Jvm.Cond := [Jvm.Cond.code x code maxLocals ret, Jvm.Cond.code ({ cls := "com/example/ombor/ombor/db/Keyspace", name := "holds", desc := "([B)Z" } : Jvm.MethodName) prog_11_method_6_code (2 : Nat) (Option.some Jvm.ClassFile.FieldType.boolean)]
set_option maxRecDepth 65536 in
theorem codes_eq : words1.filter isCode = codes1 := rfl
theorem w_codes : ∀ c ∈ words1.filter isCode, c.before args0 about1 = true := by
  rw [codes_eq]
  intro c hc
  simp only [codes1, List.mem_cons, List.not_mem_nil, or_false] at hc
  rcases hc with rfl | rfl
  · exact w_c0
  · exact w_c1
set_option maxRecDepth 65536 in
theorem w_t1 : words1.all (fun c => isCode c || c.before args0 about1) = true := by decide +kernel
theorem w_tables : (allAtoms (Jvm.Cond.code x code maxLocals ret :: tables_1)).before args0 about1 = true := by
  rw [allAtoms_all]
  show words1.all (fun c => c.before args0 about1) = true
  refine all_split ?_ w_codes
  rw [w_t1]
set_option maxRecDepth 65536 in
theorem w_case : (Jvm.Cond.and given_1 narrow_1).before args0 about1 = true := by decide +kernel
theorem w_applies : (headSpec (Jvm.Cond.code x code maxLocals ret :: tables_1) room_1).applies x e0.platform about1 = true :=
  (Spec.applies_iff w_frames).mpr ⟨w_running, w_runnable, w_alone, w_named, w_hears, w_ripe, w_room, w_tables⟩
theorem atStart : AtStart classFile x code maxLocals ret World_1 tables_1 room_1 Calls_1 rest_1 Pre_1 launch0 p0 e0 about1 theMethod args0 below0 :=
  ⟨lists_1, trivial, launch0.admits_env _ _ _, launch0.least_env, fairChoices_fair.cas, fairChoices_fair.clock, w_frames, w_args, w_heap, w_applies, trivial, trivial, w_case⟩
end start1
theorem witness_1 : WitnessClaimed_1 := ⟨start1.p0, start1.e0, start1.about1, start1.theMethod, start1.args0, start1.below0, start1.atStart⟩
end Jvm.Pilot.@@N@@
