import JvmDerived
import JvmDerived.Pilot.@@N@@Statement
import JvmDerived.Pilot.@@N@@Code
set_option linter.unusedVariables false
set_option linter.unusedSimpArgs false
@@BLOCK:NumsL.lean.txt@@
namespace Jvm.Pilot.@@N@@
open Jvm Jvm.ClassFile Sem Op Lib Jvm.Free Jvm.Stand Jvm.LawKit Jvm.RoadKit Bundle Jvm.Pilot.@@N@@.Jvm.D
section Own
variable {p : Program} {l : Launch} {e : Env} {R : Room} {s : State} {m : MethodId} {args : Array Value} {below : List Frame} {meth : Method} {c : Code} {T : State} {locs : List Loc} {cells slots : Nat} {Z : State} {a0 : Array Value} {h : Heap}
/-- a walk that goes forward: from S the run comes to an end of which P holds -/
def own_G (p : Program) (e : Env) (below : List Frame) (S : State) (P : Outcome → State → Prop) : Prop :=
  ∃ s₂ o, Steps p.tables e below S s₂ ∧ s₂.status = .running ∧ Ended s₂ below o ∧ P o s₂
/-- what a body leaves -/
def own_P (s : State) (Q : Option Value → Heap → List Loc → Prop) (kc ks : Nat) (o : Outcome) (U : State) : Prop := ∃ v L, o = .returned v ∧ Q v U.heap L ∧ FrameEnd s o U L kc ks
theorem oS {S S' : State} {P : Outcome → State → Prop} (k : ∀ t, Steps p.tables e below S' t → Steps p.tables e below S t) (h : own_G p e below S' P) : own_G p e below S P := by
  obtain ⟨s2, o, h1, h2⟩ := h; exact ⟨s2, o, k _ h1, h2⟩
theorem oW {Z : State} {a0 : Array Value} (hw : ∀ d ∈ tables_1, d.before a0 Z = true) (i : Nat) {d : Jvm.Cond} (q : tables_1[i]? = some d) : d.before a0 Z = true := hw _ (List.mem_of_getElem? q)
theorem own_cast {g g' : JFrame} {P : Outcome → State → Prop} (q : g = g') (k : own_G p e below (T.setTop g') P) : own_G p e below (T.setTop g) P := q ▸ k
theorem own_leave (X : Stand p l e R s m args below meth c T locs cells slots) {g : JFrame} {v : Option Value} {Q : Option Value → Heap → List Loc → Prop} {kc ks : Nat} (hlocks : meth.locks = false) (hv : meth.sig.returnType = none → v = none)
    (k : ∀ fs, (∀ (f : JFrame) (acts : List Action), f.method = m → f.locked = none → f.entered = [] → (doReturn e (T.setTop f) acts v).1 = T.setFrames fs) → Steps p.tables e below (T.setTop g) (T.setFrames fs))
    (eT : T.heap = h) (hc : cells ≤ kc) (hs : slots ≤ ks) (hq : Q v h locs) : own_G p e below (T.setTop g) (own_P s Q kc ks) := by
  obtain ⟨fs, hr, hrun, hended, hW, hsame⟩ := X.leave (v := v) hv hlocks
  exact ⟨_, _, k fs hr, hrun, hended, _, _, rfl, by show Q v T.heap locs; rw [eT]; exact hq, ⟨_, rfl⟩, hW, hsame.mono hc hs⟩
theorem own_retN (X : Stand p l e R s m args below meth c T locs cells slots) (hx : p.tables.exec = Jvm.exec) {pc : Nat} {Ls : Array Slot} {z : Int32} {t : FieldType} {rest : List Value} {Q : Option Value → Heap → List Loc → Prop} {kc ks : Nat} (hlocks : meth.locks = false) (hret : meth.sig.returnType = some t) (ht : t = .boolean ∨ t = .byte ∨ t = .char ∨ t = .short)
    (hd : decode c.code pc = .ok (.ireturn, 1)) (hn : nar t z = z) (eT : T.heap = h) (hc : cells ≤ kc) (hs : slots ≤ ks) (hq : Q (some (.int z)) h locs) : own_G p e below (T.setTop (mkF m pc Ls (.int z :: rest))) (own_P s Q kc ks) :=
  own_leave X (v := some (.int z)) hlocks (fun q => by rw [hret] at q; cases q) (fun fs hl => retN X hx hret ht hd (by rw [hn]; exact hl)) eT hc hs hq
theorem own_retI (X : Stand p l e R s m args below meth c T locs cells slots) (hx : p.tables.exec = Jvm.exec) {pc : Nat} {Ls : Array Slot} {z : Int32} {rest : List Value} {Q : Option Value → Heap → List Loc → Prop} {kc ks : Nat} (hlocks : meth.locks = false) (hret : meth.sig.returnType = some .int)
    (hd : decode c.code pc = .ok (.ireturn, 1)) (eT : T.heap = h) (hc : cells ≤ kc) (hs : slots ≤ ks) (hq : Q (some (.int z)) h locs) : own_G p e below (T.setTop (mkF m pc Ls (.int z :: rest))) (own_P s Q kc ks) :=
  own_leave X (v := some (.int z)) hlocks (fun q => by rw [hret] at q; cases q) (fun fs hl => retOut X hx hret rfl (Or.inl ⟨rfl, Or.inl rfl, _, rfl⟩) hd hl) eT hc hs hq
theorem own_retL (X : Stand p l e R s m args below meth c T locs cells slots) (hx : p.tables.exec = Jvm.exec) {pc : Nat} {Ls : Array Slot} {z : Int64} {rest : List Value} {Q : Option Value → Heap → List Loc → Prop} {kc ks : Nat} (hlocks : meth.locks = false) (hret : meth.sig.returnType = some .long)
    (hd : decode c.code pc = .ok (.lreturn, 1)) (eT : T.heap = h) (hc : cells ≤ kc) (hs : slots ≤ ks) (hq : Q (some (.long z)) h locs) : own_G p e below (T.setTop (mkF m pc Ls (.long z :: rest))) (own_P s Q kc ks) :=
  own_leave X (v := some (.long z)) hlocks (fun q => by rw [hret] at q; cases q) (fun fs hl => retOut X hx hret rfl (Or.inr (Or.inl ⟨rfl, rfl, _, rfl⟩)) hd hl) eT hc hs hq
theorem own_narR {t : FieldType} {w : Value} (h : w.isRef = true) : narrow t w = w := by
  rcases ref_cases h with rfl | ⟨a, rfl⟩ <;> cases t <;> rfl
theorem own_retA (X : Stand p l e R s m args below meth c T locs cells slots) (hx : p.tables.exec = Jvm.exec) {pc : Nat} {Ls : Array Slot} {w : Value} {t : FieldType} {rest : List Value} {Q : Option Value → Heap → List Loc → Prop} {kc ks : Nat} (hlocks : meth.locks = false) (hret : meth.sig.returnType = some t) (ht : t.isReference = true) (hw : w.isRef = true)
    (hd : decode c.code pc = .ok (.areturn, 1)) (eT : T.heap = h) (hc : cells ≤ kc) (hs : slots ≤ ks) (hq : Q (some w) h locs) : own_G p e below (T.setTop (mkF m pc Ls (w :: rest))) (own_P s Q kc ks) :=
  own_leave X (v := some w) hlocks (fun q => by rw [hret] at q; cases q) (fun fs hl => retOut X hx hret (own_narR hw) (Or.inr (Or.inr (Or.inr (Or.inr ⟨rfl, ht, hw⟩)))) hd hl) eT hc hs hq
theorem own_retV (X : Stand p l e R s m args below meth c T locs cells slots) (hx : p.tables.exec = Jvm.exec) {pc : Nat} {Ls : Array Slot} {Q : Option Value → Heap → List Loc → Prop} {kc ks : Nat} (hlocks : meth.locks = false) (hret : meth.sig.returnType = none)
    (hd : decode c.code pc = .ok (.return_, 1)) (eT : T.heap = h) (hc : cells ≤ kc) (hs : slots ≤ ks) (hq : Q none h locs) : own_G p e below (T.setTop (mkF m pc Ls [])) (own_P s Q kc ks) :=
  own_leave X (v := none) hlocks (fun _ => rfl) (fun fs hl => X.returnOut hx hret hd hl) eT hc hs hq
abbrev own_Met (l : Launch) (Z : State) (h : Heap) (y : MethodName) (bytes : ByteArray) (maxL : Nat) (ret : Option FieldType) (ws : List Jvm.Cond) (rm : Room) (as' : Array Value) (Q : Option Value → Heap → List Loc → Prop) (kc ks : Nat) : Prop :=
  MetFree l y (head1 (Jvm.Cond.code y bytes maxL ret :: ws) rm) (fun a U => a = as' ∧ Z.Warmed39 U.vm ∧ U.heap = h) (fun _ _ _ _ _ => True) (fun _ U o U' => ∃ v L, o = .returned v ∧ Q v U'.heap L ∧ FrameEnd U o U' L kc ks)
variable {own : String} {index : Nat} {y : MethodName} {bytes : ByteArray} {maxL : Nat} {ret : Option FieldType} {rm : Room} {W : Nat} {as' : Array Value} {Q : Option Value → Heap → List Loc → Prop}
abbrev own_After (p : Program) (l : Launch) (e : Env) (R : Room) (s : State) (m : MethodId) (args : Array Value) (below : List Frame) (meth : Method) (c : Code) (T : State) (locs : List Loc) (kc ks : Nat) (g : JFrame) (rest : List Value) (Q : Option Value → Heap → List Loc → Prop) (len : Nat := 3) : Prop :=
  ∃ (T' : State) (h' : Heap) (v : Option Value) (L : List Loc), Stand p l e R s m args below meth c T' (locs ++ L) kc ks ∧ T'.heap = h' ∧ Q v h' L ∧ ∀ target, Steps p.tables e below (T'.setTop { g with pc := g.pc + len, stack := v.toList ++ rest }) target → Steps p.tables e below (T.setTop g) target
theorem own_callS (X : Stand p l e R s m args below meth c T locs cells slots) (hx : p.tables.exec = Jvm.exec) (hZ : Z.Warmed39 s.vm) (hown : s.vm.findClass own = some m.cls) (eT : T.heap = h)
    (w1 : (Jvm.Cond.methodLink own index y).before a0 Z = true) (w2 : (Jvm.Cond.static y).before a0 Z = true) (w3 : (Jvm.Cond.initialized y.cls).before a0 Z = true) (w4 : (Jvm.Cond.code y bytes maxL ret).before a0 Z = true) (hy : y.cls ≠ "java/lang/invoke/MethodHandle" ∧ y.cls ≠ "java/lang/invoke/VarHandle")
    (hM : own_Met l Z h y bytes maxL ret [] rm as' Q rm.cells rm.slots)
    (hf : rm.frames + 1 ≤ R.frames) (hl : W + (maxL + 11) + rm.locals ≤ R.locals) (hc : cells + rm.cells ≤ R.cells) (hsl : slots + rm.slots ≤ R.slots)
    {g : JFrame} (hg : g.method = m) (hsize : g.locals.size = c.maxLocals) {argsL rest : List Value} (has : argsL.toArray = as') (hlen : ∀ sig, parseMethodDescriptor y.desc = some sig → argsL.length = sig.parameters.length)
    (hstack : g.stack = argsL.reverse ++ rest) (hW : 2 * g.monitorRoom + (rest.map fun v => v.category).sum ≤ W) (hd : decode c.code g.pc = .ok (.invokestatic index, 3)) :
    own_After p l e R s m args below meth c T locs (cells + rm.cells) (slots + rm.slots) g rest Q := by
  obtain ⟨v, vm1, ⟨T', L', k', n'⟩, -, X', ⟨Lc, hQ, l1, y1, z1⟩, st⟩ := Jvm.LawKit.callS X hx (y := y) hown (mvT hZ w1) (mvT hZ w2) (mvT hZ w3) (mvT hZ w4) hy (backOf (W := W) hM hZ w4 w3 hf hl) hg hsize hlen hstack hW hd (fun _ _ => ⟨has, eT, hc, hsl⟩)
  dsimp only [Pt.U, Pt.locs, Pt.cells, Pt.slots] at X' l1 y1 z1 st hQ
  subst l1 y1 z1
  exact ⟨T', _, v, Lc, X', rfl, hQ, st⟩
theorem own_callV (X : Stand p l e R s m args below meth c T locs cells slots) (hx : p.tables.exec = Jvm.exec) (hZ : Z.Warmed39 s.vm) (hown : s.vm.findClass own = some m.cls) (eT : T.heap = h) {z : MethodName} {C : String} {b : Addr}
    (w1 : (Jvm.Cond.methodLink own index y).before a0 Z = true) (w2 : (Jvm.Cond.declares y).before a0 Z = true) (nf : NotFace s y) (w3 : (Jvm.Cond.selects C y z).before a0 Z = true) (w5 : (Jvm.Cond.instanceMethod z).before a0 Z = true) (w6 : (Jvm.Cond.initialized z.cls).before a0 Z = true) (w4 : (Jvm.Cond.code z bytes maxL ret).before a0 Z = true) (hy : y.cls ≠ "java/lang/invoke/MethodHandle" ∧ y.cls ≠ "java/lang/invoke/VarHandle")
    (E : Exa Z h b C) (hM : own_Met l Z h z bytes maxL ret [] rm as' Q rm.cells rm.slots)
    (hf : rm.frames + 1 ≤ R.frames) (hl : W + (maxL + 11) + rm.locals ≤ R.locals) (hc : cells + rm.cells ≤ R.cells) (hsl : slots + rm.slots ≤ R.slots)
    {g : JFrame} (hg : g.method = m) (hsize : g.locals.size = c.maxLocals) {argsL rest : List Value} (has : (.ref b :: argsL).toArray = as') (hlen : ∀ sig, parseMethodDescriptor y.desc = some sig → argsL.length = sig.parameters.length)
    (hstack : g.stack = argsL.reverse ++ .ref b :: rest) (hW : 2 * g.monitorRoom + (rest.map fun v => v.category).sum ≤ W) (hd : decode c.code g.pc = .ok (.invokevirtual index, 3)) :
    own_After p l e R s m args below meth c T locs (cells + rm.cells) (slots + rm.slots) g rest Q := by
  obtain ⟨cq, kq, q1, q2, q3⟩ := isOf hZ eT E
  obtain ⟨v, vm1, ⟨T', L', k', n'⟩, -, X', ⟨Lc, hQ, l1, y1, z1⟩, st⟩ := X.virtualBack hx (y := y) (z := z) hown (mvT hZ w1) (mvT hZ w2) nf (mvT hZ w3) (mvT hZ w5) hy (backOf (W := W) hM hZ w4 w6 hf hl) q1 q3 hg hsize (Steps.refl _) hlen hstack hW hd (fun _ _ => ⟨has, eT, hc, hsl⟩)
  dsimp only [Pt.U, Pt.locs, Pt.cells, Pt.slots] at X' l1 y1 z1 st hQ
  subst l1 y1 z1
  exact ⟨T', _, v, Lc, X', rfl, hQ, fun _ k => st.trans k⟩
theorem own_callU (X : Stand p l e R s m args below meth c T locs cells slots) (hx : p.tables.exec = Jvm.exec) (hZ : Z.Warmed39 s.vm) (hown : s.vm.findClass own = some m.cls) (eT : T.heap = h) {z : MethodName} {C owner : String} {b : Addr}
    (w1 : (Jvm.Cond.methodLink own index y).before a0 Z = true) (w2 : (Jvm.Cond.sameMethod y.cls owner y.name y.desc).before a0 Z = true) (w7 : (Jvm.Cond.declares ⟨owner, y.name, y.desc⟩).before a0 Z = true) (w3 : (Jvm.Cond.selects C y z).before a0 Z = true) (w5 : (Jvm.Cond.instanceMethod z).before a0 Z = true) (w6 : (Jvm.Cond.initialized z.cls).before a0 Z = true) (w4 : (Jvm.Cond.code z bytes maxL ret).before a0 Z = true) (hy : owner ≠ "java/lang/invoke/MethodHandle" ∧ owner ≠ "java/lang/invoke/VarHandle")
    (E : Exa Z h b C) (hM : own_Met l Z h z bytes maxL ret [] rm as' Q rm.cells rm.slots)
    (hf : rm.frames + 1 ≤ R.frames) (hl : W + (maxL + 11) + rm.locals ≤ R.locals) (hc : cells + rm.cells ≤ R.cells) (hsl : slots + rm.slots ≤ R.slots)
    {g : JFrame} (hg : g.method = m) (hsize : g.locals.size = c.maxLocals) {argsL rest : List Value} (has : (.ref b :: argsL).toArray = as') (hlen : ∀ sig, parseMethodDescriptor y.desc = some sig → argsL.length = sig.parameters.length)
    (hstack : g.stack = argsL.reverse ++ .ref b :: rest) (hW : 2 * g.monitorRoom + (rest.map fun v => v.category).sum ≤ W) (hd : decode c.code g.pc = .ok (.invokevirtual index, 3)) :
    own_After p l e R s m args below meth c T locs (cells + rm.cells) (slots + rm.slots) g rest Q := by
  obtain ⟨cq, kq, q1, q2, q3⟩ := isOf hZ eT E
  obtain ⟨v, vm1, ⟨T', L', k', n'⟩, -, X', ⟨Lc, hQ, l1, y1, z1⟩, st⟩ := X.virtualBackUp hx (x := y) (y := z) (owner := owner) hown (mvT hZ w1) (mvT hZ w2) (mvT hZ w7) hy (mvT hZ w3) (mvT hZ w5) (backOf (W := W) hM hZ w4 w6 hf hl) q1 q3 hg hsize (Steps.refl _) hlen hstack hW hd (fun _ _ => ⟨has, eT, hc, hsl⟩)
  dsimp only [Pt.U, Pt.locs, Pt.cells, Pt.slots] at X' l1 y1 z1 st hQ
  subst l1 y1 z1
  exact ⟨T', _, v, Lc, X', rfl, hQ, fun _ k => st.trans k⟩
theorem own_callN (X : Stand p l e R s m args below meth c T locs cells slots) (hx : p.tables.exec = Jvm.exec) (hZ : Z.Warmed39 s.vm) (hown : s.vm.findClass own = some m.cls) (eT : T.heap = h) {b : Addr} (hy1 : y.name = "<init>")
    (w1 : (Jvm.Cond.methodLink own index y).before a0 Z = true) (w5 : (Jvm.Cond.instanceMethod y).before a0 Z = true) (w6 : (Jvm.Cond.initialized y.cls).before a0 Z = true) (w4 : (Jvm.Cond.code y bytes maxL none).before a0 Z = true) (hy : y.cls ≠ "java/lang/invoke/MethodHandle" ∧ y.cls ≠ "java/lang/invoke/VarHandle")
    (hM : own_Met l Z h y bytes maxL none [] rm as' Q rm.cells rm.slots)
    (hf : rm.frames + 1 ≤ R.frames) (hl : W + (maxL + 11) + rm.locals ≤ R.locals) (hc : cells + rm.cells ≤ R.cells) (hsl : slots + rm.slots ≤ R.slots)
    {g : JFrame} (hg : g.method = m) (hsize : g.locals.size = c.maxLocals) {argsL rest : List Value} (has : (.ref b :: argsL).toArray = as') (hlen : ∀ sig, parseMethodDescriptor y.desc = some sig → argsL.length = sig.parameters.length)
    (hstack : g.stack = argsL.reverse ++ .ref b :: rest) (hW : 2 * g.monitorRoom + (rest.map fun v => v.category).sum ≤ W) (hd : decode c.code g.pc = .ok (.invokespecial index, 3)) :
    own_After p l e R s m args below meth c T locs (cells + rm.cells) (slots + rm.slots) g rest Q := by
  obtain ⟨v, vm1, ⟨T', L', k', n'⟩, -, X', ⟨Lc, hQ, l1, y1, z1⟩, st⟩ := X.specialBack hx (y := y) hy1 hown (mvT hZ w1) (mvT hZ w5) (mvT hZ w4) hy (backOf (W := W) hM hZ w4 w6 hf hl) hg hsize (Steps.refl _) hlen hstack hW hd (fun _ _ => ⟨has, eT, hc, hsl⟩)
  dsimp only [Pt.U, Pt.locs, Pt.cells, Pt.slots] at X' l1 y1 z1 st hQ
  subst l1 y1 z1
  exact ⟨T', _, v, Lc, X', rfl, hQ, fun _ k => st.trans k⟩
theorem own_callI (X : Stand p l e R s m args below meth c T locs cells slots) (hx : p.tables.exec = Jvm.exec) (hZ : Z.Warmed39 s.vm) (hown : s.vm.findClass own = some m.cls) (eT : T.heap = h) {z : MethodName} {C : String} {b : Addr} {count : Nat}
    (w1 : (Jvm.Cond.methodLink own index y).before a0 Z = true) (w2 : (Jvm.Cond.declares y).before a0 Z = true) (w7 : (Jvm.Cond.interfaceMethod y.cls y.cls y.name y.desc).before a0 Z = true) (h7 : ((Jvm.Cond.interfaceMethod y.cls y.cls y.name y.desc).onTables && (Jvm.Cond.interfaceMethod y.cls y.cls y.name y.desc).keepsFace) = true) (w3 : (Jvm.Cond.selects C y z).before a0 Z = true) (w5 : (Jvm.Cond.instanceMethod z).before a0 Z = true) (w8 : (Jvm.Cond.publicMethod z).before a0 Z = true) (w9 : (Jvm.Cond.unhidden C y.name y.desc).before a0 Z = true) (w10 : (Jvm.Cond.castable C y.cls).before a0 Z = true) (w6 : (Jvm.Cond.initialized z.cls).before a0 Z = true) (w4 : (Jvm.Cond.code z bytes maxL ret).before a0 Z = true) (hy : y.cls ≠ "java/lang/invoke/MethodHandle" ∧ y.cls ≠ "java/lang/invoke/VarHandle")
    (E : Exa Z h b C) (hM : own_Met l Z h z bytes maxL ret [] rm as' Q rm.cells rm.slots)
    (hf : rm.frames + 1 ≤ R.frames) (hl : W + (maxL + 11) + rm.locals ≤ R.locals) (hc : cells + rm.cells ≤ R.cells) (hsl : slots + rm.slots ≤ R.slots)
    {g : JFrame} (hg : g.method = m) (hsize : g.locals.size = c.maxLocals) {argsL rest : List Value} (has : (.ref b :: argsL).toArray = as') (hlen : ∀ sig, parseMethodDescriptor y.desc = some sig → argsL.length = sig.parameters.length)
    (hstack : g.stack = argsL.reverse ++ .ref b :: rest) (hW : 2 * g.monitorRoom + (rest.map fun v => v.category).sum ≤ W) (hd : decode c.code g.pc = .ok (.invokeinterface index count, 5)) :
    own_After p l e R s m args below meth c T locs (cells + rm.cells) (slots + rm.slots) g rest Q 5 := by
  obtain ⟨cq, kq, q1, q2, q3⟩ := isOf hZ eT E
  obtain ⟨v, vm1, ⟨T', L', k', n'⟩, -, X', ⟨Lc, hQ, l1, y1, z1⟩, st⟩ := X.interfaceBack hx (xi := y) (y := z) hown (mvT hZ w1) (mvT hZ w2) (mvT hZ w7 h7) (mvT hZ w3) (mvT hZ w5) (mvT hZ w8) (mvT hZ w9) (mvT hZ w10) hy (backOf (W := W) hM hZ w4 w6 hf hl) q1 q2 q3 hg hsize (Steps.refl _) hlen hstack hW hd (fun _ _ => ⟨has, eT, hc, hsl⟩)
  dsimp only [Pt.U, Pt.locs, Pt.cells, Pt.slots] at X' l1 y1 z1 st hQ
  subst l1 y1 z1
  exact ⟨T', _, v, Lc, X', rfl, hQ, fun _ k => st.trans k⟩
theorem own_callP (X : Stand p l e R s m args below meth c T locs cells slots) (hx : p.tables.exec = Jvm.exec) (hZ : Z.Warmed39 s.vm) (hown : s.vm.findClass own = some m.cls) (eT : T.heap = h) {b : Addr} {C : String}
    (w1 : (Jvm.Cond.methodLink own index y).before a0 Z = true) (w5 : (Jvm.Cond.instanceMethod y).before a0 Z = true) (w3 : (Jvm.Cond.selects y.cls y y).before a0 Z = true) (w7 : (Jvm.Cond.privateMethod y).before a0 Z = true) (w6 : (Jvm.Cond.initialized y.cls).before a0 Z = true) (w4 : (Jvm.Cond.code y bytes maxL ret).before a0 Z = true) (hy : y.cls ≠ "java/lang/invoke/MethodHandle" ∧ y.cls ≠ "java/lang/invoke/VarHandle")
    (E : Exa Z h b C) (hM : own_Met l Z h y bytes maxL ret [] rm as' Q rm.cells rm.slots)
    (hf : rm.frames + 1 ≤ R.frames) (hl : W + (maxL + 11) + rm.locals ≤ R.locals) (hc : cells + rm.cells ≤ R.cells) (hsl : slots + rm.slots ≤ R.slots)
    {g : JFrame} (hg : g.method = m) (hsize : g.locals.size = c.maxLocals) {argsL rest : List Value} (has : (.ref b :: argsL).toArray = as') (hlen : ∀ sig, parseMethodDescriptor y.desc = some sig → argsL.length = sig.parameters.length)
    (hstack : g.stack = argsL.reverse ++ .ref b :: rest) (hW : 2 * g.monitorRoom + (rest.map fun v => v.category).sum ≤ W) (hd : decode c.code g.pc = .ok (.invokevirtual index, 3)) :
    own_After p l e R s m args below meth c T locs (cells + rm.cells) (slots + rm.slots) g rest Q := by
  obtain ⟨cell, hcell, hobj⟩ := E.cell
  obtain ⟨v, vm1, ⟨T', L', k', n'⟩, -, X', ⟨Lc, hQ, l1, y1, z1⟩, st⟩ := X.privateBack hx (y := y) hown (mvT hZ w1) (mvT hZ w5) (mvT hZ w3) (Cond.privateMethod_at (mvP (args := #[]) hZ w7)) (mvT hZ w4) hy (backOf (W := W) hM hZ w4 w6 hf hl) hg hsize (Steps.refl _) (by rw [eT]; exact hcell) hobj hlen hstack hW hd (fun _ _ => ⟨has, eT, hc, hsl⟩)
  dsimp only [Pt.U, Pt.locs, Pt.cells, Pt.slots] at X' l1 y1 z1 st hQ
  subst l1 y1 z1
  exact ⟨T', _, v, Lc, X', rfl, hQ, fun _ k => st.trans k⟩
theorem own_lsw (X : Stand p l e R s m args below meth c T locs cells slots) (hx : p.tables.exec = Jvm.exec) {g : JFrame} (hg : g.method = m) {k : Int32} {rest : List Value} (hs : g.stack = .int k :: rest) {dflt : Int} {pairs : Array (Int × Int)} {len : Nat} (hd : decode c.code g.pc = .ok (.lookupswitch dflt pairs, len))
    (hsorted : (pairs.toList.zip (pairs.toList.drop 1)).all (fun (a, next) => a.1 < next.1) = true) {a off : Int} (hfind : pairs.find? (·.1 == k.toInt) = some (a, off)) {pc0 pc' : Nat} (hpc : g.pc = pc0) (ho : 0 ≤ (pc0 : Int) + off) (hp : ((pc0 : Int) + off).toNat = pc') :
    ∀ t, Steps p.tables e below (T.setTop { g with pc := pc', stack := rest }) t → Steps p.tables e below (T.setTop g) t := by
  subst hpc hp; exact fun t hr => X.lookupswitchHit hx hg hs hd hsorted hfind ho t hr
theorem own_rne {a b : Addr} (h : a ≠ b) : ¬ (Value.ref a = Value.ref b) := fun q => h (Value.ref.inj q)
def own_pl : Value → Bool
  | .int _ => true
  | .ref _ => true
  | .null => true
  | .long _ => true
  | _ => false
theorem own_eqv {args : Array Value} {f : State} {o : Option Outcome} {idx : List Nat} {t u : Term} {x y : Value} (ha : t.eval args f o idx s = some x) (hb : u.eval args f o idx s = some y) (h : (Jvm.Cond.eq t u).value args f o s idx = some true) (hk : own_pl y = true := by rfl) : x = y := by
  cases x <;> cases y <;> simp [Jvm.Cond.value, ha, hb, own_pl] at h hk ⊢ <;> first | exact h | exact h.symm
theorem own_fv {args : Array Value} {t u : Term} {O n d : String} {a : Addr} {y : Value} (ht : t.eval args s none [] s = some (.ref a)) (hu : u.eval args s none [] s = some y) (h : (Jvm.Cond.eq (.field t O n d) u).value args s none s [] = some true) (hk : own_pl y = true := by rfl) : Fld s s.heap a O n d y := by
  obtain ⟨x, y', e1, e2, -, -⟩ := cmp_v (Or.inl h)
  have q := own_eqv e1 hu h hk
  subst q
  exact Fld.start ((fld_at ht).symm.trans e1)
end Own
section OwnArr
variable {p : Program} {l : Launch} {e : Env} {R : Room} {s : State} {m : MethodId} {args : Array Value} {below : List Frame} {meth : Method} {c : Code} {T : State} {locs : List Loc} {cells slots : Nat} {Z : State} {a0 : Array Value} {h : Heap} {a : Addr} {k : ClassId} {ty : FieldType} {z j : Int32} {vs : List Value} {dv v : Value}
theorem own_newA (A : Arr Z h a (newA k ty z) ty) (q : ¬ z < 0) (hv : vs = List.replicate z.toNatClampNeg (defaultValue ty)) (hd : dv = defaultValue ty) : Arv Z h a k ty z vs dv := by
  subst hv hd; exact (Arv.new A q).pad (pad_rep [] _ _)
theorem own_newP (X : Stand p l e R s m args below meth c T locs cells slots) (hx : p.tables.exec = Jvm.exec) (hZ : Z.Warmed39 s.vm) {aty : ArrayType} (w : (Jvm.Cond.arrayClass (newarray.typeOf aty)).before a0 Z = true) (eT : T.heap = h) {nm : String} (hnm : "[" ++ (newarray.typeOf aty).toString = nm)
    {g : JFrame} (hg : g.method = m) (hd : decode c.code g.pc = .ok (.newarray aty, 2)) {n : Int32} {rest : List Value} (hs : g.stack = .int n :: rest) (hn : ¬ n < 0) {cap : Nat} (hcap : n.toNatClampNeg ≤ cap) (hb : cap * 8 ≤ 536870912) (hc : cells + 1 ≤ R.cells) (hl : slots + cap ≤ R.slots) :
    ∃ T' h' cA, Stand p l e R s m args below meth c T' locs (cells + 1) (slots + cap) ∧ T'.heap = h' ∧ Ext h h' ∧ Arr Z h' h.size (newA cA (newarray.typeOf aty) n) (newarray.typeOf aty) ∧ Exa Z h' h.size nm ∧
      ∀ target, Steps p.tables e below (T'.setTop { g with pc := g.pc + 2, stack := .ref h.size :: rest }) target → Steps p.tables e below (T.setTop g) target := by
  subst hnm eT
  obtain ⟨cA, kA, comp, h1, h2, h3, X', st⟩ := X.newarrayPrim hx (mvA hZ w) hg hd hs hn (Nat.le_trans (Nat.mul_le_mul hcap (by cases aty <;> decide : componentBytes (newarray.typeOf aty) ≤ 8)) hb) hc (by omega)
  rw [hZ.alike.findClass] at h1
  obtain ⟨kZ, z1, -⟩ := Vm.findClass_spec h1
  obtain ⟨k', z2, z3⟩ := hZ.alike.2.2 _ _ z1
  cases h2.symm.trans z2
  have hk : kZ.kind = .array comp (newarray.typeOf aty) := by rw [← h3, z3]
  have hN : (T.heap.push (newA cA (newarray.typeOf aty) n))[T.heap.size]? = some (newA cA (newarray.typeOf aty) n) := by simp
  have hE : Ext T.heap (T.heap.push (newA cA (newarray.typeOf aty) n)) := ext_of fun a q => Array.getElem?_push_lt q |>.trans (Array.getElem?_eq_getElem q).symm
  exact ⟨_, _, cA, X'.more (Nat.le_refl _) (by omega), rfl, hE, ⟨hN, ⟨by simp [newA], kZ, z1, comp, hk⟩, by simp [newA]⟩, ⟨_, kZ, hN, h1, z1, rfl, fun q => by rw [hk] at q; cases q⟩, st⟩
theorem own_len (X : Stand p l e R s m args below meth c T locs cells slots) (hx : p.tables.exec = Jvm.exec) (hZ : Z.Warmed39 s.vm) (eT : T.heap = h) (A : Arv Z h a k ty z vs dv) {g : JFrame} (hg : g.method = m) {rest : List Value} (hs : g.stack = .ref a :: rest) (hd : decode c.code g.pc = .ok (.arraylength, 1)) :
    ∀ target, Steps p.tables e below (T.setTop { g with pc := g.pc + 1, stack := .int z :: rest }) target → Steps p.tables e below (T.setTop g) target := by
  obtain ⟨cl, A1, q1, S, q3, H, G⟩ := A
  intro target hr
  refine X.arraylength hx (cell := cl) (by rw [eT]; exact A1.1) (State.isArrayOf_alike hZ.alike A1.2.1) hg hs hd target ?_
  rw [len_of S q3]; exact hr
theorem own_iaload (X : Stand p l e R s m args below meth c T locs cells slots) (hx : p.tables.exec = Jvm.exec) (hZ : Z.Warmed39 s.vm) (eT : T.heap = h) (A : Arv Z h a k .int z vs dv) (hj : ¬ j < 0 ∧ j < z) (hv : vs.getD j.toNatClampNeg dv = v) {g : JFrame} (hg : g.method = m) {rest : List Value} (hs : g.stack = .int j :: .ref a :: rest) (hd : decode c.code g.pc = .ok (.iaload, 1)) :
    ∀ target, Steps p.tables e below (T.setTop { g with pc := g.pc + 1, stack := v :: rest }) target → Steps p.tables e below (T.setTop g) target := by
  obtain ⟨cl, A1, q1, S, q3, H, G⟩ := A
  exact fun t k => X.iaload hx (by rw [eT]; exact A1.1) (State.isArrayOf_alike hZ.alike A1.2.1) A1.2.2 (inb_of S hj) (H.at (inb_of S hj) hv) hg hs hd t k
theorem own_baload (X : Stand p l e R s m args below meth c T locs cells slots) (hx : p.tables.exec = Jvm.exec) (hZ : Z.Warmed39 s.vm) (eT : T.heap = h) (A : Arv Z h a k .byte z vs dv) (hj : ¬ j < 0 ∧ j < z) (hv : vs.getD j.toNatClampNeg dv = v) {g : JFrame} (hg : g.method = m) {rest : List Value} (hs : g.stack = .int j :: .ref a :: rest) (hd : decode c.code g.pc = .ok (.baload, 1)) :
    ∀ target, Steps p.tables e below (T.setTop { g with pc := g.pc + 1, stack := v :: rest }) target → Steps p.tables e below (T.setTop g) target := by
  obtain ⟨cl, A1, q1, S, q3, H, G⟩ := A
  exact fun t k => X.baloadBytes hx (by rw [eT]; exact A1.1) (State.isArrayOf_alike hZ.alike A1.2.1) A1.2.2 (inb_of S hj) (H.at (inb_of S hj) hv) hg hs hd t k
theorem own_caload (X : Stand p l e R s m args below meth c T locs cells slots) (hx : p.tables.exec = Jvm.exec) (hZ : Z.Warmed39 s.vm) (eT : T.heap = h) (A : Arv Z h a k .char z vs dv) (hj : ¬ j < 0 ∧ j < z) (hv : vs.getD j.toNatClampNeg dv = v) {g : JFrame} (hg : g.method = m) {rest : List Value} (hs : g.stack = .int j :: .ref a :: rest) (hd : decode c.code g.pc = .ok (.caload, 1)) :
    ∀ target, Steps p.tables e below (T.setTop { g with pc := g.pc + 1, stack := v :: rest }) target → Steps p.tables e below (T.setTop g) target := by
  obtain ⟨cl, A1, q1, S, q3, H, G⟩ := A
  exact fun t k => X.caload hx (by rw [eT]; exact A1.1) (State.isArrayOf_alike hZ.alike A1.2.1) A1.2.2 (inb_of S hj) (H.at (inb_of S hj) hv) hg hs hd t k
theorem own_aaload (X : Stand p l e R s m args below meth c T locs cells slots) (hx : p.tables.exec = Jvm.exec) (hZ : Z.Warmed39 s.vm) (eT : T.heap = h) (A : Arv Z h a k ty z vs dv) (hty : ty.isReference = true) (hj : ¬ j < 0 ∧ j < z) (hv : vs.getD j.toNatClampNeg dv = v) {g : JFrame} (hg : g.method = m) {rest : List Value} (hs : g.stack = .int j :: .ref a :: rest) (hd : decode c.code g.pc = .ok (.aaload, 1)) :
    ∀ target, Steps p.tables e below (T.setTop { g with pc := g.pc + 1, stack := v :: rest }) target → Steps p.tables e below (T.setTop g) target := by
  obtain ⟨cl, A1, q1, S, q3, H, G⟩ := A
  exact fun t k => X.aaload hx (by rw [eT]; exact A1.1) (State.isArrayOf_alike hZ.alike A1.2.1) hty A1.2.2 (inb_of S hj) (H.at (inb_of S hj) hv) hg hs hd t k
theorem own_stB (X : Stand p l e R s m args below meth c T locs cells slots) (hx : p.tables.exec = Jvm.exec) (hZ : Z.Warmed39 s.vm) (eT : T.heap = h) (A : Arv Z h a k .byte z vs dv) {x x' : Int32} (i : Nat) (hn : nar .byte x = x') (hji : j.toNatClampNeg = i) (hj : ¬ j < 0 ∧ j < z) (hi : i < vs.length) {g : JFrame} (hg : g.method = m) {rest : List Value} (hs : g.stack = .int x :: .int j :: .ref a :: rest) (hd : decode c.code g.pc = .ok (.bastore, 1)) :
    ∃ T' h', Stand p l e R s m args below meth c T' (locs ++ [⟨a, i⟩]) cells slots ∧ T'.heap = h' ∧ Wr h h' a i (.int x') ∧ Arv Z h' a k .byte z (vs.set i (.int x')) dv ∧ ∀ target, Steps p.tables e below (T'.setTop { g with pc := g.pc + 1, stack := rest }) target → Steps p.tables e below (T.setTop g) target := by
  obtain ⟨cl, A1, q1, S, q3, H, G⟩ := A
  obtain ⟨T', h', X', e', W, st⟩ := stB X hx hZ eT A1 (inb_of S hj) hg hs hd
  subst hn hji
  exact ⟨T', h', X', e', W, Arv.set A1 q1 S q3 H G (fits_byte_narrow x) W _ rfl hi, st⟩
theorem own_stC (X : Stand p l e R s m args below meth c T locs cells slots) (hx : p.tables.exec = Jvm.exec) (hZ : Z.Warmed39 s.vm) (eT : T.heap = h) (A : Arv Z h a k .char z vs dv) {x x' : Int32} (i : Nat) (hn : nar .char x = x') (hji : j.toNatClampNeg = i) (hj : ¬ j < 0 ∧ j < z) (hi : i < vs.length) {g : JFrame} (hg : g.method = m) {rest : List Value} (hs : g.stack = .int x :: .int j :: .ref a :: rest) (hd : decode c.code g.pc = .ok (.castore, 1)) :
    ∃ T' h', Stand p l e R s m args below meth c T' (locs ++ [⟨a, i⟩]) cells slots ∧ T'.heap = h' ∧ Wr h h' a i (.int x') ∧ Arv Z h' a k .char z (vs.set i (.int x')) dv ∧ ∀ target, Steps p.tables e below (T'.setTop { g with pc := g.pc + 1, stack := rest }) target → Steps p.tables e below (T.setTop g) target := by
  obtain ⟨cl, A1, q1, S, q3, H, G⟩ := A
  obtain ⟨T', h', X', e', W, st⟩ := stC X hx hZ eT A1 (inb_of S hj) hg hs hd
  subst hn hji
  exact ⟨T', h', X', e', W, Arv.set A1 q1 S q3 H G (fits_nar_char x) W _ rfl hi, st⟩
theorem own_stI (X : Stand p l e R s m args below meth c T locs cells slots) (hx : p.tables.exec = Jvm.exec) (hZ : Z.Warmed39 s.vm) (eT : T.heap = h) (A : Arv Z h a k .int z vs dv) {x : Int32} (i : Nat) (hji : j.toNatClampNeg = i) (hj : ¬ j < 0 ∧ j < z) (hi : i < vs.length) {g : JFrame} (hg : g.method = m) {rest : List Value} (hs : g.stack = .int x :: .int j :: .ref a :: rest) (hd : decode c.code g.pc = .ok (.iastore, 1)) :
    ∃ T' h', Stand p l e R s m args below meth c T' (locs ++ [⟨a, i⟩]) cells slots ∧ T'.heap = h' ∧ Wr h h' a i (.int x) ∧ Arv Z h' a k .int z (vs.set i (.int x)) dv ∧ ∀ target, Steps p.tables e below (T'.setTop { g with pc := g.pc + 1, stack := rest }) target → Steps p.tables e below (T.setTop g) target := by
  obtain ⟨cl, A1, q1, S, q3, H, G⟩ := A
  obtain ⟨T', h', X', e', W, st⟩ := stI X hx hZ eT A1 (inb_of S hj) hg hs hd
  subst hji
  exact ⟨T', h', X', e', W, Arv.set A1 q1 S q3 H G rfl W _ rfl hi, st⟩
theorem own_stR (X : Stand p l e R s m args below meth c T locs cells slots) (hx : p.tables.exec = Jvm.exec) (hZ : Z.Warmed39 s.vm) (eT : T.heap = h) (A : Arv Z h a k ty z vs dv) (hty : ty.isReference = true) (i : Nat) (F : Sto Z h a v) (hf : fits ty v = true) (hji : j.toNatClampNeg = i) (hj : ¬ j < 0 ∧ j < z) (hi : i < vs.length) {g : JFrame} (hg : g.method = m) {rest : List Value} (hs : g.stack = v :: .int j :: .ref a :: rest) (hd : decode c.code g.pc = .ok (.aastore, 1)) :
    ∃ T' h', Stand p l e R s m args below meth c T' (locs ++ [⟨a, i⟩]) cells slots ∧ T'.heap = h' ∧ Wr h h' a i v ∧ Arv Z h' a k ty z (vs.set i v) dv ∧ ∀ target, Steps p.tables e below (T'.setTop { g with pc := g.pc + 1, stack := rest }) target → Steps p.tables e below (T.setTop g) target := by
  obtain ⟨cl, A1, q1, S, q3, H, G⟩ := A
  obtain ⟨T', h', X', e', W, st⟩ := stR X hx hZ eT A1 (inb_of S hj) hty F hg hs hd
  subst hji
  exact ⟨T', h', X', e', W, Arv.set A1 q1 S q3 H G hf W _ rfl hi, st⟩
theorem own_sto {C : String} {y : Addr} (A : Arv Z h a k ty z vs dv) (O : Ovr Z k C) (I : Ins Z h y C true) : Sto Z h a (.ref y) := by
  obtain ⟨cl, A1, q1, S, q3, H, G⟩ := A
  exact Sto.ofV A1 q1 O I
theorem own_narB (x : Int32) : nar .byte (x.toInt8.toInt32) = x.toInt8.toInt32 := Value.int.inj (XT.narrow_b x)
theorem own_narC (x : Int32) : nar .char (x.toUInt32.toUInt16.toUInt32.toInt32) = x.toUInt32.toUInt16.toUInt32.toInt32 := Value.int.inj (XT.narrow_c x)
theorem own_fitc {cl : Cell} (A : Arr Z h a cl ty) (H : Has cl vs dv) (G : ∀ i, i < cl.slots.size → fits ty (vs.getD i dv) = true) : FitC Z cl := fun i v hv => by
  obtain ⟨hi, q0⟩ := Array.getElem?_eq_some_iff.mp hv
  have q := G i hi
  have q2 := (H i hi).symm.trans hv
  rw [Option.some.inj q2] at q
  obtain ⟨hs, k, hk, comp, hkind⟩ := A.2.1
  simp [State.fitsSlot, State.slotType?, hk, hkind]; exact q
theorem own_clone (X : Stand p l e R s m args below meth c T locs cells slots) (hx : p.tables.exec = Jvm.exec) (hZ : Z.Warmed39 s.vm) {own ad : String} {index : Nat} (hown : s.vm.findClass own = some m.cls) (eT : T.heap = h)
    (w1 : (Jvm.Cond.methodLink own index ⟨ad, "clone", "()Ljava/lang/Object;"⟩).before a0 Z = true) (w2 : (Jvm.Cond.sameMethod ad "java/lang/Object" "clone" "()Ljava/lang/Object;").before a0 Z = true) (w3 : (Jvm.Cond.native ⟨"java/lang/Object", "clone", "()Ljava/lang/Object;"⟩).before a0 Z = true)
    (w4 : (Jvm.Cond.instanceMethod ⟨"java/lang/Object", "clone", "()Ljava/lang/Object;"⟩).before a0 Z = true) (w5 : (Jvm.Cond.selects ad ⟨ad, "clone", "()Ljava/lang/Object;"⟩ ⟨"java/lang/Object", "clone", "()Ljava/lang/Object;"⟩).before a0 Z = true) (w6 : (Jvm.Cond.castable ad "java/lang/Cloneable").before a0 Z = true)
    (A : Arv Z h a k ty z vs dv) (E : Exa Z h a ad) {g : JFrame} (hg : g.method = m) (hsize : g.locals.size = c.maxLocals) {rest : List Value} (hs : g.stack = .ref a :: rest) (hd : decode c.code g.pc = .ok (.invokevirtual index, 3))
    (hf : 1 ≤ R.frames) {W cap : Nat} (hW : 2 * g.monitorRoom + (rest.map fun v => v.category).sum ≤ W) (hl : W + 14 ≤ R.locals) (hcap : z.toNatClampNeg ≤ cap) (hc : cells + 1 ≤ R.cells) (hsl : slots + cap ≤ R.slots) :
    ∃ T' h', Stand p l e R s m args below meth c T' locs (cells + 1) (slots + cap) ∧ T'.heap = h' ∧ Ext h h' ∧ Arv Z h' h.size k ty z vs dv ∧ Exa Z h' h.size ad ∧
      ∀ target, Steps p.tables e below (T'.setTop { g with pc := g.pc + 3, stack := .ref h.size :: rest }) target → Steps p.tables e below (T.setTop g) target := by
  obtain ⟨cl, A1, q1, S, q3, H, G⟩ := A
  obtain ⟨T', h', X', e', E', A', E2, st⟩ := cloneA X hx hZ hown w1 w2 w3 w4 w5 w6 eT A1 E (own_fitc A1 H G) hg hsize hs hd hf hW hl (by rw [S]; exact hcap) hc hsl
  exact ⟨T', h', X', e', E', ⟨_, A', q1, S, q3, H, G⟩, E2, st⟩
end OwnArr
section OwnCase
variable {s : State} {args : Array Value} {t u : Term} {a : Addr} {ty : FieldType} {n j : Int32} {vs : List Value} {dv v : Value} {cl : Cell}
theorem own_ev {y : Value} (hb : u.eval args s none [] s = some y) (h : (Jvm.Cond.eq t u).value args s none s [] = some true) (hk : own_pl y = true := by rfl) : t.eval args s none [] s = some y := by
  obtain ⟨x, y', e1, e2, -, -⟩ := cmp_v (Or.inl h)
  rw [own_eqv e1 hb h hk] at e1; exact e1
theorem own_ev' {y : Value} (hb : t.eval args s none [] s = some y) (h : (Jvm.Cond.eq t u).value args s none s [] = some true) (hk : own_pl y = true := by rfl) : u.eval args s none [] s = some y := by
  obtain ⟨x, y', e1, e2, -, -⟩ := cmp_v (Or.inl h)
  cases hb.symm.trans e1
  cases y <;> cases y' <;> simp [Jvm.Cond.value, e1, e2, own_pl] at h hk ⊢ <;> simp_all
theorem own_elem (ev : t.eval args s none [] s = some (.ref a)) (hu : u.eval args s none [] s = some v) (h : (Jvm.Cond.eq (.elem t (.int j)) u).value args s none s [] = some true) (hc : s.heap[a]? = some cl) (hk : own_pl v = true := by rfl) : cl.slots[j.toNatClampNeg]? = some v := by
  have e1 := own_ev hu h hk
  obtain ⟨c', e3, e4, e5⟩ := elem_at e1 ev (Term.int_eval j)
  cases hc.symm.trans e3; exact e5
theorem own_arr (hf : Fit s) (ev : t.eval args s none [] s = some (.ref a)) (h1 : (Jvm.Cond.arrayOf t ty).value args s none s [] = some true) (h2 : (Jvm.Cond.eq (.length t) (.int n)).value args s none s [] = some true) (hn : ¬ n < 0) (hl : n.toNatClampNeg = vs.length)
    (he : ∀ cl : Cell, s.heap[a]? = some cl → s.arrayAt? a = some cl → cl.slots.size = n.toNatClampNeg → HasL cl 0 vs) : ∃ k, Arv s s.heap a k ty n vs dv := by
  obtain ⟨cl, A⟩ := Arr.start ev h1
  have e1 := own_ev (Term.int_eval n) h2
  obtain ⟨a', cl', b1, b2, b3⟩ := Term.length_spec e1
  cases ev.symm.trans b1
  have hc' := (State.arrayAt?_spec b2).1
  cases A.1.symm.trans hc'
  have hsz : cl.slots.size.toInt32 = n := (Value.int.inj b3).symm
  have hlt : cl.slots.size < 2 ^ 31 := by
    by_cases q : cl.slots.size < 2147483648
    · exact q
    · simp [Term.eval, ev, b2, q] at e1
  have hS : cl.slots.size = n.toNatClampNeg := by rw [← hsz]; simp only [Int32.toNatClampNeg, len_toInt hlt]; rfl
  exact ⟨_, Arv.start hf A hlt hsz hn hl (he cl hc' b2 hS)⟩
theorem own_allat {C nm d : String} {i : Nat} {b : Int32} (hi : j.toNatClampNeg = i) (hj : ¬ j < 0) (ev : (Term.static C nm d).eval args s none [] s = some (.ref a)) (hc : s.heap[a]? = some cl) (ha : s.arrayAt? a = some cl) (hlt : i < cl.slots.size) (hb : ¬ b ≤ j)
    (h : (Jvm.Cond.all (.static C nm d) (.or (.le (.int b) (.index 0)) (.eq (.elem (.static C nm d) (.index 0)) (.index 0)))).value args s none s [] = some true) : cl.slots[i]? = some (.int j) := by
  have h' := Cond.all_elim ev ha h i hlt
  subst hi
  have e1 : (Term.index 0).eval args s none [j.toNatClampNeg] s = some (.int j) := idx_at hj
  have e2 : (Jvm.Cond.le (.int b) (.index 0)).value args s none s [j.toNatClampNeg] = some false := by
    rw [Cond.le_ints (Term.int_eval b) e1]; simp [hb]
  rw [Cond.or_of_right e2] at h'
  obtain ⟨x, y, q1, q2, -, -⟩ := cmp_v (Or.inl h')
  have q := own_eqv q1 e1 h'
  subst q
  obtain ⟨c', e3, e4, e5⟩ := elem_at q1 (show (Term.static C nm d).eval args s none [j.toNatClampNeg] s = some (.ref a) from ev) e1
  cases hc.symm.trans e3; exact e5
end OwnCase
theorem own_bm32 {n : Int} (h1 : -2147483648 ≤ n) (h2 : n < 2147483648) : n.bmod (2 ^ 32) = n := Int.bmod_eq_of_le (by omega) (by omega)
theorem own_modlt (x : Int32) (n : Int32) (hn : 0 < n.toInt) : 0 ≤ ((x &&& 2147483647) % n).toInt ∧ ((x &&& 2147483647) % n).toInt < n.toInt := by
  have e := Jvm.Kit.i32_mask x 2147483647 (k := 31) (by decide) (by decide)
  rw [Int32.toInt_mod, e]
  have h0 : 0 ≤ x.toInt % 2 ^ 31 := Int.emod_nonneg _ (by decide)
  rw [Int.tmod_eq_emod_of_nonneg h0]
  exact ⟨Int.emod_nonneg _ (by omega), Int.emod_lt_of_pos _ hn⟩
theorem own_i32 {x : Int32} {k : Int32} (h : x.toInt = k.toInt) : x = k := Int32.toInt_inj.mp h
theorem own_in2 {x : Int32} (h : 0 ≤ x.toInt ∧ x.toInt < 2) : x = 0 ∨ x = 1 := by
  rcases (by omega : x.toInt = 0 ∨ x.toInt = 1) with q | q
  · exact .inl (own_i32 (k := 0) q)
  · exact .inr (own_i32 (k := 1) q)
theorem own_in3 {x : Int32} (h : 0 ≤ x.toInt ∧ x.toInt < 3) : x = 0 ∨ x = 1 ∨ x = 2 := by
  rcases (by omega : x.toInt = 0 ∨ x.toInt = 1 ∨ x.toInt = 2) with q | q | q
  · exact .inl (own_i32 (k := 0) q)
  · exact .inr (.inl (own_i32 (k := 1) q))
  · exact .inr (.inr (own_i32 (k := 2) q))
theorem own_in4 {x : Int32} (h : 0 ≤ x.toInt ∧ x.toInt < 4) : x = 0 ∨ x = 1 ∨ x = 2 ∨ x = 3 := by
  rcases (by omega : x.toInt = 0 ∨ x.toInt = 1 ∨ x.toInt = 2 ∨ x.toInt = 3) with q | q | q | q
  · exact .inl (own_i32 (k := 0) q)
  · exact .inr (.inl (own_i32 (k := 1) q))
  · exact .inr (.inr (.inl (own_i32 (k := 2) q)))
  · exact .inr (.inr (.inr (own_i32 (k := 3) q)))
theorem own_in5 {x : Int32} (h : 0 ≤ x.toInt ∧ x.toInt < 5) : x = 0 ∨ x = 1 ∨ x = 2 ∨ x = 3 ∨ x = 4 := by
  rcases (by omega : x.toInt = 0 ∨ x.toInt = 1 ∨ x.toInt = 2 ∨ x.toInt = 3 ∨ x.toInt = 4) with q | q | q | q | q
  · exact .inl (own_i32 (k := 0) q)
  · exact .inr (.inl (own_i32 (k := 1) q))
  · exact .inr (.inr (.inl (own_i32 (k := 2) q)))
  · exact .inr (.inr (.inr (.inl (own_i32 (k := 3) q))))
  · exact .inr (.inr (.inr (.inr (own_i32 (k := 4) q))))
theorem own_in6 {x : Int32} (h : 0 ≤ x.toInt ∧ x.toInt < 6) : x = 0 ∨ x = 1 ∨ x = 2 ∨ x = 3 ∨ x = 4 ∨ x = 5 := by
  rcases (by omega : x.toInt = 0 ∨ x.toInt = 1 ∨ x.toInt = 2 ∨ x.toInt = 3 ∨ x.toInt = 4 ∨ x.toInt = 5) with q | q | q | q | q | q
  · exact .inl (own_i32 (k := 0) q)
  · exact .inr (.inl (own_i32 (k := 1) q))
  · exact .inr (.inr (.inl (own_i32 (k := 2) q)))
  · exact .inr (.inr (.inr (.inl (own_i32 (k := 3) q))))
  · exact .inr (.inr (.inr (.inr (.inl (own_i32 (k := 4) q)))))
  · exact .inr (.inr (.inr (.inr (.inr (own_i32 (k := 5) q)))))
theorem own_in7 {x : Int32} (h : 0 ≤ x.toInt ∧ x.toInt < 7) : x = 0 ∨ x = 1 ∨ x = 2 ∨ x = 3 ∨ x = 4 ∨ x = 5 ∨ x = 6 := by
  rcases (by omega : x.toInt = 0 ∨ x.toInt = 1 ∨ x.toInt = 2 ∨ x.toInt = 3 ∨ x.toInt = 4 ∨ x.toInt = 5 ∨ x.toInt = 6) with q | q | q | q | q | q | q
  · exact .inl (own_i32 (k := 0) q)
  · exact .inr (.inl (own_i32 (k := 1) q))
  · exact .inr (.inr (.inl (own_i32 (k := 2) q)))
  · exact .inr (.inr (.inr (.inl (own_i32 (k := 3) q))))
  · exact .inr (.inr (.inr (.inr (.inl (own_i32 (k := 4) q)))))
  · exact .inr (.inr (.inr (.inr (.inr (.inl (own_i32 (k := 5) q))))))
  · exact .inr (.inr (.inr (.inr (.inr (.inr (own_i32 (k := 6) q))))))
theorem own_chr (x : Int32) : ∃ z : Int32, z = (x &&& 255).toUInt32.toUInt16.toUInt32.toInt32 ∧ ¬ (z < 0) ∧ ¬ (255 < z) ∧ nar .char z = z := by
  refine ⟨_, rfl, ?_, ?_, own_narC _⟩
  all_goals
    have e := Jvm.Kit.i32_mask x 255 (k := 8) (by decide) (by decide)
    have hb : (x &&& 255).toUInt32.toUInt16.toUInt32.toInt32 = x &&& 255 := by
      have f := fits_nar_char (x &&& 255)
      apply Int32.toInt_inj.mp
      have h1 : ((x &&& 255).toUInt32.toUInt16.toUInt32.toInt32).toInt = ((x &&& 255).toBitVec.toNat % 65536 : Nat) := by
        have hm : ((x &&& 255).toUInt32.toUInt16.toUInt32.toInt32).toBitVec.toNat = (x &&& 255).toBitVec.toNat % 65536 := by
          simp only [Int32.toBitVec_and, UInt32.toBitVec_toInt32, Int32.toBitVec_toUInt32] at *
          simp
          rw [show (255 : Nat) = 2 ^ 8 - 1 from rfl, Nat.and_two_pow_sub_one_eq_mod, Nat.and_two_pow_sub_one_eq_mod]; omega
        show ((x &&& 255).toUInt32.toUInt16.toUInt32.toInt32).toBitVec.toInt = _
        rw [BitVec.toInt_eq_toNat_cond, hm, if_pos (by omega)]
      have h2 : (x &&& 255).toBitVec.toInt = (x &&& 255).toInt := rfl
      have h3 : ((x &&& 255).toBitVec.toNat : Int) = (x &&& 255).toInt := by
        rw [← h2, BitVec.toInt_eq_toNat_cond]
        have : (x &&& 255).toBitVec.toInt = x.toInt % 2 ^ 8 := e
        rw [BitVec.toInt_eq_toNat_cond] at this
        split
        · rfl
        · rename_i hc; rw [if_neg hc] at this; have := (x &&& 255).toBitVec.isLt; omega
      rw [h1]; omega
    rw [hb, Int32.lt_iff_toInt_lt, e]
    have e0 : (0 : Int32).toInt = 0 := rfl
    have e1 : (255 : Int32).toInt = 255 := rfl
    omega
theorem own_and3 (x : Int32) : 0 ≤ (x &&& 3).toInt ∧ (x &&& 3).toInt < 4 := by
  have e := Jvm.Kit.i32_mask x 3 (k := 2) (by decide) (by decide)
  rw [e]; omega
theorem own_ef0 (m : MethodId) (x0 : Int32) (x1 : Int32) (x2 : Int32) : entryFrame m #[(.int x0), (.int x1), (.int x2)] maxLocals = mkF m 0 #[.val (.int x0), .val (.int x1), .val (.int x2), .unset, .unset, .unset, .unset, .unset, .unset, .unset] [] := by first | (simp [entryFrame, mkF, argsToLocals, Value.category, maxLocals]; done) | rfl
theorem own_ef1 (m : MethodId) (x0 : Addr) (x1 : Addr) : entryFrame m #[(.ref x0), (.ref x1)] 2 = mkF m 0 #[.val (.ref x0), .val (.ref x1)] [] := by first | (simp [entryFrame, mkF, argsToLocals, Value.category]; done) | rfl
theorem dd0_0 : decode jdk_42_method_3_code 0 = .ok (.aload_n 0, 1) := by decide +kernel
theorem dd0_1 : decode jdk_42_method_3_code 1 = .ok (.aload_n 1, 1) := by decide +kernel
theorem dd0_2 : decode jdk_42_method_3_code 2 = .ok (.iconst 0, 1) := by decide +kernel
theorem dd0_3 : decode jdk_42_method_3_code 3 = .ok (.aload_n 1, 1) := by decide +kernel
theorem dd0_4 : decode jdk_42_method_3_code 4 = .ok (.arraylength, 1) := by decide +kernel
theorem dd0_5 : decode jdk_42_method_3_code 5 = .ok (.aconst_null, 1) := by decide +kernel
theorem own_ef2 (m : MethodId) (x0 : Addr) (x1 : Addr) (x2 : Int32) (x3 : Int32) : entryFrame m #[(.ref x0), (.ref x1), (.int x2), (.int x3), .null] 6 = mkF m 0 #[.val (.ref x0), .val (.ref x1), .val (.int x2), .val (.int x3), .val .null, .unset] [] := by first | (simp [entryFrame, mkF, argsToLocals, Value.category]; done) | rfl
theorem dd1_0 : decode jdk_42_method_149_code 0 = .ok (.aload_n 0, 1) := by decide +kernel
theorem dd1_1 : decode jdk_42_method_149_code 1 = .ok (.invokespecial 1, 3) := by decide +kernel
theorem dd1_4 : decode jdk_42_method_149_code 4 = .ok (.iload_n 3, 1) := by decide +kernel
theorem dd1_5 : decode jdk_42_method_149_code 5 = .ok (.ifCond .ne 22, 3) := by decide +kernel
theorem dd1_27 : decode jdk_42_method_149_code 27 = .ok (.getstatic 38, 3) := by decide +kernel
theorem dd1_30 : decode jdk_42_method_149_code 30 = .ok (.ifCond .eq 28, 3) := by decide +kernel
theorem dd1_33 : decode jdk_42_method_149_code 33 = .ok (.aload_n 1, 1) := by decide +kernel
theorem dd1_34 : decode jdk_42_method_149_code 34 = .ok (.iload_n 2, 1) := by decide +kernel
theorem dd1_35 : decode jdk_42_method_149_code 35 = .ok (.iload_n 3, 1) := by decide +kernel
theorem own_ef3 (m : MethodId) (x0 : Addr) (x1 : Int32) (x2 : Int32) : entryFrame m #[(.ref x0), (.int x1), (.int x2)] 6 = mkF m 0 #[.val (.ref x0), .val (.int x1), .val (.int x2), .unset, .unset, .unset] [] := by first | (simp [entryFrame, mkF, argsToLocals, Value.category]; done) | rfl
theorem dd2_0 : decode jdk_52_method_16_code 0 = .ok (.iload_n 2, 1) := by decide +kernel
theorem dd2_1 : decode jdk_52_method_16_code 1 = .ok (.newarray .byte, 2) := by decide +kernel
theorem dd2_3 : decode jdk_52_method_16_code 3 = .ok (.astore_n 3, 1) := by decide +kernel
theorem dd2_4 : decode jdk_52_method_16_code 4 = .ok (.aload_n 0, 1) := by decide +kernel
theorem dd2_5 : decode jdk_52_method_16_code 5 = .ok (.iload_n 1, 1) := by decide +kernel
theorem dd2_6 : decode jdk_52_method_16_code 6 = .ok (.aload_n 3, 1) := by decide +kernel
theorem dd2_7 : decode jdk_52_method_16_code 7 = .ok (.iconst 0, 1) := by decide +kernel
theorem dd2_8 : decode jdk_52_method_16_code 8 = .ok (.iload_n 2, 1) := by decide +kernel
theorem own_ef4 (m : MethodId) (x0 : Addr) (x1 : Int32) (x2 : Addr) (x3 : Int32) (x4 : Int32) : entryFrame m #[(.ref x0), (.int x1), (.ref x2), (.int x3), (.int x4)] 7 = mkF m 0 #[.val (.ref x0), .val (.int x1), .val (.ref x2), .val (.int x3), .val (.int x4), .unset, .unset] [] := by first | (simp [entryFrame, mkF, argsToLocals, Value.category]; done) | rfl
theorem dd3_0 : decode jdk_52_method_21_code 0 = .ok (.iconst 0, 1) := by decide +kernel
theorem dd3_1 : decode jdk_52_method_21_code 1 = .ok (.istore 5, 2) := by decide +kernel
theorem dd3_3 : decode jdk_52_method_21_code 3 = .ok (.iload 5, 2) := by decide +kernel
theorem dd3_5 : decode jdk_52_method_21_code 5 = .ok (.iload 4, 2) := by decide +kernel
theorem dd3_7 : decode jdk_52_method_21_code 7 = .ok (.if_icmp .ge 37, 3) := by decide +kernel
theorem dd3_10 : decode jdk_52_method_21_code 10 = .ok (.aload_n 0, 1) := by decide +kernel
theorem dd3_11 : decode jdk_52_method_21_code 11 = .ok (.iload_n 1, 1) := by decide +kernel
theorem dd3_12 : decode jdk_52_method_21_code 12 = .ok (.caload, 1) := by decide +kernel
theorem dd3_13 : decode jdk_52_method_21_code 13 = .ok (.istore 6, 2) := by decide +kernel
theorem dd3_15 : decode jdk_52_method_21_code 15 = .ok (.iload 6, 2) := by decide +kernel
theorem dd3_17 : decode jdk_52_method_21_code 17 = .ok (.sipush 255, 3) := by decide +kernel
theorem dd3_20 : decode jdk_52_method_21_code 20 = .ok (.if_icmp .le 6, 3) := by decide +kernel
theorem dd3_26 : decode jdk_52_method_21_code 26 = .ok (.aload_n 2, 1) := by decide +kernel
theorem dd3_27 : decode jdk_52_method_21_code 27 = .ok (.iload_n 3, 1) := by decide +kernel
theorem dd3_28 : decode jdk_52_method_21_code 28 = .ok (.iload 6, 2) := by decide +kernel
theorem dd3_30 : decode jdk_52_method_21_code 30 = .ok (.i2b, 1) := by decide +kernel
theorem dd3_31 : decode jdk_52_method_21_code 31 = .ok (.bastore, 1) := by decide +kernel
theorem dd3_32 : decode jdk_52_method_21_code 32 = .ok (.iinc 1 1, 3) := by decide +kernel
theorem dd3_35 : decode jdk_52_method_21_code 35 = .ok (.iinc 3 1, 3) := by decide +kernel
theorem dd3_38 : decode jdk_52_method_21_code 38 = .ok (.iinc 5 1, 3) := by decide +kernel
theorem dd3_41 : decode jdk_52_method_21_code 41 = .ok (.goto (-38), 3) := by decide +kernel
theorem dd3_44 : decode jdk_52_method_21_code 44 = .ok (.iload 4, 2) := by decide +kernel
theorem dd3_46 : decode jdk_52_method_21_code 46 = .ok (.ireturn, 1) := by decide +kernel
def own_Q5 (Z : State) (ob_37 : Nat) (ob_115 : Nat) (kk_35 : ClassId) (in_41 : Int32) (in_57 : Int32) (kk_113 : ClassId) (h0 : Heap) (n0 : Nat) (v : Option Value) (h : Heap) (L : List Loc) : Prop := (v = some (.int 2) ∧ Fr n0 L ∧ Keep h0 h [ob_115] ∧ Arv Z h ob_115 kk_113 .byte 2 [(.int (in_41.toInt8.toInt32)), (.int (in_57.toInt8.toInt32))] (.int 0) ∧ Exa Z h ob_115 "[B")
theorem own_pn0 : plainFor (⟨"java/lang/StringUTF16", "compress", "([CI[BII)I"⟩ : MethodName) = true := by decide +kernel
set_option maxRecDepth 65536 in
set_option maxHeartbeats 40000000 in
theorem own_rm5 (l : Launch) (Z : State) (a0 : Array Value) (hw : ∀ d ∈ tables_1, d.before a0 Z = true) (ws : List Jvm.Cond) (ob_37 : Nat) (ob_115 : Nat) (kk_35 : ClassId) (in_41 : Int32) (in_57 : Int32) (kk_113 : ClassId) (h0 : Heap) (n0 : Nat) (Z0 : n0 ≤ h0.size) (O0 : Old Z n0 h0) (I122 : Arv Z h0 ob_37 kk_35 .char 2 [(.int in_41), (.int in_57)] (.int 0)) (I126 : ¬ (255 < in_41)) (I127 : Arv Z h0 ob_115 kk_113 .byte 2 [(.int 0), (.int 0)] (.int 0)) (I137 : n0 ≤ ob_115) (I147 : @Ne Nat ob_37 ob_115) (I152 : ¬ (255 < in_57)) (I163 : Exa Z h0 ob_115 "[B") :
    own_Met l Z h0 (⟨"java/lang/StringUTF16", "compress", "([CI[BII)I"⟩ : MethodName) jdk_52_method_21_code 7 (Option.some FieldType.int) ws ({ frames := 0, cells := 0, slots := 0, locals := 0 } : Room) #[(.ref ob_37), (.int 0), (.ref ob_115), (.int 0), (.int 2)] (own_Q5 Z ob_37 ob_115 kk_35 in_41 in_57 kk_113 h0 n0) 0 0 := by
  refine MetFree.of_bodySF own_pn0 hisR ?_
  intro p e s m args below meth c s₁ Bd hml0 hP hK
  obtain ⟨rfl, hZ, hh⟩ := hP
  have hx := Bd.exec
  have hby := Bd.bytes
  have hml : c.maxLocals = 7 := hml0
  have hown : s.vm.findClass "java/lang/StringUTF16" = some m.cls := findClass_of_methodNamed Bd.named
  have hnm := (name_of_methodNamed Bd.named Bd.method).1
  have X0 : Stand p l e ({ frames := 0, cells := 0, slots := 0, locals := 0 } : Room) s m #[(.ref ob_37), (.int 0), (.ref ob_115), (.int 0), (.int 2)] below meth c s₁ [] 0 0 := Stand.of_body Bd
  have e0 : s₁.heap = h0 := by rw [← hh, Bd.state]; rfl
  have N0 := Fr.nil n0
  show own_G p e below (s₁.setTop (entryFrame m #[(.ref ob_37), (.int 0), (.ref ob_115), (.int 0), (.int 2)] 7)) (own_P s (own_Q5 Z ob_37 ob_115 kk_35 in_41 in_57 kk_113 h0 n0) 0 0)
  refine own_cast (own_ef4 m ob_37 0 ob_115 0 2) ?_
  show own_G p e below (s₁.setTop (mkF m 0 #[rv ob_37, iv 0, rv ob_115, iv 0, iv 2, .unset, .unset] [])) _
  refine oS (fun _ => XS.iconst X0.here hx rfl (hb hby dd3_0) ) ?_
  refine oS (fun _ => XS.istore X0.here hx rfl (hb hby dd3_1) rfl (l' := #[rv ob_37, iv 0, rv ob_115, iv 0, iv 2, iv 0, .unset]) rfl) ?_
  refine oS (fun _ => XS.iload X0.here hx rfl (hb hby dd3_3) rfl) ?_
  refine oS (fun _ => XS.iload X0.here hx rfl (hb hby dd3_5) rfl) ?_
  show own_G p e below (s₁.setTop (mkF m 7 #[rv ob_37, iv 0, rv ob_115, iv 0, iv 2, iv 0, .unset] [(.int 2), (.int 0)])) _
  refine oS (fun _ => XS.icmpNo X0.here hx rfl (hb hby dd3_7) rfl (XT.ii_ge_f (by decide))) ?_
  show own_G p e below (s₁.setTop (mkF m 10 #[rv ob_37, iv 0, rv ob_115, iv 0, iv 2, iv 0, .unset] [])) _
  refine oS (fun _ => XS.aloadN X0.here hx rfl (hb hby dd3_10) rfl rfl) ?_
  refine oS (fun _ => XS.iloadN X0.here hx rfl (hb hby dd3_11) rfl) ?_
  refine oS (own_caload X0 hx hZ e0 I122 (by decide) (v := (.int in_41)) rfl rfl rfl (hb hby dd3_12)) ?_
  show own_G p e below (s₁.setTop (mkF m 13 #[rv ob_37, iv 0, rv ob_115, iv 0, iv 2, iv 0, .unset] [(.int in_41)])) _
  refine oS (fun _ => XS.istore X0.here hx rfl (hb hby dd3_13) rfl (l' := #[rv ob_37, iv 0, rv ob_115, iv 0, iv 2, iv 0, iv in_41]) rfl) ?_
  refine oS (fun _ => XS.iload X0.here hx rfl (hb hby dd3_15) rfl) ?_
  refine oS (fun _ => XS.sipush X0.here hx rfl (hb hby dd3_17) ) ?_
  refine oS (fun _ => XS.icmpYes X0.here hx rfl (pc0 := 20) (pc' := 26) rfl (hb hby dd3_20) rfl (XT.ii_le_t I126) (by decide) (by decide)) ?_
  show own_G p e below (s₁.setTop (mkF m 26 #[rv ob_37, iv 0, rv ob_115, iv 0, iv 2, iv 0, iv in_41] [])) _
  refine oS (fun _ => XS.aloadN X0.here hx rfl (hb hby dd3_26) rfl rfl) ?_
  refine oS (fun _ => XS.iloadN X0.here hx rfl (hb hby dd3_27) rfl) ?_
  refine oS (fun _ => XS.iload X0.here hx rfl (hb hby dd3_28) rfl) ?_
  refine oS (fun _ => XT.i2b X0.here hx rfl (hb hby dd3_30) rfl) ?_
  show own_G p e below (s₁.setTop (mkF m 31 #[rv ob_37, iv 0, rv ob_115, iv 0, iv 2, iv 0, iv in_41] [(.int (in_41.toInt8.toInt32)), (.int 0), (.ref ob_115)])) _
  obtain ⟨T128, h129, X130, e131, W132, A133, s134⟩ := own_stB X0 hx hZ e0 I127 (x' := (in_41.toInt8.toInt32)) 0 (own_narB _) rfl (by decide) (by simp) (g := (mkF m 31 #[rv ob_37, iv 0, rv ob_115, iv 0, iv 2, iv 0, iv in_41] [(.int (in_41.toInt8.toInt32)), (.int 0), (.ref ob_115)])) rfl (rest := []) rfl (hb hby dd3_31)
  have N135 := Fr.snoc X130 N0 I137
  have z138 := W132.size
  have F139 : Arv Z h129 ob_115 kk_113 .byte 2 [(.int (in_41.toInt8.toInt32)), (.int 0)] (.int 0) := A133
  refine oS s134 ?_
  show own_G p e below (T128.setTop (mkF m 32 #[rv ob_37, iv 0, rv ob_115, iv 0, iv 2, iv 0, iv in_41] [])) _
  refine oS (fun _ => XS.iinc X130.here hx rfl (hb hby dd3_32) rfl (l' := #[rv ob_37, iv 1, rv ob_115, iv 0, iv 2, iv 0, iv in_41]) rfl) ?_
  show own_G p e below (T128.setTop (mkF m 35 #[rv ob_37, iv 1, rv ob_115, iv 0, iv 2, iv 0, iv in_41] [])) _
  refine oS (fun _ => XS.iinc X130.here hx rfl (hb hby dd3_35) rfl (l' := #[rv ob_37, iv 1, rv ob_115, iv 1, iv 2, iv 0, iv in_41]) rfl) ?_
  show own_G p e below (T128.setTop (mkF m 38 #[rv ob_37, iv 1, rv ob_115, iv 1, iv 2, iv 0, iv in_41] [])) _
  refine oS (fun _ => XS.iinc X130.here hx rfl (hb hby dd3_38) rfl (l' := #[rv ob_37, iv 1, rv ob_115, iv 1, iv 2, iv 1, iv in_41]) rfl) ?_
  show own_G p e below (T128.setTop (mkF m 41 #[rv ob_37, iv 1, rv ob_115, iv 1, iv 2, iv 1, iv in_41] [])) _
  refine oS (fun _ => XS.goto X130.here hx rfl (pc0 := 41) (pc' := 3) rfl (hb hby dd3_41) (by decide) (by decide)) ?_
  show own_G p e below (T128.setTop (mkF m 3 #[rv ob_37, iv 1, rv ob_115, iv 1, iv 2, iv 1, iv in_41] [])) _
  refine oS (fun _ => XS.iload X130.here hx rfl (hb hby dd3_3) rfl) ?_
  refine oS (fun _ => XS.iload X130.here hx rfl (hb hby dd3_5) rfl) ?_
  refine oS (fun _ => XS.icmpNo X130.here hx rfl (hb hby dd3_7) rfl (XT.ii_ge_f (by decide))) ?_
  show own_G p e below (T128.setTop (mkF m 10 #[rv ob_37, iv 1, rv ob_115, iv 1, iv 2, iv 1, iv in_41] [])) _
  refine oS (fun _ => XS.aloadN X130.here hx rfl (hb hby dd3_10) rfl rfl) ?_
  refine oS (fun _ => XS.iloadN X130.here hx rfl (hb hby dd3_11) rfl) ?_
  have F148 : Arv Z h129 ob_37 kk_35 .char 2 [(.int in_41), (.int in_57)] (.int 0) := I122.other W132 I147
  refine oS (own_caload X130 hx hZ e131 F148 (by decide) (v := (.int in_57)) rfl rfl rfl (hb hby dd3_12)) ?_
  show own_G p e below (T128.setTop (mkF m 13 #[rv ob_37, iv 1, rv ob_115, iv 1, iv 2, iv 1, iv in_41] [(.int in_57)])) _
  refine oS (fun _ => XS.istore X130.here hx rfl (hb hby dd3_13) rfl (l' := #[rv ob_37, iv 1, rv ob_115, iv 1, iv 2, iv 1, iv in_57]) rfl) ?_
  refine oS (fun _ => XS.iload X130.here hx rfl (hb hby dd3_15) rfl) ?_
  refine oS (fun _ => XS.sipush X130.here hx rfl (hb hby dd3_17) ) ?_
  refine oS (fun _ => XS.icmpYes X130.here hx rfl (pc0 := 20) (pc' := 26) rfl (hb hby dd3_20) rfl (XT.ii_le_t I152) (by decide) (by decide)) ?_
  show own_G p e below (T128.setTop (mkF m 26 #[rv ob_37, iv 1, rv ob_115, iv 1, iv 2, iv 1, iv in_57] [])) _
  refine oS (fun _ => XS.aloadN X130.here hx rfl (hb hby dd3_26) rfl rfl) ?_
  refine oS (fun _ => XS.iloadN X130.here hx rfl (hb hby dd3_27) rfl) ?_
  refine oS (fun _ => XS.iload X130.here hx rfl (hb hby dd3_28) rfl) ?_
  refine oS (fun _ => XT.i2b X130.here hx rfl (hb hby dd3_30) rfl) ?_
  show own_G p e below (T128.setTop (mkF m 31 #[rv ob_37, iv 1, rv ob_115, iv 1, iv 2, iv 1, iv in_57] [(.int (in_57.toInt8.toInt32)), (.int 1), (.ref ob_115)])) _
  obtain ⟨T153, h154, X155, e156, W157, A158, s159⟩ := own_stB X130 hx hZ e131 F139 (x' := (in_57.toInt8.toInt32)) 1 (own_narB _) rfl (by decide) (by simp) (g := (mkF m 31 #[rv ob_37, iv 1, rv ob_115, iv 1, iv 2, iv 1, iv in_57] [(.int (in_57.toInt8.toInt32)), (.int 1), (.ref ob_115)])) rfl (rest := []) rfl (hb hby dd3_31)
  have N160 := Fr.snoc X155 N135 I137
  have z161 := W157.size
  have F162 : Arv Z h154 ob_115 kk_113 .byte 2 [(.int (in_41.toInt8.toInt32)), (.int (in_57.toInt8.toInt32))] (.int 0) := A158
  refine oS s159 ?_
  show own_G p e below (T153.setTop (mkF m 32 #[rv ob_37, iv 1, rv ob_115, iv 1, iv 2, iv 1, iv in_57] [])) _
  refine oS (fun _ => XS.iinc X155.here hx rfl (hb hby dd3_32) rfl (l' := #[rv ob_37, iv 2, rv ob_115, iv 1, iv 2, iv 1, iv in_57]) rfl) ?_
  show own_G p e below (T153.setTop (mkF m 35 #[rv ob_37, iv 2, rv ob_115, iv 1, iv 2, iv 1, iv in_57] [])) _
  refine oS (fun _ => XS.iinc X155.here hx rfl (hb hby dd3_35) rfl (l' := #[rv ob_37, iv 2, rv ob_115, iv 2, iv 2, iv 1, iv in_57]) rfl) ?_
  show own_G p e below (T153.setTop (mkF m 38 #[rv ob_37, iv 2, rv ob_115, iv 2, iv 2, iv 1, iv in_57] [])) _
  refine oS (fun _ => XS.iinc X155.here hx rfl (hb hby dd3_38) rfl (l' := #[rv ob_37, iv 2, rv ob_115, iv 2, iv 2, iv 2, iv in_57]) rfl) ?_
  show own_G p e below (T153.setTop (mkF m 41 #[rv ob_37, iv 2, rv ob_115, iv 2, iv 2, iv 2, iv in_57] [])) _
  refine oS (fun _ => XS.goto X155.here hx rfl (pc0 := 41) (pc' := 3) rfl (hb hby dd3_41) (by decide) (by decide)) ?_
  show own_G p e below (T153.setTop (mkF m 3 #[rv ob_37, iv 2, rv ob_115, iv 2, iv 2, iv 2, iv in_57] [])) _
  refine oS (fun _ => XS.iload X155.here hx rfl (hb hby dd3_3) rfl) ?_
  refine oS (fun _ => XS.iload X155.here hx rfl (hb hby dd3_5) rfl) ?_
  refine oS (fun _ => XS.icmpYes X155.here hx rfl (pc0 := 7) (pc' := 44) rfl (hb hby dd3_7) rfl (XT.ii_ge_t (by decide)) (by decide) (by decide)) ?_
  show own_G p e below (T153.setTop (mkF m 44 #[rv ob_37, iv 2, rv ob_115, iv 2, iv 2, iv 2, iv in_57] [])) _
  refine oS (fun _ => XS.iload X155.here hx rfl (hb hby dd3_44) rfl) ?_
  have F164 : Exa Z h129 ob_115 "[B" := Exa.wr W132 I163
  have F165 : Exa Z h154 ob_115 "[B" := Exa.wr W157 F164
  have K166 : Keep h0 h154 [ob_115] := (((Keep.refl h0 [ob_115]).wr W132 (Or.inl (by simp))).wr W157 (Or.inl (by simp)))
  exact own_retI X155 hx Bd.notSynchronized Bd.returns (hb hby dd3_46) e156 (by decide) (by decide) (⟨rfl, N160, K166, F162, F165⟩)
theorem own_pd0 : parseMethodDescriptor "([CI[BII)I" = some ⟨[(.array .char), .int, (.array .byte), .int, .int], (some .int)⟩ := by decide +kernel
theorem dd2_9 : decode jdk_52_method_16_code 9 = .ok (.invokestatic 115, 3) := by decide +kernel
theorem dd2_12 : decode jdk_52_method_16_code 12 = .ok (.istore 4, 2) := by decide +kernel
theorem dd2_14 : decode jdk_52_method_16_code 14 = .ok (.iload 4, 2) := by decide +kernel
theorem dd2_16 : decode jdk_52_method_16_code 16 = .ok (.iload_n 2, 1) := by decide +kernel
theorem dd2_17 : decode jdk_52_method_16_code 17 = .ok (.if_icmp .eq 40, 3) := by decide +kernel
theorem dd2_57 : decode jdk_52_method_16_code 57 = .ok (.aload_n 3, 1) := by decide +kernel
theorem dd2_58 : decode jdk_52_method_16_code 58 = .ok (.areturn, 1) := by decide +kernel
def own_Q4 (Z : State) (ob_37 : Nat) (kk_35 : ClassId) (in_41 : Int32) (in_57 : Int32) (h0 : Heap) (n0 : Nat) (v : Option Value) (h : Heap) (L : List Loc) : Prop := (∃ ob_115 : Nat, ∃ kk_113 : ClassId, v = some (.ref ob_115) ∧ Fr n0 L ∧ Keep h0 h [] ∧ h0.size ≤ ob_115 ∧ Arv Z h ob_115 kk_113 .byte 2 [(.int (in_41.toInt8.toInt32)), (.int (in_57.toInt8.toInt32))] (.int 0) ∧ Exa Z h ob_115 "[B" ∧ @LT.lt Nat instLTNat ob_115 h.size)
theorem own_pn1 : plainFor (⟨"java/lang/StringUTF16", "compress", "([CII)[B"⟩ : MethodName) = true := by decide +kernel
set_option maxRecDepth 65536 in
set_option maxHeartbeats 40000000 in
theorem own_rm4 (l : Launch) (Z : State) (a0 : Array Value) (hw : ∀ d ∈ tables_1, d.before a0 Z = true) (ws : List Jvm.Cond) (ob_37 : Nat) (kk_35 : ClassId) (in_41 : Int32) (in_57 : Int32) (h0 : Heap) (n0 : Nat) (Z0 : n0 ≤ h0.size) (O0 : Old Z n0 h0) (I120 : Arv Z h0 ob_37 kk_35 .char 2 [(.int in_41), (.int in_57)] (.int 0)) (I125 : ¬ (255 < in_41)) (I145 : @LT.lt Nat instLTNat ob_37 h0.size) (I151 : ¬ (255 < in_57)) :
    own_Met l Z h0 (⟨"java/lang/StringUTF16", "compress", "([CII)[B"⟩ : MethodName) jdk_52_method_16_code 6 (Option.some (FieldType.array FieldType.byte)) ws ({ frames := 1, cells := 1, slots := 2, locals := 18 } : Room) #[(.ref ob_37), (.int 0), (.int 2)] (own_Q4 Z ob_37 kk_35 in_41 in_57 h0 n0) 1 2 := by
  refine MetFree.of_bodySF own_pn1 hisR ?_
  intro p e s m args below meth c s₁ Bd hml0 hP hK
  obtain ⟨rfl, hZ, hh⟩ := hP
  have hx := Bd.exec
  have hby := Bd.bytes
  have hml : c.maxLocals = 6 := hml0
  have hown : s.vm.findClass "java/lang/StringUTF16" = some m.cls := findClass_of_methodNamed Bd.named
  have hnm := (name_of_methodNamed Bd.named Bd.method).1
  have X0 : Stand p l e ({ frames := 1, cells := 1, slots := 2, locals := 18 } : Room) s m #[(.ref ob_37), (.int 0), (.int 2)] below meth c s₁ [] 0 0 := Stand.of_body Bd
  have e0 : s₁.heap = h0 := by rw [← hh, Bd.state]; rfl
  have N0 := Fr.nil n0
  show own_G p e below (s₁.setTop (entryFrame m #[(.ref ob_37), (.int 0), (.int 2)] 6)) (own_P s (own_Q4 Z ob_37 kk_35 in_41 in_57 h0 n0) 1 2)
  refine own_cast (own_ef3 m ob_37 0 2) ?_
  show own_G p e below (s₁.setTop (mkF m 0 #[rv ob_37, iv 0, iv 2, .unset, .unset, .unset] [])) _
  refine oS (fun _ => XS.iloadN X0.here hx rfl (hb hby dd2_0) rfl) ?_
  obtain ⟨T104, h105, kk_113, X107, e108, E109, A110, B114, s111⟩ := own_newP X0 hx hZ (aty := .byte) (oW hw 22 rfl) e0 (nm := "[B") rfl (g := (mkF m 1 #[rv ob_37, iv 0, iv 2, .unset, .unset, .unset] [(.int 2)])) rfl (hb hby dd2_1) (n := 2) (rest := []) rfl (by decide) (cap := 2) (by decide) (by decide) (by decide) (by decide)
  obtain ⟨ob_115, g116⟩ : ∃ z, z = h0.size := ⟨_, rfl⟩
  rw [← g116] at A110 B114 s111
  have F117 : Arv Z h105 ob_115 kk_113 .byte 2 [(.int 0), (.int 0)] (.int 0) := own_newA A110 (by decide) rfl rfl
  have z118 := E109.1
  have y112 : @LT.lt Nat instLTNat ob_115 h105.size := F117.lt
  refine oS s111 ?_
  show own_G p e below (T104.setTop (mkF m 3 #[rv ob_37, iv 0, iv 2, .unset, .unset, .unset] [(.ref ob_115)])) _
  refine oS (fun _ => XS.astoreN X107.here hx rfl (hb hby dd2_3) rfl rfl (l' := #[rv ob_37, iv 0, iv 2, rv ob_115, .unset, .unset]) rfl) ?_
  refine oS (fun _ => XS.aloadN X107.here hx rfl (hb hby dd2_4) rfl rfl) ?_
  refine oS (fun _ => XS.iloadN X107.here hx rfl (hb hby dd2_5) rfl) ?_
  refine oS (fun _ => XS.aloadN X107.here hx rfl (hb hby dd2_6) rfl rfl) ?_
  show own_G p e below (T104.setTop (mkF m 7 #[rv ob_37, iv 0, iv 2, rv ob_115, .unset, .unset] [(.ref ob_115), (.int 0), (.ref ob_37)])) _
  refine oS (fun _ => XS.iconst X107.here hx rfl (hb hby dd2_7) ) ?_
  refine oS (fun _ => XS.iloadN X107.here hx rfl (hb hby dd2_8) rfl) ?_
  have F121 : Arv Z h105 ob_37 kk_35 .char 2 [(.int in_41), (.int in_57)] (.int 0) := I120.ext E109
  have N136 : n0 ≤ ob_115 := by omega
  have N146 : @Ne Nat ob_37 ob_115 := by omega
  have O167 : Old Z n0 h105 := O0.ext E109
  have Z168 : n0 ≤ h105.size := by omega
  obtain ⟨T169, h170, v171, L172, X173, e174, q175, s176⟩ := own_callS X107 hx hZ hown e108 (y := (⟨"java/lang/StringUTF16", "compress", "([CI[BII)I"⟩ : MethodName)) (oW hw 23 rfl) (oW hw 24 rfl) (oW hw 20 rfl) (oW hw 25 rfl) (by decide) (W := 0) (own_rm5 l Z a0 hw [] ob_37 ob_115 kk_35 in_41 in_57 kk_113 h105 n0 Z168 O167 F121 I125 F117 N136 N146 I151 B114) (by decide) (by decide) (by decide) (by decide) (g := (mkF m 9 #[rv ob_37, iv 0, iv 2, rv ob_115, .unset, .unset] [(.int 2), (.int 0), (.ref ob_115), (.int 0), (.ref ob_37)])) rfl (by rw [hml]; rfl) (argsL := [(.ref ob_37), (.int 0), (.ref ob_115), (.int 0), (.int 2)]) (rest := []) rfl (lenOf own_pd0 rfl) rfl (by show 2 * 0 + _ ≤ _; exact Nat.le_of_eq rfl) (hb hby dd2_9)
  refine oS s176 ?_
  obtain ⟨rfl, N177, K178, F179, F180⟩ := q175
  have N181 := Fr.app N0 N177
  have z182 := K178.1
  show own_G p e below (T169.setTop (mkF m 12 #[rv ob_37, iv 0, iv 2, rv ob_115, .unset, .unset] [(.int 2)])) _
  refine oS (fun _ => XS.istore X173.here hx rfl (hb hby dd2_12) rfl (l' := #[rv ob_37, iv 0, iv 2, rv ob_115, iv 2, .unset]) rfl) ?_
  refine oS (fun _ => XS.iload X173.here hx rfl (hb hby dd2_14) rfl) ?_
  refine oS (fun _ => XS.iloadN X173.here hx rfl (hb hby dd2_16) rfl) ?_
  refine oS (fun _ => XS.icmpYes X173.here hx rfl (pc0 := 17) (pc' := 57) rfl (hb hby dd2_17) rfl (XT.ii_eq_t (by decide)) (by decide) (by decide)) ?_
  show own_G p e below (T169.setTop (mkF m 57 #[rv ob_37, iv 0, iv 2, rv ob_115, iv 2, .unset] [])) _
  refine oS (fun _ => XS.aloadN X173.here hx rfl (hb hby dd2_57) rfl rfl) ?_
  have y183 : @LT.lt Nat instLTNat ob_115 h170.size := by omega
  have K184 : Keep h0 h170 [] := (((Keep.refl h0 []).ext E109).trans K178 (allS (Or.inr (by omega)) all0))
  exact own_retA X173 hx Bd.notSynchronized Bd.returns rfl rfl (hb hby dd2_58) e174 (by decide) (by decide) (⟨ob_115, kk_113, rfl, N181, K184, (by omega), F179, F180, y183⟩)
theorem own_pd1 : parseMethodDescriptor "([CII)[B" = some ⟨[(.array .char), .int, .int], (some (.array .byte))⟩ := by decide +kernel
theorem dd1_36 : decode jdk_42_method_149_code 36 = .ok (.invokestatic 177, 3) := by decide +kernel
theorem dd1_39 : decode jdk_42_method_149_code 39 = .ok (.astore 5, 2) := by decide +kernel
theorem dd1_41 : decode jdk_42_method_149_code 41 = .ok (.aload_n 0, 1) := by decide +kernel
theorem dd1_42 : decode jdk_42_method_149_code 42 = .ok (.aload 5, 2) := by decide +kernel
theorem dd1_44 : decode jdk_42_method_149_code 44 = .ok (.iload_n 3, 1) := by decide +kernel
theorem own_ef5 (m : MethodId) (x0 : Addr) (x1 : Int32) : entryFrame m #[(.ref x0), (.int x1)] 2 = mkF m 0 #[.val (.ref x0), .val (.int x1)] [] := by first | (simp [entryFrame, mkF, argsToLocals, Value.category]; done) | rfl
theorem dd4_0 : decode jdk_52_method_15_code 0 = .ok (.iload_n 1, 1) := by decide +kernel
theorem dd4_1 : decode jdk_52_method_15_code 1 = .ok (.aload_n 0, 1) := by decide +kernel
theorem dd4_2 : decode jdk_52_method_15_code 2 = .ok (.arraylength, 1) := by decide +kernel
theorem dd4_3 : decode jdk_52_method_15_code 3 = .ok (.isub, 1) := by decide +kernel
theorem dd4_4 : decode jdk_52_method_15_code 4 = .ok (.bipush 31, 2) := by decide +kernel
theorem dd4_6 : decode jdk_52_method_15_code 6 = .ok (.iushr, 1) := by decide +kernel
theorem dd4_7 : decode jdk_52_method_15_code 7 = .ok (.i2b, 1) := by decide +kernel
theorem dd4_8 : decode jdk_52_method_15_code 8 = .ok (.ireturn, 1) := by decide +kernel
def own_Q6 (Z : State) (ob_193 : Nat) (kk_194 : ClassId) (in_41 : Int32) (in_57 : Int32) (h0 : Heap) (n0 : Nat) (v : Option Value) (h : Heap) (L : List Loc) : Prop := (v = some (.int 0) ∧ Fr n0 L ∧ h = h0)
theorem own_pn2 : plainFor (⟨"java/lang/StringUTF16", "coderFromArrayLen", "([BI)B"⟩ : MethodName) = true := by decide +kernel
set_option maxRecDepth 65536 in
set_option maxHeartbeats 40000000 in
theorem own_rm6 (l : Launch) (Z : State) (a0 : Array Value) (hw : ∀ d ∈ tables_1, d.before a0 Z = true) (ws : List Jvm.Cond) (ob_193 : Nat) (kk_194 : ClassId) (in_41 : Int32) (in_57 : Int32) (h0 : Heap) (n0 : Nat) (Z0 : n0 ≤ h0.size) (O0 : Old Z n0 h0) (I203 : Arv Z h0 ob_193 kk_194 .byte 2 [(.int (in_41.toInt8.toInt32)), (.int (in_57.toInt8.toInt32))] (.int 0)) :
    own_Met l Z h0 (⟨"java/lang/StringUTF16", "coderFromArrayLen", "([BI)B"⟩ : MethodName) jdk_52_method_15_code 2 (Option.some FieldType.byte) ws ({ frames := 0, cells := 0, slots := 0, locals := 0 } : Room) #[(.ref ob_193), (.int 2)] (own_Q6 Z ob_193 kk_194 in_41 in_57 h0 n0) 0 0 := by
  refine MetFree.of_bodySF own_pn2 hisR ?_
  intro p e s m args below meth c s₁ Bd hml0 hP hK
  obtain ⟨rfl, hZ, hh⟩ := hP
  have hx := Bd.exec
  have hby := Bd.bytes
  have hml : c.maxLocals = 2 := hml0
  have hown : s.vm.findClass "java/lang/StringUTF16" = some m.cls := findClass_of_methodNamed Bd.named
  have hnm := (name_of_methodNamed Bd.named Bd.method).1
  have X0 : Stand p l e ({ frames := 0, cells := 0, slots := 0, locals := 0 } : Room) s m #[(.ref ob_193), (.int 2)] below meth c s₁ [] 0 0 := Stand.of_body Bd
  have e0 : s₁.heap = h0 := by rw [← hh, Bd.state]; rfl
  have N0 := Fr.nil n0
  show own_G p e below (s₁.setTop (entryFrame m #[(.ref ob_193), (.int 2)] 2)) (own_P s (own_Q6 Z ob_193 kk_194 in_41 in_57 h0 n0) 0 0)
  refine own_cast (own_ef5 m ob_193 2) ?_
  show own_G p e below (s₁.setTop (mkF m 0 #[rv ob_193, iv 2] [])) _
  refine oS (fun _ => XS.iloadN X0.here hx rfl (hb hby dd4_0) rfl) ?_
  refine oS (fun _ => XS.aloadN X0.here hx rfl (hb hby dd4_1) rfl rfl) ?_
  refine oS (own_len X0 hx hZ e0 I203 rfl rfl (hb hby dd4_2)) ?_
  show own_G p e below (s₁.setTop (mkF m 3 #[rv ob_193, iv 2] [(.int 2), (.int 2)])) _
  refine oS (fun _ => XS.isub X0.here hx rfl (hb hby dd4_3) rfl) ?_
  refine oS (fun _ => XS.bipush X0.here hx rfl (hb hby dd4_4) ) ?_
  refine oS (fun _ => XT.iushr X0.here hx rfl (hb hby dd4_6) rfl) ?_
  refine oS (fun _ => XT.i2b X0.here hx rfl (hb hby dd4_7) rfl) ?_
  show own_G p e below (s₁.setTop (mkF m 8 #[rv ob_193, iv 2] [(.int 0)])) _
  exact own_retN X0 hx (t := .byte) Bd.notSynchronized Bd.returns (by simp) (hb hby dd4_8) (by decide) e0 (by decide) (by decide) (⟨rfl, N0, rfl⟩)
theorem own_pd2 : parseMethodDescriptor "([BI)B" = some ⟨[(.array .byte), .int], (some .byte)⟩ := by decide +kernel
theorem dd1_45 : decode jdk_42_method_149_code 45 = .ok (.invokestatic 47, 3) := by decide +kernel
theorem dd1_48 : decode jdk_42_method_149_code 48 = .ok (.putfield 15, 3) := by decide +kernel
theorem dd1_51 : decode jdk_42_method_149_code 51 = .ok (.aload_n 0, 1) := by decide +kernel
theorem dd1_52 : decode jdk_42_method_149_code 52 = .ok (.aload 5, 2) := by decide +kernel
theorem dd1_54 : decode jdk_42_method_149_code 54 = .ok (.putfield 9, 3) := by decide +kernel
theorem dd1_57 : decode jdk_42_method_149_code 57 = .ok (.return_, 1) := by decide +kernel
def own_Q3 (Z : State) (ob_82 : Nat) (ob_37 : Nat) (in_4 : Int32) (kk_35 : ClassId) (in_41 : Int32) (in_57 : Int32) (h0 : Heap) (n0 : Nat) (v : Option Value) (h : Heap) (L : List Loc) : Prop := (∃ ob_193 : Nat, ∃ kk_194 : ClassId, v = none ∧ Fr n0 L ∧ Keep h0 h [ob_82] ∧ h0.size ≤ ob_193 ∧ Fld Z h ob_82 "java/lang/String" "coder" "B" (.int 0) ∧ Exa Z h ob_82 "java/lang/String" ∧ Fld Z h ob_82 "java/lang/String" "value" "[B" (.ref ob_193) ∧ Arv Z h ob_193 kk_194 .byte 2 [(.int (in_41.toInt8.toInt32)), (.int (in_57.toInt8.toInt32))] (.int 0) ∧ Exa Z h ob_193 "[B" ∧ @LT.lt Nat instLTNat ob_193 h.size)
theorem own_pn3 : plainFor (⟨"java/lang/String", "<init>", "([CIILjava/lang/Void;)V"⟩ : MethodName) = true := by decide +kernel
set_option maxRecDepth 65536 in
set_option maxHeartbeats 40000000 in
theorem own_rm3 (l : Launch) (Z : State) (a0 : Array Value) (hw : ∀ d ∈ tables_1, d.before a0 Z = true) (ws : List Jvm.Cond) (ob_82 : Nat) (ob_37 : Nat) (in_4 : Int32) (kk_35 : ClassId) (in_41 : Int32) (in_57 : Int32) (h0 : Heap) (n0 : Nat) (Z0 : n0 ≤ h0.size) (O0 : Old Z n0 h0) (I95 : Sta Z Z.heap "java/lang/String" "COMPACT_STRINGS" "Z" (.int in_4)) (I103 : ¬ (in_4 = 0)) (I119 : Arv Z h0 ob_37 kk_35 .char 2 [(.int in_41), (.int in_57)] (.int 0)) (I124 : ¬ (255 < in_41)) (I143 : @LT.lt Nat instLTNat ob_37 h0.size) (I150 : ¬ (255 < in_57)) (I219 : Fld Z h0 ob_82 "java/lang/String" "coder" "B" (.int 0)) (I222 : Exa Z h0 ob_82 "java/lang/String") (I233 : n0 ≤ ob_82) (I237 : Fld Z h0 ob_82 "java/lang/String" "value" "[B" .null) (I255 : @LT.lt Nat instLTNat ob_82 h0.size) :
    own_Met l Z h0 (⟨"java/lang/String", "<init>", "([CIILjava/lang/Void;)V"⟩ : MethodName) jdk_42_method_149_code 6 (Option.none : Option FieldType) ws ({ frames := 2, cells := 1, slots := 2, locals := 35 } : Room) #[(.ref ob_82), (.ref ob_37), (.int 0), (.int 2), .null] (own_Q3 Z ob_82 ob_37 in_4 kk_35 in_41 in_57 h0 n0) 1 2 := by
  refine MetFree.of_bodySF own_pn3 hisR ?_
  intro p e s m args below meth c s₁ Bd hml0 hP hK
  obtain ⟨rfl, hZ, hh⟩ := hP
  have hx := Bd.exec
  have hby := Bd.bytes
  have hml : c.maxLocals = 6 := hml0
  have hown : s.vm.findClass "java/lang/String" = some m.cls := findClass_of_methodNamed Bd.named
  have hnm := (name_of_methodNamed Bd.named Bd.method).1
  have X0 : Stand p l e ({ frames := 2, cells := 1, slots := 2, locals := 35 } : Room) s m #[(.ref ob_82), (.ref ob_37), (.int 0), (.int 2), .null] below meth c s₁ [] 0 0 := Stand.of_body Bd
  have e0 : s₁.heap = h0 := by rw [← hh, Bd.state]; rfl
  have N0 := Fr.nil n0
  show own_G p e below (s₁.setTop (entryFrame m #[(.ref ob_82), (.ref ob_37), (.int 0), (.int 2), .null] 6)) (own_P s (own_Q3 Z ob_82 ob_37 in_4 kk_35 in_41 in_57 h0 n0) 1 2)
  refine own_cast (own_ef2 m ob_82 ob_37 0 2) ?_
  show own_G p e below (s₁.setTop (mkF m 0 #[rv ob_82, rv ob_37, iv 0, iv 2, .val .null, .unset] [])) _
  refine oS (fun _ => XS.aloadN X0.here hx rfl (hb hby dd1_0) rfl rfl) ?_
  obtain ⟨T89, X90, e91, s92⟩ := initO X0 hx hZ hown (oW hw 14 rfl) (oW hw 15 rfl) (oW hw 16 rfl) e0 (g := (mkF m 1 #[rv ob_82, rv ob_37, iv 0, iv 2, .val .null, .unset] [(.ref ob_82)])) rfl (by rw [hml]; rfl) rfl (hb hby dd1_1) (by decide) (W := 0) (by show 2 * 0 + _ ≤ _; exact Nat.le_of_eq rfl) (by decide)
  refine oS s92 ?_
  show own_G p e below (T89.setTop (mkF m 4 #[rv ob_82, rv ob_37, iv 0, iv 2, .val .null, .unset] [])) _
  refine oS (fun _ => XS.iloadN X90.here hx rfl (hb hby dd1_4) rfl) ?_
  refine oS (fun _ => XS.ifYes X90.here hx rfl (pc0 := 5) (pc' := 27) rfl (hb hby dd1_5) rfl (XT.i0_ne_t (by decide)) (by decide) (by decide)) ?_
  show own_G p e below (T89.setTop (mkF m 27 #[rv ob_82, rv ob_37, iv 0, iv 2, .val .null, .unset] [])) _
  have F96 : Sta Z h0 "java/lang/String" "COMPACT_STRINGS" "Z" (.int in_4) := Sta.ext O0.2 I95
  obtain ⟨T97, X98, e99, s100⟩ := getS X90 hx hZ hown (host := "") (oW hw 17 rfl) Via.refl e91 F96 (g := (mkF m 27 #[rv ob_82, rv ob_37, iv 0, iv 2, .val .null, .unset] [])) rfl (hb hby dd1_27)
  refine oS s100 ?_
  show own_G p e below (T97.setTop (mkF m 30 #[rv ob_82, rv ob_37, iv 0, iv 2, .val .null, .unset] [(.int in_4)])) _
  refine oS (fun _ => XS.ifNo X98.here hx rfl (hb hby dd1_30) rfl (XT.i0_eq_f I103)) ?_
  show own_G p e below (T97.setTop (mkF m 33 #[rv ob_82, rv ob_37, iv 0, iv 2, .val .null, .unset] [])) _
  refine oS (fun _ => XS.aloadN X98.here hx rfl (hb hby dd1_33) rfl rfl) ?_
  refine oS (fun _ => XS.iloadN X98.here hx rfl (hb hby dd1_34) rfl) ?_
  refine oS (fun _ => XS.iloadN X98.here hx rfl (hb hby dd1_35) rfl) ?_
  have y144 : @LT.lt Nat instLTNat ob_37 h0.size := by omega
  obtain ⟨T185, h186, v187, L188, X189, e190, q191, s192⟩ := own_callS X98 hx hZ hown e99 (y := (⟨"java/lang/StringUTF16", "compress", "([CII)[B"⟩ : MethodName)) (oW hw 18 rfl) (oW hw 19 rfl) (oW hw 20 rfl) (oW hw 21 rfl) (by decide) (W := 0) (own_rm4 l Z a0 hw [] ob_37 kk_35 in_41 in_57 h0 n0 Z0 O0 I119 I124 y144 I150) (by decide) (by decide) (by decide) (by decide) (g := (mkF m 36 #[rv ob_82, rv ob_37, iv 0, iv 2, .val .null, .unset] [(.int 2), (.int 0), (.ref ob_37)])) rfl (by rw [hml]; rfl) (argsL := [(.ref ob_37), (.int 0), (.int 2)]) (rest := []) rfl (lenOf own_pd1 rfl) rfl (by show 2 * 0 + _ ≤ _; exact Nat.le_of_eq rfl) (hb hby dd1_36)
  refine oS s192 ?_
  obtain ⟨ob_193, kk_194, rfl, N195, K196, F197, F198, F199, F200⟩ := q191
  have N201 := Fr.app N0 N195
  have z202 := K196.1
  show own_G p e below (T185.setTop (mkF m 39 #[rv ob_82, rv ob_37, iv 0, iv 2, .val .null, .unset] [(.ref ob_193)])) _
  refine oS (fun _ => XS.astore X189.here hx rfl (hb hby dd1_39) rfl rfl (l' := #[rv ob_82, rv ob_37, iv 0, iv 2, .val .null, rv ob_193]) rfl) ?_
  refine oS (fun _ => XS.aloadN X189.here hx rfl (hb hby dd1_41) rfl rfl) ?_
  refine oS (fun _ => XS.aload X189.here hx rfl (hb hby dd1_42) rfl rfl) ?_
  refine oS (fun _ => XS.iloadN X189.here hx rfl (hb hby dd1_44) rfl) ?_
  show own_G p e below (T185.setTop (mkF m 45 #[rv ob_82, rv ob_37, iv 0, iv 2, .val .null, rv ob_193] [(.int 2), (.ref ob_193), (.ref ob_82)])) _
  have O204 : Old Z n0 h186 := O0.keep K196 all0
  have Z205 : n0 ≤ h186.size := by omega
  obtain ⟨T206, h207, v208, L209, X210, e211, q212, s213⟩ := own_callS X189 hx hZ hown e190 (y := (⟨"java/lang/StringUTF16", "coderFromArrayLen", "([BI)B"⟩ : MethodName)) (oW hw 26 rfl) (oW hw 27 rfl) (oW hw 20 rfl) (oW hw 28 rfl) (by decide) (W := 1) (own_rm6 l Z a0 hw [] ob_193 kk_194 in_41 in_57 h186 n0 Z205 O204 F198) (by decide) (by decide) (by decide) (by decide) (g := (mkF m 45 #[rv ob_82, rv ob_37, iv 0, iv 2, .val .null, rv ob_193] [(.int 2), (.ref ob_193), (.ref ob_82)])) rfl (by rw [hml]; rfl) (argsL := [(.ref ob_193), (.int 2)]) (rest := [(.ref ob_82)]) rfl (lenOf own_pd2 rfl) rfl (by show 2 * 0 + _ ≤ _; exact Nat.le_of_eq rfl) (hb hby dd1_45)
  refine oS s213 ?_
  obtain ⟨rfl, N214, K215⟩ := q212
  have N216 := Fr.app N201 N214
  have e217 := e211.trans K215
  show own_G p e below (T206.setTop (mkF m 48 #[rv ob_82, rv ob_37, iv 0, iv 2, .val .null, rv ob_193] [(.int 0), (.ref ob_82)])) _
  have F220 : Fld Z h186 ob_82 "java/lang/String" "coder" "B" (.int 0) := I219.keep K196 nin0
  have F223 : Exa Z h186 ob_82 "java/lang/String" := I222.keep K196
  obtain ⟨T224, h225, X226, e227, W228, s229⟩ := putF X210 hx hZ hown (host := "") (Or.inl (oW hw 29 rfl)) Via.refl e217 F220 F223 (Or.inr ⟨(oW hw 30 rfl), rfl, hnm⟩) (oW hw 5 rfl) (ty := .byte) (by decide) (by decide) (by decide) (g := (mkF m 48 #[rv ob_82, rv ob_37, iv 0, iv 2, .val .null, rv ob_193] [(.int 0), (.ref ob_82)])) rfl rfl (hb hby dd1_48)
  have N230 := Fr.snoc X226 N216 I233
  have z234 := W228.size
  have F235 : Fld Z h225 ob_82 "java/lang/String" "coder" "B" (.int 0) := Fld.same W228 F220
  refine oS s229 ?_
  show own_G p e below (T224.setTop (mkF m 51 #[rv ob_82, rv ob_37, iv 0, iv 2, .val .null, rv ob_193] [])) _
  refine oS (fun _ => XS.aloadN X226.here hx rfl (hb hby dd1_51) rfl rfl) ?_
  refine oS (fun _ => XS.aload X226.here hx rfl (hb hby dd1_52) rfl rfl) ?_
  have F238 : Fld Z h186 ob_82 "java/lang/String" "value" "[B" .null := I237.keep K196 nin0
  have F239 : Fld Z h225 ob_82 "java/lang/String" "value" "[B" .null := Fld.other W228 F238 (Or.inr (slot_ne (C := "java/lang/String") (Or.inr (oW hw 32 rfl)) (Or.inr (oW hw 30 rfl)) (by decide) (t := (.array .byte)) (t' := .byte) (by decide) (by decide)))
  have F240 : Exa Z h225 ob_82 "java/lang/String" := Exa.wr W228 F223
  obtain ⟨T241, h242, X243, e244, W245, s246⟩ := putF X226 hx hZ hown (host := "") (Or.inl (oW hw 31 rfl)) Via.refl e227 F239 F240 (Or.inr ⟨(oW hw 32 rfl), rfl, hnm⟩) (oW hw 5 rfl) (ty := (.array .byte)) (by decide) rfl rfl (g := (mkF m 54 #[rv ob_82, rv ob_37, iv 0, iv 2, .val .null, rv ob_193] [(.ref ob_193), (.ref ob_82)])) rfl rfl (hb hby dd1_54)
  have N247 := Fr.snoc X243 N230 I233
  have z248 := W245.size
  have F249 : Fld Z h242 ob_82 "java/lang/String" "value" "[B" (.ref ob_193) := Fld.same W245 F239
  refine oS s246 ?_
  show own_G p e below (T241.setTop (mkF m 57 #[rv ob_82, rv ob_37, iv 0, iv 2, .val .null, rv ob_193] [])) _
  have F250 : Fld Z h242 ob_82 "java/lang/String" "coder" "B" (.int 0) := Fld.other W245 F235 (Or.inr (slot_ne (C := "java/lang/String") (Or.inr (oW hw 30 rfl)) (Or.inr (oW hw 32 rfl)) (by decide) (t := .byte) (t' := (.array .byte)) (by decide) (by decide)))
  have F251 : Exa Z h242 ob_82 "java/lang/String" := Exa.wr W245 F240
  have N256 : @Ne Nat ob_193 ob_82 := by omega
  have F257 : Arv Z h225 ob_193 kk_194 .byte 2 [(.int (in_41.toInt8.toInt32)), (.int (in_57.toInt8.toInt32))] (.int 0) := F198.other W228 N256
  have F258 : Arv Z h242 ob_193 kk_194 .byte 2 [(.int (in_41.toInt8.toInt32)), (.int (in_57.toInt8.toInt32))] (.int 0) := F257.other W245 N256
  have F259 : Exa Z h225 ob_193 "[B" := Exa.wr W228 F199
  have F260 : Exa Z h242 ob_193 "[B" := Exa.wr W245 F259
  have y261 : @LT.lt Nat instLTNat ob_193 h242.size := by omega
  have K262 : Keep h0 h242 [ob_82] := ((((Keep.refl h0 [ob_82]).trans K196 all0).wr W228 (Or.inl (by simp))).wr W245 (Or.inl (by simp)))
  exact own_retV X243 hx Bd.notSynchronized Bd.returns (hb hby dd1_57) e244 (by decide) (by decide) (⟨ob_193, kk_194, rfl, N247, K262, (by omega), F250, F251, F249, F258, F260, y261⟩)
theorem own_pd3 : parseMethodDescriptor "([CIILjava/lang/Void;)V" = some ⟨[(.array .char), .int, .int, (.object "java/lang/Void")], none⟩ := by decide +kernel
theorem dd0_6 : decode jdk_42_method_3_code 6 = .ok (.invokespecial 27, 3) := by decide +kernel
theorem dd0_9 : decode jdk_42_method_3_code 9 = .ok (.return_, 1) := by decide +kernel
def own_Q2 (Z : State) (ob_82 : Nat) (ob_37 : Nat) (kk_35 : ClassId) (in_41 : Int32) (in_57 : Int32) (in_4 : Int32) (h0 : Heap) (n0 : Nat) (v : Option Value) (h : Heap) (L : List Loc) : Prop := (∃ ob_271 : Nat, ∃ kk_272 : ClassId, v = none ∧ Fr n0 L ∧ Keep h0 h [ob_82] ∧ h0.size ≤ ob_271 ∧ Fld Z h ob_82 "java/lang/String" "coder" "B" (.int 0) ∧ Exa Z h ob_82 "java/lang/String" ∧ Fld Z h ob_82 "java/lang/String" "value" "[B" (.ref ob_271) ∧ Arv Z h ob_271 kk_272 .byte 2 [(.int (in_41.toInt8.toInt32)), (.int (in_57.toInt8.toInt32))] (.int 0) ∧ Exa Z h ob_271 "[B" ∧ @LT.lt Nat instLTNat ob_271 h.size)
theorem own_pn4 : plainFor (⟨"java/lang/String", "<init>", "([C)V"⟩ : MethodName) = true := by decide +kernel
set_option maxRecDepth 65536 in
set_option maxHeartbeats 40000000 in
theorem own_rm2 (l : Launch) (Z : State) (a0 : Array Value) (hw : ∀ d ∈ tables_1, d.before a0 Z = true) (ws : List Jvm.Cond) (ob_82 : Nat) (ob_37 : Nat) (kk_35 : ClassId) (in_41 : Int32) (in_57 : Int32) (in_4 : Int32) (h0 : Heap) (n0 : Nat) (Z0 : n0 ≤ h0.size) (O0 : Old Z n0 h0) (I88 : Arv Z h0 ob_37 kk_35 .char 2 [(.int in_41), (.int in_57)] (.int 0)) (I94 : Sta Z Z.heap "java/lang/String" "COMPACT_STRINGS" "Z" (.int in_4)) (I102 : ¬ (in_4 = 0)) (I123 : ¬ (255 < in_41)) (I141 : @LT.lt Nat instLTNat ob_37 h0.size) (I149 : ¬ (255 < in_57)) (I218 : Fld Z h0 ob_82 "java/lang/String" "coder" "B" (.int 0)) (I221 : Exa Z h0 ob_82 "java/lang/String") (I232 : n0 ≤ ob_82) (I236 : Fld Z h0 ob_82 "java/lang/String" "value" "[B" .null) (I253 : @LT.lt Nat instLTNat ob_82 h0.size) :
    own_Met l Z h0 (⟨"java/lang/String", "<init>", "([C)V"⟩ : MethodName) jdk_42_method_3_code 2 (Option.none : Option FieldType) ws ({ frames := 3, cells := 1, slots := 2, locals := 52 } : Room) #[(.ref ob_82), (.ref ob_37)] (own_Q2 Z ob_82 ob_37 kk_35 in_41 in_57 in_4 h0 n0) 1 2 := by
  refine MetFree.of_bodySF own_pn4 hisR ?_
  intro p e s m args below meth c s₁ Bd hml0 hP hK
  obtain ⟨rfl, hZ, hh⟩ := hP
  have hx := Bd.exec
  have hby := Bd.bytes
  have hml : c.maxLocals = 2 := hml0
  have hown : s.vm.findClass "java/lang/String" = some m.cls := findClass_of_methodNamed Bd.named
  have hnm := (name_of_methodNamed Bd.named Bd.method).1
  have X0 : Stand p l e ({ frames := 3, cells := 1, slots := 2, locals := 52 } : Room) s m #[(.ref ob_82), (.ref ob_37)] below meth c s₁ [] 0 0 := Stand.of_body Bd
  have e0 : s₁.heap = h0 := by rw [← hh, Bd.state]; rfl
  have N0 := Fr.nil n0
  show own_G p e below (s₁.setTop (entryFrame m #[(.ref ob_82), (.ref ob_37)] 2)) (own_P s (own_Q2 Z ob_82 ob_37 kk_35 in_41 in_57 in_4 h0 n0) 1 2)
  refine own_cast (own_ef1 m ob_82 ob_37) ?_
  show own_G p e below (s₁.setTop (mkF m 0 #[rv ob_82, rv ob_37] [])) _
  refine oS (fun _ => XS.aloadN X0.here hx rfl (hb hby dd0_0) rfl rfl) ?_
  refine oS (fun _ => XS.aloadN X0.here hx rfl (hb hby dd0_1) rfl rfl) ?_
  refine oS (fun _ => XS.iconst X0.here hx rfl (hb hby dd0_2) ) ?_
  refine oS (fun _ => XS.aloadN X0.here hx rfl (hb hby dd0_3) rfl rfl) ?_
  show own_G p e below (s₁.setTop (mkF m 4 #[rv ob_82, rv ob_37] [(.ref ob_37), (.int 0), (.ref ob_37), (.ref ob_82)])) _
  refine oS (own_len X0 hx hZ e0 I88 rfl rfl (hb hby dd0_4)) ?_
  show own_G p e below (s₁.setTop (mkF m 5 #[rv ob_82, rv ob_37] [(.int 2), (.int 0), (.ref ob_37), (.ref ob_82)])) _
  refine oS (fun _ => XS.aconstNull X0.here hx rfl (hb hby dd0_5) ) ?_
  have y142 : @LT.lt Nat instLTNat ob_37 h0.size := by omega
  have y254 : @LT.lt Nat instLTNat ob_82 h0.size := by omega
  obtain ⟨T263, h264, v265, L266, X267, e268, q269, s270⟩ := own_callN X0 hx hZ hown e0 (y := (⟨"java/lang/String", "<init>", "([CIILjava/lang/Void;)V"⟩ : MethodName)) (b := ob_82) rfl (oW hw 10 rfl) (oW hw 11 rfl) (oW hw 6 rfl) (oW hw 13 rfl) (by decide) (W := 0) (own_rm3 l Z a0 hw [] ob_82 ob_37 in_4 kk_35 in_41 in_57 h0 n0 Z0 O0 I94 I102 I88 I123 y142 I149 I218 I221 I232 I236 y254) (by decide) (by decide) (by decide) (by decide) (g := (mkF m 6 #[rv ob_82, rv ob_37] [.null, (.int 2), (.int 0), (.ref ob_37), (.ref ob_82)])) rfl (by rw [hml]; rfl) (argsL := [(.ref ob_37), (.int 0), (.int 2), .null]) (rest := []) rfl (lenOf own_pd3 rfl) rfl (by show 2 * 0 + _ ≤ _; exact Nat.le_of_eq rfl) (hb hby dd0_6)
  refine oS s270 ?_
  obtain ⟨ob_271, kk_272, rfl, N273, K274, F275, F276, F277, F278, F279, F280, F281⟩ := q269
  have N282 := Fr.app N0 N273
  have z283 := K274.1
  show own_G p e below (T263.setTop (mkF m 9 #[rv ob_82, rv ob_37] [])) _
  have y284 : @LT.lt Nat instLTNat ob_271 h264.size := by omega
  have K285 : Keep h0 h264 [ob_82] := ((Keep.refl h0 [ob_82]).trans K274 (allS (Or.inl (by simp)) all0))
  exact own_retV X267 hx Bd.notSynchronized Bd.returns (hb hby dd0_9) e268 (by decide) (by decide) (⟨ob_271, kk_272, rfl, N282, K285, (by omega), F276, F277, F278, F279, F280, y284⟩)
theorem own_pd4 : parseMethodDescriptor "([C)V" = some ⟨[(.array .char)], none⟩ := by decide +kernel
theorem own_ef6 (m : MethodId) (x0 : Addr) : entryFrame m #[(.ref x0)] 1 = mkF m 0 #[.val (.ref x0)] [] := by first | (simp [entryFrame, mkF, argsToLocals, Value.category]; done) | rfl
theorem dd5_0 : decode prog_11_method_5_code 0 = .ok (.iconst 1, 1) := by decide +kernel
theorem dd5_1 : decode prog_11_method_5_code 1 = .ok (.newarray .byte, 2) := by decide +kernel
theorem dd5_3 : decode prog_11_method_5_code 3 = .ok (.dup, 1) := by decide +kernel
theorem dd5_4 : decode prog_11_method_5_code 4 = .ok (.iconst 0, 1) := by decide +kernel
theorem dd5_5 : decode prog_11_method_5_code 5 = .ok (.aload_n 0, 1) := by decide +kernel
theorem dd5_6 : decode prog_11_method_5_code 6 = .ok (.getfield 35, 3) := by decide +kernel
theorem dd5_9 : decode prog_11_method_5_code 9 = .ok (.iconst 1, 1) := by decide +kernel
theorem dd5_10 : decode prog_11_method_5_code 10 = .ok (.iadd, 1) := by decide +kernel
theorem dd5_11 : decode prog_11_method_5_code 11 = .ok (.i2b, 1) := by decide +kernel
theorem dd5_12 : decode prog_11_method_5_code 12 = .ok (.bastore, 1) := by decide +kernel
theorem dd5_13 : decode prog_11_method_5_code 13 = .ok (.areturn, 1) := by decide +kernel
def own_Q7 (Z : State) (ob_13 : Nat) (in_15 : Int32) (h0 : Heap) (n0 : Nat) (v : Option Value) (h : Heap) (L : List Loc) : Prop := (∃ ob_323 : Nat, ∃ kk_321 : ClassId, v = some (.ref ob_323) ∧ Fr n0 L ∧ Keep h0 h [] ∧ h0.size ≤ ob_323 ∧ Arv Z h ob_323 kk_321 .byte 1 [(.int ((in_15 + 1).toInt8.toInt32))] (.int 0) ∧ Exa Z h ob_323 "[B" ∧ @LT.lt Nat instLTNat ob_323 h.size)
theorem own_pn5 : plainFor (⟨"com/example/ombor/ombor/db/Keyspace", "end", "()[B"⟩ : MethodName) = true := by decide +kernel
set_option maxRecDepth 65536 in
set_option maxHeartbeats 40000000 in
theorem own_rm7 (l : Launch) (Z : State) (a0 : Array Value) (hw : ∀ d ∈ tables_1, d.before a0 Z = true) (ws : List Jvm.Cond) (ob_13 : Nat) (in_15 : Int32) (h0 : Heap) (n0 : Nat) (Z0 : n0 ≤ h0.size) (O0 : Old Z n0 h0) (I327 : Fld Z Z.heap ob_13 "com/example/ombor/ombor/db/Keyspace" "prefix" "B" (.int in_15)) :
    own_Met l Z h0 (⟨"com/example/ombor/ombor/db/Keyspace", "end", "()[B"⟩ : MethodName) prog_11_method_5_code 1 (Option.some (FieldType.array FieldType.byte)) ws ({ frames := 0, cells := 1, slots := 1, locals := 0 } : Room) #[(.ref ob_13)] (own_Q7 Z ob_13 in_15 h0 n0) 1 1 := by
  refine MetFree.of_bodySF own_pn5 hisR ?_
  intro p e s m args below meth c s₁ Bd hml0 hP hK
  obtain ⟨rfl, hZ, hh⟩ := hP
  have hx := Bd.exec
  have hby := Bd.bytes
  have hml : c.maxLocals = 1 := hml0
  have hown : s.vm.findClass "com/example/ombor/ombor/db/Keyspace" = some m.cls := findClass_of_methodNamed Bd.named
  have hnm := (name_of_methodNamed Bd.named Bd.method).1
  have X0 : Stand p l e ({ frames := 0, cells := 1, slots := 1, locals := 0 } : Room) s m #[(.ref ob_13)] below meth c s₁ [] 0 0 := Stand.of_body Bd
  have e0 : s₁.heap = h0 := by rw [← hh, Bd.state]; rfl
  have N0 := Fr.nil n0
  show own_G p e below (s₁.setTop (entryFrame m #[(.ref ob_13)] 1)) (own_P s (own_Q7 Z ob_13 in_15 h0 n0) 1 1)
  refine own_cast (own_ef6 m ob_13) ?_
  show own_G p e below (s₁.setTop (mkF m 0 #[rv ob_13] [])) _
  refine oS (fun _ => XS.iconst X0.here hx rfl (hb hby dd5_0) ) ?_
  obtain ⟨T312, h313, kk_321, X315, e316, E317, A318, B322, s319⟩ := own_newP X0 hx hZ (aty := .byte) (oW hw 22 rfl) e0 (nm := "[B") rfl (g := (mkF m 1 #[rv ob_13] [(.int 1)])) rfl (hb hby dd5_1) (n := 1) (rest := []) rfl (by decide) (cap := 1) (by decide) (by decide) (by decide) (by decide)
  obtain ⟨ob_323, g324⟩ : ∃ z, z = h0.size := ⟨_, rfl⟩
  rw [← g324] at A318 B322 s319
  have F325 : Arv Z h313 ob_323 kk_321 .byte 1 [(.int 0)] (.int 0) := own_newA A318 (by decide) rfl rfl
  have z326 := E317.1
  have y320 : @LT.lt Nat instLTNat ob_323 h313.size := F325.lt
  refine oS s319 ?_
  show own_G p e below (T312.setTop (mkF m 3 #[rv ob_13] [(.ref ob_323)])) _
  refine oS (fun _ => XS.dup X315.here hx rfl (hb hby dd5_3) rfl rfl) ?_
  refine oS (fun _ => XS.iconst X315.here hx rfl (hb hby dd5_4) ) ?_
  refine oS (fun _ => XS.aloadN X315.here hx rfl (hb hby dd5_5) rfl rfl) ?_
  have O329 : Old Z n0 h313 := O0.ext E317
  have F328 : Fld Z h313 ob_13 "com/example/ombor/ombor/db/Keyspace" "prefix" "B" (.int in_15) := Fld.ext O329.2 I327
  obtain ⟨T330, X331, e332, s333⟩ := getF X315 hx hZ hown (host := "") (Or.inl (oW hw 38 rfl)) Via.refl e316 F328 (g := (mkF m 6 #[rv ob_13] [(.ref ob_13), (.int 0), (.ref ob_323), (.ref ob_323)])) rfl rfl (hb hby dd5_6)
  refine oS s333 ?_
  show own_G p e below (T330.setTop (mkF m 9 #[rv ob_13] [(.int in_15), (.int 0), (.ref ob_323), (.ref ob_323)])) _
  refine oS (fun _ => XS.iconst X331.here hx rfl (hb hby dd5_9) ) ?_
  refine oS (fun _ => XS.iadd X331.here hx rfl (hb hby dd5_10) rfl) ?_
  refine oS (fun _ => XT.i2b X331.here hx rfl (hb hby dd5_11) rfl) ?_
  obtain ⟨T334, h335, X336, e337, W338, A339, s340⟩ := own_stB X331 hx hZ e332 F325 (x' := ((in_15 + 1).toInt8.toInt32)) 0 (own_narB _) rfl (by decide) (by simp) (g := (mkF m 12 #[rv ob_13] [(.int ((in_15 + 1).toInt8.toInt32)), (.int 0), (.ref ob_323), (.ref ob_323)])) rfl (rest := [(.ref ob_323)]) rfl (hb hby dd5_12)
  have N342 : n0 ≤ ob_323 := by omega
  have N341 := Fr.snoc X336 N0 N342
  have z343 := W338.size
  have F344 : Arv Z h335 ob_323 kk_321 .byte 1 [(.int ((in_15 + 1).toInt8.toInt32))] (.int 0) := A339
  refine oS s340 ?_
  show own_G p e below (T334.setTop (mkF m 13 #[rv ob_13] [(.ref ob_323)])) _
  have F345 : Exa Z h335 ob_323 "[B" := Exa.wr W338 B322
  have y346 : @LT.lt Nat instLTNat ob_323 h335.size := by omega
  have K347 : Keep h0 h335 [] := (((Keep.refl h0 []).ext E317).wr W338 (Or.inr (by omega)))
  exact own_retA X336 hx Bd.notSynchronized Bd.returns rfl rfl (hb hby dd5_13) e337 (by decide) (by decide) (⟨ob_323, kk_321, rfl, N341, K347, (by omega), F344, F345, y346⟩)
theorem own_pd5 : parseMethodDescriptor "()[B" = some ⟨[], (some (.array .byte))⟩ := by decide +kernel
theorem dd6_0 : decode prog_11_method_6_code 0 = .ok (.aload_n 1, 1) := by decide +kernel
theorem dd6_1 : decode prog_11_method_6_code 1 = .ok (.arraylength, 1) := by decide +kernel
theorem dd6_2 : decode prog_11_method_6_code 2 = .ok (.ifCond .le 17, 3) := by decide +kernel
theorem dd6_5 : decode prog_11_method_6_code 5 = .ok (.aload_n 1, 1) := by decide +kernel
theorem dd6_6 : decode prog_11_method_6_code 6 = .ok (.iconst 0, 1) := by decide +kernel
theorem dd6_7 : decode prog_11_method_6_code 7 = .ok (.baload, 1) := by decide +kernel
theorem dd6_8 : decode prog_11_method_6_code 8 = .ok (.aload_n 0, 1) := by decide +kernel
theorem dd6_9 : decode prog_11_method_6_code 9 = .ok (.getfield 35, 3) := by decide +kernel
theorem dd6_12 : decode prog_11_method_6_code 12 = .ok (.if_icmp .ne 7, 3) := by decide +kernel
theorem dd6_19 : decode prog_11_method_6_code 19 = .ok (.iconst 0, 1) := by decide +kernel
theorem dd6_20 : decode prog_11_method_6_code 20 = .ok (.ireturn, 1) := by decide +kernel
def own_Q8 (Z : State) (ob_13 : Nat) (ob_359 : Nat) (kk_360 : ClassId) (in_15 : Int32) (h0 : Heap) (n0 : Nat) (v : Option Value) (h : Heap) (L : List Loc) : Prop := (v = some (.int 0) ∧ Fr n0 L ∧ h = h0)
theorem own_pn6 : plainFor (⟨"com/example/ombor/ombor/db/Keyspace", "holds", "([B)Z"⟩ : MethodName) = true := by decide +kernel
set_option maxRecDepth 65536 in
set_option maxHeartbeats 40000000 in
theorem own_rm8 (l : Launch) (Z : State) (a0 : Array Value) (hw : ∀ d ∈ tables_1, d.before a0 Z = true) (ws : List Jvm.Cond) (ob_13 : Nat) (ob_359 : Nat) (kk_360 : ClassId) (in_15 : Int32) (h0 : Heap) (n0 : Nat) (Z0 : n0 ≤ h0.size) (O0 : Old Z n0 h0) (I369 : Arv Z h0 ob_359 kk_360 .byte 1 [(.int ((in_15 + 1).toInt8.toInt32))] (.int 0)) (I370 : Fld Z Z.heap ob_13 "com/example/ombor/ombor/db/Keyspace" "prefix" "B" (.int in_15)) (I376 : ¬ (((in_15 + 1).toInt8.toInt32) = in_15)) :
    own_Met l Z h0 (⟨"com/example/ombor/ombor/db/Keyspace", "holds", "([B)Z"⟩ : MethodName) prog_11_method_6_code 2 (Option.some FieldType.boolean) ws ({ frames := 0, cells := 0, slots := 0, locals := 0 } : Room) #[(.ref ob_13), (.ref ob_359)] (own_Q8 Z ob_13 ob_359 kk_360 in_15 h0 n0) 0 0 := by
  refine MetFree.of_bodySF own_pn6 hisR ?_
  intro p e s m args below meth c s₁ Bd hml0 hP hK
  obtain ⟨rfl, hZ, hh⟩ := hP
  have hx := Bd.exec
  have hby := Bd.bytes
  have hml : c.maxLocals = 2 := hml0
  have hown : s.vm.findClass "com/example/ombor/ombor/db/Keyspace" = some m.cls := findClass_of_methodNamed Bd.named
  have hnm := (name_of_methodNamed Bd.named Bd.method).1
  have X0 : Stand p l e ({ frames := 0, cells := 0, slots := 0, locals := 0 } : Room) s m #[(.ref ob_13), (.ref ob_359)] below meth c s₁ [] 0 0 := Stand.of_body Bd
  have e0 : s₁.heap = h0 := by rw [← hh, Bd.state]; rfl
  have N0 := Fr.nil n0
  show own_G p e below (s₁.setTop (entryFrame m #[(.ref ob_13), (.ref ob_359)] 2)) (own_P s (own_Q8 Z ob_13 ob_359 kk_360 in_15 h0 n0) 0 0)
  refine own_cast (own_ef1 m ob_13 ob_359) ?_
  show own_G p e below (s₁.setTop (mkF m 0 #[rv ob_13, rv ob_359] [])) _
  refine oS (fun _ => XS.aloadN X0.here hx rfl (hb hby dd6_0) rfl rfl) ?_
  refine oS (own_len X0 hx hZ e0 I369 rfl rfl (hb hby dd6_1)) ?_
  show own_G p e below (s₁.setTop (mkF m 2 #[rv ob_13, rv ob_359] [(.int 1)])) _
  refine oS (fun _ => XS.ifNo X0.here hx rfl (hb hby dd6_2) rfl (XT.i0_le_f (by decide))) ?_
  show own_G p e below (s₁.setTop (mkF m 5 #[rv ob_13, rv ob_359] [])) _
  refine oS (fun _ => XS.aloadN X0.here hx rfl (hb hby dd6_5) rfl rfl) ?_
  refine oS (fun _ => XS.iconst X0.here hx rfl (hb hby dd6_6) ) ?_
  refine oS (own_baload X0 hx hZ e0 I369 (by decide) (v := (.int ((in_15 + 1).toInt8.toInt32))) rfl rfl rfl (hb hby dd6_7)) ?_
  show own_G p e below (s₁.setTop (mkF m 8 #[rv ob_13, rv ob_359] [(.int ((in_15 + 1).toInt8.toInt32))])) _
  refine oS (fun _ => XS.aloadN X0.here hx rfl (hb hby dd6_8) rfl rfl) ?_
  have F371 : Fld Z h0 ob_13 "com/example/ombor/ombor/db/Keyspace" "prefix" "B" (.int in_15) := Fld.ext O0.2 I370
  obtain ⟨T372, X373, e374, s375⟩ := getF X0 hx hZ hown (host := "") (Or.inl (oW hw 38 rfl)) Via.refl e0 F371 (g := (mkF m 9 #[rv ob_13, rv ob_359] [(.ref ob_13), (.int ((in_15 + 1).toInt8.toInt32))])) rfl rfl (hb hby dd6_9)
  refine oS s375 ?_
  show own_G p e below (T372.setTop (mkF m 12 #[rv ob_13, rv ob_359] [(.int in_15), (.int ((in_15 + 1).toInt8.toInt32))])) _
  refine oS (fun _ => XS.icmpYes X373.here hx rfl (pc0 := 12) (pc' := 19) rfl (hb hby dd6_12) rfl (XT.ii_ne_t I376) (by decide) (by decide)) ?_
  show own_G p e below (T372.setTop (mkF m 19 #[rv ob_13, rv ob_359] [])) _
  refine oS (fun _ => XS.iconst X373.here hx rfl (hb hby dd6_19) ) ?_
  exact own_retN X373 hx (t := .boolean) Bd.notSynchronized Bd.returns (by simp) (hb hby dd6_20) (by decide) e374 (by decide) (by decide) (⟨rfl, N0, rfl⟩)
theorem own_pd6 : parseMethodDescriptor "([B)Z" = some ⟨[(.array .byte)], (some .boolean)⟩ := by decide +kernel
theorem own_ef7 (m : MethodId) (x0 : Addr) (x1 : Addr) : entryFrame m #[(.ref x0), (.ref x1)] 4 = mkF m 0 #[.val (.ref x0), .val (.ref x1), .unset, .unset] [] := by first | (simp [entryFrame, mkF, argsToLocals, Value.category]; done) | rfl
theorem dd7_0 : decode prog_11_method_4_code 0 = .ok (.aload_n 1, 1) := by decide +kernel
theorem dd7_1 : decode prog_11_method_4_code 1 = .ok (.getstatic 39, 3) := by decide +kernel
theorem dd8_0 : decode jdk_42_method_64_code 0 = .ok (.aload_n 1, 1) := by decide +kernel
theorem dd8_1 : decode jdk_42_method_64_code 1 = .ok (.ifnonnull 11, 3) := by decide +kernel
theorem dd8_12 : decode jdk_42_method_64_code 12 = .ok (.aload_n 1, 1) := by decide +kernel
theorem dd8_13 : decode jdk_42_method_64_code 13 = .ok (.aload_n 0, 1) := by decide +kernel
theorem dd9_0 : decode jdk_42_method_152_code 0 = .ok (.getstatic 38, 3) := by decide +kernel
theorem dd9_3 : decode jdk_42_method_152_code 3 = .ok (.ifCond .eq 10, 3) := by decide +kernel
theorem dd9_6 : decode jdk_42_method_152_code 6 = .ok (.aload_n 0, 1) := by decide +kernel
theorem dd9_7 : decode jdk_42_method_152_code 7 = .ok (.getfield 15, 3) := by decide +kernel
theorem dd9_10 : decode jdk_42_method_152_code 10 = .ok (.goto 4, 3) := by decide +kernel
theorem dd9_14 : decode jdk_42_method_152_code 14 = .ok (.ireturn, 1) := by decide +kernel
def own_Q11 (Z : State) (ob_82 : Nat) (in_4 : Int32) (h0 : Heap) (n0 : Nat) (v : Option Value) (h : Heap) (L : List Loc) : Prop := (v = some (.int 0) ∧ Fr n0 L ∧ h = h0)
theorem own_pn7 : plainFor (⟨"java/lang/String", "coder", "()B"⟩ : MethodName) = true := by decide +kernel
set_option maxRecDepth 65536 in
set_option maxHeartbeats 40000000 in
theorem own_rm11 (l : Launch) (Z : State) (a0 : Array Value) (hw : ∀ d ∈ tables_1, d.before a0 Z = true) (ws : List Jvm.Cond) (ob_82 : Nat) (in_4 : Int32) (h0 : Heap) (n0 : Nat) (Z0 : n0 ≤ h0.size) (O0 : Old Z n0 h0) (I401 : Sta Z Z.heap "java/lang/String" "COMPACT_STRINGS" "Z" (.int in_4)) (I409 : ¬ (in_4 = 0)) (I413 : Fld Z h0 ob_82 "java/lang/String" "coder" "B" (.int 0)) :
    own_Met l Z h0 (⟨"java/lang/String", "coder", "()B"⟩ : MethodName) jdk_42_method_152_code 1 (Option.some FieldType.byte) ws ({ frames := 0, cells := 0, slots := 0, locals := 0 } : Room) #[(.ref ob_82)] (own_Q11 Z ob_82 in_4 h0 n0) 0 0 := by
  refine MetFree.of_bodySF own_pn7 hisR ?_
  intro p e s m args below meth c s₁ Bd hml0 hP hK
  obtain ⟨rfl, hZ, hh⟩ := hP
  have hx := Bd.exec
  have hby := Bd.bytes
  have hml : c.maxLocals = 1 := hml0
  have hown : s.vm.findClass "java/lang/String" = some m.cls := findClass_of_methodNamed Bd.named
  have hnm := (name_of_methodNamed Bd.named Bd.method).1
  have X0 : Stand p l e ({ frames := 0, cells := 0, slots := 0, locals := 0 } : Room) s m #[(.ref ob_82)] below meth c s₁ [] 0 0 := Stand.of_body Bd
  have e0 : s₁.heap = h0 := by rw [← hh, Bd.state]; rfl
  have N0 := Fr.nil n0
  show own_G p e below (s₁.setTop (entryFrame m #[(.ref ob_82)] 1)) (own_P s (own_Q11 Z ob_82 in_4 h0 n0) 0 0)
  refine own_cast (own_ef6 m ob_82) ?_
  show own_G p e below (s₁.setTop (mkF m 0 #[rv ob_82] [])) _
  have F402 : Sta Z h0 "java/lang/String" "COMPACT_STRINGS" "Z" (.int in_4) := Sta.ext O0.2 I401
  obtain ⟨T403, X404, e405, s406⟩ := getS X0 hx hZ hown (host := "") (oW hw 17 rfl) Via.refl e0 F402 (g := (mkF m 0 #[rv ob_82] [])) rfl (hb hby dd9_0)
  refine oS s406 ?_
  show own_G p e below (T403.setTop (mkF m 3 #[rv ob_82] [(.int in_4)])) _
  refine oS (fun _ => XS.ifNo X404.here hx rfl (hb hby dd9_3) rfl (XT.i0_eq_f I409)) ?_
  show own_G p e below (T403.setTop (mkF m 6 #[rv ob_82] [])) _
  refine oS (fun _ => XS.aloadN X404.here hx rfl (hb hby dd9_6) rfl rfl) ?_
  obtain ⟨T414, X415, e416, s417⟩ := getF X404 hx hZ hown (host := "") (Or.inl (oW hw 29 rfl)) Via.refl e405 I413 (g := (mkF m 7 #[rv ob_82] [(.ref ob_82)])) rfl rfl (hb hby dd9_7)
  refine oS s417 ?_
  show own_G p e below (T414.setTop (mkF m 10 #[rv ob_82] [(.int 0)])) _
  refine oS (fun _ => XS.goto X415.here hx rfl (pc0 := 10) (pc' := 14) rfl (hb hby dd9_10) (by decide) (by decide)) ?_
  show own_G p e below (T414.setTop (mkF m 14 #[rv ob_82] [(.int 0)])) _
  exact own_retN X415 hx (t := .byte) Bd.notSynchronized Bd.returns (by simp) (hb hby dd9_14) (by decide) e416 (by decide) (by decide) (⟨rfl, N0, rfl⟩)
theorem own_pd7 : parseMethodDescriptor "()B" = some ⟨[], (some .byte)⟩ := by decide +kernel
theorem dd8_14 : decode jdk_42_method_64_code 14 = .ok (.invokevirtual 335, 3) := by decide +kernel
theorem dd8_17 : decode jdk_42_method_64_code 17 = .ok (.aload_n 0, 1) := by decide +kernel
theorem dd8_18 : decode jdk_42_method_64_code 18 = .ok (.getfield 9, 3) := by decide +kernel
theorem own_ef8 (m : MethodId) (x0 : Addr) (x1 : Int32) (x2 : Addr) : entryFrame m #[(.ref x0), (.int x1), (.ref x2)] 3 = mkF m 0 #[.val (.ref x0), .val (.int x1), .val (.ref x2)] [] := by first | (simp [entryFrame, mkF, argsToLocals, Value.category]; done) | rfl
theorem dd10_0 : decode jdk_42_method_18_code 0 = .ok (.aload_n 0, 1) := by decide +kernel
theorem dd10_1 : decode jdk_42_method_18_code 1 = .ok (.getstatic 86, 3) := by decide +kernel
theorem dd10_4 : decode jdk_42_method_18_code 4 = .ok (.if_acmp .ne 10, 3) := by decide +kernel
theorem dd10_7 : decode jdk_42_method_18_code 7 = .ok (.iload_n 1, 1) := by decide +kernel
theorem dd10_8 : decode jdk_42_method_18_code 8 = .ok (.aload_n 2, 1) := by decide +kernel
theorem dd10_9 : decode jdk_42_method_18_code 9 = .ok (.iconst 1, 1) := by decide +kernel
theorem own_ef9 (m : MethodId) (x0 : Int32) (x1 : Addr) (x2 : Int32) : entryFrame m #[(.int x0), (.ref x1), (.int x2)] 9 = mkF m 0 #[.val (.int x0), .val (.ref x1), .val (.int x2), .unset, .unset, .unset, .unset, .unset, .unset] [] := by first | (simp [entryFrame, mkF, argsToLocals, Value.category]; done) | rfl
theorem dd11_0 : decode jdk_42_method_46_code 0 = .ok (.iload_n 0, 1) := by decide +kernel
theorem dd11_1 : decode jdk_42_method_46_code 1 = .ok (.iconst 1, 1) := by decide +kernel
theorem dd11_2 : decode jdk_42_method_46_code 2 = .ok (.if_icmp .ne 9, 3) := by decide +kernel
theorem dd11_11 : decode jdk_42_method_46_code 11 = .ok (.aload_n 1, 1) := by decide +kernel
theorem dd11_12 : decode jdk_42_method_46_code 12 = .ok (.iconst 0, 1) := by decide +kernel
theorem dd11_13 : decode jdk_42_method_46_code 13 = .ok (.aload_n 1, 1) := by decide +kernel
theorem dd11_14 : decode jdk_42_method_46_code 14 = .ok (.arraylength, 1) := by decide +kernel
theorem own_ef10 (m : MethodId) (x0 : Addr) (x1 : Int32) (x2 : Int32) : entryFrame m #[(.ref x0), (.int x1), (.int x2)] 3 = mkF m 0 #[.val (.ref x0), .val (.int x1), .val (.int x2)] [] := by first | (simp [entryFrame, mkF, argsToLocals, Value.category]; done) | rfl
theorem dd12_0 : decode jdk_123_method_2_code 0 = .ok (.aload_n 0, 1) := by decide +kernel
theorem dd12_1 : decode jdk_123_method_2_code 1 = .ok (.iload_n 1, 1) := by decide +kernel
theorem dd12_2 : decode jdk_123_method_2_code 2 = .ok (.iload_n 2, 1) := by decide +kernel
theorem own_ef11 (m : MethodId) (x0 : Addr) (x1 : Int32) (x2 : Int32) : entryFrame m #[(.ref x0), (.int x1), (.int x2)] 5 = mkF m 0 #[.val (.ref x0), .val (.int x1), .val (.int x2), .unset, .unset] [] := by first | (simp [entryFrame, mkF, argsToLocals, Value.category]; done) | rfl
theorem dd13_0 : decode jdk_123_method_3_code 0 = .ok (.iload_n 1, 1) := by decide +kernel
theorem dd13_1 : decode jdk_123_method_3_code 1 = .ok (.iload_n 2, 1) := by decide +kernel
theorem dd13_2 : decode jdk_123_method_3_code 2 = .ok (.iadd, 1) := by decide +kernel
theorem dd13_3 : decode jdk_123_method_3_code 3 = .ok (.istore_n 3, 1) := by decide +kernel
theorem dd13_4 : decode jdk_123_method_3_code 4 = .ok (.iload_n 1, 1) := by decide +kernel
theorem dd13_5 : decode jdk_123_method_3_code 5 = .ok (.istore 4, 2) := by decide +kernel
theorem dd13_7 : decode jdk_123_method_3_code 7 = .ok (.iload 4, 2) := by decide +kernel
theorem dd13_9 : decode jdk_123_method_3_code 9 = .ok (.iload_n 3, 1) := by decide +kernel
theorem dd13_10 : decode jdk_123_method_3_code 10 = .ok (.if_icmp .ge 21, 3) := by decide +kernel
theorem dd13_13 : decode jdk_123_method_3_code 13 = .ok (.aload_n 0, 1) := by decide +kernel
theorem dd13_14 : decode jdk_123_method_3_code 14 = .ok (.iload 4, 2) := by decide +kernel
theorem dd13_16 : decode jdk_123_method_3_code 16 = .ok (.baload, 1) := by decide +kernel
theorem dd13_17 : decode jdk_123_method_3_code 17 = .ok (.ifCond .ge 8, 3) := by decide +kernel
theorem dd13_20 : decode jdk_123_method_3_code 20 = .ok (.iload 4, 2) := by decide +kernel
theorem dd13_22 : decode jdk_123_method_3_code 22 = .ok (.iload_n 1, 1) := by decide +kernel
theorem dd13_23 : decode jdk_123_method_3_code 23 = .ok (.isub, 1) := by decide +kernel
theorem dd13_24 : decode jdk_123_method_3_code 24 = .ok (.ireturn, 1) := by decide +kernel
theorem dd13_25 : decode jdk_123_method_3_code 25 = .ok (.iinc 4 1, 3) := by decide +kernel
theorem dd13_28 : decode jdk_123_method_3_code 28 = .ok (.goto (-21), 3) := by decide +kernel
theorem dd13_31 : decode jdk_123_method_3_code 31 = .ok (.iload_n 2, 1) := by decide +kernel
theorem dd13_32 : decode jdk_123_method_3_code 32 = .ok (.ireturn, 1) := by decide +kernel
def own_Q15 (Z : State) (ob_299 : Nat) (kk_300 : ClassId) (in_41 : Int32) (in_57 : Int32) (h0 : Heap) (n0 : Nat) (v : Option Value) (h : Heap) (L : List Loc) : Prop := (((in_41.toInt8.toInt32) < 0) ∧ v = some (.int 0) ∧ Fr n0 L ∧ h = h0) ∨ (¬ ((in_41.toInt8.toInt32) < 0) ∧ ((in_57.toInt8.toInt32) < 0) ∧ v = some (.int 1) ∧ Fr n0 L ∧ h = h0) ∨ (¬ ((in_41.toInt8.toInt32) < 0) ∧ ¬ ((in_57.toInt8.toInt32) < 0) ∧ v = some (.int 2) ∧ Fr n0 L ∧ h = h0)
theorem own_pn8 : plainFor (⟨"java/lang/StringCoding", "countPositives", "([BII)I"⟩ : MethodName) = true := by decide +kernel
set_option maxRecDepth 65536 in
set_option maxHeartbeats 40000000 in
theorem own_rm15 (l : Launch) (Z : State) (a0 : Array Value) (hw : ∀ d ∈ tables_1, d.before a0 Z = true) (ws : List Jvm.Cond) (ob_299 : Nat) (kk_300 : ClassId) (in_41 : Int32) (in_57 : Int32) (h0 : Heap) (n0 : Nat) (Z0 : n0 ≤ h0.size) (O0 : Old Z n0 h0) (I455 : Arv Z h0 ob_299 kk_300 .byte 2 [(.int (in_41.toInt8.toInt32)), (.int (in_57.toInt8.toInt32))] (.int 0)) :
    own_Met l Z h0 (⟨"java/lang/StringCoding", "countPositives", "([BII)I"⟩ : MethodName) jdk_123_method_3_code 5 (Option.some FieldType.int) ws ({ frames := 0, cells := 0, slots := 0, locals := 0 } : Room) #[(.ref ob_299), (.int 0), (.int 2)] (own_Q15 Z ob_299 kk_300 in_41 in_57 h0 n0) 0 0 := by
  refine MetFree.of_bodySF own_pn8 hisR ?_
  intro p e s m args below meth c s₁ Bd hml0 hP hK
  obtain ⟨rfl, hZ, hh⟩ := hP
  have hx := Bd.exec
  have hby := Bd.bytes
  have hml : c.maxLocals = 5 := hml0
  have hown : s.vm.findClass "java/lang/StringCoding" = some m.cls := findClass_of_methodNamed Bd.named
  have hnm := (name_of_methodNamed Bd.named Bd.method).1
  have X0 : Stand p l e ({ frames := 0, cells := 0, slots := 0, locals := 0 } : Room) s m #[(.ref ob_299), (.int 0), (.int 2)] below meth c s₁ [] 0 0 := Stand.of_body Bd
  have e0 : s₁.heap = h0 := by rw [← hh, Bd.state]; rfl
  have N0 := Fr.nil n0
  show own_G p e below (s₁.setTop (entryFrame m #[(.ref ob_299), (.int 0), (.int 2)] 5)) (own_P s (own_Q15 Z ob_299 kk_300 in_41 in_57 h0 n0) 0 0)
  refine own_cast (own_ef11 m ob_299 0 2) ?_
  show own_G p e below (s₁.setTop (mkF m 0 #[rv ob_299, iv 0, iv 2, .unset, .unset] [])) _
  refine oS (fun _ => XS.iloadN X0.here hx rfl (hb hby dd13_0) rfl) ?_
  refine oS (fun _ => XS.iloadN X0.here hx rfl (hb hby dd13_1) rfl) ?_
  refine oS (fun _ => XS.iadd X0.here hx rfl (hb hby dd13_2) rfl) ?_
  refine oS (fun _ => XS.istoreN X0.here hx rfl (hb hby dd13_3) rfl (l' := #[rv ob_299, iv 0, iv 2, iv 2, .unset]) rfl) ?_
  show own_G p e below (s₁.setTop (mkF m 4 #[rv ob_299, iv 0, iv 2, iv 2, .unset] [])) _
  refine oS (fun _ => XS.iloadN X0.here hx rfl (hb hby dd13_4) rfl) ?_
  refine oS (fun _ => XS.istore X0.here hx rfl (hb hby dd13_5) rfl (l' := #[rv ob_299, iv 0, iv 2, iv 2, iv 0]) rfl) ?_
  refine oS (fun _ => XS.iload X0.here hx rfl (hb hby dd13_7) rfl) ?_
  refine oS (fun _ => XS.iloadN X0.here hx rfl (hb hby dd13_9) rfl) ?_
  show own_G p e below (s₁.setTop (mkF m 10 #[rv ob_299, iv 0, iv 2, iv 2, iv 0] [(.int 2), (.int 0)])) _
  refine oS (fun _ => XS.icmpNo X0.here hx rfl (hb hby dd13_10) rfl (XT.ii_ge_f (by decide))) ?_
  show own_G p e below (s₁.setTop (mkF m 13 #[rv ob_299, iv 0, iv 2, iv 2, iv 0] [])) _
  refine oS (fun _ => XS.aloadN X0.here hx rfl (hb hby dd13_13) rfl rfl) ?_
  refine oS (fun _ => XS.iload X0.here hx rfl (hb hby dd13_14) rfl) ?_
  refine oS (own_baload X0 hx hZ e0 I455 (by decide) (v := (.int (in_41.toInt8.toInt32))) rfl rfl rfl (hb hby dd13_16)) ?_
  show own_G p e below (s₁.setTop (mkF m 17 #[rv ob_299, iv 0, iv 2, iv 2, iv 0] [(.int (in_41.toInt8.toInt32))])) _
  by_cases b456 : (in_41.toInt8.toInt32) < 0
  · skip
    refine oS (fun _ => XS.ifNo X0.here hx rfl (hb hby dd13_17) rfl (XT.i0_ge_f b456)) ?_
    show own_G p e below (s₁.setTop (mkF m 20 #[rv ob_299, iv 0, iv 2, iv 2, iv 0] [])) _
    refine oS (fun _ => XS.iload X0.here hx rfl (hb hby dd13_20) rfl) ?_
    refine oS (fun _ => XS.iloadN X0.here hx rfl (hb hby dd13_22) rfl) ?_
    refine oS (fun _ => XS.isub X0.here hx rfl (hb hby dd13_23) rfl) ?_
    exact own_retI X0 hx Bd.notSynchronized Bd.returns (hb hby dd13_24) e0 (by decide) (by decide) (Or.inl ⟨b456, rfl, N0, rfl⟩)
  · skip
    refine oS (fun _ => XS.ifYes X0.here hx rfl (pc0 := 17) (pc' := 25) rfl (hb hby dd13_17) rfl (XT.i0_ge_t b456) (by decide) (by decide)) ?_
    show own_G p e below (s₁.setTop (mkF m 25 #[rv ob_299, iv 0, iv 2, iv 2, iv 0] [])) _
    refine oS (fun _ => XS.iinc X0.here hx rfl (hb hby dd13_25) rfl (l' := #[rv ob_299, iv 0, iv 2, iv 2, iv 1]) rfl) ?_
    show own_G p e below (s₁.setTop (mkF m 28 #[rv ob_299, iv 0, iv 2, iv 2, iv 1] [])) _
    refine oS (fun _ => XS.goto X0.here hx rfl (pc0 := 28) (pc' := 7) rfl (hb hby dd13_28) (by decide) (by decide)) ?_
    show own_G p e below (s₁.setTop (mkF m 7 #[rv ob_299, iv 0, iv 2, iv 2, iv 1] [])) _
    refine oS (fun _ => XS.iload X0.here hx rfl (hb hby dd13_7) rfl) ?_
    refine oS (fun _ => XS.iloadN X0.here hx rfl (hb hby dd13_9) rfl) ?_
    refine oS (fun _ => XS.icmpNo X0.here hx rfl (hb hby dd13_10) rfl (XT.ii_ge_f (by decide))) ?_
    show own_G p e below (s₁.setTop (mkF m 13 #[rv ob_299, iv 0, iv 2, iv 2, iv 1] [])) _
    refine oS (fun _ => XS.aloadN X0.here hx rfl (hb hby dd13_13) rfl rfl) ?_
    refine oS (fun _ => XS.iload X0.here hx rfl (hb hby dd13_14) rfl) ?_
    refine oS (own_baload X0 hx hZ e0 I455 (by decide) (v := (.int (in_57.toInt8.toInt32))) rfl rfl rfl (hb hby dd13_16)) ?_
    show own_G p e below (s₁.setTop (mkF m 17 #[rv ob_299, iv 0, iv 2, iv 2, iv 1] [(.int (in_57.toInt8.toInt32))])) _
    by_cases b457 : (in_57.toInt8.toInt32) < 0
    · skip
      refine oS (fun _ => XS.ifNo X0.here hx rfl (hb hby dd13_17) rfl (XT.i0_ge_f b457)) ?_
      show own_G p e below (s₁.setTop (mkF m 20 #[rv ob_299, iv 0, iv 2, iv 2, iv 1] [])) _
      refine oS (fun _ => XS.iload X0.here hx rfl (hb hby dd13_20) rfl) ?_
      refine oS (fun _ => XS.iloadN X0.here hx rfl (hb hby dd13_22) rfl) ?_
      refine oS (fun _ => XS.isub X0.here hx rfl (hb hby dd13_23) rfl) ?_
      exact own_retI X0 hx Bd.notSynchronized Bd.returns (hb hby dd13_24) e0 (by decide) (by decide) (Or.inr (Or.inl ⟨b456, b457, rfl, N0, rfl⟩))
    · skip
      refine oS (fun _ => XS.ifYes X0.here hx rfl (pc0 := 17) (pc' := 25) rfl (hb hby dd13_17) rfl (XT.i0_ge_t b457) (by decide) (by decide)) ?_
      show own_G p e below (s₁.setTop (mkF m 25 #[rv ob_299, iv 0, iv 2, iv 2, iv 1] [])) _
      refine oS (fun _ => XS.iinc X0.here hx rfl (hb hby dd13_25) rfl (l' := #[rv ob_299, iv 0, iv 2, iv 2, iv 2]) rfl) ?_
      show own_G p e below (s₁.setTop (mkF m 28 #[rv ob_299, iv 0, iv 2, iv 2, iv 2] [])) _
      refine oS (fun _ => XS.goto X0.here hx rfl (pc0 := 28) (pc' := 7) rfl (hb hby dd13_28) (by decide) (by decide)) ?_
      show own_G p e below (s₁.setTop (mkF m 7 #[rv ob_299, iv 0, iv 2, iv 2, iv 2] [])) _
      refine oS (fun _ => XS.iload X0.here hx rfl (hb hby dd13_7) rfl) ?_
      refine oS (fun _ => XS.iloadN X0.here hx rfl (hb hby dd13_9) rfl) ?_
      refine oS (fun _ => XS.icmpYes X0.here hx rfl (pc0 := 10) (pc' := 31) rfl (hb hby dd13_10) rfl (XT.ii_ge_t (by decide)) (by decide) (by decide)) ?_
      show own_G p e below (s₁.setTop (mkF m 31 #[rv ob_299, iv 0, iv 2, iv 2, iv 2] [])) _
      refine oS (fun _ => XS.iloadN X0.here hx rfl (hb hby dd13_31) rfl) ?_
      exact own_retI X0 hx Bd.notSynchronized Bd.returns (hb hby dd13_32) e0 (by decide) (by decide) (Or.inr (Or.inr (⟨b456, b457, rfl, N0, rfl⟩)))
theorem own_pd8 : parseMethodDescriptor "([BII)I" = some ⟨[(.array .byte), .int, .int], (some .int)⟩ := by decide +kernel
theorem dd12_3 : decode jdk_123_method_2_code 3 = .ok (.invokestatic 7, 3) := by decide +kernel
theorem dd12_6 : decode jdk_123_method_2_code 6 = .ok (.iload_n 2, 1) := by decide +kernel
theorem dd12_7 : decode jdk_123_method_2_code 7 = .ok (.if_icmp .eq 7, 3) := by decide +kernel
theorem dd12_10 : decode jdk_123_method_2_code 10 = .ok (.iconst 1, 1) := by decide +kernel
theorem dd12_11 : decode jdk_123_method_2_code 11 = .ok (.goto 4, 3) := by decide +kernel
theorem dd12_15 : decode jdk_123_method_2_code 15 = .ok (.ireturn, 1) := by decide +kernel
theorem dd12_14 : decode jdk_123_method_2_code 14 = .ok (.iconst 0, 1) := by decide +kernel
def own_Q14 (Z : State) (ob_299 : Nat) (kk_300 : ClassId) (in_41 : Int32) (in_57 : Int32) (h0 : Heap) (n0 : Nat) (v : Option Value) (h : Heap) (L : List Loc) : Prop := (((in_41.toInt8.toInt32) < 0) ∧ v = some (.int 1) ∧ Fr n0 L ∧ h = h0) ∨ (¬ ((in_41.toInt8.toInt32) < 0) ∧ ((in_57.toInt8.toInt32) < 0) ∧ v = some (.int 1) ∧ Fr n0 L ∧ h = h0) ∨ (¬ ((in_41.toInt8.toInt32) < 0) ∧ ¬ ((in_57.toInt8.toInt32) < 0) ∧ v = some (.int 0) ∧ Fr n0 L ∧ h = h0)
theorem own_pn9 : plainFor (⟨"java/lang/StringCoding", "hasNegatives", "([BII)Z"⟩ : MethodName) = true := by decide +kernel
set_option maxRecDepth 65536 in
set_option maxHeartbeats 40000000 in
theorem own_rm14 (l : Launch) (Z : State) (a0 : Array Value) (hw : ∀ d ∈ tables_1, d.before a0 Z = true) (ws : List Jvm.Cond) (ob_299 : Nat) (kk_300 : ClassId) (in_41 : Int32) (in_57 : Int32) (h0 : Heap) (n0 : Nat) (Z0 : n0 ≤ h0.size) (O0 : Old Z n0 h0) (I454 : Arv Z h0 ob_299 kk_300 .byte 2 [(.int (in_41.toInt8.toInt32)), (.int (in_57.toInt8.toInt32))] (.int 0)) :
    own_Met l Z h0 (⟨"java/lang/StringCoding", "hasNegatives", "([BII)Z"⟩ : MethodName) jdk_123_method_2_code 3 (Option.some FieldType.boolean) ws ({ frames := 1, cells := 0, slots := 0, locals := 16 } : Room) #[(.ref ob_299), (.int 0), (.int 2)] (own_Q14 Z ob_299 kk_300 in_41 in_57 h0 n0) 0 0 := by
  refine MetFree.of_bodySF own_pn9 hisR ?_
  intro p e s m args below meth c s₁ Bd hml0 hP hK
  obtain ⟨rfl, hZ, hh⟩ := hP
  have hx := Bd.exec
  have hby := Bd.bytes
  have hml : c.maxLocals = 3 := hml0
  have hown : s.vm.findClass "java/lang/StringCoding" = some m.cls := findClass_of_methodNamed Bd.named
  have hnm := (name_of_methodNamed Bd.named Bd.method).1
  have X0 : Stand p l e ({ frames := 1, cells := 0, slots := 0, locals := 16 } : Room) s m #[(.ref ob_299), (.int 0), (.int 2)] below meth c s₁ [] 0 0 := Stand.of_body Bd
  have e0 : s₁.heap = h0 := by rw [← hh, Bd.state]; rfl
  have N0 := Fr.nil n0
  show own_G p e below (s₁.setTop (entryFrame m #[(.ref ob_299), (.int 0), (.int 2)] 3)) (own_P s (own_Q14 Z ob_299 kk_300 in_41 in_57 h0 n0) 0 0)
  refine own_cast (own_ef10 m ob_299 0 2) ?_
  show own_G p e below (s₁.setTop (mkF m 0 #[rv ob_299, iv 0, iv 2] [])) _
  refine oS (fun _ => XS.aloadN X0.here hx rfl (hb hby dd12_0) rfl rfl) ?_
  refine oS (fun _ => XS.iloadN X0.here hx rfl (hb hby dd12_1) rfl) ?_
  refine oS (fun _ => XS.iloadN X0.here hx rfl (hb hby dd12_2) rfl) ?_
  obtain ⟨T458, h459, v460, L461, X462, e463, q464, s465⟩ := own_callS X0 hx hZ hown e0 (y := (⟨"java/lang/StringCoding", "countPositives", "([BII)I"⟩ : MethodName)) (oW hw 74 rfl) (oW hw 75 rfl) (oW hw 72 rfl) (oW hw 76 rfl) (by decide) (W := 0) (own_rm15 l Z a0 hw [] ob_299 kk_300 in_41 in_57 h0 n0 Z0 O0 I454) (by decide) (by decide) (by decide) (by decide) (g := (mkF m 3 #[rv ob_299, iv 0, iv 2] [(.int 2), (.int 0), (.ref ob_299)])) rfl (by rw [hml]; rfl) (argsL := [(.ref ob_299), (.int 0), (.int 2)]) (rest := []) rfl (lenOf own_pd8 rfl) rfl (by show 2 * 0 + _ ≤ _; exact Nat.le_of_eq rfl) (hb hby dd12_3)
  refine oS s465 ?_
  rcases q464 with ⟨b466, rfl, N467, K468⟩ | ⟨b469, b470, rfl, N471, K472⟩ | ⟨b473, b474, rfl, N475, K476⟩
  · skip
    have N477 := Fr.app N0 N467
    have e478 := e463.trans K468
    show own_G p e below (T458.setTop (mkF m 6 #[rv ob_299, iv 0, iv 2] [(.int 0)])) _
    refine oS (fun _ => XS.iloadN X462.here hx rfl (hb hby dd12_6) rfl) ?_
    refine oS (fun _ => XS.icmpNo X462.here hx rfl (hb hby dd12_7) rfl (XT.ii_eq_f (by decide))) ?_
    show own_G p e below (T458.setTop (mkF m 10 #[rv ob_299, iv 0, iv 2] [])) _
    refine oS (fun _ => XS.iconst X462.here hx rfl (hb hby dd12_10) ) ?_
    refine oS (fun _ => XS.goto X462.here hx rfl (pc0 := 11) (pc' := 15) rfl (hb hby dd12_11) (by decide) (by decide)) ?_
    show own_G p e below (T458.setTop (mkF m 15 #[rv ob_299, iv 0, iv 2] [(.int 1)])) _
    exact own_retN X462 hx (t := .boolean) Bd.notSynchronized Bd.returns (by simp) (hb hby dd12_15) (by decide) e478 (by decide) (by decide) (Or.inl ⟨b466, rfl, N477, rfl⟩)
  · skip
    have N479 := Fr.app N0 N471
    have e480 := e463.trans K472
    show own_G p e below (T458.setTop (mkF m 6 #[rv ob_299, iv 0, iv 2] [(.int 1)])) _
    refine oS (fun _ => XS.iloadN X462.here hx rfl (hb hby dd12_6) rfl) ?_
    refine oS (fun _ => XS.icmpNo X462.here hx rfl (hb hby dd12_7) rfl (XT.ii_eq_f (by decide))) ?_
    show own_G p e below (T458.setTop (mkF m 10 #[rv ob_299, iv 0, iv 2] [])) _
    refine oS (fun _ => XS.iconst X462.here hx rfl (hb hby dd12_10) ) ?_
    refine oS (fun _ => XS.goto X462.here hx rfl (pc0 := 11) (pc' := 15) rfl (hb hby dd12_11) (by decide) (by decide)) ?_
    show own_G p e below (T458.setTop (mkF m 15 #[rv ob_299, iv 0, iv 2] [(.int 1)])) _
    exact own_retN X462 hx (t := .boolean) Bd.notSynchronized Bd.returns (by simp) (hb hby dd12_15) (by decide) e480 (by decide) (by decide) (Or.inr (Or.inl ⟨b469, b470, rfl, N479, rfl⟩))
  · skip
    have N481 := Fr.app N0 N475
    have e482 := e463.trans K476
    show own_G p e below (T458.setTop (mkF m 6 #[rv ob_299, iv 0, iv 2] [(.int 2)])) _
    refine oS (fun _ => XS.iloadN X462.here hx rfl (hb hby dd12_6) rfl) ?_
    refine oS (fun _ => XS.icmpYes X462.here hx rfl (pc0 := 7) (pc' := 14) rfl (hb hby dd12_7) rfl (XT.ii_eq_t (by decide)) (by decide) (by decide)) ?_
    show own_G p e below (T458.setTop (mkF m 14 #[rv ob_299, iv 0, iv 2] [])) _
    refine oS (fun _ => XS.iconst X462.here hx rfl (hb hby dd12_14) ) ?_
    exact own_retN X462 hx (t := .boolean) Bd.notSynchronized Bd.returns (by simp) (hb hby dd12_15) (by decide) e482 (by decide) (by decide) (Or.inr (Or.inr (⟨b473, b474, rfl, N481, rfl⟩)))
theorem own_pd9 : parseMethodDescriptor "([BII)Z" = some ⟨[(.array .byte), .int, .int], (some .boolean)⟩ := by decide +kernel
theorem dd11_15 : decode jdk_42_method_46_code 15 = .ok (.invokestatic 128, 3) := by decide +kernel
theorem dd11_18 : decode jdk_42_method_46_code 18 = .ok (.ifCond .ne 11, 3) := by decide +kernel
theorem dd11_29 : decode jdk_42_method_46_code 29 = .ok (.iconst 0, 1) := by decide +kernel
theorem dd11_30 : decode jdk_42_method_46_code 30 = .ok (.istore_n 3, 1) := by decide +kernel
theorem dd11_31 : decode jdk_42_method_46_code 31 = .ok (.aload_n 1, 1) := by decide +kernel
theorem dd11_32 : decode jdk_42_method_46_code 32 = .ok (.arraylength, 1) := by decide +kernel
theorem own_ef12 (m : MethodId) (x0 : Int32) : entryFrame m #[(.int x0)] 1 = mkF m 0 #[.val (.int x0)] [] := by first | (simp [entryFrame, mkF, argsToLocals, Value.category]; done) | rfl
theorem dd14_0 : decode jdk_52_method_2_code 0 = .ok (.iload_n 0, 1) := by decide +kernel
theorem dd15_0 : decode jdk_52_method_3_code 0 = .ok (.iload_n 0, 1) := by decide +kernel
theorem dd15_1 : decode jdk_52_method_3_code 1 = .ok (.ifCond .ge 11, 3) := by decide +kernel
theorem dd15_12 : decode jdk_52_method_3_code 12 = .ok (.iload_n 0, 1) := by decide +kernel
theorem dd15_13 : decode jdk_52_method_3_code 13 = .ok (.ldc 20, 2) := by decide +kernel
theorem dd15_15 : decode jdk_52_method_3_code 15 = .ok (.if_icmp .lt 40, 3) := by decide +kernel
theorem dd15_55 : decode jdk_52_method_3_code 55 = .ok (.iload_n 0, 1) := by decide +kernel
theorem dd15_56 : decode jdk_52_method_3_code 56 = .ok (.iconst 1, 1) := by decide +kernel
theorem dd15_57 : decode jdk_52_method_3_code 57 = .ok (.ishl, 1) := by decide +kernel
theorem dd15_58 : decode jdk_52_method_3_code 58 = .ok (.ireturn, 1) := by decide +kernel
def own_Q17 (Z : State)  (h0 : Heap) (n0 : Nat) (v : Option Value) (h : Heap) (L : List Loc) : Prop := (v = some (.int 4) ∧ Fr n0 L ∧ h = h0)
theorem own_pn10 : plainFor (⟨"java/lang/StringUTF16", "newBytesLength", "(I)I"⟩ : MethodName) = true := by decide +kernel
set_option maxRecDepth 65536 in
set_option maxHeartbeats 40000000 in
theorem own_rm17 (l : Launch) (Z : State) (a0 : Array Value) (hw : ∀ d ∈ tables_1, d.before a0 Z = true) (ws : List Jvm.Cond)  (h0 : Heap) (n0 : Nat) (Z0 : n0 ≤ h0.size) (O0 : Old Z n0 h0)  :
    own_Met l Z h0 (⟨"java/lang/StringUTF16", "newBytesLength", "(I)I"⟩ : MethodName) jdk_52_method_3_code 1 (Option.some FieldType.int) ws ({ frames := 0, cells := 0, slots := 0, locals := 0 } : Room) #[(.int 2)] (own_Q17 Z  h0 n0) 0 0 := by
  refine MetFree.of_bodySF own_pn10 hisR ?_
  intro p e s m args below meth c s₁ Bd hml0 hP hK
  obtain ⟨rfl, hZ, hh⟩ := hP
  have hx := Bd.exec
  have hby := Bd.bytes
  have hml : c.maxLocals = 1 := hml0
  have hown : s.vm.findClass "java/lang/StringUTF16" = some m.cls := findClass_of_methodNamed Bd.named
  have hnm := (name_of_methodNamed Bd.named Bd.method).1
  have X0 : Stand p l e ({ frames := 0, cells := 0, slots := 0, locals := 0 } : Room) s m #[(.int 2)] below meth c s₁ [] 0 0 := Stand.of_body Bd
  have e0 : s₁.heap = h0 := by rw [← hh, Bd.state]; rfl
  have N0 := Fr.nil n0
  show own_G p e below (s₁.setTop (entryFrame m #[(.int 2)] 1)) (own_P s (own_Q17 Z  h0 n0) 0 0)
  refine own_cast (own_ef12 m 2) ?_
  show own_G p e below (s₁.setTop (mkF m 0 #[iv 2] [])) _
  refine oS (fun _ => XS.iloadN X0.here hx rfl (hb hby dd15_0) rfl) ?_
  refine oS (fun _ => XS.ifYes X0.here hx rfl (pc0 := 1) (pc' := 12) rfl (hb hby dd15_1) rfl (XT.i0_ge_t (by decide)) (by decide) (by decide)) ?_
  show own_G p e below (s₁.setTop (mkF m 12 #[iv 2] [])) _
  refine oS (fun _ => XS.iloadN X0.here hx rfl (hb hby dd15_12) rfl) ?_
  refine oS (fun _ => X0.ldcI hx hown (mvT hZ (oW hw 100 rfl)) rfl (hb hby dd15_13)) ?_
  show own_G p e below (s₁.setTop (mkF m 15 #[iv 2] [(.int 1073741823), (.int 2)])) _
  refine oS (fun _ => XS.icmpYes X0.here hx rfl (pc0 := 15) (pc' := 55) rfl (hb hby dd15_15) rfl (XT.ii_lt_t (by decide)) (by decide) (by decide)) ?_
  show own_G p e below (s₁.setTop (mkF m 55 #[iv 2] [])) _
  refine oS (fun _ => XS.iloadN X0.here hx rfl (hb hby dd15_55) rfl) ?_
  refine oS (fun _ => XS.iconst X0.here hx rfl (hb hby dd15_56) ) ?_
  refine oS (fun _ => XT.ishl X0.here hx rfl (hb hby dd15_57) rfl) ?_
  exact own_retI X0 hx Bd.notSynchronized Bd.returns (hb hby dd15_58) e0 (by decide) (by decide) (⟨rfl, N0, rfl⟩)
theorem own_pd10 : parseMethodDescriptor "(I)I" = some ⟨[.int], (some .int)⟩ := by decide +kernel
theorem dd14_1 : decode jdk_52_method_2_code 1 = .ok (.invokestatic 11, 3) := by decide +kernel
theorem dd14_4 : decode jdk_52_method_2_code 4 = .ok (.newarray .byte, 2) := by decide +kernel
theorem dd14_6 : decode jdk_52_method_2_code 6 = .ok (.areturn, 1) := by decide +kernel
def own_Q16 (Z : State)  (h0 : Heap) (n0 : Nat) (v : Option Value) (h : Heap) (L : List Loc) : Prop := (∃ ob_527 : Nat, ∃ kk_525 : ClassId, v = some (.ref ob_527) ∧ Fr n0 L ∧ Keep h0 h [] ∧ h0.size ≤ ob_527 ∧ Arv Z h ob_527 kk_525 .byte 4 [(.int 0), (.int 0), (.int 0), (.int 0)] (.int 0) ∧ Exa Z h ob_527 "[B" ∧ @LT.lt Nat instLTNat ob_527 h.size)
theorem own_pn11 : plainFor (⟨"java/lang/StringUTF16", "newBytesFor", "(I)[B"⟩ : MethodName) = true := by decide +kernel
set_option maxRecDepth 65536 in
set_option maxHeartbeats 40000000 in
theorem own_rm16 (l : Launch) (Z : State) (a0 : Array Value) (hw : ∀ d ∈ tables_1, d.before a0 Z = true) (ws : List Jvm.Cond)  (h0 : Heap) (n0 : Nat) (Z0 : n0 ≤ h0.size) (O0 : Old Z n0 h0)  :
    own_Met l Z h0 (⟨"java/lang/StringUTF16", "newBytesFor", "(I)[B"⟩ : MethodName) jdk_52_method_2_code 1 (Option.some (FieldType.array FieldType.byte)) ws ({ frames := 1, cells := 1, slots := 4, locals := 12 } : Room) #[(.int 2)] (own_Q16 Z  h0 n0) 1 4 := by
  refine MetFree.of_bodySF own_pn11 hisR ?_
  intro p e s m args below meth c s₁ Bd hml0 hP hK
  obtain ⟨rfl, hZ, hh⟩ := hP
  have hx := Bd.exec
  have hby := Bd.bytes
  have hml : c.maxLocals = 1 := hml0
  have hown : s.vm.findClass "java/lang/StringUTF16" = some m.cls := findClass_of_methodNamed Bd.named
  have hnm := (name_of_methodNamed Bd.named Bd.method).1
  have X0 : Stand p l e ({ frames := 1, cells := 1, slots := 4, locals := 12 } : Room) s m #[(.int 2)] below meth c s₁ [] 0 0 := Stand.of_body Bd
  have e0 : s₁.heap = h0 := by rw [← hh, Bd.state]; rfl
  have N0 := Fr.nil n0
  show own_G p e below (s₁.setTop (entryFrame m #[(.int 2)] 1)) (own_P s (own_Q16 Z  h0 n0) 1 4)
  refine own_cast (own_ef12 m 2) ?_
  show own_G p e below (s₁.setTop (mkF m 0 #[iv 2] [])) _
  refine oS (fun _ => XS.iloadN X0.here hx rfl (hb hby dd14_0) rfl) ?_
  obtain ⟨T504, h505, v506, L507, X508, e509, q510, s511⟩ := own_callS X0 hx hZ hown e0 (y := (⟨"java/lang/StringUTF16", "newBytesLength", "(I)I"⟩ : MethodName)) (oW hw 97 rfl) (oW hw 98 rfl) (oW hw 20 rfl) (oW hw 99 rfl) (by decide) (W := 0) (own_rm17 l Z a0 hw []  h0 n0 Z0 O0 ) (by decide) (by decide) (by decide) (by decide) (g := (mkF m 1 #[iv 2] [(.int 2)])) rfl (by rw [hml]; rfl) (argsL := [(.int 2)]) (rest := []) rfl (lenOf own_pd10 rfl) rfl (by show 2 * 0 + _ ≤ _; exact Nat.le_of_eq rfl) (hb hby dd14_1)
  refine oS s511 ?_
  obtain ⟨rfl, N512, K513⟩ := q510
  have N514 := Fr.app N0 N512
  have e515 := e509.trans K513
  show own_G p e below (T504.setTop (mkF m 4 #[iv 2] [(.int 4)])) _
  obtain ⟨T516, h517, kk_525, X519, e520, E521, A522, B526, s523⟩ := own_newP X508 hx hZ (aty := .byte) (oW hw 22 rfl) e515 (nm := "[B") rfl (g := (mkF m 4 #[iv 2] [(.int 4)])) rfl (hb hby dd14_4) (n := 4) (rest := []) rfl (by decide) (cap := 4) (by decide) (by decide) (by decide) (by decide)
  obtain ⟨ob_527, g528⟩ : ∃ z, z = h0.size := ⟨_, rfl⟩
  rw [← g528] at A522 B526 s523
  have F529 : Arv Z h517 ob_527 kk_525 .byte 4 [(.int 0), (.int 0), (.int 0), (.int 0)] (.int 0) := own_newA A522 (by decide) rfl rfl
  have z530 := E521.1
  have y524 : @LT.lt Nat instLTNat ob_527 h517.size := F529.lt
  refine oS s523 ?_
  show own_G p e below (T516.setTop (mkF m 6 #[iv 2] [(.ref ob_527)])) _
  have y531 : @LT.lt Nat instLTNat ob_527 h517.size := by omega
  have K532 : Keep h0 h517 [] := ((Keep.refl h0 []).ext E521)
  exact own_retA X519 hx Bd.notSynchronized Bd.returns rfl rfl (hb hby dd14_6) e520 (by decide) (by decide) (⟨ob_527, kk_525, rfl, N514, K532, (by omega), F529, B526, y531⟩)
theorem own_pd11 : parseMethodDescriptor "(I)[B" = some ⟨[.int], (some (.array .byte))⟩ := by decide +kernel
theorem dd11_33 : decode jdk_42_method_46_code 33 = .ok (.invokestatic 60, 3) := by decide +kernel
theorem dd11_36 : decode jdk_42_method_46_code 36 = .ok (.astore 4, 2) := by decide +kernel
theorem dd11_38 : decode jdk_42_method_46_code 38 = .ok (.aload_n 1, 1) := by decide +kernel
theorem dd11_39 : decode jdk_42_method_46_code 39 = .ok (.astore 5, 2) := by decide +kernel
theorem dd11_41 : decode jdk_42_method_46_code 41 = .ok (.aload 5, 2) := by decide +kernel
theorem dd11_43 : decode jdk_42_method_46_code 43 = .ok (.arraylength, 1) := by decide +kernel
theorem dd11_44 : decode jdk_42_method_46_code 44 = .ok (.istore 6, 2) := by decide +kernel
theorem dd11_46 : decode jdk_42_method_46_code 46 = .ok (.iconst 0, 1) := by decide +kernel
theorem dd11_47 : decode jdk_42_method_46_code 47 = .ok (.istore 7, 2) := by decide +kernel
theorem dd11_49 : decode jdk_42_method_46_code 49 = .ok (.iload 7, 2) := by decide +kernel
theorem dd11_51 : decode jdk_42_method_46_code 51 = .ok (.iload 6, 2) := by decide +kernel
theorem dd11_53 : decode jdk_42_method_46_code 53 = .ok (.if_icmp .ge 71, 3) := by decide +kernel
theorem dd11_56 : decode jdk_42_method_46_code 56 = .ok (.aload 5, 2) := by decide +kernel
theorem dd11_58 : decode jdk_42_method_46_code 58 = .ok (.iload 7, 2) := by decide +kernel
theorem dd11_60 : decode jdk_42_method_46_code 60 = .ok (.baload, 1) := by decide +kernel
theorem dd11_61 : decode jdk_42_method_46_code 61 = .ok (.istore 8, 2) := by decide +kernel
theorem dd11_63 : decode jdk_42_method_46_code 63 = .ok (.iload 8, 2) := by decide +kernel
theorem dd11_65 : decode jdk_42_method_46_code 65 = .ok (.ifCond .ge 44, 3) := by decide +kernel
theorem dd11_68 : decode jdk_42_method_46_code 68 = .ok (.aload 4, 2) := by decide +kernel
theorem dd11_70 : decode jdk_42_method_46_code 70 = .ok (.iload_n 3, 1) := by decide +kernel
theorem dd11_71 : decode jdk_42_method_46_code 71 = .ok (.iinc 3 1, 3) := by decide +kernel
theorem dd11_74 : decode jdk_42_method_46_code 74 = .ok (.sipush 192, 3) := by decide +kernel
theorem dd11_77 : decode jdk_42_method_46_code 77 = .ok (.iload 8, 2) := by decide +kernel
theorem dd11_79 : decode jdk_42_method_46_code 79 = .ok (.sipush 255, 3) := by decide +kernel
theorem dd11_82 : decode jdk_42_method_46_code 82 = .ok (.iand, 1) := by decide +kernel
theorem dd11_83 : decode jdk_42_method_46_code 83 = .ok (.bipush 6, 2) := by decide +kernel
theorem dd11_85 : decode jdk_42_method_46_code 85 = .ok (.ishr, 1) := by decide +kernel
theorem dd11_86 : decode jdk_42_method_46_code 86 = .ok (.ior, 1) := by decide +kernel
theorem dd11_87 : decode jdk_42_method_46_code 87 = .ok (.i2b, 1) := by decide +kernel
theorem dd11_88 : decode jdk_42_method_46_code 88 = .ok (.bastore, 1) := by decide +kernel
theorem dd11_89 : decode jdk_42_method_46_code 89 = .ok (.aload 4, 2) := by decide +kernel
theorem dd11_91 : decode jdk_42_method_46_code 91 = .ok (.iload_n 3, 1) := by decide +kernel
theorem dd11_92 : decode jdk_42_method_46_code 92 = .ok (.iinc 3 1, 3) := by decide +kernel
theorem dd11_95 : decode jdk_42_method_46_code 95 = .ok (.sipush 128, 3) := by decide +kernel
theorem dd11_98 : decode jdk_42_method_46_code 98 = .ok (.iload 8, 2) := by decide +kernel
theorem dd11_100 : decode jdk_42_method_46_code 100 = .ok (.bipush 63, 2) := by decide +kernel
theorem dd11_102 : decode jdk_42_method_46_code 102 = .ok (.iand, 1) := by decide +kernel
theorem dd11_103 : decode jdk_42_method_46_code 103 = .ok (.ior, 1) := by decide +kernel
theorem dd11_104 : decode jdk_42_method_46_code 104 = .ok (.i2b, 1) := by decide +kernel
theorem dd11_105 : decode jdk_42_method_46_code 105 = .ok (.bastore, 1) := by decide +kernel
theorem dd11_106 : decode jdk_42_method_46_code 106 = .ok (.goto 12, 3) := by decide +kernel
theorem dd11_118 : decode jdk_42_method_46_code 118 = .ok (.iinc 7 1, 3) := by decide +kernel
theorem dd11_121 : decode jdk_42_method_46_code 121 = .ok (.goto (-72), 3) := by decide +kernel
theorem dd11_124 : decode jdk_42_method_46_code 124 = .ok (.iload_n 3, 1) := by decide +kernel
theorem dd11_125 : decode jdk_42_method_46_code 125 = .ok (.aload 4, 2) := by decide +kernel
theorem dd11_127 : decode jdk_42_method_46_code 127 = .ok (.arraylength, 1) := by decide +kernel
theorem dd11_128 : decode jdk_42_method_46_code 128 = .ok (.if_icmp .ne 6, 3) := by decide +kernel
theorem dd11_131 : decode jdk_42_method_46_code 131 = .ok (.aload 4, 2) := by decide +kernel
theorem dd11_133 : decode jdk_42_method_46_code 133 = .ok (.areturn, 1) := by decide +kernel
theorem dd11_109 : decode jdk_42_method_46_code 109 = .ok (.aload 4, 2) := by decide +kernel
theorem dd11_111 : decode jdk_42_method_46_code 111 = .ok (.iload_n 3, 1) := by decide +kernel
theorem dd11_112 : decode jdk_42_method_46_code 112 = .ok (.iinc 3 1, 3) := by decide +kernel
theorem dd11_115 : decode jdk_42_method_46_code 115 = .ok (.iload 8, 2) := by decide +kernel
theorem dd11_117 : decode jdk_42_method_46_code 117 = .ok (.bastore, 1) := by decide +kernel
theorem dd11_134 : decode jdk_42_method_46_code 134 = .ok (.aload 4, 2) := by decide +kernel
theorem dd11_136 : decode jdk_42_method_46_code 136 = .ok (.iload_n 3, 1) := by decide +kernel
theorem own_ef13 (m : MethodId) (x0 : Addr) (x1 : Int32) : entryFrame m #[(.ref x0), (.int x1)] 3 = mkF m 0 #[.val (.ref x0), .val (.int x1), .unset] [] := by first | (simp [entryFrame, mkF, argsToLocals, Value.category]; done) | rfl
theorem dd16_0 : decode jdk_65_method_121_code 0 = .ok (.iload_n 1, 1) := by decide +kernel
theorem dd16_1 : decode jdk_65_method_121_code 1 = .ok (.aload_n 0, 1) := by decide +kernel
theorem dd16_2 : decode jdk_65_method_121_code 2 = .ok (.arraylength, 1) := by decide +kernel
theorem dd16_3 : decode jdk_65_method_121_code 3 = .ok (.if_icmp .ne 11, 3) := by decide +kernel
theorem dd16_14 : decode jdk_65_method_121_code 14 = .ok (.iload_n 1, 1) := by decide +kernel
theorem dd16_15 : decode jdk_65_method_121_code 15 = .ok (.newarray .byte, 2) := by decide +kernel
theorem dd16_17 : decode jdk_65_method_121_code 17 = .ok (.astore_n 2, 1) := by decide +kernel
theorem dd16_18 : decode jdk_65_method_121_code 18 = .ok (.aload_n 0, 1) := by decide +kernel
theorem dd16_19 : decode jdk_65_method_121_code 19 = .ok (.iconst 0, 1) := by decide +kernel
theorem dd16_20 : decode jdk_65_method_121_code 20 = .ok (.aload_n 2, 1) := by decide +kernel
theorem dd16_21 : decode jdk_65_method_121_code 21 = .ok (.iconst 0, 1) := by decide +kernel
theorem dd16_22 : decode jdk_65_method_121_code 22 = .ok (.aload_n 0, 1) := by decide +kernel
theorem dd16_23 : decode jdk_65_method_121_code 23 = .ok (.arraylength, 1) := by decide +kernel
theorem dd16_24 : decode jdk_65_method_121_code 24 = .ok (.iload_n 1, 1) := by decide +kernel
theorem own_ef14 (m : MethodId) (x0 : Int32) (x1 : Int32) : entryFrame m #[(.int x0), (.int x1)] 2 = mkF m 0 #[.val (.int x0), .val (.int x1)] [] := by first | (simp [entryFrame, mkF, argsToLocals, Value.category]; done) | rfl
theorem dd17_0 : decode jdk_29_method_69_code 0 = .ok (.iload_n 0, 1) := by decide +kernel
theorem dd17_1 : decode jdk_29_method_69_code 1 = .ok (.iload_n 1, 1) := by decide +kernel
theorem dd17_2 : decode jdk_29_method_69_code 2 = .ok (.if_icmp .gt 7, 3) := by decide +kernel
theorem dd17_9 : decode jdk_29_method_69_code 9 = .ok (.iload_n 1, 1) := by decide +kernel
theorem dd17_10 : decode jdk_29_method_69_code 10 = .ok (.ireturn, 1) := by decide +kernel
def own_Q19 (Z : State)  (h0 : Heap) (n0 : Nat) (v : Option Value) (h : Heap) (L : List Loc) : Prop := (v = some (.int 3) ∧ Fr n0 L ∧ h = h0)
theorem own_pn12 : plainFor (⟨"java/lang/Math", "min", "(II)I"⟩ : MethodName) = true := by decide +kernel
set_option maxRecDepth 65536 in
set_option maxHeartbeats 40000000 in
theorem own_rm19 (l : Launch) (Z : State) (a0 : Array Value) (hw : ∀ d ∈ tables_1, d.before a0 Z = true) (ws : List Jvm.Cond)  (h0 : Heap) (n0 : Nat) (Z0 : n0 ≤ h0.size) (O0 : Old Z n0 h0)  :
    own_Met l Z h0 (⟨"java/lang/Math", "min", "(II)I"⟩ : MethodName) jdk_29_method_69_code 2 (Option.some FieldType.int) ws ({ frames := 0, cells := 0, slots := 0, locals := 0 } : Room) #[(.int 4), (.int 3)] (own_Q19 Z  h0 n0) 0 0 := by
  refine MetFree.of_bodySF own_pn12 hisR ?_
  intro p e s m args below meth c s₁ Bd hml0 hP hK
  obtain ⟨rfl, hZ, hh⟩ := hP
  have hx := Bd.exec
  have hby := Bd.bytes
  have hml : c.maxLocals = 2 := hml0
  have hown : s.vm.findClass "java/lang/Math" = some m.cls := findClass_of_methodNamed Bd.named
  have hnm := (name_of_methodNamed Bd.named Bd.method).1
  have X0 : Stand p l e ({ frames := 0, cells := 0, slots := 0, locals := 0 } : Room) s m #[(.int 4), (.int 3)] below meth c s₁ [] 0 0 := Stand.of_body Bd
  have e0 : s₁.heap = h0 := by rw [← hh, Bd.state]; rfl
  have N0 := Fr.nil n0
  show own_G p e below (s₁.setTop (entryFrame m #[(.int 4), (.int 3)] 2)) (own_P s (own_Q19 Z  h0 n0) 0 0)
  refine own_cast (own_ef14 m 4 3) ?_
  show own_G p e below (s₁.setTop (mkF m 0 #[iv 4, iv 3] [])) _
  refine oS (fun _ => XS.iloadN X0.here hx rfl (hb hby dd17_0) rfl) ?_
  refine oS (fun _ => XS.iloadN X0.here hx rfl (hb hby dd17_1) rfl) ?_
  refine oS (fun _ => XS.icmpYes X0.here hx rfl (pc0 := 2) (pc' := 9) rfl (hb hby dd17_2) rfl (XT.ii_gt_t (by decide)) (by decide) (by decide)) ?_
  show own_G p e below (s₁.setTop (mkF m 9 #[iv 4, iv 3] [])) _
  refine oS (fun _ => XS.iloadN X0.here hx rfl (hb hby dd17_9) rfl) ?_
  exact own_retI X0 hx Bd.notSynchronized Bd.returns (hb hby dd17_10) e0 (by decide) (by decide) (⟨rfl, N0, rfl⟩)
theorem own_pd12 : parseMethodDescriptor "(II)I" = some ⟨[.int, .int], (some .int)⟩ := by decide +kernel
theorem dd16_25 : decode jdk_65_method_121_code 25 = .ok (.invokestatic 304, 3) := by decide +kernel
theorem dd16_28 : decode jdk_65_method_121_code 28 = .ok (.invokestatic 150, 3) := by decide +kernel
theorem dd16_31 : decode jdk_65_method_121_code 31 = .ok (.aload_n 2, 1) := by decide +kernel
theorem dd16_32 : decode jdk_65_method_121_code 32 = .ok (.areturn, 1) := by decide +kernel
def own_Q18 (Z : State) (ob_541 : Nat) (kk_542 : ClassId) (in_41 : Int32) (in_57 : Int32) (h0 : Heap) (n0 : Nat) (v : Option Value) (h : Heap) (L : List Loc) : Prop := (∃ ob_633 : Nat, ∃ kk_631 : ClassId, v = some (.ref ob_633) ∧ Fr n0 L ∧ Keep h0 h [] ∧ h0.size ≤ ob_633 ∧ Arv Z h ob_633 kk_631 .byte 3 [(.int (((192 : Int32) ||| (((in_41.toInt8.toInt32) &&& 255) >>> ((6 : Int32) &&& 31))).toInt8.toInt32)), (.int (((128 : Int32) ||| ((in_41.toInt8.toInt32) &&& 63)).toInt8.toInt32)), (.int (in_57.toInt8.toInt32))] (.int 0) ∧ Exa Z h ob_633 "[B" ∧ @LT.lt Nat instLTNat ob_633 h.size)
theorem own_pn13 : plainFor (⟨"java/util/Arrays", "copyOf", "([BI)[B"⟩ : MethodName) = true := by decide +kernel
set_option maxRecDepth 65536 in
set_option maxHeartbeats 40000000 in
theorem own_rm18 (l : Launch) (Z : State) (a0 : Array Value) (hw : ∀ d ∈ tables_1, d.before a0 Z = true) (ws : List Jvm.Cond) (ob_541 : Nat) (kk_542 : ClassId) (in_41 : Int32) (in_57 : Int32) (h0 : Heap) (n0 : Nat) (Z0 : n0 ≤ h0.size) (O0 : Old Z n0 h0) (I621 : Arv Z h0 ob_541 kk_542 .byte 4 [(.int (((192 : Int32) ||| (((in_41.toInt8.toInt32) &&& 255) >>> ((6 : Int32) &&& 31))).toInt8.toInt32)), (.int (((128 : Int32) ||| ((in_41.toInt8.toInt32) &&& 63)).toInt8.toInt32)), (.int (in_57.toInt8.toInt32)), (.int 0)] (.int 0)) :
    own_Met l Z h0 (⟨"java/util/Arrays", "copyOf", "([BI)[B"⟩ : MethodName) jdk_65_method_121_code 3 (Option.some (FieldType.array FieldType.byte)) ws ({ frames := 1, cells := 1, slots := 3, locals := 18 } : Room) #[(.ref ob_541), (.int 3)] (own_Q18 Z ob_541 kk_542 in_41 in_57 h0 n0) 1 3 := by
  refine MetFree.of_bodySF own_pn13 hisR ?_
  intro p e s m args below meth c s₁ Bd hml0 hP hK
  obtain ⟨rfl, hZ, hh⟩ := hP
  have hx := Bd.exec
  have hby := Bd.bytes
  have hml : c.maxLocals = 3 := hml0
  have hown : s.vm.findClass "java/util/Arrays" = some m.cls := findClass_of_methodNamed Bd.named
  have hnm := (name_of_methodNamed Bd.named Bd.method).1
  have X0 : Stand p l e ({ frames := 1, cells := 1, slots := 3, locals := 18 } : Room) s m #[(.ref ob_541), (.int 3)] below meth c s₁ [] 0 0 := Stand.of_body Bd
  have e0 : s₁.heap = h0 := by rw [← hh, Bd.state]; rfl
  have N0 := Fr.nil n0
  show own_G p e below (s₁.setTop (entryFrame m #[(.ref ob_541), (.int 3)] 3)) (own_P s (own_Q18 Z ob_541 kk_542 in_41 in_57 h0 n0) 1 3)
  refine own_cast (own_ef13 m ob_541 3) ?_
  show own_G p e below (s₁.setTop (mkF m 0 #[rv ob_541, iv 3, .unset] [])) _
  refine oS (fun _ => XS.iloadN X0.here hx rfl (hb hby dd16_0) rfl) ?_
  refine oS (fun _ => XS.aloadN X0.here hx rfl (hb hby dd16_1) rfl rfl) ?_
  refine oS (own_len X0 hx hZ e0 I621 rfl rfl (hb hby dd16_2)) ?_
  show own_G p e below (s₁.setTop (mkF m 3 #[rv ob_541, iv 3, .unset] [(.int 4), (.int 3)])) _
  refine oS (fun _ => XS.icmpYes X0.here hx rfl (pc0 := 3) (pc' := 14) rfl (hb hby dd16_3) rfl (XT.ii_ne_t (by decide)) (by decide) (by decide)) ?_
  show own_G p e below (s₁.setTop (mkF m 14 #[rv ob_541, iv 3, .unset] [])) _
  refine oS (fun _ => XS.iloadN X0.here hx rfl (hb hby dd16_14) rfl) ?_
  obtain ⟨T622, h623, kk_631, X625, e626, E627, A628, B632, s629⟩ := own_newP X0 hx hZ (aty := .byte) (oW hw 22 rfl) e0 (nm := "[B") rfl (g := (mkF m 15 #[rv ob_541, iv 3, .unset] [(.int 3)])) rfl (hb hby dd16_15) (n := 3) (rest := []) rfl (by decide) (cap := 3) (by decide) (by decide) (by decide) (by decide)
  obtain ⟨ob_633, g634⟩ : ∃ z, z = h0.size := ⟨_, rfl⟩
  rw [← g634] at A628 B632 s629
  have F635 : Arv Z h623 ob_633 kk_631 .byte 3 [(.int 0), (.int 0), (.int 0)] (.int 0) := own_newA A628 (by decide) rfl rfl
  have z636 := E627.1
  have y630 : @LT.lt Nat instLTNat ob_633 h623.size := F635.lt
  refine oS s629 ?_
  show own_G p e below (T622.setTop (mkF m 17 #[rv ob_541, iv 3, .unset] [(.ref ob_633)])) _
  refine oS (fun _ => XS.astoreN X625.here hx rfl (hb hby dd16_17) rfl rfl (l' := #[rv ob_541, iv 3, rv ob_633]) rfl) ?_
  refine oS (fun _ => XS.aloadN X625.here hx rfl (hb hby dd16_18) rfl rfl) ?_
  refine oS (fun _ => XS.iconst X625.here hx rfl (hb hby dd16_19) ) ?_
  refine oS (fun _ => XS.aloadN X625.here hx rfl (hb hby dd16_20) rfl rfl) ?_
  show own_G p e below (T622.setTop (mkF m 21 #[rv ob_541, iv 3, rv ob_633] [(.ref ob_633), (.int 0), (.ref ob_541)])) _
  refine oS (fun _ => XS.iconst X625.here hx rfl (hb hby dd16_21) ) ?_
  refine oS (fun _ => XS.aloadN X625.here hx rfl (hb hby dd16_22) rfl rfl) ?_
  have F637 : Arv Z h623 ob_541 kk_542 .byte 4 [(.int (((192 : Int32) ||| (((in_41.toInt8.toInt32) &&& 255) >>> ((6 : Int32) &&& 31))).toInt8.toInt32)), (.int (((128 : Int32) ||| ((in_41.toInt8.toInt32) &&& 63)).toInt8.toInt32)), (.int (in_57.toInt8.toInt32)), (.int 0)] (.int 0) := I621.ext E627
  refine oS (own_len X625 hx hZ e626 F637 rfl rfl (hb hby dd16_23)) ?_
  show own_G p e below (T622.setTop (mkF m 24 #[rv ob_541, iv 3, rv ob_633] [(.int 4), (.int 0), (.ref ob_633), (.int 0), (.ref ob_541)])) _
  refine oS (fun _ => XS.iloadN X625.here hx rfl (hb hby dd16_24) rfl) ?_
  have O638 : Old Z n0 h623 := O0.ext E627
  have Z639 : n0 ≤ h623.size := by omega
  obtain ⟨T640, h641, v642, L643, X644, e645, q646, s647⟩ := own_callS X625 hx hZ hown e626 (y := (⟨"java/lang/Math", "min", "(II)I"⟩ : MethodName)) (oW hw 105 rfl) (oW hw 106 rfl) (oW hw 107 rfl) (oW hw 108 rfl) (by decide) (W := 4) (own_rm19 l Z a0 hw []  h623 n0 Z639 O638 ) (by decide) (by decide) (by decide) (by decide) (g := (mkF m 25 #[rv ob_541, iv 3, rv ob_633] [(.int 3), (.int 4), (.int 0), (.ref ob_633), (.int 0), (.ref ob_541)])) rfl (by rw [hml]; rfl) (argsL := [(.int 4), (.int 3)]) (rest := [(.int 0), (.ref ob_633), (.int 0), (.ref ob_541)]) rfl (lenOf own_pd12 rfl) rfl (by show 2 * 0 + _ ≤ _; exact Nat.le_of_eq rfl) (hb hby dd16_25)
  refine oS s647 ?_
  obtain ⟨rfl, N648, K649⟩ := q646
  have N650 := Fr.app N0 N648
  have e651 := e645.trans K649
  show own_G p e below (T640.setTop (mkF m 28 #[rv ob_541, iv 3, rv ob_633] [(.int 3), (.int 0), (.ref ob_633), (.int 0), (.ref ob_541)])) _
  have N661 : n0 ≤ ob_633 := by omega
  obtain ⟨T652, h653, L654, X655, e656, N657, K658, A659, s660⟩ := cpA X644 hx hZ hown (oW hw 109 rfl) (oW hw 89 rfl) (oW hw 87 rfl) (oW hw 88 rfl) e651 F637 F635 (us := [(.int (((192 : Int32) ||| (((in_41.toInt8.toInt32) &&& 255) >>> ((6 : Int32) &&& 31))).toInt8.toInt32)), (.int (((128 : Int32) ||| ((in_41.toInt8.toInt32) &&& 63)).toInt8.toInt32)), (.int (in_57.toInt8.toInt32))]) (Or.inl ⟨rfl, rfl⟩) (by decide) (by decide) (by decide) (by decide) (by decide) rfl (Nat.le_of_ble_eq_true rfl) N650 N661 (g := (mkF m 28 #[rv ob_541, iv 3, rv ob_633] [(.int 3), (.int 0), (.ref ob_633), (.int 0), (.ref ob_541)])) rfl (by rw [hml]; rfl) (rest := []) rfl (hb hby dd16_28) (by decide) (W := 0) (by show 2 * 0 + _ ≤ _; exact Nat.le_of_eq rfl) (by decide)
  have z662 := K658.1
  have F663 : Arv Z h653 ob_633 kk_631 .byte 3 [(.int (((192 : Int32) ||| (((in_41.toInt8.toInt32) &&& 255) >>> ((6 : Int32) &&& 31))).toInt8.toInt32)), (.int (((128 : Int32) ||| ((in_41.toInt8.toInt32) &&& 63)).toInt8.toInt32)), (.int (in_57.toInt8.toInt32))] (.int 0) := A659
  refine oS s660 ?_
  show own_G p e below (T652.setTop (mkF m 31 #[rv ob_541, iv 3, rv ob_633] [])) _
  refine oS (fun _ => XS.aloadN X655.here hx rfl (hb hby dd16_31) rfl rfl) ?_
  have F664 : Exa Z h653 ob_633 "[B" := B632.keep K658
  have y665 : @LT.lt Nat instLTNat ob_633 h653.size := by omega
  have K666 : Keep h0 h653 [] := (((Keep.refl h0 []).ext E627).trans K658 (allS (Or.inr (by omega)) all0))
  exact own_retA X655 hx Bd.notSynchronized Bd.returns rfl rfl (hb hby dd16_32) e656 (by decide) (by decide) (⟨ob_633, kk_631, rfl, N657, K666, (by omega), F663, F664, y665⟩)
theorem own_pd13 : parseMethodDescriptor "([BI)[B" = some ⟨[(.array .byte), .int], (some (.array .byte))⟩ := by decide +kernel
theorem dd11_137 : decode jdk_42_method_46_code 137 = .ok (.invokestatic 102, 3) := by decide +kernel
theorem dd11_140 : decode jdk_42_method_46_code 140 = .ok (.areturn, 1) := by decide +kernel
def own_Q20 (Z : State) (ob_702 : Nat) (kk_703 : ClassId) (in_41 : Int32) (in_57 : Int32) (h0 : Heap) (n0 : Nat) (v : Option Value) (h : Heap) (L : List Loc) : Prop := (∃ ob_758 : Nat, ∃ kk_756 : ClassId, v = some (.ref ob_758) ∧ Fr n0 L ∧ Keep h0 h [] ∧ h0.size ≤ ob_758 ∧ Arv Z h ob_758 kk_756 .byte 3 [(.int (in_41.toInt8.toInt32)), (.int (((192 : Int32) ||| (((in_57.toInt8.toInt32) &&& 255) >>> ((6 : Int32) &&& 31))).toInt8.toInt32)), (.int (((128 : Int32) ||| ((in_57.toInt8.toInt32) &&& 63)).toInt8.toInt32))] (.int 0) ∧ Exa Z h ob_758 "[B" ∧ @LT.lt Nat instLTNat ob_758 h.size)
set_option maxRecDepth 65536 in
set_option maxHeartbeats 40000000 in
theorem own_rm20 (l : Launch) (Z : State) (a0 : Array Value) (hw : ∀ d ∈ tables_1, d.before a0 Z = true) (ws : List Jvm.Cond) (ob_702 : Nat) (kk_703 : ClassId) (in_41 : Int32) (in_57 : Int32) (h0 : Heap) (n0 : Nat) (Z0 : n0 ≤ h0.size) (O0 : Old Z n0 h0) (I746 : Arv Z h0 ob_702 kk_703 .byte 4 [(.int (in_41.toInt8.toInt32)), (.int (((192 : Int32) ||| (((in_57.toInt8.toInt32) &&& 255) >>> ((6 : Int32) &&& 31))).toInt8.toInt32)), (.int (((128 : Int32) ||| ((in_57.toInt8.toInt32) &&& 63)).toInt8.toInt32)), (.int 0)] (.int 0)) :
    own_Met l Z h0 (⟨"java/util/Arrays", "copyOf", "([BI)[B"⟩ : MethodName) jdk_65_method_121_code 3 (Option.some (FieldType.array FieldType.byte)) ws ({ frames := 1, cells := 1, slots := 3, locals := 18 } : Room) #[(.ref ob_702), (.int 3)] (own_Q20 Z ob_702 kk_703 in_41 in_57 h0 n0) 1 3 := by
  refine MetFree.of_bodySF own_pn13 hisR ?_
  intro p e s m args below meth c s₁ Bd hml0 hP hK
  obtain ⟨rfl, hZ, hh⟩ := hP
  have hx := Bd.exec
  have hby := Bd.bytes
  have hml : c.maxLocals = 3 := hml0
  have hown : s.vm.findClass "java/util/Arrays" = some m.cls := findClass_of_methodNamed Bd.named
  have hnm := (name_of_methodNamed Bd.named Bd.method).1
  have X0 : Stand p l e ({ frames := 1, cells := 1, slots := 3, locals := 18 } : Room) s m #[(.ref ob_702), (.int 3)] below meth c s₁ [] 0 0 := Stand.of_body Bd
  have e0 : s₁.heap = h0 := by rw [← hh, Bd.state]; rfl
  have N0 := Fr.nil n0
  show own_G p e below (s₁.setTop (entryFrame m #[(.ref ob_702), (.int 3)] 3)) (own_P s (own_Q20 Z ob_702 kk_703 in_41 in_57 h0 n0) 1 3)
  refine own_cast (own_ef13 m ob_702 3) ?_
  show own_G p e below (s₁.setTop (mkF m 0 #[rv ob_702, iv 3, .unset] [])) _
  refine oS (fun _ => XS.iloadN X0.here hx rfl (hb hby dd16_0) rfl) ?_
  refine oS (fun _ => XS.aloadN X0.here hx rfl (hb hby dd16_1) rfl rfl) ?_
  refine oS (own_len X0 hx hZ e0 I746 rfl rfl (hb hby dd16_2)) ?_
  show own_G p e below (s₁.setTop (mkF m 3 #[rv ob_702, iv 3, .unset] [(.int 4), (.int 3)])) _
  refine oS (fun _ => XS.icmpYes X0.here hx rfl (pc0 := 3) (pc' := 14) rfl (hb hby dd16_3) rfl (XT.ii_ne_t (by decide)) (by decide) (by decide)) ?_
  show own_G p e below (s₁.setTop (mkF m 14 #[rv ob_702, iv 3, .unset] [])) _
  refine oS (fun _ => XS.iloadN X0.here hx rfl (hb hby dd16_14) rfl) ?_
  obtain ⟨T747, h748, kk_756, X750, e751, E752, A753, B757, s754⟩ := own_newP X0 hx hZ (aty := .byte) (oW hw 22 rfl) e0 (nm := "[B") rfl (g := (mkF m 15 #[rv ob_702, iv 3, .unset] [(.int 3)])) rfl (hb hby dd16_15) (n := 3) (rest := []) rfl (by decide) (cap := 3) (by decide) (by decide) (by decide) (by decide)
  obtain ⟨ob_758, g759⟩ : ∃ z, z = h0.size := ⟨_, rfl⟩
  rw [← g759] at A753 B757 s754
  have F760 : Arv Z h748 ob_758 kk_756 .byte 3 [(.int 0), (.int 0), (.int 0)] (.int 0) := own_newA A753 (by decide) rfl rfl
  have z761 := E752.1
  have y755 : @LT.lt Nat instLTNat ob_758 h748.size := F760.lt
  refine oS s754 ?_
  show own_G p e below (T747.setTop (mkF m 17 #[rv ob_702, iv 3, .unset] [(.ref ob_758)])) _
  refine oS (fun _ => XS.astoreN X750.here hx rfl (hb hby dd16_17) rfl rfl (l' := #[rv ob_702, iv 3, rv ob_758]) rfl) ?_
  refine oS (fun _ => XS.aloadN X750.here hx rfl (hb hby dd16_18) rfl rfl) ?_
  refine oS (fun _ => XS.iconst X750.here hx rfl (hb hby dd16_19) ) ?_
  refine oS (fun _ => XS.aloadN X750.here hx rfl (hb hby dd16_20) rfl rfl) ?_
  show own_G p e below (T747.setTop (mkF m 21 #[rv ob_702, iv 3, rv ob_758] [(.ref ob_758), (.int 0), (.ref ob_702)])) _
  refine oS (fun _ => XS.iconst X750.here hx rfl (hb hby dd16_21) ) ?_
  refine oS (fun _ => XS.aloadN X750.here hx rfl (hb hby dd16_22) rfl rfl) ?_
  have F762 : Arv Z h748 ob_702 kk_703 .byte 4 [(.int (in_41.toInt8.toInt32)), (.int (((192 : Int32) ||| (((in_57.toInt8.toInt32) &&& 255) >>> ((6 : Int32) &&& 31))).toInt8.toInt32)), (.int (((128 : Int32) ||| ((in_57.toInt8.toInt32) &&& 63)).toInt8.toInt32)), (.int 0)] (.int 0) := I746.ext E752
  refine oS (own_len X750 hx hZ e751 F762 rfl rfl (hb hby dd16_23)) ?_
  show own_G p e below (T747.setTop (mkF m 24 #[rv ob_702, iv 3, rv ob_758] [(.int 4), (.int 0), (.ref ob_758), (.int 0), (.ref ob_702)])) _
  refine oS (fun _ => XS.iloadN X750.here hx rfl (hb hby dd16_24) rfl) ?_
  have O763 : Old Z n0 h748 := O0.ext E752
  have Z764 : n0 ≤ h748.size := by omega
  obtain ⟨T765, h766, v767, L768, X769, e770, q771, s772⟩ := own_callS X750 hx hZ hown e751 (y := (⟨"java/lang/Math", "min", "(II)I"⟩ : MethodName)) (oW hw 105 rfl) (oW hw 106 rfl) (oW hw 107 rfl) (oW hw 108 rfl) (by decide) (W := 4) (own_rm19 l Z a0 hw []  h748 n0 Z764 O763 ) (by decide) (by decide) (by decide) (by decide) (g := (mkF m 25 #[rv ob_702, iv 3, rv ob_758] [(.int 3), (.int 4), (.int 0), (.ref ob_758), (.int 0), (.ref ob_702)])) rfl (by rw [hml]; rfl) (argsL := [(.int 4), (.int 3)]) (rest := [(.int 0), (.ref ob_758), (.int 0), (.ref ob_702)]) rfl (lenOf own_pd12 rfl) rfl (by show 2 * 0 + _ ≤ _; exact Nat.le_of_eq rfl) (hb hby dd16_25)
  refine oS s772 ?_
  obtain ⟨rfl, N773, K774⟩ := q771
  have N775 := Fr.app N0 N773
  have e776 := e770.trans K774
  show own_G p e below (T765.setTop (mkF m 28 #[rv ob_702, iv 3, rv ob_758] [(.int 3), (.int 0), (.ref ob_758), (.int 0), (.ref ob_702)])) _
  have N786 : n0 ≤ ob_758 := by omega
  obtain ⟨T777, h778, L779, X780, e781, N782, K783, A784, s785⟩ := cpA X769 hx hZ hown (oW hw 109 rfl) (oW hw 89 rfl) (oW hw 87 rfl) (oW hw 88 rfl) e776 F762 F760 (us := [(.int (in_41.toInt8.toInt32)), (.int (((192 : Int32) ||| (((in_57.toInt8.toInt32) &&& 255) >>> ((6 : Int32) &&& 31))).toInt8.toInt32)), (.int (((128 : Int32) ||| ((in_57.toInt8.toInt32) &&& 63)).toInt8.toInt32))]) (Or.inl ⟨rfl, rfl⟩) (by decide) (by decide) (by decide) (by decide) (by decide) rfl (Nat.le_of_ble_eq_true rfl) N775 N786 (g := (mkF m 28 #[rv ob_702, iv 3, rv ob_758] [(.int 3), (.int 0), (.ref ob_758), (.int 0), (.ref ob_702)])) rfl (by rw [hml]; rfl) (rest := []) rfl (hb hby dd16_28) (by decide) (W := 0) (by show 2 * 0 + _ ≤ _; exact Nat.le_of_eq rfl) (by decide)
  have z787 := K783.1
  have F788 : Arv Z h778 ob_758 kk_756 .byte 3 [(.int (in_41.toInt8.toInt32)), (.int (((192 : Int32) ||| (((in_57.toInt8.toInt32) &&& 255) >>> ((6 : Int32) &&& 31))).toInt8.toInt32)), (.int (((128 : Int32) ||| ((in_57.toInt8.toInt32) &&& 63)).toInt8.toInt32))] (.int 0) := A784
  refine oS s785 ?_
  show own_G p e below (T777.setTop (mkF m 31 #[rv ob_702, iv 3, rv ob_758] [])) _
  refine oS (fun _ => XS.aloadN X780.here hx rfl (hb hby dd16_31) rfl rfl) ?_
  have F789 : Exa Z h778 ob_758 "[B" := B757.keep K783
  have y790 : @LT.lt Nat instLTNat ob_758 h778.size := by omega
  have K791 : Keep h0 h778 [] := (((Keep.refl h0 []).ext E752).trans K783 (allS (Or.inr (by omega)) all0))
  exact own_retA X780 hx Bd.notSynchronized Bd.returns rfl rfl (hb hby dd16_32) e781 (by decide) (by decide) (⟨ob_758, kk_756, rfl, N782, K791, (by omega), F788, F789, y790⟩)
theorem dd11_21 : decode jdk_42_method_46_code 21 = .ok (.aload_n 1, 1) := by decide +kernel
theorem dd11_22 : decode jdk_42_method_46_code 22 = .ok (.invokevirtual 279, 3) := by decide +kernel
theorem dd11_25 : decode jdk_42_method_46_code 25 = .ok (.checkcast 280, 3) := by decide +kernel
theorem dd11_28 : decode jdk_42_method_46_code 28 = .ok (.areturn, 1) := by decide +kernel
def own_Q13 (Z : State) (ob_299 : Nat) (kk_300 : ClassId) (in_41 : Int32) (in_57 : Int32) (h0 : Heap) (n0 : Nat) (v : Option Value) (h : Heap) (L : List Loc) : Prop := (∃ ob_541 : Nat, ∃ kk_542 : ClassId, ((in_41.toInt8.toInt32) < 0) ∧ ((in_57.toInt8.toInt32) < 0) ∧ v = some (.ref ob_541) ∧ Fr n0 L ∧ Keep h0 h [] ∧ h0.size ≤ ob_541 ∧ Arv Z h ob_541 kk_542 .byte 4 [(.int (((192 : Int32) ||| (((in_41.toInt8.toInt32) &&& 255) >>> ((6 : Int32) &&& 31))).toInt8.toInt32)), (.int (((128 : Int32) ||| ((in_41.toInt8.toInt32) &&& 63)).toInt8.toInt32)), (.int (((192 : Int32) ||| (((in_57.toInt8.toInt32) &&& 255) >>> ((6 : Int32) &&& 31))).toInt8.toInt32)), (.int (((128 : Int32) ||| ((in_57.toInt8.toInt32) &&& 63)).toInt8.toInt32))] (.int 0) ∧ Exa Z h ob_541 "[B" ∧ @LT.lt Nat instLTNat ob_541 h.size) ∨ (∃ ob_680 : Nat, ∃ kk_681 : ClassId, ((in_41.toInt8.toInt32) < 0) ∧ ¬ ((in_57.toInt8.toInt32) < 0) ∧ v = some (.ref ob_680) ∧ Fr n0 L ∧ Keep h0 h [] ∧ h0.size ≤ ob_680 ∧ Arv Z h ob_680 kk_681 .byte 3 [(.int (((192 : Int32) ||| (((in_41.toInt8.toInt32) &&& 255) >>> ((6 : Int32) &&& 31))).toInt8.toInt32)), (.int (((128 : Int32) ||| ((in_41.toInt8.toInt32) &&& 63)).toInt8.toInt32)), (.int (in_57.toInt8.toInt32))] (.int 0) ∧ Exa Z h ob_680 "[B" ∧ @LT.lt Nat instLTNat ob_680 h.size) ∨ (∃ ob_805 : Nat, ∃ kk_806 : ClassId, ¬ ((in_41.toInt8.toInt32) < 0) ∧ ((in_57.toInt8.toInt32) < 0) ∧ v = some (.ref ob_805) ∧ Fr n0 L ∧ Keep h0 h [] ∧ h0.size ≤ ob_805 ∧ Arv Z h ob_805 kk_806 .byte 3 [(.int (in_41.toInt8.toInt32)), (.int (((192 : Int32) ||| (((in_57.toInt8.toInt32) &&& 255) >>> ((6 : Int32) &&& 31))).toInt8.toInt32)), (.int (((128 : Int32) ||| ((in_57.toInt8.toInt32) &&& 63)).toInt8.toInt32))] (.int 0) ∧ Exa Z h ob_805 "[B" ∧ @LT.lt Nat instLTNat ob_805 h.size) ∨ (∃ ob_833 : Nat, ¬ ((in_41.toInt8.toInt32) < 0) ∧ ¬ ((in_57.toInt8.toInt32) < 0) ∧ v = some (.ref ob_833) ∧ Fr n0 L ∧ Keep h0 h [] ∧ h0.size ≤ ob_833 ∧ Arv Z h ob_833 kk_300 .byte 2 [(.int (in_41.toInt8.toInt32)), (.int (in_57.toInt8.toInt32))] (.int 0) ∧ Exa Z h ob_833 "[B" ∧ @LT.lt Nat instLTNat ob_833 h.size)
theorem own_pn14 : plainFor (⟨"java/lang/String", "encodeUTF8", "(B[BZ)[B"⟩ : MethodName) = true := by decide +kernel
set_option maxRecDepth 65536 in
set_option maxHeartbeats 40000000 in
theorem own_rm13 (l : Launch) (Z : State) (a0 : Array Value) (hw : ∀ d ∈ tables_1, d.before a0 Z = true) (ws : List Jvm.Cond) (ob_299 : Nat) (kk_300 : ClassId) (in_41 : Int32) (in_57 : Int32) (h0 : Heap) (n0 : Nat) (Z0 : n0 ≤ h0.size) (O0 : Old Z n0 h0) (I453 : Arv Z h0 ob_299 kk_300 .byte 2 [(.int (in_41.toInt8.toInt32)), (.int (in_57.toInt8.toInt32))] (.int 0)) (I580 : @LT.lt Nat instLTNat ob_299 h0.size) (I823 : Exa Z h0 ob_299 "[B") :
    own_Met l Z h0 (⟨"java/lang/String", "encodeUTF8", "(B[BZ)[B"⟩ : MethodName) jdk_42_method_46_code 9 (Option.some (FieldType.array FieldType.byte)) ws ({ frames := 2, cells := 2, slots := 7, locals := 32 } : Room) #[(.int 0), (.ref ob_299), (.int 1)] (own_Q13 Z ob_299 kk_300 in_41 in_57 h0 n0) 2 7 := by
  refine MetFree.of_bodySF own_pn14 hisR ?_
  intro p e s m args below meth c s₁ Bd hml0 hP hK
  obtain ⟨rfl, hZ, hh⟩ := hP
  have hx := Bd.exec
  have hby := Bd.bytes
  have hml : c.maxLocals = 9 := hml0
  have hown : s.vm.findClass "java/lang/String" = some m.cls := findClass_of_methodNamed Bd.named
  have hnm := (name_of_methodNamed Bd.named Bd.method).1
  have X0 : Stand p l e ({ frames := 2, cells := 2, slots := 7, locals := 32 } : Room) s m #[(.int 0), (.ref ob_299), (.int 1)] below meth c s₁ [] 0 0 := Stand.of_body Bd
  have e0 : s₁.heap = h0 := by rw [← hh, Bd.state]; rfl
  have N0 := Fr.nil n0
  show own_G p e below (s₁.setTop (entryFrame m #[(.int 0), (.ref ob_299), (.int 1)] 9)) (own_P s (own_Q13 Z ob_299 kk_300 in_41 in_57 h0 n0) 2 7)
  refine own_cast (own_ef9 m 0 ob_299 1) ?_
  show own_G p e below (s₁.setTop (mkF m 0 #[iv 0, rv ob_299, iv 1, .unset, .unset, .unset, .unset, .unset, .unset] [])) _
  refine oS (fun _ => XS.iloadN X0.here hx rfl (hb hby dd11_0) rfl) ?_
  refine oS (fun _ => XS.iconst X0.here hx rfl (hb hby dd11_1) ) ?_
  refine oS (fun _ => XS.icmpYes X0.here hx rfl (pc0 := 2) (pc' := 11) rfl (hb hby dd11_2) rfl (XT.ii_ne_t (by decide)) (by decide) (by decide)) ?_
  show own_G p e below (s₁.setTop (mkF m 11 #[iv 0, rv ob_299, iv 1, .unset, .unset, .unset, .unset, .unset, .unset] [])) _
  refine oS (fun _ => XS.aloadN X0.here hx rfl (hb hby dd11_11) rfl rfl) ?_
  refine oS (fun _ => XS.iconst X0.here hx rfl (hb hby dd11_12) ) ?_
  refine oS (fun _ => XS.aloadN X0.here hx rfl (hb hby dd11_13) rfl rfl) ?_
  refine oS (own_len X0 hx hZ e0 I453 rfl rfl (hb hby dd11_14)) ?_
  show own_G p e below (s₁.setTop (mkF m 15 #[iv 0, rv ob_299, iv 1, .unset, .unset, .unset, .unset, .unset, .unset] [(.int 2), (.int 0), (.ref ob_299)])) _
  obtain ⟨T483, h484, v485, L486, X487, e488, q489, s490⟩ := own_callS X0 hx hZ hown e0 (y := (⟨"java/lang/StringCoding", "hasNegatives", "([BII)Z"⟩ : MethodName)) (oW hw 70 rfl) (oW hw 71 rfl) (oW hw 72 rfl) (oW hw 73 rfl) (by decide) (W := 0) (own_rm14 l Z a0 hw [] ob_299 kk_300 in_41 in_57 h0 n0 Z0 O0 I453) (by decide) (by decide) (by decide) (by decide) (g := (mkF m 15 #[iv 0, rv ob_299, iv 1, .unset, .unset, .unset, .unset, .unset, .unset] [(.int 2), (.int 0), (.ref ob_299)])) rfl (by rw [hml]; rfl) (argsL := [(.ref ob_299), (.int 0), (.int 2)]) (rest := []) rfl (lenOf own_pd9 rfl) rfl (by show 2 * 0 + _ ≤ _; exact Nat.le_of_eq rfl) (hb hby dd11_15)
  refine oS s490 ?_
  rcases q489 with ⟨b491, rfl, N492, K493⟩ | ⟨b494, b495, rfl, N496, K497⟩ | ⟨b498, b499, rfl, N500, K501⟩
  · skip
    have N502 := Fr.app N0 N492
    have e503 := e488.trans K493
    show own_G p e below (T483.setTop (mkF m 18 #[iv 0, rv ob_299, iv 1, .unset, .unset, .unset, .unset, .unset, .unset] [(.int 1)])) _
    refine oS (fun _ => XS.ifYes X487.here hx rfl (pc0 := 18) (pc' := 29) rfl (hb hby dd11_18) rfl (XT.i0_ne_t (by decide)) (by decide) (by decide)) ?_
    show own_G p e below (T483.setTop (mkF m 29 #[iv 0, rv ob_299, iv 1, .unset, .unset, .unset, .unset, .unset, .unset] [])) _
    refine oS (fun _ => XS.iconst X487.here hx rfl (hb hby dd11_29) ) ?_
    refine oS (fun _ => XS.istoreN X487.here hx rfl (hb hby dd11_30) rfl (l' := #[iv 0, rv ob_299, iv 1, iv 0, .unset, .unset, .unset, .unset, .unset]) rfl) ?_
    refine oS (fun _ => XS.aloadN X487.here hx rfl (hb hby dd11_31) rfl rfl) ?_
    refine oS (own_len X487 hx hZ e503 I453 rfl rfl (hb hby dd11_32)) ?_
    show own_G p e below (T483.setTop (mkF m 33 #[iv 0, rv ob_299, iv 1, iv 0, .unset, .unset, .unset, .unset, .unset] [(.int 2)])) _
    obtain ⟨T533, h534, v535, L536, X537, e538, q539, s540⟩ := own_callS X487 hx hZ hown e503 (y := (⟨"java/lang/StringUTF16", "newBytesFor", "(I)[B"⟩ : MethodName)) (oW hw 94 rfl) (oW hw 95 rfl) (oW hw 20 rfl) (oW hw 96 rfl) (by decide) (W := 0) (own_rm16 l Z a0 hw []  h0 n0 Z0 O0 ) (by decide) (by decide) (by decide) (by decide) (g := (mkF m 33 #[iv 0, rv ob_299, iv 1, iv 0, .unset, .unset, .unset, .unset, .unset] [(.int 2)])) rfl (by rw [hml]; rfl) (argsL := [(.int 2)]) (rest := []) rfl (lenOf own_pd11 rfl) rfl (by show 2 * 0 + _ ≤ _; exact Nat.le_of_eq rfl) (hb hby dd11_33)
    refine oS s540 ?_
    obtain ⟨ob_541, kk_542, rfl, N543, K544, F545, F546, F547, F548⟩ := q539
    have N549 := Fr.app N502 N543
    have z550 := K544.1
    show own_G p e below (T533.setTop (mkF m 36 #[iv 0, rv ob_299, iv 1, iv 0, .unset, .unset, .unset, .unset, .unset] [(.ref ob_541)])) _
    refine oS (fun _ => XS.astore X537.here hx rfl (hb hby dd11_36) rfl rfl (l' := #[iv 0, rv ob_299, iv 1, iv 0, rv ob_541, .unset, .unset, .unset, .unset]) rfl) ?_
    refine oS (fun _ => XS.aloadN X537.here hx rfl (hb hby dd11_38) rfl rfl) ?_
    refine oS (fun _ => XS.astore X537.here hx rfl (hb hby dd11_39) rfl rfl (l' := #[iv 0, rv ob_299, iv 1, iv 0, rv ob_541, rv ob_299, .unset, .unset, .unset]) rfl) ?_
    refine oS (fun _ => XS.aload X537.here hx rfl (hb hby dd11_41) rfl rfl) ?_
    show own_G p e below (T533.setTop (mkF m 43 #[iv 0, rv ob_299, iv 1, iv 0, rv ob_541, rv ob_299, .unset, .unset, .unset] [(.ref ob_299)])) _
    have F551 : Arv Z h534 ob_299 kk_300 .byte 2 [(.int (in_41.toInt8.toInt32)), (.int (in_57.toInt8.toInt32))] (.int 0) := I453.keep K544 nin0
    refine oS (own_len X537 hx hZ e538 F551 rfl rfl (hb hby dd11_43)) ?_
    show own_G p e below (T533.setTop (mkF m 44 #[iv 0, rv ob_299, iv 1, iv 0, rv ob_541, rv ob_299, .unset, .unset, .unset] [(.int 2)])) _
    refine oS (fun _ => XS.istore X537.here hx rfl (hb hby dd11_44) rfl (l' := #[iv 0, rv ob_299, iv 1, iv 0, rv ob_541, rv ob_299, iv 2, .unset, .unset]) rfl) ?_
    refine oS (fun _ => XS.iconst X537.here hx rfl (hb hby dd11_46) ) ?_
    refine oS (fun _ => XS.istore X537.here hx rfl (hb hby dd11_47) rfl (l' := #[iv 0, rv ob_299, iv 1, iv 0, rv ob_541, rv ob_299, iv 2, iv 0, .unset]) rfl) ?_
    refine oS (fun _ => XS.iload X537.here hx rfl (hb hby dd11_49) rfl) ?_
    show own_G p e below (T533.setTop (mkF m 51 #[iv 0, rv ob_299, iv 1, iv 0, rv ob_541, rv ob_299, iv 2, iv 0, .unset] [(.int 0)])) _
    refine oS (fun _ => XS.iload X537.here hx rfl (hb hby dd11_51) rfl) ?_
    refine oS (fun _ => XS.icmpNo X537.here hx rfl (hb hby dd11_53) rfl (XT.ii_ge_f (by decide))) ?_
    show own_G p e below (T533.setTop (mkF m 56 #[iv 0, rv ob_299, iv 1, iv 0, rv ob_541, rv ob_299, iv 2, iv 0, .unset] [])) _
    refine oS (fun _ => XS.aload X537.here hx rfl (hb hby dd11_56) rfl rfl) ?_
    refine oS (fun _ => XS.iload X537.here hx rfl (hb hby dd11_58) rfl) ?_
    refine oS (own_baload X537 hx hZ e538 F551 (by decide) (v := (.int (in_41.toInt8.toInt32))) rfl rfl rfl (hb hby dd11_60)) ?_
    show own_G p e below (T533.setTop (mkF m 61 #[iv 0, rv ob_299, iv 1, iv 0, rv ob_541, rv ob_299, iv 2, iv 0, .unset] [(.int (in_41.toInt8.toInt32))])) _
    refine oS (fun _ => XS.istore X537.here hx rfl (hb hby dd11_61) rfl (l' := #[iv 0, rv ob_299, iv 1, iv 0, rv ob_541, rv ob_299, iv 2, iv 0, iv (in_41.toInt8.toInt32)]) rfl) ?_
    refine oS (fun _ => XS.iload X537.here hx rfl (hb hby dd11_63) rfl) ?_
    refine oS (fun _ => XS.ifNo X537.here hx rfl (hb hby dd11_65) rfl (XT.i0_ge_f b491)) ?_
    show own_G p e below (T533.setTop (mkF m 68 #[iv 0, rv ob_299, iv 1, iv 0, rv ob_541, rv ob_299, iv 2, iv 0, iv (in_41.toInt8.toInt32)] [])) _
    refine oS (fun _ => XS.aload X537.here hx rfl (hb hby dd11_68) rfl rfl) ?_
    refine oS (fun _ => XS.iloadN X537.here hx rfl (hb hby dd11_70) rfl) ?_
    refine oS (fun _ => XS.iinc X537.here hx rfl (hb hby dd11_71) rfl (l' := #[iv 0, rv ob_299, iv 1, iv 1, rv ob_541, rv ob_299, iv 2, iv 0, iv (in_41.toInt8.toInt32)]) rfl) ?_
    show own_G p e below (T533.setTop (mkF m 74 #[iv 0, rv ob_299, iv 1, iv 1, rv ob_541, rv ob_299, iv 2, iv 0, iv (in_41.toInt8.toInt32)] [(.int 0), (.ref ob_541)])) _
    refine oS (fun _ => XS.sipush X537.here hx rfl (hb hby dd11_74) ) ?_
    refine oS (fun _ => XS.iload X537.here hx rfl (hb hby dd11_77) rfl) ?_
    refine oS (fun _ => XS.sipush X537.here hx rfl (hb hby dd11_79) ) ?_
    refine oS (fun _ => XS.iand X537.here hx rfl (hb hby dd11_82) rfl) ?_
    show own_G p e below (T533.setTop (mkF m 83 #[iv 0, rv ob_299, iv 1, iv 1, rv ob_541, rv ob_299, iv 2, iv 0, iv (in_41.toInt8.toInt32)] [(.int ((in_41.toInt8.toInt32) &&& 255)), (.int 192), (.int 0), (.ref ob_541)])) _
    refine oS (fun _ => XS.bipush X537.here hx rfl (hb hby dd11_83) ) ?_
    refine oS (fun _ => XT.ishr X537.here hx rfl (hb hby dd11_85) rfl) ?_
    refine oS (fun _ => XT.ior X537.here hx rfl (hb hby dd11_86) rfl) ?_
    refine oS (fun _ => XT.i2b X537.here hx rfl (hb hby dd11_87) rfl) ?_
    show own_G p e below (T533.setTop (mkF m 88 #[iv 0, rv ob_299, iv 1, iv 1, rv ob_541, rv ob_299, iv 2, iv 0, iv (in_41.toInt8.toInt32)] [(.int (((192 : Int32) ||| (((in_41.toInt8.toInt32) &&& 255) >>> ((6 : Int32) &&& 31))).toInt8.toInt32)), (.int 0), (.ref ob_541)])) _
    obtain ⟨T552, h553, X554, e555, W556, A557, s558⟩ := own_stB X537 hx hZ e538 F546 (x' := (((192 : Int32) ||| (((in_41.toInt8.toInt32) &&& 255) >>> ((6 : Int32) &&& 31))).toInt8.toInt32)) 0 (own_narB _) rfl (by decide) (by simp) (g := (mkF m 88 #[iv 0, rv ob_299, iv 1, iv 1, rv ob_541, rv ob_299, iv 2, iv 0, iv (in_41.toInt8.toInt32)] [(.int (((192 : Int32) ||| (((in_41.toInt8.toInt32) &&& 255) >>> ((6 : Int32) &&& 31))).toInt8.toInt32)), (.int 0), (.ref ob_541)])) rfl (rest := []) rfl (hb hby dd11_88)
    have N560 : n0 ≤ ob_541 := by omega
    have N559 := Fr.snoc X554 N549 N560
    have z561 := W556.size
    have F562 : Arv Z h553 ob_541 kk_542 .byte 4 [(.int (((192 : Int32) ||| (((in_41.toInt8.toInt32) &&& 255) >>> ((6 : Int32) &&& 31))).toInt8.toInt32)), (.int 0), (.int 0), (.int 0)] (.int 0) := A557
    refine oS s558 ?_
    show own_G p e below (T552.setTop (mkF m 89 #[iv 0, rv ob_299, iv 1, iv 1, rv ob_541, rv ob_299, iv 2, iv 0, iv (in_41.toInt8.toInt32)] [])) _
    refine oS (fun _ => XS.aload X554.here hx rfl (hb hby dd11_89) rfl rfl) ?_
    refine oS (fun _ => XS.iloadN X554.here hx rfl (hb hby dd11_91) rfl) ?_
    refine oS (fun _ => XS.iinc X554.here hx rfl (hb hby dd11_92) rfl (l' := #[iv 0, rv ob_299, iv 1, iv 2, rv ob_541, rv ob_299, iv 2, iv 0, iv (in_41.toInt8.toInt32)]) rfl) ?_
    show own_G p e below (T552.setTop (mkF m 95 #[iv 0, rv ob_299, iv 1, iv 2, rv ob_541, rv ob_299, iv 2, iv 0, iv (in_41.toInt8.toInt32)] [(.int 1), (.ref ob_541)])) _
    refine oS (fun _ => XS.sipush X554.here hx rfl (hb hby dd11_95) ) ?_
    refine oS (fun _ => XS.iload X554.here hx rfl (hb hby dd11_98) rfl) ?_
    refine oS (fun _ => XS.bipush X554.here hx rfl (hb hby dd11_100) ) ?_
    refine oS (fun _ => XS.iand X554.here hx rfl (hb hby dd11_102) rfl) ?_
    show own_G p e below (T552.setTop (mkF m 103 #[iv 0, rv ob_299, iv 1, iv 2, rv ob_541, rv ob_299, iv 2, iv 0, iv (in_41.toInt8.toInt32)] [(.int ((in_41.toInt8.toInt32) &&& 63)), (.int 128), (.int 1), (.ref ob_541)])) _
    refine oS (fun _ => XT.ior X554.here hx rfl (hb hby dd11_103) rfl) ?_
    refine oS (fun _ => XT.i2b X554.here hx rfl (hb hby dd11_104) rfl) ?_
    obtain ⟨T563, h564, X565, e566, W567, A568, s569⟩ := own_stB X554 hx hZ e555 F562 (x' := (((128 : Int32) ||| ((in_41.toInt8.toInt32) &&& 63)).toInt8.toInt32)) 1 (own_narB _) rfl (by decide) (by simp) (g := (mkF m 105 #[iv 0, rv ob_299, iv 1, iv 2, rv ob_541, rv ob_299, iv 2, iv 0, iv (in_41.toInt8.toInt32)] [(.int (((128 : Int32) ||| ((in_41.toInt8.toInt32) &&& 63)).toInt8.toInt32)), (.int 1), (.ref ob_541)])) rfl (rest := []) rfl (hb hby dd11_105)
    have N570 := Fr.snoc X565 N559 N560
    have z571 := W567.size
    have F572 : Arv Z h564 ob_541 kk_542 .byte 4 [(.int (((192 : Int32) ||| (((in_41.toInt8.toInt32) &&& 255) >>> ((6 : Int32) &&& 31))).toInt8.toInt32)), (.int (((128 : Int32) ||| ((in_41.toInt8.toInt32) &&& 63)).toInt8.toInt32)), (.int 0), (.int 0)] (.int 0) := A568
    refine oS s569 ?_
    show own_G p e below (T563.setTop (mkF m 106 #[iv 0, rv ob_299, iv 1, iv 2, rv ob_541, rv ob_299, iv 2, iv 0, iv (in_41.toInt8.toInt32)] [])) _
    refine oS (fun _ => XS.goto X565.here hx rfl (pc0 := 106) (pc' := 118) rfl (hb hby dd11_106) (by decide) (by decide)) ?_
    show own_G p e below (T563.setTop (mkF m 118 #[iv 0, rv ob_299, iv 1, iv 2, rv ob_541, rv ob_299, iv 2, iv 0, iv (in_41.toInt8.toInt32)] [])) _
    refine oS (fun _ => XS.iinc X565.here hx rfl (hb hby dd11_118) rfl (l' := #[iv 0, rv ob_299, iv 1, iv 2, rv ob_541, rv ob_299, iv 2, iv 1, iv (in_41.toInt8.toInt32)]) rfl) ?_
    show own_G p e below (T563.setTop (mkF m 121 #[iv 0, rv ob_299, iv 1, iv 2, rv ob_541, rv ob_299, iv 2, iv 1, iv (in_41.toInt8.toInt32)] [])) _
    refine oS (fun _ => XS.goto X565.here hx rfl (pc0 := 121) (pc' := 49) rfl (hb hby dd11_121) (by decide) (by decide)) ?_
    show own_G p e below (T563.setTop (mkF m 49 #[iv 0, rv ob_299, iv 1, iv 2, rv ob_541, rv ob_299, iv 2, iv 1, iv (in_41.toInt8.toInt32)] [])) _
    refine oS (fun _ => XS.iload X565.here hx rfl (hb hby dd11_49) rfl) ?_
    refine oS (fun _ => XS.iload X565.here hx rfl (hb hby dd11_51) rfl) ?_
    refine oS (fun _ => XS.icmpNo X565.here hx rfl (hb hby dd11_53) rfl (XT.ii_ge_f (by decide))) ?_
    show own_G p e below (T563.setTop (mkF m 56 #[iv 0, rv ob_299, iv 1, iv 2, rv ob_541, rv ob_299, iv 2, iv 1, iv (in_41.toInt8.toInt32)] [])) _
    refine oS (fun _ => XS.aload X565.here hx rfl (hb hby dd11_56) rfl rfl) ?_
    refine oS (fun _ => XS.iload X565.here hx rfl (hb hby dd11_58) rfl) ?_
    have N581 : @Ne Nat ob_299 ob_541 := by omega
    have F582 : Arv Z h553 ob_299 kk_300 .byte 2 [(.int (in_41.toInt8.toInt32)), (.int (in_57.toInt8.toInt32))] (.int 0) := F551.other W556 N581
    have F583 : Arv Z h564 ob_299 kk_300 .byte 2 [(.int (in_41.toInt8.toInt32)), (.int (in_57.toInt8.toInt32))] (.int 0) := F582.other W567 N581
    refine oS (own_baload X565 hx hZ e566 F583 (by decide) (v := (.int (in_57.toInt8.toInt32))) rfl rfl rfl (hb hby dd11_60)) ?_
    show own_G p e below (T563.setTop (mkF m 61 #[iv 0, rv ob_299, iv 1, iv 2, rv ob_541, rv ob_299, iv 2, iv 1, iv (in_41.toInt8.toInt32)] [(.int (in_57.toInt8.toInt32))])) _
    refine oS (fun _ => XS.istore X565.here hx rfl (hb hby dd11_61) rfl (l' := #[iv 0, rv ob_299, iv 1, iv 2, rv ob_541, rv ob_299, iv 2, iv 1, iv (in_57.toInt8.toInt32)]) rfl) ?_
    refine oS (fun _ => XS.iload X565.here hx rfl (hb hby dd11_63) rfl) ?_
    by_cases b584 : (in_57.toInt8.toInt32) < 0
    · skip
      refine oS (fun _ => XS.ifNo X565.here hx rfl (hb hby dd11_65) rfl (XT.i0_ge_f b584)) ?_
      show own_G p e below (T563.setTop (mkF m 68 #[iv 0, rv ob_299, iv 1, iv 2, rv ob_541, rv ob_299, iv 2, iv 1, iv (in_57.toInt8.toInt32)] [])) _
      refine oS (fun _ => XS.aload X565.here hx rfl (hb hby dd11_68) rfl rfl) ?_
      refine oS (fun _ => XS.iloadN X565.here hx rfl (hb hby dd11_70) rfl) ?_
      refine oS (fun _ => XS.iinc X565.here hx rfl (hb hby dd11_71) rfl (l' := #[iv 0, rv ob_299, iv 1, iv 3, rv ob_541, rv ob_299, iv 2, iv 1, iv (in_57.toInt8.toInt32)]) rfl) ?_
      show own_G p e below (T563.setTop (mkF m 74 #[iv 0, rv ob_299, iv 1, iv 3, rv ob_541, rv ob_299, iv 2, iv 1, iv (in_57.toInt8.toInt32)] [(.int 2), (.ref ob_541)])) _
      refine oS (fun _ => XS.sipush X565.here hx rfl (hb hby dd11_74) ) ?_
      refine oS (fun _ => XS.iload X565.here hx rfl (hb hby dd11_77) rfl) ?_
      refine oS (fun _ => XS.sipush X565.here hx rfl (hb hby dd11_79) ) ?_
      refine oS (fun _ => XS.iand X565.here hx rfl (hb hby dd11_82) rfl) ?_
      show own_G p e below (T563.setTop (mkF m 83 #[iv 0, rv ob_299, iv 1, iv 3, rv ob_541, rv ob_299, iv 2, iv 1, iv (in_57.toInt8.toInt32)] [(.int ((in_57.toInt8.toInt32) &&& 255)), (.int 192), (.int 2), (.ref ob_541)])) _
      refine oS (fun _ => XS.bipush X565.here hx rfl (hb hby dd11_83) ) ?_
      refine oS (fun _ => XT.ishr X565.here hx rfl (hb hby dd11_85) rfl) ?_
      refine oS (fun _ => XT.ior X565.here hx rfl (hb hby dd11_86) rfl) ?_
      refine oS (fun _ => XT.i2b X565.here hx rfl (hb hby dd11_87) rfl) ?_
      show own_G p e below (T563.setTop (mkF m 88 #[iv 0, rv ob_299, iv 1, iv 3, rv ob_541, rv ob_299, iv 2, iv 1, iv (in_57.toInt8.toInt32)] [(.int (((192 : Int32) ||| (((in_57.toInt8.toInt32) &&& 255) >>> ((6 : Int32) &&& 31))).toInt8.toInt32)), (.int 2), (.ref ob_541)])) _
      obtain ⟨T585, h586, X587, e588, W589, A590, s591⟩ := own_stB X565 hx hZ e566 F572 (x' := (((192 : Int32) ||| (((in_57.toInt8.toInt32) &&& 255) >>> ((6 : Int32) &&& 31))).toInt8.toInt32)) 2 (own_narB _) rfl (by decide) (by simp) (g := (mkF m 88 #[iv 0, rv ob_299, iv 1, iv 3, rv ob_541, rv ob_299, iv 2, iv 1, iv (in_57.toInt8.toInt32)] [(.int (((192 : Int32) ||| (((in_57.toInt8.toInt32) &&& 255) >>> ((6 : Int32) &&& 31))).toInt8.toInt32)), (.int 2), (.ref ob_541)])) rfl (rest := []) rfl (hb hby dd11_88)
      have N592 := Fr.snoc X587 N570 N560
      have z593 := W589.size
      have F594 : Arv Z h586 ob_541 kk_542 .byte 4 [(.int (((192 : Int32) ||| (((in_41.toInt8.toInt32) &&& 255) >>> ((6 : Int32) &&& 31))).toInt8.toInt32)), (.int (((128 : Int32) ||| ((in_41.toInt8.toInt32) &&& 63)).toInt8.toInt32)), (.int (((192 : Int32) ||| (((in_57.toInt8.toInt32) &&& 255) >>> ((6 : Int32) &&& 31))).toInt8.toInt32)), (.int 0)] (.int 0) := A590
      refine oS s591 ?_
      show own_G p e below (T585.setTop (mkF m 89 #[iv 0, rv ob_299, iv 1, iv 3, rv ob_541, rv ob_299, iv 2, iv 1, iv (in_57.toInt8.toInt32)] [])) _
      refine oS (fun _ => XS.aload X587.here hx rfl (hb hby dd11_89) rfl rfl) ?_
      refine oS (fun _ => XS.iloadN X587.here hx rfl (hb hby dd11_91) rfl) ?_
      refine oS (fun _ => XS.iinc X587.here hx rfl (hb hby dd11_92) rfl (l' := #[iv 0, rv ob_299, iv 1, iv 4, rv ob_541, rv ob_299, iv 2, iv 1, iv (in_57.toInt8.toInt32)]) rfl) ?_
      show own_G p e below (T585.setTop (mkF m 95 #[iv 0, rv ob_299, iv 1, iv 4, rv ob_541, rv ob_299, iv 2, iv 1, iv (in_57.toInt8.toInt32)] [(.int 3), (.ref ob_541)])) _
      refine oS (fun _ => XS.sipush X587.here hx rfl (hb hby dd11_95) ) ?_
      refine oS (fun _ => XS.iload X587.here hx rfl (hb hby dd11_98) rfl) ?_
      refine oS (fun _ => XS.bipush X587.here hx rfl (hb hby dd11_100) ) ?_
      refine oS (fun _ => XS.iand X587.here hx rfl (hb hby dd11_102) rfl) ?_
      show own_G p e below (T585.setTop (mkF m 103 #[iv 0, rv ob_299, iv 1, iv 4, rv ob_541, rv ob_299, iv 2, iv 1, iv (in_57.toInt8.toInt32)] [(.int ((in_57.toInt8.toInt32) &&& 63)), (.int 128), (.int 3), (.ref ob_541)])) _
      refine oS (fun _ => XT.ior X587.here hx rfl (hb hby dd11_103) rfl) ?_
      refine oS (fun _ => XT.i2b X587.here hx rfl (hb hby dd11_104) rfl) ?_
      obtain ⟨T595, h596, X597, e598, W599, A600, s601⟩ := own_stB X587 hx hZ e588 F594 (x' := (((128 : Int32) ||| ((in_57.toInt8.toInt32) &&& 63)).toInt8.toInt32)) 3 (own_narB _) rfl (by decide) (by simp) (g := (mkF m 105 #[iv 0, rv ob_299, iv 1, iv 4, rv ob_541, rv ob_299, iv 2, iv 1, iv (in_57.toInt8.toInt32)] [(.int (((128 : Int32) ||| ((in_57.toInt8.toInt32) &&& 63)).toInt8.toInt32)), (.int 3), (.ref ob_541)])) rfl (rest := []) rfl (hb hby dd11_105)
      have N602 := Fr.snoc X597 N592 N560
      have z603 := W599.size
      have F604 : Arv Z h596 ob_541 kk_542 .byte 4 [(.int (((192 : Int32) ||| (((in_41.toInt8.toInt32) &&& 255) >>> ((6 : Int32) &&& 31))).toInt8.toInt32)), (.int (((128 : Int32) ||| ((in_41.toInt8.toInt32) &&& 63)).toInt8.toInt32)), (.int (((192 : Int32) ||| (((in_57.toInt8.toInt32) &&& 255) >>> ((6 : Int32) &&& 31))).toInt8.toInt32)), (.int (((128 : Int32) ||| ((in_57.toInt8.toInt32) &&& 63)).toInt8.toInt32))] (.int 0) := A600
      refine oS s601 ?_
      show own_G p e below (T595.setTop (mkF m 106 #[iv 0, rv ob_299, iv 1, iv 4, rv ob_541, rv ob_299, iv 2, iv 1, iv (in_57.toInt8.toInt32)] [])) _
      refine oS (fun _ => XS.goto X597.here hx rfl (pc0 := 106) (pc' := 118) rfl (hb hby dd11_106) (by decide) (by decide)) ?_
      show own_G p e below (T595.setTop (mkF m 118 #[iv 0, rv ob_299, iv 1, iv 4, rv ob_541, rv ob_299, iv 2, iv 1, iv (in_57.toInt8.toInt32)] [])) _
      refine oS (fun _ => XS.iinc X597.here hx rfl (hb hby dd11_118) rfl (l' := #[iv 0, rv ob_299, iv 1, iv 4, rv ob_541, rv ob_299, iv 2, iv 2, iv (in_57.toInt8.toInt32)]) rfl) ?_
      show own_G p e below (T595.setTop (mkF m 121 #[iv 0, rv ob_299, iv 1, iv 4, rv ob_541, rv ob_299, iv 2, iv 2, iv (in_57.toInt8.toInt32)] [])) _
      refine oS (fun _ => XS.goto X597.here hx rfl (pc0 := 121) (pc' := 49) rfl (hb hby dd11_121) (by decide) (by decide)) ?_
      show own_G p e below (T595.setTop (mkF m 49 #[iv 0, rv ob_299, iv 1, iv 4, rv ob_541, rv ob_299, iv 2, iv 2, iv (in_57.toInt8.toInt32)] [])) _
      refine oS (fun _ => XS.iload X597.here hx rfl (hb hby dd11_49) rfl) ?_
      refine oS (fun _ => XS.iload X597.here hx rfl (hb hby dd11_51) rfl) ?_
      refine oS (fun _ => XS.icmpYes X597.here hx rfl (pc0 := 53) (pc' := 124) rfl (hb hby dd11_53) rfl (XT.ii_ge_t (by decide)) (by decide) (by decide)) ?_
      show own_G p e below (T595.setTop (mkF m 124 #[iv 0, rv ob_299, iv 1, iv 4, rv ob_541, rv ob_299, iv 2, iv 2, iv (in_57.toInt8.toInt32)] [])) _
      refine oS (fun _ => XS.iloadN X597.here hx rfl (hb hby dd11_124) rfl) ?_
      refine oS (fun _ => XS.aload X597.here hx rfl (hb hby dd11_125) rfl rfl) ?_
      refine oS (own_len X597 hx hZ e598 F604 rfl rfl (hb hby dd11_127)) ?_
      show own_G p e below (T595.setTop (mkF m 128 #[iv 0, rv ob_299, iv 1, iv 4, rv ob_541, rv ob_299, iv 2, iv 2, iv (in_57.toInt8.toInt32)] [(.int 4), (.int 4)])) _
      refine oS (fun _ => XS.icmpNo X597.here hx rfl (hb hby dd11_128) rfl (XT.ii_ne_f (by decide))) ?_
      show own_G p e below (T595.setTop (mkF m 131 #[iv 0, rv ob_299, iv 1, iv 4, rv ob_541, rv ob_299, iv 2, iv 2, iv (in_57.toInt8.toInt32)] [])) _
      refine oS (fun _ => XS.aload X597.here hx rfl (hb hby dd11_131) rfl rfl) ?_
      have F605 : Exa Z h553 ob_541 "[B" := Exa.wr W556 F547
      have F606 : Exa Z h564 ob_541 "[B" := Exa.wr W567 F605
      have F607 : Exa Z h586 ob_541 "[B" := Exa.wr W589 F606
      have F608 : Exa Z h596 ob_541 "[B" := Exa.wr W599 F607
      have y609 : @LT.lt Nat instLTNat ob_541 h596.size := by omega
      have K610 : Keep h0 h596 [] := ((((((Keep.refl h0 []).trans K544 all0).wr W556 (Or.inr (by omega))).wr W567 (Or.inr (by omega))).wr W589 (Or.inr (by omega))).wr W599 (Or.inr (by omega)))
      exact own_retA X597 hx Bd.notSynchronized Bd.returns rfl rfl (hb hby dd11_133) e598 (by decide) (by decide) (Or.inl ⟨ob_541, kk_542, b491, b584, rfl, N602, K610, (by omega), F604, F608, y609⟩)
    · skip
      refine oS (fun _ => XS.ifYes X565.here hx rfl (pc0 := 65) (pc' := 109) rfl (hb hby dd11_65) rfl (XT.i0_ge_t b584) (by decide) (by decide)) ?_
      show own_G p e below (T563.setTop (mkF m 109 #[iv 0, rv ob_299, iv 1, iv 2, rv ob_541, rv ob_299, iv 2, iv 1, iv (in_57.toInt8.toInt32)] [])) _
      refine oS (fun _ => XS.aload X565.here hx rfl (hb hby dd11_109) rfl rfl) ?_
      refine oS (fun _ => XS.iloadN X565.here hx rfl (hb hby dd11_111) rfl) ?_
      refine oS (fun _ => XS.iinc X565.here hx rfl (hb hby dd11_112) rfl (l' := #[iv 0, rv ob_299, iv 1, iv 3, rv ob_541, rv ob_299, iv 2, iv 1, iv (in_57.toInt8.toInt32)]) rfl) ?_
      show own_G p e below (T563.setTop (mkF m 115 #[iv 0, rv ob_299, iv 1, iv 3, rv ob_541, rv ob_299, iv 2, iv 1, iv (in_57.toInt8.toInt32)] [(.int 2), (.ref ob_541)])) _
      refine oS (fun _ => XS.iload X565.here hx rfl (hb hby dd11_115) rfl) ?_
      obtain ⟨T611, h612, X613, e614, W615, A616, s617⟩ := own_stB X565 hx hZ e566 F572 (x' := (in_57.toInt8.toInt32)) 2 (own_narB _) rfl (by decide) (by simp) (g := (mkF m 117 #[iv 0, rv ob_299, iv 1, iv 3, rv ob_541, rv ob_299, iv 2, iv 1, iv (in_57.toInt8.toInt32)] [(.int (in_57.toInt8.toInt32)), (.int 2), (.ref ob_541)])) rfl (rest := []) rfl (hb hby dd11_117)
      have N618 := Fr.snoc X613 N570 N560
      have z619 := W615.size
      have F620 : Arv Z h612 ob_541 kk_542 .byte 4 [(.int (((192 : Int32) ||| (((in_41.toInt8.toInt32) &&& 255) >>> ((6 : Int32) &&& 31))).toInt8.toInt32)), (.int (((128 : Int32) ||| ((in_41.toInt8.toInt32) &&& 63)).toInt8.toInt32)), (.int (in_57.toInt8.toInt32)), (.int 0)] (.int 0) := A616
      refine oS s617 ?_
      show own_G p e below (T611.setTop (mkF m 118 #[iv 0, rv ob_299, iv 1, iv 3, rv ob_541, rv ob_299, iv 2, iv 1, iv (in_57.toInt8.toInt32)] [])) _
      refine oS (fun _ => XS.iinc X613.here hx rfl (hb hby dd11_118) rfl (l' := #[iv 0, rv ob_299, iv 1, iv 3, rv ob_541, rv ob_299, iv 2, iv 2, iv (in_57.toInt8.toInt32)]) rfl) ?_
      show own_G p e below (T611.setTop (mkF m 121 #[iv 0, rv ob_299, iv 1, iv 3, rv ob_541, rv ob_299, iv 2, iv 2, iv (in_57.toInt8.toInt32)] [])) _
      refine oS (fun _ => XS.goto X613.here hx rfl (pc0 := 121) (pc' := 49) rfl (hb hby dd11_121) (by decide) (by decide)) ?_
      show own_G p e below (T611.setTop (mkF m 49 #[iv 0, rv ob_299, iv 1, iv 3, rv ob_541, rv ob_299, iv 2, iv 2, iv (in_57.toInt8.toInt32)] [])) _
      refine oS (fun _ => XS.iload X613.here hx rfl (hb hby dd11_49) rfl) ?_
      refine oS (fun _ => XS.iload X613.here hx rfl (hb hby dd11_51) rfl) ?_
      refine oS (fun _ => XS.icmpYes X613.here hx rfl (pc0 := 53) (pc' := 124) rfl (hb hby dd11_53) rfl (XT.ii_ge_t (by decide)) (by decide) (by decide)) ?_
      show own_G p e below (T611.setTop (mkF m 124 #[iv 0, rv ob_299, iv 1, iv 3, rv ob_541, rv ob_299, iv 2, iv 2, iv (in_57.toInt8.toInt32)] [])) _
      refine oS (fun _ => XS.iloadN X613.here hx rfl (hb hby dd11_124) rfl) ?_
      refine oS (fun _ => XS.aload X613.here hx rfl (hb hby dd11_125) rfl rfl) ?_
      refine oS (own_len X613 hx hZ e614 F620 rfl rfl (hb hby dd11_127)) ?_
      show own_G p e below (T611.setTop (mkF m 128 #[iv 0, rv ob_299, iv 1, iv 3, rv ob_541, rv ob_299, iv 2, iv 2, iv (in_57.toInt8.toInt32)] [(.int 4), (.int 3)])) _
      refine oS (fun _ => XS.icmpYes X613.here hx rfl (pc0 := 128) (pc' := 134) rfl (hb hby dd11_128) rfl (XT.ii_ne_t (by decide)) (by decide) (by decide)) ?_
      show own_G p e below (T611.setTop (mkF m 134 #[iv 0, rv ob_299, iv 1, iv 3, rv ob_541, rv ob_299, iv 2, iv 2, iv (in_57.toInt8.toInt32)] [])) _
      refine oS (fun _ => XS.aload X613.here hx rfl (hb hby dd11_134) rfl rfl) ?_
      refine oS (fun _ => XS.iloadN X613.here hx rfl (hb hby dd11_136) rfl) ?_
      have O667 : Old Z n0 h534 := O0.keep K544 all0
      have O668 : Old Z n0 h553 := O667.wr W556 N560
      have O669 : Old Z n0 h564 := O668.wr W567 N560
      have O670 : Old Z n0 h612 := O669.wr W615 N560
      have Z671 : n0 ≤ h612.size := by omega
      obtain ⟨T672, h673, v674, L675, X676, e677, q678, s679⟩ := own_callS X613 hx hZ hown e614 (y := (⟨"java/util/Arrays", "copyOf", "([BI)[B"⟩ : MethodName)) (oW hw 101 rfl) (oW hw 102 rfl) (oW hw 103 rfl) (oW hw 104 rfl) (by decide) (W := 0) (own_rm18 l Z a0 hw [] ob_541 kk_542 in_41 in_57 h612 n0 Z671 O670 F620) (by decide) (by decide) (by decide) (by decide) (g := (mkF m 137 #[iv 0, rv ob_299, iv 1, iv 3, rv ob_541, rv ob_299, iv 2, iv 2, iv (in_57.toInt8.toInt32)] [(.int 3), (.ref ob_541)])) rfl (by rw [hml]; rfl) (argsL := [(.ref ob_541), (.int 3)]) (rest := []) rfl (lenOf own_pd13 rfl) rfl (by show 2 * 0 + _ ≤ _; exact Nat.le_of_eq rfl) (hb hby dd11_137)
      refine oS s679 ?_
      obtain ⟨ob_680, kk_681, rfl, N682, K683, F684, F685, F686, F687⟩ := q678
      have N688 := Fr.app N618 N682
      have z689 := K683.1
      show own_G p e below (T672.setTop (mkF m 140 #[iv 0, rv ob_299, iv 1, iv 3, rv ob_541, rv ob_299, iv 2, iv 2, iv (in_57.toInt8.toInt32)] [(.ref ob_680)])) _
      have y690 : @LT.lt Nat instLTNat ob_680 h673.size := by omega
      have K691 : Keep h0 h673 [] := ((((((Keep.refl h0 []).trans K544 all0).wr W556 (Or.inr (by omega))).wr W567 (Or.inr (by omega))).wr W615 (Or.inr (by omega))).trans K683 all0)
      exact own_retA X676 hx Bd.notSynchronized Bd.returns rfl rfl (hb hby dd11_140) e677 (by decide) (by decide) (Or.inr (Or.inl ⟨ob_680, kk_681, b491, b584, rfl, N688, K691, (by omega), F685, F686, y690⟩))
  · skip
    have N692 := Fr.app N0 N496
    have e693 := e488.trans K497
    show own_G p e below (T483.setTop (mkF m 18 #[iv 0, rv ob_299, iv 1, .unset, .unset, .unset, .unset, .unset, .unset] [(.int 1)])) _
    refine oS (fun _ => XS.ifYes X487.here hx rfl (pc0 := 18) (pc' := 29) rfl (hb hby dd11_18) rfl (XT.i0_ne_t (by decide)) (by decide) (by decide)) ?_
    show own_G p e below (T483.setTop (mkF m 29 #[iv 0, rv ob_299, iv 1, .unset, .unset, .unset, .unset, .unset, .unset] [])) _
    refine oS (fun _ => XS.iconst X487.here hx rfl (hb hby dd11_29) ) ?_
    refine oS (fun _ => XS.istoreN X487.here hx rfl (hb hby dd11_30) rfl (l' := #[iv 0, rv ob_299, iv 1, iv 0, .unset, .unset, .unset, .unset, .unset]) rfl) ?_
    refine oS (fun _ => XS.aloadN X487.here hx rfl (hb hby dd11_31) rfl rfl) ?_
    refine oS (own_len X487 hx hZ e693 I453 rfl rfl (hb hby dd11_32)) ?_
    show own_G p e below (T483.setTop (mkF m 33 #[iv 0, rv ob_299, iv 1, iv 0, .unset, .unset, .unset, .unset, .unset] [(.int 2)])) _
    obtain ⟨T694, h695, v696, L697, X698, e699, q700, s701⟩ := own_callS X487 hx hZ hown e693 (y := (⟨"java/lang/StringUTF16", "newBytesFor", "(I)[B"⟩ : MethodName)) (oW hw 94 rfl) (oW hw 95 rfl) (oW hw 20 rfl) (oW hw 96 rfl) (by decide) (W := 0) (own_rm16 l Z a0 hw []  h0 n0 Z0 O0 ) (by decide) (by decide) (by decide) (by decide) (g := (mkF m 33 #[iv 0, rv ob_299, iv 1, iv 0, .unset, .unset, .unset, .unset, .unset] [(.int 2)])) rfl (by rw [hml]; rfl) (argsL := [(.int 2)]) (rest := []) rfl (lenOf own_pd11 rfl) rfl (by show 2 * 0 + _ ≤ _; exact Nat.le_of_eq rfl) (hb hby dd11_33)
    refine oS s701 ?_
    obtain ⟨ob_702, kk_703, rfl, N704, K705, F706, F707, F708, F709⟩ := q700
    have N710 := Fr.app N692 N704
    have z711 := K705.1
    show own_G p e below (T694.setTop (mkF m 36 #[iv 0, rv ob_299, iv 1, iv 0, .unset, .unset, .unset, .unset, .unset] [(.ref ob_702)])) _
    refine oS (fun _ => XS.astore X698.here hx rfl (hb hby dd11_36) rfl rfl (l' := #[iv 0, rv ob_299, iv 1, iv 0, rv ob_702, .unset, .unset, .unset, .unset]) rfl) ?_
    refine oS (fun _ => XS.aloadN X698.here hx rfl (hb hby dd11_38) rfl rfl) ?_
    refine oS (fun _ => XS.astore X698.here hx rfl (hb hby dd11_39) rfl rfl (l' := #[iv 0, rv ob_299, iv 1, iv 0, rv ob_702, rv ob_299, .unset, .unset, .unset]) rfl) ?_
    refine oS (fun _ => XS.aload X698.here hx rfl (hb hby dd11_41) rfl rfl) ?_
    show own_G p e below (T694.setTop (mkF m 43 #[iv 0, rv ob_299, iv 1, iv 0, rv ob_702, rv ob_299, .unset, .unset, .unset] [(.ref ob_299)])) _
    have F712 : Arv Z h695 ob_299 kk_300 .byte 2 [(.int (in_41.toInt8.toInt32)), (.int (in_57.toInt8.toInt32))] (.int 0) := I453.keep K705 nin0
    refine oS (own_len X698 hx hZ e699 F712 rfl rfl (hb hby dd11_43)) ?_
    show own_G p e below (T694.setTop (mkF m 44 #[iv 0, rv ob_299, iv 1, iv 0, rv ob_702, rv ob_299, .unset, .unset, .unset] [(.int 2)])) _
    refine oS (fun _ => XS.istore X698.here hx rfl (hb hby dd11_44) rfl (l' := #[iv 0, rv ob_299, iv 1, iv 0, rv ob_702, rv ob_299, iv 2, .unset, .unset]) rfl) ?_
    refine oS (fun _ => XS.iconst X698.here hx rfl (hb hby dd11_46) ) ?_
    refine oS (fun _ => XS.istore X698.here hx rfl (hb hby dd11_47) rfl (l' := #[iv 0, rv ob_299, iv 1, iv 0, rv ob_702, rv ob_299, iv 2, iv 0, .unset]) rfl) ?_
    refine oS (fun _ => XS.iload X698.here hx rfl (hb hby dd11_49) rfl) ?_
    show own_G p e below (T694.setTop (mkF m 51 #[iv 0, rv ob_299, iv 1, iv 0, rv ob_702, rv ob_299, iv 2, iv 0, .unset] [(.int 0)])) _
    refine oS (fun _ => XS.iload X698.here hx rfl (hb hby dd11_51) rfl) ?_
    refine oS (fun _ => XS.icmpNo X698.here hx rfl (hb hby dd11_53) rfl (XT.ii_ge_f (by decide))) ?_
    show own_G p e below (T694.setTop (mkF m 56 #[iv 0, rv ob_299, iv 1, iv 0, rv ob_702, rv ob_299, iv 2, iv 0, .unset] [])) _
    refine oS (fun _ => XS.aload X698.here hx rfl (hb hby dd11_56) rfl rfl) ?_
    refine oS (fun _ => XS.iload X698.here hx rfl (hb hby dd11_58) rfl) ?_
    refine oS (own_baload X698 hx hZ e699 F712 (by decide) (v := (.int (in_41.toInt8.toInt32))) rfl rfl rfl (hb hby dd11_60)) ?_
    show own_G p e below (T694.setTop (mkF m 61 #[iv 0, rv ob_299, iv 1, iv 0, rv ob_702, rv ob_299, iv 2, iv 0, .unset] [(.int (in_41.toInt8.toInt32))])) _
    refine oS (fun _ => XS.istore X698.here hx rfl (hb hby dd11_61) rfl (l' := #[iv 0, rv ob_299, iv 1, iv 0, rv ob_702, rv ob_299, iv 2, iv 0, iv (in_41.toInt8.toInt32)]) rfl) ?_
    refine oS (fun _ => XS.iload X698.here hx rfl (hb hby dd11_63) rfl) ?_
    refine oS (fun _ => XS.ifYes X698.here hx rfl (pc0 := 65) (pc' := 109) rfl (hb hby dd11_65) rfl (XT.i0_ge_t b494) (by decide) (by decide)) ?_
    show own_G p e below (T694.setTop (mkF m 109 #[iv 0, rv ob_299, iv 1, iv 0, rv ob_702, rv ob_299, iv 2, iv 0, iv (in_41.toInt8.toInt32)] [])) _
    refine oS (fun _ => XS.aload X698.here hx rfl (hb hby dd11_109) rfl rfl) ?_
    refine oS (fun _ => XS.iloadN X698.here hx rfl (hb hby dd11_111) rfl) ?_
    refine oS (fun _ => XS.iinc X698.here hx rfl (hb hby dd11_112) rfl (l' := #[iv 0, rv ob_299, iv 1, iv 1, rv ob_702, rv ob_299, iv 2, iv 0, iv (in_41.toInt8.toInt32)]) rfl) ?_
    show own_G p e below (T694.setTop (mkF m 115 #[iv 0, rv ob_299, iv 1, iv 1, rv ob_702, rv ob_299, iv 2, iv 0, iv (in_41.toInt8.toInt32)] [(.int 0), (.ref ob_702)])) _
    refine oS (fun _ => XS.iload X698.here hx rfl (hb hby dd11_115) rfl) ?_
    obtain ⟨T713, h714, X715, e716, W717, A718, s719⟩ := own_stB X698 hx hZ e699 F707 (x' := (in_41.toInt8.toInt32)) 0 (own_narB _) rfl (by decide) (by simp) (g := (mkF m 117 #[iv 0, rv ob_299, iv 1, iv 1, rv ob_702, rv ob_299, iv 2, iv 0, iv (in_41.toInt8.toInt32)] [(.int (in_41.toInt8.toInt32)), (.int 0), (.ref ob_702)])) rfl (rest := []) rfl (hb hby dd11_117)
    have N721 : n0 ≤ ob_702 := by omega
    have N720 := Fr.snoc X715 N710 N721
    have z722 := W717.size
    have F723 : Arv Z h714 ob_702 kk_703 .byte 4 [(.int (in_41.toInt8.toInt32)), (.int 0), (.int 0), (.int 0)] (.int 0) := A718
    refine oS s719 ?_
    show own_G p e below (T713.setTop (mkF m 118 #[iv 0, rv ob_299, iv 1, iv 1, rv ob_702, rv ob_299, iv 2, iv 0, iv (in_41.toInt8.toInt32)] [])) _
    refine oS (fun _ => XS.iinc X715.here hx rfl (hb hby dd11_118) rfl (l' := #[iv 0, rv ob_299, iv 1, iv 1, rv ob_702, rv ob_299, iv 2, iv 1, iv (in_41.toInt8.toInt32)]) rfl) ?_
    show own_G p e below (T713.setTop (mkF m 121 #[iv 0, rv ob_299, iv 1, iv 1, rv ob_702, rv ob_299, iv 2, iv 1, iv (in_41.toInt8.toInt32)] [])) _
    refine oS (fun _ => XS.goto X715.here hx rfl (pc0 := 121) (pc' := 49) rfl (hb hby dd11_121) (by decide) (by decide)) ?_
    show own_G p e below (T713.setTop (mkF m 49 #[iv 0, rv ob_299, iv 1, iv 1, rv ob_702, rv ob_299, iv 2, iv 1, iv (in_41.toInt8.toInt32)] [])) _
    refine oS (fun _ => XS.iload X715.here hx rfl (hb hby dd11_49) rfl) ?_
    refine oS (fun _ => XS.iload X715.here hx rfl (hb hby dd11_51) rfl) ?_
    refine oS (fun _ => XS.icmpNo X715.here hx rfl (hb hby dd11_53) rfl (XT.ii_ge_f (by decide))) ?_
    show own_G p e below (T713.setTop (mkF m 56 #[iv 0, rv ob_299, iv 1, iv 1, rv ob_702, rv ob_299, iv 2, iv 1, iv (in_41.toInt8.toInt32)] [])) _
    refine oS (fun _ => XS.aload X715.here hx rfl (hb hby dd11_56) rfl rfl) ?_
    refine oS (fun _ => XS.iload X715.here hx rfl (hb hby dd11_58) rfl) ?_
    have N724 : @Ne Nat ob_299 ob_702 := by omega
    have F725 : Arv Z h714 ob_299 kk_300 .byte 2 [(.int (in_41.toInt8.toInt32)), (.int (in_57.toInt8.toInt32))] (.int 0) := F712.other W717 N724
    refine oS (own_baload X715 hx hZ e716 F725 (by decide) (v := (.int (in_57.toInt8.toInt32))) rfl rfl rfl (hb hby dd11_60)) ?_
    show own_G p e below (T713.setTop (mkF m 61 #[iv 0, rv ob_299, iv 1, iv 1, rv ob_702, rv ob_299, iv 2, iv 1, iv (in_41.toInt8.toInt32)] [(.int (in_57.toInt8.toInt32))])) _
    refine oS (fun _ => XS.istore X715.here hx rfl (hb hby dd11_61) rfl (l' := #[iv 0, rv ob_299, iv 1, iv 1, rv ob_702, rv ob_299, iv 2, iv 1, iv (in_57.toInt8.toInt32)]) rfl) ?_
    refine oS (fun _ => XS.iload X715.here hx rfl (hb hby dd11_63) rfl) ?_
    refine oS (fun _ => XS.ifNo X715.here hx rfl (hb hby dd11_65) rfl (XT.i0_ge_f b495)) ?_
    show own_G p e below (T713.setTop (mkF m 68 #[iv 0, rv ob_299, iv 1, iv 1, rv ob_702, rv ob_299, iv 2, iv 1, iv (in_57.toInt8.toInt32)] [])) _
    refine oS (fun _ => XS.aload X715.here hx rfl (hb hby dd11_68) rfl rfl) ?_
    refine oS (fun _ => XS.iloadN X715.here hx rfl (hb hby dd11_70) rfl) ?_
    refine oS (fun _ => XS.iinc X715.here hx rfl (hb hby dd11_71) rfl (l' := #[iv 0, rv ob_299, iv 1, iv 2, rv ob_702, rv ob_299, iv 2, iv 1, iv (in_57.toInt8.toInt32)]) rfl) ?_
    show own_G p e below (T713.setTop (mkF m 74 #[iv 0, rv ob_299, iv 1, iv 2, rv ob_702, rv ob_299, iv 2, iv 1, iv (in_57.toInt8.toInt32)] [(.int 1), (.ref ob_702)])) _
    refine oS (fun _ => XS.sipush X715.here hx rfl (hb hby dd11_74) ) ?_
    refine oS (fun _ => XS.iload X715.here hx rfl (hb hby dd11_77) rfl) ?_
    refine oS (fun _ => XS.sipush X715.here hx rfl (hb hby dd11_79) ) ?_
    refine oS (fun _ => XS.iand X715.here hx rfl (hb hby dd11_82) rfl) ?_
    show own_G p e below (T713.setTop (mkF m 83 #[iv 0, rv ob_299, iv 1, iv 2, rv ob_702, rv ob_299, iv 2, iv 1, iv (in_57.toInt8.toInt32)] [(.int ((in_57.toInt8.toInt32) &&& 255)), (.int 192), (.int 1), (.ref ob_702)])) _
    refine oS (fun _ => XS.bipush X715.here hx rfl (hb hby dd11_83) ) ?_
    refine oS (fun _ => XT.ishr X715.here hx rfl (hb hby dd11_85) rfl) ?_
    refine oS (fun _ => XT.ior X715.here hx rfl (hb hby dd11_86) rfl) ?_
    refine oS (fun _ => XT.i2b X715.here hx rfl (hb hby dd11_87) rfl) ?_
    show own_G p e below (T713.setTop (mkF m 88 #[iv 0, rv ob_299, iv 1, iv 2, rv ob_702, rv ob_299, iv 2, iv 1, iv (in_57.toInt8.toInt32)] [(.int (((192 : Int32) ||| (((in_57.toInt8.toInt32) &&& 255) >>> ((6 : Int32) &&& 31))).toInt8.toInt32)), (.int 1), (.ref ob_702)])) _
    obtain ⟨T726, h727, X728, e729, W730, A731, s732⟩ := own_stB X715 hx hZ e716 F723 (x' := (((192 : Int32) ||| (((in_57.toInt8.toInt32) &&& 255) >>> ((6 : Int32) &&& 31))).toInt8.toInt32)) 1 (own_narB _) rfl (by decide) (by simp) (g := (mkF m 88 #[iv 0, rv ob_299, iv 1, iv 2, rv ob_702, rv ob_299, iv 2, iv 1, iv (in_57.toInt8.toInt32)] [(.int (((192 : Int32) ||| (((in_57.toInt8.toInt32) &&& 255) >>> ((6 : Int32) &&& 31))).toInt8.toInt32)), (.int 1), (.ref ob_702)])) rfl (rest := []) rfl (hb hby dd11_88)
    have N733 := Fr.snoc X728 N720 N721
    have z734 := W730.size
    have F735 : Arv Z h727 ob_702 kk_703 .byte 4 [(.int (in_41.toInt8.toInt32)), (.int (((192 : Int32) ||| (((in_57.toInt8.toInt32) &&& 255) >>> ((6 : Int32) &&& 31))).toInt8.toInt32)), (.int 0), (.int 0)] (.int 0) := A731
    refine oS s732 ?_
    show own_G p e below (T726.setTop (mkF m 89 #[iv 0, rv ob_299, iv 1, iv 2, rv ob_702, rv ob_299, iv 2, iv 1, iv (in_57.toInt8.toInt32)] [])) _
    refine oS (fun _ => XS.aload X728.here hx rfl (hb hby dd11_89) rfl rfl) ?_
    refine oS (fun _ => XS.iloadN X728.here hx rfl (hb hby dd11_91) rfl) ?_
    refine oS (fun _ => XS.iinc X728.here hx rfl (hb hby dd11_92) rfl (l' := #[iv 0, rv ob_299, iv 1, iv 3, rv ob_702, rv ob_299, iv 2, iv 1, iv (in_57.toInt8.toInt32)]) rfl) ?_
    show own_G p e below (T726.setTop (mkF m 95 #[iv 0, rv ob_299, iv 1, iv 3, rv ob_702, rv ob_299, iv 2, iv 1, iv (in_57.toInt8.toInt32)] [(.int 2), (.ref ob_702)])) _
    refine oS (fun _ => XS.sipush X728.here hx rfl (hb hby dd11_95) ) ?_
    refine oS (fun _ => XS.iload X728.here hx rfl (hb hby dd11_98) rfl) ?_
    refine oS (fun _ => XS.bipush X728.here hx rfl (hb hby dd11_100) ) ?_
    refine oS (fun _ => XS.iand X728.here hx rfl (hb hby dd11_102) rfl) ?_
    show own_G p e below (T726.setTop (mkF m 103 #[iv 0, rv ob_299, iv 1, iv 3, rv ob_702, rv ob_299, iv 2, iv 1, iv (in_57.toInt8.toInt32)] [(.int ((in_57.toInt8.toInt32) &&& 63)), (.int 128), (.int 2), (.ref ob_702)])) _
    refine oS (fun _ => XT.ior X728.here hx rfl (hb hby dd11_103) rfl) ?_
    refine oS (fun _ => XT.i2b X728.here hx rfl (hb hby dd11_104) rfl) ?_
    obtain ⟨T736, h737, X738, e739, W740, A741, s742⟩ := own_stB X728 hx hZ e729 F735 (x' := (((128 : Int32) ||| ((in_57.toInt8.toInt32) &&& 63)).toInt8.toInt32)) 2 (own_narB _) rfl (by decide) (by simp) (g := (mkF m 105 #[iv 0, rv ob_299, iv 1, iv 3, rv ob_702, rv ob_299, iv 2, iv 1, iv (in_57.toInt8.toInt32)] [(.int (((128 : Int32) ||| ((in_57.toInt8.toInt32) &&& 63)).toInt8.toInt32)), (.int 2), (.ref ob_702)])) rfl (rest := []) rfl (hb hby dd11_105)
    have N743 := Fr.snoc X738 N733 N721
    have z744 := W740.size
    have F745 : Arv Z h737 ob_702 kk_703 .byte 4 [(.int (in_41.toInt8.toInt32)), (.int (((192 : Int32) ||| (((in_57.toInt8.toInt32) &&& 255) >>> ((6 : Int32) &&& 31))).toInt8.toInt32)), (.int (((128 : Int32) ||| ((in_57.toInt8.toInt32) &&& 63)).toInt8.toInt32)), (.int 0)] (.int 0) := A741
    refine oS s742 ?_
    show own_G p e below (T736.setTop (mkF m 106 #[iv 0, rv ob_299, iv 1, iv 3, rv ob_702, rv ob_299, iv 2, iv 1, iv (in_57.toInt8.toInt32)] [])) _
    refine oS (fun _ => XS.goto X738.here hx rfl (pc0 := 106) (pc' := 118) rfl (hb hby dd11_106) (by decide) (by decide)) ?_
    show own_G p e below (T736.setTop (mkF m 118 #[iv 0, rv ob_299, iv 1, iv 3, rv ob_702, rv ob_299, iv 2, iv 1, iv (in_57.toInt8.toInt32)] [])) _
    refine oS (fun _ => XS.iinc X738.here hx rfl (hb hby dd11_118) rfl (l' := #[iv 0, rv ob_299, iv 1, iv 3, rv ob_702, rv ob_299, iv 2, iv 2, iv (in_57.toInt8.toInt32)]) rfl) ?_
    show own_G p e below (T736.setTop (mkF m 121 #[iv 0, rv ob_299, iv 1, iv 3, rv ob_702, rv ob_299, iv 2, iv 2, iv (in_57.toInt8.toInt32)] [])) _
    refine oS (fun _ => XS.goto X738.here hx rfl (pc0 := 121) (pc' := 49) rfl (hb hby dd11_121) (by decide) (by decide)) ?_
    show own_G p e below (T736.setTop (mkF m 49 #[iv 0, rv ob_299, iv 1, iv 3, rv ob_702, rv ob_299, iv 2, iv 2, iv (in_57.toInt8.toInt32)] [])) _
    refine oS (fun _ => XS.iload X738.here hx rfl (hb hby dd11_49) rfl) ?_
    refine oS (fun _ => XS.iload X738.here hx rfl (hb hby dd11_51) rfl) ?_
    refine oS (fun _ => XS.icmpYes X738.here hx rfl (pc0 := 53) (pc' := 124) rfl (hb hby dd11_53) rfl (XT.ii_ge_t (by decide)) (by decide) (by decide)) ?_
    show own_G p e below (T736.setTop (mkF m 124 #[iv 0, rv ob_299, iv 1, iv 3, rv ob_702, rv ob_299, iv 2, iv 2, iv (in_57.toInt8.toInt32)] [])) _
    refine oS (fun _ => XS.iloadN X738.here hx rfl (hb hby dd11_124) rfl) ?_
    refine oS (fun _ => XS.aload X738.here hx rfl (hb hby dd11_125) rfl rfl) ?_
    refine oS (own_len X738 hx hZ e739 F745 rfl rfl (hb hby dd11_127)) ?_
    show own_G p e below (T736.setTop (mkF m 128 #[iv 0, rv ob_299, iv 1, iv 3, rv ob_702, rv ob_299, iv 2, iv 2, iv (in_57.toInt8.toInt32)] [(.int 4), (.int 3)])) _
    refine oS (fun _ => XS.icmpYes X738.here hx rfl (pc0 := 128) (pc' := 134) rfl (hb hby dd11_128) rfl (XT.ii_ne_t (by decide)) (by decide) (by decide)) ?_
    show own_G p e below (T736.setTop (mkF m 134 #[iv 0, rv ob_299, iv 1, iv 3, rv ob_702, rv ob_299, iv 2, iv 2, iv (in_57.toInt8.toInt32)] [])) _
    refine oS (fun _ => XS.aload X738.here hx rfl (hb hby dd11_134) rfl rfl) ?_
    refine oS (fun _ => XS.iloadN X738.here hx rfl (hb hby dd11_136) rfl) ?_
    have O792 : Old Z n0 h695 := O0.keep K705 all0
    have O793 : Old Z n0 h714 := O792.wr W717 N721
    have O794 : Old Z n0 h727 := O793.wr W730 N721
    have O795 : Old Z n0 h737 := O794.wr W740 N721
    have Z796 : n0 ≤ h737.size := by omega
    obtain ⟨T797, h798, v799, L800, X801, e802, q803, s804⟩ := own_callS X738 hx hZ hown e739 (y := (⟨"java/util/Arrays", "copyOf", "([BI)[B"⟩ : MethodName)) (oW hw 101 rfl) (oW hw 102 rfl) (oW hw 103 rfl) (oW hw 104 rfl) (by decide) (W := 0) (own_rm20 l Z a0 hw [] ob_702 kk_703 in_41 in_57 h737 n0 Z796 O795 F745) (by decide) (by decide) (by decide) (by decide) (g := (mkF m 137 #[iv 0, rv ob_299, iv 1, iv 3, rv ob_702, rv ob_299, iv 2, iv 2, iv (in_57.toInt8.toInt32)] [(.int 3), (.ref ob_702)])) rfl (by rw [hml]; rfl) (argsL := [(.ref ob_702), (.int 3)]) (rest := []) rfl (lenOf own_pd13 rfl) rfl (by show 2 * 0 + _ ≤ _; exact Nat.le_of_eq rfl) (hb hby dd11_137)
    refine oS s804 ?_
    obtain ⟨ob_805, kk_806, rfl, N807, K808, F809, F810, F811, F812⟩ := q803
    have N813 := Fr.app N743 N807
    have z814 := K808.1
    show own_G p e below (T797.setTop (mkF m 140 #[iv 0, rv ob_299, iv 1, iv 3, rv ob_702, rv ob_299, iv 2, iv 2, iv (in_57.toInt8.toInt32)] [(.ref ob_805)])) _
    have y815 : @LT.lt Nat instLTNat ob_805 h798.size := by omega
    have K816 : Keep h0 h798 [] := ((((((Keep.refl h0 []).trans K705 all0).wr W717 (Or.inr (by omega))).wr W730 (Or.inr (by omega))).wr W740 (Or.inr (by omega))).trans K808 all0)
    exact own_retA X801 hx Bd.notSynchronized Bd.returns rfl rfl (hb hby dd11_140) e802 (by decide) (by decide) (Or.inr (Or.inr (Or.inl ⟨ob_805, kk_806, b494, b495, rfl, N813, K816, (by omega), F810, F811, y815⟩)))
  · skip
    have N817 := Fr.app N0 N500
    have e818 := e488.trans K501
    show own_G p e below (T483.setTop (mkF m 18 #[iv 0, rv ob_299, iv 1, .unset, .unset, .unset, .unset, .unset, .unset] [(.int 0)])) _
    refine oS (fun _ => XS.ifNo X487.here hx rfl (hb hby dd11_18) rfl (XT.i0_ne_f (by decide))) ?_
    show own_G p e below (T483.setTop (mkF m 21 #[iv 0, rv ob_299, iv 1, .unset, .unset, .unset, .unset, .unset, .unset] [])) _
    refine oS (fun _ => XS.aloadN X487.here hx rfl (hb hby dd11_21) rfl rfl) ?_
    obtain ⟨T824, h825, X826, e827, E828, A829, B830, s831⟩ := own_clone X487 hx hZ (ad := "[B") hown e818 (oW hw 77 rfl) (oW hw 78 rfl) (oW hw 82 rfl) (oW hw 80 rfl) (oW hw 81 rfl) (oW hw 83 rfl) I453 I823 (g := (mkF m 22 #[iv 0, rv ob_299, iv 1, .unset, .unset, .unset, .unset, .unset, .unset] [(.ref ob_299)])) rfl (by rw [hml]; rfl) rfl (hb hby dd11_22) (by decide) (W := 0) (cap := 2) (by show 2 * 0 + _ ≤ _; exact Nat.le_of_eq rfl) (by decide) (by decide) (by decide) (by decide)
    obtain ⟨ob_833, g834⟩ : ∃ z, z = h0.size := ⟨_, rfl⟩
    rw [← g834] at A829 B830 s831
    have z835 := E828.1
    have y832 : @LT.lt Nat instLTNat ob_833 h825.size := A829.lt
    refine oS s831 ?_
    show own_G p e below (T824.setTop (mkF m 25 #[iv 0, rv ob_299, iv 1, .unset, .unset, .unset, .unset, .unset, .unset] [(.ref ob_833)])) _
    obtain ⟨T836, X837, e838, s839⟩ := castY X826 hx hZ hown (oW hw 84 rfl) e827 (Ins.self B830) (g := (mkF m 25 #[iv 0, rv ob_299, iv 1, .unset, .unset, .unset, .unset, .unset, .unset] [(.ref ob_833)])) rfl rfl (hb hby dd11_25)
    refine oS s839 ?_
    show own_G p e below (T836.setTop (mkF m 28 #[iv 0, rv ob_299, iv 1, .unset, .unset, .unset, .unset, .unset, .unset] [(.ref ob_833)])) _
    have y840 : @LT.lt Nat instLTNat ob_833 h825.size := by omega
    have K841 : Keep h0 h825 [] := ((Keep.refl h0 []).ext E828)
    exact own_retA X837 hx Bd.notSynchronized Bd.returns rfl rfl (hb hby dd11_28) e838 (by decide) (by decide) (Or.inr (Or.inr (Or.inr (⟨ob_833, b498, b499, rfl, N817, K841, (by omega), A829, B830, y840⟩))))
theorem own_pd14 : parseMethodDescriptor "(B[BZ)[B" = some ⟨[.byte, (.array .byte), .boolean], (some (.array .byte))⟩ := by decide +kernel
theorem dd10_10 : decode jdk_42_method_18_code 10 = .ok (.invokestatic 252, 3) := by decide +kernel
theorem dd10_13 : decode jdk_42_method_18_code 13 = .ok (.areturn, 1) := by decide +kernel
def own_Q12 (Z : State) (ob_6 : Nat) (ob_299 : Nat) (kk_300 : ClassId) (in_41 : Int32) (in_57 : Int32) (h0 : Heap) (n0 : Nat) (v : Option Value) (h : Heap) (L : List Loc) : Prop := (∃ ob_850 : Nat, ∃ kk_851 : ClassId, ((in_41.toInt8.toInt32) < 0) ∧ ((in_57.toInt8.toInt32) < 0) ∧ v = some (.ref ob_850) ∧ Fr n0 L ∧ Keep h0 h [] ∧ h0.size ≤ ob_850 ∧ Arv Z h ob_850 kk_851 .byte 4 [(.int (((192 : Int32) ||| (((in_41.toInt8.toInt32) &&& 255) >>> ((6 : Int32) &&& 31))).toInt8.toInt32)), (.int (((128 : Int32) ||| ((in_41.toInt8.toInt32) &&& 63)).toInt8.toInt32)), (.int (((192 : Int32) ||| (((in_57.toInt8.toInt32) &&& 255) >>> ((6 : Int32) &&& 31))).toInt8.toInt32)), (.int (((128 : Int32) ||| ((in_57.toInt8.toInt32) &&& 63)).toInt8.toInt32))] (.int 0) ∧ Exa Z h ob_850 "[B" ∧ @LT.lt Nat instLTNat ob_850 h.size) ∨ (∃ ob_860 : Nat, ∃ kk_861 : ClassId, ((in_41.toInt8.toInt32) < 0) ∧ ¬ ((in_57.toInt8.toInt32) < 0) ∧ v = some (.ref ob_860) ∧ Fr n0 L ∧ Keep h0 h [] ∧ h0.size ≤ ob_860 ∧ Arv Z h ob_860 kk_861 .byte 3 [(.int (((192 : Int32) ||| (((in_41.toInt8.toInt32) &&& 255) >>> ((6 : Int32) &&& 31))).toInt8.toInt32)), (.int (((128 : Int32) ||| ((in_41.toInt8.toInt32) &&& 63)).toInt8.toInt32)), (.int (in_57.toInt8.toInt32))] (.int 0) ∧ Exa Z h ob_860 "[B" ∧ @LT.lt Nat instLTNat ob_860 h.size) ∨ (∃ ob_870 : Nat, ∃ kk_871 : ClassId, ¬ ((in_41.toInt8.toInt32) < 0) ∧ ((in_57.toInt8.toInt32) < 0) ∧ v = some (.ref ob_870) ∧ Fr n0 L ∧ Keep h0 h [] ∧ h0.size ≤ ob_870 ∧ Arv Z h ob_870 kk_871 .byte 3 [(.int (in_41.toInt8.toInt32)), (.int (((192 : Int32) ||| (((in_57.toInt8.toInt32) &&& 255) >>> ((6 : Int32) &&& 31))).toInt8.toInt32)), (.int (((128 : Int32) ||| ((in_57.toInt8.toInt32) &&& 63)).toInt8.toInt32))] (.int 0) ∧ Exa Z h ob_870 "[B" ∧ @LT.lt Nat instLTNat ob_870 h.size) ∨ (∃ ob_880 : Nat, ¬ ((in_41.toInt8.toInt32) < 0) ∧ ¬ ((in_57.toInt8.toInt32) < 0) ∧ v = some (.ref ob_880) ∧ Fr n0 L ∧ Keep h0 h [] ∧ h0.size ≤ ob_880 ∧ Arv Z h ob_880 kk_300 .byte 2 [(.int (in_41.toInt8.toInt32)), (.int (in_57.toInt8.toInt32))] (.int 0) ∧ Exa Z h ob_880 "[B" ∧ @LT.lt Nat instLTNat ob_880 h.size)
theorem own_pn15 : plainFor (⟨"java/lang/String", "encode", "(Ljava/nio/charset/Charset;B[B)[B"⟩ : MethodName) = true := by decide +kernel
set_option maxRecDepth 65536 in
set_option maxHeartbeats 40000000 in
theorem own_rm12 (l : Launch) (Z : State) (a0 : Array Value) (hw : ∀ d ∈ tables_1, d.before a0 Z = true) (ws : List Jvm.Cond) (ob_6 : Nat) (ob_299 : Nat) (kk_300 : ClassId) (in_41 : Int32) (in_57 : Int32) (h0 : Heap) (n0 : Nat) (Z0 : n0 ≤ h0.size) (O0 : Old Z n0 h0) (I443 : Sta Z Z.heap "sun/nio/cs/UTF_8" "INSTANCE" "Lsun/nio/cs/UTF_8;" (.ref ob_6)) (I452 : Arv Z h0 ob_299 kk_300 .byte 2 [(.int (in_41.toInt8.toInt32)), (.int (in_57.toInt8.toInt32))] (.int 0)) (I578 : @LT.lt Nat instLTNat ob_299 h0.size) (I822 : Exa Z h0 ob_299 "[B") :
    own_Met l Z h0 (⟨"java/lang/String", "encode", "(Ljava/nio/charset/Charset;B[B)[B"⟩ : MethodName) jdk_42_method_18_code 3 (Option.some (FieldType.array FieldType.byte)) ws ({ frames := 3, cells := 2, slots := 7, locals := 52 } : Room) #[(.ref ob_6), (.int 0), (.ref ob_299)] (own_Q12 Z ob_6 ob_299 kk_300 in_41 in_57 h0 n0) 2 7 := by
  refine MetFree.of_bodySF own_pn15 hisR ?_
  intro p e s m args below meth c s₁ Bd hml0 hP hK
  obtain ⟨rfl, hZ, hh⟩ := hP
  have hx := Bd.exec
  have hby := Bd.bytes
  have hml : c.maxLocals = 3 := hml0
  have hown : s.vm.findClass "java/lang/String" = some m.cls := findClass_of_methodNamed Bd.named
  have hnm := (name_of_methodNamed Bd.named Bd.method).1
  have X0 : Stand p l e ({ frames := 3, cells := 2, slots := 7, locals := 52 } : Room) s m #[(.ref ob_6), (.int 0), (.ref ob_299)] below meth c s₁ [] 0 0 := Stand.of_body Bd
  have e0 : s₁.heap = h0 := by rw [← hh, Bd.state]; rfl
  have N0 := Fr.nil n0
  show own_G p e below (s₁.setTop (entryFrame m #[(.ref ob_6), (.int 0), (.ref ob_299)] 3)) (own_P s (own_Q12 Z ob_6 ob_299 kk_300 in_41 in_57 h0 n0) 2 7)
  refine own_cast (own_ef8 m ob_6 0 ob_299) ?_
  show own_G p e below (s₁.setTop (mkF m 0 #[rv ob_6, iv 0, rv ob_299] [])) _
  refine oS (fun _ => XS.aloadN X0.here hx rfl (hb hby dd10_0) rfl rfl) ?_
  have F444 : Sta Z h0 "sun/nio/cs/UTF_8" "INSTANCE" "Lsun/nio/cs/UTF_8;" (.ref ob_6) := Sta.ext O0.2 I443
  obtain ⟨T445, X446, e447, s448⟩ := getS X0 hx hZ hown (host := "") (oW hw 65 rfl) Via.refl e0 F444 (g := (mkF m 1 #[rv ob_6, iv 0, rv ob_299] [(.ref ob_6)])) rfl (hb hby dd10_1)
  refine oS s448 ?_
  show own_G p e below (T445.setTop (mkF m 4 #[rv ob_6, iv 0, rv ob_299] [(.ref ob_6), (.ref ob_6)])) _
  refine oS (fun _ => XT.acmpNo X446.here hx rfl (hb hby dd10_4) rfl rfl rfl (XT.aa_ne_f rfl)) ?_
  show own_G p e below (T445.setTop (mkF m 7 #[rv ob_6, iv 0, rv ob_299] [])) _
  refine oS (fun _ => XS.iloadN X446.here hx rfl (hb hby dd10_7) rfl) ?_
  refine oS (fun _ => XS.aloadN X446.here hx rfl (hb hby dd10_8) rfl rfl) ?_
  refine oS (fun _ => XS.iconst X446.here hx rfl (hb hby dd10_9) ) ?_
  have y579 : @LT.lt Nat instLTNat ob_299 h0.size := by omega
  obtain ⟨T842, h843, v844, L845, X846, e847, q848, s849⟩ := own_callS X446 hx hZ hown e447 (y := (⟨"java/lang/String", "encodeUTF8", "(B[BZ)[B"⟩ : MethodName)) (oW hw 67 rfl) (oW hw 68 rfl) (oW hw 6 rfl) (oW hw 69 rfl) (by decide) (W := 0) (own_rm13 l Z a0 hw [] ob_299 kk_300 in_41 in_57 h0 n0 Z0 O0 I452 y579 I822) (by decide) (by decide) (by decide) (by decide) (g := (mkF m 10 #[rv ob_6, iv 0, rv ob_299] [(.int 1), (.ref ob_299), (.int 0)])) rfl (by rw [hml]; rfl) (argsL := [(.int 0), (.ref ob_299), (.int 1)]) (rest := []) rfl (lenOf own_pd14 rfl) rfl (by show 2 * 0 + _ ≤ _; exact Nat.le_of_eq rfl) (hb hby dd10_10)
  refine oS s849 ?_
  rcases q848 with ⟨ob_850, kk_851, b852, b853, rfl, N854, K855, F856, F857, F858, F859⟩ | ⟨ob_860, kk_861, b862, b863, rfl, N864, K865, F866, F867, F868, F869⟩ | ⟨ob_870, kk_871, b872, b873, rfl, N874, K875, F876, F877, F878, F879⟩ | ⟨ob_880, b881, b882, rfl, N883, K884, F885, F886, F887, F888⟩
  · skip
    have N889 := Fr.app N0 N854
    have z890 := K855.1
    show own_G p e below (T842.setTop (mkF m 13 #[rv ob_6, iv 0, rv ob_299] [(.ref ob_850)])) _
    have y891 : @LT.lt Nat instLTNat ob_850 h843.size := by omega
    have K892 : Keep h0 h843 [] := ((Keep.refl h0 []).trans K855 all0)
    exact own_retA X846 hx Bd.notSynchronized Bd.returns rfl rfl (hb hby dd10_13) e847 (by decide) (by decide) (Or.inl ⟨ob_850, kk_851, b852, b853, rfl, N889, K892, (by omega), F857, F858, y891⟩)
  · skip
    have N893 := Fr.app N0 N864
    have z894 := K865.1
    show own_G p e below (T842.setTop (mkF m 13 #[rv ob_6, iv 0, rv ob_299] [(.ref ob_860)])) _
    have y895 : @LT.lt Nat instLTNat ob_860 h843.size := by omega
    have K896 : Keep h0 h843 [] := ((Keep.refl h0 []).trans K865 all0)
    exact own_retA X846 hx Bd.notSynchronized Bd.returns rfl rfl (hb hby dd10_13) e847 (by decide) (by decide) (Or.inr (Or.inl ⟨ob_860, kk_861, b862, b863, rfl, N893, K896, (by omega), F867, F868, y895⟩))
  · skip
    have N897 := Fr.app N0 N874
    have z898 := K875.1
    show own_G p e below (T842.setTop (mkF m 13 #[rv ob_6, iv 0, rv ob_299] [(.ref ob_870)])) _
    have y899 : @LT.lt Nat instLTNat ob_870 h843.size := by omega
    have K900 : Keep h0 h843 [] := ((Keep.refl h0 []).trans K875 all0)
    exact own_retA X846 hx Bd.notSynchronized Bd.returns rfl rfl (hb hby dd10_13) e847 (by decide) (by decide) (Or.inr (Or.inr (Or.inl ⟨ob_870, kk_871, b872, b873, rfl, N897, K900, (by omega), F877, F878, y899⟩)))
  · skip
    have N901 := Fr.app N0 N883
    have z902 := K884.1
    show own_G p e below (T842.setTop (mkF m 13 #[rv ob_6, iv 0, rv ob_299] [(.ref ob_880)])) _
    have y903 : @LT.lt Nat instLTNat ob_880 h843.size := by omega
    have K904 : Keep h0 h843 [] := ((Keep.refl h0 []).trans K884 all0)
    exact own_retA X846 hx Bd.notSynchronized Bd.returns rfl rfl (hb hby dd10_13) e847 (by decide) (by decide) (Or.inr (Or.inr (Or.inr (⟨ob_880, b881, b882, rfl, N901, K904, (by omega), F886, F887, y903⟩))))
theorem own_pd15 : parseMethodDescriptor "(Ljava/nio/charset/Charset;B[B)[B" = some ⟨[(.object "java/nio/charset/Charset"), .byte, (.array .byte)], (some (.array .byte))⟩ := by decide +kernel
theorem dd8_21 : decode jdk_42_method_64_code 21 = .ok (.invokestatic 535, 3) := by decide +kernel
theorem dd8_24 : decode jdk_42_method_64_code 24 = .ok (.areturn, 1) := by decide +kernel
def own_Q10 (Z : State) (ob_82 : Nat) (ob_6 : Nat) (in_4 : Int32) (ob_299 : Nat) (kk_300 : ClassId) (in_41 : Int32) (in_57 : Int32) (h0 : Heap) (n0 : Nat) (v : Option Value) (h : Heap) (L : List Loc) : Prop := (∃ ob_913 : Nat, ∃ kk_914 : ClassId, ((in_41.toInt8.toInt32) < 0) ∧ ((in_57.toInt8.toInt32) < 0) ∧ v = some (.ref ob_913) ∧ Fr n0 L ∧ Keep h0 h [] ∧ h0.size ≤ ob_913 ∧ Arv Z h ob_913 kk_914 .byte 4 [(.int (((192 : Int32) ||| (((in_41.toInt8.toInt32) &&& 255) >>> ((6 : Int32) &&& 31))).toInt8.toInt32)), (.int (((128 : Int32) ||| ((in_41.toInt8.toInt32) &&& 63)).toInt8.toInt32)), (.int (((192 : Int32) ||| (((in_57.toInt8.toInt32) &&& 255) >>> ((6 : Int32) &&& 31))).toInt8.toInt32)), (.int (((128 : Int32) ||| ((in_57.toInt8.toInt32) &&& 63)).toInt8.toInt32))] (.int 0) ∧ Exa Z h ob_913 "[B" ∧ @LT.lt Nat instLTNat ob_913 h.size) ∨ (∃ ob_923 : Nat, ∃ kk_924 : ClassId, ((in_41.toInt8.toInt32) < 0) ∧ ¬ ((in_57.toInt8.toInt32) < 0) ∧ v = some (.ref ob_923) ∧ Fr n0 L ∧ Keep h0 h [] ∧ h0.size ≤ ob_923 ∧ Arv Z h ob_923 kk_924 .byte 3 [(.int (((192 : Int32) ||| (((in_41.toInt8.toInt32) &&& 255) >>> ((6 : Int32) &&& 31))).toInt8.toInt32)), (.int (((128 : Int32) ||| ((in_41.toInt8.toInt32) &&& 63)).toInt8.toInt32)), (.int (in_57.toInt8.toInt32))] (.int 0) ∧ Exa Z h ob_923 "[B" ∧ @LT.lt Nat instLTNat ob_923 h.size) ∨ (∃ ob_933 : Nat, ∃ kk_934 : ClassId, ¬ ((in_41.toInt8.toInt32) < 0) ∧ ((in_57.toInt8.toInt32) < 0) ∧ v = some (.ref ob_933) ∧ Fr n0 L ∧ Keep h0 h [] ∧ h0.size ≤ ob_933 ∧ Arv Z h ob_933 kk_934 .byte 3 [(.int (in_41.toInt8.toInt32)), (.int (((192 : Int32) ||| (((in_57.toInt8.toInt32) &&& 255) >>> ((6 : Int32) &&& 31))).toInt8.toInt32)), (.int (((128 : Int32) ||| ((in_57.toInt8.toInt32) &&& 63)).toInt8.toInt32))] (.int 0) ∧ Exa Z h ob_933 "[B" ∧ @LT.lt Nat instLTNat ob_933 h.size) ∨ (∃ ob_943 : Nat, ¬ ((in_41.toInt8.toInt32) < 0) ∧ ¬ ((in_57.toInt8.toInt32) < 0) ∧ v = some (.ref ob_943) ∧ Fr n0 L ∧ Keep h0 h [] ∧ h0.size ≤ ob_943 ∧ Arv Z h ob_943 kk_300 .byte 2 [(.int (in_41.toInt8.toInt32)), (.int (in_57.toInt8.toInt32))] (.int 0) ∧ Exa Z h ob_943 "[B" ∧ @LT.lt Nat instLTNat ob_943 h.size)
theorem own_pn16 : plainFor (⟨"java/lang/String", "getBytes", "(Ljava/nio/charset/Charset;)[B"⟩ : MethodName) = true := by decide +kernel
set_option maxRecDepth 65536 in
set_option maxHeartbeats 40000000 in
theorem own_rm10 (l : Launch) (Z : State) (a0 : Array Value) (hw : ∀ d ∈ tables_1, d.before a0 Z = true) (ws : List Jvm.Cond) (ob_82 : Nat) (ob_6 : Nat) (in_4 : Int32) (ob_299 : Nat) (kk_300 : ClassId) (in_41 : Int32) (in_57 : Int32) (h0 : Heap) (n0 : Nat) (Z0 : n0 ≤ h0.size) (O0 : Old Z n0 h0) (I400 : Sta Z Z.heap "java/lang/String" "COMPACT_STRINGS" "Z" (.int in_4)) (I408 : ¬ (in_4 = 0)) (I412 : Fld Z h0 ob_82 "java/lang/String" "coder" "B" (.int 0)) (I428 : Exa Z h0 ob_82 "java/lang/String") (I435 : Fld Z h0 ob_82 "java/lang/String" "value" "[B" (.ref ob_299)) (I442 : Sta Z Z.heap "sun/nio/cs/UTF_8" "INSTANCE" "Lsun/nio/cs/UTF_8;" (.ref ob_6)) (I451 : Arv Z h0 ob_299 kk_300 .byte 2 [(.int (in_41.toInt8.toInt32)), (.int (in_57.toInt8.toInt32))] (.int 0)) (I576 : @LT.lt Nat instLTNat ob_299 h0.size) (I821 : Exa Z h0 ob_299 "[B") :
    own_Met l Z h0 (⟨"java/lang/String", "getBytes", "(Ljava/nio/charset/Charset;)[B"⟩ : MethodName) jdk_42_method_64_code 2 (Option.some (FieldType.array FieldType.byte)) ws ({ frames := 4, cells := 2, slots := 7, locals := 66 } : Room) #[(.ref ob_82), (.ref ob_6)] (own_Q10 Z ob_82 ob_6 in_4 ob_299 kk_300 in_41 in_57 h0 n0) 2 7 := by
  refine MetFree.of_bodySF own_pn16 hisR ?_
  intro p e s m args below meth c s₁ Bd hml0 hP hK
  obtain ⟨rfl, hZ, hh⟩ := hP
  have hx := Bd.exec
  have hby := Bd.bytes
  have hml : c.maxLocals = 2 := hml0
  have hown : s.vm.findClass "java/lang/String" = some m.cls := findClass_of_methodNamed Bd.named
  have hnm := (name_of_methodNamed Bd.named Bd.method).1
  have X0 : Stand p l e ({ frames := 4, cells := 2, slots := 7, locals := 66 } : Room) s m #[(.ref ob_82), (.ref ob_6)] below meth c s₁ [] 0 0 := Stand.of_body Bd
  have e0 : s₁.heap = h0 := by rw [← hh, Bd.state]; rfl
  have N0 := Fr.nil n0
  show own_G p e below (s₁.setTop (entryFrame m #[(.ref ob_82), (.ref ob_6)] 2)) (own_P s (own_Q10 Z ob_82 ob_6 in_4 ob_299 kk_300 in_41 in_57 h0 n0) 2 7)
  refine own_cast (own_ef1 m ob_82 ob_6) ?_
  show own_G p e below (s₁.setTop (mkF m 0 #[rv ob_82, rv ob_6] [])) _
  refine oS (fun _ => XS.aloadN X0.here hx rfl (hb hby dd8_0) rfl rfl) ?_
  refine oS (fun _ => XT.ifnonnullYes X0.here hx rfl (pc0 := 1) (pc' := 12) rfl (hb hby dd8_1) rfl (by decide) (by decide)) ?_
  show own_G p e below (s₁.setTop (mkF m 12 #[rv ob_82, rv ob_6] [])) _
  refine oS (fun _ => XS.aloadN X0.here hx rfl (hb hby dd8_12) rfl rfl) ?_
  refine oS (fun _ => XS.aloadN X0.here hx rfl (hb hby dd8_13) rfl rfl) ?_
  obtain ⟨T418, h419, v420, L421, X422, e423, q424, s425⟩ := own_callV X0 hx hZ hown e0 (y := (⟨"java/lang/String", "coder", "()B"⟩ : MethodName)) (z := (⟨"java/lang/String", "coder", "()B"⟩ : MethodName)) (C := "java/lang/String") (b := ob_82) (oW hw 57 rfl) (oW hw 58 rfl) (notFace_of_selects (args := #[]) (mvT hZ (oW hw 60 rfl))) (oW hw 60 rfl) (oW hw 59 rfl) (oW hw 6 rfl) (oW hw 61 rfl) (by decide) I428 (W := 1) (own_rm11 l Z a0 hw [] ob_82 in_4 h0 n0 Z0 O0 I400 I408 I412) (by decide) (by decide) (by decide) (by decide) (g := (mkF m 14 #[rv ob_82, rv ob_6] [(.ref ob_82), (.ref ob_6)])) rfl (by rw [hml]; rfl) (argsL := []) (rest := [(.ref ob_6)]) rfl (lenOf own_pd7 rfl) rfl (by show 2 * 0 + _ ≤ _; exact Nat.le_of_eq rfl) (hb hby dd8_14)
  refine oS s425 ?_
  obtain ⟨rfl, N429, K430⟩ := q424
  have N431 := Fr.app N0 N429
  have e432 := e423.trans K430
  show own_G p e below (T418.setTop (mkF m 17 #[rv ob_82, rv ob_6] [(.int 0), (.ref ob_6)])) _
  refine oS (fun _ => XS.aloadN X422.here hx rfl (hb hby dd8_17) rfl rfl) ?_
  obtain ⟨T436, X437, e438, s439⟩ := getF X422 hx hZ hown (host := "") (Or.inl (oW hw 31 rfl)) Via.refl e432 I435 (g := (mkF m 18 #[rv ob_82, rv ob_6] [(.ref ob_82), (.int 0), (.ref ob_6)])) rfl rfl (hb hby dd8_18)
  refine oS s439 ?_
  show own_G p e below (T436.setTop (mkF m 21 #[rv ob_82, rv ob_6] [(.ref ob_299), (.int 0), (.ref ob_6)])) _
  have y577 : @LT.lt Nat instLTNat ob_299 h0.size := by omega
  obtain ⟨T905, h906, v907, L908, X909, e910, q911, s912⟩ := own_callS X437 hx hZ hown e438 (y := (⟨"java/lang/String", "encode", "(Ljava/nio/charset/Charset;B[B)[B"⟩ : MethodName)) (oW hw 62 rfl) (oW hw 63 rfl) (oW hw 6 rfl) (oW hw 64 rfl) (by decide) (W := 0) (own_rm12 l Z a0 hw [] ob_6 ob_299 kk_300 in_41 in_57 h0 n0 Z0 O0 I442 I451 y577 I821) (by decide) (by decide) (by decide) (by decide) (g := (mkF m 21 #[rv ob_82, rv ob_6] [(.ref ob_299), (.int 0), (.ref ob_6)])) rfl (by rw [hml]; rfl) (argsL := [(.ref ob_6), (.int 0), (.ref ob_299)]) (rest := []) rfl (lenOf own_pd15 rfl) rfl (by show 2 * 0 + _ ≤ _; exact Nat.le_of_eq rfl) (hb hby dd8_21)
  refine oS s912 ?_
  rcases q911 with ⟨ob_913, kk_914, b915, b916, rfl, N917, K918, F919, F920, F921, F922⟩ | ⟨ob_923, kk_924, b925, b926, rfl, N927, K928, F929, F930, F931, F932⟩ | ⟨ob_933, kk_934, b935, b936, rfl, N937, K938, F939, F940, F941, F942⟩ | ⟨ob_943, b944, b945, rfl, N946, K947, F948, F949, F950, F951⟩
  · skip
    have N952 := Fr.app N431 N917
    have z953 := K918.1
    show own_G p e below (T905.setTop (mkF m 24 #[rv ob_82, rv ob_6] [(.ref ob_913)])) _
    have y954 : @LT.lt Nat instLTNat ob_913 h906.size := by omega
    have K955 : Keep h0 h906 [] := ((Keep.refl h0 []).trans K918 all0)
    exact own_retA X909 hx Bd.notSynchronized Bd.returns rfl rfl (hb hby dd8_24) e910 (by decide) (by decide) (Or.inl ⟨ob_913, kk_914, b915, b916, rfl, N952, K955, (by omega), F920, F921, y954⟩)
  · skip
    have N956 := Fr.app N431 N927
    have z957 := K928.1
    show own_G p e below (T905.setTop (mkF m 24 #[rv ob_82, rv ob_6] [(.ref ob_923)])) _
    have y958 : @LT.lt Nat instLTNat ob_923 h906.size := by omega
    have K959 : Keep h0 h906 [] := ((Keep.refl h0 []).trans K928 all0)
    exact own_retA X909 hx Bd.notSynchronized Bd.returns rfl rfl (hb hby dd8_24) e910 (by decide) (by decide) (Or.inr (Or.inl ⟨ob_923, kk_924, b925, b926, rfl, N956, K959, (by omega), F930, F931, y958⟩))
  · skip
    have N960 := Fr.app N431 N937
    have z961 := K938.1
    show own_G p e below (T905.setTop (mkF m 24 #[rv ob_82, rv ob_6] [(.ref ob_933)])) _
    have y962 : @LT.lt Nat instLTNat ob_933 h906.size := by omega
    have K963 : Keep h0 h906 [] := ((Keep.refl h0 []).trans K938 all0)
    exact own_retA X909 hx Bd.notSynchronized Bd.returns rfl rfl (hb hby dd8_24) e910 (by decide) (by decide) (Or.inr (Or.inr (Or.inl ⟨ob_933, kk_934, b935, b936, rfl, N960, K963, (by omega), F940, F941, y962⟩)))
  · skip
    have N964 := Fr.app N431 N946
    have z965 := K947.1
    show own_G p e below (T905.setTop (mkF m 24 #[rv ob_82, rv ob_6] [(.ref ob_943)])) _
    have y966 : @LT.lt Nat instLTNat ob_943 h906.size := by omega
    have K967 : Keep h0 h906 [] := ((Keep.refl h0 []).trans K947 all0)
    exact own_retA X909 hx Bd.notSynchronized Bd.returns rfl rfl (hb hby dd8_24) e910 (by decide) (by decide) (Or.inr (Or.inr (Or.inr (⟨ob_943, b944, b945, rfl, N964, K967, (by omega), F949, F950, y966⟩))))
theorem own_pd16 : parseMethodDescriptor "(Ljava/nio/charset/Charset;)[B" = some ⟨[(.object "java/nio/charset/Charset")], (some (.array .byte))⟩ := by decide +kernel
theorem dd7_4 : decode prog_11_method_4_code 4 = .ok (.invokevirtual 45, 3) := by decide +kernel
theorem dd7_7 : decode prog_11_method_4_code 7 = .ok (.astore_n 2, 1) := by decide +kernel
theorem dd7_8 : decode prog_11_method_4_code 8 = .ok (.aload_n 2, 1) := by decide +kernel
theorem dd7_9 : decode prog_11_method_4_code 9 = .ok (.arraylength, 1) := by decide +kernel
theorem dd7_10 : decode prog_11_method_4_code 10 = .ok (.iconst 1, 1) := by decide +kernel
theorem dd7_11 : decode prog_11_method_4_code 11 = .ok (.iadd, 1) := by decide +kernel
theorem dd7_12 : decode prog_11_method_4_code 12 = .ok (.newarray .byte, 2) := by decide +kernel
theorem dd7_14 : decode prog_11_method_4_code 14 = .ok (.astore_n 3, 1) := by decide +kernel
theorem dd7_15 : decode prog_11_method_4_code 15 = .ok (.aload_n 3, 1) := by decide +kernel
theorem dd7_16 : decode prog_11_method_4_code 16 = .ok (.iconst 0, 1) := by decide +kernel
theorem dd7_17 : decode prog_11_method_4_code 17 = .ok (.aload_n 0, 1) := by decide +kernel
theorem dd7_18 : decode prog_11_method_4_code 18 = .ok (.getfield 35, 3) := by decide +kernel
theorem dd7_21 : decode prog_11_method_4_code 21 = .ok (.bastore, 1) := by decide +kernel
theorem dd7_22 : decode prog_11_method_4_code 22 = .ok (.aload_n 2, 1) := by decide +kernel
theorem dd7_23 : decode prog_11_method_4_code 23 = .ok (.iconst 0, 1) := by decide +kernel
theorem dd7_24 : decode prog_11_method_4_code 24 = .ok (.aload_n 3, 1) := by decide +kernel
theorem dd7_25 : decode prog_11_method_4_code 25 = .ok (.iconst 1, 1) := by decide +kernel
theorem dd7_26 : decode prog_11_method_4_code 26 = .ok (.aload_n 2, 1) := by decide +kernel
theorem dd7_27 : decode prog_11_method_4_code 27 = .ok (.arraylength, 1) := by decide +kernel
theorem dd7_28 : decode prog_11_method_4_code 28 = .ok (.invokestatic 51, 3) := by decide +kernel
theorem dd7_31 : decode prog_11_method_4_code 31 = .ok (.aload_n 3, 1) := by decide +kernel
theorem dd7_32 : decode prog_11_method_4_code 32 = .ok (.areturn, 1) := by decide +kernel
def own_Q9 (Z : State) (ob_13 : Nat) (ob_82 : Nat) (ob_6 : Nat) (in_4 : Int32) (ob_299 : Nat) (kk_300 : ClassId) (in_41 : Int32) (in_57 : Int32) (in_15 : Int32) (h0 : Heap) (n0 : Nat) (v : Option Value) (h : Heap) (L : List Loc) : Prop := (∃ ob_1028 : Nat, ∃ kk_1026 : ClassId, ((in_41.toInt8.toInt32) < 0) ∧ ((in_57.toInt8.toInt32) < 0) ∧ v = some (.ref ob_1028) ∧ Fr n0 L ∧ Keep h0 h [] ∧ h0.size ≤ ob_1028 ∧ Arv Z h ob_1028 kk_1026 .byte 5 [(.int in_15), (.int (((192 : Int32) ||| (((in_41.toInt8.toInt32) &&& 255) >>> ((6 : Int32) &&& 31))).toInt8.toInt32)), (.int (((128 : Int32) ||| ((in_41.toInt8.toInt32) &&& 63)).toInt8.toInt32)), (.int (((192 : Int32) ||| (((in_57.toInt8.toInt32) &&& 255) >>> ((6 : Int32) &&& 31))).toInt8.toInt32)), (.int (((128 : Int32) ||| ((in_57.toInt8.toInt32) &&& 63)).toInt8.toInt32))] (.int 0) ∧ Exa Z h ob_1028 "[B" ∧ @LT.lt Nat instLTNat ob_1028 h.size) ∨ (∃ ob_1083 : Nat, ∃ kk_1081 : ClassId, ((in_41.toInt8.toInt32) < 0) ∧ ¬ ((in_57.toInt8.toInt32) < 0) ∧ v = some (.ref ob_1083) ∧ Fr n0 L ∧ Keep h0 h [] ∧ h0.size ≤ ob_1083 ∧ Arv Z h ob_1083 kk_1081 .byte 4 [(.int in_15), (.int (((192 : Int32) ||| (((in_41.toInt8.toInt32) &&& 255) >>> ((6 : Int32) &&& 31))).toInt8.toInt32)), (.int (((128 : Int32) ||| ((in_41.toInt8.toInt32) &&& 63)).toInt8.toInt32)), (.int (in_57.toInt8.toInt32))] (.int 0) ∧ Exa Z h ob_1083 "[B" ∧ @LT.lt Nat instLTNat ob_1083 h.size) ∨ (∃ ob_1136 : Nat, ∃ kk_1134 : ClassId, ¬ ((in_41.toInt8.toInt32) < 0) ∧ ((in_57.toInt8.toInt32) < 0) ∧ v = some (.ref ob_1136) ∧ Fr n0 L ∧ Keep h0 h [] ∧ h0.size ≤ ob_1136 ∧ Arv Z h ob_1136 kk_1134 .byte 4 [(.int in_15), (.int (in_41.toInt8.toInt32)), (.int (((192 : Int32) ||| (((in_57.toInt8.toInt32) &&& 255) >>> ((6 : Int32) &&& 31))).toInt8.toInt32)), (.int (((128 : Int32) ||| ((in_57.toInt8.toInt32) &&& 63)).toInt8.toInt32))] (.int 0) ∧ Exa Z h ob_1136 "[B" ∧ @LT.lt Nat instLTNat ob_1136 h.size) ∨ (∃ ob_1189 : Nat, ∃ kk_1187 : ClassId, ¬ ((in_41.toInt8.toInt32) < 0) ∧ ¬ ((in_57.toInt8.toInt32) < 0) ∧ v = some (.ref ob_1189) ∧ Fr n0 L ∧ Keep h0 h [] ∧ h0.size ≤ ob_1189 ∧ Arv Z h ob_1189 kk_1187 .byte 3 [(.int in_15), (.int (in_41.toInt8.toInt32)), (.int (in_57.toInt8.toInt32))] (.int 0) ∧ Exa Z h ob_1189 "[B" ∧ @LT.lt Nat instLTNat ob_1189 h.size)
theorem own_pn17 : plainFor (⟨"com/example/ombor/ombor/db/Keyspace", "key", "(Ljava/lang/String;)[B"⟩ : MethodName) = true := by decide +kernel
set_option maxRecDepth 65536 in
set_option maxHeartbeats 40000000 in
theorem own_rm9 (l : Launch) (Z : State) (a0 : Array Value) (hw : ∀ d ∈ tables_1, d.before a0 Z = true) (ws : List Jvm.Cond) (ob_13 : Nat) (ob_82 : Nat) (ob_6 : Nat) (in_4 : Int32) (ob_299 : Nat) (kk_300 : ClassId) (in_41 : Int32) (in_57 : Int32) (in_15 : Int32) (h0 : Heap) (n0 : Nat) (Z0 : n0 ≤ h0.size) (O0 : Old Z n0 h0) (I393 : Sta Z Z.heap "java/nio/charset/StandardCharsets" "UTF_8" "Ljava/nio/charset/Charset;" (.ref ob_6)) (I399 : Sta Z Z.heap "java/lang/String" "COMPACT_STRINGS" "Z" (.int in_4)) (I407 : ¬ (in_4 = 0)) (I411 : Fld Z h0 ob_82 "java/lang/String" "coder" "B" (.int 0)) (I427 : Exa Z h0 ob_82 "java/lang/String") (I434 : Fld Z h0 ob_82 "java/lang/String" "value" "[B" (.ref ob_299)) (I441 : Sta Z Z.heap "sun/nio/cs/UTF_8" "INSTANCE" "Lsun/nio/cs/UTF_8;" (.ref ob_6)) (I450 : Arv Z h0 ob_299 kk_300 .byte 2 [(.int (in_41.toInt8.toInt32)), (.int (in_57.toInt8.toInt32))] (.int 0)) (I574 : @LT.lt Nat instLTNat ob_299 h0.size) (I820 : Exa Z h0 ob_299 "[B") (I1032 : Fld Z Z.heap ob_13 "com/example/ombor/ombor/db/Keyspace" "prefix" "B" (.int in_15)) (I1047 : nar .byte in_15 = in_15) :
    own_Met l Z h0 (⟨"com/example/ombor/ombor/db/Keyspace", "key", "(Ljava/lang/String;)[B"⟩ : MethodName) prog_11_method_4_code 4 (Option.some (FieldType.array FieldType.byte)) ws ({ frames := 5, cells := 3, slots := 12, locals := 79 } : Room) #[(.ref ob_13), (.ref ob_82)] (own_Q9 Z ob_13 ob_82 ob_6 in_4 ob_299 kk_300 in_41 in_57 in_15 h0 n0) 3 12 := by
  refine MetFree.of_bodySF own_pn17 hisR ?_
  intro p e s m args below meth c s₁ Bd hml0 hP hK
  obtain ⟨rfl, hZ, hh⟩ := hP
  have hx := Bd.exec
  have hby := Bd.bytes
  have hml : c.maxLocals = 4 := hml0
  have hown : s.vm.findClass "com/example/ombor/ombor/db/Keyspace" = some m.cls := findClass_of_methodNamed Bd.named
  have hnm := (name_of_methodNamed Bd.named Bd.method).1
  have X0 : Stand p l e ({ frames := 5, cells := 3, slots := 12, locals := 79 } : Room) s m #[(.ref ob_13), (.ref ob_82)] below meth c s₁ [] 0 0 := Stand.of_body Bd
  have e0 : s₁.heap = h0 := by rw [← hh, Bd.state]; rfl
  have N0 := Fr.nil n0
  show own_G p e below (s₁.setTop (entryFrame m #[(.ref ob_13), (.ref ob_82)] 4)) (own_P s (own_Q9 Z ob_13 ob_82 ob_6 in_4 ob_299 kk_300 in_41 in_57 in_15 h0 n0) 3 12)
  refine own_cast (own_ef7 m ob_13 ob_82) ?_
  show own_G p e below (s₁.setTop (mkF m 0 #[rv ob_13, rv ob_82, .unset, .unset] [])) _
  refine oS (fun _ => XS.aloadN X0.here hx rfl (hb hby dd7_0) rfl rfl) ?_
  have F394 : Sta Z h0 "java/nio/charset/StandardCharsets" "UTF_8" "Ljava/nio/charset/Charset;" (.ref ob_6) := Sta.ext O0.2 I393
  obtain ⟨T395, X396, e397, s398⟩ := getS X0 hx hZ hown (host := "") (oW hw 50 rfl) Via.refl e0 F394 (g := (mkF m 1 #[rv ob_13, rv ob_82, .unset, .unset] [(.ref ob_82)])) rfl (hb hby dd7_1)
  refine oS s398 ?_
  show own_G p e below (T395.setTop (mkF m 4 #[rv ob_13, rv ob_82, .unset, .unset] [(.ref ob_6), (.ref ob_82)])) _
  have y575 : @LT.lt Nat instLTNat ob_299 h0.size := by omega
  obtain ⟨T968, h969, v970, L971, X972, e973, q974, s975⟩ := own_callV X396 hx hZ hown e397 (y := (⟨"java/lang/String", "getBytes", "(Ljava/nio/charset/Charset;)[B"⟩ : MethodName)) (z := (⟨"java/lang/String", "getBytes", "(Ljava/nio/charset/Charset;)[B"⟩ : MethodName)) (C := "java/lang/String") (b := ob_82) (oW hw 52 rfl) (oW hw 53 rfl) (notFace_of_selects (args := #[]) (mvT hZ (oW hw 55 rfl))) (oW hw 55 rfl) (oW hw 54 rfl) (oW hw 6 rfl) (oW hw 56 rfl) (by decide) I427 (W := 0) (own_rm10 l Z a0 hw [] ob_82 ob_6 in_4 ob_299 kk_300 in_41 in_57 h0 n0 Z0 O0 I399 I407 I411 I427 I434 I441 I450 y575 I820) (by decide) (by decide) (by decide) (by decide) (g := (mkF m 4 #[rv ob_13, rv ob_82, .unset, .unset] [(.ref ob_6), (.ref ob_82)])) rfl (by rw [hml]; rfl) (argsL := [(.ref ob_6)]) (rest := []) rfl (lenOf own_pd16 rfl) rfl (by show 2 * 0 + _ ≤ _; exact Nat.le_of_eq rfl) (hb hby dd7_4)
  refine oS s975 ?_
  rcases q974 with ⟨ob_976, kk_977, b978, b979, rfl, N980, K981, F982, F983, F984, F985⟩ | ⟨ob_986, kk_987, b988, b989, rfl, N990, K991, F992, F993, F994, F995⟩ | ⟨ob_996, kk_997, b998, b999, rfl, N1000, K1001, F1002, F1003, F1004, F1005⟩ | ⟨ob_1006, b1007, b1008, rfl, N1009, K1010, F1011, F1012, F1013, F1014⟩
  · skip
    have N1015 := Fr.app N0 N980
    have z1016 := K981.1
    show own_G p e below (T968.setTop (mkF m 7 #[rv ob_13, rv ob_82, .unset, .unset] [(.ref ob_976)])) _
    refine oS (fun _ => XS.astoreN X972.here hx rfl (hb hby dd7_7) rfl rfl (l' := #[rv ob_13, rv ob_82, rv ob_976, .unset]) rfl) ?_
    refine oS (fun _ => XS.aloadN X972.here hx rfl (hb hby dd7_8) rfl rfl) ?_
    refine oS (own_len X972 hx hZ e973 F983 rfl rfl (hb hby dd7_9)) ?_
    show own_G p e below (T968.setTop (mkF m 10 #[rv ob_13, rv ob_82, rv ob_976, .unset] [(.int 4)])) _
    refine oS (fun _ => XS.iconst X972.here hx rfl (hb hby dd7_10) ) ?_
    refine oS (fun _ => XS.iadd X972.here hx rfl (hb hby dd7_11) rfl) ?_
    obtain ⟨T1017, h1018, kk_1026, X1020, e1021, E1022, A1023, B1027, s1024⟩ := own_newP X972 hx hZ (aty := .byte) (oW hw 22 rfl) e973 (nm := "[B") rfl (g := (mkF m 12 #[rv ob_13, rv ob_82, rv ob_976, .unset] [(.int 5)])) rfl (hb hby dd7_12) (n := 5) (rest := []) rfl (by decide) (cap := 5) (by decide) (by decide) (by decide) (by decide)
    obtain ⟨ob_1028, g1029⟩ : ∃ z, z = h969.size := ⟨_, rfl⟩
    rw [← g1029] at A1023 B1027 s1024
    have F1030 : Arv Z h1018 ob_1028 kk_1026 .byte 5 [(.int 0), (.int 0), (.int 0), (.int 0), (.int 0)] (.int 0) := own_newA A1023 (by decide) rfl rfl
    have z1031 := E1022.1
    have y1025 : @LT.lt Nat instLTNat ob_1028 h1018.size := F1030.lt
    refine oS s1024 ?_
    show own_G p e below (T1017.setTop (mkF m 14 #[rv ob_13, rv ob_82, rv ob_976, .unset] [(.ref ob_1028)])) _
    refine oS (fun _ => XS.astoreN X1020.here hx rfl (hb hby dd7_14) rfl rfl (l' := #[rv ob_13, rv ob_82, rv ob_976, rv ob_1028]) rfl) ?_
    refine oS (fun _ => XS.aloadN X1020.here hx rfl (hb hby dd7_15) rfl rfl) ?_
    refine oS (fun _ => XS.iconst X1020.here hx rfl (hb hby dd7_16) ) ?_
    refine oS (fun _ => XS.aloadN X1020.here hx rfl (hb hby dd7_17) rfl rfl) ?_
    show own_G p e below (T1017.setTop (mkF m 18 #[rv ob_13, rv ob_82, rv ob_976, rv ob_1028] [(.ref ob_13), (.int 0), (.ref ob_1028)])) _
    have O1034 : Old Z n0 h969 := O0.keep K981 all0
    have O1035 : Old Z n0 h1018 := O1034.ext E1022
    have F1033 : Fld Z h1018 ob_13 "com/example/ombor/ombor/db/Keyspace" "prefix" "B" (.int in_15) := Fld.ext O1035.2 I1032
    obtain ⟨T1036, X1037, e1038, s1039⟩ := getF X1020 hx hZ hown (host := "") (Or.inl (oW hw 38 rfl)) Via.refl e1021 F1033 (g := (mkF m 18 #[rv ob_13, rv ob_82, rv ob_976, rv ob_1028] [(.ref ob_13), (.int 0), (.ref ob_1028)])) rfl rfl (hb hby dd7_18)
    refine oS s1039 ?_
    show own_G p e below (T1036.setTop (mkF m 21 #[rv ob_13, rv ob_82, rv ob_976, rv ob_1028] [(.int in_15), (.int 0), (.ref ob_1028)])) _
    obtain ⟨T1040, h1041, X1042, e1043, W1044, A1045, s1046⟩ := own_stB X1037 hx hZ e1038 F1030 (x' := in_15) 0 I1047 rfl (by decide) (by simp) (g := (mkF m 21 #[rv ob_13, rv ob_82, rv ob_976, rv ob_1028] [(.int in_15), (.int 0), (.ref ob_1028)])) rfl (rest := []) rfl (hb hby dd7_21)
    have N1049 : n0 ≤ ob_1028 := by omega
    have N1048 := Fr.snoc X1042 N1015 N1049
    have z1050 := W1044.size
    have F1051 : Arv Z h1041 ob_1028 kk_1026 .byte 5 [(.int in_15), (.int 0), (.int 0), (.int 0), (.int 0)] (.int 0) := A1045
    refine oS s1046 ?_
    show own_G p e below (T1040.setTop (mkF m 22 #[rv ob_13, rv ob_82, rv ob_976, rv ob_1028] [])) _
    refine oS (fun _ => XS.aloadN X1042.here hx rfl (hb hby dd7_22) rfl rfl) ?_
    refine oS (fun _ => XS.iconst X1042.here hx rfl (hb hby dd7_23) ) ?_
    refine oS (fun _ => XS.aloadN X1042.here hx rfl (hb hby dd7_24) rfl rfl) ?_
    refine oS (fun _ => XS.iconst X1042.here hx rfl (hb hby dd7_25) ) ?_
    show own_G p e below (T1040.setTop (mkF m 26 #[rv ob_13, rv ob_82, rv ob_976, rv ob_1028] [(.int 1), (.ref ob_1028), (.int 0), (.ref ob_976)])) _
    refine oS (fun _ => XS.aloadN X1042.here hx rfl (hb hby dd7_26) rfl rfl) ?_
    have F1052 : Arv Z h1018 ob_976 kk_977 .byte 4 [(.int (((192 : Int32) ||| (((in_41.toInt8.toInt32) &&& 255) >>> ((6 : Int32) &&& 31))).toInt8.toInt32)), (.int (((128 : Int32) ||| ((in_41.toInt8.toInt32) &&& 63)).toInt8.toInt32)), (.int (((192 : Int32) ||| (((in_57.toInt8.toInt32) &&& 255) >>> ((6 : Int32) &&& 31))).toInt8.toInt32)), (.int (((128 : Int32) ||| ((in_57.toInt8.toInt32) &&& 63)).toInt8.toInt32))] (.int 0) := F983.ext E1022
    have N1053 : @Ne Nat ob_976 ob_1028 := by omega
    have F1054 : Arv Z h1041 ob_976 kk_977 .byte 4 [(.int (((192 : Int32) ||| (((in_41.toInt8.toInt32) &&& 255) >>> ((6 : Int32) &&& 31))).toInt8.toInt32)), (.int (((128 : Int32) ||| ((in_41.toInt8.toInt32) &&& 63)).toInt8.toInt32)), (.int (((192 : Int32) ||| (((in_57.toInt8.toInt32) &&& 255) >>> ((6 : Int32) &&& 31))).toInt8.toInt32)), (.int (((128 : Int32) ||| ((in_57.toInt8.toInt32) &&& 63)).toInt8.toInt32))] (.int 0) := F1052.other W1044 N1053
    refine oS (own_len X1042 hx hZ e1043 F1054 rfl rfl (hb hby dd7_27)) ?_
    show own_G p e below (T1040.setTop (mkF m 28 #[rv ob_13, rv ob_82, rv ob_976, rv ob_1028] [(.int 4), (.int 1), (.ref ob_1028), (.int 0), (.ref ob_976)])) _
    obtain ⟨T1055, h1056, L1057, X1058, e1059, N1060, K1061, A1062, s1063⟩ := cpA X1042 hx hZ hown (oW hw 86 rfl) (oW hw 89 rfl) (oW hw 87 rfl) (oW hw 88 rfl) e1043 F1054 F1051 (us := [(.int (((192 : Int32) ||| (((in_41.toInt8.toInt32) &&& 255) >>> ((6 : Int32) &&& 31))).toInt8.toInt32)), (.int (((128 : Int32) ||| ((in_41.toInt8.toInt32) &&& 63)).toInt8.toInt32)), (.int (((192 : Int32) ||| (((in_57.toInt8.toInt32) &&& 255) >>> ((6 : Int32) &&& 31))).toInt8.toInt32)), (.int (((128 : Int32) ||| ((in_57.toInt8.toInt32) &&& 63)).toInt8.toInt32))]) (Or.inl ⟨rfl, rfl⟩) (by decide) (by decide) (by decide) (by decide) (by decide) rfl (Nat.le_of_ble_eq_true rfl) N1048 N1049 (g := (mkF m 28 #[rv ob_13, rv ob_82, rv ob_976, rv ob_1028] [(.int 4), (.int 1), (.ref ob_1028), (.int 0), (.ref ob_976)])) rfl (by rw [hml]; rfl) (rest := []) rfl (hb hby dd7_28) (by decide) (W := 0) (by show 2 * 0 + _ ≤ _; exact Nat.le_of_eq rfl) (by decide)
    have z1064 := K1061.1
    have F1065 : Arv Z h1056 ob_1028 kk_1026 .byte 5 [(.int in_15), (.int (((192 : Int32) ||| (((in_41.toInt8.toInt32) &&& 255) >>> ((6 : Int32) &&& 31))).toInt8.toInt32)), (.int (((128 : Int32) ||| ((in_41.toInt8.toInt32) &&& 63)).toInt8.toInt32)), (.int (((192 : Int32) ||| (((in_57.toInt8.toInt32) &&& 255) >>> ((6 : Int32) &&& 31))).toInt8.toInt32)), (.int (((128 : Int32) ||| ((in_57.toInt8.toInt32) &&& 63)).toInt8.toInt32))] (.int 0) := A1062
    refine oS s1063 ?_
    show own_G p e below (T1055.setTop (mkF m 31 #[rv ob_13, rv ob_82, rv ob_976, rv ob_1028] [])) _
    refine oS (fun _ => XS.aloadN X1058.here hx rfl (hb hby dd7_31) rfl rfl) ?_
    have F1066 : Exa Z h1041 ob_1028 "[B" := Exa.wr W1044 B1027
    have F1067 : Exa Z h1056 ob_1028 "[B" := F1066.keep K1061
    have y1068 : @LT.lt Nat instLTNat ob_1028 h1056.size := by omega
    have K1069 : Keep h0 h1056 [] := (((((Keep.refl h0 []).trans K981 all0).ext E1022).wr W1044 (Or.inr (by omega))).trans K1061 (allS (Or.inr (by omega)) all0))
    exact own_retA X1058 hx Bd.notSynchronized Bd.returns rfl rfl (hb hby dd7_32) e1059 (by decide) (by decide) (Or.inl ⟨ob_1028, kk_1026, b978, b979, rfl, N1060, K1069, (by omega), F1065, F1067, y1068⟩)
  · skip
    have N1070 := Fr.app N0 N990
    have z1071 := K991.1
    show own_G p e below (T968.setTop (mkF m 7 #[rv ob_13, rv ob_82, .unset, .unset] [(.ref ob_986)])) _
    refine oS (fun _ => XS.astoreN X972.here hx rfl (hb hby dd7_7) rfl rfl (l' := #[rv ob_13, rv ob_82, rv ob_986, .unset]) rfl) ?_
    refine oS (fun _ => XS.aloadN X972.here hx rfl (hb hby dd7_8) rfl rfl) ?_
    refine oS (own_len X972 hx hZ e973 F993 rfl rfl (hb hby dd7_9)) ?_
    show own_G p e below (T968.setTop (mkF m 10 #[rv ob_13, rv ob_82, rv ob_986, .unset] [(.int 3)])) _
    refine oS (fun _ => XS.iconst X972.here hx rfl (hb hby dd7_10) ) ?_
    refine oS (fun _ => XS.iadd X972.here hx rfl (hb hby dd7_11) rfl) ?_
    obtain ⟨T1072, h1073, kk_1081, X1075, e1076, E1077, A1078, B1082, s1079⟩ := own_newP X972 hx hZ (aty := .byte) (oW hw 22 rfl) e973 (nm := "[B") rfl (g := (mkF m 12 #[rv ob_13, rv ob_82, rv ob_986, .unset] [(.int 4)])) rfl (hb hby dd7_12) (n := 4) (rest := []) rfl (by decide) (cap := 4) (by decide) (by decide) (by decide) (by decide)
    obtain ⟨ob_1083, g1084⟩ : ∃ z, z = h969.size := ⟨_, rfl⟩
    rw [← g1084] at A1078 B1082 s1079
    have F1085 : Arv Z h1073 ob_1083 kk_1081 .byte 4 [(.int 0), (.int 0), (.int 0), (.int 0)] (.int 0) := own_newA A1078 (by decide) rfl rfl
    have z1086 := E1077.1
    have y1080 : @LT.lt Nat instLTNat ob_1083 h1073.size := F1085.lt
    refine oS s1079 ?_
    show own_G p e below (T1072.setTop (mkF m 14 #[rv ob_13, rv ob_82, rv ob_986, .unset] [(.ref ob_1083)])) _
    refine oS (fun _ => XS.astoreN X1075.here hx rfl (hb hby dd7_14) rfl rfl (l' := #[rv ob_13, rv ob_82, rv ob_986, rv ob_1083]) rfl) ?_
    refine oS (fun _ => XS.aloadN X1075.here hx rfl (hb hby dd7_15) rfl rfl) ?_
    refine oS (fun _ => XS.iconst X1075.here hx rfl (hb hby dd7_16) ) ?_
    refine oS (fun _ => XS.aloadN X1075.here hx rfl (hb hby dd7_17) rfl rfl) ?_
    show own_G p e below (T1072.setTop (mkF m 18 #[rv ob_13, rv ob_82, rv ob_986, rv ob_1083] [(.ref ob_13), (.int 0), (.ref ob_1083)])) _
    have O1088 : Old Z n0 h969 := O0.keep K991 all0
    have O1089 : Old Z n0 h1073 := O1088.ext E1077
    have F1087 : Fld Z h1073 ob_13 "com/example/ombor/ombor/db/Keyspace" "prefix" "B" (.int in_15) := Fld.ext O1089.2 I1032
    obtain ⟨T1090, X1091, e1092, s1093⟩ := getF X1075 hx hZ hown (host := "") (Or.inl (oW hw 38 rfl)) Via.refl e1076 F1087 (g := (mkF m 18 #[rv ob_13, rv ob_82, rv ob_986, rv ob_1083] [(.ref ob_13), (.int 0), (.ref ob_1083)])) rfl rfl (hb hby dd7_18)
    refine oS s1093 ?_
    show own_G p e below (T1090.setTop (mkF m 21 #[rv ob_13, rv ob_82, rv ob_986, rv ob_1083] [(.int in_15), (.int 0), (.ref ob_1083)])) _
    obtain ⟨T1094, h1095, X1096, e1097, W1098, A1099, s1100⟩ := own_stB X1091 hx hZ e1092 F1085 (x' := in_15) 0 I1047 rfl (by decide) (by simp) (g := (mkF m 21 #[rv ob_13, rv ob_82, rv ob_986, rv ob_1083] [(.int in_15), (.int 0), (.ref ob_1083)])) rfl (rest := []) rfl (hb hby dd7_21)
    have N1102 : n0 ≤ ob_1083 := by omega
    have N1101 := Fr.snoc X1096 N1070 N1102
    have z1103 := W1098.size
    have F1104 : Arv Z h1095 ob_1083 kk_1081 .byte 4 [(.int in_15), (.int 0), (.int 0), (.int 0)] (.int 0) := A1099
    refine oS s1100 ?_
    show own_G p e below (T1094.setTop (mkF m 22 #[rv ob_13, rv ob_82, rv ob_986, rv ob_1083] [])) _
    refine oS (fun _ => XS.aloadN X1096.here hx rfl (hb hby dd7_22) rfl rfl) ?_
    refine oS (fun _ => XS.iconst X1096.here hx rfl (hb hby dd7_23) ) ?_
    refine oS (fun _ => XS.aloadN X1096.here hx rfl (hb hby dd7_24) rfl rfl) ?_
    refine oS (fun _ => XS.iconst X1096.here hx rfl (hb hby dd7_25) ) ?_
    show own_G p e below (T1094.setTop (mkF m 26 #[rv ob_13, rv ob_82, rv ob_986, rv ob_1083] [(.int 1), (.ref ob_1083), (.int 0), (.ref ob_986)])) _
    refine oS (fun _ => XS.aloadN X1096.here hx rfl (hb hby dd7_26) rfl rfl) ?_
    have F1105 : Arv Z h1073 ob_986 kk_987 .byte 3 [(.int (((192 : Int32) ||| (((in_41.toInt8.toInt32) &&& 255) >>> ((6 : Int32) &&& 31))).toInt8.toInt32)), (.int (((128 : Int32) ||| ((in_41.toInt8.toInt32) &&& 63)).toInt8.toInt32)), (.int (in_57.toInt8.toInt32))] (.int 0) := F993.ext E1077
    have N1106 : @Ne Nat ob_986 ob_1083 := by omega
    have F1107 : Arv Z h1095 ob_986 kk_987 .byte 3 [(.int (((192 : Int32) ||| (((in_41.toInt8.toInt32) &&& 255) >>> ((6 : Int32) &&& 31))).toInt8.toInt32)), (.int (((128 : Int32) ||| ((in_41.toInt8.toInt32) &&& 63)).toInt8.toInt32)), (.int (in_57.toInt8.toInt32))] (.int 0) := F1105.other W1098 N1106
    refine oS (own_len X1096 hx hZ e1097 F1107 rfl rfl (hb hby dd7_27)) ?_
    show own_G p e below (T1094.setTop (mkF m 28 #[rv ob_13, rv ob_82, rv ob_986, rv ob_1083] [(.int 3), (.int 1), (.ref ob_1083), (.int 0), (.ref ob_986)])) _
    obtain ⟨T1108, h1109, L1110, X1111, e1112, N1113, K1114, A1115, s1116⟩ := cpA X1096 hx hZ hown (oW hw 86 rfl) (oW hw 89 rfl) (oW hw 87 rfl) (oW hw 88 rfl) e1097 F1107 F1104 (us := [(.int (((192 : Int32) ||| (((in_41.toInt8.toInt32) &&& 255) >>> ((6 : Int32) &&& 31))).toInt8.toInt32)), (.int (((128 : Int32) ||| ((in_41.toInt8.toInt32) &&& 63)).toInt8.toInt32)), (.int (in_57.toInt8.toInt32))]) (Or.inl ⟨rfl, rfl⟩) (by decide) (by decide) (by decide) (by decide) (by decide) rfl (Nat.le_of_ble_eq_true rfl) N1101 N1102 (g := (mkF m 28 #[rv ob_13, rv ob_82, rv ob_986, rv ob_1083] [(.int 3), (.int 1), (.ref ob_1083), (.int 0), (.ref ob_986)])) rfl (by rw [hml]; rfl) (rest := []) rfl (hb hby dd7_28) (by decide) (W := 0) (by show 2 * 0 + _ ≤ _; exact Nat.le_of_eq rfl) (by decide)
    have z1117 := K1114.1
    have F1118 : Arv Z h1109 ob_1083 kk_1081 .byte 4 [(.int in_15), (.int (((192 : Int32) ||| (((in_41.toInt8.toInt32) &&& 255) >>> ((6 : Int32) &&& 31))).toInt8.toInt32)), (.int (((128 : Int32) ||| ((in_41.toInt8.toInt32) &&& 63)).toInt8.toInt32)), (.int (in_57.toInt8.toInt32))] (.int 0) := A1115
    refine oS s1116 ?_
    show own_G p e below (T1108.setTop (mkF m 31 #[rv ob_13, rv ob_82, rv ob_986, rv ob_1083] [])) _
    refine oS (fun _ => XS.aloadN X1111.here hx rfl (hb hby dd7_31) rfl rfl) ?_
    have F1119 : Exa Z h1095 ob_1083 "[B" := Exa.wr W1098 B1082
    have F1120 : Exa Z h1109 ob_1083 "[B" := F1119.keep K1114
    have y1121 : @LT.lt Nat instLTNat ob_1083 h1109.size := by omega
    have K1122 : Keep h0 h1109 [] := (((((Keep.refl h0 []).trans K991 all0).ext E1077).wr W1098 (Or.inr (by omega))).trans K1114 (allS (Or.inr (by omega)) all0))
    exact own_retA X1111 hx Bd.notSynchronized Bd.returns rfl rfl (hb hby dd7_32) e1112 (by decide) (by decide) (Or.inr (Or.inl ⟨ob_1083, kk_1081, b988, b989, rfl, N1113, K1122, (by omega), F1118, F1120, y1121⟩))
  · skip
    have N1123 := Fr.app N0 N1000
    have z1124 := K1001.1
    show own_G p e below (T968.setTop (mkF m 7 #[rv ob_13, rv ob_82, .unset, .unset] [(.ref ob_996)])) _
    refine oS (fun _ => XS.astoreN X972.here hx rfl (hb hby dd7_7) rfl rfl (l' := #[rv ob_13, rv ob_82, rv ob_996, .unset]) rfl) ?_
    refine oS (fun _ => XS.aloadN X972.here hx rfl (hb hby dd7_8) rfl rfl) ?_
    refine oS (own_len X972 hx hZ e973 F1003 rfl rfl (hb hby dd7_9)) ?_
    show own_G p e below (T968.setTop (mkF m 10 #[rv ob_13, rv ob_82, rv ob_996, .unset] [(.int 3)])) _
    refine oS (fun _ => XS.iconst X972.here hx rfl (hb hby dd7_10) ) ?_
    refine oS (fun _ => XS.iadd X972.here hx rfl (hb hby dd7_11) rfl) ?_
    obtain ⟨T1125, h1126, kk_1134, X1128, e1129, E1130, A1131, B1135, s1132⟩ := own_newP X972 hx hZ (aty := .byte) (oW hw 22 rfl) e973 (nm := "[B") rfl (g := (mkF m 12 #[rv ob_13, rv ob_82, rv ob_996, .unset] [(.int 4)])) rfl (hb hby dd7_12) (n := 4) (rest := []) rfl (by decide) (cap := 4) (by decide) (by decide) (by decide) (by decide)
    obtain ⟨ob_1136, g1137⟩ : ∃ z, z = h969.size := ⟨_, rfl⟩
    rw [← g1137] at A1131 B1135 s1132
    have F1138 : Arv Z h1126 ob_1136 kk_1134 .byte 4 [(.int 0), (.int 0), (.int 0), (.int 0)] (.int 0) := own_newA A1131 (by decide) rfl rfl
    have z1139 := E1130.1
    have y1133 : @LT.lt Nat instLTNat ob_1136 h1126.size := F1138.lt
    refine oS s1132 ?_
    show own_G p e below (T1125.setTop (mkF m 14 #[rv ob_13, rv ob_82, rv ob_996, .unset] [(.ref ob_1136)])) _
    refine oS (fun _ => XS.astoreN X1128.here hx rfl (hb hby dd7_14) rfl rfl (l' := #[rv ob_13, rv ob_82, rv ob_996, rv ob_1136]) rfl) ?_
    refine oS (fun _ => XS.aloadN X1128.here hx rfl (hb hby dd7_15) rfl rfl) ?_
    refine oS (fun _ => XS.iconst X1128.here hx rfl (hb hby dd7_16) ) ?_
    refine oS (fun _ => XS.aloadN X1128.here hx rfl (hb hby dd7_17) rfl rfl) ?_
    show own_G p e below (T1125.setTop (mkF m 18 #[rv ob_13, rv ob_82, rv ob_996, rv ob_1136] [(.ref ob_13), (.int 0), (.ref ob_1136)])) _
    have O1141 : Old Z n0 h969 := O0.keep K1001 all0
    have O1142 : Old Z n0 h1126 := O1141.ext E1130
    have F1140 : Fld Z h1126 ob_13 "com/example/ombor/ombor/db/Keyspace" "prefix" "B" (.int in_15) := Fld.ext O1142.2 I1032
    obtain ⟨T1143, X1144, e1145, s1146⟩ := getF X1128 hx hZ hown (host := "") (Or.inl (oW hw 38 rfl)) Via.refl e1129 F1140 (g := (mkF m 18 #[rv ob_13, rv ob_82, rv ob_996, rv ob_1136] [(.ref ob_13), (.int 0), (.ref ob_1136)])) rfl rfl (hb hby dd7_18)
    refine oS s1146 ?_
    show own_G p e below (T1143.setTop (mkF m 21 #[rv ob_13, rv ob_82, rv ob_996, rv ob_1136] [(.int in_15), (.int 0), (.ref ob_1136)])) _
    obtain ⟨T1147, h1148, X1149, e1150, W1151, A1152, s1153⟩ := own_stB X1144 hx hZ e1145 F1138 (x' := in_15) 0 I1047 rfl (by decide) (by simp) (g := (mkF m 21 #[rv ob_13, rv ob_82, rv ob_996, rv ob_1136] [(.int in_15), (.int 0), (.ref ob_1136)])) rfl (rest := []) rfl (hb hby dd7_21)
    have N1155 : n0 ≤ ob_1136 := by omega
    have N1154 := Fr.snoc X1149 N1123 N1155
    have z1156 := W1151.size
    have F1157 : Arv Z h1148 ob_1136 kk_1134 .byte 4 [(.int in_15), (.int 0), (.int 0), (.int 0)] (.int 0) := A1152
    refine oS s1153 ?_
    show own_G p e below (T1147.setTop (mkF m 22 #[rv ob_13, rv ob_82, rv ob_996, rv ob_1136] [])) _
    refine oS (fun _ => XS.aloadN X1149.here hx rfl (hb hby dd7_22) rfl rfl) ?_
    refine oS (fun _ => XS.iconst X1149.here hx rfl (hb hby dd7_23) ) ?_
    refine oS (fun _ => XS.aloadN X1149.here hx rfl (hb hby dd7_24) rfl rfl) ?_
    refine oS (fun _ => XS.iconst X1149.here hx rfl (hb hby dd7_25) ) ?_
    show own_G p e below (T1147.setTop (mkF m 26 #[rv ob_13, rv ob_82, rv ob_996, rv ob_1136] [(.int 1), (.ref ob_1136), (.int 0), (.ref ob_996)])) _
    refine oS (fun _ => XS.aloadN X1149.here hx rfl (hb hby dd7_26) rfl rfl) ?_
    have F1158 : Arv Z h1126 ob_996 kk_997 .byte 3 [(.int (in_41.toInt8.toInt32)), (.int (((192 : Int32) ||| (((in_57.toInt8.toInt32) &&& 255) >>> ((6 : Int32) &&& 31))).toInt8.toInt32)), (.int (((128 : Int32) ||| ((in_57.toInt8.toInt32) &&& 63)).toInt8.toInt32))] (.int 0) := F1003.ext E1130
    have N1159 : @Ne Nat ob_996 ob_1136 := by omega
    have F1160 : Arv Z h1148 ob_996 kk_997 .byte 3 [(.int (in_41.toInt8.toInt32)), (.int (((192 : Int32) ||| (((in_57.toInt8.toInt32) &&& 255) >>> ((6 : Int32) &&& 31))).toInt8.toInt32)), (.int (((128 : Int32) ||| ((in_57.toInt8.toInt32) &&& 63)).toInt8.toInt32))] (.int 0) := F1158.other W1151 N1159
    refine oS (own_len X1149 hx hZ e1150 F1160 rfl rfl (hb hby dd7_27)) ?_
    show own_G p e below (T1147.setTop (mkF m 28 #[rv ob_13, rv ob_82, rv ob_996, rv ob_1136] [(.int 3), (.int 1), (.ref ob_1136), (.int 0), (.ref ob_996)])) _
    obtain ⟨T1161, h1162, L1163, X1164, e1165, N1166, K1167, A1168, s1169⟩ := cpA X1149 hx hZ hown (oW hw 86 rfl) (oW hw 89 rfl) (oW hw 87 rfl) (oW hw 88 rfl) e1150 F1160 F1157 (us := [(.int (in_41.toInt8.toInt32)), (.int (((192 : Int32) ||| (((in_57.toInt8.toInt32) &&& 255) >>> ((6 : Int32) &&& 31))).toInt8.toInt32)), (.int (((128 : Int32) ||| ((in_57.toInt8.toInt32) &&& 63)).toInt8.toInt32))]) (Or.inl ⟨rfl, rfl⟩) (by decide) (by decide) (by decide) (by decide) (by decide) rfl (Nat.le_of_ble_eq_true rfl) N1154 N1155 (g := (mkF m 28 #[rv ob_13, rv ob_82, rv ob_996, rv ob_1136] [(.int 3), (.int 1), (.ref ob_1136), (.int 0), (.ref ob_996)])) rfl (by rw [hml]; rfl) (rest := []) rfl (hb hby dd7_28) (by decide) (W := 0) (by show 2 * 0 + _ ≤ _; exact Nat.le_of_eq rfl) (by decide)
    have z1170 := K1167.1
    have F1171 : Arv Z h1162 ob_1136 kk_1134 .byte 4 [(.int in_15), (.int (in_41.toInt8.toInt32)), (.int (((192 : Int32) ||| (((in_57.toInt8.toInt32) &&& 255) >>> ((6 : Int32) &&& 31))).toInt8.toInt32)), (.int (((128 : Int32) ||| ((in_57.toInt8.toInt32) &&& 63)).toInt8.toInt32))] (.int 0) := A1168
    refine oS s1169 ?_
    show own_G p e below (T1161.setTop (mkF m 31 #[rv ob_13, rv ob_82, rv ob_996, rv ob_1136] [])) _
    refine oS (fun _ => XS.aloadN X1164.here hx rfl (hb hby dd7_31) rfl rfl) ?_
    have F1172 : Exa Z h1148 ob_1136 "[B" := Exa.wr W1151 B1135
    have F1173 : Exa Z h1162 ob_1136 "[B" := F1172.keep K1167
    have y1174 : @LT.lt Nat instLTNat ob_1136 h1162.size := by omega
    have K1175 : Keep h0 h1162 [] := (((((Keep.refl h0 []).trans K1001 all0).ext E1130).wr W1151 (Or.inr (by omega))).trans K1167 (allS (Or.inr (by omega)) all0))
    exact own_retA X1164 hx Bd.notSynchronized Bd.returns rfl rfl (hb hby dd7_32) e1165 (by decide) (by decide) (Or.inr (Or.inr (Or.inl ⟨ob_1136, kk_1134, b998, b999, rfl, N1166, K1175, (by omega), F1171, F1173, y1174⟩)))
  · skip
    have N1176 := Fr.app N0 N1009
    have z1177 := K1010.1
    show own_G p e below (T968.setTop (mkF m 7 #[rv ob_13, rv ob_82, .unset, .unset] [(.ref ob_1006)])) _
    refine oS (fun _ => XS.astoreN X972.here hx rfl (hb hby dd7_7) rfl rfl (l' := #[rv ob_13, rv ob_82, rv ob_1006, .unset]) rfl) ?_
    refine oS (fun _ => XS.aloadN X972.here hx rfl (hb hby dd7_8) rfl rfl) ?_
    refine oS (own_len X972 hx hZ e973 F1012 rfl rfl (hb hby dd7_9)) ?_
    show own_G p e below (T968.setTop (mkF m 10 #[rv ob_13, rv ob_82, rv ob_1006, .unset] [(.int 2)])) _
    refine oS (fun _ => XS.iconst X972.here hx rfl (hb hby dd7_10) ) ?_
    refine oS (fun _ => XS.iadd X972.here hx rfl (hb hby dd7_11) rfl) ?_
    obtain ⟨T1178, h1179, kk_1187, X1181, e1182, E1183, A1184, B1188, s1185⟩ := own_newP X972 hx hZ (aty := .byte) (oW hw 22 rfl) e973 (nm := "[B") rfl (g := (mkF m 12 #[rv ob_13, rv ob_82, rv ob_1006, .unset] [(.int 3)])) rfl (hb hby dd7_12) (n := 3) (rest := []) rfl (by decide) (cap := 3) (by decide) (by decide) (by decide) (by decide)
    obtain ⟨ob_1189, g1190⟩ : ∃ z, z = h969.size := ⟨_, rfl⟩
    rw [← g1190] at A1184 B1188 s1185
    have F1191 : Arv Z h1179 ob_1189 kk_1187 .byte 3 [(.int 0), (.int 0), (.int 0)] (.int 0) := own_newA A1184 (by decide) rfl rfl
    have z1192 := E1183.1
    have y1186 : @LT.lt Nat instLTNat ob_1189 h1179.size := F1191.lt
    refine oS s1185 ?_
    show own_G p e below (T1178.setTop (mkF m 14 #[rv ob_13, rv ob_82, rv ob_1006, .unset] [(.ref ob_1189)])) _
    refine oS (fun _ => XS.astoreN X1181.here hx rfl (hb hby dd7_14) rfl rfl (l' := #[rv ob_13, rv ob_82, rv ob_1006, rv ob_1189]) rfl) ?_
    refine oS (fun _ => XS.aloadN X1181.here hx rfl (hb hby dd7_15) rfl rfl) ?_
    refine oS (fun _ => XS.iconst X1181.here hx rfl (hb hby dd7_16) ) ?_
    refine oS (fun _ => XS.aloadN X1181.here hx rfl (hb hby dd7_17) rfl rfl) ?_
    show own_G p e below (T1178.setTop (mkF m 18 #[rv ob_13, rv ob_82, rv ob_1006, rv ob_1189] [(.ref ob_13), (.int 0), (.ref ob_1189)])) _
    have O1194 : Old Z n0 h969 := O0.keep K1010 all0
    have O1195 : Old Z n0 h1179 := O1194.ext E1183
    have F1193 : Fld Z h1179 ob_13 "com/example/ombor/ombor/db/Keyspace" "prefix" "B" (.int in_15) := Fld.ext O1195.2 I1032
    obtain ⟨T1196, X1197, e1198, s1199⟩ := getF X1181 hx hZ hown (host := "") (Or.inl (oW hw 38 rfl)) Via.refl e1182 F1193 (g := (mkF m 18 #[rv ob_13, rv ob_82, rv ob_1006, rv ob_1189] [(.ref ob_13), (.int 0), (.ref ob_1189)])) rfl rfl (hb hby dd7_18)
    refine oS s1199 ?_
    show own_G p e below (T1196.setTop (mkF m 21 #[rv ob_13, rv ob_82, rv ob_1006, rv ob_1189] [(.int in_15), (.int 0), (.ref ob_1189)])) _
    obtain ⟨T1200, h1201, X1202, e1203, W1204, A1205, s1206⟩ := own_stB X1197 hx hZ e1198 F1191 (x' := in_15) 0 I1047 rfl (by decide) (by simp) (g := (mkF m 21 #[rv ob_13, rv ob_82, rv ob_1006, rv ob_1189] [(.int in_15), (.int 0), (.ref ob_1189)])) rfl (rest := []) rfl (hb hby dd7_21)
    have N1208 : n0 ≤ ob_1189 := by omega
    have N1207 := Fr.snoc X1202 N1176 N1208
    have z1209 := W1204.size
    have F1210 : Arv Z h1201 ob_1189 kk_1187 .byte 3 [(.int in_15), (.int 0), (.int 0)] (.int 0) := A1205
    refine oS s1206 ?_
    show own_G p e below (T1200.setTop (mkF m 22 #[rv ob_13, rv ob_82, rv ob_1006, rv ob_1189] [])) _
    refine oS (fun _ => XS.aloadN X1202.here hx rfl (hb hby dd7_22) rfl rfl) ?_
    refine oS (fun _ => XS.iconst X1202.here hx rfl (hb hby dd7_23) ) ?_
    refine oS (fun _ => XS.aloadN X1202.here hx rfl (hb hby dd7_24) rfl rfl) ?_
    refine oS (fun _ => XS.iconst X1202.here hx rfl (hb hby dd7_25) ) ?_
    show own_G p e below (T1200.setTop (mkF m 26 #[rv ob_13, rv ob_82, rv ob_1006, rv ob_1189] [(.int 1), (.ref ob_1189), (.int 0), (.ref ob_1006)])) _
    refine oS (fun _ => XS.aloadN X1202.here hx rfl (hb hby dd7_26) rfl rfl) ?_
    have F1211 : Arv Z h1179 ob_1006 kk_300 .byte 2 [(.int (in_41.toInt8.toInt32)), (.int (in_57.toInt8.toInt32))] (.int 0) := F1012.ext E1183
    have N1212 : @Ne Nat ob_1006 ob_1189 := by omega
    have F1213 : Arv Z h1201 ob_1006 kk_300 .byte 2 [(.int (in_41.toInt8.toInt32)), (.int (in_57.toInt8.toInt32))] (.int 0) := F1211.other W1204 N1212
    refine oS (own_len X1202 hx hZ e1203 F1213 rfl rfl (hb hby dd7_27)) ?_
    show own_G p e below (T1200.setTop (mkF m 28 #[rv ob_13, rv ob_82, rv ob_1006, rv ob_1189] [(.int 2), (.int 1), (.ref ob_1189), (.int 0), (.ref ob_1006)])) _
    obtain ⟨T1214, h1215, L1216, X1217, e1218, N1219, K1220, A1221, s1222⟩ := cpA X1202 hx hZ hown (oW hw 86 rfl) (oW hw 89 rfl) (oW hw 87 rfl) (oW hw 88 rfl) e1203 F1213 F1210 (us := [(.int (in_41.toInt8.toInt32)), (.int (in_57.toInt8.toInt32))]) (Or.inl ⟨rfl, rfl⟩) (by decide) (by decide) (by decide) (by decide) (by decide) rfl (Nat.le_of_ble_eq_true rfl) N1207 N1208 (g := (mkF m 28 #[rv ob_13, rv ob_82, rv ob_1006, rv ob_1189] [(.int 2), (.int 1), (.ref ob_1189), (.int 0), (.ref ob_1006)])) rfl (by rw [hml]; rfl) (rest := []) rfl (hb hby dd7_28) (by decide) (W := 0) (by show 2 * 0 + _ ≤ _; exact Nat.le_of_eq rfl) (by decide)
    have z1223 := K1220.1
    have F1224 : Arv Z h1215 ob_1189 kk_1187 .byte 3 [(.int in_15), (.int (in_41.toInt8.toInt32)), (.int (in_57.toInt8.toInt32))] (.int 0) := A1221
    refine oS s1222 ?_
    show own_G p e below (T1214.setTop (mkF m 31 #[rv ob_13, rv ob_82, rv ob_1006, rv ob_1189] [])) _
    refine oS (fun _ => XS.aloadN X1217.here hx rfl (hb hby dd7_31) rfl rfl) ?_
    have F1225 : Exa Z h1201 ob_1189 "[B" := Exa.wr W1204 B1188
    have F1226 : Exa Z h1215 ob_1189 "[B" := F1225.keep K1220
    have y1227 : @LT.lt Nat instLTNat ob_1189 h1215.size := by omega
    have K1228 : Keep h0 h1215 [] := (((((Keep.refl h0 []).trans K1010 all0).ext E1183).wr W1204 (Or.inr (by omega))).trans K1220 (allS (Or.inr (by omega)) all0))
    exact own_retA X1217 hx Bd.notSynchronized Bd.returns rfl rfl (hb hby dd7_32) e1218 (by decide) (by decide) (Or.inr (Or.inr (Or.inr (⟨ob_1189, kk_1187, b1007, b1008, rfl, N1219, K1228, (by omega), F1224, F1226, y1227⟩))))
theorem own_pd17 : parseMethodDescriptor "(Ljava/lang/String;)[B" = some ⟨[(.object "java/lang/String")], (some (.array .byte))⟩ := by decide +kernel
def own_Q1 (Z : State) (in_1 : Int32) (in_2 : Int32) (in_3 : Int32) (in_4 : Int32) (ob_6 : Nat) (ob_7 : Nat) (ob_8 : Nat) (ob_10 : Nat) (ob_9 : Nat) (h0 : Heap) (n0 : Nat) (v : Option Value) (h : Heap) (L : List Loc) : Prop := (v = some (.int 1) ∧ Fr n0 L)
theorem own_pn18 : plainFor x = true := by decide +kernel
set_option maxRecDepth 65536 in
set_option maxHeartbeats 40000000 in
theorem own_rm1 (l : Launch) (Z : State) (a0 : Array Value) (hw : ∀ d ∈ tables_1, d.before a0 Z = true) (ws : List Jvm.Cond) (in_1 : Int32) (in_2 : Int32) (in_3 : Int32) (in_4 : Int32) (ob_6 : Nat) (ob_7 : Nat) (ob_8 : Nat) (ob_10 : Nat) (ob_9 : Nat) (h0 : Heap) (n0 : Nat) (Z0 : n0 ≤ h0.size) (O0 : Old Z n0 h0) (I93 : Sta Z Z.heap "java/lang/String" "COMPACT_STRINGS" "Z" (.int in_4)) (I101 : ¬ (in_4 = 0)) (I392 : Sta Z Z.heap "java/nio/charset/StandardCharsets" "UTF_8" "Ljava/nio/charset/Charset;" (.ref ob_6)) (I440 : Sta Z Z.heap "sun/nio/cs/UTF_8" "INSTANCE" "Lsun/nio/cs/UTF_8;" (.ref ob_6)) (I1298 : Sta Z Z.heap "com/example/ombor/ombor/db/Keyspace" "PRODUCTS" "Lcom/example/ombor/ombor/db/Keyspace;" (.ref ob_7)) (I1304 : Exa Z Z.heap ob_7 "com/example/ombor/ombor/db/Keyspace") (I1305 : Fld Z Z.heap ob_7 "com/example/ombor/ombor/db/Keyspace" "prefix" "B" (.int 112)) (I1306 : Sta Z Z.heap "com/example/ombor/ombor/db/Keyspace" "OPERATIONS" "Lcom/example/ombor/ombor/db/Keyspace;" (.ref ob_8)) (I1312 : Exa Z Z.heap ob_8 "com/example/ombor/ombor/db/Keyspace") (I1313 : Fld Z Z.heap ob_8 "com/example/ombor/ombor/db/Keyspace" "prefix" "B" (.int 79)) (I1314 : Sta Z Z.heap "com/example/ombor/ombor/db/Keyspace" "OPERATIONS_WITHOUT_RECEIPT" "Lcom/example/ombor/ombor/db/Keyspace;" (.ref ob_10)) (I1320 : Exa Z Z.heap ob_10 "com/example/ombor/ombor/db/Keyspace") (I1321 : Fld Z Z.heap ob_10 "com/example/ombor/ombor/db/Keyspace" "prefix" "B" (.int 111)) (I1322 : Sta Z Z.heap "com/example/ombor/ombor/db/Keyspace" "ENTITIES" "Lcom/example/ombor/ombor/db/Keyspace;" (.ref ob_9)) (I1328 : Exa Z Z.heap ob_9 "com/example/ombor/ombor/db/Keyspace") (I1329 : Fld Z Z.heap ob_9 "com/example/ombor/ombor/db/Keyspace" "prefix" "B" (.int 101)) :
    own_Met l Z h0 x code maxLocals ret ws room_1 #[(.int in_1), (.int in_2), (.int in_3)] (own_Q1 Z in_1 in_2 in_3 in_4 ob_6 ob_7 ob_8 ob_10 ob_9 h0 n0) 24 128 := by
  refine MetFree.of_bodySF own_pn18 hisR ?_
  intro p e s m args below meth c s₁ Bd hml0 hP hK
  obtain ⟨rfl, hZ, hh⟩ := hP
  have hx := Bd.exec
  have hby := Bd.bytes
  have hml : c.maxLocals = 10 := hml0
  have hown : s.vm.findClass "com/example/ombor/ombor/db/KeyspaceEndPinLaw" = some m.cls := findClass_of_methodNamed Bd.named
  have hnm := (name_of_methodNamed Bd.named Bd.method).1
  have X0 : Stand p l e room_1 s m #[(.int in_1), (.int in_2), (.int in_3)] below meth c s₁ [] 0 0 := Stand.of_body Bd
  have e0 : s₁.heap = h0 := by rw [← hh, Bd.state]; rfl
  have N0 := Fr.nil n0
  show own_G p e below (s₁.setTop (entryFrame m #[(.int in_1), (.int in_2), (.int in_3)] maxLocals)) (own_P s (own_Q1 Z in_1 in_2 in_3 in_4 ob_6 ob_7 ob_8 ob_10 ob_9 h0 n0) 24 128)
  refine own_cast (own_ef0 m in_1 in_2 in_3) ?_
  show own_G p e below (s₁.setTop (mkF m 0 #[iv in_1, iv in_2, iv in_3, .unset, .unset, .unset, .unset, .unset, .unset, .unset] [])) _
  have J16 : ∀ (T17 : State) (X18 : Stand p l e room_1 s m #[(.int in_1), (.int in_2), (.int in_3)] below meth c T17 [] 0 0) (e19 : T17.heap = h0) (in_12 : Int32) (ob_13 : Nat) (in_14 : Int32) (in_15 : Int32) (I20 : Exa Z Z.heap ob_13 "com/example/ombor/ombor/db/Keyspace") (I21 : Fld Z Z.heap ob_13 "com/example/ombor/ombor/db/Keyspace" "prefix" "B" (.int in_15)) (I22 : nar .byte in_15 = in_15) (I23 : (((in_15 + 1).toInt8.toInt32) &&& 255) = in_14) (I24 : ¬ (((in_15 + 1).toInt8.toInt32) = in_15)) (I25 : ((in_15 &&& 255) + 1) = (((in_15 + 1).toInt8.toInt32) &&& 255)), own_G p e below (T17.setTop (mkF m 63 #[iv in_1, iv in_2, iv in_3, iv in_12, rv ob_13, iv in_14, .unset, .unset, .unset, .unset] [])) (own_P s (own_Q1 Z in_1 in_2 in_3 in_4 ob_6 ob_7 ob_8 ob_10 ob_9 h0 n0) 24 128) := by
   intro T17 X18 e19 in_12 ob_13 in_14 in_15 I20 I21 I22 I23 I24 I25
   refine oS (fun _ => XS.iconst X18.here hx rfl (hb hby at_63) ) ?_
   obtain ⟨T26, h27, kk_35, X29, e30, E31, A32, B36, s33⟩ := own_newP X18 hx hZ (aty := .char) (oW hw 3 rfl) e19 (nm := "[C") rfl (g := (mkF m 64 #[iv in_1, iv in_2, iv in_3, iv in_12, rv ob_13, iv in_14, .unset, .unset, .unset, .unset] [(.int 2)])) rfl (hb hby at_64) (n := 2) (rest := []) rfl (by decide) (cap := 2) (by decide) (by decide) (by decide) (by decide)
   obtain ⟨ob_37, g38⟩ : ∃ z, z = h0.size := ⟨_, rfl⟩
   rw [← g38] at A32 B36 s33
   have F39 : Arv Z h27 ob_37 kk_35 .char 2 [(.int 0), (.int 0)] (.int 0) := own_newA A32 (by decide) rfl rfl
   have z40 := E31.1
   have y34 : @LT.lt Nat instLTNat ob_37 h27.size := F39.lt
   refine oS s33 ?_
   show own_G p e below (T26.setTop (mkF m 66 #[iv in_1, iv in_2, iv in_3, iv in_12, rv ob_13, iv in_14, .unset, .unset, .unset, .unset] [(.ref ob_37)])) _
   refine oS (fun _ => XS.astore X29.here hx rfl (hb hby at_66) rfl rfl (l' := #[iv in_1, iv in_2, iv in_3, iv in_12, rv ob_13, iv in_14, rv ob_37, .unset, .unset, .unset]) rfl) ?_
   refine oS (fun _ => XS.aload X29.here hx rfl (hb hby at_68) rfl rfl) ?_
   refine oS (fun _ => XS.iconst X29.here hx rfl (hb hby at_70) ) ?_
   refine oS (fun _ => XS.iloadN X29.here hx rfl (hb hby at_71) rfl) ?_
   show own_G p e below (T26.setTop (mkF m 72 #[iv in_1, iv in_2, iv in_3, iv in_12, rv ob_13, iv in_14, rv ob_37, .unset, .unset, .unset] [(.int in_2), (.int 0), (.ref ob_37)])) _
   refine oS (fun _ => XS.sipush X29.here hx rfl (hb hby at_72) ) ?_
   refine oS (fun _ => XS.iand X29.here hx rfl (hb hby at_75) rfl) ?_
   refine oS (fun _ => XT.i2c X29.here hx rfl (hb hby at_76) rfl) ?_
   show own_G p e below (T26.setTop (mkF m 77 #[iv in_1, iv in_2, iv in_3, iv in_12, rv ob_13, iv in_14, rv ob_37, .unset, .unset, .unset] [(.int ((in_2 &&& 255).toUInt32.toUInt16.toUInt32.toInt32)), (.int 0), (.ref ob_37)])) _
   obtain ⟨in_41, q42, b43, b44, b45⟩ := own_chr in_2
   refine own_cast (g' := (mkF m 77 #[iv in_1, iv in_2, iv in_3, iv in_12, rv ob_13, iv in_14, rv ob_37, .unset, .unset, .unset] [(.int in_41), (.int 0), (.ref ob_37)])) (by rw [q42]) ?_
   obtain ⟨T46, h47, X48, e49, W50, A51, s52⟩ := own_stC X29 hx hZ e30 F39 (x' := in_41) 0 b45 rfl (by decide) (by simp) (g := (mkF m 77 #[iv in_1, iv in_2, iv in_3, iv in_12, rv ob_13, iv in_14, rv ob_37, .unset, .unset, .unset] [(.int in_41), (.int 0), (.ref ob_37)])) rfl (rest := []) rfl (hb hby at_77)
   have N54 : n0 ≤ ob_37 := by omega
   have N53 := Fr.snoc X48 N0 N54
   have z55 := W50.size
   have F56 : Arv Z h47 ob_37 kk_35 .char 2 [(.int in_41), (.int 0)] (.int 0) := A51
   refine oS s52 ?_
   show own_G p e below (T46.setTop (mkF m 78 #[iv in_1, iv in_2, iv in_3, iv in_12, rv ob_13, iv in_14, rv ob_37, .unset, .unset, .unset] [])) _
   refine oS (fun _ => XS.aload X48.here hx rfl (hb hby at_78) rfl rfl) ?_
   refine oS (fun _ => XS.iconst X48.here hx rfl (hb hby at_80) ) ?_
   refine oS (fun _ => XS.iloadN X48.here hx rfl (hb hby at_81) rfl) ?_
   refine oS (fun _ => XS.sipush X48.here hx rfl (hb hby at_82) ) ?_
   show own_G p e below (T46.setTop (mkF m 85 #[iv in_1, iv in_2, iv in_3, iv in_12, rv ob_13, iv in_14, rv ob_37, .unset, .unset, .unset] [(.int 255), (.int in_3), (.int 1), (.ref ob_37)])) _
   refine oS (fun _ => XS.iand X48.here hx rfl (hb hby at_85) rfl) ?_
   refine oS (fun _ => XT.i2c X48.here hx rfl (hb hby at_86) rfl) ?_
   show own_G p e below (T46.setTop (mkF m 87 #[iv in_1, iv in_2, iv in_3, iv in_12, rv ob_13, iv in_14, rv ob_37, .unset, .unset, .unset] [(.int ((in_3 &&& 255).toUInt32.toUInt16.toUInt32.toInt32)), (.int 1), (.ref ob_37)])) _
   obtain ⟨in_57, q58, b59, b60, b61⟩ := own_chr in_3
   refine own_cast (g' := (mkF m 87 #[iv in_1, iv in_2, iv in_3, iv in_12, rv ob_13, iv in_14, rv ob_37, .unset, .unset, .unset] [(.int in_57), (.int 1), (.ref ob_37)])) (by rw [q58]) ?_
   obtain ⟨T62, h63, X64, e65, W66, A67, s68⟩ := own_stC X48 hx hZ e49 F56 (x' := in_57) 1 b61 rfl (by decide) (by simp) (g := (mkF m 87 #[iv in_1, iv in_2, iv in_3, iv in_12, rv ob_13, iv in_14, rv ob_37, .unset, .unset, .unset] [(.int in_57), (.int 1), (.ref ob_37)])) rfl (rest := []) rfl (hb hby at_87)
   have N69 := Fr.snoc X64 N53 N54
   have z70 := W66.size
   have F71 : Arv Z h63 ob_37 kk_35 .char 2 [(.int in_41), (.int in_57)] (.int 0) := A67
   refine oS s68 ?_
   show own_G p e below (T62.setTop (mkF m 88 #[iv in_1, iv in_2, iv in_3, iv in_12, rv ob_13, iv in_14, rv ob_37, .unset, .unset, .unset] [])) _
   obtain ⟨T72, h73, X74, e75, E76, A77, D78, U81, s79⟩ := newO X64 hx hZ hown (oW hw 4 rfl) (oW hw 5 rfl) (oW hw 6 rfl) e65 (g := (mkF m 88 #[iv in_1, iv in_2, iv in_3, iv in_12, rv ob_13, iv in_14, rv ob_37, .unset, .unset, .unset] [])) rfl (hb hby at_88) (by decide) (by decide)
   obtain ⟨ob_82, g83⟩ : ∃ z, z = h63.size := ⟨_, rfl⟩
   rw [← g83] at A77 D78 U81 s79
   have z84 := E76.1
   have y80 : @LT.lt Nat instLTNat ob_82 h73.size := A77.lt
   refine oS s79 ?_
   have F85 : Fld Z h73 ob_82 "java/lang/String" "coder" "B" (.int 0) := D78 (Or.inr (oW hw 30 rfl)) (ty := .byte) (by decide)
   have F86 : Fld Z h73 ob_82 "java/lang/String" "value" "[B" .null := D78 (Or.inr (oW hw 32 rfl)) (ty := (.array .byte)) (by decide)
   show own_G p e below (T72.setTop (mkF m 91 #[iv in_1, iv in_2, iv in_3, iv in_12, rv ob_13, iv in_14, rv ob_37, .unset, .unset, .unset] [(.ref ob_82)])) _
   refine oS (fun _ => XS.dup X74.here hx rfl (hb hby at_91) rfl rfl) ?_
   refine oS (fun _ => XS.aload X74.here hx rfl (hb hby at_92) rfl rfl) ?_
   have F87 : Arv Z h73 ob_37 kk_35 .char 2 [(.int in_41), (.int in_57)] (.int 0) := F71.ext E76
   have y140 : @LT.lt Nat instLTNat ob_37 h73.size := by omega
   have N231 : n0 ≤ ob_82 := by omega
   have y252 : @LT.lt Nat instLTNat ob_82 h73.size := by omega
   have O286 : Old Z n0 h27 := O0.ext E31
   have O287 : Old Z n0 h47 := O286.wr W50 N54
   have O288 : Old Z n0 h63 := O287.wr W66 N54
   have O289 : Old Z n0 h73 := O288.ext E76
   have Z290 : n0 ≤ h73.size := by omega
   obtain ⟨T291, h292, v293, L294, X295, e296, q297, s298⟩ := own_callN X74 hx hZ hown e75 (y := (⟨"java/lang/String", "<init>", "([C)V"⟩ : MethodName)) (b := ob_82) rfl (oW hw 7 rfl) (oW hw 8 rfl) (oW hw 6 rfl) (oW hw 9 rfl) (by decide) (W := 1) (own_rm2 l Z a0 hw [] ob_82 ob_37 kk_35 in_41 in_57 in_4 h73 n0 Z290 O289 F87 I93 I101 b44 y140 b60 F85 A77 N231 F86 y252) (by decide) (by decide) (by decide) (by decide) (g := (mkF m 94 #[iv in_1, iv in_2, iv in_3, iv in_12, rv ob_13, iv in_14, rv ob_37, .unset, .unset, .unset] [(.ref ob_37), (.ref ob_82), (.ref ob_82)])) rfl (by rw [hml]; rfl) (argsL := [(.ref ob_37)]) (rest := [(.ref ob_82)]) rfl (lenOf own_pd4 rfl) rfl (by show 2 * 0 + _ ≤ _; exact Nat.le_of_eq rfl) (hb hby at_94)
   refine oS s298 ?_
   obtain ⟨ob_299, kk_300, rfl, N301, K302, F303, F304, F305, F306, F307, F308, F309⟩ := q297
   have N310 := Fr.app N69 N301
   have z311 := K302.1
   show own_G p e below (T291.setTop (mkF m 97 #[iv in_1, iv in_2, iv in_3, iv in_12, rv ob_13, iv in_14, rv ob_37, .unset, .unset, .unset] [(.ref ob_82)])) _
   refine oS (fun _ => XS.astore X295.here hx rfl (hb hby at_97) rfl rfl (l' := #[iv in_1, iv in_2, iv in_3, iv in_12, rv ob_13, iv in_14, rv ob_37, rv ob_82, .unset, .unset]) rfl) ?_
   refine oS (fun _ => XS.aload X295.here hx rfl (hb hby at_99) rfl rfl) ?_
   have O348 : Old Z n0 h292 := O289.keep K302 (allS N231 all0)
   have Z349 : n0 ≤ h292.size := by omega
   have F358 : Exa Z h292 ob_13 "com/example/ombor/ombor/db/Keyspace" := Exa.ext O348.2 I20
   obtain ⟨T350, h351, v352, L353, X354, e355, q356, s357⟩ := own_callV X295 hx hZ hown e296 (y := (⟨"com/example/ombor/ombor/db/Keyspace", "end", "()[B"⟩ : MethodName)) (z := (⟨"com/example/ombor/ombor/db/Keyspace", "end", "()[B"⟩ : MethodName)) (C := "com/example/ombor/ombor/db/Keyspace") (b := ob_13) (oW hw 33 rfl) (oW hw 34 rfl) (notFace_of_selects (args := #[]) (mvT hZ (oW hw 36 rfl))) (oW hw 36 rfl) (oW hw 35 rfl) (oW hw 1 rfl) (oW hw 37 rfl) (by decide) F358 (W := 0) (own_rm7 l Z a0 hw [] ob_13 in_15 h292 n0 Z349 O348 I21) (by decide) (by decide) (by decide) (by decide) (g := (mkF m 101 #[iv in_1, iv in_2, iv in_3, iv in_12, rv ob_13, iv in_14, rv ob_37, rv ob_82, .unset, .unset] [(.ref ob_13)])) rfl (by rw [hml]; rfl) (argsL := []) (rest := []) rfl (lenOf own_pd5 rfl) rfl (by show 2 * 0 + _ ≤ _; exact Nat.le_of_eq rfl) (hb hby at_101)
   refine oS s357 ?_
   obtain ⟨ob_359, kk_360, rfl, N361, K362, F363, F364, F365, F366⟩ := q356
   have N367 := Fr.app N310 N361
   have z368 := K362.1
   show own_G p e below (T350.setTop (mkF m 104 #[iv in_1, iv in_2, iv in_3, iv in_12, rv ob_13, iv in_14, rv ob_37, rv ob_82, .unset, .unset] [(.ref ob_359)])) _
   refine oS (fun _ => XS.astore X354.here hx rfl (hb hby at_104) rfl rfl (l' := #[iv in_1, iv in_2, iv in_3, iv in_12, rv ob_13, iv in_14, rv ob_37, rv ob_82, rv ob_359, .unset]) rfl) ?_
   refine oS (fun _ => XS.aload X354.here hx rfl (hb hby at_106) rfl rfl) ?_
   refine oS (fun _ => XS.ifnullNo X354.here hx rfl (hb hby at_108) rfl) ?_
   show own_G p e below (T350.setTop (mkF m 111 #[iv in_1, iv in_2, iv in_3, iv in_12, rv ob_13, iv in_14, rv ob_37, rv ob_82, rv ob_359, .unset] [])) _
   refine oS (fun _ => XS.aload X354.here hx rfl (hb hby at_111) rfl rfl) ?_
   refine oS (own_len X354 hx hZ e355 F364 rfl rfl (hb hby at_113)) ?_
   show own_G p e below (T350.setTop (mkF m 114 #[iv in_1, iv in_2, iv in_3, iv in_12, rv ob_13, iv in_14, rv ob_37, rv ob_82, rv ob_359, .unset] [(.int 1)])) _
   refine oS (fun _ => XS.iconst X354.here hx rfl (hb hby at_114) ) ?_
   refine oS (fun _ => XS.icmpYes X354.here hx rfl (pc0 := 115) (pc' := 120) rfl (hb hby at_115) rfl (XT.ii_eq_t (by decide)) (by decide) (by decide)) ?_
   show own_G p e below (T350.setTop (mkF m 120 #[iv in_1, iv in_2, iv in_3, iv in_12, rv ob_13, iv in_14, rv ob_37, rv ob_82, rv ob_359, .unset] [])) _
   refine oS (fun _ => XS.aload X354.here hx rfl (hb hby at_120) rfl rfl) ?_
   refine oS (fun _ => XS.iconst X354.here hx rfl (hb hby at_122) ) ?_
   refine oS (own_baload X354 hx hZ e355 F364 (by decide) (v := (.int ((in_15 + 1).toInt8.toInt32))) rfl rfl rfl (hb hby at_123)) ?_
   show own_G p e below (T350.setTop (mkF m 124 #[iv in_1, iv in_2, iv in_3, iv in_12, rv ob_13, iv in_14, rv ob_37, rv ob_82, rv ob_359, .unset] [(.int ((in_15 + 1).toInt8.toInt32))])) _
   refine oS (fun _ => XS.sipush X354.here hx rfl (hb hby at_124) ) ?_
   refine oS (fun _ => XS.iand X354.here hx rfl (hb hby at_127) rfl) ?_
   refine oS (fun _ => XS.iload X354.here hx rfl (hb hby at_128) rfl) ?_
   refine oS (fun _ => XS.icmpYes X354.here hx rfl (pc0 := 130) (pc' := 135) rfl (hb hby at_130) rfl (XT.ii_eq_t I23) (by decide) (by decide)) ?_
   show own_G p e below (T350.setTop (mkF m 135 #[iv in_1, iv in_2, iv in_3, iv in_12, rv ob_13, iv in_14, rv ob_37, rv ob_82, rv ob_359, .unset] [])) _
   refine oS (fun _ => XS.aload X354.here hx rfl (hb hby at_135) rfl rfl) ?_
   refine oS (fun _ => XS.aload X354.here hx rfl (hb hby at_137) rfl rfl) ?_
   have O377 : Old Z n0 h351 := O348.keep K362 all0
   have Z378 : n0 ≤ h351.size := by omega
   have F387 : Exa Z h351 ob_13 "com/example/ombor/ombor/db/Keyspace" := F358.keep K362
   obtain ⟨T379, h380, v381, L382, X383, e384, q385, s386⟩ := own_callV X354 hx hZ hown e355 (y := (⟨"com/example/ombor/ombor/db/Keyspace", "holds", "([B)Z"⟩ : MethodName)) (z := (⟨"com/example/ombor/ombor/db/Keyspace", "holds", "([B)Z"⟩ : MethodName)) (C := "com/example/ombor/ombor/db/Keyspace") (b := ob_13) (oW hw 40 rfl) (oW hw 41 rfl) (notFace_of_selects (args := #[]) (mvT hZ (oW hw 43 rfl))) (oW hw 43 rfl) (oW hw 42 rfl) (oW hw 1 rfl) (oW hw 44 rfl) (by decide) F387 (W := 0) (own_rm8 l Z a0 hw [] ob_13 ob_359 kk_360 in_15 h351 n0 Z378 O377 F364 I21 I24) (by decide) (by decide) (by decide) (by decide) (g := (mkF m 139 #[iv in_1, iv in_2, iv in_3, iv in_12, rv ob_13, iv in_14, rv ob_37, rv ob_82, rv ob_359, .unset] [(.ref ob_359), (.ref ob_13)])) rfl (by rw [hml]; rfl) (argsL := [(.ref ob_359)]) (rest := []) rfl (lenOf own_pd6 rfl) rfl (by show 2 * 0 + _ ≤ _; exact Nat.le_of_eq rfl) (hb hby at_139)
   refine oS s386 ?_
   obtain ⟨rfl, N388, K389⟩ := q385
   have N390 := Fr.app N367 N388
   have e391 := e384.trans K389
   show own_G p e below (T379.setTop (mkF m 142 #[iv in_1, iv in_2, iv in_3, iv in_12, rv ob_13, iv in_14, rv ob_37, rv ob_82, rv ob_359, .unset] [(.int 0)])) _
   refine oS (fun _ => XS.ifYes X383.here hx rfl (pc0 := 142) (pc' := 147) rfl (hb hby at_142) rfl (XT.i0_eq_t (by decide)) (by decide) (by decide)) ?_
   show own_G p e below (T379.setTop (mkF m 147 #[iv in_1, iv in_2, iv in_3, iv in_12, rv ob_13, iv in_14, rv ob_37, rv ob_82, rv ob_359, .unset] [])) _
   refine oS (fun _ => XS.aload X383.here hx rfl (hb hby at_147) rfl rfl) ?_
   refine oS (fun _ => XS.aload X383.here hx rfl (hb hby at_149) rfl rfl) ?_
   have F410 : Fld Z h351 ob_82 "java/lang/String" "coder" "B" (.int 0) := F304.keep K362 nin0
   have F426 : Exa Z h351 ob_82 "java/lang/String" := F305.keep K362
   have F433 : Fld Z h351 ob_82 "java/lang/String" "value" "[B" (.ref ob_299) := F306.keep K362 nin0
   have F449 : Arv Z h351 ob_299 kk_300 .byte 2 [(.int (in_41.toInt8.toInt32)), (.int (in_57.toInt8.toInt32))] (.int 0) := F307.keep K362 nin0
   have y573 : @LT.lt Nat instLTNat ob_299 h351.size := by omega
   have F819 : Exa Z h351 ob_299 "[B" := F308.keep K362
   have Z1229 : n0 ≤ h351.size := by omega
   obtain ⟨T1230, h1231, v1232, L1233, X1234, e1235, q1236, s1237⟩ := own_callV X383 hx hZ hown e391 (y := (⟨"com/example/ombor/ombor/db/Keyspace", "key", "(Ljava/lang/String;)[B"⟩ : MethodName)) (z := (⟨"com/example/ombor/ombor/db/Keyspace", "key", "(Ljava/lang/String;)[B"⟩ : MethodName)) (C := "com/example/ombor/ombor/db/Keyspace") (b := ob_13) (oW hw 45 rfl) (oW hw 46 rfl) (notFace_of_selects (args := #[]) (mvT hZ (oW hw 48 rfl))) (oW hw 48 rfl) (oW hw 47 rfl) (oW hw 1 rfl) (oW hw 49 rfl) (by decide) F387 (W := 0) (own_rm9 l Z a0 hw [] ob_13 ob_82 ob_6 in_4 ob_299 kk_300 in_41 in_57 in_15 h351 n0 Z1229 O377 I392 I93 I101 F410 F426 F433 I440 F449 y573 F819 I21 I22) (by decide) (by decide) (by decide) (by decide) (g := (mkF m 151 #[iv in_1, iv in_2, iv in_3, iv in_12, rv ob_13, iv in_14, rv ob_37, rv ob_82, rv ob_359, .unset] [(.ref ob_82), (.ref ob_13)])) rfl (by rw [hml]; rfl) (argsL := [(.ref ob_82)]) (rest := []) rfl (lenOf own_pd17 rfl) rfl (by show 2 * 0 + _ ≤ _; exact Nat.le_of_eq rfl) (hb hby at_151)
   refine oS s1237 ?_
   rcases q1236 with ⟨ob_1238, kk_1239, b1240, b1241, rfl, N1242, K1243, F1244, F1245, F1246, F1247⟩ | ⟨ob_1248, kk_1249, b1250, b1251, rfl, N1252, K1253, F1254, F1255, F1256, F1257⟩ | ⟨ob_1258, kk_1259, b1260, b1261, rfl, N1262, K1263, F1264, F1265, F1266, F1267⟩ | ⟨ob_1268, kk_1269, b1270, b1271, rfl, N1272, K1273, F1274, F1275, F1276, F1277⟩
   · skip
     have N1278 := Fr.app N390 N1242
     have z1279 := K1243.1
     show own_G p e below (T1230.setTop (mkF m 154 #[iv in_1, iv in_2, iv in_3, iv in_12, rv ob_13, iv in_14, rv ob_37, rv ob_82, rv ob_359, .unset] [(.ref ob_1238)])) _
     refine oS (fun _ => XS.astore X1234.here hx rfl (hb hby at_154) rfl rfl (l' := #[iv in_1, iv in_2, iv in_3, iv in_12, rv ob_13, iv in_14, rv ob_37, rv ob_82, rv ob_359, rv ob_1238]) rfl) ?_
     refine oS (fun _ => XS.aload X1234.here hx rfl (hb hby at_156) rfl rfl) ?_
     refine oS (fun _ => XS.ifnullNo X1234.here hx rfl (hb hby at_158) rfl) ?_
     show own_G p e below (T1230.setTop (mkF m 161 #[iv in_1, iv in_2, iv in_3, iv in_12, rv ob_13, iv in_14, rv ob_37, rv ob_82, rv ob_359, rv ob_1238] [])) _
     refine oS (fun _ => XS.aload X1234.here hx rfl (hb hby at_161) rfl rfl) ?_
     refine oS (own_len X1234 hx hZ e1235 F1245 rfl rfl (hb hby at_163)) ?_
     show own_G p e below (T1230.setTop (mkF m 164 #[iv in_1, iv in_2, iv in_3, iv in_12, rv ob_13, iv in_14, rv ob_37, rv ob_82, rv ob_359, rv ob_1238] [(.int 5)])) _
     refine oS (fun _ => XS.iconst X1234.here hx rfl (hb hby at_164) ) ?_
     refine oS (fun _ => XS.icmpYes X1234.here hx rfl (pc0 := 165) (pc' := 170) rfl (hb hby at_165) rfl (XT.ii_ge_t (by decide)) (by decide) (by decide)) ?_
     show own_G p e below (T1230.setTop (mkF m 170 #[iv in_1, iv in_2, iv in_3, iv in_12, rv ob_13, iv in_14, rv ob_37, rv ob_82, rv ob_359, rv ob_1238] [])) _
     refine oS (fun _ => XS.aload X1234.here hx rfl (hb hby at_170) rfl rfl) ?_
     refine oS (fun _ => XS.iconst X1234.here hx rfl (hb hby at_172) ) ?_
     refine oS (own_baload X1234 hx hZ e1235 F1245 (by decide) (v := (.int in_15)) rfl rfl rfl (hb hby at_173)) ?_
     show own_G p e below (T1230.setTop (mkF m 174 #[iv in_1, iv in_2, iv in_3, iv in_12, rv ob_13, iv in_14, rv ob_37, rv ob_82, rv ob_359, rv ob_1238] [(.int in_15)])) _
     refine oS (fun _ => XS.sipush X1234.here hx rfl (hb hby at_174) ) ?_
     refine oS (fun _ => XS.iand X1234.here hx rfl (hb hby at_177) rfl) ?_
     refine oS (fun _ => XS.iconst X1234.here hx rfl (hb hby at_178) ) ?_
     refine oS (fun _ => XS.iadd X1234.here hx rfl (hb hby at_179) rfl) ?_
     show own_G p e below (T1230.setTop (mkF m 180 #[iv in_1, iv in_2, iv in_3, iv in_12, rv ob_13, iv in_14, rv ob_37, rv ob_82, rv ob_359, rv ob_1238] [(.int ((in_15 &&& 255) + 1))])) _
     refine oS (fun _ => XS.aload X1234.here hx rfl (hb hby at_180) rfl rfl) ?_
     refine oS (fun _ => XS.iconst X1234.here hx rfl (hb hby at_182) ) ?_
     have F1280 : Arv Z h1231 ob_359 kk_360 .byte 1 [(.int ((in_15 + 1).toInt8.toInt32))] (.int 0) := F364.keep K1243 nin0
     refine oS (own_baload X1234 hx hZ e1235 F1280 (by decide) (v := (.int ((in_15 + 1).toInt8.toInt32))) rfl rfl rfl (hb hby at_183)) ?_
     show own_G p e below (T1230.setTop (mkF m 184 #[iv in_1, iv in_2, iv in_3, iv in_12, rv ob_13, iv in_14, rv ob_37, rv ob_82, rv ob_359, rv ob_1238] [(.int ((in_15 + 1).toInt8.toInt32)), (.int ((in_15 &&& 255) + 1))])) _
     refine oS (fun _ => XS.sipush X1234.here hx rfl (hb hby at_184) ) ?_
     refine oS (fun _ => XS.iand X1234.here hx rfl (hb hby at_187) rfl) ?_
     refine oS (fun _ => XS.icmpNo X1234.here hx rfl (hb hby at_188) rfl (XT.ii_ne_f I25)) ?_
     show own_G p e below (T1230.setTop (mkF m 191 #[iv in_1, iv in_2, iv in_3, iv in_12, rv ob_13, iv in_14, rv ob_37, rv ob_82, rv ob_359, rv ob_1238] [])) _
     refine oS (fun _ => XS.iconst X1234.here hx rfl (hb hby at_191) ) ?_
     refine oS (fun _ => XS.goto X1234.here hx rfl (pc0 := 192) (pc' := 196) rfl (hb hby at_192) (by decide) (by decide)) ?_
     show own_G p e below (T1230.setTop (mkF m 196 #[iv in_1, iv in_2, iv in_3, iv in_12, rv ob_13, iv in_14, rv ob_37, rv ob_82, rv ob_359, rv ob_1238] [(.int 1)])) _
     have K1281 : Keep h0 h1231 [] := ((((((((Keep.refl h0 []).ext E31).wr W50 (Or.inr (by omega))).wr W66 (Or.inr (by omega))).ext E76).trans K302 (allS (Or.inr (by omega)) all0)).trans K362 all0).trans K1243 all0)
     exact own_retN X1234 hx (t := .boolean) Bd.notSynchronized Bd.returns (by simp) (hb hby at_196) (by decide) e1235 (by decide) (by decide) (⟨rfl, N1278⟩)
   · skip
     have N1282 := Fr.app N390 N1252
     have z1283 := K1253.1
     show own_G p e below (T1230.setTop (mkF m 154 #[iv in_1, iv in_2, iv in_3, iv in_12, rv ob_13, iv in_14, rv ob_37, rv ob_82, rv ob_359, .unset] [(.ref ob_1248)])) _
     refine oS (fun _ => XS.astore X1234.here hx rfl (hb hby at_154) rfl rfl (l' := #[iv in_1, iv in_2, iv in_3, iv in_12, rv ob_13, iv in_14, rv ob_37, rv ob_82, rv ob_359, rv ob_1248]) rfl) ?_
     refine oS (fun _ => XS.aload X1234.here hx rfl (hb hby at_156) rfl rfl) ?_
     refine oS (fun _ => XS.ifnullNo X1234.here hx rfl (hb hby at_158) rfl) ?_
     show own_G p e below (T1230.setTop (mkF m 161 #[iv in_1, iv in_2, iv in_3, iv in_12, rv ob_13, iv in_14, rv ob_37, rv ob_82, rv ob_359, rv ob_1248] [])) _
     refine oS (fun _ => XS.aload X1234.here hx rfl (hb hby at_161) rfl rfl) ?_
     refine oS (own_len X1234 hx hZ e1235 F1255 rfl rfl (hb hby at_163)) ?_
     show own_G p e below (T1230.setTop (mkF m 164 #[iv in_1, iv in_2, iv in_3, iv in_12, rv ob_13, iv in_14, rv ob_37, rv ob_82, rv ob_359, rv ob_1248] [(.int 4)])) _
     refine oS (fun _ => XS.iconst X1234.here hx rfl (hb hby at_164) ) ?_
     refine oS (fun _ => XS.icmpYes X1234.here hx rfl (pc0 := 165) (pc' := 170) rfl (hb hby at_165) rfl (XT.ii_ge_t (by decide)) (by decide) (by decide)) ?_
     show own_G p e below (T1230.setTop (mkF m 170 #[iv in_1, iv in_2, iv in_3, iv in_12, rv ob_13, iv in_14, rv ob_37, rv ob_82, rv ob_359, rv ob_1248] [])) _
     refine oS (fun _ => XS.aload X1234.here hx rfl (hb hby at_170) rfl rfl) ?_
     refine oS (fun _ => XS.iconst X1234.here hx rfl (hb hby at_172) ) ?_
     refine oS (own_baload X1234 hx hZ e1235 F1255 (by decide) (v := (.int in_15)) rfl rfl rfl (hb hby at_173)) ?_
     show own_G p e below (T1230.setTop (mkF m 174 #[iv in_1, iv in_2, iv in_3, iv in_12, rv ob_13, iv in_14, rv ob_37, rv ob_82, rv ob_359, rv ob_1248] [(.int in_15)])) _
     refine oS (fun _ => XS.sipush X1234.here hx rfl (hb hby at_174) ) ?_
     refine oS (fun _ => XS.iand X1234.here hx rfl (hb hby at_177) rfl) ?_
     refine oS (fun _ => XS.iconst X1234.here hx rfl (hb hby at_178) ) ?_
     refine oS (fun _ => XS.iadd X1234.here hx rfl (hb hby at_179) rfl) ?_
     show own_G p e below (T1230.setTop (mkF m 180 #[iv in_1, iv in_2, iv in_3, iv in_12, rv ob_13, iv in_14, rv ob_37, rv ob_82, rv ob_359, rv ob_1248] [(.int ((in_15 &&& 255) + 1))])) _
     refine oS (fun _ => XS.aload X1234.here hx rfl (hb hby at_180) rfl rfl) ?_
     refine oS (fun _ => XS.iconst X1234.here hx rfl (hb hby at_182) ) ?_
     have F1284 : Arv Z h1231 ob_359 kk_360 .byte 1 [(.int ((in_15 + 1).toInt8.toInt32))] (.int 0) := F364.keep K1253 nin0
     refine oS (own_baload X1234 hx hZ e1235 F1284 (by decide) (v := (.int ((in_15 + 1).toInt8.toInt32))) rfl rfl rfl (hb hby at_183)) ?_
     show own_G p e below (T1230.setTop (mkF m 184 #[iv in_1, iv in_2, iv in_3, iv in_12, rv ob_13, iv in_14, rv ob_37, rv ob_82, rv ob_359, rv ob_1248] [(.int ((in_15 + 1).toInt8.toInt32)), (.int ((in_15 &&& 255) + 1))])) _
     refine oS (fun _ => XS.sipush X1234.here hx rfl (hb hby at_184) ) ?_
     refine oS (fun _ => XS.iand X1234.here hx rfl (hb hby at_187) rfl) ?_
     refine oS (fun _ => XS.icmpNo X1234.here hx rfl (hb hby at_188) rfl (XT.ii_ne_f I25)) ?_
     show own_G p e below (T1230.setTop (mkF m 191 #[iv in_1, iv in_2, iv in_3, iv in_12, rv ob_13, iv in_14, rv ob_37, rv ob_82, rv ob_359, rv ob_1248] [])) _
     refine oS (fun _ => XS.iconst X1234.here hx rfl (hb hby at_191) ) ?_
     refine oS (fun _ => XS.goto X1234.here hx rfl (pc0 := 192) (pc' := 196) rfl (hb hby at_192) (by decide) (by decide)) ?_
     show own_G p e below (T1230.setTop (mkF m 196 #[iv in_1, iv in_2, iv in_3, iv in_12, rv ob_13, iv in_14, rv ob_37, rv ob_82, rv ob_359, rv ob_1248] [(.int 1)])) _
     have K1285 : Keep h0 h1231 [] := ((((((((Keep.refl h0 []).ext E31).wr W50 (Or.inr (by omega))).wr W66 (Or.inr (by omega))).ext E76).trans K302 (allS (Or.inr (by omega)) all0)).trans K362 all0).trans K1253 all0)
     exact own_retN X1234 hx (t := .boolean) Bd.notSynchronized Bd.returns (by simp) (hb hby at_196) (by decide) e1235 (by decide) (by decide) (⟨rfl, N1282⟩)
   · skip
     have N1286 := Fr.app N390 N1262
     have z1287 := K1263.1
     show own_G p e below (T1230.setTop (mkF m 154 #[iv in_1, iv in_2, iv in_3, iv in_12, rv ob_13, iv in_14, rv ob_37, rv ob_82, rv ob_359, .unset] [(.ref ob_1258)])) _
     refine oS (fun _ => XS.astore X1234.here hx rfl (hb hby at_154) rfl rfl (l' := #[iv in_1, iv in_2, iv in_3, iv in_12, rv ob_13, iv in_14, rv ob_37, rv ob_82, rv ob_359, rv ob_1258]) rfl) ?_
     refine oS (fun _ => XS.aload X1234.here hx rfl (hb hby at_156) rfl rfl) ?_
     refine oS (fun _ => XS.ifnullNo X1234.here hx rfl (hb hby at_158) rfl) ?_
     show own_G p e below (T1230.setTop (mkF m 161 #[iv in_1, iv in_2, iv in_3, iv in_12, rv ob_13, iv in_14, rv ob_37, rv ob_82, rv ob_359, rv ob_1258] [])) _
     refine oS (fun _ => XS.aload X1234.here hx rfl (hb hby at_161) rfl rfl) ?_
     refine oS (own_len X1234 hx hZ e1235 F1265 rfl rfl (hb hby at_163)) ?_
     show own_G p e below (T1230.setTop (mkF m 164 #[iv in_1, iv in_2, iv in_3, iv in_12, rv ob_13, iv in_14, rv ob_37, rv ob_82, rv ob_359, rv ob_1258] [(.int 4)])) _
     refine oS (fun _ => XS.iconst X1234.here hx rfl (hb hby at_164) ) ?_
     refine oS (fun _ => XS.icmpYes X1234.here hx rfl (pc0 := 165) (pc' := 170) rfl (hb hby at_165) rfl (XT.ii_ge_t (by decide)) (by decide) (by decide)) ?_
     show own_G p e below (T1230.setTop (mkF m 170 #[iv in_1, iv in_2, iv in_3, iv in_12, rv ob_13, iv in_14, rv ob_37, rv ob_82, rv ob_359, rv ob_1258] [])) _
     refine oS (fun _ => XS.aload X1234.here hx rfl (hb hby at_170) rfl rfl) ?_
     refine oS (fun _ => XS.iconst X1234.here hx rfl (hb hby at_172) ) ?_
     refine oS (own_baload X1234 hx hZ e1235 F1265 (by decide) (v := (.int in_15)) rfl rfl rfl (hb hby at_173)) ?_
     show own_G p e below (T1230.setTop (mkF m 174 #[iv in_1, iv in_2, iv in_3, iv in_12, rv ob_13, iv in_14, rv ob_37, rv ob_82, rv ob_359, rv ob_1258] [(.int in_15)])) _
     refine oS (fun _ => XS.sipush X1234.here hx rfl (hb hby at_174) ) ?_
     refine oS (fun _ => XS.iand X1234.here hx rfl (hb hby at_177) rfl) ?_
     refine oS (fun _ => XS.iconst X1234.here hx rfl (hb hby at_178) ) ?_
     refine oS (fun _ => XS.iadd X1234.here hx rfl (hb hby at_179) rfl) ?_
     show own_G p e below (T1230.setTop (mkF m 180 #[iv in_1, iv in_2, iv in_3, iv in_12, rv ob_13, iv in_14, rv ob_37, rv ob_82, rv ob_359, rv ob_1258] [(.int ((in_15 &&& 255) + 1))])) _
     refine oS (fun _ => XS.aload X1234.here hx rfl (hb hby at_180) rfl rfl) ?_
     refine oS (fun _ => XS.iconst X1234.here hx rfl (hb hby at_182) ) ?_
     have F1288 : Arv Z h1231 ob_359 kk_360 .byte 1 [(.int ((in_15 + 1).toInt8.toInt32))] (.int 0) := F364.keep K1263 nin0
     refine oS (own_baload X1234 hx hZ e1235 F1288 (by decide) (v := (.int ((in_15 + 1).toInt8.toInt32))) rfl rfl rfl (hb hby at_183)) ?_
     show own_G p e below (T1230.setTop (mkF m 184 #[iv in_1, iv in_2, iv in_3, iv in_12, rv ob_13, iv in_14, rv ob_37, rv ob_82, rv ob_359, rv ob_1258] [(.int ((in_15 + 1).toInt8.toInt32)), (.int ((in_15 &&& 255) + 1))])) _
     refine oS (fun _ => XS.sipush X1234.here hx rfl (hb hby at_184) ) ?_
     refine oS (fun _ => XS.iand X1234.here hx rfl (hb hby at_187) rfl) ?_
     refine oS (fun _ => XS.icmpNo X1234.here hx rfl (hb hby at_188) rfl (XT.ii_ne_f I25)) ?_
     show own_G p e below (T1230.setTop (mkF m 191 #[iv in_1, iv in_2, iv in_3, iv in_12, rv ob_13, iv in_14, rv ob_37, rv ob_82, rv ob_359, rv ob_1258] [])) _
     refine oS (fun _ => XS.iconst X1234.here hx rfl (hb hby at_191) ) ?_
     refine oS (fun _ => XS.goto X1234.here hx rfl (pc0 := 192) (pc' := 196) rfl (hb hby at_192) (by decide) (by decide)) ?_
     show own_G p e below (T1230.setTop (mkF m 196 #[iv in_1, iv in_2, iv in_3, iv in_12, rv ob_13, iv in_14, rv ob_37, rv ob_82, rv ob_359, rv ob_1258] [(.int 1)])) _
     have K1289 : Keep h0 h1231 [] := ((((((((Keep.refl h0 []).ext E31).wr W50 (Or.inr (by omega))).wr W66 (Or.inr (by omega))).ext E76).trans K302 (allS (Or.inr (by omega)) all0)).trans K362 all0).trans K1263 all0)
     exact own_retN X1234 hx (t := .boolean) Bd.notSynchronized Bd.returns (by simp) (hb hby at_196) (by decide) e1235 (by decide) (by decide) (⟨rfl, N1286⟩)
   · skip
     have N1290 := Fr.app N390 N1272
     have z1291 := K1273.1
     show own_G p e below (T1230.setTop (mkF m 154 #[iv in_1, iv in_2, iv in_3, iv in_12, rv ob_13, iv in_14, rv ob_37, rv ob_82, rv ob_359, .unset] [(.ref ob_1268)])) _
     refine oS (fun _ => XS.astore X1234.here hx rfl (hb hby at_154) rfl rfl (l' := #[iv in_1, iv in_2, iv in_3, iv in_12, rv ob_13, iv in_14, rv ob_37, rv ob_82, rv ob_359, rv ob_1268]) rfl) ?_
     refine oS (fun _ => XS.aload X1234.here hx rfl (hb hby at_156) rfl rfl) ?_
     refine oS (fun _ => XS.ifnullNo X1234.here hx rfl (hb hby at_158) rfl) ?_
     show own_G p e below (T1230.setTop (mkF m 161 #[iv in_1, iv in_2, iv in_3, iv in_12, rv ob_13, iv in_14, rv ob_37, rv ob_82, rv ob_359, rv ob_1268] [])) _
     refine oS (fun _ => XS.aload X1234.here hx rfl (hb hby at_161) rfl rfl) ?_
     refine oS (own_len X1234 hx hZ e1235 F1275 rfl rfl (hb hby at_163)) ?_
     show own_G p e below (T1230.setTop (mkF m 164 #[iv in_1, iv in_2, iv in_3, iv in_12, rv ob_13, iv in_14, rv ob_37, rv ob_82, rv ob_359, rv ob_1268] [(.int 3)])) _
     refine oS (fun _ => XS.iconst X1234.here hx rfl (hb hby at_164) ) ?_
     refine oS (fun _ => XS.icmpYes X1234.here hx rfl (pc0 := 165) (pc' := 170) rfl (hb hby at_165) rfl (XT.ii_ge_t (by decide)) (by decide) (by decide)) ?_
     show own_G p e below (T1230.setTop (mkF m 170 #[iv in_1, iv in_2, iv in_3, iv in_12, rv ob_13, iv in_14, rv ob_37, rv ob_82, rv ob_359, rv ob_1268] [])) _
     refine oS (fun _ => XS.aload X1234.here hx rfl (hb hby at_170) rfl rfl) ?_
     refine oS (fun _ => XS.iconst X1234.here hx rfl (hb hby at_172) ) ?_
     refine oS (own_baload X1234 hx hZ e1235 F1275 (by decide) (v := (.int in_15)) rfl rfl rfl (hb hby at_173)) ?_
     show own_G p e below (T1230.setTop (mkF m 174 #[iv in_1, iv in_2, iv in_3, iv in_12, rv ob_13, iv in_14, rv ob_37, rv ob_82, rv ob_359, rv ob_1268] [(.int in_15)])) _
     refine oS (fun _ => XS.sipush X1234.here hx rfl (hb hby at_174) ) ?_
     refine oS (fun _ => XS.iand X1234.here hx rfl (hb hby at_177) rfl) ?_
     refine oS (fun _ => XS.iconst X1234.here hx rfl (hb hby at_178) ) ?_
     refine oS (fun _ => XS.iadd X1234.here hx rfl (hb hby at_179) rfl) ?_
     show own_G p e below (T1230.setTop (mkF m 180 #[iv in_1, iv in_2, iv in_3, iv in_12, rv ob_13, iv in_14, rv ob_37, rv ob_82, rv ob_359, rv ob_1268] [(.int ((in_15 &&& 255) + 1))])) _
     refine oS (fun _ => XS.aload X1234.here hx rfl (hb hby at_180) rfl rfl) ?_
     refine oS (fun _ => XS.iconst X1234.here hx rfl (hb hby at_182) ) ?_
     have F1292 : Arv Z h1231 ob_359 kk_360 .byte 1 [(.int ((in_15 + 1).toInt8.toInt32))] (.int 0) := F364.keep K1273 nin0
     refine oS (own_baload X1234 hx hZ e1235 F1292 (by decide) (v := (.int ((in_15 + 1).toInt8.toInt32))) rfl rfl rfl (hb hby at_183)) ?_
     show own_G p e below (T1230.setTop (mkF m 184 #[iv in_1, iv in_2, iv in_3, iv in_12, rv ob_13, iv in_14, rv ob_37, rv ob_82, rv ob_359, rv ob_1268] [(.int ((in_15 + 1).toInt8.toInt32)), (.int ((in_15 &&& 255) + 1))])) _
     refine oS (fun _ => XS.sipush X1234.here hx rfl (hb hby at_184) ) ?_
     refine oS (fun _ => XS.iand X1234.here hx rfl (hb hby at_187) rfl) ?_
     refine oS (fun _ => XS.icmpNo X1234.here hx rfl (hb hby at_188) rfl (XT.ii_ne_f I25)) ?_
     show own_G p e below (T1230.setTop (mkF m 191 #[iv in_1, iv in_2, iv in_3, iv in_12, rv ob_13, iv in_14, rv ob_37, rv ob_82, rv ob_359, rv ob_1268] [])) _
     refine oS (fun _ => XS.iconst X1234.here hx rfl (hb hby at_191) ) ?_
     refine oS (fun _ => XS.goto X1234.here hx rfl (pc0 := 192) (pc' := 196) rfl (hb hby at_192) (by decide) (by decide)) ?_
     show own_G p e below (T1230.setTop (mkF m 196 #[iv in_1, iv in_2, iv in_3, iv in_12, rv ob_13, iv in_14, rv ob_37, rv ob_82, rv ob_359, rv ob_1268] [(.int 1)])) _
     have K1293 : Keep h0 h1231 [] := ((((((((Keep.refl h0 []).ext E31).wr W50 (Or.inr (by omega))).wr W66 (Or.inr (by omega))).ext E76).trans K302 (allS (Or.inr (by omega)) all0)).trans K362 all0).trans K1273 all0)
     exact own_retN X1234 hx (t := .boolean) Bd.notSynchronized Bd.returns (by simp) (hb hby at_196) (by decide) e1235 (by decide) (by decide) (⟨rfl, N1290⟩)
  refine oS (fun _ => XS.iloadN X0.here hx rfl (hb hby at_0) rfl) ?_
  refine oS (fun _ => XS.iconst X0.here hx rfl (hb hby at_1) ) ?_
  refine oS (fun _ => XS.iand X0.here hx rfl (hb hby at_2) rfl) ?_
  show own_G p e below (s₁.setTop (mkF m 3 #[iv in_1, iv in_2, iv in_3, .unset, .unset, .unset, .unset, .unset, .unset, .unset] [(.int (in_1 &&& 3))])) _
  rcases own_in4 (own_and3 in_1) with q1294 | q1295 | q1296 | q1297
  · skip
    refine own_cast (g' := (mkF m 3 #[iv in_1, iv in_2, iv in_3, .unset, .unset, .unset, .unset, .unset, .unset, .unset] [(.int 0)])) (by rw [q1294]) ?_
    show own_G p e below (s₁.setTop (mkF m 3 #[iv in_1, iv in_2, iv in_3, .unset, .unset, .unset, .unset, .unset, .unset, .unset] [(.int 0)])) _
    refine oS (fun _ => XS.istoreN X0.here hx rfl (hb hby at_3) rfl (l' := #[iv in_1, iv in_2, iv in_3, iv 0, .unset, .unset, .unset, .unset, .unset, .unset]) rfl) ?_
    refine oS (fun _ => XS.iloadN X0.here hx rfl (hb hby at_4) rfl) ?_
    refine oS (fun _ => XS.ifNo X0.here hx rfl (hb hby at_5) rfl (XT.i0_ne_f (by decide))) ?_
    show own_G p e below (s₁.setTop (mkF m 8 #[iv in_1, iv in_2, iv in_3, iv 0, .unset, .unset, .unset, .unset, .unset, .unset] [])) _
    have F1299 : Sta Z h0 "com/example/ombor/ombor/db/Keyspace" "PRODUCTS" "Lcom/example/ombor/ombor/db/Keyspace;" (.ref ob_7) := Sta.ext O0.2 I1298
    obtain ⟨T1300, X1301, e1302, s1303⟩ := getS X0 hx hZ hown (host := "") (oW hw 0 rfl) Via.refl e0 F1299 (g := (mkF m 8 #[iv in_1, iv in_2, iv in_3, iv 0, .unset, .unset, .unset, .unset, .unset, .unset] [])) rfl (hb hby at_8)
    refine oS s1303 ?_
    show own_G p e below (T1300.setTop (mkF m 11 #[iv in_1, iv in_2, iv in_3, iv 0, .unset, .unset, .unset, .unset, .unset, .unset] [(.ref ob_7)])) _
    refine oS (fun _ => XS.astore X1301.here hx rfl (hb hby at_11) rfl rfl (l' := #[iv in_1, iv in_2, iv in_3, iv 0, rv ob_7, .unset, .unset, .unset, .unset, .unset]) rfl) ?_
    refine oS (fun _ => XS.bipush X1301.here hx rfl (hb hby at_13) ) ?_
    refine oS (fun _ => XS.istore X1301.here hx rfl (hb hby at_15) rfl (l' := #[iv in_1, iv in_2, iv in_3, iv 0, rv ob_7, iv 113, .unset, .unset, .unset, .unset]) rfl) ?_
    refine oS (fun _ => XS.goto X1301.here hx rfl (pc0 := 17) (pc' := 63) rfl (hb hby at_17) (by decide) (by decide)) ?_
    show own_G p e below (T1300.setTop (mkF m 63 #[iv in_1, iv in_2, iv in_3, iv 0, rv ob_7, iv 113, .unset, .unset, .unset, .unset] [])) _
    exact J16 T1300 X1301 e1302 0 ob_7 113 112 I1304 I1305 (by decide) (by decide) (by decide) (by decide)
  · skip
    refine own_cast (g' := (mkF m 3 #[iv in_1, iv in_2, iv in_3, .unset, .unset, .unset, .unset, .unset, .unset, .unset] [(.int 1)])) (by rw [q1295]) ?_
    show own_G p e below (s₁.setTop (mkF m 3 #[iv in_1, iv in_2, iv in_3, .unset, .unset, .unset, .unset, .unset, .unset, .unset] [(.int 1)])) _
    refine oS (fun _ => XS.istoreN X0.here hx rfl (hb hby at_3) rfl (l' := #[iv in_1, iv in_2, iv in_3, iv 1, .unset, .unset, .unset, .unset, .unset, .unset]) rfl) ?_
    refine oS (fun _ => XS.iloadN X0.here hx rfl (hb hby at_4) rfl) ?_
    refine oS (fun _ => XS.ifYes X0.here hx rfl (pc0 := 5) (pc' := 20) rfl (hb hby at_5) rfl (XT.i0_ne_t (by decide)) (by decide) (by decide)) ?_
    show own_G p e below (s₁.setTop (mkF m 20 #[iv in_1, iv in_2, iv in_3, iv 1, .unset, .unset, .unset, .unset, .unset, .unset] [])) _
    refine oS (fun _ => XS.iloadN X0.here hx rfl (hb hby at_20) rfl) ?_
    refine oS (fun _ => XS.iconst X0.here hx rfl (hb hby at_21) ) ?_
    refine oS (fun _ => XS.icmpNo X0.here hx rfl (hb hby at_22) rfl (XT.ii_ne_f (by decide))) ?_
    show own_G p e below (s₁.setTop (mkF m 25 #[iv in_1, iv in_2, iv in_3, iv 1, .unset, .unset, .unset, .unset, .unset, .unset] [])) _
    have F1307 : Sta Z h0 "com/example/ombor/ombor/db/Keyspace" "OPERATIONS" "Lcom/example/ombor/ombor/db/Keyspace;" (.ref ob_8) := Sta.ext O0.2 I1306
    obtain ⟨T1308, X1309, e1310, s1311⟩ := getS X0 hx hZ hown (host := "") (oW hw 90 rfl) Via.refl e0 F1307 (g := (mkF m 25 #[iv in_1, iv in_2, iv in_3, iv 1, .unset, .unset, .unset, .unset, .unset, .unset] [])) rfl (hb hby at_25)
    refine oS s1311 ?_
    show own_G p e below (T1308.setTop (mkF m 28 #[iv in_1, iv in_2, iv in_3, iv 1, .unset, .unset, .unset, .unset, .unset, .unset] [(.ref ob_8)])) _
    refine oS (fun _ => XS.astore X1309.here hx rfl (hb hby at_28) rfl rfl (l' := #[iv in_1, iv in_2, iv in_3, iv 1, rv ob_8, .unset, .unset, .unset, .unset, .unset]) rfl) ?_
    refine oS (fun _ => XS.bipush X1309.here hx rfl (hb hby at_30) ) ?_
    refine oS (fun _ => XS.istore X1309.here hx rfl (hb hby at_32) rfl (l' := #[iv in_1, iv in_2, iv in_3, iv 1, rv ob_8, iv 80, .unset, .unset, .unset, .unset]) rfl) ?_
    refine oS (fun _ => XS.goto X1309.here hx rfl (pc0 := 34) (pc' := 63) rfl (hb hby at_34) (by decide) (by decide)) ?_
    show own_G p e below (T1308.setTop (mkF m 63 #[iv in_1, iv in_2, iv in_3, iv 1, rv ob_8, iv 80, .unset, .unset, .unset, .unset] [])) _
    exact J16 T1308 X1309 e1310 1 ob_8 80 79 I1312 I1313 (by decide) (by decide) (by decide) (by decide)
  · skip
    refine own_cast (g' := (mkF m 3 #[iv in_1, iv in_2, iv in_3, .unset, .unset, .unset, .unset, .unset, .unset, .unset] [(.int 2)])) (by rw [q1296]) ?_
    show own_G p e below (s₁.setTop (mkF m 3 #[iv in_1, iv in_2, iv in_3, .unset, .unset, .unset, .unset, .unset, .unset, .unset] [(.int 2)])) _
    refine oS (fun _ => XS.istoreN X0.here hx rfl (hb hby at_3) rfl (l' := #[iv in_1, iv in_2, iv in_3, iv 2, .unset, .unset, .unset, .unset, .unset, .unset]) rfl) ?_
    refine oS (fun _ => XS.iloadN X0.here hx rfl (hb hby at_4) rfl) ?_
    refine oS (fun _ => XS.ifYes X0.here hx rfl (pc0 := 5) (pc' := 20) rfl (hb hby at_5) rfl (XT.i0_ne_t (by decide)) (by decide) (by decide)) ?_
    show own_G p e below (s₁.setTop (mkF m 20 #[iv in_1, iv in_2, iv in_3, iv 2, .unset, .unset, .unset, .unset, .unset, .unset] [])) _
    refine oS (fun _ => XS.iloadN X0.here hx rfl (hb hby at_20) rfl) ?_
    refine oS (fun _ => XS.iconst X0.here hx rfl (hb hby at_21) ) ?_
    refine oS (fun _ => XS.icmpYes X0.here hx rfl (pc0 := 22) (pc' := 37) rfl (hb hby at_22) rfl (XT.ii_ne_t (by decide)) (by decide) (by decide)) ?_
    show own_G p e below (s₁.setTop (mkF m 37 #[iv in_1, iv in_2, iv in_3, iv 2, .unset, .unset, .unset, .unset, .unset, .unset] [])) _
    refine oS (fun _ => XS.iloadN X0.here hx rfl (hb hby at_37) rfl) ?_
    refine oS (fun _ => XS.iconst X0.here hx rfl (hb hby at_38) ) ?_
    refine oS (fun _ => XS.icmpNo X0.here hx rfl (hb hby at_39) rfl (XT.ii_ne_f (by decide))) ?_
    show own_G p e below (s₁.setTop (mkF m 42 #[iv in_1, iv in_2, iv in_3, iv 2, .unset, .unset, .unset, .unset, .unset, .unset] [])) _
    have F1315 : Sta Z h0 "com/example/ombor/ombor/db/Keyspace" "OPERATIONS_WITHOUT_RECEIPT" "Lcom/example/ombor/ombor/db/Keyspace;" (.ref ob_10) := Sta.ext O0.2 I1314
    obtain ⟨T1316, X1317, e1318, s1319⟩ := getS X0 hx hZ hown (host := "") (oW hw 110 rfl) Via.refl e0 F1315 (g := (mkF m 42 #[iv in_1, iv in_2, iv in_3, iv 2, .unset, .unset, .unset, .unset, .unset, .unset] [])) rfl (hb hby at_42)
    refine oS s1319 ?_
    show own_G p e below (T1316.setTop (mkF m 45 #[iv in_1, iv in_2, iv in_3, iv 2, .unset, .unset, .unset, .unset, .unset, .unset] [(.ref ob_10)])) _
    refine oS (fun _ => XS.astore X1317.here hx rfl (hb hby at_45) rfl rfl (l' := #[iv in_1, iv in_2, iv in_3, iv 2, rv ob_10, .unset, .unset, .unset, .unset, .unset]) rfl) ?_
    refine oS (fun _ => XS.bipush X1317.here hx rfl (hb hby at_47) ) ?_
    refine oS (fun _ => XS.istore X1317.here hx rfl (hb hby at_49) rfl (l' := #[iv in_1, iv in_2, iv in_3, iv 2, rv ob_10, iv 112, .unset, .unset, .unset, .unset]) rfl) ?_
    refine oS (fun _ => XS.goto X1317.here hx rfl (pc0 := 51) (pc' := 63) rfl (hb hby at_51) (by decide) (by decide)) ?_
    show own_G p e below (T1316.setTop (mkF m 63 #[iv in_1, iv in_2, iv in_3, iv 2, rv ob_10, iv 112, .unset, .unset, .unset, .unset] [])) _
    exact J16 T1316 X1317 e1318 2 ob_10 112 111 I1320 I1321 (by decide) (by decide) (by decide) (by decide)
  · skip
    refine own_cast (g' := (mkF m 3 #[iv in_1, iv in_2, iv in_3, .unset, .unset, .unset, .unset, .unset, .unset, .unset] [(.int 3)])) (by rw [q1297]) ?_
    show own_G p e below (s₁.setTop (mkF m 3 #[iv in_1, iv in_2, iv in_3, .unset, .unset, .unset, .unset, .unset, .unset, .unset] [(.int 3)])) _
    refine oS (fun _ => XS.istoreN X0.here hx rfl (hb hby at_3) rfl (l' := #[iv in_1, iv in_2, iv in_3, iv 3, .unset, .unset, .unset, .unset, .unset, .unset]) rfl) ?_
    refine oS (fun _ => XS.iloadN X0.here hx rfl (hb hby at_4) rfl) ?_
    refine oS (fun _ => XS.ifYes X0.here hx rfl (pc0 := 5) (pc' := 20) rfl (hb hby at_5) rfl (XT.i0_ne_t (by decide)) (by decide) (by decide)) ?_
    show own_G p e below (s₁.setTop (mkF m 20 #[iv in_1, iv in_2, iv in_3, iv 3, .unset, .unset, .unset, .unset, .unset, .unset] [])) _
    refine oS (fun _ => XS.iloadN X0.here hx rfl (hb hby at_20) rfl) ?_
    refine oS (fun _ => XS.iconst X0.here hx rfl (hb hby at_21) ) ?_
    refine oS (fun _ => XS.icmpYes X0.here hx rfl (pc0 := 22) (pc' := 37) rfl (hb hby at_22) rfl (XT.ii_ne_t (by decide)) (by decide) (by decide)) ?_
    show own_G p e below (s₁.setTop (mkF m 37 #[iv in_1, iv in_2, iv in_3, iv 3, .unset, .unset, .unset, .unset, .unset, .unset] [])) _
    refine oS (fun _ => XS.iloadN X0.here hx rfl (hb hby at_37) rfl) ?_
    refine oS (fun _ => XS.iconst X0.here hx rfl (hb hby at_38) ) ?_
    refine oS (fun _ => XS.icmpYes X0.here hx rfl (pc0 := 39) (pc' := 54) rfl (hb hby at_39) rfl (XT.ii_ne_t (by decide)) (by decide) (by decide)) ?_
    show own_G p e below (s₁.setTop (mkF m 54 #[iv in_1, iv in_2, iv in_3, iv 3, .unset, .unset, .unset, .unset, .unset, .unset] [])) _
    have F1323 : Sta Z h0 "com/example/ombor/ombor/db/Keyspace" "ENTITIES" "Lcom/example/ombor/ombor/db/Keyspace;" (.ref ob_9) := Sta.ext O0.2 I1322
    obtain ⟨T1324, X1325, e1326, s1327⟩ := getS X0 hx hZ hown (host := "") (oW hw 92 rfl) Via.refl e0 F1323 (g := (mkF m 54 #[iv in_1, iv in_2, iv in_3, iv 3, .unset, .unset, .unset, .unset, .unset, .unset] [])) rfl (hb hby at_54)
    refine oS s1327 ?_
    show own_G p e below (T1324.setTop (mkF m 57 #[iv in_1, iv in_2, iv in_3, iv 3, .unset, .unset, .unset, .unset, .unset, .unset] [(.ref ob_9)])) _
    refine oS (fun _ => XS.astore X1325.here hx rfl (hb hby at_57) rfl rfl (l' := #[iv in_1, iv in_2, iv in_3, iv 3, rv ob_9, .unset, .unset, .unset, .unset, .unset]) rfl) ?_
    refine oS (fun _ => XS.bipush X1325.here hx rfl (hb hby at_59) ) ?_
    refine oS (fun _ => XS.istore X1325.here hx rfl (hb hby at_61) rfl (l' := #[iv in_1, iv in_2, iv in_3, iv 3, rv ob_9, iv 102, .unset, .unset, .unset, .unset]) rfl) ?_
    exact J16 T1324 X1325 e1326 3 ob_9 102 101 I1328 I1329 (by decide) (by decide) (by decide) (by decide)
set_option maxRecDepth 65536 in
set_option maxHeartbeats 40000000 in
theorem comes_1 {Post : Tables → Env → Array Value → State → Outcome → State → Prop} (hpost : ∀ tb e args s v u, (limb_1_1.after args s (.returned v) u = true ∧ limb_1_2.after args s (.returned v) u = true ∧ True) → FrameEnd s (.returned v) u (Jvm.fieldLocs frame_1_writes args s ++ Jvm.arrayLocs frame_1_arrays args s ++ Jvm.staticLocs frame_1_statics s) 24 128 → Post tb e args s (.returned v) u) :
    ArmFor flags0 classFile x code maxLocals ret World_1 tables_1 room_1 Calls_1 rest_1 Pre_1 Post := by
  intro l hfl _ _ p e ha hc hk s m args below hf hA hF happ hP
  obtain ⟨hcalls, hrest, hpre⟩ := hP
  obtain ⟨-, -, -, hnamed, -, -, -, hat⟩ := (Spec.applies_iff hf).mp happ
  obtain ⟨hg, hn⟩ := and_e (Cond.before_iff.mp (show (Jvm.Cond.and given_1 narrow_1).before args s = true from hpre))
  obtain ⟨g0, gg0⟩ := and_e hg
  obtain ⟨w0, w1, w2, rfl⟩ : ∃ w0 w1 w2 : Value, args = #[w0, w1, w2] := by
    have hs : args.size = 3 := by simpa [Cond.value, given_1] using g0
    obtain ⟨L⟩ := args
    match L, hs with
    | [w0, w1, w2], _ => exact ⟨w0, w1, w2, rfl⟩
  have hw := fun d (hd : d ∈ tables_1) => atoms_spec (ws := Jvm.Cond.code x code maxLocals ret :: tables_1) hat d (List.mem_cons_of_mem _ hd)
  obtain ⟨hsets, hown0⟩ := atoms_of _ (rest_1_c_eq ▸ (show rest_1_c.before _ s = true from hrest))
  have hfit : Fit s := fun {y c} hc i hi => by
    obtain ⟨ha, rfl⟩ := Array.getElem?_eq_some_iff.mp hc
    have q := List.all_eq_true.mp ((Array.all_eq_true_iff_forall_mem.mp hF) _ (Array.getElem_mem ha)) i (List.mem_range.mpr hi)
    simpa [Array.getElem?_eq_getElem hi] using q
  obtain ⟨ga0, gg1⟩ := and_e gg0
  obtain ⟨in_1, ea0⟩ := is_v ga0
  obtain rfl : w0 = (.int in_1) := Option.some.inj ea0
  obtain ⟨ga1, gg2⟩ := and_e gg1
  obtain ⟨in_2, ea1⟩ := is_v ga1
  obtain rfl : w1 = (.int in_2) := Option.some.inj ea1
  obtain ⟨in_3, ea2⟩ := is_v gg2
  obtain rfl : w2 = (.int in_3) := Option.some.inj ea2
  obtain ⟨c0, r0⟩ := and_e hn
  obtain ⟨c1, r1⟩ := and_e r0
  obtain ⟨c2, r2⟩ := and_e r1
  obtain ⟨c3, r3⟩ := and_e r2
  obtain ⟨c4, r4⟩ := and_e r3
  obtain ⟨c5, r5⟩ := and_e r4
  obtain ⟨c6, c7⟩ := and_e r5
  obtain ⟨in_4, ev_in_4⟩ := is_v (Cond.before_iff.mp (hsets _ (List.mem_of_getElem? (i := 1) rfl)))
  obtain ⟨va_5, ev_va_5, rf_va_5⟩ := isR_v (Cond.before_iff.mp (hsets _ (List.mem_of_getElem? (i := 8) rfl)))
  obtain ⟨ob_6, ev_ob_6⟩ := exa_v (Cond.before_iff.mp (hsets _ (List.mem_of_getElem? (i := 14) rfl)))
  obtain ⟨ob_7, ev_ob_7⟩ := exa_v c0
  obtain ⟨ob_8, ev_ob_8⟩ := exa_v c2
  obtain ⟨ob_9, ev_ob_9⟩ := exa_v c4
  obtain ⟨ob_10, ev_ob_10⟩ := exa_v c6
  have ev11 := own_ev' ev_ob_6 (Cond.before_iff.mp (hsets _ (List.mem_of_getElem? (i := 13) rfl)))
  obtain ⟨n, o, h1, h2, h3, _, L, rfl, ⟨rfl, N⟩, hq⟩ := own_rm1 l s _ hw tables_1 in_1 in_2 in_3 in_4 ob_6 ob_7 ob_8 ob_10 ob_9 s.heap s.heap.size (Nat.le_refl _) (Old.start s) (Sta.start ev_in_4 (Or.inl (hsets _ (List.mem_of_getElem? (i := 0) rfl)))) (gotF (Cond.eq_ints ev_in_4 (Term.int_eval 0)) (not_v (Cond.before_iff.mp (hsets _ (List.mem_of_getElem? (i := 2) rfl))))) (Sta.start ev_ob_6 (Or.inl (hsets _ (List.mem_of_getElem? (i := 10) rfl)))) (Sta.start ev11 (Or.inl (hsets _ (List.mem_of_getElem? (i := 16) rfl)))) (Sta.start ev_ob_7 (Or.inr ⟨(oW hw 1 rfl), (oW hw 2 rfl)⟩)) (Exa.start ev_ob_7 c0) (own_fv ev_ob_7 (Term.int_eval 112) c1) (Sta.start ev_ob_8 (Or.inr ⟨(oW hw 1 rfl), (oW hw 91 rfl)⟩)) (Exa.start ev_ob_8 c2) (own_fv ev_ob_8 (Term.int_eval 79) c3) (Sta.start ev_ob_10 (Or.inr ⟨(oW hw 1 rfl), (oW hw 111 rfl)⟩)) (Exa.start ev_ob_10 c6) (own_fv ev_ob_10 (Term.int_eval 111) c7) (Sta.start ev_ob_9 (Or.inr ⟨(oW hw 1 rfl), (oW hw 93 rfl)⟩)) (Exa.start ev_ob_9 c4) (own_fv ev_ob_9 (Term.int_eval 101) c5) p e ha hc hk s m _ below hf ((Spec.applies_iff_loose hf).mp happ).1 ⟨rfl, State.Warmed39.refl s, rfl⟩ trivial
  refine ⟨n, _, h1, h2, h3, hpost _ _ _ _ _ _ ⟨Cond.after_iff.mpr rfl, Cond.after_iff.mpr (eq_i res_at (Term.int_eval (1)) rfl), trivial⟩ ⟨hq.1, hq.2.1, (hq.2.2.sift fun y hy => Or.inr (N y hy)).mono (by decide) (by decide)⟩⟩
theorem main_1_1 : Claimed_1_1 := comes_1 fun _ _ _ _ _ _ h hF => ⟨h.1, hF⟩
theorem main_1_2 : Claimed_1_2 := comes_1 fun _ _ _ _ _ _ h hF => ⟨h.2.1, hF⟩
end Jvm.Pilot.@@N@@
namespace Jvm.Pilot.@@N@@
open Jvm Jvm.ClassFile Sem Op Lib Jvm.Free Jvm.Stand Jvm.Pilot.@@N@@.Jvm.D
/-! MADE BY PROGRAM (witnessworld.py) out of the Statement's table words and the real class files: 30 classes; the members and pool entries that the words name. The judged class is class 1, her method 1. -/
namespace start1
open Jvm.ClassFile
def u (s : String) : CpInfo := .utf8 (stringToUtf16 s)
/-- a pool by its gaps: so many unusable entries, then the entry; so many at the end -/
def gap : Nat → List CpInfo → List CpInfo
  | 0, r => r
  | n + 1, r => .unusable :: gap n r
def poolList (es : List (Nat × CpInfo)) (last : Nat) : List CpInfo := es.foldr (fun e r => gap e.1 (e.2 :: r)) (gap last [])
def pool (es : List (Nat × CpInfo)) (last : Nat) : Array CpInfo := ⟨poolList es last⟩
def fileOf (pool : Array CpInfo) (this : Nat) (attrs : Array Attribute := #[]) (ms : Array MethodInfo := #[]) (fl : Nat := 33) (sup : Nat := 0) (ifs : Array Nat := #[]) (fds : Array FieldInfo := #[]) : ClassFile where
  minorVersion := 0
  majorVersion := 65
  constantPool := pool
  accessFlags := fl
  thisClass := this
  superClass := sup
  interfaces := ifs
  fields := fds
  methods := ms
  attributes := attrs
def plain (name : String) (sup : Option ClassId) : Class where
  name := name
  kind := .ordinary
  loader := none
  accessFlags := 33
  super := sup
  interfaces := #[]
  cf := none
  fields := #[]
  methods := #[]
  instanceTypes := #[]
  staticTypes := #[]
  resolved := #[]
  callSites := []
  init := .initialized
  statics := none
  mirror := none

def pool0 : Array CpInfo := pool [(5, u "<init>"), (0, u "()V"), (1, .class_ 10), (1, u "java/lang/Object"), (85, u "clone"), (0, u "()Ljava/lang/Object;")] 26

def k0c0 : Code := { maxStack := 0, maxLocals := 1, code := object_method_1_code, exceptionTable := #[], attributes := #[] }
def k0m0 : Method := { name := "<init>", desc := "()V", sig := { parameters := [], returnType := none }, accessFlags := 1, code := some k0c0 }
def k0m1 : Method := { name := "clone", desc := "()Ljava/lang/Object;", sig := { parameters := [], returnType := some (.object "java/lang/Object") }, accessFlags := 260, code := none }
/-- java/lang/Object -/
def k0 : Class := { plain "java/lang/Object" none with
  accessFlags := 33
  interfaces := #[]
  cf := some (fileOf pool0 8 #[] #[{ accessFlags := 1, nameIndex := 5, descriptorIndex := 6, attributes := #[] }, { accessFlags := 260, nameIndex := 96, descriptorIndex := 97, attributes := #[] }] 33 0 #[] #[])
  fields := #[]
  methods := #[k0m0, k0m1]
  instanceTypes := #[]
  staticTypes := #[]
  resolved := Array.replicate 124 none
  statics := none }

def pool1 : Array CpInfo := pool [(2, .class_ 4), (1, u "java/lang/Object"), (0, u "<init>"), (0, u "()V"), (0, .fieldref 8 9), (0, .class_ 10), (0, .nameAndType 11 12), (0, u "com/example/ombor/ombor/db/Keyspace"), (0, u "PRODUCTS"), (0, u "Lcom/example/ombor/ombor/db/Keyspace;"), (0, .fieldref 8 14), (0, .nameAndType 15 12), (0, u "OPERATIONS"), (0, .fieldref 8 17), (0, .nameAndType 18 12), (0, u "OPERATIONS_WITHOUT_RECEIPT"), (0, .fieldref 8 20), (0, .nameAndType 21 12), (0, u "ENTITIES"), (0, .class_ 23), (0, u "java/lang/String"), (0, .methodref 22 25), (0, .nameAndType 5 26), (0, u "([C)V"), (0, .methodref 8 28), (0, .nameAndType 29 30), (0, u "end"), (0, u "()[B"), (0, .methodref 8 32), (0, .nameAndType 33 34), (0, u "holds"), (0, u "([B)Z"), (0, .methodref 8 36), (0, .nameAndType 37 38), (0, u "key"), (0, u "(Ljava/lang/String;)[B"), (0, .class_ 40), (0, u "com/example/ombor/ombor/db/KeyspaceEndPinLaw"), (2, u "law"), (0, u "(III)Z")] 7

def k1m0 : Method := { name := "<init>", desc := "()V", sig := { parameters := [], returnType := none }, accessFlags := 1, code := none }
def k1c1 : Code := { maxStack := 4, maxLocals := 10, code := code, exceptionTable := #[], attributes := #[] }
def k1m1 : Method := { name := "law", desc := "(III)Z", sig := { parameters := [.int, .int, .int], returnType := some .boolean }, accessFlags := 9, code := some k1c1 }
/-- com/example/ombor/ombor/db/KeyspaceEndPinLaw -/
def k1 : Class := { plain "com/example/ombor/ombor/db/KeyspaceEndPinLaw" (some 0) with
  accessFlags := 49
  interfaces := #[]
  cf := some (fileOf pool1 39 #[] #[{ accessFlags := 1, nameIndex := 5, descriptorIndex := 6, attributes := #[] }, { accessFlags := 9, nameIndex := 43, descriptorIndex := 44, attributes := #[] }] 49 2 #[] #[])
  fields := #[]
  methods := #[k1m0, k1m1]
  instanceTypes := #[]
  staticTypes := #[]
  resolved := Array.replicate 52 none
  statics := none }

def pool2 : Array CpInfo := pool [(1, .class_ 2), (0, u "java/lang/constant/Constable"), (0, .class_ 4), (0, u "java/lang/Object")] 6

/-- java/lang/constant/Constable -/
def k2 : Class := { plain "java/lang/constant/Constable" (some 0) with
  accessFlags := 1537
  interfaces := #[]
  cf := some (fileOf pool2 1 #[] #[] 1537 3 #[] #[])
  fields := #[]
  methods := #[]
  instanceTypes := #[]
  staticTypes := #[]
  resolved := Array.replicate 11 none
  statics := none }

def pool3 : Array CpInfo := pool [(1, .class_ 2), (0, u "java/lang/Comparable"), (0, .class_ 4), (0, u "java/lang/Object")] 7

/-- java/lang/Comparable -/
def k3 : Class := { plain "java/lang/Comparable" (some 0) with
  accessFlags := 1537
  interfaces := #[]
  cf := some (fileOf pool3 1 #[] #[] 1537 3 #[] #[])
  fields := #[]
  methods := #[]
  instanceTypes := #[]
  staticTypes := #[]
  resolved := Array.replicate 12 none
  statics := none }

def pool4 : Array CpInfo := pool [(1, .class_ 2), (0, u "java/io/Serializable"), (0, .class_ 4), (0, u "java/lang/Object")] 2

/-- java/io/Serializable -/
def k4 : Class := { plain "java/io/Serializable" (some 0) with
  accessFlags := 1537
  interfaces := #[]
  cf := some (fileOf pool4 1 #[] #[] 1537 3 #[] #[])
  fields := #[]
  methods := #[]
  instanceTypes := #[]
  staticTypes := #[]
  resolved := Array.replicate 7 none
  statics := none }

def pool5 : Array CpInfo := pool [(2, .class_ 4), (1, u "java/lang/Enum"), (0, u "name"), (0, u "Ljava/lang/String;"), (2, u "ordinal"), (0, u "I"), (1, .class_ 14), (1, u "java/lang/Object"), (4, u "hash"), (86, .class_ 108), (1, u "java/lang/Enum$EnumDesc"), (2, .class_ 112), (0, u "java/lang/constant/Constable"), (0, .class_ 114), (0, u "java/lang/Comparable"), (0, .class_ 116), (0, u "java/io/Serializable")] 87

/-- java/lang/Enum -/
def k5 : Class := { plain "java/lang/Enum" (some 0) with
  accessFlags := 1057
  interfaces := #[2, 3, 4]
  cf := some (fileOf pool5 2 #[.nestMembers #[106]] #[] 1057 12 #[111, 113, 115] #[{ accessFlags := 18, nameIndex := 5, descriptorIndex := 6, attributes := #[] }, { accessFlags := 18, nameIndex := 9, descriptorIndex := 10, attributes := #[] }, { accessFlags := 2, nameIndex := 19, descriptorIndex := 10, attributes := #[] }])
  fields := #[{ name := "name", type := (.object "java/lang/String"), accessFlags := 18, slot := 0, constantValue := 0 }, { name := "ordinal", type := .int, accessFlags := 18, slot := 1, constantValue := 0 }, { name := "hash", type := .int, accessFlags := 2, slot := 2, constantValue := 0 }]
  methods := #[]
  instanceTypes := #[(.object "java/lang/String"), .int, .int]
  staticTypes := #[]
  resolved := Array.replicate 204 none
  statics := none }

def pool6 : Array CpInfo := pool [(1, .class_ 2), (0, u "com/example/ombor/ombor/db/Keyspace"), (2, u "PRODUCTS"), (0, u "Lcom/example/ombor/ombor/db/Keyspace;"), (2, u "OPERATIONS"), (2, u "OPERATIONS_WITHOUT_RECEIPT"), (2, u "ENTITIES"), (2, u "$VALUES"), (0, u "[Lcom/example/ombor/ombor/db/Keyspace;"), (6, .class_ 28), (1, u "java/lang/Enum"), (6, .fieldref 1 36), (0, .nameAndType 37 38), (0, u "prefix"), (0, u "B"), (0, .fieldref 40 41), (0, .class_ 42), (0, .nameAndType 43 44), (0, u "java/nio/charset/StandardCharsets"), (0, u "UTF_8"), (0, u "Ljava/nio/charset/Charset;"), (0, .methodref 46 47), (0, .class_ 48), (0, .nameAndType 49 50), (0, u "java/lang/String"), (0, u "getBytes"), (0, u "(Ljava/nio/charset/Charset;)[B"), (0, .methodref 52 53), (0, .class_ 54), (0, .nameAndType 55 56), (0, u "java/lang/System"), (0, u "arraycopy"), (0, u "(Ljava/lang/Object;ILjava/lang/Object;II)V"), (21, u "key"), (0, u "(Ljava/lang/String;)[B"), (0, u "end"), (0, u "()[B"), (0, u "holds"), (0, u "([B)Z")] 8

def k6c0 : Code := { maxStack := 5, maxLocals := 4, code := prog_11_method_4_code, exceptionTable := #[], attributes := #[] }
def k6m0 : Method := { name := "key", desc := "(Ljava/lang/String;)[B", sig := { parameters := [(.object "java/lang/String")], returnType := some (.array .byte) }, accessFlags := 0, code := some k6c0 }
def k6c1 : Code := { maxStack := 5, maxLocals := 1, code := prog_11_method_5_code, exceptionTable := #[], attributes := #[] }
def k6m1 : Method := { name := "end", desc := "()[B", sig := { parameters := [], returnType := some (.array .byte) }, accessFlags := 0, code := some k6c1 }
def k6c2 : Code := { maxStack := 2, maxLocals := 2, code := prog_11_method_6_code, exceptionTable := #[], attributes := #[] }
def k6m2 : Method := { name := "holds", desc := "([B)Z", sig := { parameters := [(.array .byte)], returnType := some .boolean }, accessFlags := 0, code := some k6c2 }
/-- com/example/ombor/ombor/db/Keyspace -/
def k6 : Class := { plain "com/example/ombor/ombor/db/Keyspace" (some 5) with
  accessFlags := 16433
  interfaces := #[]
  cf := some (fileOf pool6 1 #[] #[{ accessFlags := 0, nameIndex := 78, descriptorIndex := 79, attributes := #[] }, { accessFlags := 0, nameIndex := 80, descriptorIndex := 81, attributes := #[] }, { accessFlags := 0, nameIndex := 82, descriptorIndex := 83, attributes := #[] }] 16433 26 #[] #[{ accessFlags := 16409, nameIndex := 5, descriptorIndex := 6, attributes := #[] }, { accessFlags := 16409, nameIndex := 9, descriptorIndex := 6, attributes := #[] }, { accessFlags := 16409, nameIndex := 12, descriptorIndex := 6, attributes := #[] }, { accessFlags := 16409, nameIndex := 15, descriptorIndex := 6, attributes := #[] }, { accessFlags := 18, nameIndex := 37, descriptorIndex := 38, attributes := #[] }, { accessFlags := 4122, nameIndex := 18, descriptorIndex := 19, attributes := #[] }])
  fields := #[{ name := "PRODUCTS", type := (.object "com/example/ombor/ombor/db/Keyspace"), accessFlags := 16409, slot := 0, constantValue := 0 }, { name := "OPERATIONS", type := (.object "com/example/ombor/ombor/db/Keyspace"), accessFlags := 16409, slot := 1, constantValue := 0 }, { name := "OPERATIONS_WITHOUT_RECEIPT", type := (.object "com/example/ombor/ombor/db/Keyspace"), accessFlags := 16409, slot := 2, constantValue := 0 }, { name := "ENTITIES", type := (.object "com/example/ombor/ombor/db/Keyspace"), accessFlags := 16409, slot := 3, constantValue := 0 }, { name := "prefix", type := .byte, accessFlags := 18, slot := 3, constantValue := 0 }, { name := "$VALUES", type := (.array (.object "com/example/ombor/ombor/db/Keyspace")), accessFlags := 4122, slot := 4, constantValue := 0 }]
  methods := #[k6m0, k6m1, k6m2]
  instanceTypes := #[(.object "java/lang/String"), .int, .int, .byte]
  staticTypes := #[(.object "com/example/ombor/ombor/db/Keyspace"), (.object "com/example/ombor/ombor/db/Keyspace"), (.object "com/example/ombor/ombor/db/Keyspace"), (.object "com/example/ombor/ombor/db/Keyspace"), (.array (.object "com/example/ombor/ombor/db/Keyspace"))]
  resolved := Array.replicate 92 none
  statics := some 0 }

def pool7 : Array CpInfo := pool [(2, .class_ 4), (1, u "java/lang/CharSequence"), (42, .class_ 48), (0, u "java/lang/CharSequence$1CodePointIterator"), (10, .class_ 60), (0, u "java/lang/CharSequence$1CharIterator"), (5, .class_ 67), (0, u "java/lang/Object")] 63

/-- java/lang/CharSequence -/
def k7 : Class := { plain "java/lang/CharSequence" (some 0) with
  accessFlags := 1537
  interfaces := #[]
  cf := some (fileOf pool7 2 #[.nestMembers #[47, 59]] #[] 1537 66 #[] #[])
  fields := #[]
  methods := #[]
  instanceTypes := #[]
  staticTypes := #[]
  resolved := Array.replicate 131 none
  statics := none }

def pool8 : Array CpInfo := pool [(1, .class_ 2), (0, u "java/lang/constant/ConstantDesc"), (0, .class_ 4), (0, u "java/lang/Object")] 32

/-- java/lang/constant/ConstantDesc -/
def k8 : Class := { plain "java/lang/constant/ConstantDesc" (some 0) with
  accessFlags := 1537
  interfaces := #[]
  cf := some (fileOf pool8 1 #[] #[] 1537 3 #[] #[])
  fields := #[]
  methods := #[]
  instanceTypes := #[]
  staticTypes := #[]
  resolved := Array.replicate 37 none
  statics := none }

def pool9 : Array CpInfo := pool [(1, .methodref 2 3), (0, .class_ 4), (0, .nameAndType 5 6), (0, u "java/lang/Object"), (0, u "<init>"), (0, u "()V"), (2, .fieldref 10 11), (0, .class_ 12), (0, .nameAndType 13 14), (0, u "java/lang/String"), (0, u "value"), (0, u "[B"), (0, .fieldref 10 16), (0, .nameAndType 17 18), (0, u "coder"), (0, u "B"), (2, u "hash"), (0, u "I"), (2, u "hashIsZero"), (0, u "Z"), (0, .methodref 10 28), (0, .nameAndType 5 29), (0, u "([CIILjava/lang/Void;)V"), (8, .fieldref 10 39), (0, .nameAndType 40 26), (0, u "COMPACT_STRINGS"), (1, .class_ 44), (1, u "java/lang/StringUTF16"), (0, u "compress"), (1, .methodref 42 48), (0, .nameAndType 49 50), (0, u "coderFromArrayLen"), (0, u "([BI)B"), (4, .class_ 57), (1, u "java/util/Arrays"), (2, .methodref 42 61), (0, .nameAndType 62 63), (0, u "newBytesFor"), (0, u "(I)[B"), (22, .fieldref 87 88), (0, .class_ 89), (0, .nameAndType 90 91), (0, u "sun/nio/cs/UTF_8"), (0, u "INSTANCE"), (0, u "Lsun/nio/cs/UTF_8;"), (1, .class_ 95), (1, u "java/lang/StringCoding"), (6, .methodref 55 103), (0, .nameAndType 104 105), (0, u "copyOf"), (0, u "([BI)[B"), (22, .methodref 93 129), (0, .nameAndType 130 131), (0, u "hasNegatives"), (0, u "([BII)Z"), (45, .methodref 42 178), (0, .nameAndType 45 179), (0, u "([CII)[B"), (72, .methodref 10 253), (0, .nameAndType 254 255), (0, u "encodeUTF8"), (0, u "(B[BZ)[B"), (23, .methodref 280 281), (0, .class_ 14), (0, .nameAndType 282 283), (0, u "clone"), (0, u "()Ljava/lang/Object;"), (33, u "encode"), (17, .methodref 10 336), (0, .nameAndType 17 337), (0, u "()B"), (194, u "getBytes"), (2, .methodref 10 536), (0, .nameAndType 317 537), (0, u "(Ljava/nio/charset/Charset;B[B)[B"), (37, .class_ 576), (0, u "java/lang/CharSequence"), (22, u "CASE_INSENSITIVE_ORDER"), (0, u "Ljava/util/Comparator;"), (409, u "([C)V"), (90, u "serialPersistentFields"), (0, u "[Ljava/io/ObjectStreamField;"), (0, .class_ 1104), (0, u "java/lang/String$CaseInsensitiveComparator"), (1, .class_ 1107), (0, u "java/io/Serializable"), (0, .class_ 1109), (0, u "java/lang/Comparable"), (0, .class_ 1111), (0, u "java/lang/constant/Constable"), (0, .class_ 1113), (0, u "java/lang/constant/ConstantDesc"), (2, u "serialVersionUID"), (0, u "J"), (3, u "REPL"), (0, u "C"), (2, u "LATIN1"), (1, u "UTF16"), (117, u "(Ljava/nio/charset/Charset;)[B")] 205

def k9m0 : Method := { name := "<init>", desc := "()V", sig := { parameters := [], returnType := none }, accessFlags := 1, code := none }
def k9c1 : Code := { maxStack := 5, maxLocals := 2, code := jdk_42_method_3_code, exceptionTable := #[], attributes := #[] }
def k9m1 : Method := { name := "<init>", desc := "([C)V", sig := { parameters := [(.array .char)], returnType := none }, accessFlags := 1, code := some k9c1 }
def k9c2 : Code := { maxStack := 4, maxLocals := 3, code := jdk_42_method_18_code, exceptionTable := #[], attributes := #[] }
def k9m2 : Method := { name := "encode", desc := "(Ljava/nio/charset/Charset;B[B)[B", sig := { parameters := [(.object "java/nio/charset/Charset"), .byte, (.array .byte)], returnType := some (.array .byte) }, accessFlags := 10, code := some k9c2 }
def k9c3 : Code := { maxStack := 5, maxLocals := 9, code := jdk_42_method_46_code, exceptionTable := #[], attributes := #[] }
def k9m3 : Method := { name := "encodeUTF8", desc := "(B[BZ)[B", sig := { parameters := [.byte, (.array .byte), .boolean], returnType := some (.array .byte) }, accessFlags := 10, code := some k9c3 }
def k9c4 : Code := { maxStack := 3, maxLocals := 2, code := jdk_42_method_64_code, exceptionTable := #[], attributes := #[] }
def k9m4 : Method := { name := "getBytes", desc := "(Ljava/nio/charset/Charset;)[B", sig := { parameters := [(.object "java/nio/charset/Charset")], returnType := some (.array .byte) }, accessFlags := 1, code := some k9c4 }
def k9c5 : Code := { maxStack := 4, maxLocals := 6, code := jdk_42_method_149_code, exceptionTable := #[], attributes := #[] }
def k9m5 : Method := { name := "<init>", desc := "([CIILjava/lang/Void;)V", sig := { parameters := [(.array .char), .int, .int, (.object "java/lang/Void")], returnType := none }, accessFlags := 2, code := some k9c5 }
def k9c6 : Code := { maxStack := 1, maxLocals := 1, code := jdk_42_method_152_code, exceptionTable := #[], attributes := #[] }
def k9m6 : Method := { name := "coder", desc := "()B", sig := { parameters := [], returnType := some .byte }, accessFlags := 0, code := some k9c6 }
/-- java/lang/String -/
def k9 : Class := { plain "java/lang/String" (some 0) with
  accessFlags := 49
  interfaces := #[4, 3, 7, 2, 8]
  cf := some (fileOf pool9 10 #[.nestMembers #[1103]] #[{ accessFlags := 1, nameIndex := 5, descriptorIndex := 6, attributes := #[] }, { accessFlags := 1, nameIndex := 5, descriptorIndex := 1010, attributes := #[] }, { accessFlags := 10, nameIndex := 317, descriptorIndex := 537, attributes := #[] }, { accessFlags := 10, nameIndex := 254, descriptorIndex := 255, attributes := #[] }, { accessFlags := 1, nameIndex := 532, descriptorIndex := 1245, attributes := #[] }, { accessFlags := 2, nameIndex := 5, descriptorIndex := 29, attributes := #[] }, { accessFlags := 0, nameIndex := 17, descriptorIndex := 337, attributes := #[] }] 49 2 #[1106, 1108, 575, 1110, 1112] #[{ accessFlags := 18, nameIndex := 13, descriptorIndex := 14, attributes := #[] }, { accessFlags := 18, nameIndex := 17, descriptorIndex := 18, attributes := #[] }, { accessFlags := 2, nameIndex := 21, descriptorIndex := 22, attributes := #[] }, { accessFlags := 2, nameIndex := 25, descriptorIndex := 26, attributes := #[] }, { accessFlags := 26, nameIndex := 1116, descriptorIndex := 1117, attributes := #[] }, { accessFlags := 24, nameIndex := 40, descriptorIndex := 26, attributes := #[] }, { accessFlags := 26, nameIndex := 1101, descriptorIndex := 1102, attributes := #[] }, { accessFlags := 26, nameIndex := 1121, descriptorIndex := 1122, attributes := #[] }, { accessFlags := 25, nameIndex := 599, descriptorIndex := 600, attributes := #[] }, { accessFlags := 24, nameIndex := 1125, descriptorIndex := 18, attributes := #[] }, { accessFlags := 24, nameIndex := 1127, descriptorIndex := 18, attributes := #[] }])
  fields := #[{ name := "value", type := (.array .byte), accessFlags := 18, slot := 0, constantValue := 0 }, { name := "coder", type := .byte, accessFlags := 18, slot := 1, constantValue := 0 }, { name := "hash", type := .int, accessFlags := 2, slot := 2, constantValue := 0 }, { name := "hashIsZero", type := .boolean, accessFlags := 2, slot := 3, constantValue := 0 }, { name := "serialVersionUID", type := .long, accessFlags := 26, slot := 0, constantValue := 0 }, { name := "COMPACT_STRINGS", type := .boolean, accessFlags := 24, slot := 1, constantValue := 0 }, { name := "serialPersistentFields", type := (.array (.object "java/io/ObjectStreamField")), accessFlags := 26, slot := 2, constantValue := 0 }, { name := "REPL", type := .char, accessFlags := 26, slot := 3, constantValue := 0 }, { name := "CASE_INSENSITIVE_ORDER", type := (.object "java/util/Comparator"), accessFlags := 25, slot := 4, constantValue := 0 }, { name := "LATIN1", type := .byte, accessFlags := 24, slot := 5, constantValue := 0 }, { name := "UTF16", type := .byte, accessFlags := 24, slot := 6, constantValue := 0 }]
  methods := #[k9m0, k9m1, k9m2, k9m3, k9m4, k9m5, k9m6]
  instanceTypes := #[(.array .byte), .byte, .int, .boolean]
  staticTypes := #[.long, .boolean, (.array (.object "java/io/ObjectStreamField")), .char, (.object "java/util/Comparator"), .byte, .byte]
  resolved := Array.replicate 1451 none
  statics := some 1 }

def pool10 : Array CpInfo := pool [(6, .class_ 8), (1, u "java/lang/Object"), (0, u "<init>"), (0, u "()V"), (0, .methodref 12 13), (0, .class_ 14), (0, .nameAndType 15 16), (0, u "java/lang/StringUTF16"), (0, u "newBytesLength"), (0, u "(I)I"), (3, .integer 1073741823), (25, u "$assertionsDisabled"), (0, u "Z"), (13, u "HI_BYTE_SHIFT"), (0, u "I"), (2, u "LO_BYTE_SHIFT"), (43, u "newBytesFor"), (0, u "(I)[B"), (4, .methodref 12 116), (0, .nameAndType 117 118), (0, u "compress"), (0, u "([CI[BII)I"), (3, u "([CII)[B"), (138, u "coderFromArrayLen"), (0, u "([BI)B"), (106, .class_ 371), (1, u "java/lang/StringUTF16$LinesSpliterator"), (58, u "MAX_LENGTH"), (196, .class_ 628), (0, u "java/lang/StringUTF16$CodePointsSpliterator"), (0, .class_ 630), (0, u "java/lang/StringUTF16$CharsSpliterator")] 4

def k10m0 : Method := { name := "<init>", desc := "()V", sig := { parameters := [], returnType := none }, accessFlags := 0, code := none }
def k10c1 : Code := { maxStack := 1, maxLocals := 1, code := jdk_52_method_2_code, exceptionTable := #[], attributes := #[] }
def k10m1 : Method := { name := "newBytesFor", desc := "(I)[B", sig := { parameters := [.int], returnType := some (.array .byte) }, accessFlags := 9, code := some k10c1 }
def k10c2 : Code := { maxStack := 4, maxLocals := 1, code := jdk_52_method_3_code, exceptionTable := #[], attributes := #[] }
def k10m2 : Method := { name := "newBytesLength", desc := "(I)I", sig := { parameters := [.int], returnType := some .int }, accessFlags := 9, code := some k10c2 }
def k10c3 : Code := { maxStack := 2, maxLocals := 2, code := jdk_52_method_15_code, exceptionTable := #[], attributes := #[] }
def k10m3 : Method := { name := "coderFromArrayLen", desc := "([BI)B", sig := { parameters := [(.array .byte), .int], returnType := some .byte }, accessFlags := 8, code := some k10c3 }
def k10c4 : Code := { maxStack := 5, maxLocals := 6, code := jdk_52_method_16_code, exceptionTable := #[], attributes := #[] }
def k10m4 : Method := { name := "compress", desc := "([CII)[B", sig := { parameters := [(.array .char), .int, .int], returnType := some (.array .byte) }, accessFlags := 9, code := some k10c4 }
def k10c5 : Code := { maxStack := 3, maxLocals := 7, code := jdk_52_method_21_code, exceptionTable := #[], attributes := #[] }
def k10m5 : Method := { name := "compress", desc := "([CI[BII)I", sig := { parameters := [(.array .char), .int, (.array .byte), .int, .int], returnType := some .int }, accessFlags := 9, code := some k10c5 }
/-- java/lang/StringUTF16 -/
def k10 : Class := { plain "java/lang/StringUTF16" (some 0) with
  accessFlags := 48
  interfaces := #[]
  cf := some (fileOf pool10 12 #[.nestMembers #[627, 629, 369]] #[{ accessFlags := 0, nameIndex := 9, descriptorIndex := 10, attributes := #[] }, { accessFlags := 9, nameIndex := 109, descriptorIndex := 110, attributes := #[] }, { accessFlags := 9, nameIndex := 15, descriptorIndex := 16, attributes := #[] }, { accessFlags := 8, nameIndex := 261, descriptorIndex := 262, attributes := #[] }, { accessFlags := 9, nameIndex := 117, descriptorIndex := 122, attributes := #[] }, { accessFlags := 9, nameIndex := 117, descriptorIndex := 118, attributes := #[] }] 48 6 #[] #[{ accessFlags := 26, nameIndex := 61, descriptorIndex := 62, attributes := #[] }, { accessFlags := 26, nameIndex := 65, descriptorIndex := 62, attributes := #[] }, { accessFlags := 24, nameIndex := 430, descriptorIndex := 62, attributes := #[] }, { accessFlags := 4120, nameIndex := 46, descriptorIndex := 47, attributes := #[] }])
  fields := #[{ name := "HI_BYTE_SHIFT", type := .int, accessFlags := 26, slot := 0, constantValue := 0 }, { name := "LO_BYTE_SHIFT", type := .int, accessFlags := 26, slot := 1, constantValue := 0 }, { name := "MAX_LENGTH", type := .int, accessFlags := 24, slot := 2, constantValue := 0 }, { name := "$assertionsDisabled", type := .boolean, accessFlags := 4120, slot := 3, constantValue := 0 }]
  methods := #[k10m0, k10m1, k10m2, k10m3, k10m4, k10m5]
  instanceTypes := #[]
  staticTypes := #[.int, .int, .int, .boolean]
  resolved := Array.replicate 635 none
  statics := none }

def pool11 : Array CpInfo := pool [(2, .class_ 4), (1, u "java/lang/Object"), (0, u "<init>"), (0, u "()V"), (14, .class_ 23), (1, u "java/nio/charset/StandardCharsets"), (0, u "US_ASCII"), (0, u "Ljava/nio/charset/Charset;"), (7, u "ISO_8859_1"), (7, u "UTF_8"), (5, u "UTF_16BE"), (5, u "UTF_16LE"), (5, u "UTF_16")] 8

def k11m0 : Method := { name := "<init>", desc := "()V", sig := { parameters := [], returnType := none }, accessFlags := 2, code := none }
/-- java/nio/charset/StandardCharsets -/
def k11 : Class := { plain "java/nio/charset/StandardCharsets" (some 0) with
  accessFlags := 49
  interfaces := #[]
  cf := some (fileOf pool11 21 #[] #[{ accessFlags := 2, nameIndex := 5, descriptorIndex := 6, attributes := #[] }] 49 2 #[] #[{ accessFlags := 25, nameIndex := 24, descriptorIndex := 25, attributes := #[] }, { accessFlags := 25, nameIndex := 33, descriptorIndex := 25, attributes := #[] }, { accessFlags := 25, nameIndex := 41, descriptorIndex := 25, attributes := #[] }, { accessFlags := 25, nameIndex := 47, descriptorIndex := 25, attributes := #[] }, { accessFlags := 25, nameIndex := 53, descriptorIndex := 25, attributes := #[] }, { accessFlags := 25, nameIndex := 59, descriptorIndex := 25, attributes := #[] }])
  fields := #[{ name := "US_ASCII", type := (.object "java/nio/charset/Charset"), accessFlags := 25, slot := 0, constantValue := 0 }, { name := "ISO_8859_1", type := (.object "java/nio/charset/Charset"), accessFlags := 25, slot := 1, constantValue := 0 }, { name := "UTF_8", type := (.object "java/nio/charset/Charset"), accessFlags := 25, slot := 2, constantValue := 0 }, { name := "UTF_16BE", type := (.object "java/nio/charset/Charset"), accessFlags := 25, slot := 3, constantValue := 0 }, { name := "UTF_16LE", type := (.object "java/nio/charset/Charset"), accessFlags := 25, slot := 4, constantValue := 0 }, { name := "UTF_16", type := (.object "java/nio/charset/Charset"), accessFlags := 25, slot := 5, constantValue := 0 }]
  methods := #[k11m0]
  instanceTypes := #[]
  staticTypes := #[(.object "java/nio/charset/Charset"), (.object "java/nio/charset/Charset"), (.object "java/nio/charset/Charset"), (.object "java/nio/charset/Charset"), (.object "java/nio/charset/Charset"), (.object "java/nio/charset/Charset")]
  resolved := Array.replicate 68 none
  statics := some 2 }

def pool12 : Array CpInfo := pool [(18, .class_ 20), (1, u "java/nio/charset/Charset"), (0, u "cache1"), (0, u "[Ljava/lang/Object;"), (2, u "cache2"), (0, .class_ 27), (0, u "java/lang/Object"), (0, .class_ 29), (0, u "java/nio/charset/Charset$1"), (4, .class_ 36), (1, u "java/nio/charset/Charset$ThreadTrackHolder"), (21, .class_ 59), (0, u "java/nio/charset/Charset$2"), (11, .class_ 73), (1, u "java/nio/charset/Charset$ExtendedProviderHolder"), (22, u "standardProvider"), (0, u "Ljava/nio/charset/spi/CharsetProvider;"), (29, u "name"), (7, .class_ 136), (0, u "java/nio/charset/Charset$3"), (5, u "defaultCharset"), (0, u "Ljava/nio/charset/Charset;"), (14, u "zeroAliases"), (0, u "[Ljava/lang/String;"), (29, u "Ljava/lang/String;"), (2, u "aliases"), (2, u "aliasSet"), (0, u "Ljava/util/Set;"), (82, .class_ 280), (0, u "java/lang/Comparable"), (84, .class_ 366), (0, u "java/nio/charset/Charset$ExtendedProviderHolder$1")] 3

/-- java/nio/charset/Charset -/
def k12 : Class := { plain "java/nio/charset/Charset" (some 0) with
  accessFlags := 1057
  interfaces := #[3]
  cf := some (fileOf pool12 18 #[.nestMembers #[71, 365, 34, 135, 58, 28]] #[] 1057 26 #[279] #[{ accessFlags := 26, nameIndex := 96, descriptorIndex := 97, attributes := #[] }, { accessFlags := 26, nameIndex := 158, descriptorIndex := 159, attributes := #[] }, { accessFlags := 74, nameIndex := 21, descriptorIndex := 22, attributes := #[] }, { accessFlags := 74, nameIndex := 25, descriptorIndex := 22, attributes := #[] }, { accessFlags := 10, nameIndex := 142, descriptorIndex := 143, attributes := #[] }, { accessFlags := 18, nameIndex := 127, descriptorIndex := 189, attributes := #[] }, { accessFlags := 18, nameIndex := 192, descriptorIndex := 159, attributes := #[] }, { accessFlags := 2, nameIndex := 195, descriptorIndex := 196, attributes := #[] }])
  fields := #[{ name := "standardProvider", type := (.object "java/nio/charset/spi/CharsetProvider"), accessFlags := 26, slot := 0, constantValue := 0 }, { name := "zeroAliases", type := (.array (.object "java/lang/String")), accessFlags := 26, slot := 1, constantValue := 0 }, { name := "cache1", type := (.array (.object "java/lang/Object")), accessFlags := 74, slot := 2, constantValue := 0 }, { name := "cache2", type := (.array (.object "java/lang/Object")), accessFlags := 74, slot := 3, constantValue := 0 }, { name := "defaultCharset", type := (.object "java/nio/charset/Charset"), accessFlags := 10, slot := 4, constantValue := 0 }, { name := "name", type := (.object "java/lang/String"), accessFlags := 18, slot := 0, constantValue := 0 }, { name := "aliases", type := (.array (.object "java/lang/String")), accessFlags := 18, slot := 1, constantValue := 0 }, { name := "aliasSet", type := (.object "java/util/Set"), accessFlags := 2, slot := 2, constantValue := 0 }]
  methods := #[]
  instanceTypes := #[(.object "java/lang/String"), (.array (.object "java/lang/String")), (.object "java/util/Set")]
  staticTypes := #[(.object "java/nio/charset/spi/CharsetProvider"), (.array (.object "java/lang/String")), (.array (.object "java/lang/Object")), (.array (.object "java/lang/Object")), (.object "java/nio/charset/Charset")]
  resolved := Array.replicate 370 none
  statics := none }

def pool13 : Array CpInfo := pool [(1, .class_ 2), (0, u "sun/nio/cs/HistoricallyNamedCharset"), (0, .class_ 4), (0, u "java/lang/Object")] 4

/-- sun/nio/cs/HistoricallyNamedCharset -/
def k13 : Class := { plain "sun/nio/cs/HistoricallyNamedCharset" (some 0) with
  accessFlags := 1537
  interfaces := #[]
  cf := some (fileOf pool13 1 #[] #[] 1537 3 #[] #[])
  fields := #[]
  methods := #[]
  instanceTypes := #[]
  staticTypes := #[]
  resolved := Array.replicate 9 none
  statics := none }

def pool14 : Array CpInfo := pool [(2, .class_ 4), (1, u "java/nio/charset/Charset"), (130, .class_ 136), (0, u "sun/nio/cs/Unicode"), (0, .class_ 138), (0, u "sun/nio/cs/HistoricallyNamedCharset")] 15

/-- sun/nio/cs/Unicode -/
def k14 : Class := { plain "sun/nio/cs/Unicode" (some 12) with
  accessFlags := 1056
  interfaces := #[13]
  cf := some (fileOf pool14 135 #[] #[] 1056 2 #[137] #[])
  fields := #[]
  methods := #[]
  instanceTypes := #[(.object "java/lang/String"), (.array (.object "java/lang/String")), (.object "java/util/Set")]
  staticTypes := #[]
  resolved := Array.replicate 154 none
  statics := none }

def pool15 : Array CpInfo := pool [(10, .class_ 12), (1, u "sun/nio/cs/Unicode"), (0, u "<init>"), (3, .class_ 18), (0, u "sun/nio/cs/UTF_8$Decoder"), (3, .class_ 23), (0, u "sun/nio/cs/UTF_8$Encoder"), (15, .class_ 40), (0, u "sun/nio/cs/UTF_8"), (2, u "()V"), (2, u "INSTANCE"), (0, u "Lsun/nio/cs/UTF_8;"), (8, u "JLA"), (0, u "Ljdk/internal/access/JavaLangAccess;")] 26

def k15m0 : Method := { name := "<init>", desc := "()V", sig := { parameters := [], returnType := none }, accessFlags := 1, code := none }
/-- sun/nio/cs/UTF_8 -/
def k15 : Class := { plain "sun/nio/cs/UTF_8" (some 14) with
  accessFlags := 49
  interfaces := #[]
  cf := some (fileOf pool15 39 #[.nestMembers #[22, 17]] #[{ accessFlags := 1, nameIndex := 13, descriptorIndex := 43, attributes := #[] }] 49 10 #[] #[{ accessFlags := 25, nameIndex := 46, descriptorIndex := 47, attributes := #[] }, { accessFlags := 26, nameIndex := 56, descriptorIndex := 57, attributes := #[] }])
  fields := #[{ name := "INSTANCE", type := (.object "sun/nio/cs/UTF_8"), accessFlags := 25, slot := 0, constantValue := 0 }, { name := "JLA", type := (.object "jdk/internal/access/JavaLangAccess"), accessFlags := 26, slot := 1, constantValue := 0 }]
  methods := #[k15m0]
  instanceTypes := #[(.object "java/lang/String"), (.array (.object "java/lang/String")), (.object "java/util/Set")]
  staticTypes := #[(.object "sun/nio/cs/UTF_8"), (.object "jdk/internal/access/JavaLangAccess")]
  resolved := Array.replicate 84 none
  statics := some 3 }

def pool16 : Array CpInfo := pool [(2, .class_ 4), (1, u "java/lang/Object"), (0, u "<init>"), (0, u "()V"), (0, .methodref 8 9), (0, .class_ 10), (0, .nameAndType 11 12), (0, u "java/lang/StringCoding"), (0, u "countPositives"), (0, u "([BII)I"), (11, u "hasNegatives"), (0, u "([BII)Z")] 23

def k16m0 : Method := { name := "<init>", desc := "()V", sig := { parameters := [], returnType := none }, accessFlags := 2, code := none }
def k16c1 : Code := { maxStack := 3, maxLocals := 3, code := jdk_123_method_2_code, exceptionTable := #[], attributes := #[] }
def k16m1 : Method := { name := "hasNegatives", desc := "([BII)Z", sig := { parameters := [(.array .byte), .int, .int], returnType := some .boolean }, accessFlags := 9, code := some k16c1 }
def k16c2 : Code := { maxStack := 2, maxLocals := 5, code := jdk_123_method_3_code, exceptionTable := #[], attributes := #[] }
def k16m2 : Method := { name := "countPositives", desc := "([BII)I", sig := { parameters := [(.array .byte), .int, .int], returnType := some .int }, accessFlags := 9, code := some k16c2 }
/-- java/lang/StringCoding -/
def k16 : Class := { plain "java/lang/StringCoding" (some 0) with
  accessFlags := 32
  interfaces := #[]
  cf := some (fileOf pool16 8 #[] #[{ accessFlags := 2, nameIndex := 5, descriptorIndex := 6, attributes := #[] }, { accessFlags := 9, nameIndex := 24, descriptorIndex := 25, attributes := #[] }, { accessFlags := 9, nameIndex := 11, descriptorIndex := 12, attributes := #[] }] 32 2 #[] #[])
  fields := #[]
  methods := #[k16m0, k16m1, k16m2]
  instanceTypes := #[]
  staticTypes := #[]
  resolved := Array.replicate 49 none
  statics := none }

def pool17 : Array CpInfo := pool [(1, .class_ 2), (0, u "java/lang/Cloneable"), (0, .class_ 4), (0, u "java/lang/Object")] 2

/-- java/lang/Cloneable -/
def k17 : Class := { plain "java/lang/Cloneable" (some 0) with
  accessFlags := 1537
  interfaces := #[]
  cf := some (fileOf pool17 1 #[] #[] 1537 3 #[] #[])
  fields := #[]
  methods := #[]
  instanceTypes := #[]
  staticTypes := #[]
  resolved := Array.replicate 7 none
  statics := none }

def pool18 : Array CpInfo := pool [(2, .class_ 4), (1, u "java/lang/Object"), (0, u "<init>"), (0, u "()V"), (1, .class_ 10), (1, u "java/lang/System"), (0, u "allowSecurityManager"), (0, u "I"), (16, u "cons"), (0, u "Ljava/io/Console;"), (77, .class_ 110), (1, u "java/lang/System$CallersHolder"), (43, u "initialErrStream"), (0, u "Ljava/io/PrintStream;"), (19, u "security"), (0, u "Ljava/lang/SecurityManager;"), (31, .class_ 209), (0, u "java/lang/System$1"), (7, u "props"), (0, u "Ljava/util/Properties;"), (2, u "lineSeparator"), (0, u "Ljava/lang/String;"), (96, .class_ 321), (1, u "java/lang/System$LoggerFinder"), (5, .class_ 328), (0, u "java/lang/System$Logger"), (67, u "err"), (2, u "out"), (91, u "notSupportedJnuEncoding"), (15, u "in"), (17, u "initialIn"), (0, u "Ljava/io/InputStream;"), (35, u "bootLayer"), (0, u "Ljava/lang/ModuleLayer;"), (99, .class_ 664), (0, u "java/lang/System$2"), (9, u "NEVER"), (2, u "MAYBE"), (49, u "arraycopy"), (0, u "(Ljava/lang/Object;ILjava/lang/Object;II)V"), (72, .class_ 802), (0, u "java/lang/System$Logger$Level")] 31

def k18m0 : Method := { name := "<init>", desc := "()V", sig := { parameters := [], returnType := none }, accessFlags := 2, code := none }
def k18m1 : Method := { name := "arraycopy", desc := "(Ljava/lang/Object;ILjava/lang/Object;II)V", sig := { parameters := [(.object "java/lang/Object"), .int, (.object "java/lang/Object"), .int, .int], returnType := none }, accessFlags := 265, code := none }
/-- java/lang/System -/
def k18 : Class := { plain "java/lang/System" (some 0) with
  accessFlags := 49
  interfaces := #[]
  cf := some (fileOf pool18 8 #[.nestMembers #[319, 327, 801, 108, 663, 208]] #[{ accessFlags := 2, nameIndex := 5, descriptorIndex := 6, attributes := #[] }, { accessFlags := 265, nameIndex := 727, descriptorIndex := 728, attributes := #[] }] 49 2 #[] #[{ accessFlags := 25, nameIndex := 507, descriptorIndex := 526, attributes := #[] }, { accessFlags := 25, nameIndex := 399, descriptorIndex := 155, attributes := #[] }, { accessFlags := 25, nameIndex := 396, descriptorIndex := 155, attributes := #[] }, { accessFlags := 10, nameIndex := 525, descriptorIndex := 526, attributes := #[] }, { accessFlags := 26, nameIndex := 674, descriptorIndex := 12, attributes := #[] }, { accessFlags := 26, nameIndex := 677, descriptorIndex := 12, attributes := #[] }, { accessFlags := 10, nameIndex := 11, descriptorIndex := 12, attributes := #[] }, { accessFlags := 74, nameIndex := 175, descriptorIndex := 176, attributes := #[] }, { accessFlags := 10, nameIndex := 491, descriptorIndex := 222, attributes := #[] }, { accessFlags := 74, nameIndex := 29, descriptorIndex := 30, attributes := #[] }, { accessFlags := 74, nameIndex := 154, descriptorIndex := 155, attributes := #[] }, { accessFlags := 10, nameIndex := 217, descriptorIndex := 218, attributes := #[] }, { accessFlags := 10, nameIndex := 221, descriptorIndex := 222, attributes := #[] }, { accessFlags := 8, nameIndex := 562, descriptorIndex := 563, attributes := #[] }])
  fields := #[{ name := "in", type := (.object "java/io/InputStream"), accessFlags := 25, slot := 0, constantValue := 0 }, { name := "out", type := (.object "java/io/PrintStream"), accessFlags := 25, slot := 1, constantValue := 0 }, { name := "err", type := (.object "java/io/PrintStream"), accessFlags := 25, slot := 2, constantValue := 0 }, { name := "initialIn", type := (.object "java/io/InputStream"), accessFlags := 10, slot := 3, constantValue := 0 }, { name := "NEVER", type := .int, accessFlags := 26, slot := 4, constantValue := 0 }, { name := "MAYBE", type := .int, accessFlags := 26, slot := 5, constantValue := 0 }, { name := "allowSecurityManager", type := .int, accessFlags := 10, slot := 6, constantValue := 0 }, { name := "security", type := (.object "java/lang/SecurityManager"), accessFlags := 74, slot := 7, constantValue := 0 }, { name := "notSupportedJnuEncoding", type := (.object "java/lang/String"), accessFlags := 10, slot := 8, constantValue := 0 }, { name := "cons", type := (.object "java/io/Console"), accessFlags := 74, slot := 9, constantValue := 0 }, { name := "initialErrStream", type := (.object "java/io/PrintStream"), accessFlags := 74, slot := 10, constantValue := 0 }, { name := "props", type := (.object "java/util/Properties"), accessFlags := 10, slot := 11, constantValue := 0 }, { name := "lineSeparator", type := (.object "java/lang/String"), accessFlags := 10, slot := 12, constantValue := 0 }, { name := "bootLayer", type := (.object "java/lang/ModuleLayer"), accessFlags := 8, slot := 13, constantValue := 0 }]
  methods := #[k18m0, k18m1]
  instanceTypes := #[]
  staticTypes := #[(.object "java/io/InputStream"), (.object "java/io/PrintStream"), (.object "java/io/PrintStream"), (.object "java/io/InputStream"), .int, .int, .int, (.object "java/lang/SecurityManager"), (.object "java/lang/String"), (.object "java/io/Console"), (.object "java/io/PrintStream"), (.object "java/util/Properties"), (.object "java/lang/String"), (.object "java/lang/ModuleLayer")]
  resolved := Array.replicate 834 none
  statics := none }

def pool19 : Array CpInfo := pool [(2, .class_ 4), (1, u "java/lang/Object"), (0, u "<init>"), (0, u "()V"), (7, .class_ 16), (1, u "java/util/Arrays"), (57, .class_ 76), (1, u "java/util/Arrays$NaturalOrder"), (36, .class_ 115), (1, u "java/util/Arrays$LegacyMergeSort"), (1, u "Z"), (32, .methodref 151 152), (0, .class_ 153), (0, .nameAndType 154 155), (0, u "java/lang/System"), (0, u "arraycopy"), (0, u "(Ljava/lang/Object;ILjava/lang/Object;II)V"), (146, u "copyOf"), (1, .methodref 305 306), (0, .class_ 307), (0, .nameAndType 308 309), (0, u "java/lang/Math"), (0, u "min"), (0, u "(II)I"), (65, .class_ 376), (0, u "java/util/Arrays$ArrayList"), (68, u "$assertionsDisabled"), (269, u "MIN_ARRAY_SORT_GRAN"), (0, u "I"), (2, u "INSERTIONSORT_THRESHOLD"), (149, u "([BI)[B"), (105, .class_ 976), (0, u "java/util/Arrays$ArrayItr")] 52

def k19m0 : Method := { name := "<init>", desc := "()V", sig := { parameters := [], returnType := none }, accessFlags := 2, code := none }
def k19c1 : Code := { maxStack := 6, maxLocals := 3, code := jdk_65_method_121_code, exceptionTable := #[], attributes := #[] }
def k19m1 : Method := { name := "copyOf", desc := "([BI)[B", sig := { parameters := [(.array .byte), .int], returnType := some (.array .byte) }, accessFlags := 9, code := some k19c1 }
/-- java/util/Arrays -/
def k19 : Class := { plain "java/util/Arrays" (some 0) with
  accessFlags := 49
  interfaces := #[]
  cf := some (fileOf pool19 14 #[.nestMembers #[975, 375, 113, 74]] #[{ accessFlags := 2, nameIndex := 5, descriptorIndex := 6, attributes := #[] }, { accessFlags := 9, nameIndex := 302, descriptorIndex := 869, attributes := #[] }] 49 2 #[] #[{ accessFlags := 26, nameIndex := 715, descriptorIndex := 716, attributes := #[] }, { accessFlags := 26, nameIndex := 719, descriptorIndex := 716, attributes := #[] }, { accessFlags := 4120, nameIndex := 445, descriptorIndex := 117, attributes := #[] }])
  fields := #[{ name := "MIN_ARRAY_SORT_GRAN", type := .int, accessFlags := 26, slot := 0, constantValue := 0 }, { name := "INSERTIONSORT_THRESHOLD", type := .int, accessFlags := 26, slot := 1, constantValue := 0 }, { name := "$assertionsDisabled", type := .boolean, accessFlags := 4120, slot := 2, constantValue := 0 }]
  methods := #[k19m0, k19m1]
  instanceTypes := #[]
  staticTypes := #[.int, .int, .boolean]
  resolved := Array.replicate 1029 none
  statics := none }

def pool20 : Array CpInfo := pool [(1, .class_ 2), (0, u "java/lang/Math"), (1, .class_ 6), (1, u "java/lang/Object"), (0, u "<init>"), (0, u "()V"), (89, .class_ 100), (1, u "java/lang/Math$RandomNumberGeneratorHolder"), (71, u "negativeZeroFloatBits"), (0, u "J"), (2, u "negativeZeroDoubleBits"), (24, u "min"), (43, u "$assertionsDisabled"), (0, u "Z"), (88, u "(II)I"), (2, u "twoToTheDoubleScaleDown"), (0, u "D"), (4, u "twoToTheDoubleScaleUp"), (9, u "E"), (3, u "PI"), (2, u "TAU"), (2, u "DEGREES_TO_RADIANS"), (0, u "RADIANS_TO_DEGREES")] 94

def k20m0 : Method := { name := "<init>", desc := "()V", sig := { parameters := [], returnType := none }, accessFlags := 2, code := none }
def k20c1 : Code := { maxStack := 2, maxLocals := 2, code := jdk_29_method_69_code, exceptionTable := #[], attributes := #[] }
def k20m1 : Method := { name := "min", desc := "(II)I", sig := { parameters := [.int, .int], returnType := some .int }, accessFlags := 9, code := some k20c1 }
/-- java/lang/Math -/
def k20 : Class := { plain "java/lang/Math" (some 0) with
  accessFlags := 49
  interfaces := #[]
  cf := some (fileOf pool20 1 #[.nestMembers #[98]] #[{ accessFlags := 2, nameIndex := 7, descriptorIndex := 8, attributes := #[] }, { accessFlags := 9, nameIndex := 201, descriptorIndex := 335, attributes := #[] }] 49 4 #[] #[{ accessFlags := 25, nameIndex := 354, descriptorIndex := 339, attributes := #[] }, { accessFlags := 25, nameIndex := 358, descriptorIndex := 339, attributes := #[] }, { accessFlags := 25, nameIndex := 361, descriptorIndex := 339, attributes := #[] }, { accessFlags := 26, nameIndex := 364, descriptorIndex := 339, attributes := #[] }, { accessFlags := 26, nameIndex := 365, descriptorIndex := 339, attributes := #[] }, { accessFlags := 26, nameIndex := 172, descriptorIndex := 173, attributes := #[] }, { accessFlags := 26, nameIndex := 176, descriptorIndex := 173, attributes := #[] }, { accessFlags := 8, nameIndex := 344, descriptorIndex := 339, attributes := #[] }, { accessFlags := 8, nameIndex := 338, descriptorIndex := 339, attributes := #[] }, { accessFlags := 4120, nameIndex := 245, descriptorIndex := 246, attributes := #[] }])
  fields := #[{ name := "E", type := .double, accessFlags := 25, slot := 0, constantValue := 0 }, { name := "PI", type := .double, accessFlags := 25, slot := 1, constantValue := 0 }, { name := "TAU", type := .double, accessFlags := 25, slot := 2, constantValue := 0 }, { name := "DEGREES_TO_RADIANS", type := .double, accessFlags := 26, slot := 3, constantValue := 0 }, { name := "RADIANS_TO_DEGREES", type := .double, accessFlags := 26, slot := 4, constantValue := 0 }, { name := "negativeZeroFloatBits", type := .long, accessFlags := 26, slot := 5, constantValue := 0 }, { name := "negativeZeroDoubleBits", type := .long, accessFlags := 26, slot := 6, constantValue := 0 }, { name := "twoToTheDoubleScaleUp", type := .double, accessFlags := 8, slot := 7, constantValue := 0 }, { name := "twoToTheDoubleScaleDown", type := .double, accessFlags := 8, slot := 8, constantValue := 0 }, { name := "$assertionsDisabled", type := .boolean, accessFlags := 4120, slot := 9, constantValue := 0 }]
  methods := #[k20m0, k20m1]
  instanceTypes := #[]
  staticTypes := #[.double, .double, .double, .double, .double, .long, .long, .double, .double, .boolean]
  resolved := Array.replicate 460 none
  statics := none }

def pool21 : Array CpInfo := pool [(4, .class_ 6), (1, u "java/lang/Object"), (0, u "<init>"), (0, u "()V"), (5, .class_ 16), (1, u "java/lang/StringLatin1"), (104, u "$assertionsDisabled"), (0, u "Z"), (98, .class_ 223), (1, u "java/lang/StringLatin1$LinesSpliterator"), (166, .class_ 391), (0, u "java/lang/StringLatin1$CharsSpliterator")] 3

def k21m0 : Method := { name := "<init>", desc := "()V", sig := { parameters := [], returnType := none }, accessFlags := 0, code := none }
/-- java/lang/StringLatin1 -/
def k21 : Class := { plain "java/lang/StringLatin1" (some 0) with
  accessFlags := 48
  interfaces := #[]
  cf := some (fileOf pool21 14 #[.nestMembers #[390, 221]] #[{ accessFlags := 0, nameIndex := 7, descriptorIndex := 8, attributes := #[] }] 48 4 #[] #[{ accessFlags := 4120, nameIndex := 121, descriptorIndex := 122, attributes := #[] }])
  fields := #[{ name := "$assertionsDisabled", type := .boolean, accessFlags := 4120, slot := 0, constantValue := 0 }]
  methods := #[k21m0]
  instanceTypes := #[]
  staticTypes := #[.boolean]
  resolved := Array.replicate 395 none
  statics := none }

def pool22 : Array CpInfo := pool [(2, .class_ 4), (1, u "java/lang/Object"), (0, u "<init>"), (0, u "()V"), (17, .class_ 26), (1, u "jdk/internal/util/Preconditions"), (28, .class_ 56), (0, u "jdk/internal/util/Preconditions$4"), (57, .class_ 115), (0, u "jdk/internal/util/Preconditions$1"), (7, u "SIOOBE_FORMATTER"), (0, u "Ljava/util/function/BiFunction;"), (0, .class_ 126), (0, u "jdk/internal/util/Preconditions$2"), (3, u "AIOOBE_FORMATTER"), (0, .class_ 132), (0, u "jdk/internal/util/Preconditions$3"), (3, u "IOOBE_FORMATTER")] 57

def k22m0 : Method := { name := "<init>", desc := "()V", sig := { parameters := [], returnType := none }, accessFlags := 1, code := none }
/-- jdk/internal/util/Preconditions -/
def k22 : Class := { plain "jdk/internal/util/Preconditions" (some 0) with
  accessFlags := 33
  interfaces := #[]
  cf := some (fileOf pool22 24 #[.nestMembers #[55, 131, 125, 114]] #[{ accessFlags := 1, nameIndex := 5, descriptorIndex := 6, attributes := #[] }] 33 2 #[] #[{ accessFlags := 25, nameIndex := 123, descriptorIndex := 124, attributes := #[] }, { accessFlags := 25, nameIndex := 130, descriptorIndex := 124, attributes := #[] }, { accessFlags := 25, nameIndex := 136, descriptorIndex := 124, attributes := #[] }])
  fields := #[{ name := "SIOOBE_FORMATTER", type := (.object "java/util/function/BiFunction"), accessFlags := 25, slot := 0, constantValue := 0 }, { name := "AIOOBE_FORMATTER", type := (.object "java/util/function/BiFunction"), accessFlags := 25, slot := 1, constantValue := 0 }, { name := "IOOBE_FORMATTER", type := (.object "java/util/function/BiFunction"), accessFlags := 25, slot := 2, constantValue := 0 }]
  methods := #[k22m0]
  instanceTypes := #[]
  staticTypes := #[(.object "java/util/function/BiFunction"), (.object "java/util/function/BiFunction"), (.object "java/util/function/BiFunction")]
  resolved := Array.replicate 194 none
  statics := some 4 }

def pool23 : Array CpInfo := pool [(9, u "<init>"), (6, .class_ 18), (1, u "java/lang/Object"), (0, u "()V"), (1, .class_ 23), (1, u "jdk/internal/util/ArraysSupport"), (0, u "LOG2_ARRAY_LONG_INDEX_SCALE"), (0, u "I"), (2, u "U"), (0, u "Ljdk/internal/misc/Unsafe;"), (8, u "BIG_ENDIAN"), (0, u "Z"), (8, u "LOG2_BYTE_BIT_SIZE"), (4, u "LOG2_ARRAY_INT_INDEX_SCALE"), (54, u "JLA"), (0, u "Ljdk/internal/access/JavaLangAccess;"), (11, u "LOG2_ARRAY_BOOLEAN_INDEX_SCALE"), (9, u "LOG2_ARRAY_BYTE_INDEX_SCALE"), (5, u "LOG2_ARRAY_CHAR_INDEX_SCALE"), (5, u "LOG2_ARRAY_SHORT_INDEX_SCALE"), (18, u "LOG2_ARRAY_FLOAT_INDEX_SCALE"), (24, u "LOG2_ARRAY_DOUBLE_INDEX_SCALE"), (89, u "T_BOOLEAN"), (2, u "T_CHAR"), (1, u "T_FLOAT"), (1, u "T_DOUBLE"), (1, u "T_BYTE"), (1, u "T_SHORT"), (1, u "T_INT"), (1, u "T_LONG"), (1, u "SOFT_MAX_ARRAY_LENGTH")] 83

def k23m0 : Method := { name := "<init>", desc := "()V", sig := { parameters := [], returnType := none }, accessFlags := 2, code := none }
/-- jdk/internal/util/ArraysSupport -/
def k23 : Class := { plain "jdk/internal/util/ArraysSupport" (some 0) with
  accessFlags := 33
  interfaces := #[]
  cf := some (fileOf pool23 21 #[] #[{ accessFlags := 2, nameIndex := 9, descriptorIndex := 19, attributes := #[] }] 33 16 #[] #[{ accessFlags := 24, nameIndex := 28, descriptorIndex := 29, attributes := #[] }, { accessFlags := 26, nameIndex := 38, descriptorIndex := 39, attributes := #[] }, { accessFlags := 25, nameIndex := 121, descriptorIndex := 25, attributes := #[] }, { accessFlags := 25, nameIndex := 131, descriptorIndex := 25, attributes := #[] }, { accessFlags := 25, nameIndex := 137, descriptorIndex := 25, attributes := #[] }, { accessFlags := 25, nameIndex := 143, descriptorIndex := 25, attributes := #[] }, { accessFlags := 25, nameIndex := 53, descriptorIndex := 25, attributes := #[] }, { accessFlags := 25, nameIndex := 24, descriptorIndex := 25, attributes := #[] }, { accessFlags := 25, nameIndex := 162, descriptorIndex := 25, attributes := #[] }, { accessFlags := 25, nameIndex := 187, descriptorIndex := 25, attributes := #[] }, { accessFlags := 26, nameIndex := 48, descriptorIndex := 25, attributes := #[] }, { accessFlags := 25, nameIndex := 277, descriptorIndex := 25, attributes := #[] }, { accessFlags := 25, nameIndex := 280, descriptorIndex := 25, attributes := #[] }, { accessFlags := 25, nameIndex := 282, descriptorIndex := 25, attributes := #[] }, { accessFlags := 25, nameIndex := 284, descriptorIndex := 25, attributes := #[] }, { accessFlags := 25, nameIndex := 286, descriptorIndex := 25, attributes := #[] }, { accessFlags := 25, nameIndex := 288, descriptorIndex := 25, attributes := #[] }, { accessFlags := 25, nameIndex := 290, descriptorIndex := 25, attributes := #[] }, { accessFlags := 25, nameIndex := 292, descriptorIndex := 25, attributes := #[] }, { accessFlags := 26, nameIndex := 108, descriptorIndex := 109, attributes := #[] }, { accessFlags := 25, nameIndex := 294, descriptorIndex := 25, attributes := #[] }])
  fields := #[{ name := "U", type := (.object "jdk/internal/misc/Unsafe"), accessFlags := 24, slot := 0, constantValue := 0 }, { name := "BIG_ENDIAN", type := .boolean, accessFlags := 26, slot := 1, constantValue := 0 }, { name := "LOG2_ARRAY_BOOLEAN_INDEX_SCALE", type := .int, accessFlags := 25, slot := 2, constantValue := 0 }, { name := "LOG2_ARRAY_BYTE_INDEX_SCALE", type := .int, accessFlags := 25, slot := 3, constantValue := 0 }, { name := "LOG2_ARRAY_CHAR_INDEX_SCALE", type := .int, accessFlags := 25, slot := 4, constantValue := 0 }, { name := "LOG2_ARRAY_SHORT_INDEX_SCALE", type := .int, accessFlags := 25, slot := 5, constantValue := 0 }, { name := "LOG2_ARRAY_INT_INDEX_SCALE", type := .int, accessFlags := 25, slot := 6, constantValue := 0 }, { name := "LOG2_ARRAY_LONG_INDEX_SCALE", type := .int, accessFlags := 25, slot := 7, constantValue := 0 }, { name := "LOG2_ARRAY_FLOAT_INDEX_SCALE", type := .int, accessFlags := 25, slot := 8, constantValue := 0 }, { name := "LOG2_ARRAY_DOUBLE_INDEX_SCALE", type := .int, accessFlags := 25, slot := 9, constantValue := 0 }, { name := "LOG2_BYTE_BIT_SIZE", type := .int, accessFlags := 26, slot := 10, constantValue := 0 }, { name := "T_BOOLEAN", type := .int, accessFlags := 25, slot := 11, constantValue := 0 }, { name := "T_CHAR", type := .int, accessFlags := 25, slot := 12, constantValue := 0 }, { name := "T_FLOAT", type := .int, accessFlags := 25, slot := 13, constantValue := 0 }, { name := "T_DOUBLE", type := .int, accessFlags := 25, slot := 14, constantValue := 0 }, { name := "T_BYTE", type := .int, accessFlags := 25, slot := 15, constantValue := 0 }, { name := "T_SHORT", type := .int, accessFlags := 25, slot := 16, constantValue := 0 }, { name := "T_INT", type := .int, accessFlags := 25, slot := 17, constantValue := 0 }, { name := "T_LONG", type := .int, accessFlags := 25, slot := 18, constantValue := 0 }, { name := "JLA", type := (.object "jdk/internal/access/JavaLangAccess"), accessFlags := 26, slot := 19, constantValue := 0 }, { name := "SOFT_MAX_ARRAY_LENGTH", type := .int, accessFlags := 25, slot := 20, constantValue := 0 }]
  methods := #[k23m0]
  instanceTypes := #[]
  staticTypes := #[(.object "jdk/internal/misc/Unsafe"), .boolean, .int, .int, .int, .int, .int, .int, .int, .int, .int, .int, .int, .int, .int, .int, .int, .int, .int, (.object "jdk/internal/access/JavaLangAccess"), .int]
  resolved := Array.replicate 378 none
  statics := none }

/-- the primitive byte -/
def k24 : Class := { plain "byte" none with kind := .primitive 'B', accessFlags := 0x411 }
/-- [B -/
def k25 : Class := { plain "[B" (some 0) with kind := .array 24 .byte, interfaces := #[17, 4], accessFlags := 1041 }

/-- the primitive char -/
def k26 : Class := { plain "char" none with kind := .primitive 'C', accessFlags := 0x411 }
/-- [C -/
def k27 : Class := { plain "[C" (some 0) with kind := .array 26 .char, interfaces := #[17, 4], accessFlags := 1041 }

/-- the primitive int -/
def k28 : Class := { plain "int" none with kind := .primitive 'I', accessFlags := 0x411 }
/-- [I -/
def k29 : Class := { plain "[I" (some 0) with kind := .array 28 .int, interfaces := #[17, 4], accessFlags := 1041 }

def heap : Heap := #[{ cls := 6, slots := #[.ref 5, .ref 6, .ref 8, .ref 7, .null], vm := .statics 6 },
  { cls := 9, slots := #[.long 0, .int 1, .null, .int 0, .null, .int 0, .int 0], vm := .statics 9 },
  { cls := 11, slots := #[.null, .null, .ref 9, .null, .null, .null], vm := .statics 11 },
  { cls := 15, slots := #[.ref 9, .null], vm := .statics 15 },
  { cls := 22, slots := #[.null, .null, .null], vm := .statics 22 },
  { cls := 6, slots := #[.null, .int 0, .int 0, .int 112], vm := .none },
  { cls := 6, slots := #[.null, .int 0, .int 0, .int 79], vm := .none },
  { cls := 6, slots := #[.null, .int 0, .int 0, .int 101], vm := .none },
  { cls := 6, slots := #[.null, .int 0, .int 0, .int 111], vm := .none },
  { cls := 15, slots := #[.null, .null, .null], vm := .none }]
def classes : Array Class := #[k0, k1, k2, k3, k4, k5, k6, k7, k8, k9, k10, k11, k12, k13, k14, k15, k16, k17, k18, k19, k20, k21, k22, k23, k24, k25, k26, k27, k28, k29]
def interned : List (Array UInt16 × Addr) := []
def slotsUsed : Nat := 42
def theMethod : MethodId := ⟨1, 1⟩
def args0 : Array Value := #[.int 5, .int 65, .int 66]
def aboutOver (below : List Frame) : State where
  vm := { classes := classes, interned := interned.toArray }
  heap := heap
  slotsUsed := slotsUsed
  threads := #[{ frames := .invoking theMethod args0 :: below }]
def below0 : List Frame := [.native { method := ⟨0, 0⟩, args := #[] }]
def about1 : State := aboutOver below0
def p0 : Program := .bare "" "" ""
def e0 : Env := launch0.env 0 0 0
theorem w_frames : about1.frames = Frame.invoking theMethod args0 :: below0 := rfl
set_option maxRecDepth 65536 in
theorem w_args : argsFit about1.vm theMethod args0 = true := by decide +kernel
set_option maxRecDepth 65536 in
theorem w_heap : heapFits about1 = true := by decide +kernel
set_option maxRecDepth 65536 in
theorem w_runnable : about1.curStatus? = some .runnable := by decide +kernel
set_option maxRecDepth 65536 in
theorem w_alone : about1.alone = true := by decide +kernel
set_option maxRecDepth 65536 in
theorem w_named : about1.methodNamed? x = some theMethod := by decide +kernel
set_option maxRecDepth 65536 in
theorem w_hears : about1.hears theMethod below0 = true := by decide +kernel
set_option maxRecDepth 65536 in
theorem w_ripe : about1.ripe theMethod args0 below0 = true := by decide +kernel
theorem w_running : about1.status = .running := rfl
set_option maxRecDepth 65536 in
theorem w_room : about1.hasRoom e0.platform room_1 = true :=
  launch0.hasRoom_least _ room_1 (by decide +kernel) (by decide +kernel) (by decide +kernel) (by decide +kernel) (by decide +kernel) (by decide +kernel)
theorem allAtoms_all (ts : List Jvm.Cond) (a : Array Jvm.Value) (st : Jvm.State) : (allAtoms ts).before a st = ts.all (fun c => c.before a st) := by
  induction ts with
  | nil => rfl
  | cons c t ih =>
    show (Jvm.Cond.and c (allAtoms t)).before a st = _
    rw [Jvm.Cond.before_and, ih, List.all_cons]
def words1 : List Jvm.Cond := Jvm.Cond.code x code maxLocals ret :: tables_1
/-- a 'code' word, met by the world's own term for the bytes: nothing is compared byte by byte -/
theorem code_word {y : MethodName} {bytes : ByteArray} {mx : Nat} {rt : Option FieldType} {a : Array Value} {s : State} {m : MethodId} {meth : Method} {c : Code} (h1 : s.methodNamed? y = some m) (h2 : s.vm.method? m = some meth) (h3 : meth.code = some c) (h4 : c.code = bytes)
    (h5 : (c.maxLocals == mx && c.exceptionTable.isEmpty && decide (c.maxStack ≤ mostOperands) && decide (meth.sig.returnType = rt) && !meth.locks && decide (parseMethodDescriptor y.desc = some meth.sig)) = true) : (Jvm.Cond.code y bytes mx rt).before a s = true := by
  simp only [Bool.and_eq_true, beq_iff_eq, Bool.not_eq_true', decide_eq_true_eq] at h5
  obtain ⟨⟨⟨⟨⟨g1, g2⟩, g3⟩, g4⟩, g5⟩, g6⟩ := h5
  simp [Cond.before, Cond.holds, Cond.value, h1, h2, h3, h4, g1, g2, g3, g4, g5, g6]
def isCode : Jvm.Cond → Bool
  | .code _ _ _ _ => true
  | _ => false
theorem all_split {L : List Jvm.Cond} {P : Jvm.Cond → Bool} (h1 : L.all (fun c => isCode c || P c) = true) (h2 : ∀ c ∈ L.filter isCode, P c = true) : L.all P = true := by
  refine List.all_eq_true.mpr fun c hc => ?_
  have h := List.all_eq_true.mp h1 c hc
  rcases Bool.eq_false_or_eq_true (isCode c) with hi | hi
  · exact h2 c (List.mem_filter.mpr ⟨hc, hi⟩)
  · simpa [hi] using h
set_option maxRecDepth 65536 in
theorem w_c0 : (Jvm.Cond.code x code maxLocals ret).before args0 about1 = true := code_word (m := ⟨1, 1⟩) (meth := k1m1) (c := k1c1) (by decide +kernel) rfl rfl rfl (by decide +kernel)
set_option maxRecDepth 65536 in
theorem w_c1 : (Jvm.Cond.code ({ cls := "java/lang/String", name := "<init>", desc := "([C)V" } : Jvm.MethodName) jdk_42_method_3_code (2 : Nat) (Option.none : Option Jvm.ClassFile.FieldType)).before args0 about1 = true := code_word (m := ⟨9, 1⟩) (meth := k9m1) (c := k9c1) (by decide +kernel) rfl rfl rfl (by decide +kernel)
set_option maxRecDepth 65536 in
theorem w_c2 : (Jvm.Cond.code ({ cls := "java/lang/String", name := "<init>", desc := "([CIILjava/lang/Void;)V" } : Jvm.MethodName) jdk_42_method_149_code (6 : Nat) (Option.none : Option Jvm.ClassFile.FieldType)).before args0 about1 = true := code_word (m := ⟨9, 5⟩) (meth := k9m5) (c := k9c5) (by decide +kernel) rfl rfl rfl (by decide +kernel)
set_option maxRecDepth 65536 in
theorem w_c3 : (Jvm.Cond.code ({ cls := "java/lang/Object", name := "<init>", desc := "()V" } : Jvm.MethodName) object_method_1_code (1 : Nat) (Option.none : Option Jvm.ClassFile.FieldType)).before args0 about1 = true := code_word (m := ⟨0, 0⟩) (meth := k0m0) (c := k0c0) (by decide +kernel) rfl rfl rfl (by decide +kernel)
set_option maxRecDepth 65536 in
theorem w_c4 : (Jvm.Cond.code ({ cls := "java/lang/StringUTF16", name := "compress", desc := "([CII)[B" } : Jvm.MethodName) jdk_52_method_16_code (6 : Nat) (Option.some (Jvm.ClassFile.FieldType.array Jvm.ClassFile.FieldType.byte))).before args0 about1 = true := code_word (m := ⟨10, 4⟩) (meth := k10m4) (c := k10c4) (by decide +kernel) rfl rfl rfl (by decide +kernel)
set_option maxRecDepth 65536 in
theorem w_c5 : (Jvm.Cond.code ({ cls := "java/lang/StringUTF16", name := "compress", desc := "([CI[BII)I" } : Jvm.MethodName) jdk_52_method_21_code (7 : Nat) (Option.some Jvm.ClassFile.FieldType.int)).before args0 about1 = true := code_word (m := ⟨10, 5⟩) (meth := k10m5) (c := k10c5) (by decide +kernel) rfl rfl rfl (by decide +kernel)
set_option maxRecDepth 65536 in
theorem w_c6 : (Jvm.Cond.code ({ cls := "java/lang/StringUTF16", name := "coderFromArrayLen", desc := "([BI)B" } : Jvm.MethodName) jdk_52_method_15_code (2 : Nat) (Option.some Jvm.ClassFile.FieldType.byte)).before args0 about1 = true := code_word (m := ⟨10, 3⟩) (meth := k10m3) (c := k10c3) (by decide +kernel) rfl rfl rfl (by decide +kernel)
set_option maxRecDepth 65536 in
theorem w_c7 : (Jvm.Cond.code ({ cls := "com/example/ombor/ombor/db/Keyspace", name := "end", desc := "()[B" } : Jvm.MethodName) prog_11_method_5_code (1 : Nat) (Option.some (Jvm.ClassFile.FieldType.array Jvm.ClassFile.FieldType.byte))).before args0 about1 = true := code_word (m := ⟨6, 1⟩) (meth := k6m1) (c := k6c1) (by decide +kernel) rfl rfl rfl (by decide +kernel)
set_option maxRecDepth 65536 in
theorem w_c8 : (Jvm.Cond.code ({ cls := "com/example/ombor/ombor/db/Keyspace", name := "holds", desc := "([B)Z" } : Jvm.MethodName) prog_11_method_6_code (2 : Nat) (Option.some Jvm.ClassFile.FieldType.boolean)).before args0 about1 = true := code_word (m := ⟨6, 2⟩) (meth := k6m2) (c := k6c2) (by decide +kernel) rfl rfl rfl (by decide +kernel)
set_option maxRecDepth 65536 in
theorem w_c9 : (Jvm.Cond.code ({ cls := "com/example/ombor/ombor/db/Keyspace", name := "key", desc := "(Ljava/lang/String;)[B" } : Jvm.MethodName) prog_11_method_4_code (4 : Nat) (Option.some (Jvm.ClassFile.FieldType.array Jvm.ClassFile.FieldType.byte))).before args0 about1 = true := code_word (m := ⟨6, 0⟩) (meth := k6m0) (c := k6c0) (by decide +kernel) rfl rfl rfl (by decide +kernel)
set_option maxRecDepth 65536 in
theorem w_c10 : (Jvm.Cond.code ({ cls := "java/lang/String", name := "getBytes", desc := "(Ljava/nio/charset/Charset;)[B" } : Jvm.MethodName) jdk_42_method_64_code (2 : Nat) (Option.some (Jvm.ClassFile.FieldType.array Jvm.ClassFile.FieldType.byte))).before args0 about1 = true := code_word (m := ⟨9, 4⟩) (meth := k9m4) (c := k9c4) (by decide +kernel) rfl rfl rfl (by decide +kernel)
set_option maxRecDepth 65536 in
theorem w_c11 : (Jvm.Cond.code ({ cls := "java/lang/String", name := "coder", desc := "()B" } : Jvm.MethodName) jdk_42_method_152_code (1 : Nat) (Option.some Jvm.ClassFile.FieldType.byte)).before args0 about1 = true := code_word (m := ⟨9, 6⟩) (meth := k9m6) (c := k9c6) (by decide +kernel) rfl rfl rfl (by decide +kernel)
set_option maxRecDepth 65536 in
theorem w_c12 : (Jvm.Cond.code ({ cls := "java/lang/String", name := "encode", desc := "(Ljava/nio/charset/Charset;B[B)[B" } : Jvm.MethodName) jdk_42_method_18_code (3 : Nat) (Option.some (Jvm.ClassFile.FieldType.array Jvm.ClassFile.FieldType.byte))).before args0 about1 = true := code_word (m := ⟨9, 2⟩) (meth := k9m2) (c := k9c2) (by decide +kernel) rfl rfl rfl (by decide +kernel)
set_option maxRecDepth 65536 in
theorem w_c13 : (Jvm.Cond.code ({ cls := "java/lang/String", name := "encodeUTF8", desc := "(B[BZ)[B" } : Jvm.MethodName) jdk_42_method_46_code (9 : Nat) (Option.some (Jvm.ClassFile.FieldType.array Jvm.ClassFile.FieldType.byte))).before args0 about1 = true := code_word (m := ⟨9, 3⟩) (meth := k9m3) (c := k9c3) (by decide +kernel) rfl rfl rfl (by decide +kernel)
set_option maxRecDepth 65536 in
theorem w_c14 : (Jvm.Cond.code ({ cls := "java/lang/StringCoding", name := "hasNegatives", desc := "([BII)Z" } : Jvm.MethodName) jdk_123_method_2_code (3 : Nat) (Option.some Jvm.ClassFile.FieldType.boolean)).before args0 about1 = true := code_word (m := ⟨16, 1⟩) (meth := k16m1) (c := k16c1) (by decide +kernel) rfl rfl rfl (by decide +kernel)
set_option maxRecDepth 65536 in
theorem w_c15 : (Jvm.Cond.code ({ cls := "java/lang/StringCoding", name := "countPositives", desc := "([BII)I" } : Jvm.MethodName) jdk_123_method_3_code (5 : Nat) (Option.some Jvm.ClassFile.FieldType.int)).before args0 about1 = true := code_word (m := ⟨16, 2⟩) (meth := k16m2) (c := k16c2) (by decide +kernel) rfl rfl rfl (by decide +kernel)
set_option maxRecDepth 65536 in
theorem w_c16 : (Jvm.Cond.code ({ cls := "java/lang/StringUTF16", name := "newBytesFor", desc := "(I)[B" } : Jvm.MethodName) jdk_52_method_2_code (1 : Nat) (Option.some (Jvm.ClassFile.FieldType.array Jvm.ClassFile.FieldType.byte))).before args0 about1 = true := code_word (m := ⟨10, 1⟩) (meth := k10m1) (c := k10c1) (by decide +kernel) rfl rfl rfl (by decide +kernel)
set_option maxRecDepth 65536 in
theorem w_c17 : (Jvm.Cond.code ({ cls := "java/lang/StringUTF16", name := "newBytesLength", desc := "(I)I" } : Jvm.MethodName) jdk_52_method_3_code (1 : Nat) (Option.some Jvm.ClassFile.FieldType.int)).before args0 about1 = true := code_word (m := ⟨10, 2⟩) (meth := k10m2) (c := k10c2) (by decide +kernel) rfl rfl rfl (by decide +kernel)
set_option maxRecDepth 65536 in
theorem w_c18 : (Jvm.Cond.code ({ cls := "java/util/Arrays", name := "copyOf", desc := "([BI)[B" } : Jvm.MethodName) jdk_65_method_121_code (3 : Nat) (Option.some (Jvm.ClassFile.FieldType.array Jvm.ClassFile.FieldType.byte))).before args0 about1 = true := code_word (m := ⟨19, 1⟩) (meth := k19m1) (c := k19c1) (by decide +kernel) rfl rfl rfl (by decide +kernel)
set_option maxRecDepth 65536 in
theorem w_c19 : (Jvm.Cond.code ({ cls := "java/lang/Math", name := "min", desc := "(II)I" } : Jvm.MethodName) jdk_29_method_69_code (2 : Nat) (Option.some Jvm.ClassFile.FieldType.int)).before args0 about1 = true := code_word (m := ⟨20, 1⟩) (meth := k20m1) (c := k20c1) (by decide +kernel) rfl rfl rfl (by decide +kernel)
def codes1 : List Jvm.Cond := [Jvm.Cond.code x code maxLocals ret, Jvm.Cond.code ({ cls := "java/lang/String", name := "<init>", desc := "([C)V" } : Jvm.MethodName) jdk_42_method_3_code (2 : Nat) (Option.none : Option Jvm.ClassFile.FieldType), Jvm.Cond.code ({ cls := "java/lang/String", name := "<init>", desc := "([CIILjava/lang/Void;)V" } : Jvm.MethodName) jdk_42_method_149_code (6 : Nat) (Option.none : Option Jvm.ClassFile.FieldType), Jvm.Cond.code ({ cls := "java/lang/Object", name := "<init>", desc := "()V" } : Jvm.MethodName) object_method_1_code (1 : Nat) (Option.none : Option Jvm.ClassFile.FieldType), Jvm.Cond.code ({ cls := "java/lang/StringUTF16", name := "compress", desc := "([CII)[B" } : Jvm.MethodName) jdk_52_method_16_code (6 : Nat) (Option.some (Jvm.ClassFile.FieldType.array Jvm.ClassFile.FieldType.byte)), Jvm.Cond.code ({ cls := "java/lang/StringUTF16", name := "compress", desc := "([CI[BII)I" } : Jvm.MethodName) jdk_52_method_21_code (7 : Nat) (Option.some Jvm.ClassFile.FieldType.int), Jvm.Cond.code ({ cls := "java/lang/StringUTF16", name := "coderFromArrayLen", desc := "([BI)B" } : Jvm.MethodName) jdk_52_method_15_code (2 : Nat) (Option.some Jvm.ClassFile.FieldType.byte), Jvm.Cond.code ({ cls := "com/example/ombor/ombor/db/Keyspace", name := "end", desc := "()[B" } : Jvm.MethodName) prog_11_method_5_code (1 : Nat) (Option.some (Jvm.ClassFile.FieldType.array Jvm.ClassFile.FieldType.byte)), Jvm.Cond.code ({ cls := "com/example/ombor/ombor/db/Keyspace", name := "holds", desc := "([B)Z" } : Jvm.MethodName) prog_11_method_6_code (2 : Nat) (Option.some Jvm.ClassFile.FieldType.boolean), Jvm.Cond.code ({ cls := "com/example/ombor/ombor/db/Keyspace", name := "key", desc := "(Ljava/lang/String;)[B" } : Jvm.MethodName) prog_11_method_4_code (4 : Nat) (Option.some (Jvm.ClassFile.FieldType.array Jvm.ClassFile.FieldType.byte)), Jvm.Cond.code ({ cls := "java/lang/String", name := "getBytes", desc := "(Ljava/nio/charset/Charset;)[B" } : Jvm.MethodName) jdk_42_method_64_code (2 : Nat) (Option.some (Jvm.ClassFile.FieldType.array Jvm.ClassFile.FieldType.byte)), Jvm.Cond.code ({ cls := "java/lang/String", name := "coder", desc := "()B" } : Jvm.MethodName) jdk_42_method_152_code (1 : Nat) (Option.some Jvm.ClassFile.FieldType.byte), Jvm.Cond.code ({ cls := "java/lang/String", name := "encode", desc := "(Ljava/nio/charset/Charset;B[B)[B" } : Jvm.MethodName) jdk_42_method_18_code (3 : Nat) (Option.some (Jvm.ClassFile.FieldType.array Jvm.ClassFile.FieldType.byte)), Jvm.Cond.code ({ cls := "java/lang/String", name := "encodeUTF8", desc := "(B[BZ)[B" } : Jvm.MethodName) jdk_42_method_46_code (9 : Nat) (Option.some (Jvm.ClassFile.FieldType.array Jvm.ClassFile.FieldType.byte)), Jvm.Cond.code ({ cls := "java/lang/StringCoding", name := "hasNegatives", desc := "([BII)Z" } : Jvm.MethodName) jdk_123_method_2_code (3 : Nat) (Option.some Jvm.ClassFile.FieldType.boolean), Jvm.Cond.code ({ cls := "java/lang/StringCoding", name := "countPositives", desc := "([BII)I" } : Jvm.MethodName) jdk_123_method_3_code (5 : Nat) (Option.some Jvm.ClassFile.FieldType.int), Jvm.Cond.code ({ cls := "java/lang/StringUTF16", name := "newBytesFor", desc := "(I)[B" } : Jvm.MethodName) jdk_52_method_2_code (1 : Nat) (Option.some (Jvm.ClassFile.FieldType.array Jvm.ClassFile.FieldType.byte)), Jvm.Cond.code ({ cls := "java/lang/StringUTF16", name := "newBytesLength", desc := "(I)I" } : Jvm.MethodName) jdk_52_method_3_code (1 : Nat) (Option.some Jvm.ClassFile.FieldType.int), Jvm.Cond.code ({ cls := "java/util/Arrays", name := "copyOf", desc := "([BI)[B" } : Jvm.MethodName) jdk_65_method_121_code (3 : Nat) (Option.some (Jvm.ClassFile.FieldType.array Jvm.ClassFile.FieldType.byte)), Jvm.Cond.code ({ cls := "java/lang/Math", name := "min", desc := "(II)I" } : Jvm.MethodName) jdk_29_method_69_code (2 : Nat) (Option.some Jvm.ClassFile.FieldType.int)]
set_option maxRecDepth 65536 in
theorem codes_eq : words1.filter isCode = codes1 := rfl
theorem w_codes : ∀ c ∈ words1.filter isCode, c.before args0 about1 = true := by
  rw [codes_eq]
  intro c hc
  simp only [codes1, List.mem_cons, List.not_mem_nil, or_false] at hc
  rcases hc with rfl | rfl | rfl | rfl | rfl | rfl | rfl | rfl | rfl | rfl | rfl | rfl | rfl | rfl | rfl | rfl | rfl | rfl | rfl | rfl
  · exact w_c0
  · exact w_c1
  · exact w_c2
  · exact w_c3
  · exact w_c4
  · exact w_c5
  · exact w_c6
  · exact w_c7
  · exact w_c8
  · exact w_c9
  · exact w_c10
  · exact w_c11
  · exact w_c12
  · exact w_c13
  · exact w_c14
  · exact w_c15
  · exact w_c16
  · exact w_c17
  · exact w_c18
  · exact w_c19
set_option maxRecDepth 65536 in
theorem w_t1 : (words1.take 24).all (fun c => isCode c || c.before args0 about1) = true := by decide +kernel
set_option maxRecDepth 65536 in
theorem w_t2 : ((words1.drop 24).take 24).all (fun c => isCode c || c.before args0 about1) = true := by decide +kernel
set_option maxRecDepth 65536 in
theorem w_t3 : (((words1.drop 24).drop 24).take 24).all (fun c => isCode c || c.before args0 about1) = true := by decide +kernel
set_option maxRecDepth 65536 in
theorem w_t4 : ((((words1.drop 24).drop 24).drop 24).take 24).all (fun c => isCode c || c.before args0 about1) = true := by decide +kernel
set_option maxRecDepth 65536 in
theorem w_t5 : ((((words1.drop 24).drop 24).drop 24).drop 24).all (fun c => isCode c || c.before args0 about1) = true := by decide +kernel
theorem w_tables : (allAtoms (Jvm.Cond.code x code maxLocals ret :: tables_1)).before args0 about1 = true := by
  rw [allAtoms_all]
  show words1.all (fun c => c.before args0 about1) = true
  refine all_split ?_ w_codes
  rw [← List.take_append_drop 24 words1, List.all_append, w_t1, ← List.take_append_drop 24 (words1.drop 24), List.all_append, w_t2, ← List.take_append_drop 24 ((words1.drop 24).drop 24), List.all_append, w_t3, ← List.take_append_drop 24 (((words1.drop 24).drop 24).drop 24), List.all_append, w_t4, w_t5]
  rfl
set_option maxRecDepth 65536 in
theorem w_rest : rest_1_c.before args0 about1 = true := by decide +kernel
set_option maxRecDepth 65536 in
theorem w_case : (Jvm.Cond.and given_1 narrow_1).before args0 about1 = true := by decide +kernel
theorem w_applies : (headSpec (Jvm.Cond.code x code maxLocals ret :: tables_1) room_1).applies x e0.platform about1 = true :=
  (Spec.applies_iff w_frames).mpr ⟨w_running, w_runnable, w_alone, w_named, w_hears, w_ripe, w_room, w_tables⟩
theorem atStart : AtStart classFile x code maxLocals ret World_1 tables_1 room_1 Calls_1 rest_1 Pre_1 launch0 p0 e0 about1 theMethod args0 below0 :=
  ⟨lists_1, trivial, launch0.admits_env _ _ _, launch0.least_env, fairChoices_fair.cas, fairChoices_fair.clock, w_frames, w_args, w_heap, w_applies, trivial, w_rest, w_case⟩
end start1
theorem witness_1 : WitnessClaimed_1 := ⟨start1.p0, start1.e0, start1.about1, start1.theMethod, start1.args0, start1.below0, start1.atStart⟩
end Jvm.Pilot.@@N@@
