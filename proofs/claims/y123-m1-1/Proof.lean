import JvmDerived
import JvmDerived.Pilot.@@N@@Statement
import JvmDerived.Pilot.@@N@@Code
set_option linter.unusedVariables false
set_option linter.unusedSimpArgs false
namespace Jvm.Pilot.@@N@@
open Jvm Jvm.ClassFile Sem Op Lib Jvm.Free Jvm.Stand Jvm.LawKit Jvm.RoadKit Bundle Jvm.Pilot.@@N@@.Jvm.D
section Own
variable {p : Program} {l : Launch} {e : Env} {R : Room} {s : State} {m : MethodId} {args : Array Value} {below : List Frame} {meth : Method} {c : Code} {T : State} {locs : List Loc} {cells slots : Nat} {Z : State} {a0 : Array Value} {h : Heap}
/-- a walk that goes forward: from S the run comes to an end of which P holds -/
def own_G (p : Program) (e : Env) (below : List Frame) (S : State) (P : Outcome → State → Prop) : Prop :=
  ∃ s₂ o, Steps p.tables e below S s₂ ∧ s₂.status = .running ∧ Ended s₂ below o ∧ P o s₂
/-- what a body leaves -/
def own_P (s : State) (Q : Option Value → Heap → List Loc → Prop) (kc ks : Nat) (o : Outcome) (U : State) : Prop := ∃ v L, o = .returned v ∧ Q v U.heap L ∧ FrameEnd s o U L kc ks
theorem oS {S S' : State} {P : Outcome → State → Prop} (k : ∀ t, Steps p.tables e below S' t → Steps p.tables e below S t) (h : own_G p e below S' P) : own_G p e below S P := by
  obtain ⟨s2, o, h1, h2⟩ := h; exact ⟨s2, o, k _ h1, h2⟩
theorem oW {Z : State} {a0 : Array Value} (hw : ∀ d ∈ tables_1, d.before a0 Z = true) (i : Nat) {d : Jvm.Cond} (q : tables_1[i]? = some d) : d.before a0 Z = true := hw _ (List.mem_of_getElem? q)
theorem own_cast {g g' : JFrame} {P : Outcome → State → Prop} (q : g = g') (k : own_G p e below (T.setTop g') P) : own_G p e below (T.setTop g) P := q ▸ k
theorem own_leave (X : Stand p l e R s m args below meth c T locs cells slots) {g : JFrame} {v : Option Value} {Q : Option Value → Heap → List Loc → Prop} {kc ks : Nat} (hlocks : meth.locks = false) (hv : meth.sig.returnType = none → v = none)
    (k : ∀ fs, (∀ (f : JFrame) (acts : List Action), f.method = m → f.locked = none → f.entered = [] → (doReturn e (T.setTop f) acts v).1 = T.setFrames fs) → Steps p.tables e below (T.setTop g) (T.setFrames fs))
    (eT : T.heap = h) (hc : cells ≤ kc) (hs : slots ≤ ks) (hq : Q v h locs) : own_G p e below (T.setTop g) (own_P s Q kc ks) := by
  obtain ⟨fs, hr, hrun, hended, hW, hsame⟩ := X.leave (v := v) hv hlocks
  exact ⟨_, _, k fs hr, hrun, hended, _, _, rfl, by show Q v T.heap locs; rw [eT]; exact hq, ⟨_, rfl⟩, hW, hsame.mono hc hs⟩
theorem own_retN (X : Stand p l e R s m args below meth c T locs cells slots) (hx : p.tables.exec = Jvm.exec) {pc : Nat} {Ls : Array Slot} {z : Int32} {t : FieldType} {rest : List Value} {Q : Option Value → Heap → List Loc → Prop} {kc ks : Nat} (hlocks : meth.locks = false) (hret : meth.sig.returnType = some t) (ht : t = .boolean ∨ t = .byte ∨ t = .char ∨ t = .short)
    (hd : decode c.code pc = .ok (.ireturn, 1)) (hn : nar t z = z) (eT : T.heap = h) (hc : cells ≤ kc) (hs : slots ≤ ks) (hq : Q (some (.int z)) h locs) : own_G p e below (T.setTop (mkF m pc Ls (.int z :: rest))) (own_P s Q kc ks) :=
  own_leave X (v := some (.int z)) hlocks (fun q => by rw [hret] at q; cases q) (fun fs hl => retN X hx hret ht hd (by rw [hn]; exact hl)) eT hc hs hq
theorem own_retI (X : Stand p l e R s m args below meth c T locs cells slots) (hx : p.tables.exec = Jvm.exec) {pc : Nat} {Ls : Array Slot} {z : Int32} {rest : List Value} {Q : Option Value → Heap → List Loc → Prop} {kc ks : Nat} (hlocks : meth.locks = false) (hret : meth.sig.returnType = some .int)
    (hd : decode c.code pc = .ok (.ireturn, 1)) (eT : T.heap = h) (hc : cells ≤ kc) (hs : slots ≤ ks) (hq : Q (some (.int z)) h locs) : own_G p e below (T.setTop (mkF m pc Ls (.int z :: rest))) (own_P s Q kc ks) :=
  own_leave X (v := some (.int z)) hlocks (fun q => by rw [hret] at q; cases q) (fun fs hl => retOut X hx hret rfl (Or.inl ⟨rfl, Or.inl rfl, _, rfl⟩) hd hl) eT hc hs hq
theorem own_retL (X : Stand p l e R s m args below meth c T locs cells slots) (hx : p.tables.exec = Jvm.exec) {pc : Nat} {Ls : Array Slot} {z : Int64} {rest : List Value} {Q : Option Value → Heap → List Loc → Prop} {kc ks : Nat} (hlocks : meth.locks = false) (hret : meth.sig.returnType = some .long)
    (hd : decode c.code pc = .ok (.lreturn, 1)) (eT : T.heap = h) (hc : cells ≤ kc) (hs : slots ≤ ks) (hq : Q (some (.long z)) h locs) : own_G p e below (T.setTop (mkF m pc Ls (.long z :: rest))) (own_P s Q kc ks) :=
  own_leave X (v := some (.long z)) hlocks (fun q => by rw [hret] at q; cases q) (fun fs hl => retOut X hx hret rfl (Or.inr (Or.inl ⟨rfl, rfl, _, rfl⟩)) hd hl) eT hc hs hq
theorem own_narR {t : FieldType} {w : Value} (h : w.isRef = true) : narrow t w = w := by
  rcases ref_cases h with rfl | ⟨a, rfl⟩ <;> cases t <;> rfl
theorem own_retA (X : Stand p l e R s m args below meth c T locs cells slots) (hx : p.tables.exec = Jvm.exec) {pc : Nat} {Ls : Array Slot} {w : Value} {t : FieldType} {rest : List Value} {Q : Option Value → Heap → List Loc → Prop} {kc ks : Nat} (hlocks : meth.locks = false) (hret : meth.sig.returnType = some t) (ht : t.isReference = true) (hw : w.isRef = true)
    (hd : decode c.code pc = .ok (.areturn, 1)) (eT : T.heap = h) (hc : cells ≤ kc) (hs : slots ≤ ks) (hq : Q (some w) h locs) : own_G p e below (T.setTop (mkF m pc Ls (w :: rest))) (own_P s Q kc ks) :=
  own_leave X (v := some w) hlocks (fun q => by rw [hret] at q; cases q) (fun fs hl => retOut X hx hret (own_narR hw) (Or.inr (Or.inr (Or.inr (Or.inr ⟨rfl, ht, hw⟩)))) hd hl) eT hc hs hq
theorem own_retV (X : Stand p l e R s m args below meth c T locs cells slots) (hx : p.tables.exec = Jvm.exec) {pc : Nat} {Ls : Array Slot} {Q : Option Value → Heap → List Loc → Prop} {kc ks : Nat} (hlocks : meth.locks = false) (hret : meth.sig.returnType = none)
    (hd : decode c.code pc = .ok (.return_, 1)) (eT : T.heap = h) (hc : cells ≤ kc) (hs : slots ≤ ks) (hq : Q none h locs) : own_G p e below (T.setTop (mkF m pc Ls [])) (own_P s Q kc ks) :=
  own_leave X (v := none) hlocks (fun _ => rfl) (fun fs hl => X.returnOut hx hret hd hl) eT hc hs hq
abbrev own_Met (l : Launch) (Z : State) (h : Heap) (y : MethodName) (bytes : ByteArray) (maxL : Nat) (ret : Option FieldType) (ws : List Jvm.Cond) (rm : Room) (as' : Array Value) (Q : Option Value → Heap → List Loc → Prop) (kc ks : Nat) : Prop :=
  MetFree l y (head1 (Jvm.Cond.code y bytes maxL ret :: ws) rm) (fun a U => a = as' ∧ Z.Warmed39 U.vm ∧ U.heap = h) (fun _ _ _ _ _ => True) (fun _ U o U' => ∃ v L, o = .returned v ∧ Q v U'.heap L ∧ FrameEnd U o U' L kc ks)
variable {own : String} {index : Nat} {y : MethodName} {bytes : ByteArray} {maxL : Nat} {ret : Option FieldType} {rm : Room} {W : Nat} {as' : Array Value} {Q : Option Value → Heap → List Loc → Prop}
abbrev own_After (p : Program) (l : Launch) (e : Env) (R : Room) (s : State) (m : MethodId) (args : Array Value) (below : List Frame) (meth : Method) (c : Code) (T : State) (locs : List Loc) (kc ks : Nat) (g : JFrame) (rest : List Value) (Q : Option Value → Heap → List Loc → Prop) (len : Nat := 3) : Prop :=
  ∃ (T' : State) (h' : Heap) (v : Option Value) (L : List Loc), Stand p l e R s m args below meth c T' (locs ++ L) kc ks ∧ T'.heap = h' ∧ Q v h' L ∧ ∀ target, Steps p.tables e below (T'.setTop { g with pc := g.pc + len, stack := v.toList ++ rest }) target → Steps p.tables e below (T.setTop g) target
theorem own_callS (X : Stand p l e R s m args below meth c T locs cells slots) (hx : p.tables.exec = Jvm.exec) (hZ : Z.Warmed39 s.vm) (hown : s.vm.findClass own = some m.cls) (eT : T.heap = h)
    (w1 : (Jvm.Cond.methodLink own index y).before a0 Z = true) (w2 : (Jvm.Cond.static y).before a0 Z = true) (w3 : (Jvm.Cond.initialized y.cls).before a0 Z = true) (w4 : (Jvm.Cond.code y bytes maxL ret).before a0 Z = true) (hy : y.cls ≠ "java/lang/invoke/MethodHandle" ∧ y.cls ≠ "java/lang/invoke/VarHandle")
    (hM : own_Met l Z h y bytes maxL ret [] rm as' Q rm.cells rm.slots)
    (hf : rm.frames + 1 ≤ R.frames) (hl : W + (maxL + 11) + rm.locals ≤ R.locals) (hc : cells + rm.cells ≤ R.cells) (hsl : slots + rm.slots ≤ R.slots)
    {g : JFrame} (hg : g.method = m) (hsize : g.locals.size = c.maxLocals) {argsL rest : List Value} (has : argsL.toArray = as') (hlen : ∀ sig, parseMethodDescriptor y.desc = some sig → argsL.length = sig.parameters.length)
    (hstack : g.stack = argsL.reverse ++ rest) (hW : 2 * g.monitorRoom + (rest.map fun v => v.category).sum ≤ W) (hd : decode c.code g.pc = .ok (.invokestatic index, 3)) :
    own_After p l e R s m args below meth c T locs (cells + rm.cells) (slots + rm.slots) g rest Q := by
  obtain ⟨v, vm1, ⟨T', L', k', n'⟩, -, X', ⟨Lc, hQ, l1, y1, z1⟩, st⟩ := Jvm.LawKit.callS X hx (y := y) hown (mvT hZ w1) (mvT hZ w2) (mvT hZ w3) (mvT hZ w4) hy (backOf (W := W) hM hZ w4 w3 hf hl) hg hsize hlen hstack hW hd (fun _ _ => ⟨has, eT, hc, hsl⟩)
  dsimp only [Pt.U, Pt.locs, Pt.cells, Pt.slots] at X' l1 y1 z1 st hQ
  subst l1 y1 z1
  exact ⟨T', _, v, Lc, X', rfl, hQ, st⟩
theorem own_callV (X : Stand p l e R s m args below meth c T locs cells slots) (hx : p.tables.exec = Jvm.exec) (hZ : Z.Warmed39 s.vm) (hown : s.vm.findClass own = some m.cls) (eT : T.heap = h) {z : MethodName} {C : String} {b : Addr}
    (w1 : (Jvm.Cond.methodLink own index y).before a0 Z = true) (w2 : (Jvm.Cond.declares y).before a0 Z = true) (nf : NotFace s y) (w3 : (Jvm.Cond.selects C y z).before a0 Z = true) (w5 : (Jvm.Cond.instanceMethod z).before a0 Z = true) (w6 : (Jvm.Cond.initialized z.cls).before a0 Z = true) (w4 : (Jvm.Cond.code z bytes maxL ret).before a0 Z = true) (hy : y.cls ≠ "java/lang/invoke/MethodHandle" ∧ y.cls ≠ "java/lang/invoke/VarHandle")
    (E : Exa Z h b C) (hM : own_Met l Z h z bytes maxL ret [] rm as' Q rm.cells rm.slots)
    (hf : rm.frames + 1 ≤ R.frames) (hl : W + (maxL + 11) + rm.locals ≤ R.locals) (hc : cells + rm.cells ≤ R.cells) (hsl : slots + rm.slots ≤ R.slots)
    {g : JFrame} (hg : g.method = m) (hsize : g.locals.size = c.maxLocals) {argsL rest : List Value} (has : (.ref b :: argsL).toArray = as') (hlen : ∀ sig, parseMethodDescriptor y.desc = some sig → argsL.length = sig.parameters.length)
    (hstack : g.stack = argsL.reverse ++ .ref b :: rest) (hW : 2 * g.monitorRoom + (rest.map fun v => v.category).sum ≤ W) (hd : decode c.code g.pc = .ok (.invokevirtual index, 3)) :
    own_After p l e R s m args below meth c T locs (cells + rm.cells) (slots + rm.slots) g rest Q := by
  obtain ⟨cq, kq, q1, q2, q3⟩ := isOf hZ eT E
  obtain ⟨v, vm1, ⟨T', L', k', n'⟩, -, X', ⟨Lc, hQ, l1, y1, z1⟩, st⟩ := X.virtualBack hx (y := y) (z := z) hown (mvT hZ w1) (mvT hZ w2) nf (mvT hZ w3) (mvT hZ w5) hy (backOf (W := W) hM hZ w4 w6 hf hl) q1 q3 hg hsize (Steps.refl _) hlen hstack hW hd (fun _ _ => ⟨has, eT, hc, hsl⟩)
  dsimp only [Pt.U, Pt.locs, Pt.cells, Pt.slots] at X' l1 y1 z1 st hQ
  subst l1 y1 z1
  exact ⟨T', _, v, Lc, X', rfl, hQ, fun _ k => st.trans k⟩
theorem own_callU (X : Stand p l e R s m args below meth c T locs cells slots) (hx : p.tables.exec = Jvm.exec) (hZ : Z.Warmed39 s.vm) (hown : s.vm.findClass own = some m.cls) (eT : T.heap = h) {z : MethodName} {C owner : String} {b : Addr}
    (w1 : (Jvm.Cond.methodLink own index y).before a0 Z = true) (w2 : (Jvm.Cond.sameMethod y.cls owner y.name y.desc).before a0 Z = true) (w7 : (Jvm.Cond.declares ⟨owner, y.name, y.desc⟩).before a0 Z = true) (w3 : (Jvm.Cond.selects C y z).before a0 Z = true) (w5 : (Jvm.Cond.instanceMethod z).before a0 Z = true) (w6 : (Jvm.Cond.initialized z.cls).before a0 Z = true) (w4 : (Jvm.Cond.code z bytes maxL ret).before a0 Z = true) (hy : owner ≠ "java/lang/invoke/MethodHandle" ∧ owner ≠ "java/lang/invoke/VarHandle")
    (E : Exa Z h b C) (hM : own_Met l Z h z bytes maxL ret [] rm as' Q rm.cells rm.slots)
    (hf : rm.frames + 1 ≤ R.frames) (hl : W + (maxL + 11) + rm.locals ≤ R.locals) (hc : cells + rm.cells ≤ R.cells) (hsl : slots + rm.slots ≤ R.slots)
    {g : JFrame} (hg : g.method = m) (hsize : g.locals.size = c.maxLocals) {argsL rest : List Value} (has : (.ref b :: argsL).toArray = as') (hlen : ∀ sig, parseMethodDescriptor y.desc = some sig → argsL.length = sig.parameters.length)
    (hstack : g.stack = argsL.reverse ++ .ref b :: rest) (hW : 2 * g.monitorRoom + (rest.map fun v => v.category).sum ≤ W) (hd : decode c.code g.pc = .ok (.invokevirtual index, 3)) :
    own_After p l e R s m args below meth c T locs (cells + rm.cells) (slots + rm.slots) g rest Q := by
  obtain ⟨cq, kq, q1, q2, q3⟩ := isOf hZ eT E
  obtain ⟨v, vm1, ⟨T', L', k', n'⟩, -, X', ⟨Lc, hQ, l1, y1, z1⟩, st⟩ := X.virtualBackUp hx (x := y) (y := z) (owner := owner) hown (mvT hZ w1) (mvT hZ w2) (mvT hZ w7) hy (mvT hZ w3) (mvT hZ w5) (backOf (W := W) hM hZ w4 w6 hf hl) q1 q3 hg hsize (Steps.refl _) hlen hstack hW hd (fun _ _ => ⟨has, eT, hc, hsl⟩)
  dsimp only [Pt.U, Pt.locs, Pt.cells, Pt.slots] at X' l1 y1 z1 st hQ
  subst l1 y1 z1
  exact ⟨T', _, v, Lc, X', rfl, hQ, fun _ k => st.trans k⟩
theorem own_callN (X : Stand p l e R s m args below meth c T locs cells slots) (hx : p.tables.exec = Jvm.exec) (hZ : Z.Warmed39 s.vm) (hown : s.vm.findClass own = some m.cls) (eT : T.heap = h) {b : Addr} (hy1 : y.name = "<init>")
    (w1 : (Jvm.Cond.methodLink own index y).before a0 Z = true) (w5 : (Jvm.Cond.instanceMethod y).before a0 Z = true) (w6 : (Jvm.Cond.initialized y.cls).before a0 Z = true) (w4 : (Jvm.Cond.code y bytes maxL none).before a0 Z = true) (hy : y.cls ≠ "java/lang/invoke/MethodHandle" ∧ y.cls ≠ "java/lang/invoke/VarHandle")
    (hM : own_Met l Z h y bytes maxL none [] rm as' Q rm.cells rm.slots)
    (hf : rm.frames + 1 ≤ R.frames) (hl : W + (maxL + 11) + rm.locals ≤ R.locals) (hc : cells + rm.cells ≤ R.cells) (hsl : slots + rm.slots ≤ R.slots)
    {g : JFrame} (hg : g.method = m) (hsize : g.locals.size = c.maxLocals) {argsL rest : List Value} (has : (.ref b :: argsL).toArray = as') (hlen : ∀ sig, parseMethodDescriptor y.desc = some sig → argsL.length = sig.parameters.length)
    (hstack : g.stack = argsL.reverse ++ .ref b :: rest) (hW : 2 * g.monitorRoom + (rest.map fun v => v.category).sum ≤ W) (hd : decode c.code g.pc = .ok (.invokespecial index, 3)) :
    own_After p l e R s m args below meth c T locs (cells + rm.cells) (slots + rm.slots) g rest Q := by
  obtain ⟨v, vm1, ⟨T', L', k', n'⟩, -, X', ⟨Lc, hQ, l1, y1, z1⟩, st⟩ := X.specialBack hx (y := y) hy1 hown (mvT hZ w1) (mvT hZ w5) (mvT hZ w4) hy (backOf (W := W) hM hZ w4 w6 hf hl) hg hsize (Steps.refl _) hlen hstack hW hd (fun _ _ => ⟨has, eT, hc, hsl⟩)
  dsimp only [Pt.U, Pt.locs, Pt.cells, Pt.slots] at X' l1 y1 z1 st hQ
  subst l1 y1 z1
  exact ⟨T', _, v, Lc, X', rfl, hQ, fun _ k => st.trans k⟩
theorem own_callI (X : Stand p l e R s m args below meth c T locs cells slots) (hx : p.tables.exec = Jvm.exec) (hZ : Z.Warmed39 s.vm) (hown : s.vm.findClass own = some m.cls) (eT : T.heap = h) {z : MethodName} {C : String} {b : Addr} {count : Nat}
    (w1 : (Jvm.Cond.methodLink own index y).before a0 Z = true) (w2 : (Jvm.Cond.declares y).before a0 Z = true) (w7 : (Jvm.Cond.interfaceMethod y.cls y.cls y.name y.desc).before a0 Z = true) (h7 : ((Jvm.Cond.interfaceMethod y.cls y.cls y.name y.desc).onTables && (Jvm.Cond.interfaceMethod y.cls y.cls y.name y.desc).keepsFace) = true) (w3 : (Jvm.Cond.selects C y z).before a0 Z = true) (w5 : (Jvm.Cond.instanceMethod z).before a0 Z = true) (w8 : (Jvm.Cond.publicMethod z).before a0 Z = true) (w9 : (Jvm.Cond.unhidden C y.name y.desc).before a0 Z = true) (w10 : (Jvm.Cond.castable C y.cls).before a0 Z = true) (w6 : (Jvm.Cond.initialized z.cls).before a0 Z = true) (w4 : (Jvm.Cond.code z bytes maxL ret).before a0 Z = true) (hy : y.cls ≠ "java/lang/invoke/MethodHandle" ∧ y.cls ≠ "java/lang/invoke/VarHandle")
    (E : Exa Z h b C) (hM : own_Met l Z h z bytes maxL ret [] rm as' Q rm.cells rm.slots)
    (hf : rm.frames + 1 ≤ R.frames) (hl : W + (maxL + 11) + rm.locals ≤ R.locals) (hc : cells + rm.cells ≤ R.cells) (hsl : slots + rm.slots ≤ R.slots)
    {g : JFrame} (hg : g.method = m) (hsize : g.locals.size = c.maxLocals) {argsL rest : List Value} (has : (.ref b :: argsL).toArray = as') (hlen : ∀ sig, parseMethodDescriptor y.desc = some sig → argsL.length = sig.parameters.length)
    (hstack : g.stack = argsL.reverse ++ .ref b :: rest) (hW : 2 * g.monitorRoom + (rest.map fun v => v.category).sum ≤ W) (hd : decode c.code g.pc = .ok (.invokeinterface index count, 5)) :
    own_After p l e R s m args below meth c T locs (cells + rm.cells) (slots + rm.slots) g rest Q 5 := by
  obtain ⟨cq, kq, q1, q2, q3⟩ := isOf hZ eT E
  obtain ⟨v, vm1, ⟨T', L', k', n'⟩, -, X', ⟨Lc, hQ, l1, y1, z1⟩, st⟩ := X.interfaceBack hx (xi := y) (y := z) hown (mvT hZ w1) (mvT hZ w2) (mvT hZ w7 h7) (mvT hZ w3) (mvT hZ w5) (mvT hZ w8) (mvT hZ w9) (mvT hZ w10) hy (backOf (W := W) hM hZ w4 w6 hf hl) q1 q2 q3 hg hsize (Steps.refl _) hlen hstack hW hd (fun _ _ => ⟨has, eT, hc, hsl⟩)
  dsimp only [Pt.U, Pt.locs, Pt.cells, Pt.slots] at X' l1 y1 z1 st hQ
  subst l1 y1 z1
  exact ⟨T', _, v, Lc, X', rfl, hQ, fun _ k => st.trans k⟩
theorem own_callP (X : Stand p l e R s m args below meth c T locs cells slots) (hx : p.tables.exec = Jvm.exec) (hZ : Z.Warmed39 s.vm) (hown : s.vm.findClass own = some m.cls) (eT : T.heap = h) {b : Addr} {C : String}
    (w1 : (Jvm.Cond.methodLink own index y).before a0 Z = true) (w5 : (Jvm.Cond.instanceMethod y).before a0 Z = true) (w3 : (Jvm.Cond.selects y.cls y y).before a0 Z = true) (w7 : (Jvm.Cond.privateMethod y).before a0 Z = true) (w6 : (Jvm.Cond.initialized y.cls).before a0 Z = true) (w4 : (Jvm.Cond.code y bytes maxL ret).before a0 Z = true) (hy : y.cls ≠ "java/lang/invoke/MethodHandle" ∧ y.cls ≠ "java/lang/invoke/VarHandle")
    (E : Exa Z h b C) (hM : own_Met l Z h y bytes maxL ret [] rm as' Q rm.cells rm.slots)
    (hf : rm.frames + 1 ≤ R.frames) (hl : W + (maxL + 11) + rm.locals ≤ R.locals) (hc : cells + rm.cells ≤ R.cells) (hsl : slots + rm.slots ≤ R.slots)
    {g : JFrame} (hg : g.method = m) (hsize : g.locals.size = c.maxLocals) {argsL rest : List Value} (has : (.ref b :: argsL).toArray = as') (hlen : ∀ sig, parseMethodDescriptor y.desc = some sig → argsL.length = sig.parameters.length)
    (hstack : g.stack = argsL.reverse ++ .ref b :: rest) (hW : 2 * g.monitorRoom + (rest.map fun v => v.category).sum ≤ W) (hd : decode c.code g.pc = .ok (.invokevirtual index, 3)) :
    own_After p l e R s m args below meth c T locs (cells + rm.cells) (slots + rm.slots) g rest Q := by
  obtain ⟨cell, hcell, hobj⟩ := E.cell
  obtain ⟨v, vm1, ⟨T', L', k', n'⟩, -, X', ⟨Lc, hQ, l1, y1, z1⟩, st⟩ := X.privateBack hx (y := y) hown (mvT hZ w1) (mvT hZ w5) (mvT hZ w3) (Cond.privateMethod_at (mvP (args := #[]) hZ w7)) (mvT hZ w4) hy (backOf (W := W) hM hZ w4 w6 hf hl) hg hsize (Steps.refl _) (by rw [eT]; exact hcell) hobj hlen hstack hW hd (fun _ _ => ⟨has, eT, hc, hsl⟩)
  dsimp only [Pt.U, Pt.locs, Pt.cells, Pt.slots] at X' l1 y1 z1 st hQ
  subst l1 y1 z1
  exact ⟨T', _, v, Lc, X', rfl, hQ, fun _ k => st.trans k⟩
theorem own_lsw (X : Stand p l e R s m args below meth c T locs cells slots) (hx : p.tables.exec = Jvm.exec) {g : JFrame} (hg : g.method = m) {k : Int32} {rest : List Value} (hs : g.stack = .int k :: rest) {dflt : Int} {pairs : Array (Int × Int)} {len : Nat} (hd : decode c.code g.pc = .ok (.lookupswitch dflt pairs, len))
    (hsorted : (pairs.toList.zip (pairs.toList.drop 1)).all (fun (a, next) => a.1 < next.1) = true) {a off : Int} (hfind : pairs.find? (·.1 == k.toInt) = some (a, off)) {pc0 pc' : Nat} (hpc : g.pc = pc0) (ho : 0 ≤ (pc0 : Int) + off) (hp : ((pc0 : Int) + off).toNat = pc') :
    ∀ t, Steps p.tables e below (T.setTop { g with pc := pc', stack := rest }) t → Steps p.tables e below (T.setTop g) t := by
  subst hpc hp; exact fun t hr => X.lookupswitchHit hx hg hs hd hsorted hfind ho t hr
theorem own_rne {a b : Addr} (h : a ≠ b) : ¬ (Value.ref a = Value.ref b) := fun q => h (Value.ref.inj q)
def own_pl : Value → Bool
  | .int _ => true
  | .ref _ => true
  | .null => true
  | .long _ => true
  | _ => false
theorem own_eqv {args : Array Value} {f : State} {o : Option Outcome} {idx : List Nat} {t u : Term} {x y : Value} (ha : t.eval args f o idx s = some x) (hb : u.eval args f o idx s = some y) (h : (Jvm.Cond.eq t u).value args f o s idx = some true) (hk : own_pl y = true := by rfl) : x = y := by
  cases x <;> cases y <;> simp [Jvm.Cond.value, ha, hb, own_pl] at h hk ⊢ <;> first | exact h | exact h.symm
theorem own_fv {args : Array Value} {t u : Term} {O n d : String} {a : Addr} {y : Value} (ht : t.eval args s none [] s = some (.ref a)) (hu : u.eval args s none [] s = some y) (h : (Jvm.Cond.eq (.field t O n d) u).value args s none s [] = some true) (hk : own_pl y = true := by rfl) : Fld s s.heap a O n d y := by
  obtain ⟨x, y', e1, e2, -, -⟩ := cmp_v (Or.inl h)
  have q := own_eqv e1 hu h hk
  subst q
  exact Fld.start ((fld_at ht).symm.trans e1)
end Own
theorem own_tri (x : Int32) : (x < 0 ∧ ¬ (x = 0) ∧ ¬ (0 < x)) ∨ (x = 0 ∧ ¬ (x < 0) ∧ ¬ (0 < x)) ∨ (0 < x ∧ ¬ (x < 0) ∧ ¬ (x = 0)) := by
  simp only [Int32.lt_iff_toInt_lt, ← Int32.toInt_inj, Int32.reduceToInt]
  omega
theorem own_ef0 (m : MethodId) (x0 : Int32) : entryFrame m #[(.int x0)] maxLocals = mkF m 0 #[.val (.int x0), .unset, .unset, .unset, .unset, .unset, .unset, .unset] [] := by first | (simp [entryFrame, mkF, argsToLocals, Value.category, maxLocals]; done) | rfl
theorem own_ef1 (m : MethodId) (x0 : Addr) (x1 : Int32) : entryFrame m #[(.ref x0), (.int x1)] 2 = mkF m 0 #[.val (.ref x0), .val (.int x1)] [] := by first | (simp [entryFrame, mkF, argsToLocals, Value.category]; done) | rfl
theorem dd0_0 : decode prog_36_method_4_code 0 = .ok (.aload_n 0, 1) := by decide +kernel
theorem own_ef2 (m : MethodId) (x0 : Addr) : entryFrame m #[(.ref x0)] 1 = mkF m 0 #[.val (.ref x0)] [] := by first | (simp [entryFrame, mkF, argsToLocals, Value.category]; done) | rfl
theorem dd1_0 : decode jdk_37_method_2_code 0 = .ok (.aload_n 0, 1) := by decide +kernel
theorem dd1_1 : decode jdk_37_method_2_code 1 = .ok (.getfield 7, 3) := by decide +kernel
theorem dd1_4 : decode jdk_37_method_2_code 4 = .ok (.ireturn, 1) := by decide +kernel
def own_Q3 (Z : State) (ob_2 : Addr) (h0 : Heap) (n0 : Nat) (v : Option Value) (h : Heap) (L : List Loc) : Prop := (v = some (.int 0) ∧ Fr n0 L ∧ h = h0)
theorem own_pn0 : plainFor (⟨"java/lang/Enum", "ordinal", "()I"⟩ : MethodName) = true := by decide +kernel
set_option maxRecDepth 65536 in
set_option maxHeartbeats 40000000 in
theorem own_rm3 (l : Launch) (Z : State) (a0 : Array Value) (hw : ∀ d ∈ tables_1, d.before a0 Z = true) (ws : List Jvm.Cond) (ob_2 : Addr) (h0 : Heap) (n0 : Nat) (Z0 : n0 ≤ h0.size) (O0 : Old Z n0 h0) (I23 : Fld Z Z.heap ob_2 "java/lang/Enum" "ordinal" "I" (.int 0)) :
    own_Met l Z h0 (⟨"java/lang/Enum", "ordinal", "()I"⟩ : MethodName) jdk_37_method_2_code 1 (Option.some FieldType.int) ws ({ frames := 0, cells := 0, slots := 0, locals := 0 } : Room) #[(.ref ob_2)] (own_Q3 Z ob_2 h0 n0) 0 0 := by
  refine MetFree.of_bodySF own_pn0 hisR ?_
  intro p e s m args below meth c s₁ Bd hml0 hP hK
  obtain ⟨rfl, hZ, hh⟩ := hP
  have hx := Bd.exec
  have hby := Bd.bytes
  have hml : c.maxLocals = 1 := hml0
  have hown : s.vm.findClass "java/lang/Enum" = some m.cls := findClass_of_methodNamed Bd.named
  have hnm := (name_of_methodNamed Bd.named Bd.method).1
  have X0 : Stand p l e ({ frames := 0, cells := 0, slots := 0, locals := 0 } : Room) s m #[(.ref ob_2)] below meth c s₁ [] 0 0 := Stand.of_body Bd
  have e0 : s₁.heap = h0 := by rw [← hh, Bd.state]; rfl
  have N0 := Fr.nil n0
  show own_G p e below (s₁.setTop (entryFrame m #[(.ref ob_2)] 1)) (own_P s (own_Q3 Z ob_2 h0 n0) 0 0)
  refine own_cast (own_ef2 m ob_2) ?_
  show own_G p e below (s₁.setTop (mkF m 0 #[rv ob_2] [])) _
  refine oS (fun _ => XS.aloadN X0.here hx rfl (hb hby dd1_0) rfl rfl) ?_
  have F24 : Fld Z h0 ob_2 "java/lang/Enum" "ordinal" "I" (.int 0) := Fld.ext O0.2 I23
  obtain ⟨T25, X26, e27, s28⟩ := getF X0 hx hZ hown (host := "") (Or.inl (oW hw 15 rfl)) Via.refl e0 F24 (g := (mkF m 1 #[rv ob_2] [(.ref ob_2)])) rfl rfl (hb hby dd1_1)
  refine oS s28 ?_
  show own_G p e below (T25.setTop (mkF m 4 #[rv ob_2] [(.int 0)])) _
  exact own_retI X26 hx Bd.notSynchronized Bd.returns (hb hby dd1_4) e27 (by decide) (by decide) (⟨rfl, N0, rfl⟩)
theorem own_pd0 : parseMethodDescriptor "()I" = some ⟨[], (some .int)⟩ := by decide +kernel
theorem dd0_1 : decode prog_36_method_4_code 1 = .ok (.invokevirtual 39, 3) := by decide +kernel
theorem dd0_4 : decode prog_36_method_4_code 4 = .ok (.tableswitch 32 0 3 #[42, 54, 66, 78], 32) := by decide +kernel
theorem dd0_46 : decode prog_36_method_4_code 46 = .ok (.iload_n 1, 1) := by decide +kernel
theorem dd0_47 : decode prog_36_method_4_code 47 = .ok (.ifCond .ge 7, 3) := by decide +kernel
theorem dd0_50 : decode prog_36_method_4_code 50 = .ok (.iconst 1, 1) := by decide +kernel
theorem dd0_51 : decode prog_36_method_4_code 51 = .ok (.goto 40, 3) := by decide +kernel
theorem dd0_91 : decode prog_36_method_4_code 91 = .ok (.ireturn, 1) := by decide +kernel
def own_Q2 (Z : State) (ob_2 : Addr) (in_1 : Int32) (h0 : Heap) (n0 : Nat) (v : Option Value) (h : Heap) (L : List Loc) : Prop := (v = some (.int 1) ∧ Fr n0 L ∧ h = h0)
theorem own_pn1 : plainFor (⟨"com/example/typub/typub/Term$Order", "holds", "(I)Z"⟩ : MethodName) = true := by decide +kernel
set_option maxRecDepth 65536 in
set_option maxHeartbeats 40000000 in
theorem own_rm2 (l : Launch) (Z : State) (a0 : Array Value) (hw : ∀ d ∈ tables_1, d.before a0 Z = true) (ws : List Jvm.Cond) (ob_2 : Addr) (in_1 : Int32) (h0 : Heap) (n0 : Nat) (Z0 : n0 ≤ h0.size) (O0 : Old Z n0 h0) (I22 : Fld Z Z.heap ob_2 "java/lang/Enum" "ordinal" "I" (.int 0)) (I38 : Exa Z Z.heap ob_2 "com/example/typub/typub/Term$Order") (I45 : in_1 < 0) :
    own_Met l Z h0 (⟨"com/example/typub/typub/Term$Order", "holds", "(I)Z"⟩ : MethodName) prog_36_method_4_code 2 (Option.some FieldType.boolean) ws ({ frames := 1, cells := 0, slots := 0, locals := 12 } : Room) #[(.ref ob_2), (.int in_1)] (own_Q2 Z ob_2 in_1 h0 n0) 0 0 := by
  refine MetFree.of_bodySF own_pn1 hisR ?_
  intro p e s m args below meth c s₁ Bd hml0 hP hK
  obtain ⟨rfl, hZ, hh⟩ := hP
  have hx := Bd.exec
  have hby := Bd.bytes
  have hml : c.maxLocals = 2 := hml0
  have hown : s.vm.findClass "com/example/typub/typub/Term$Order" = some m.cls := findClass_of_methodNamed Bd.named
  have hnm := (name_of_methodNamed Bd.named Bd.method).1
  have X0 : Stand p l e ({ frames := 1, cells := 0, slots := 0, locals := 12 } : Room) s m #[(.ref ob_2), (.int in_1)] below meth c s₁ [] 0 0 := Stand.of_body Bd
  have e0 : s₁.heap = h0 := by rw [← hh, Bd.state]; rfl
  have N0 := Fr.nil n0
  show own_G p e below (s₁.setTop (entryFrame m #[(.ref ob_2), (.int in_1)] 2)) (own_P s (own_Q2 Z ob_2 in_1 h0 n0) 0 0)
  refine own_cast (own_ef1 m ob_2 in_1) ?_
  show own_G p e below (s₁.setTop (mkF m 0 #[rv ob_2, iv in_1] [])) _
  refine oS (fun _ => XS.aloadN X0.here hx rfl (hb hby dd0_0) rfl rfl) ?_
  have F39 : Exa Z h0 ob_2 "com/example/typub/typub/Term$Order" := Exa.ext O0.2 I38
  obtain ⟨T29, h30, v31, L32, X33, e34, q35, s36⟩ := own_callU X0 hx hZ hown e0 (y := (⟨"com/example/typub/typub/Term$Order", "ordinal", "()I"⟩ : MethodName)) (z := (⟨"java/lang/Enum", "ordinal", "()I"⟩ : MethodName)) (C := "com/example/typub/typub/Term$Order") (owner := "java/lang/Enum") (b := ob_2) (oW hw 8 rfl) (oW hw 9 rfl) (oW hw 10 rfl) (oW hw 12 rfl) (oW hw 11 rfl) (oW hw 13 rfl) (oW hw 14 rfl) (by decide) F39 (W := 0) (own_rm3 l Z a0 hw [] ob_2 h0 n0 Z0 O0 I22) (by decide) (by decide) (by decide) (by decide) (g := (mkF m 1 #[rv ob_2, iv in_1] [(.ref ob_2)])) rfl (by rw [hml]; rfl) (argsL := []) (rest := []) rfl (lenOf own_pd0 rfl) rfl (by show 2 * 0 + _ ≤ _; exact Nat.le_of_eq rfl) (hb hby dd0_1)
  refine oS s36 ?_
  obtain ⟨rfl, N40, K41⟩ := q35
  have N42 := Fr.app N0 N40
  have e43 := e34.trans K41
  show own_G p e below (T29.setTop (mkF m 4 #[rv ob_2, iv in_1] [(.int 0)])) _
  have u44 : ∀ t, Steps p.tables e below (T29.setTop (mkF m 46 #[rv ob_2, iv in_1] [])) t → Steps p.tables e below (T29.setTop (mkF m 4 #[rv ob_2, iv in_1] [(.int 0)])) t := fun t hr => XS.tswIn X33.here hx (g := (mkF m 4 #[rv ob_2, iv in_1] [(.int 0)])) rfl (pc0 := 4) (pc' := 46) rfl (hb hby dd0_4) rfl (by decide +kernel) (o := 42) (by decide +kernel) (by decide) (by decide) hr
  refine oS u44 ?_
  refine oS (fun _ => XS.iloadN X33.here hx rfl (hb hby dd0_46) rfl) ?_
  refine oS (fun _ => XS.ifNo X33.here hx rfl (hb hby dd0_47) rfl (XT.i0_ge_f I45)) ?_
  show own_G p e below (T29.setTop (mkF m 50 #[rv ob_2, iv in_1] [])) _
  refine oS (fun _ => XS.iconst X33.here hx rfl (hb hby dd0_50) ) ?_
  refine oS (fun _ => XS.goto X33.here hx rfl (pc0 := 51) (pc' := 91) rfl (hb hby dd0_51) (by decide) (by decide)) ?_
  show own_G p e below (T29.setTop (mkF m 91 #[rv ob_2, iv in_1] [(.int 1)])) _
  exact own_retN X33 hx (t := .boolean) Bd.notSynchronized Bd.returns (by simp) (hb hby dd0_91) (by decide) e43 (by decide) (by decide) (⟨rfl, N42, rfl⟩)
theorem own_pd1 : parseMethodDescriptor "(I)Z" = some ⟨[.int], (some .boolean)⟩ := by decide +kernel
def own_Q5 (Z : State) (ob_3 : Addr) (h0 : Heap) (n0 : Nat) (v : Option Value) (h : Heap) (L : List Loc) : Prop := (v = some (.int 1) ∧ Fr n0 L ∧ h = h0)
set_option maxRecDepth 65536 in
set_option maxHeartbeats 40000000 in
theorem own_rm5 (l : Launch) (Z : State) (a0 : Array Value) (hw : ∀ d ∈ tables_1, d.before a0 Z = true) (ws : List Jvm.Cond) (ob_3 : Addr) (h0 : Heap) (n0 : Nat) (Z0 : n0 ≤ h0.size) (O0 : Old Z n0 h0) (I67 : Fld Z Z.heap ob_3 "java/lang/Enum" "ordinal" "I" (.int 1)) :
    own_Met l Z h0 (⟨"java/lang/Enum", "ordinal", "()I"⟩ : MethodName) jdk_37_method_2_code 1 (Option.some FieldType.int) ws ({ frames := 0, cells := 0, slots := 0, locals := 0 } : Room) #[(.ref ob_3)] (own_Q5 Z ob_3 h0 n0) 0 0 := by
  refine MetFree.of_bodySF own_pn0 hisR ?_
  intro p e s m args below meth c s₁ Bd hml0 hP hK
  obtain ⟨rfl, hZ, hh⟩ := hP
  have hx := Bd.exec
  have hby := Bd.bytes
  have hml : c.maxLocals = 1 := hml0
  have hown : s.vm.findClass "java/lang/Enum" = some m.cls := findClass_of_methodNamed Bd.named
  have hnm := (name_of_methodNamed Bd.named Bd.method).1
  have X0 : Stand p l e ({ frames := 0, cells := 0, slots := 0, locals := 0 } : Room) s m #[(.ref ob_3)] below meth c s₁ [] 0 0 := Stand.of_body Bd
  have e0 : s₁.heap = h0 := by rw [← hh, Bd.state]; rfl
  have N0 := Fr.nil n0
  show own_G p e below (s₁.setTop (entryFrame m #[(.ref ob_3)] 1)) (own_P s (own_Q5 Z ob_3 h0 n0) 0 0)
  refine own_cast (own_ef2 m ob_3) ?_
  show own_G p e below (s₁.setTop (mkF m 0 #[rv ob_3] [])) _
  refine oS (fun _ => XS.aloadN X0.here hx rfl (hb hby dd1_0) rfl rfl) ?_
  have F68 : Fld Z h0 ob_3 "java/lang/Enum" "ordinal" "I" (.int 1) := Fld.ext O0.2 I67
  obtain ⟨T69, X70, e71, s72⟩ := getF X0 hx hZ hown (host := "") (Or.inl (oW hw 15 rfl)) Via.refl e0 F68 (g := (mkF m 1 #[rv ob_3] [(.ref ob_3)])) rfl rfl (hb hby dd1_1)
  refine oS s72 ?_
  show own_G p e below (T69.setTop (mkF m 4 #[rv ob_3] [(.int 1)])) _
  exact own_retI X70 hx Bd.notSynchronized Bd.returns (hb hby dd1_4) e71 (by decide) (by decide) (⟨rfl, N0, rfl⟩)
theorem dd0_58 : decode prog_36_method_4_code 58 = .ok (.iload_n 1, 1) := by decide +kernel
theorem dd0_59 : decode prog_36_method_4_code 59 = .ok (.ifCond .gt 7, 3) := by decide +kernel
theorem dd0_62 : decode prog_36_method_4_code 62 = .ok (.iconst 1, 1) := by decide +kernel
theorem dd0_63 : decode prog_36_method_4_code 63 = .ok (.goto 28, 3) := by decide +kernel
def own_Q4 (Z : State) (ob_3 : Addr) (in_1 : Int32) (h0 : Heap) (n0 : Nat) (v : Option Value) (h : Heap) (L : List Loc) : Prop := (v = some (.int 1) ∧ Fr n0 L ∧ h = h0)
set_option maxRecDepth 65536 in
set_option maxHeartbeats 40000000 in
theorem own_rm4 (l : Launch) (Z : State) (a0 : Array Value) (hw : ∀ d ∈ tables_1, d.before a0 Z = true) (ws : List Jvm.Cond) (ob_3 : Addr) (in_1 : Int32) (h0 : Heap) (n0 : Nat) (Z0 : n0 ≤ h0.size) (O0 : Old Z n0 h0) (I66 : Fld Z Z.heap ob_3 "java/lang/Enum" "ordinal" "I" (.int 1)) (I82 : Exa Z Z.heap ob_3 "com/example/typub/typub/Term$Order") (I89 : ¬ (0 < in_1)) :
    own_Met l Z h0 (⟨"com/example/typub/typub/Term$Order", "holds", "(I)Z"⟩ : MethodName) prog_36_method_4_code 2 (Option.some FieldType.boolean) ws ({ frames := 1, cells := 0, slots := 0, locals := 12 } : Room) #[(.ref ob_3), (.int in_1)] (own_Q4 Z ob_3 in_1 h0 n0) 0 0 := by
  refine MetFree.of_bodySF own_pn1 hisR ?_
  intro p e s m args below meth c s₁ Bd hml0 hP hK
  obtain ⟨rfl, hZ, hh⟩ := hP
  have hx := Bd.exec
  have hby := Bd.bytes
  have hml : c.maxLocals = 2 := hml0
  have hown : s.vm.findClass "com/example/typub/typub/Term$Order" = some m.cls := findClass_of_methodNamed Bd.named
  have hnm := (name_of_methodNamed Bd.named Bd.method).1
  have X0 : Stand p l e ({ frames := 1, cells := 0, slots := 0, locals := 12 } : Room) s m #[(.ref ob_3), (.int in_1)] below meth c s₁ [] 0 0 := Stand.of_body Bd
  have e0 : s₁.heap = h0 := by rw [← hh, Bd.state]; rfl
  have N0 := Fr.nil n0
  show own_G p e below (s₁.setTop (entryFrame m #[(.ref ob_3), (.int in_1)] 2)) (own_P s (own_Q4 Z ob_3 in_1 h0 n0) 0 0)
  refine own_cast (own_ef1 m ob_3 in_1) ?_
  show own_G p e below (s₁.setTop (mkF m 0 #[rv ob_3, iv in_1] [])) _
  refine oS (fun _ => XS.aloadN X0.here hx rfl (hb hby dd0_0) rfl rfl) ?_
  have F83 : Exa Z h0 ob_3 "com/example/typub/typub/Term$Order" := Exa.ext O0.2 I82
  obtain ⟨T73, h74, v75, L76, X77, e78, q79, s80⟩ := own_callU X0 hx hZ hown e0 (y := (⟨"com/example/typub/typub/Term$Order", "ordinal", "()I"⟩ : MethodName)) (z := (⟨"java/lang/Enum", "ordinal", "()I"⟩ : MethodName)) (C := "com/example/typub/typub/Term$Order") (owner := "java/lang/Enum") (b := ob_3) (oW hw 8 rfl) (oW hw 9 rfl) (oW hw 10 rfl) (oW hw 12 rfl) (oW hw 11 rfl) (oW hw 13 rfl) (oW hw 14 rfl) (by decide) F83 (W := 0) (own_rm5 l Z a0 hw [] ob_3 h0 n0 Z0 O0 I66) (by decide) (by decide) (by decide) (by decide) (g := (mkF m 1 #[rv ob_3, iv in_1] [(.ref ob_3)])) rfl (by rw [hml]; rfl) (argsL := []) (rest := []) rfl (lenOf own_pd0 rfl) rfl (by show 2 * 0 + _ ≤ _; exact Nat.le_of_eq rfl) (hb hby dd0_1)
  refine oS s80 ?_
  obtain ⟨rfl, N84, K85⟩ := q79
  have N86 := Fr.app N0 N84
  have e87 := e78.trans K85
  show own_G p e below (T73.setTop (mkF m 4 #[rv ob_3, iv in_1] [(.int 1)])) _
  have u88 : ∀ t, Steps p.tables e below (T73.setTop (mkF m 58 #[rv ob_3, iv in_1] [])) t → Steps p.tables e below (T73.setTop (mkF m 4 #[rv ob_3, iv in_1] [(.int 1)])) t := fun t hr => XS.tswIn X77.here hx (g := (mkF m 4 #[rv ob_3, iv in_1] [(.int 1)])) rfl (pc0 := 4) (pc' := 58) rfl (hb hby dd0_4) rfl (by decide +kernel) (o := 54) (by decide +kernel) (by decide) (by decide) hr
  refine oS u88 ?_
  refine oS (fun _ => XS.iloadN X77.here hx rfl (hb hby dd0_58) rfl) ?_
  refine oS (fun _ => XS.ifNo X77.here hx rfl (hb hby dd0_59) rfl (XT.i0_gt_f I89)) ?_
  show own_G p e below (T73.setTop (mkF m 62 #[rv ob_3, iv in_1] [])) _
  refine oS (fun _ => XS.iconst X77.here hx rfl (hb hby dd0_62) ) ?_
  refine oS (fun _ => XS.goto X77.here hx rfl (pc0 := 63) (pc' := 91) rfl (hb hby dd0_63) (by decide) (by decide)) ?_
  show own_G p e below (T73.setTop (mkF m 91 #[rv ob_3, iv in_1] [(.int 1)])) _
  exact own_retN X77 hx (t := .boolean) Bd.notSynchronized Bd.returns (by simp) (hb hby dd0_91) (by decide) e87 (by decide) (by decide) (⟨rfl, N86, rfl⟩)
def own_Q7 (Z : State) (ob_4 : Addr) (h0 : Heap) (n0 : Nat) (v : Option Value) (h : Heap) (L : List Loc) : Prop := (v = some (.int 2) ∧ Fr n0 L ∧ h = h0)
set_option maxRecDepth 65536 in
set_option maxHeartbeats 40000000 in
theorem own_rm7 (l : Launch) (Z : State) (a0 : Array Value) (hw : ∀ d ∈ tables_1, d.before a0 Z = true) (ws : List Jvm.Cond) (ob_4 : Addr) (h0 : Heap) (n0 : Nat) (Z0 : n0 ≤ h0.size) (O0 : Old Z n0 h0) (I111 : Fld Z Z.heap ob_4 "java/lang/Enum" "ordinal" "I" (.int 2)) :
    own_Met l Z h0 (⟨"java/lang/Enum", "ordinal", "()I"⟩ : MethodName) jdk_37_method_2_code 1 (Option.some FieldType.int) ws ({ frames := 0, cells := 0, slots := 0, locals := 0 } : Room) #[(.ref ob_4)] (own_Q7 Z ob_4 h0 n0) 0 0 := by
  refine MetFree.of_bodySF own_pn0 hisR ?_
  intro p e s m args below meth c s₁ Bd hml0 hP hK
  obtain ⟨rfl, hZ, hh⟩ := hP
  have hx := Bd.exec
  have hby := Bd.bytes
  have hml : c.maxLocals = 1 := hml0
  have hown : s.vm.findClass "java/lang/Enum" = some m.cls := findClass_of_methodNamed Bd.named
  have hnm := (name_of_methodNamed Bd.named Bd.method).1
  have X0 : Stand p l e ({ frames := 0, cells := 0, slots := 0, locals := 0 } : Room) s m #[(.ref ob_4)] below meth c s₁ [] 0 0 := Stand.of_body Bd
  have e0 : s₁.heap = h0 := by rw [← hh, Bd.state]; rfl
  have N0 := Fr.nil n0
  show own_G p e below (s₁.setTop (entryFrame m #[(.ref ob_4)] 1)) (own_P s (own_Q7 Z ob_4 h0 n0) 0 0)
  refine own_cast (own_ef2 m ob_4) ?_
  show own_G p e below (s₁.setTop (mkF m 0 #[rv ob_4] [])) _
  refine oS (fun _ => XS.aloadN X0.here hx rfl (hb hby dd1_0) rfl rfl) ?_
  have F112 : Fld Z h0 ob_4 "java/lang/Enum" "ordinal" "I" (.int 2) := Fld.ext O0.2 I111
  obtain ⟨T113, X114, e115, s116⟩ := getF X0 hx hZ hown (host := "") (Or.inl (oW hw 15 rfl)) Via.refl e0 F112 (g := (mkF m 1 #[rv ob_4] [(.ref ob_4)])) rfl rfl (hb hby dd1_1)
  refine oS s116 ?_
  show own_G p e below (T113.setTop (mkF m 4 #[rv ob_4] [(.int 2)])) _
  exact own_retI X114 hx Bd.notSynchronized Bd.returns (hb hby dd1_4) e115 (by decide) (by decide) (⟨rfl, N0, rfl⟩)
theorem dd0_70 : decode prog_36_method_4_code 70 = .ok (.iload_n 1, 1) := by decide +kernel
theorem dd0_71 : decode prog_36_method_4_code 71 = .ok (.ifCond .le 7, 3) := by decide +kernel
theorem dd0_78 : decode prog_36_method_4_code 78 = .ok (.iconst 0, 1) := by decide +kernel
theorem dd0_79 : decode prog_36_method_4_code 79 = .ok (.goto 12, 3) := by decide +kernel
def own_Q6 (Z : State) (ob_4 : Addr) (in_1 : Int32) (h0 : Heap) (n0 : Nat) (v : Option Value) (h : Heap) (L : List Loc) : Prop := (v = some (.int 0) ∧ Fr n0 L ∧ h = h0)
set_option maxRecDepth 65536 in
set_option maxHeartbeats 40000000 in
theorem own_rm6 (l : Launch) (Z : State) (a0 : Array Value) (hw : ∀ d ∈ tables_1, d.before a0 Z = true) (ws : List Jvm.Cond) (ob_4 : Addr) (in_1 : Int32) (h0 : Heap) (n0 : Nat) (Z0 : n0 ≤ h0.size) (O0 : Old Z n0 h0) (I110 : Fld Z Z.heap ob_4 "java/lang/Enum" "ordinal" "I" (.int 2)) (I126 : Exa Z Z.heap ob_4 "com/example/typub/typub/Term$Order") (I133 : ¬ (0 < in_1)) :
    own_Met l Z h0 (⟨"com/example/typub/typub/Term$Order", "holds", "(I)Z"⟩ : MethodName) prog_36_method_4_code 2 (Option.some FieldType.boolean) ws ({ frames := 1, cells := 0, slots := 0, locals := 12 } : Room) #[(.ref ob_4), (.int in_1)] (own_Q6 Z ob_4 in_1 h0 n0) 0 0 := by
  refine MetFree.of_bodySF own_pn1 hisR ?_
  intro p e s m args below meth c s₁ Bd hml0 hP hK
  obtain ⟨rfl, hZ, hh⟩ := hP
  have hx := Bd.exec
  have hby := Bd.bytes
  have hml : c.maxLocals = 2 := hml0
  have hown : s.vm.findClass "com/example/typub/typub/Term$Order" = some m.cls := findClass_of_methodNamed Bd.named
  have hnm := (name_of_methodNamed Bd.named Bd.method).1
  have X0 : Stand p l e ({ frames := 1, cells := 0, slots := 0, locals := 12 } : Room) s m #[(.ref ob_4), (.int in_1)] below meth c s₁ [] 0 0 := Stand.of_body Bd
  have e0 : s₁.heap = h0 := by rw [← hh, Bd.state]; rfl
  have N0 := Fr.nil n0
  show own_G p e below (s₁.setTop (entryFrame m #[(.ref ob_4), (.int in_1)] 2)) (own_P s (own_Q6 Z ob_4 in_1 h0 n0) 0 0)
  refine own_cast (own_ef1 m ob_4 in_1) ?_
  show own_G p e below (s₁.setTop (mkF m 0 #[rv ob_4, iv in_1] [])) _
  refine oS (fun _ => XS.aloadN X0.here hx rfl (hb hby dd0_0) rfl rfl) ?_
  have F127 : Exa Z h0 ob_4 "com/example/typub/typub/Term$Order" := Exa.ext O0.2 I126
  obtain ⟨T117, h118, v119, L120, X121, e122, q123, s124⟩ := own_callU X0 hx hZ hown e0 (y := (⟨"com/example/typub/typub/Term$Order", "ordinal", "()I"⟩ : MethodName)) (z := (⟨"java/lang/Enum", "ordinal", "()I"⟩ : MethodName)) (C := "com/example/typub/typub/Term$Order") (owner := "java/lang/Enum") (b := ob_4) (oW hw 8 rfl) (oW hw 9 rfl) (oW hw 10 rfl) (oW hw 12 rfl) (oW hw 11 rfl) (oW hw 13 rfl) (oW hw 14 rfl) (by decide) F127 (W := 0) (own_rm7 l Z a0 hw [] ob_4 h0 n0 Z0 O0 I110) (by decide) (by decide) (by decide) (by decide) (g := (mkF m 1 #[rv ob_4, iv in_1] [(.ref ob_4)])) rfl (by rw [hml]; rfl) (argsL := []) (rest := []) rfl (lenOf own_pd0 rfl) rfl (by show 2 * 0 + _ ≤ _; exact Nat.le_of_eq rfl) (hb hby dd0_1)
  refine oS s124 ?_
  obtain ⟨rfl, N128, K129⟩ := q123
  have N130 := Fr.app N0 N128
  have e131 := e122.trans K129
  show own_G p e below (T117.setTop (mkF m 4 #[rv ob_4, iv in_1] [(.int 2)])) _
  have u132 : ∀ t, Steps p.tables e below (T117.setTop (mkF m 70 #[rv ob_4, iv in_1] [])) t → Steps p.tables e below (T117.setTop (mkF m 4 #[rv ob_4, iv in_1] [(.int 2)])) t := fun t hr => XS.tswIn X121.here hx (g := (mkF m 4 #[rv ob_4, iv in_1] [(.int 2)])) rfl (pc0 := 4) (pc' := 70) rfl (hb hby dd0_4) rfl (by decide +kernel) (o := 66) (by decide +kernel) (by decide) (by decide) hr
  refine oS u132 ?_
  refine oS (fun _ => XS.iloadN X121.here hx rfl (hb hby dd0_70) rfl) ?_
  refine oS (fun _ => XS.ifYes X121.here hx rfl (pc0 := 71) (pc' := 78) rfl (hb hby dd0_71) rfl (XT.i0_le_t I133) (by decide) (by decide)) ?_
  show own_G p e below (T117.setTop (mkF m 78 #[rv ob_4, iv in_1] [])) _
  refine oS (fun _ => XS.iconst X121.here hx rfl (hb hby dd0_78) ) ?_
  refine oS (fun _ => XS.goto X121.here hx rfl (pc0 := 79) (pc' := 91) rfl (hb hby dd0_79) (by decide) (by decide)) ?_
  show own_G p e below (T117.setTop (mkF m 91 #[rv ob_4, iv in_1] [(.int 0)])) _
  exact own_retN X121 hx (t := .boolean) Bd.notSynchronized Bd.returns (by simp) (hb hby dd0_91) (by decide) e131 (by decide) (by decide) (⟨rfl, N130, rfl⟩)
def own_Q9 (Z : State) (ob_5 : Addr) (h0 : Heap) (n0 : Nat) (v : Option Value) (h : Heap) (L : List Loc) : Prop := (v = some (.int 3) ∧ Fr n0 L ∧ h = h0)
set_option maxRecDepth 65536 in
set_option maxHeartbeats 40000000 in
theorem own_rm9 (l : Launch) (Z : State) (a0 : Array Value) (hw : ∀ d ∈ tables_1, d.before a0 Z = true) (ws : List Jvm.Cond) (ob_5 : Addr) (h0 : Heap) (n0 : Nat) (Z0 : n0 ≤ h0.size) (O0 : Old Z n0 h0) (I155 : Fld Z Z.heap ob_5 "java/lang/Enum" "ordinal" "I" (.int 3)) :
    own_Met l Z h0 (⟨"java/lang/Enum", "ordinal", "()I"⟩ : MethodName) jdk_37_method_2_code 1 (Option.some FieldType.int) ws ({ frames := 0, cells := 0, slots := 0, locals := 0 } : Room) #[(.ref ob_5)] (own_Q9 Z ob_5 h0 n0) 0 0 := by
  refine MetFree.of_bodySF own_pn0 hisR ?_
  intro p e s m args below meth c s₁ Bd hml0 hP hK
  obtain ⟨rfl, hZ, hh⟩ := hP
  have hx := Bd.exec
  have hby := Bd.bytes
  have hml : c.maxLocals = 1 := hml0
  have hown : s.vm.findClass "java/lang/Enum" = some m.cls := findClass_of_methodNamed Bd.named
  have hnm := (name_of_methodNamed Bd.named Bd.method).1
  have X0 : Stand p l e ({ frames := 0, cells := 0, slots := 0, locals := 0 } : Room) s m #[(.ref ob_5)] below meth c s₁ [] 0 0 := Stand.of_body Bd
  have e0 : s₁.heap = h0 := by rw [← hh, Bd.state]; rfl
  have N0 := Fr.nil n0
  show own_G p e below (s₁.setTop (entryFrame m #[(.ref ob_5)] 1)) (own_P s (own_Q9 Z ob_5 h0 n0) 0 0)
  refine own_cast (own_ef2 m ob_5) ?_
  show own_G p e below (s₁.setTop (mkF m 0 #[rv ob_5] [])) _
  refine oS (fun _ => XS.aloadN X0.here hx rfl (hb hby dd1_0) rfl rfl) ?_
  have F156 : Fld Z h0 ob_5 "java/lang/Enum" "ordinal" "I" (.int 3) := Fld.ext O0.2 I155
  obtain ⟨T157, X158, e159, s160⟩ := getF X0 hx hZ hown (host := "") (Or.inl (oW hw 15 rfl)) Via.refl e0 F156 (g := (mkF m 1 #[rv ob_5] [(.ref ob_5)])) rfl rfl (hb hby dd1_1)
  refine oS s160 ?_
  show own_G p e below (T157.setTop (mkF m 4 #[rv ob_5] [(.int 3)])) _
  exact own_retI X158 hx Bd.notSynchronized Bd.returns (hb hby dd1_4) e159 (by decide) (by decide) (⟨rfl, N0, rfl⟩)
theorem dd0_82 : decode prog_36_method_4_code 82 = .ok (.iload_n 1, 1) := by decide +kernel
theorem dd0_83 : decode prog_36_method_4_code 83 = .ok (.ifCond .lt 7, 3) := by decide +kernel
theorem dd0_90 : decode prog_36_method_4_code 90 = .ok (.iconst 0, 1) := by decide +kernel
def own_Q8 (Z : State) (ob_5 : Addr) (in_1 : Int32) (h0 : Heap) (n0 : Nat) (v : Option Value) (h : Heap) (L : List Loc) : Prop := (v = some (.int 0) ∧ Fr n0 L ∧ h = h0)
set_option maxRecDepth 65536 in
set_option maxHeartbeats 40000000 in
theorem own_rm8 (l : Launch) (Z : State) (a0 : Array Value) (hw : ∀ d ∈ tables_1, d.before a0 Z = true) (ws : List Jvm.Cond) (ob_5 : Addr) (in_1 : Int32) (h0 : Heap) (n0 : Nat) (Z0 : n0 ≤ h0.size) (O0 : Old Z n0 h0) (I154 : Fld Z Z.heap ob_5 "java/lang/Enum" "ordinal" "I" (.int 3)) (I170 : Exa Z Z.heap ob_5 "com/example/typub/typub/Term$Order") (I177 : in_1 < 0) :
    own_Met l Z h0 (⟨"com/example/typub/typub/Term$Order", "holds", "(I)Z"⟩ : MethodName) prog_36_method_4_code 2 (Option.some FieldType.boolean) ws ({ frames := 1, cells := 0, slots := 0, locals := 12 } : Room) #[(.ref ob_5), (.int in_1)] (own_Q8 Z ob_5 in_1 h0 n0) 0 0 := by
  refine MetFree.of_bodySF own_pn1 hisR ?_
  intro p e s m args below meth c s₁ Bd hml0 hP hK
  obtain ⟨rfl, hZ, hh⟩ := hP
  have hx := Bd.exec
  have hby := Bd.bytes
  have hml : c.maxLocals = 2 := hml0
  have hown : s.vm.findClass "com/example/typub/typub/Term$Order" = some m.cls := findClass_of_methodNamed Bd.named
  have hnm := (name_of_methodNamed Bd.named Bd.method).1
  have X0 : Stand p l e ({ frames := 1, cells := 0, slots := 0, locals := 12 } : Room) s m #[(.ref ob_5), (.int in_1)] below meth c s₁ [] 0 0 := Stand.of_body Bd
  have e0 : s₁.heap = h0 := by rw [← hh, Bd.state]; rfl
  have N0 := Fr.nil n0
  show own_G p e below (s₁.setTop (entryFrame m #[(.ref ob_5), (.int in_1)] 2)) (own_P s (own_Q8 Z ob_5 in_1 h0 n0) 0 0)
  refine own_cast (own_ef1 m ob_5 in_1) ?_
  show own_G p e below (s₁.setTop (mkF m 0 #[rv ob_5, iv in_1] [])) _
  refine oS (fun _ => XS.aloadN X0.here hx rfl (hb hby dd0_0) rfl rfl) ?_
  have F171 : Exa Z h0 ob_5 "com/example/typub/typub/Term$Order" := Exa.ext O0.2 I170
  obtain ⟨T161, h162, v163, L164, X165, e166, q167, s168⟩ := own_callU X0 hx hZ hown e0 (y := (⟨"com/example/typub/typub/Term$Order", "ordinal", "()I"⟩ : MethodName)) (z := (⟨"java/lang/Enum", "ordinal", "()I"⟩ : MethodName)) (C := "com/example/typub/typub/Term$Order") (owner := "java/lang/Enum") (b := ob_5) (oW hw 8 rfl) (oW hw 9 rfl) (oW hw 10 rfl) (oW hw 12 rfl) (oW hw 11 rfl) (oW hw 13 rfl) (oW hw 14 rfl) (by decide) F171 (W := 0) (own_rm9 l Z a0 hw [] ob_5 h0 n0 Z0 O0 I154) (by decide) (by decide) (by decide) (by decide) (g := (mkF m 1 #[rv ob_5, iv in_1] [(.ref ob_5)])) rfl (by rw [hml]; rfl) (argsL := []) (rest := []) rfl (lenOf own_pd0 rfl) rfl (by show 2 * 0 + _ ≤ _; exact Nat.le_of_eq rfl) (hb hby dd0_1)
  refine oS s168 ?_
  obtain ⟨rfl, N172, K173⟩ := q167
  have N174 := Fr.app N0 N172
  have e175 := e166.trans K173
  show own_G p e below (T161.setTop (mkF m 4 #[rv ob_5, iv in_1] [(.int 3)])) _
  have u176 : ∀ t, Steps p.tables e below (T161.setTop (mkF m 82 #[rv ob_5, iv in_1] [])) t → Steps p.tables e below (T161.setTop (mkF m 4 #[rv ob_5, iv in_1] [(.int 3)])) t := fun t hr => XS.tswIn X165.here hx (g := (mkF m 4 #[rv ob_5, iv in_1] [(.int 3)])) rfl (pc0 := 4) (pc' := 82) rfl (hb hby dd0_4) rfl (by decide +kernel) (o := 78) (by decide +kernel) (by decide) (by decide) hr
  refine oS u176 ?_
  refine oS (fun _ => XS.iloadN X165.here hx rfl (hb hby dd0_82) rfl) ?_
  refine oS (fun _ => XS.ifYes X165.here hx rfl (pc0 := 83) (pc' := 90) rfl (hb hby dd0_83) rfl (XT.i0_lt_t I177) (by decide) (by decide)) ?_
  show own_G p e below (T161.setTop (mkF m 90 #[rv ob_5, iv in_1] [])) _
  refine oS (fun _ => XS.iconst X165.here hx rfl (hb hby dd0_90) ) ?_
  exact own_retN X165 hx (t := .boolean) Bd.notSynchronized Bd.returns (by simp) (hb hby dd0_91) (by decide) e175 (by decide) (by decide) (⟨rfl, N174, rfl⟩)
theorem dd0_54 : decode prog_36_method_4_code 54 = .ok (.iconst 0, 1) := by decide +kernel
theorem dd0_55 : decode prog_36_method_4_code 55 = .ok (.goto 36, 3) := by decide +kernel
def own_Q10 (Z : State) (ob_2 : Addr) (in_1 : Int32) (h0 : Heap) (n0 : Nat) (v : Option Value) (h : Heap) (L : List Loc) : Prop := (v = some (.int 0) ∧ Fr n0 L ∧ h = h0)
set_option maxRecDepth 65536 in
set_option maxHeartbeats 40000000 in
theorem own_rm10 (l : Launch) (Z : State) (a0 : Array Value) (hw : ∀ d ∈ tables_1, d.before a0 Z = true) (ws : List Jvm.Cond) (ob_2 : Addr) (in_1 : Int32) (h0 : Heap) (n0 : Nat) (Z0 : n0 ≤ h0.size) (O0 : Old Z n0 h0) (I196 : Fld Z Z.heap ob_2 "java/lang/Enum" "ordinal" "I" (.int 0)) (I205 : Exa Z Z.heap ob_2 "com/example/typub/typub/Term$Order") (I212 : ¬ (in_1 < 0)) :
    own_Met l Z h0 (⟨"com/example/typub/typub/Term$Order", "holds", "(I)Z"⟩ : MethodName) prog_36_method_4_code 2 (Option.some FieldType.boolean) ws ({ frames := 1, cells := 0, slots := 0, locals := 12 } : Room) #[(.ref ob_2), (.int in_1)] (own_Q10 Z ob_2 in_1 h0 n0) 0 0 := by
  refine MetFree.of_bodySF own_pn1 hisR ?_
  intro p e s m args below meth c s₁ Bd hml0 hP hK
  obtain ⟨rfl, hZ, hh⟩ := hP
  have hx := Bd.exec
  have hby := Bd.bytes
  have hml : c.maxLocals = 2 := hml0
  have hown : s.vm.findClass "com/example/typub/typub/Term$Order" = some m.cls := findClass_of_methodNamed Bd.named
  have hnm := (name_of_methodNamed Bd.named Bd.method).1
  have X0 : Stand p l e ({ frames := 1, cells := 0, slots := 0, locals := 12 } : Room) s m #[(.ref ob_2), (.int in_1)] below meth c s₁ [] 0 0 := Stand.of_body Bd
  have e0 : s₁.heap = h0 := by rw [← hh, Bd.state]; rfl
  have N0 := Fr.nil n0
  show own_G p e below (s₁.setTop (entryFrame m #[(.ref ob_2), (.int in_1)] 2)) (own_P s (own_Q10 Z ob_2 in_1 h0 n0) 0 0)
  refine own_cast (own_ef1 m ob_2 in_1) ?_
  show own_G p e below (s₁.setTop (mkF m 0 #[rv ob_2, iv in_1] [])) _
  refine oS (fun _ => XS.aloadN X0.here hx rfl (hb hby dd0_0) rfl rfl) ?_
  have F206 : Exa Z h0 ob_2 "com/example/typub/typub/Term$Order" := Exa.ext O0.2 I205
  obtain ⟨T197, h198, v199, L200, X201, e202, q203, s204⟩ := own_callU X0 hx hZ hown e0 (y := (⟨"com/example/typub/typub/Term$Order", "ordinal", "()I"⟩ : MethodName)) (z := (⟨"java/lang/Enum", "ordinal", "()I"⟩ : MethodName)) (C := "com/example/typub/typub/Term$Order") (owner := "java/lang/Enum") (b := ob_2) (oW hw 8 rfl) (oW hw 9 rfl) (oW hw 10 rfl) (oW hw 12 rfl) (oW hw 11 rfl) (oW hw 13 rfl) (oW hw 14 rfl) (by decide) F206 (W := 0) (own_rm3 l Z a0 hw [] ob_2 h0 n0 Z0 O0 I196) (by decide) (by decide) (by decide) (by decide) (g := (mkF m 1 #[rv ob_2, iv in_1] [(.ref ob_2)])) rfl (by rw [hml]; rfl) (argsL := []) (rest := []) rfl (lenOf own_pd0 rfl) rfl (by show 2 * 0 + _ ≤ _; exact Nat.le_of_eq rfl) (hb hby dd0_1)
  refine oS s204 ?_
  obtain ⟨rfl, N207, K208⟩ := q203
  have N209 := Fr.app N0 N207
  have e210 := e202.trans K208
  show own_G p e below (T197.setTop (mkF m 4 #[rv ob_2, iv in_1] [(.int 0)])) _
  have u211 : ∀ t, Steps p.tables e below (T197.setTop (mkF m 46 #[rv ob_2, iv in_1] [])) t → Steps p.tables e below (T197.setTop (mkF m 4 #[rv ob_2, iv in_1] [(.int 0)])) t := fun t hr => XS.tswIn X201.here hx (g := (mkF m 4 #[rv ob_2, iv in_1] [(.int 0)])) rfl (pc0 := 4) (pc' := 46) rfl (hb hby dd0_4) rfl (by decide +kernel) (o := 42) (by decide +kernel) (by decide) (by decide) hr
  refine oS u211 ?_
  refine oS (fun _ => XS.iloadN X201.here hx rfl (hb hby dd0_46) rfl) ?_
  refine oS (fun _ => XS.ifYes X201.here hx rfl (pc0 := 47) (pc' := 54) rfl (hb hby dd0_47) rfl (XT.i0_ge_t I212) (by decide) (by decide)) ?_
  show own_G p e below (T197.setTop (mkF m 54 #[rv ob_2, iv in_1] [])) _
  refine oS (fun _ => XS.iconst X201.here hx rfl (hb hby dd0_54) ) ?_
  refine oS (fun _ => XS.goto X201.here hx rfl (pc0 := 55) (pc' := 91) rfl (hb hby dd0_55) (by decide) (by decide)) ?_
  show own_G p e below (T197.setTop (mkF m 91 #[rv ob_2, iv in_1] [(.int 0)])) _
  exact own_retN X201 hx (t := .boolean) Bd.notSynchronized Bd.returns (by simp) (hb hby dd0_91) (by decide) e210 (by decide) (by decide) (⟨rfl, N209, rfl⟩)
theorem dd0_86 : decode prog_36_method_4_code 86 = .ok (.iconst 1, 1) := by decide +kernel
theorem dd0_87 : decode prog_36_method_4_code 87 = .ok (.goto 4, 3) := by decide +kernel
def own_Q11 (Z : State) (ob_5 : Addr) (in_1 : Int32) (h0 : Heap) (n0 : Nat) (v : Option Value) (h : Heap) (L : List Loc) : Prop := (v = some (.int 1) ∧ Fr n0 L ∧ h = h0)
set_option maxRecDepth 65536 in
set_option maxHeartbeats 40000000 in
theorem own_rm11 (l : Launch) (Z : State) (a0 : Array Value) (hw : ∀ d ∈ tables_1, d.before a0 Z = true) (ws : List Jvm.Cond) (ob_5 : Addr) (in_1 : Int32) (h0 : Heap) (n0 : Nat) (Z0 : n0 ≤ h0.size) (O0 : Old Z n0 h0) (I267 : Fld Z Z.heap ob_5 "java/lang/Enum" "ordinal" "I" (.int 3)) (I276 : Exa Z Z.heap ob_5 "com/example/typub/typub/Term$Order") (I283 : ¬ (in_1 < 0)) :
    own_Met l Z h0 (⟨"com/example/typub/typub/Term$Order", "holds", "(I)Z"⟩ : MethodName) prog_36_method_4_code 2 (Option.some FieldType.boolean) ws ({ frames := 1, cells := 0, slots := 0, locals := 12 } : Room) #[(.ref ob_5), (.int in_1)] (own_Q11 Z ob_5 in_1 h0 n0) 0 0 := by
  refine MetFree.of_bodySF own_pn1 hisR ?_
  intro p e s m args below meth c s₁ Bd hml0 hP hK
  obtain ⟨rfl, hZ, hh⟩ := hP
  have hx := Bd.exec
  have hby := Bd.bytes
  have hml : c.maxLocals = 2 := hml0
  have hown : s.vm.findClass "com/example/typub/typub/Term$Order" = some m.cls := findClass_of_methodNamed Bd.named
  have hnm := (name_of_methodNamed Bd.named Bd.method).1
  have X0 : Stand p l e ({ frames := 1, cells := 0, slots := 0, locals := 12 } : Room) s m #[(.ref ob_5), (.int in_1)] below meth c s₁ [] 0 0 := Stand.of_body Bd
  have e0 : s₁.heap = h0 := by rw [← hh, Bd.state]; rfl
  have N0 := Fr.nil n0
  show own_G p e below (s₁.setTop (entryFrame m #[(.ref ob_5), (.int in_1)] 2)) (own_P s (own_Q11 Z ob_5 in_1 h0 n0) 0 0)
  refine own_cast (own_ef1 m ob_5 in_1) ?_
  show own_G p e below (s₁.setTop (mkF m 0 #[rv ob_5, iv in_1] [])) _
  refine oS (fun _ => XS.aloadN X0.here hx rfl (hb hby dd0_0) rfl rfl) ?_
  have F277 : Exa Z h0 ob_5 "com/example/typub/typub/Term$Order" := Exa.ext O0.2 I276
  obtain ⟨T268, h269, v270, L271, X272, e273, q274, s275⟩ := own_callU X0 hx hZ hown e0 (y := (⟨"com/example/typub/typub/Term$Order", "ordinal", "()I"⟩ : MethodName)) (z := (⟨"java/lang/Enum", "ordinal", "()I"⟩ : MethodName)) (C := "com/example/typub/typub/Term$Order") (owner := "java/lang/Enum") (b := ob_5) (oW hw 8 rfl) (oW hw 9 rfl) (oW hw 10 rfl) (oW hw 12 rfl) (oW hw 11 rfl) (oW hw 13 rfl) (oW hw 14 rfl) (by decide) F277 (W := 0) (own_rm9 l Z a0 hw [] ob_5 h0 n0 Z0 O0 I267) (by decide) (by decide) (by decide) (by decide) (g := (mkF m 1 #[rv ob_5, iv in_1] [(.ref ob_5)])) rfl (by rw [hml]; rfl) (argsL := []) (rest := []) rfl (lenOf own_pd0 rfl) rfl (by show 2 * 0 + _ ≤ _; exact Nat.le_of_eq rfl) (hb hby dd0_1)
  refine oS s275 ?_
  obtain ⟨rfl, N278, K279⟩ := q274
  have N280 := Fr.app N0 N278
  have e281 := e273.trans K279
  show own_G p e below (T268.setTop (mkF m 4 #[rv ob_5, iv in_1] [(.int 3)])) _
  have u282 : ∀ t, Steps p.tables e below (T268.setTop (mkF m 82 #[rv ob_5, iv in_1] [])) t → Steps p.tables e below (T268.setTop (mkF m 4 #[rv ob_5, iv in_1] [(.int 3)])) t := fun t hr => XS.tswIn X272.here hx (g := (mkF m 4 #[rv ob_5, iv in_1] [(.int 3)])) rfl (pc0 := 4) (pc' := 82) rfl (hb hby dd0_4) rfl (by decide +kernel) (o := 78) (by decide +kernel) (by decide) (by decide) hr
  refine oS u282 ?_
  refine oS (fun _ => XS.iloadN X272.here hx rfl (hb hby dd0_82) rfl) ?_
  refine oS (fun _ => XS.ifNo X272.here hx rfl (hb hby dd0_83) rfl (XT.i0_lt_f I283)) ?_
  show own_G p e below (T268.setTop (mkF m 86 #[rv ob_5, iv in_1] [])) _
  refine oS (fun _ => XS.iconst X272.here hx rfl (hb hby dd0_86) ) ?_
  refine oS (fun _ => XS.goto X272.here hx rfl (pc0 := 87) (pc' := 91) rfl (hb hby dd0_87) (by decide) (by decide)) ?_
  show own_G p e below (T268.setTop (mkF m 91 #[rv ob_5, iv in_1] [(.int 1)])) _
  exact own_retN X272 hx (t := .boolean) Bd.notSynchronized Bd.returns (by simp) (hb hby dd0_91) (by decide) e281 (by decide) (by decide) (⟨rfl, N280, rfl⟩)
theorem dd0_66 : decode prog_36_method_4_code 66 = .ok (.iconst 0, 1) := by decide +kernel
theorem dd0_67 : decode prog_36_method_4_code 67 = .ok (.goto 24, 3) := by decide +kernel
def own_Q12 (Z : State) (ob_3 : Addr) (in_1 : Int32) (h0 : Heap) (n0 : Nat) (v : Option Value) (h : Heap) (L : List Loc) : Prop := (v = some (.int 0) ∧ Fr n0 L ∧ h = h0)
set_option maxRecDepth 65536 in
set_option maxHeartbeats 40000000 in
theorem own_rm12 (l : Launch) (Z : State) (a0 : Array Value) (hw : ∀ d ∈ tables_1, d.before a0 Z = true) (ws : List Jvm.Cond) (ob_3 : Addr) (in_1 : Int32) (h0 : Heap) (n0 : Nat) (Z0 : n0 ≤ h0.size) (O0 : Old Z n0 h0) (I320 : Fld Z Z.heap ob_3 "java/lang/Enum" "ordinal" "I" (.int 1)) (I329 : Exa Z Z.heap ob_3 "com/example/typub/typub/Term$Order") (I336 : 0 < in_1) :
    own_Met l Z h0 (⟨"com/example/typub/typub/Term$Order", "holds", "(I)Z"⟩ : MethodName) prog_36_method_4_code 2 (Option.some FieldType.boolean) ws ({ frames := 1, cells := 0, slots := 0, locals := 12 } : Room) #[(.ref ob_3), (.int in_1)] (own_Q12 Z ob_3 in_1 h0 n0) 0 0 := by
  refine MetFree.of_bodySF own_pn1 hisR ?_
  intro p e s m args below meth c s₁ Bd hml0 hP hK
  obtain ⟨rfl, hZ, hh⟩ := hP
  have hx := Bd.exec
  have hby := Bd.bytes
  have hml : c.maxLocals = 2 := hml0
  have hown : s.vm.findClass "com/example/typub/typub/Term$Order" = some m.cls := findClass_of_methodNamed Bd.named
  have hnm := (name_of_methodNamed Bd.named Bd.method).1
  have X0 : Stand p l e ({ frames := 1, cells := 0, slots := 0, locals := 12 } : Room) s m #[(.ref ob_3), (.int in_1)] below meth c s₁ [] 0 0 := Stand.of_body Bd
  have e0 : s₁.heap = h0 := by rw [← hh, Bd.state]; rfl
  have N0 := Fr.nil n0
  show own_G p e below (s₁.setTop (entryFrame m #[(.ref ob_3), (.int in_1)] 2)) (own_P s (own_Q12 Z ob_3 in_1 h0 n0) 0 0)
  refine own_cast (own_ef1 m ob_3 in_1) ?_
  show own_G p e below (s₁.setTop (mkF m 0 #[rv ob_3, iv in_1] [])) _
  refine oS (fun _ => XS.aloadN X0.here hx rfl (hb hby dd0_0) rfl rfl) ?_
  have F330 : Exa Z h0 ob_3 "com/example/typub/typub/Term$Order" := Exa.ext O0.2 I329
  obtain ⟨T321, h322, v323, L324, X325, e326, q327, s328⟩ := own_callU X0 hx hZ hown e0 (y := (⟨"com/example/typub/typub/Term$Order", "ordinal", "()I"⟩ : MethodName)) (z := (⟨"java/lang/Enum", "ordinal", "()I"⟩ : MethodName)) (C := "com/example/typub/typub/Term$Order") (owner := "java/lang/Enum") (b := ob_3) (oW hw 8 rfl) (oW hw 9 rfl) (oW hw 10 rfl) (oW hw 12 rfl) (oW hw 11 rfl) (oW hw 13 rfl) (oW hw 14 rfl) (by decide) F330 (W := 0) (own_rm5 l Z a0 hw [] ob_3 h0 n0 Z0 O0 I320) (by decide) (by decide) (by decide) (by decide) (g := (mkF m 1 #[rv ob_3, iv in_1] [(.ref ob_3)])) rfl (by rw [hml]; rfl) (argsL := []) (rest := []) rfl (lenOf own_pd0 rfl) rfl (by show 2 * 0 + _ ≤ _; exact Nat.le_of_eq rfl) (hb hby dd0_1)
  refine oS s328 ?_
  obtain ⟨rfl, N331, K332⟩ := q327
  have N333 := Fr.app N0 N331
  have e334 := e326.trans K332
  show own_G p e below (T321.setTop (mkF m 4 #[rv ob_3, iv in_1] [(.int 1)])) _
  have u335 : ∀ t, Steps p.tables e below (T321.setTop (mkF m 58 #[rv ob_3, iv in_1] [])) t → Steps p.tables e below (T321.setTop (mkF m 4 #[rv ob_3, iv in_1] [(.int 1)])) t := fun t hr => XS.tswIn X325.here hx (g := (mkF m 4 #[rv ob_3, iv in_1] [(.int 1)])) rfl (pc0 := 4) (pc' := 58) rfl (hb hby dd0_4) rfl (by decide +kernel) (o := 54) (by decide +kernel) (by decide) (by decide) hr
  refine oS u335 ?_
  refine oS (fun _ => XS.iloadN X325.here hx rfl (hb hby dd0_58) rfl) ?_
  refine oS (fun _ => XS.ifYes X325.here hx rfl (pc0 := 59) (pc' := 66) rfl (hb hby dd0_59) rfl (XT.i0_gt_t I336) (by decide) (by decide)) ?_
  show own_G p e below (T321.setTop (mkF m 66 #[rv ob_3, iv in_1] [])) _
  refine oS (fun _ => XS.iconst X325.here hx rfl (hb hby dd0_66) ) ?_
  refine oS (fun _ => XS.goto X325.here hx rfl (pc0 := 67) (pc' := 91) rfl (hb hby dd0_67) (by decide) (by decide)) ?_
  show own_G p e below (T321.setTop (mkF m 91 #[rv ob_3, iv in_1] [(.int 0)])) _
  exact own_retN X325 hx (t := .boolean) Bd.notSynchronized Bd.returns (by simp) (hb hby dd0_91) (by decide) e334 (by decide) (by decide) (⟨rfl, N333, rfl⟩)
theorem dd0_74 : decode prog_36_method_4_code 74 = .ok (.iconst 1, 1) := by decide +kernel
theorem dd0_75 : decode prog_36_method_4_code 75 = .ok (.goto 16, 3) := by decide +kernel
def own_Q13 (Z : State) (ob_4 : Addr) (in_1 : Int32) (h0 : Heap) (n0 : Nat) (v : Option Value) (h : Heap) (L : List Loc) : Prop := (v = some (.int 1) ∧ Fr n0 L ∧ h = h0)
set_option maxRecDepth 65536 in
set_option maxHeartbeats 40000000 in
theorem own_rm13 (l : Launch) (Z : State) (a0 : Array Value) (hw : ∀ d ∈ tables_1, d.before a0 Z = true) (ws : List Jvm.Cond) (ob_4 : Addr) (in_1 : Int32) (h0 : Heap) (n0 : Nat) (Z0 : n0 ≤ h0.size) (O0 : Old Z n0 h0) (I355 : Fld Z Z.heap ob_4 "java/lang/Enum" "ordinal" "I" (.int 2)) (I364 : Exa Z Z.heap ob_4 "com/example/typub/typub/Term$Order") (I371 : 0 < in_1) :
    own_Met l Z h0 (⟨"com/example/typub/typub/Term$Order", "holds", "(I)Z"⟩ : MethodName) prog_36_method_4_code 2 (Option.some FieldType.boolean) ws ({ frames := 1, cells := 0, slots := 0, locals := 12 } : Room) #[(.ref ob_4), (.int in_1)] (own_Q13 Z ob_4 in_1 h0 n0) 0 0 := by
  refine MetFree.of_bodySF own_pn1 hisR ?_
  intro p e s m args below meth c s₁ Bd hml0 hP hK
  obtain ⟨rfl, hZ, hh⟩ := hP
  have hx := Bd.exec
  have hby := Bd.bytes
  have hml : c.maxLocals = 2 := hml0
  have hown : s.vm.findClass "com/example/typub/typub/Term$Order" = some m.cls := findClass_of_methodNamed Bd.named
  have hnm := (name_of_methodNamed Bd.named Bd.method).1
  have X0 : Stand p l e ({ frames := 1, cells := 0, slots := 0, locals := 12 } : Room) s m #[(.ref ob_4), (.int in_1)] below meth c s₁ [] 0 0 := Stand.of_body Bd
  have e0 : s₁.heap = h0 := by rw [← hh, Bd.state]; rfl
  have N0 := Fr.nil n0
  show own_G p e below (s₁.setTop (entryFrame m #[(.ref ob_4), (.int in_1)] 2)) (own_P s (own_Q13 Z ob_4 in_1 h0 n0) 0 0)
  refine own_cast (own_ef1 m ob_4 in_1) ?_
  show own_G p e below (s₁.setTop (mkF m 0 #[rv ob_4, iv in_1] [])) _
  refine oS (fun _ => XS.aloadN X0.here hx rfl (hb hby dd0_0) rfl rfl) ?_
  have F365 : Exa Z h0 ob_4 "com/example/typub/typub/Term$Order" := Exa.ext O0.2 I364
  obtain ⟨T356, h357, v358, L359, X360, e361, q362, s363⟩ := own_callU X0 hx hZ hown e0 (y := (⟨"com/example/typub/typub/Term$Order", "ordinal", "()I"⟩ : MethodName)) (z := (⟨"java/lang/Enum", "ordinal", "()I"⟩ : MethodName)) (C := "com/example/typub/typub/Term$Order") (owner := "java/lang/Enum") (b := ob_4) (oW hw 8 rfl) (oW hw 9 rfl) (oW hw 10 rfl) (oW hw 12 rfl) (oW hw 11 rfl) (oW hw 13 rfl) (oW hw 14 rfl) (by decide) F365 (W := 0) (own_rm7 l Z a0 hw [] ob_4 h0 n0 Z0 O0 I355) (by decide) (by decide) (by decide) (by decide) (g := (mkF m 1 #[rv ob_4, iv in_1] [(.ref ob_4)])) rfl (by rw [hml]; rfl) (argsL := []) (rest := []) rfl (lenOf own_pd0 rfl) rfl (by show 2 * 0 + _ ≤ _; exact Nat.le_of_eq rfl) (hb hby dd0_1)
  refine oS s363 ?_
  obtain ⟨rfl, N366, K367⟩ := q362
  have N368 := Fr.app N0 N366
  have e369 := e361.trans K367
  show own_G p e below (T356.setTop (mkF m 4 #[rv ob_4, iv in_1] [(.int 2)])) _
  have u370 : ∀ t, Steps p.tables e below (T356.setTop (mkF m 70 #[rv ob_4, iv in_1] [])) t → Steps p.tables e below (T356.setTop (mkF m 4 #[rv ob_4, iv in_1] [(.int 2)])) t := fun t hr => XS.tswIn X360.here hx (g := (mkF m 4 #[rv ob_4, iv in_1] [(.int 2)])) rfl (pc0 := 4) (pc' := 70) rfl (hb hby dd0_4) rfl (by decide +kernel) (o := 66) (by decide +kernel) (by decide) (by decide) hr
  refine oS u370 ?_
  refine oS (fun _ => XS.iloadN X360.here hx rfl (hb hby dd0_70) rfl) ?_
  refine oS (fun _ => XS.ifNo X360.here hx rfl (hb hby dd0_71) rfl (XT.i0_le_f I371)) ?_
  show own_G p e below (T356.setTop (mkF m 74 #[rv ob_4, iv in_1] [])) _
  refine oS (fun _ => XS.iconst X360.here hx rfl (hb hby dd0_74) ) ?_
  refine oS (fun _ => XS.goto X360.here hx rfl (pc0 := 75) (pc' := 91) rfl (hb hby dd0_75) (by decide) (by decide)) ?_
  show own_G p e below (T356.setTop (mkF m 91 #[rv ob_4, iv in_1] [(.int 1)])) _
  exact own_retN X360 hx (t := .boolean) Bd.notSynchronized Bd.returns (by simp) (hb hby dd0_91) (by decide) e369 (by decide) (by decide) (⟨rfl, N368, rfl⟩)
def own_Q1 (Z : State) (in_1 : Int32) (ob_2 : Addr) (ob_3 : Addr) (ob_4 : Addr) (ob_5 : Addr) (h0 : Heap) (n0 : Nat) (v : Option Value) (h : Heap) (L : List Loc) : Prop := (v = some (.int 1) ∧ Fr n0 L)
theorem own_pn2 : plainFor x = true := by decide +kernel
set_option maxRecDepth 65536 in
set_option maxHeartbeats 40000000 in
theorem own_rm1 (l : Launch) (Z : State) (a0 : Array Value) (hw : ∀ d ∈ tables_1, d.before a0 Z = true) (ws : List Jvm.Cond) (in_1 : Int32) (ob_2 : Addr) (ob_3 : Addr) (ob_4 : Addr) (ob_5 : Addr) (h0 : Heap) (n0 : Nat) (Z0 : n0 ≤ h0.size) (O0 : Old Z n0 h0) (I15 : Sta Z Z.heap "com/example/typub/typub/Term$Order" "LESS" "Lcom/example/typub/typub/Term$Order;" (.ref ob_2)) (I21 : Fld Z Z.heap ob_2 "java/lang/Enum" "ordinal" "I" (.int 0)) (I37 : Exa Z Z.heap ob_2 "com/example/typub/typub/Term$Order") (I59 : Sta Z Z.heap "com/example/typub/typub/Term$Order" "AT_MOST" "Lcom/example/typub/typub/Term$Order;" (.ref ob_3)) (I65 : Fld Z Z.heap ob_3 "java/lang/Enum" "ordinal" "I" (.int 1)) (I81 : Exa Z Z.heap ob_3 "com/example/typub/typub/Term$Order") (I103 : Sta Z Z.heap "com/example/typub/typub/Term$Order" "GREATER" "Lcom/example/typub/typub/Term$Order;" (.ref ob_4)) (I109 : Fld Z Z.heap ob_4 "java/lang/Enum" "ordinal" "I" (.int 2)) (I125 : Exa Z Z.heap ob_4 "com/example/typub/typub/Term$Order") (I147 : Sta Z Z.heap "com/example/typub/typub/Term$Order" "AT_LEAST" "Lcom/example/typub/typub/Term$Order;" (.ref ob_5)) (I153 : Fld Z Z.heap ob_5 "java/lang/Enum" "ordinal" "I" (.int 3)) (I169 : Exa Z Z.heap ob_5 "com/example/typub/typub/Term$Order") :
    own_Met l Z h0 x code maxLocals ret ws room_1 #[(.int in_1)] (own_Q1 Z in_1 ob_2 ob_3 ob_4 ob_5 h0 n0) 0 0 := by
  refine MetFree.of_bodySF own_pn2 hisR ?_
  intro p e s m args below meth c s₁ Bd hml0 hP hK
  obtain ⟨rfl, hZ, hh⟩ := hP
  have hx := Bd.exec
  have hby := Bd.bytes
  have hml : c.maxLocals = 8 := hml0
  have hown : s.vm.findClass "com/example/typub/typub/OrderHoldsPinLaw" = some m.cls := findClass_of_methodNamed Bd.named
  have hnm := (name_of_methodNamed Bd.named Bd.method).1
  have X0 : Stand p l e room_1 s m #[(.int in_1)] below meth c s₁ [] 0 0 := Stand.of_body Bd
  have e0 : s₁.heap = h0 := by rw [← hh, Bd.state]; rfl
  have N0 := Fr.nil n0
  show own_G p e below (s₁.setTop (entryFrame m #[(.int in_1)] maxLocals)) (own_P s (own_Q1 Z in_1 ob_2 ob_3 ob_4 ob_5 h0 n0) 0 0)
  refine own_cast (own_ef0 m in_1) ?_
  show own_G p e below (s₁.setTop (mkF m 0 #[iv in_1, .unset, .unset, .unset, .unset, .unset, .unset, .unset] [])) _
  rcases own_tri in_1 with ⟨q6, q7, q8⟩ | ⟨q9, q10, q11⟩ | ⟨q12, q13, q14⟩
  · skip
    have F16 : Sta Z h0 "com/example/typub/typub/Term$Order" "LESS" "Lcom/example/typub/typub/Term$Order;" (.ref ob_2) := Sta.ext O0.2 I15
    obtain ⟨T17, X18, e19, s20⟩ := getS X0 hx hZ hown (host := "") (oW hw 0 rfl) Via.refl e0 F16 (g := (mkF m 0 #[iv in_1, .unset, .unset, .unset, .unset, .unset, .unset, .unset] [])) rfl (hb hby at_0)
    refine oS s20 ?_
    show own_G p e below (T17.setTop (mkF m 3 #[iv in_1, .unset, .unset, .unset, .unset, .unset, .unset, .unset] [(.ref ob_2)])) _
    refine oS (fun _ => XS.iloadN X18.here hx rfl (hb hby at_3) rfl) ?_
    have F54 : Exa Z h0 ob_2 "com/example/typub/typub/Term$Order" := Exa.ext O0.2 I37
    obtain ⟨T46, h47, v48, L49, X50, e51, q52, s53⟩ := own_callV X18 hx hZ hown e19 (y := (⟨"com/example/typub/typub/Term$Order", "holds", "(I)Z"⟩ : MethodName)) (z := (⟨"com/example/typub/typub/Term$Order", "holds", "(I)Z"⟩ : MethodName)) (C := "com/example/typub/typub/Term$Order") (b := ob_2) (oW hw 3 rfl) (oW hw 4 rfl) (notFace_of_selects (args := #[]) (mvT hZ (oW hw 6 rfl))) (oW hw 6 rfl) (oW hw 5 rfl) (oW hw 1 rfl) (oW hw 7 rfl) (by decide) F54 (W := 0) (own_rm2 l Z a0 hw [] ob_2 in_1 h0 n0 Z0 O0 I21 I37 q6) (by decide) (by decide) (by decide) (by decide) (g := (mkF m 4 #[iv in_1, .unset, .unset, .unset, .unset, .unset, .unset, .unset] [(.int in_1), (.ref ob_2)])) rfl (by rw [hml]; rfl) (argsL := [(.int in_1)]) (rest := []) rfl (lenOf own_pd1 rfl) rfl (by show 2 * 0 + _ ≤ _; exact Nat.le_of_eq rfl) (hb hby at_4)
    refine oS s53 ?_
    obtain ⟨rfl, N55, K56⟩ := q52
    have N57 := Fr.app N0 N55
    have e58 := e51.trans K56
    show own_G p e below (T46.setTop (mkF m 7 #[iv in_1, .unset, .unset, .unset, .unset, .unset, .unset, .unset] [(.int 1)])) _
    refine oS (fun _ => XS.istoreN X50.here hx rfl (hb hby at_7) rfl (l' := #[iv in_1, iv 1, .unset, .unset, .unset, .unset, .unset, .unset]) rfl) ?_
    have F60 : Sta Z h0 "com/example/typub/typub/Term$Order" "AT_MOST" "Lcom/example/typub/typub/Term$Order;" (.ref ob_3) := Sta.ext O0.2 I59
    obtain ⟨T61, X62, e63, s64⟩ := getS X50 hx hZ hown (host := "") (oW hw 17 rfl) Via.refl e58 F60 (g := (mkF m 8 #[iv in_1, iv 1, .unset, .unset, .unset, .unset, .unset, .unset] [])) rfl (hb hby at_8)
    refine oS s64 ?_
    show own_G p e below (T61.setTop (mkF m 11 #[iv in_1, iv 1, .unset, .unset, .unset, .unset, .unset, .unset] [(.ref ob_3)])) _
    refine oS (fun _ => XS.iloadN X62.here hx rfl (hb hby at_11) rfl) ?_
    have F98 : Exa Z h0 ob_3 "com/example/typub/typub/Term$Order" := Exa.ext O0.2 I81
    obtain ⟨T90, h91, v92, L93, X94, e95, q96, s97⟩ := own_callV X62 hx hZ hown e63 (y := (⟨"com/example/typub/typub/Term$Order", "holds", "(I)Z"⟩ : MethodName)) (z := (⟨"com/example/typub/typub/Term$Order", "holds", "(I)Z"⟩ : MethodName)) (C := "com/example/typub/typub/Term$Order") (b := ob_3) (oW hw 3 rfl) (oW hw 4 rfl) (notFace_of_selects (args := #[]) (mvT hZ (oW hw 6 rfl))) (oW hw 6 rfl) (oW hw 5 rfl) (oW hw 1 rfl) (oW hw 7 rfl) (by decide) F98 (W := 0) (own_rm4 l Z a0 hw [] ob_3 in_1 h0 n0 Z0 O0 I65 I81 q8) (by decide) (by decide) (by decide) (by decide) (g := (mkF m 12 #[iv in_1, iv 1, .unset, .unset, .unset, .unset, .unset, .unset] [(.int in_1), (.ref ob_3)])) rfl (by rw [hml]; rfl) (argsL := [(.int in_1)]) (rest := []) rfl (lenOf own_pd1 rfl) rfl (by show 2 * 0 + _ ≤ _; exact Nat.le_of_eq rfl) (hb hby at_12)
    refine oS s97 ?_
    obtain ⟨rfl, N99, K100⟩ := q96
    have N101 := Fr.app N57 N99
    have e102 := e95.trans K100
    show own_G p e below (T90.setTop (mkF m 15 #[iv in_1, iv 1, .unset, .unset, .unset, .unset, .unset, .unset] [(.int 1)])) _
    refine oS (fun _ => XS.istoreN X94.here hx rfl (hb hby at_15) rfl (l' := #[iv in_1, iv 1, iv 1, .unset, .unset, .unset, .unset, .unset]) rfl) ?_
    have F104 : Sta Z h0 "com/example/typub/typub/Term$Order" "GREATER" "Lcom/example/typub/typub/Term$Order;" (.ref ob_4) := Sta.ext O0.2 I103
    obtain ⟨T105, X106, e107, s108⟩ := getS X94 hx hZ hown (host := "") (oW hw 19 rfl) Via.refl e102 F104 (g := (mkF m 16 #[iv in_1, iv 1, iv 1, .unset, .unset, .unset, .unset, .unset] [])) rfl (hb hby at_16)
    refine oS s108 ?_
    show own_G p e below (T105.setTop (mkF m 19 #[iv in_1, iv 1, iv 1, .unset, .unset, .unset, .unset, .unset] [(.ref ob_4)])) _
    refine oS (fun _ => XS.iloadN X106.here hx rfl (hb hby at_19) rfl) ?_
    have F142 : Exa Z h0 ob_4 "com/example/typub/typub/Term$Order" := Exa.ext O0.2 I125
    obtain ⟨T134, h135, v136, L137, X138, e139, q140, s141⟩ := own_callV X106 hx hZ hown e107 (y := (⟨"com/example/typub/typub/Term$Order", "holds", "(I)Z"⟩ : MethodName)) (z := (⟨"com/example/typub/typub/Term$Order", "holds", "(I)Z"⟩ : MethodName)) (C := "com/example/typub/typub/Term$Order") (b := ob_4) (oW hw 3 rfl) (oW hw 4 rfl) (notFace_of_selects (args := #[]) (mvT hZ (oW hw 6 rfl))) (oW hw 6 rfl) (oW hw 5 rfl) (oW hw 1 rfl) (oW hw 7 rfl) (by decide) F142 (W := 0) (own_rm6 l Z a0 hw [] ob_4 in_1 h0 n0 Z0 O0 I109 I125 q8) (by decide) (by decide) (by decide) (by decide) (g := (mkF m 20 #[iv in_1, iv 1, iv 1, .unset, .unset, .unset, .unset, .unset] [(.int in_1), (.ref ob_4)])) rfl (by rw [hml]; rfl) (argsL := [(.int in_1)]) (rest := []) rfl (lenOf own_pd1 rfl) rfl (by show 2 * 0 + _ ≤ _; exact Nat.le_of_eq rfl) (hb hby at_20)
    refine oS s141 ?_
    obtain ⟨rfl, N143, K144⟩ := q140
    have N145 := Fr.app N101 N143
    have e146 := e139.trans K144
    show own_G p e below (T134.setTop (mkF m 23 #[iv in_1, iv 1, iv 1, .unset, .unset, .unset, .unset, .unset] [(.int 0)])) _
    refine oS (fun _ => XS.istoreN X138.here hx rfl (hb hby at_23) rfl (l' := #[iv in_1, iv 1, iv 1, iv 0, .unset, .unset, .unset, .unset]) rfl) ?_
    have F148 : Sta Z h0 "com/example/typub/typub/Term$Order" "AT_LEAST" "Lcom/example/typub/typub/Term$Order;" (.ref ob_5) := Sta.ext O0.2 I147
    obtain ⟨T149, X150, e151, s152⟩ := getS X138 hx hZ hown (host := "") (oW hw 21 rfl) Via.refl e146 F148 (g := (mkF m 24 #[iv in_1, iv 1, iv 1, iv 0, .unset, .unset, .unset, .unset] [])) rfl (hb hby at_24)
    refine oS s152 ?_
    show own_G p e below (T149.setTop (mkF m 27 #[iv in_1, iv 1, iv 1, iv 0, .unset, .unset, .unset, .unset] [(.ref ob_5)])) _
    refine oS (fun _ => XS.iloadN X150.here hx rfl (hb hby at_27) rfl) ?_
    have F186 : Exa Z h0 ob_5 "com/example/typub/typub/Term$Order" := Exa.ext O0.2 I169
    obtain ⟨T178, h179, v180, L181, X182, e183, q184, s185⟩ := own_callV X150 hx hZ hown e151 (y := (⟨"com/example/typub/typub/Term$Order", "holds", "(I)Z"⟩ : MethodName)) (z := (⟨"com/example/typub/typub/Term$Order", "holds", "(I)Z"⟩ : MethodName)) (C := "com/example/typub/typub/Term$Order") (b := ob_5) (oW hw 3 rfl) (oW hw 4 rfl) (notFace_of_selects (args := #[]) (mvT hZ (oW hw 6 rfl))) (oW hw 6 rfl) (oW hw 5 rfl) (oW hw 1 rfl) (oW hw 7 rfl) (by decide) F186 (W := 0) (own_rm8 l Z a0 hw [] ob_5 in_1 h0 n0 Z0 O0 I153 I169 q6) (by decide) (by decide) (by decide) (by decide) (g := (mkF m 28 #[iv in_1, iv 1, iv 1, iv 0, .unset, .unset, .unset, .unset] [(.int in_1), (.ref ob_5)])) rfl (by rw [hml]; rfl) (argsL := [(.int in_1)]) (rest := []) rfl (lenOf own_pd1 rfl) rfl (by show 2 * 0 + _ ≤ _; exact Nat.le_of_eq rfl) (hb hby at_28)
    refine oS s185 ?_
    obtain ⟨rfl, N187, K188⟩ := q184
    have N189 := Fr.app N145 N187
    have e190 := e183.trans K188
    show own_G p e below (T178.setTop (mkF m 31 #[iv in_1, iv 1, iv 1, iv 0, .unset, .unset, .unset, .unset] [(.int 0)])) _
    refine oS (fun _ => XS.istore X182.here hx rfl (hb hby at_31) rfl (l' := #[iv in_1, iv 1, iv 1, iv 0, iv 0, .unset, .unset, .unset]) rfl) ?_
    refine oS (fun _ => XS.iloadN X182.here hx rfl (hb hby at_33) rfl) ?_
    refine oS (fun _ => XS.ifNo X182.here hx rfl (hb hby at_34) rfl (XT.i0_ge_f q6)) ?_
    show own_G p e below (T178.setTop (mkF m 37 #[iv in_1, iv 1, iv 1, iv 0, iv 0, .unset, .unset, .unset] [])) _
    refine oS (fun _ => XS.iconst X182.here hx rfl (hb hby at_37) ) ?_
    refine oS (fun _ => XS.goto X182.here hx rfl (pc0 := 38) (pc' := 50) rfl (hb hby at_38) (by decide) (by decide)) ?_
    show own_G p e below (T178.setTop (mkF m 50 #[iv in_1, iv 1, iv 1, iv 0, iv 0, .unset, .unset, .unset] [(.int (-1))])) _
    refine oS (fun _ => XS.istore X182.here hx rfl (hb hby at_50) rfl (l' := #[iv in_1, iv 1, iv 1, iv 0, iv 0, iv (-1), .unset, .unset]) rfl) ?_
    refine oS (fun _ => XS.iloadN X182.here hx rfl (hb hby at_52) rfl) ?_
    refine oS (fun _ => XS.iload X182.here hx rfl (hb hby at_53) rfl) ?_
    refine oS (fun _ => XS.iconst X182.here hx rfl (hb hby at_55) ) ?_
    show own_G p e below (T178.setTop (mkF m 56 #[iv in_1, iv 1, iv 1, iv 0, iv 0, iv (-1), .unset, .unset] [(.int (-1)), (.int (-1)), (.int 1)])) _
    refine oS (fun _ => XS.icmpNo X182.here hx rfl (hb hby at_56) rfl (XT.ii_ne_f (by decide))) ?_
    show own_G p e below (T178.setTop (mkF m 59 #[iv in_1, iv 1, iv 1, iv 0, iv 0, iv (-1), .unset, .unset] [(.int 1)])) _
    refine oS (fun _ => XS.iconst X182.here hx rfl (hb hby at_59) ) ?_
    refine oS (fun _ => XS.goto X182.here hx rfl (pc0 := 60) (pc' := 64) rfl (hb hby at_60) (by decide) (by decide)) ?_
    show own_G p e below (T178.setTop (mkF m 64 #[iv in_1, iv 1, iv 1, iv 0, iv 0, iv (-1), .unset, .unset] [(.int 1), (.int 1)])) _
    refine oS (fun _ => XS.icmpNo X182.here hx rfl (hb hby at_64) rfl (XT.ii_ne_f (by decide))) ?_
    show own_G p e below (T178.setTop (mkF m 67 #[iv in_1, iv 1, iv 1, iv 0, iv 0, iv (-1), .unset, .unset] [])) _
    refine oS (fun _ => XS.iloadN X182.here hx rfl (hb hby at_67) rfl) ?_
    refine oS (fun _ => XS.iload X182.here hx rfl (hb hby at_68) rfl) ?_
    refine oS (fun _ => XS.iconst X182.here hx rfl (hb hby at_70) ) ?_
    refine oS (fun _ => XS.icmpNo X182.here hx rfl (hb hby at_71) rfl (XT.ii_eq_f (by decide))) ?_
    show own_G p e below (T178.setTop (mkF m 74 #[iv in_1, iv 1, iv 1, iv 0, iv 0, iv (-1), .unset, .unset] [(.int 1)])) _
    refine oS (fun _ => XS.iconst X182.here hx rfl (hb hby at_74) ) ?_
    refine oS (fun _ => XS.goto X182.here hx rfl (pc0 := 75) (pc' := 79) rfl (hb hby at_75) (by decide) (by decide)) ?_
    show own_G p e below (T178.setTop (mkF m 79 #[iv in_1, iv 1, iv 1, iv 0, iv 0, iv (-1), .unset, .unset] [(.int 1), (.int 1)])) _
    refine oS (fun _ => XS.icmpNo X182.here hx rfl (hb hby at_79) rfl (XT.ii_ne_f (by decide))) ?_
    show own_G p e below (T178.setTop (mkF m 82 #[iv in_1, iv 1, iv 1, iv 0, iv 0, iv (-1), .unset, .unset] [])) _
    refine oS (fun _ => XS.iloadN X182.here hx rfl (hb hby at_82) rfl) ?_
    refine oS (fun _ => XS.iload X182.here hx rfl (hb hby at_83) rfl) ?_
    refine oS (fun _ => XS.iconst X182.here hx rfl (hb hby at_85) ) ?_
    refine oS (fun _ => XS.icmpYes X182.here hx rfl (pc0 := 86) (pc' := 93) rfl (hb hby at_86) rfl (XT.ii_ne_t (by decide)) (by decide) (by decide)) ?_
    show own_G p e below (T178.setTop (mkF m 93 #[iv in_1, iv 1, iv 1, iv 0, iv 0, iv (-1), .unset, .unset] [(.int 0)])) _
    refine oS (fun _ => XS.iconst X182.here hx rfl (hb hby at_93) ) ?_
    refine oS (fun _ => XS.icmpNo X182.here hx rfl (hb hby at_94) rfl (XT.ii_ne_f (by decide))) ?_
    show own_G p e below (T178.setTop (mkF m 97 #[iv in_1, iv 1, iv 1, iv 0, iv 0, iv (-1), .unset, .unset] [])) _
    refine oS (fun _ => XS.iload X182.here hx rfl (hb hby at_97) rfl) ?_
    refine oS (fun _ => XS.iload X182.here hx rfl (hb hby at_99) rfl) ?_
    refine oS (fun _ => XS.iconst X182.here hx rfl (hb hby at_101) ) ?_
    refine oS (fun _ => XS.icmpYes X182.here hx rfl (pc0 := 102) (pc' := 109) rfl (hb hby at_102) rfl (XT.ii_eq_t (by decide)) (by decide) (by decide)) ?_
    show own_G p e below (T178.setTop (mkF m 109 #[iv in_1, iv 1, iv 1, iv 0, iv 0, iv (-1), .unset, .unset] [(.int 0)])) _
    refine oS (fun _ => XS.iconst X182.here hx rfl (hb hby at_109) ) ?_
    refine oS (fun _ => XS.icmpNo X182.here hx rfl (hb hby at_110) rfl (XT.ii_ne_f (by decide))) ?_
    show own_G p e below (T178.setTop (mkF m 113 #[iv in_1, iv 1, iv 1, iv 0, iv 0, iv (-1), .unset, .unset] [])) _
    refine oS (fun _ => XS.iconst X182.here hx rfl (hb hby at_113) ) ?_
    refine oS (fun _ => XS.goto X182.here hx rfl (pc0 := 114) (pc' := 118) rfl (hb hby at_114) (by decide) (by decide)) ?_
    show own_G p e below (T178.setTop (mkF m 118 #[iv in_1, iv 1, iv 1, iv 0, iv 0, iv (-1), .unset, .unset] [(.int 1)])) _
    refine oS (fun _ => XS.istore X182.here hx rfl (hb hby at_118) rfl (l' := #[iv in_1, iv 1, iv 1, iv 0, iv 0, iv (-1), iv 1, .unset]) rfl) ?_
    refine oS (fun _ => XS.iloadN X182.here hx rfl (hb hby at_120) rfl) ?_
    refine oS (fun _ => XS.iloadN X182.here hx rfl (hb hby at_121) rfl) ?_
    refine oS (fun _ => XS.ifNo X182.here hx rfl (hb hby at_122) rfl (XT.i0_ne_f (by decide))) ?_
    show own_G p e below (T178.setTop (mkF m 125 #[iv in_1, iv 1, iv 1, iv 0, iv 0, iv (-1), iv 1, .unset] [(.int 1)])) _
    refine oS (fun _ => XS.iconst X182.here hx rfl (hb hby at_125) ) ?_
    refine oS (fun _ => XS.goto X182.here hx rfl (pc0 := 126) (pc' := 130) rfl (hb hby at_126) (by decide) (by decide)) ?_
    show own_G p e below (T178.setTop (mkF m 130 #[iv in_1, iv 1, iv 1, iv 0, iv 0, iv (-1), iv 1, .unset] [(.int 1), (.int 1)])) _
    refine oS (fun _ => XS.icmpNo X182.here hx rfl (hb hby at_130) rfl (XT.ii_ne_f (by decide))) ?_
    show own_G p e below (T178.setTop (mkF m 133 #[iv in_1, iv 1, iv 1, iv 0, iv 0, iv (-1), iv 1, .unset] [])) _
    refine oS (fun _ => XS.iload X182.here hx rfl (hb hby at_133) rfl) ?_
    refine oS (fun _ => XS.iloadN X182.here hx rfl (hb hby at_135) rfl) ?_
    refine oS (fun _ => XS.ifYes X182.here hx rfl (pc0 := 136) (pc' := 143) rfl (hb hby at_136) rfl (XT.i0_ne_t (by decide)) (by decide) (by decide)) ?_
    show own_G p e below (T178.setTop (mkF m 143 #[iv in_1, iv 1, iv 1, iv 0, iv 0, iv (-1), iv 1, .unset] [(.int 0)])) _
    refine oS (fun _ => XS.iconst X182.here hx rfl (hb hby at_143) ) ?_
    refine oS (fun _ => XS.icmpNo X182.here hx rfl (hb hby at_144) rfl (XT.ii_ne_f (by decide))) ?_
    show own_G p e below (T178.setTop (mkF m 147 #[iv in_1, iv 1, iv 1, iv 0, iv 0, iv (-1), iv 1, .unset] [])) _
    refine oS (fun _ => XS.iloadN X182.here hx rfl (hb hby at_147) rfl) ?_
    refine oS (fun _ => XS.ifNo X182.here hx rfl (hb hby at_148) rfl (XT.i0_eq_f (by decide))) ?_
    show own_G p e below (T178.setTop (mkF m 151 #[iv in_1, iv 1, iv 1, iv 0, iv 0, iv (-1), iv 1, .unset] [])) _
    refine oS (fun _ => XS.iload X182.here hx rfl (hb hby at_151) rfl) ?_
    refine oS (fun _ => XS.ifYes X182.here hx rfl (pc0 := 153) (pc' := 160) rfl (hb hby at_153) rfl (XT.i0_eq_t (by decide)) (by decide) (by decide)) ?_
    show own_G p e below (T178.setTop (mkF m 160 #[iv in_1, iv 1, iv 1, iv 0, iv 0, iv (-1), iv 1, .unset] [])) _
    refine oS (fun _ => XS.iconst X182.here hx rfl (hb hby at_160) ) ?_
    refine oS (fun _ => XS.iloadN X182.here hx rfl (hb hby at_161) rfl) ?_
    refine oS (fun _ => XS.ifYes X182.here hx rfl (pc0 := 162) (pc' := 169) rfl (hb hby at_162) rfl (XT.i0_ne_t q7) (by decide) (by decide)) ?_
    show own_G p e below (T178.setTop (mkF m 169 #[iv in_1, iv 1, iv 1, iv 0, iv 0, iv (-1), iv 1, .unset] [(.int 0)])) _
    refine oS (fun _ => XS.iconst X182.here hx rfl (hb hby at_169) ) ?_
    refine oS (fun _ => XS.icmpNo X182.here hx rfl (hb hby at_170) rfl (XT.ii_ne_f (by decide))) ?_
    show own_G p e below (T178.setTop (mkF m 173 #[iv in_1, iv 1, iv 1, iv 0, iv 0, iv (-1), iv 1, .unset] [])) _
    refine oS (fun _ => XS.iconst X182.here hx rfl (hb hby at_173) ) ?_
    refine oS (fun _ => XS.goto X182.here hx rfl (pc0 := 174) (pc' := 178) rfl (hb hby at_174) (by decide) (by decide)) ?_
    show own_G p e below (T178.setTop (mkF m 178 #[iv in_1, iv 1, iv 1, iv 0, iv 0, iv (-1), iv 1, .unset] [(.int 1)])) _
    refine oS (fun _ => XS.istore X182.here hx rfl (hb hby at_178) rfl (l' := #[iv in_1, iv 1, iv 1, iv 0, iv 0, iv (-1), iv 1, iv 1]) rfl) ?_
    refine oS (fun _ => XS.iload X182.here hx rfl (hb hby at_180) rfl) ?_
    refine oS (fun _ => XS.ifNo X182.here hx rfl (hb hby at_182) rfl (XT.i0_eq_f (by decide))) ?_
    show own_G p e below (T178.setTop (mkF m 185 #[iv in_1, iv 1, iv 1, iv 0, iv 0, iv (-1), iv 1, iv 1] [])) _
    refine oS (fun _ => XS.iload X182.here hx rfl (hb hby at_185) rfl) ?_
    refine oS (fun _ => XS.ifNo X182.here hx rfl (hb hby at_187) rfl (XT.i0_eq_f (by decide))) ?_
    show own_G p e below (T178.setTop (mkF m 190 #[iv in_1, iv 1, iv 1, iv 0, iv 0, iv (-1), iv 1, iv 1] [])) _
    refine oS (fun _ => XS.iconst X182.here hx rfl (hb hby at_190) ) ?_
    refine oS (fun _ => XS.goto X182.here hx rfl (pc0 := 191) (pc' := 195) rfl (hb hby at_191) (by decide) (by decide)) ?_
    show own_G p e below (T178.setTop (mkF m 195 #[iv in_1, iv 1, iv 1, iv 0, iv 0, iv (-1), iv 1, iv 1] [(.int 1)])) _
    exact own_retN X182 hx (t := .boolean) Bd.notSynchronized Bd.returns (by simp) (hb hby at_195) (by decide) e190 (by decide) (by decide) (⟨rfl, N189⟩)
  · skip
    have F191 : Sta Z h0 "com/example/typub/typub/Term$Order" "LESS" "Lcom/example/typub/typub/Term$Order;" (.ref ob_2) := Sta.ext O0.2 I15
    obtain ⟨T192, X193, e194, s195⟩ := getS X0 hx hZ hown (host := "") (oW hw 0 rfl) Via.refl e0 F191 (g := (mkF m 0 #[iv in_1, .unset, .unset, .unset, .unset, .unset, .unset, .unset] [])) rfl (hb hby at_0)
    refine oS s195 ?_
    show own_G p e below (T192.setTop (mkF m 3 #[iv in_1, .unset, .unset, .unset, .unset, .unset, .unset, .unset] [(.ref ob_2)])) _
    refine oS (fun _ => XS.iloadN X193.here hx rfl (hb hby at_3) rfl) ?_
    have F221 : Exa Z h0 ob_2 "com/example/typub/typub/Term$Order" := Exa.ext O0.2 I37
    obtain ⟨T213, h214, v215, L216, X217, e218, q219, s220⟩ := own_callV X193 hx hZ hown e194 (y := (⟨"com/example/typub/typub/Term$Order", "holds", "(I)Z"⟩ : MethodName)) (z := (⟨"com/example/typub/typub/Term$Order", "holds", "(I)Z"⟩ : MethodName)) (C := "com/example/typub/typub/Term$Order") (b := ob_2) (oW hw 3 rfl) (oW hw 4 rfl) (notFace_of_selects (args := #[]) (mvT hZ (oW hw 6 rfl))) (oW hw 6 rfl) (oW hw 5 rfl) (oW hw 1 rfl) (oW hw 7 rfl) (by decide) F221 (W := 0) (own_rm10 l Z a0 hw [] ob_2 in_1 h0 n0 Z0 O0 I21 I37 q10) (by decide) (by decide) (by decide) (by decide) (g := (mkF m 4 #[iv in_1, .unset, .unset, .unset, .unset, .unset, .unset, .unset] [(.int in_1), (.ref ob_2)])) rfl (by rw [hml]; rfl) (argsL := [(.int in_1)]) (rest := []) rfl (lenOf own_pd1 rfl) rfl (by show 2 * 0 + _ ≤ _; exact Nat.le_of_eq rfl) (hb hby at_4)
    refine oS s220 ?_
    obtain ⟨rfl, N222, K223⟩ := q219
    have N224 := Fr.app N0 N222
    have e225 := e218.trans K223
    show own_G p e below (T213.setTop (mkF m 7 #[iv in_1, .unset, .unset, .unset, .unset, .unset, .unset, .unset] [(.int 0)])) _
    refine oS (fun _ => XS.istoreN X217.here hx rfl (hb hby at_7) rfl (l' := #[iv in_1, iv 0, .unset, .unset, .unset, .unset, .unset, .unset]) rfl) ?_
    have F226 : Sta Z h0 "com/example/typub/typub/Term$Order" "AT_MOST" "Lcom/example/typub/typub/Term$Order;" (.ref ob_3) := Sta.ext O0.2 I59
    obtain ⟨T227, X228, e229, s230⟩ := getS X217 hx hZ hown (host := "") (oW hw 17 rfl) Via.refl e225 F226 (g := (mkF m 8 #[iv in_1, iv 0, .unset, .unset, .unset, .unset, .unset, .unset] [])) rfl (hb hby at_8)
    refine oS s230 ?_
    show own_G p e below (T227.setTop (mkF m 11 #[iv in_1, iv 0, .unset, .unset, .unset, .unset, .unset, .unset] [(.ref ob_3)])) _
    refine oS (fun _ => XS.iloadN X228.here hx rfl (hb hby at_11) rfl) ?_
    have F239 : Exa Z h0 ob_3 "com/example/typub/typub/Term$Order" := Exa.ext O0.2 I81
    obtain ⟨T231, h232, v233, L234, X235, e236, q237, s238⟩ := own_callV X228 hx hZ hown e229 (y := (⟨"com/example/typub/typub/Term$Order", "holds", "(I)Z"⟩ : MethodName)) (z := (⟨"com/example/typub/typub/Term$Order", "holds", "(I)Z"⟩ : MethodName)) (C := "com/example/typub/typub/Term$Order") (b := ob_3) (oW hw 3 rfl) (oW hw 4 rfl) (notFace_of_selects (args := #[]) (mvT hZ (oW hw 6 rfl))) (oW hw 6 rfl) (oW hw 5 rfl) (oW hw 1 rfl) (oW hw 7 rfl) (by decide) F239 (W := 0) (own_rm4 l Z a0 hw [] ob_3 in_1 h0 n0 Z0 O0 I65 I81 q11) (by decide) (by decide) (by decide) (by decide) (g := (mkF m 12 #[iv in_1, iv 0, .unset, .unset, .unset, .unset, .unset, .unset] [(.int in_1), (.ref ob_3)])) rfl (by rw [hml]; rfl) (argsL := [(.int in_1)]) (rest := []) rfl (lenOf own_pd1 rfl) rfl (by show 2 * 0 + _ ≤ _; exact Nat.le_of_eq rfl) (hb hby at_12)
    refine oS s238 ?_
    obtain ⟨rfl, N240, K241⟩ := q237
    have N242 := Fr.app N224 N240
    have e243 := e236.trans K241
    show own_G p e below (T231.setTop (mkF m 15 #[iv in_1, iv 0, .unset, .unset, .unset, .unset, .unset, .unset] [(.int 1)])) _
    refine oS (fun _ => XS.istoreN X235.here hx rfl (hb hby at_15) rfl (l' := #[iv in_1, iv 0, iv 1, .unset, .unset, .unset, .unset, .unset]) rfl) ?_
    have F244 : Sta Z h0 "com/example/typub/typub/Term$Order" "GREATER" "Lcom/example/typub/typub/Term$Order;" (.ref ob_4) := Sta.ext O0.2 I103
    obtain ⟨T245, X246, e247, s248⟩ := getS X235 hx hZ hown (host := "") (oW hw 19 rfl) Via.refl e243 F244 (g := (mkF m 16 #[iv in_1, iv 0, iv 1, .unset, .unset, .unset, .unset, .unset] [])) rfl (hb hby at_16)
    refine oS s248 ?_
    show own_G p e below (T245.setTop (mkF m 19 #[iv in_1, iv 0, iv 1, .unset, .unset, .unset, .unset, .unset] [(.ref ob_4)])) _
    refine oS (fun _ => XS.iloadN X246.here hx rfl (hb hby at_19) rfl) ?_
    have F257 : Exa Z h0 ob_4 "com/example/typub/typub/Term$Order" := Exa.ext O0.2 I125
    obtain ⟨T249, h250, v251, L252, X253, e254, q255, s256⟩ := own_callV X246 hx hZ hown e247 (y := (⟨"com/example/typub/typub/Term$Order", "holds", "(I)Z"⟩ : MethodName)) (z := (⟨"com/example/typub/typub/Term$Order", "holds", "(I)Z"⟩ : MethodName)) (C := "com/example/typub/typub/Term$Order") (b := ob_4) (oW hw 3 rfl) (oW hw 4 rfl) (notFace_of_selects (args := #[]) (mvT hZ (oW hw 6 rfl))) (oW hw 6 rfl) (oW hw 5 rfl) (oW hw 1 rfl) (oW hw 7 rfl) (by decide) F257 (W := 0) (own_rm6 l Z a0 hw [] ob_4 in_1 h0 n0 Z0 O0 I109 I125 q11) (by decide) (by decide) (by decide) (by decide) (g := (mkF m 20 #[iv in_1, iv 0, iv 1, .unset, .unset, .unset, .unset, .unset] [(.int in_1), (.ref ob_4)])) rfl (by rw [hml]; rfl) (argsL := [(.int in_1)]) (rest := []) rfl (lenOf own_pd1 rfl) rfl (by show 2 * 0 + _ ≤ _; exact Nat.le_of_eq rfl) (hb hby at_20)
    refine oS s256 ?_
    obtain ⟨rfl, N258, K259⟩ := q255
    have N260 := Fr.app N242 N258
    have e261 := e254.trans K259
    show own_G p e below (T249.setTop (mkF m 23 #[iv in_1, iv 0, iv 1, .unset, .unset, .unset, .unset, .unset] [(.int 0)])) _
    refine oS (fun _ => XS.istoreN X253.here hx rfl (hb hby at_23) rfl (l' := #[iv in_1, iv 0, iv 1, iv 0, .unset, .unset, .unset, .unset]) rfl) ?_
    have F262 : Sta Z h0 "com/example/typub/typub/Term$Order" "AT_LEAST" "Lcom/example/typub/typub/Term$Order;" (.ref ob_5) := Sta.ext O0.2 I147
    obtain ⟨T263, X264, e265, s266⟩ := getS X253 hx hZ hown (host := "") (oW hw 21 rfl) Via.refl e261 F262 (g := (mkF m 24 #[iv in_1, iv 0, iv 1, iv 0, .unset, .unset, .unset, .unset] [])) rfl (hb hby at_24)
    refine oS s266 ?_
    show own_G p e below (T263.setTop (mkF m 27 #[iv in_1, iv 0, iv 1, iv 0, .unset, .unset, .unset, .unset] [(.ref ob_5)])) _
    refine oS (fun _ => XS.iloadN X264.here hx rfl (hb hby at_27) rfl) ?_
    have F292 : Exa Z h0 ob_5 "com/example/typub/typub/Term$Order" := Exa.ext O0.2 I169
    obtain ⟨T284, h285, v286, L287, X288, e289, q290, s291⟩ := own_callV X264 hx hZ hown e265 (y := (⟨"com/example/typub/typub/Term$Order", "holds", "(I)Z"⟩ : MethodName)) (z := (⟨"com/example/typub/typub/Term$Order", "holds", "(I)Z"⟩ : MethodName)) (C := "com/example/typub/typub/Term$Order") (b := ob_5) (oW hw 3 rfl) (oW hw 4 rfl) (notFace_of_selects (args := #[]) (mvT hZ (oW hw 6 rfl))) (oW hw 6 rfl) (oW hw 5 rfl) (oW hw 1 rfl) (oW hw 7 rfl) (by decide) F292 (W := 0) (own_rm11 l Z a0 hw [] ob_5 in_1 h0 n0 Z0 O0 I153 I169 q10) (by decide) (by decide) (by decide) (by decide) (g := (mkF m 28 #[iv in_1, iv 0, iv 1, iv 0, .unset, .unset, .unset, .unset] [(.int in_1), (.ref ob_5)])) rfl (by rw [hml]; rfl) (argsL := [(.int in_1)]) (rest := []) rfl (lenOf own_pd1 rfl) rfl (by show 2 * 0 + _ ≤ _; exact Nat.le_of_eq rfl) (hb hby at_28)
    refine oS s291 ?_
    obtain ⟨rfl, N293, K294⟩ := q290
    have N295 := Fr.app N260 N293
    have e296 := e289.trans K294
    show own_G p e below (T284.setTop (mkF m 31 #[iv in_1, iv 0, iv 1, iv 0, .unset, .unset, .unset, .unset] [(.int 1)])) _
    refine oS (fun _ => XS.istore X288.here hx rfl (hb hby at_31) rfl (l' := #[iv in_1, iv 0, iv 1, iv 0, iv 1, .unset, .unset, .unset]) rfl) ?_
    refine oS (fun _ => XS.iloadN X288.here hx rfl (hb hby at_33) rfl) ?_
    refine oS (fun _ => XS.ifYes X288.here hx rfl (pc0 := 34) (pc' := 41) rfl (hb hby at_34) rfl (XT.i0_ge_t q10) (by decide) (by decide)) ?_
    show own_G p e below (T284.setTop (mkF m 41 #[iv in_1, iv 0, iv 1, iv 0, iv 1, .unset, .unset, .unset] [])) _
    refine oS (fun _ => XS.iloadN X288.here hx rfl (hb hby at_41) rfl) ?_
    refine oS (fun _ => XS.ifNo X288.here hx rfl (hb hby at_42) rfl (XT.i0_ne_f q9)) ?_
    show own_G p e below (T284.setTop (mkF m 45 #[iv in_1, iv 0, iv 1, iv 0, iv 1, .unset, .unset, .unset] [])) _
    refine oS (fun _ => XS.iconst X288.here hx rfl (hb hby at_45) ) ?_
    refine oS (fun _ => XS.goto X288.here hx rfl (pc0 := 46) (pc' := 50) rfl (hb hby at_46) (by decide) (by decide)) ?_
    show own_G p e below (T284.setTop (mkF m 50 #[iv in_1, iv 0, iv 1, iv 0, iv 1, .unset, .unset, .unset] [(.int 0)])) _
    refine oS (fun _ => XS.istore X288.here hx rfl (hb hby at_50) rfl (l' := #[iv in_1, iv 0, iv 1, iv 0, iv 1, iv 0, .unset, .unset]) rfl) ?_
    refine oS (fun _ => XS.iloadN X288.here hx rfl (hb hby at_52) rfl) ?_
    refine oS (fun _ => XS.iload X288.here hx rfl (hb hby at_53) rfl) ?_
    refine oS (fun _ => XS.iconst X288.here hx rfl (hb hby at_55) ) ?_
    show own_G p e below (T284.setTop (mkF m 56 #[iv in_1, iv 0, iv 1, iv 0, iv 1, iv 0, .unset, .unset] [(.int (-1)), (.int 0), (.int 0)])) _
    refine oS (fun _ => XS.icmpYes X288.here hx rfl (pc0 := 56) (pc' := 63) rfl (hb hby at_56) rfl (XT.ii_ne_t (by decide)) (by decide) (by decide)) ?_
    show own_G p e below (T284.setTop (mkF m 63 #[iv in_1, iv 0, iv 1, iv 0, iv 1, iv 0, .unset, .unset] [(.int 0)])) _
    refine oS (fun _ => XS.iconst X288.here hx rfl (hb hby at_63) ) ?_
    refine oS (fun _ => XS.icmpNo X288.here hx rfl (hb hby at_64) rfl (XT.ii_ne_f (by decide))) ?_
    show own_G p e below (T284.setTop (mkF m 67 #[iv in_1, iv 0, iv 1, iv 0, iv 1, iv 0, .unset, .unset] [])) _
    refine oS (fun _ => XS.iloadN X288.here hx rfl (hb hby at_67) rfl) ?_
    refine oS (fun _ => XS.iload X288.here hx rfl (hb hby at_68) rfl) ?_
    refine oS (fun _ => XS.iconst X288.here hx rfl (hb hby at_70) ) ?_
    refine oS (fun _ => XS.icmpNo X288.here hx rfl (hb hby at_71) rfl (XT.ii_eq_f (by decide))) ?_
    show own_G p e below (T284.setTop (mkF m 74 #[iv in_1, iv 0, iv 1, iv 0, iv 1, iv 0, .unset, .unset] [(.int 1)])) _
    refine oS (fun _ => XS.iconst X288.here hx rfl (hb hby at_74) ) ?_
    refine oS (fun _ => XS.goto X288.here hx rfl (pc0 := 75) (pc' := 79) rfl (hb hby at_75) (by decide) (by decide)) ?_
    show own_G p e below (T284.setTop (mkF m 79 #[iv in_1, iv 0, iv 1, iv 0, iv 1, iv 0, .unset, .unset] [(.int 1), (.int 1)])) _
    refine oS (fun _ => XS.icmpNo X288.here hx rfl (hb hby at_79) rfl (XT.ii_ne_f (by decide))) ?_
    show own_G p e below (T284.setTop (mkF m 82 #[iv in_1, iv 0, iv 1, iv 0, iv 1, iv 0, .unset, .unset] [])) _
    refine oS (fun _ => XS.iloadN X288.here hx rfl (hb hby at_82) rfl) ?_
    refine oS (fun _ => XS.iload X288.here hx rfl (hb hby at_83) rfl) ?_
    refine oS (fun _ => XS.iconst X288.here hx rfl (hb hby at_85) ) ?_
    refine oS (fun _ => XS.icmpYes X288.here hx rfl (pc0 := 86) (pc' := 93) rfl (hb hby at_86) rfl (XT.ii_ne_t (by decide)) (by decide) (by decide)) ?_
    show own_G p e below (T284.setTop (mkF m 93 #[iv in_1, iv 0, iv 1, iv 0, iv 1, iv 0, .unset, .unset] [(.int 0)])) _
    refine oS (fun _ => XS.iconst X288.here hx rfl (hb hby at_93) ) ?_
    refine oS (fun _ => XS.icmpNo X288.here hx rfl (hb hby at_94) rfl (XT.ii_ne_f (by decide))) ?_
    show own_G p e below (T284.setTop (mkF m 97 #[iv in_1, iv 0, iv 1, iv 0, iv 1, iv 0, .unset, .unset] [])) _
    refine oS (fun _ => XS.iload X288.here hx rfl (hb hby at_97) rfl) ?_
    refine oS (fun _ => XS.iload X288.here hx rfl (hb hby at_99) rfl) ?_
    refine oS (fun _ => XS.iconst X288.here hx rfl (hb hby at_101) ) ?_
    refine oS (fun _ => XS.icmpNo X288.here hx rfl (hb hby at_102) rfl (XT.ii_eq_f (by decide))) ?_
    show own_G p e below (T284.setTop (mkF m 105 #[iv in_1, iv 0, iv 1, iv 0, iv 1, iv 0, .unset, .unset] [(.int 1)])) _
    refine oS (fun _ => XS.iconst X288.here hx rfl (hb hby at_105) ) ?_
    refine oS (fun _ => XS.goto X288.here hx rfl (pc0 := 106) (pc' := 110) rfl (hb hby at_106) (by decide) (by decide)) ?_
    show own_G p e below (T284.setTop (mkF m 110 #[iv in_1, iv 0, iv 1, iv 0, iv 1, iv 0, .unset, .unset] [(.int 1), (.int 1)])) _
    refine oS (fun _ => XS.icmpNo X288.here hx rfl (hb hby at_110) rfl (XT.ii_ne_f (by decide))) ?_
    show own_G p e below (T284.setTop (mkF m 113 #[iv in_1, iv 0, iv 1, iv 0, iv 1, iv 0, .unset, .unset] [])) _
    refine oS (fun _ => XS.iconst X288.here hx rfl (hb hby at_113) ) ?_
    refine oS (fun _ => XS.goto X288.here hx rfl (pc0 := 114) (pc' := 118) rfl (hb hby at_114) (by decide) (by decide)) ?_
    show own_G p e below (T284.setTop (mkF m 118 #[iv in_1, iv 0, iv 1, iv 0, iv 1, iv 0, .unset, .unset] [(.int 1)])) _
    refine oS (fun _ => XS.istore X288.here hx rfl (hb hby at_118) rfl (l' := #[iv in_1, iv 0, iv 1, iv 0, iv 1, iv 0, iv 1, .unset]) rfl) ?_
    refine oS (fun _ => XS.iloadN X288.here hx rfl (hb hby at_120) rfl) ?_
    refine oS (fun _ => XS.iloadN X288.here hx rfl (hb hby at_121) rfl) ?_
    refine oS (fun _ => XS.ifNo X288.here hx rfl (hb hby at_122) rfl (XT.i0_ne_f (by decide))) ?_
    show own_G p e below (T284.setTop (mkF m 125 #[iv in_1, iv 0, iv 1, iv 0, iv 1, iv 0, iv 1, .unset] [(.int 1)])) _
    refine oS (fun _ => XS.iconst X288.here hx rfl (hb hby at_125) ) ?_
    refine oS (fun _ => XS.goto X288.here hx rfl (pc0 := 126) (pc' := 130) rfl (hb hby at_126) (by decide) (by decide)) ?_
    show own_G p e below (T284.setTop (mkF m 130 #[iv in_1, iv 0, iv 1, iv 0, iv 1, iv 0, iv 1, .unset] [(.int 1), (.int 1)])) _
    refine oS (fun _ => XS.icmpNo X288.here hx rfl (hb hby at_130) rfl (XT.ii_ne_f (by decide))) ?_
    show own_G p e below (T284.setTop (mkF m 133 #[iv in_1, iv 0, iv 1, iv 0, iv 1, iv 0, iv 1, .unset] [])) _
    refine oS (fun _ => XS.iload X288.here hx rfl (hb hby at_133) rfl) ?_
    refine oS (fun _ => XS.iloadN X288.here hx rfl (hb hby at_135) rfl) ?_
    refine oS (fun _ => XS.ifNo X288.here hx rfl (hb hby at_136) rfl (XT.i0_ne_f (by decide))) ?_
    show own_G p e below (T284.setTop (mkF m 139 #[iv in_1, iv 0, iv 1, iv 0, iv 1, iv 0, iv 1, .unset] [(.int 1)])) _
    refine oS (fun _ => XS.iconst X288.here hx rfl (hb hby at_139) ) ?_
    refine oS (fun _ => XS.goto X288.here hx rfl (pc0 := 140) (pc' := 144) rfl (hb hby at_140) (by decide) (by decide)) ?_
    show own_G p e below (T284.setTop (mkF m 144 #[iv in_1, iv 0, iv 1, iv 0, iv 1, iv 0, iv 1, .unset] [(.int 1), (.int 1)])) _
    refine oS (fun _ => XS.icmpNo X288.here hx rfl (hb hby at_144) rfl (XT.ii_ne_f (by decide))) ?_
    show own_G p e below (T284.setTop (mkF m 147 #[iv in_1, iv 0, iv 1, iv 0, iv 1, iv 0, iv 1, .unset] [])) _
    refine oS (fun _ => XS.iloadN X288.here hx rfl (hb hby at_147) rfl) ?_
    refine oS (fun _ => XS.ifNo X288.here hx rfl (hb hby at_148) rfl (XT.i0_eq_f (by decide))) ?_
    show own_G p e below (T284.setTop (mkF m 151 #[iv in_1, iv 0, iv 1, iv 0, iv 1, iv 0, iv 1, .unset] [])) _
    refine oS (fun _ => XS.iload X288.here hx rfl (hb hby at_151) rfl) ?_
    refine oS (fun _ => XS.ifNo X288.here hx rfl (hb hby at_153) rfl (XT.i0_eq_f (by decide))) ?_
    show own_G p e below (T284.setTop (mkF m 156 #[iv in_1, iv 0, iv 1, iv 0, iv 1, iv 0, iv 1, .unset] [])) _
    refine oS (fun _ => XS.iconst X288.here hx rfl (hb hby at_156) ) ?_
    refine oS (fun _ => XS.goto X288.here hx rfl (pc0 := 157) (pc' := 161) rfl (hb hby at_157) (by decide) (by decide)) ?_
    show own_G p e below (T284.setTop (mkF m 161 #[iv in_1, iv 0, iv 1, iv 0, iv 1, iv 0, iv 1, .unset] [(.int 1)])) _
    refine oS (fun _ => XS.iloadN X288.here hx rfl (hb hby at_161) rfl) ?_
    refine oS (fun _ => XS.ifNo X288.here hx rfl (hb hby at_162) rfl (XT.i0_ne_f q9)) ?_
    show own_G p e below (T284.setTop (mkF m 165 #[iv in_1, iv 0, iv 1, iv 0, iv 1, iv 0, iv 1, .unset] [(.int 1)])) _
    refine oS (fun _ => XS.iconst X288.here hx rfl (hb hby at_165) ) ?_
    refine oS (fun _ => XS.goto X288.here hx rfl (pc0 := 166) (pc' := 170) rfl (hb hby at_166) (by decide) (by decide)) ?_
    show own_G p e below (T284.setTop (mkF m 170 #[iv in_1, iv 0, iv 1, iv 0, iv 1, iv 0, iv 1, .unset] [(.int 1), (.int 1)])) _
    refine oS (fun _ => XS.icmpNo X288.here hx rfl (hb hby at_170) rfl (XT.ii_ne_f (by decide))) ?_
    show own_G p e below (T284.setTop (mkF m 173 #[iv in_1, iv 0, iv 1, iv 0, iv 1, iv 0, iv 1, .unset] [])) _
    refine oS (fun _ => XS.iconst X288.here hx rfl (hb hby at_173) ) ?_
    refine oS (fun _ => XS.goto X288.here hx rfl (pc0 := 174) (pc' := 178) rfl (hb hby at_174) (by decide) (by decide)) ?_
    show own_G p e below (T284.setTop (mkF m 178 #[iv in_1, iv 0, iv 1, iv 0, iv 1, iv 0, iv 1, .unset] [(.int 1)])) _
    refine oS (fun _ => XS.istore X288.here hx rfl (hb hby at_178) rfl (l' := #[iv in_1, iv 0, iv 1, iv 0, iv 1, iv 0, iv 1, iv 1]) rfl) ?_
    refine oS (fun _ => XS.iload X288.here hx rfl (hb hby at_180) rfl) ?_
    refine oS (fun _ => XS.ifNo X288.here hx rfl (hb hby at_182) rfl (XT.i0_eq_f (by decide))) ?_
    show own_G p e below (T284.setTop (mkF m 185 #[iv in_1, iv 0, iv 1, iv 0, iv 1, iv 0, iv 1, iv 1] [])) _
    refine oS (fun _ => XS.iload X288.here hx rfl (hb hby at_185) rfl) ?_
    refine oS (fun _ => XS.ifNo X288.here hx rfl (hb hby at_187) rfl (XT.i0_eq_f (by decide))) ?_
    show own_G p e below (T284.setTop (mkF m 190 #[iv in_1, iv 0, iv 1, iv 0, iv 1, iv 0, iv 1, iv 1] [])) _
    refine oS (fun _ => XS.iconst X288.here hx rfl (hb hby at_190) ) ?_
    refine oS (fun _ => XS.goto X288.here hx rfl (pc0 := 191) (pc' := 195) rfl (hb hby at_191) (by decide) (by decide)) ?_
    show own_G p e below (T284.setTop (mkF m 195 #[iv in_1, iv 0, iv 1, iv 0, iv 1, iv 0, iv 1, iv 1] [(.int 1)])) _
    exact own_retN X288 hx (t := .boolean) Bd.notSynchronized Bd.returns (by simp) (hb hby at_195) (by decide) e296 (by decide) (by decide) (⟨rfl, N295⟩)
  · skip
    have F297 : Sta Z h0 "com/example/typub/typub/Term$Order" "LESS" "Lcom/example/typub/typub/Term$Order;" (.ref ob_2) := Sta.ext O0.2 I15
    obtain ⟨T298, X299, e300, s301⟩ := getS X0 hx hZ hown (host := "") (oW hw 0 rfl) Via.refl e0 F297 (g := (mkF m 0 #[iv in_1, .unset, .unset, .unset, .unset, .unset, .unset, .unset] [])) rfl (hb hby at_0)
    refine oS s301 ?_
    show own_G p e below (T298.setTop (mkF m 3 #[iv in_1, .unset, .unset, .unset, .unset, .unset, .unset, .unset] [(.ref ob_2)])) _
    refine oS (fun _ => XS.iloadN X299.here hx rfl (hb hby at_3) rfl) ?_
    have F310 : Exa Z h0 ob_2 "com/example/typub/typub/Term$Order" := Exa.ext O0.2 I37
    obtain ⟨T302, h303, v304, L305, X306, e307, q308, s309⟩ := own_callV X299 hx hZ hown e300 (y := (⟨"com/example/typub/typub/Term$Order", "holds", "(I)Z"⟩ : MethodName)) (z := (⟨"com/example/typub/typub/Term$Order", "holds", "(I)Z"⟩ : MethodName)) (C := "com/example/typub/typub/Term$Order") (b := ob_2) (oW hw 3 rfl) (oW hw 4 rfl) (notFace_of_selects (args := #[]) (mvT hZ (oW hw 6 rfl))) (oW hw 6 rfl) (oW hw 5 rfl) (oW hw 1 rfl) (oW hw 7 rfl) (by decide) F310 (W := 0) (own_rm10 l Z a0 hw [] ob_2 in_1 h0 n0 Z0 O0 I21 I37 q13) (by decide) (by decide) (by decide) (by decide) (g := (mkF m 4 #[iv in_1, .unset, .unset, .unset, .unset, .unset, .unset, .unset] [(.int in_1), (.ref ob_2)])) rfl (by rw [hml]; rfl) (argsL := [(.int in_1)]) (rest := []) rfl (lenOf own_pd1 rfl) rfl (by show 2 * 0 + _ ≤ _; exact Nat.le_of_eq rfl) (hb hby at_4)
    refine oS s309 ?_
    obtain ⟨rfl, N311, K312⟩ := q308
    have N313 := Fr.app N0 N311
    have e314 := e307.trans K312
    show own_G p e below (T302.setTop (mkF m 7 #[iv in_1, .unset, .unset, .unset, .unset, .unset, .unset, .unset] [(.int 0)])) _
    refine oS (fun _ => XS.istoreN X306.here hx rfl (hb hby at_7) rfl (l' := #[iv in_1, iv 0, .unset, .unset, .unset, .unset, .unset, .unset]) rfl) ?_
    have F315 : Sta Z h0 "com/example/typub/typub/Term$Order" "AT_MOST" "Lcom/example/typub/typub/Term$Order;" (.ref ob_3) := Sta.ext O0.2 I59
    obtain ⟨T316, X317, e318, s319⟩ := getS X306 hx hZ hown (host := "") (oW hw 17 rfl) Via.refl e314 F315 (g := (mkF m 8 #[iv in_1, iv 0, .unset, .unset, .unset, .unset, .unset, .unset] [])) rfl (hb hby at_8)
    refine oS s319 ?_
    show own_G p e below (T316.setTop (mkF m 11 #[iv in_1, iv 0, .unset, .unset, .unset, .unset, .unset, .unset] [(.ref ob_3)])) _
    refine oS (fun _ => XS.iloadN X317.here hx rfl (hb hby at_11) rfl) ?_
    have F345 : Exa Z h0 ob_3 "com/example/typub/typub/Term$Order" := Exa.ext O0.2 I81
    obtain ⟨T337, h338, v339, L340, X341, e342, q343, s344⟩ := own_callV X317 hx hZ hown e318 (y := (⟨"com/example/typub/typub/Term$Order", "holds", "(I)Z"⟩ : MethodName)) (z := (⟨"com/example/typub/typub/Term$Order", "holds", "(I)Z"⟩ : MethodName)) (C := "com/example/typub/typub/Term$Order") (b := ob_3) (oW hw 3 rfl) (oW hw 4 rfl) (notFace_of_selects (args := #[]) (mvT hZ (oW hw 6 rfl))) (oW hw 6 rfl) (oW hw 5 rfl) (oW hw 1 rfl) (oW hw 7 rfl) (by decide) F345 (W := 0) (own_rm12 l Z a0 hw [] ob_3 in_1 h0 n0 Z0 O0 I65 I81 q12) (by decide) (by decide) (by decide) (by decide) (g := (mkF m 12 #[iv in_1, iv 0, .unset, .unset, .unset, .unset, .unset, .unset] [(.int in_1), (.ref ob_3)])) rfl (by rw [hml]; rfl) (argsL := [(.int in_1)]) (rest := []) rfl (lenOf own_pd1 rfl) rfl (by show 2 * 0 + _ ≤ _; exact Nat.le_of_eq rfl) (hb hby at_12)
    refine oS s344 ?_
    obtain ⟨rfl, N346, K347⟩ := q343
    have N348 := Fr.app N313 N346
    have e349 := e342.trans K347
    show own_G p e below (T337.setTop (mkF m 15 #[iv in_1, iv 0, .unset, .unset, .unset, .unset, .unset, .unset] [(.int 0)])) _
    refine oS (fun _ => XS.istoreN X341.here hx rfl (hb hby at_15) rfl (l' := #[iv in_1, iv 0, iv 0, .unset, .unset, .unset, .unset, .unset]) rfl) ?_
    have F350 : Sta Z h0 "com/example/typub/typub/Term$Order" "GREATER" "Lcom/example/typub/typub/Term$Order;" (.ref ob_4) := Sta.ext O0.2 I103
    obtain ⟨T351, X352, e353, s354⟩ := getS X341 hx hZ hown (host := "") (oW hw 19 rfl) Via.refl e349 F350 (g := (mkF m 16 #[iv in_1, iv 0, iv 0, .unset, .unset, .unset, .unset, .unset] [])) rfl (hb hby at_16)
    refine oS s354 ?_
    show own_G p e below (T351.setTop (mkF m 19 #[iv in_1, iv 0, iv 0, .unset, .unset, .unset, .unset, .unset] [(.ref ob_4)])) _
    refine oS (fun _ => XS.iloadN X352.here hx rfl (hb hby at_19) rfl) ?_
    have F380 : Exa Z h0 ob_4 "com/example/typub/typub/Term$Order" := Exa.ext O0.2 I125
    obtain ⟨T372, h373, v374, L375, X376, e377, q378, s379⟩ := own_callV X352 hx hZ hown e353 (y := (⟨"com/example/typub/typub/Term$Order", "holds", "(I)Z"⟩ : MethodName)) (z := (⟨"com/example/typub/typub/Term$Order", "holds", "(I)Z"⟩ : MethodName)) (C := "com/example/typub/typub/Term$Order") (b := ob_4) (oW hw 3 rfl) (oW hw 4 rfl) (notFace_of_selects (args := #[]) (mvT hZ (oW hw 6 rfl))) (oW hw 6 rfl) (oW hw 5 rfl) (oW hw 1 rfl) (oW hw 7 rfl) (by decide) F380 (W := 0) (own_rm13 l Z a0 hw [] ob_4 in_1 h0 n0 Z0 O0 I109 I125 q12) (by decide) (by decide) (by decide) (by decide) (g := (mkF m 20 #[iv in_1, iv 0, iv 0, .unset, .unset, .unset, .unset, .unset] [(.int in_1), (.ref ob_4)])) rfl (by rw [hml]; rfl) (argsL := [(.int in_1)]) (rest := []) rfl (lenOf own_pd1 rfl) rfl (by show 2 * 0 + _ ≤ _; exact Nat.le_of_eq rfl) (hb hby at_20)
    refine oS s379 ?_
    obtain ⟨rfl, N381, K382⟩ := q378
    have N383 := Fr.app N348 N381
    have e384 := e377.trans K382
    show own_G p e below (T372.setTop (mkF m 23 #[iv in_1, iv 0, iv 0, .unset, .unset, .unset, .unset, .unset] [(.int 1)])) _
    refine oS (fun _ => XS.istoreN X376.here hx rfl (hb hby at_23) rfl (l' := #[iv in_1, iv 0, iv 0, iv 1, .unset, .unset, .unset, .unset]) rfl) ?_
    have F385 : Sta Z h0 "com/example/typub/typub/Term$Order" "AT_LEAST" "Lcom/example/typub/typub/Term$Order;" (.ref ob_5) := Sta.ext O0.2 I147
    obtain ⟨T386, X387, e388, s389⟩ := getS X376 hx hZ hown (host := "") (oW hw 21 rfl) Via.refl e384 F385 (g := (mkF m 24 #[iv in_1, iv 0, iv 0, iv 1, .unset, .unset, .unset, .unset] [])) rfl (hb hby at_24)
    refine oS s389 ?_
    show own_G p e below (T386.setTop (mkF m 27 #[iv in_1, iv 0, iv 0, iv 1, .unset, .unset, .unset, .unset] [(.ref ob_5)])) _
    refine oS (fun _ => XS.iloadN X387.here hx rfl (hb hby at_27) rfl) ?_
    have F398 : Exa Z h0 ob_5 "com/example/typub/typub/Term$Order" := Exa.ext O0.2 I169
    obtain ⟨T390, h391, v392, L393, X394, e395, q396, s397⟩ := own_callV X387 hx hZ hown e388 (y := (⟨"com/example/typub/typub/Term$Order", "holds", "(I)Z"⟩ : MethodName)) (z := (⟨"com/example/typub/typub/Term$Order", "holds", "(I)Z"⟩ : MethodName)) (C := "com/example/typub/typub/Term$Order") (b := ob_5) (oW hw 3 rfl) (oW hw 4 rfl) (notFace_of_selects (args := #[]) (mvT hZ (oW hw 6 rfl))) (oW hw 6 rfl) (oW hw 5 rfl) (oW hw 1 rfl) (oW hw 7 rfl) (by decide) F398 (W := 0) (own_rm11 l Z a0 hw [] ob_5 in_1 h0 n0 Z0 O0 I153 I169 q13) (by decide) (by decide) (by decide) (by decide) (g := (mkF m 28 #[iv in_1, iv 0, iv 0, iv 1, .unset, .unset, .unset, .unset] [(.int in_1), (.ref ob_5)])) rfl (by rw [hml]; rfl) (argsL := [(.int in_1)]) (rest := []) rfl (lenOf own_pd1 rfl) rfl (by show 2 * 0 + _ ≤ _; exact Nat.le_of_eq rfl) (hb hby at_28)
    refine oS s397 ?_
    obtain ⟨rfl, N399, K400⟩ := q396
    have N401 := Fr.app N383 N399
    have e402 := e395.trans K400
    show own_G p e below (T390.setTop (mkF m 31 #[iv in_1, iv 0, iv 0, iv 1, .unset, .unset, .unset, .unset] [(.int 1)])) _
    refine oS (fun _ => XS.istore X394.here hx rfl (hb hby at_31) rfl (l' := #[iv in_1, iv 0, iv 0, iv 1, iv 1, .unset, .unset, .unset]) rfl) ?_
    refine oS (fun _ => XS.iloadN X394.here hx rfl (hb hby at_33) rfl) ?_
    refine oS (fun _ => XS.ifYes X394.here hx rfl (pc0 := 34) (pc' := 41) rfl (hb hby at_34) rfl (XT.i0_ge_t q13) (by decide) (by decide)) ?_
    show own_G p e below (T390.setTop (mkF m 41 #[iv in_1, iv 0, iv 0, iv 1, iv 1, .unset, .unset, .unset] [])) _
    refine oS (fun _ => XS.iloadN X394.here hx rfl (hb hby at_41) rfl) ?_
    refine oS (fun _ => XS.ifYes X394.here hx rfl (pc0 := 42) (pc' := 49) rfl (hb hby at_42) rfl (XT.i0_ne_t q14) (by decide) (by decide)) ?_
    show own_G p e below (T390.setTop (mkF m 49 #[iv in_1, iv 0, iv 0, iv 1, iv 1, .unset, .unset, .unset] [])) _
    refine oS (fun _ => XS.iconst X394.here hx rfl (hb hby at_49) ) ?_
    refine oS (fun _ => XS.istore X394.here hx rfl (hb hby at_50) rfl (l' := #[iv in_1, iv 0, iv 0, iv 1, iv 1, iv 1, .unset, .unset]) rfl) ?_
    refine oS (fun _ => XS.iloadN X394.here hx rfl (hb hby at_52) rfl) ?_
    refine oS (fun _ => XS.iload X394.here hx rfl (hb hby at_53) rfl) ?_
    show own_G p e below (T390.setTop (mkF m 55 #[iv in_1, iv 0, iv 0, iv 1, iv 1, iv 1, .unset, .unset] [(.int 1), (.int 0)])) _
    refine oS (fun _ => XS.iconst X394.here hx rfl (hb hby at_55) ) ?_
    refine oS (fun _ => XS.icmpYes X394.here hx rfl (pc0 := 56) (pc' := 63) rfl (hb hby at_56) rfl (XT.ii_ne_t (by decide)) (by decide) (by decide)) ?_
    show own_G p e below (T390.setTop (mkF m 63 #[iv in_1, iv 0, iv 0, iv 1, iv 1, iv 1, .unset, .unset] [(.int 0)])) _
    refine oS (fun _ => XS.iconst X394.here hx rfl (hb hby at_63) ) ?_
    refine oS (fun _ => XS.icmpNo X394.here hx rfl (hb hby at_64) rfl (XT.ii_ne_f (by decide))) ?_
    show own_G p e below (T390.setTop (mkF m 67 #[iv in_1, iv 0, iv 0, iv 1, iv 1, iv 1, .unset, .unset] [])) _
    refine oS (fun _ => XS.iloadN X394.here hx rfl (hb hby at_67) rfl) ?_
    refine oS (fun _ => XS.iload X394.here hx rfl (hb hby at_68) rfl) ?_
    refine oS (fun _ => XS.iconst X394.here hx rfl (hb hby at_70) ) ?_
    refine oS (fun _ => XS.icmpYes X394.here hx rfl (pc0 := 71) (pc' := 78) rfl (hb hby at_71) rfl (XT.ii_eq_t (by decide)) (by decide) (by decide)) ?_
    show own_G p e below (T390.setTop (mkF m 78 #[iv in_1, iv 0, iv 0, iv 1, iv 1, iv 1, .unset, .unset] [(.int 0)])) _
    refine oS (fun _ => XS.iconst X394.here hx rfl (hb hby at_78) ) ?_
    refine oS (fun _ => XS.icmpNo X394.here hx rfl (hb hby at_79) rfl (XT.ii_ne_f (by decide))) ?_
    show own_G p e below (T390.setTop (mkF m 82 #[iv in_1, iv 0, iv 0, iv 1, iv 1, iv 1, .unset, .unset] [])) _
    refine oS (fun _ => XS.iloadN X394.here hx rfl (hb hby at_82) rfl) ?_
    refine oS (fun _ => XS.iload X394.here hx rfl (hb hby at_83) rfl) ?_
    refine oS (fun _ => XS.iconst X394.here hx rfl (hb hby at_85) ) ?_
    refine oS (fun _ => XS.icmpNo X394.here hx rfl (hb hby at_86) rfl (XT.ii_ne_f (by decide))) ?_
    show own_G p e below (T390.setTop (mkF m 89 #[iv in_1, iv 0, iv 0, iv 1, iv 1, iv 1, .unset, .unset] [(.int 1)])) _
    refine oS (fun _ => XS.iconst X394.here hx rfl (hb hby at_89) ) ?_
    refine oS (fun _ => XS.goto X394.here hx rfl (pc0 := 90) (pc' := 94) rfl (hb hby at_90) (by decide) (by decide)) ?_
    show own_G p e below (T390.setTop (mkF m 94 #[iv in_1, iv 0, iv 0, iv 1, iv 1, iv 1, .unset, .unset] [(.int 1), (.int 1)])) _
    refine oS (fun _ => XS.icmpNo X394.here hx rfl (hb hby at_94) rfl (XT.ii_ne_f (by decide))) ?_
    show own_G p e below (T390.setTop (mkF m 97 #[iv in_1, iv 0, iv 0, iv 1, iv 1, iv 1, .unset, .unset] [])) _
    refine oS (fun _ => XS.iload X394.here hx rfl (hb hby at_97) rfl) ?_
    refine oS (fun _ => XS.iload X394.here hx rfl (hb hby at_99) rfl) ?_
    refine oS (fun _ => XS.iconst X394.here hx rfl (hb hby at_101) ) ?_
    refine oS (fun _ => XS.icmpNo X394.here hx rfl (hb hby at_102) rfl (XT.ii_eq_f (by decide))) ?_
    show own_G p e below (T390.setTop (mkF m 105 #[iv in_1, iv 0, iv 0, iv 1, iv 1, iv 1, .unset, .unset] [(.int 1)])) _
    refine oS (fun _ => XS.iconst X394.here hx rfl (hb hby at_105) ) ?_
    refine oS (fun _ => XS.goto X394.here hx rfl (pc0 := 106) (pc' := 110) rfl (hb hby at_106) (by decide) (by decide)) ?_
    show own_G p e below (T390.setTop (mkF m 110 #[iv in_1, iv 0, iv 0, iv 1, iv 1, iv 1, .unset, .unset] [(.int 1), (.int 1)])) _
    refine oS (fun _ => XS.icmpNo X394.here hx rfl (hb hby at_110) rfl (XT.ii_ne_f (by decide))) ?_
    show own_G p e below (T390.setTop (mkF m 113 #[iv in_1, iv 0, iv 0, iv 1, iv 1, iv 1, .unset, .unset] [])) _
    refine oS (fun _ => XS.iconst X394.here hx rfl (hb hby at_113) ) ?_
    refine oS (fun _ => XS.goto X394.here hx rfl (pc0 := 114) (pc' := 118) rfl (hb hby at_114) (by decide) (by decide)) ?_
    show own_G p e below (T390.setTop (mkF m 118 #[iv in_1, iv 0, iv 0, iv 1, iv 1, iv 1, .unset, .unset] [(.int 1)])) _
    refine oS (fun _ => XS.istore X394.here hx rfl (hb hby at_118) rfl (l' := #[iv in_1, iv 0, iv 0, iv 1, iv 1, iv 1, iv 1, .unset]) rfl) ?_
    refine oS (fun _ => XS.iloadN X394.here hx rfl (hb hby at_120) rfl) ?_
    refine oS (fun _ => XS.iloadN X394.here hx rfl (hb hby at_121) rfl) ?_
    refine oS (fun _ => XS.ifYes X394.here hx rfl (pc0 := 122) (pc' := 129) rfl (hb hby at_122) rfl (XT.i0_ne_t (by decide)) (by decide) (by decide)) ?_
    show own_G p e below (T390.setTop (mkF m 129 #[iv in_1, iv 0, iv 0, iv 1, iv 1, iv 1, iv 1, .unset] [(.int 0)])) _
    refine oS (fun _ => XS.iconst X394.here hx rfl (hb hby at_129) ) ?_
    refine oS (fun _ => XS.icmpNo X394.here hx rfl (hb hby at_130) rfl (XT.ii_ne_f (by decide))) ?_
    show own_G p e below (T390.setTop (mkF m 133 #[iv in_1, iv 0, iv 0, iv 1, iv 1, iv 1, iv 1, .unset] [])) _
    refine oS (fun _ => XS.iload X394.here hx rfl (hb hby at_133) rfl) ?_
    refine oS (fun _ => XS.iloadN X394.here hx rfl (hb hby at_135) rfl) ?_
    refine oS (fun _ => XS.ifNo X394.here hx rfl (hb hby at_136) rfl (XT.i0_ne_f (by decide))) ?_
    show own_G p e below (T390.setTop (mkF m 139 #[iv in_1, iv 0, iv 0, iv 1, iv 1, iv 1, iv 1, .unset] [(.int 1)])) _
    refine oS (fun _ => XS.iconst X394.here hx rfl (hb hby at_139) ) ?_
    refine oS (fun _ => XS.goto X394.here hx rfl (pc0 := 140) (pc' := 144) rfl (hb hby at_140) (by decide) (by decide)) ?_
    show own_G p e below (T390.setTop (mkF m 144 #[iv in_1, iv 0, iv 0, iv 1, iv 1, iv 1, iv 1, .unset] [(.int 1), (.int 1)])) _
    refine oS (fun _ => XS.icmpNo X394.here hx rfl (hb hby at_144) rfl (XT.ii_ne_f (by decide))) ?_
    show own_G p e below (T390.setTop (mkF m 147 #[iv in_1, iv 0, iv 0, iv 1, iv 1, iv 1, iv 1, .unset] [])) _
    refine oS (fun _ => XS.iloadN X394.here hx rfl (hb hby at_147) rfl) ?_
    refine oS (fun _ => XS.ifYes X394.here hx rfl (pc0 := 148) (pc' := 160) rfl (hb hby at_148) rfl (XT.i0_eq_t (by decide)) (by decide) (by decide)) ?_
    show own_G p e below (T390.setTop (mkF m 160 #[iv in_1, iv 0, iv 0, iv 1, iv 1, iv 1, iv 1, .unset] [])) _
    refine oS (fun _ => XS.iconst X394.here hx rfl (hb hby at_160) ) ?_
    refine oS (fun _ => XS.iloadN X394.here hx rfl (hb hby at_161) rfl) ?_
    refine oS (fun _ => XS.ifYes X394.here hx rfl (pc0 := 162) (pc' := 169) rfl (hb hby at_162) rfl (XT.i0_ne_t q14) (by decide) (by decide)) ?_
    show own_G p e below (T390.setTop (mkF m 169 #[iv in_1, iv 0, iv 0, iv 1, iv 1, iv 1, iv 1, .unset] [(.int 0)])) _
    refine oS (fun _ => XS.iconst X394.here hx rfl (hb hby at_169) ) ?_
    refine oS (fun _ => XS.icmpNo X394.here hx rfl (hb hby at_170) rfl (XT.ii_ne_f (by decide))) ?_
    show own_G p e below (T390.setTop (mkF m 173 #[iv in_1, iv 0, iv 0, iv 1, iv 1, iv 1, iv 1, .unset] [])) _
    refine oS (fun _ => XS.iconst X394.here hx rfl (hb hby at_173) ) ?_
    refine oS (fun _ => XS.goto X394.here hx rfl (pc0 := 174) (pc' := 178) rfl (hb hby at_174) (by decide) (by decide)) ?_
    show own_G p e below (T390.setTop (mkF m 178 #[iv in_1, iv 0, iv 0, iv 1, iv 1, iv 1, iv 1, .unset] [(.int 1)])) _
    refine oS (fun _ => XS.istore X394.here hx rfl (hb hby at_178) rfl (l' := #[iv in_1, iv 0, iv 0, iv 1, iv 1, iv 1, iv 1, iv 1]) rfl) ?_
    refine oS (fun _ => XS.iload X394.here hx rfl (hb hby at_180) rfl) ?_
    refine oS (fun _ => XS.ifNo X394.here hx rfl (hb hby at_182) rfl (XT.i0_eq_f (by decide))) ?_
    show own_G p e below (T390.setTop (mkF m 185 #[iv in_1, iv 0, iv 0, iv 1, iv 1, iv 1, iv 1, iv 1] [])) _
    refine oS (fun _ => XS.iload X394.here hx rfl (hb hby at_185) rfl) ?_
    refine oS (fun _ => XS.ifNo X394.here hx rfl (hb hby at_187) rfl (XT.i0_eq_f (by decide))) ?_
    show own_G p e below (T390.setTop (mkF m 190 #[iv in_1, iv 0, iv 0, iv 1, iv 1, iv 1, iv 1, iv 1] [])) _
    refine oS (fun _ => XS.iconst X394.here hx rfl (hb hby at_190) ) ?_
    refine oS (fun _ => XS.goto X394.here hx rfl (pc0 := 191) (pc' := 195) rfl (hb hby at_191) (by decide) (by decide)) ?_
    show own_G p e below (T390.setTop (mkF m 195 #[iv in_1, iv 0, iv 0, iv 1, iv 1, iv 1, iv 1, iv 1] [(.int 1)])) _
    exact own_retN X394 hx (t := .boolean) Bd.notSynchronized Bd.returns (by simp) (hb hby at_195) (by decide) e402 (by decide) (by decide) (⟨rfl, N401⟩)
set_option maxRecDepth 65536 in
set_option maxHeartbeats 40000000 in
theorem comes_1 {Post : Tables → Env → Array Value → State → Outcome → State → Prop} (hpost : ∀ tb e args s v u, (limb_1_1.after args s (.returned v) u = true ∧ limb_1_2.after args s (.returned v) u = true ∧ True) → FrameEnd s (.returned v) u (Jvm.fieldLocs frame_1_writes args s ++ Jvm.arrayLocs frame_1_arrays args s ++ Jvm.staticLocs frame_1_statics s) 0 0 → Post tb e args s (.returned v) u) :
    ArmFor flags0 classFile x code maxLocals ret World_1 tables_1 room_1 Calls_1 rest_1 Pre_1 Post := by
  intro l hfl _ _ p e ha hc hk s m args below hf hA hF happ hP
  obtain ⟨hcalls, hrest, hpre⟩ := hP
  obtain ⟨-, -, -, hnamed, -, -, -, hat⟩ := (Spec.applies_iff hf).mp happ
  obtain ⟨hg, hn⟩ := and_e (Cond.before_iff.mp (show (Jvm.Cond.and given_1 narrow_1).before args s = true from hpre))
  obtain ⟨g0, gg0⟩ := and_e hg
  obtain ⟨w0, rfl⟩ : ∃ w0 : Value, args = #[w0] := by
    have hs : args.size = 1 := by simpa [Cond.value, given_1] using g0
    obtain ⟨L⟩ := args
    match L, hs with
    | [w0], _ => exact ⟨w0, rfl⟩
  have hw := fun d (hd : d ∈ tables_1) => atoms_spec (ws := Jvm.Cond.code x code maxLocals ret :: tables_1) hat d (List.mem_cons_of_mem _ hd)
  have hfit : Fit s := fun {y c} hc i hi => by
    obtain ⟨ha, rfl⟩ := Array.getElem?_eq_some_iff.mp hc
    have q := List.all_eq_true.mp ((Array.all_eq_true_iff_forall_mem.mp hF) _ (Array.getElem_mem ha)) i (List.mem_range.mpr hi)
    simpa [Array.getElem?_eq_getElem hi] using q
  obtain ⟨in_1, ea0⟩ := is_v gg0
  obtain rfl : w0 = (.int in_1) := Option.some.inj ea0
  obtain ⟨c0, r0⟩ := and_e hn
  obtain ⟨c1, r1⟩ := and_e r0
  obtain ⟨c2, r2⟩ := and_e r1
  obtain ⟨c3, r3⟩ := and_e r2
  obtain ⟨c4, r4⟩ := and_e r3
  obtain ⟨c5, r5⟩ := and_e r4
  obtain ⟨c6, c7⟩ := and_e r5
  obtain ⟨ob_2, ev_ob_2⟩ := exa_v c0
  obtain ⟨ob_3, ev_ob_3⟩ := exa_v c2
  obtain ⟨ob_4, ev_ob_4⟩ := exa_v c4
  obtain ⟨ob_5, ev_ob_5⟩ := exa_v c6
  obtain ⟨n, o, h1, h2, h3, _, L, rfl, ⟨rfl, N⟩, hq⟩ := own_rm1 l s _ hw tables_1 in_1 ob_2 ob_3 ob_4 ob_5 s.heap s.heap.size (Nat.le_refl _) (Old.start s) (Sta.start ev_ob_2 (Or.inr ⟨(oW hw 1 rfl), (oW hw 2 rfl)⟩)) (own_fv ev_ob_2 (Term.int_eval 0) c1) (Exa.start ev_ob_2 c0) (Sta.start ev_ob_3 (Or.inr ⟨(oW hw 1 rfl), (oW hw 18 rfl)⟩)) (own_fv ev_ob_3 (Term.int_eval 1) c3) (Exa.start ev_ob_3 c2) (Sta.start ev_ob_4 (Or.inr ⟨(oW hw 1 rfl), (oW hw 20 rfl)⟩)) (own_fv ev_ob_4 (Term.int_eval 2) c5) (Exa.start ev_ob_4 c4) (Sta.start ev_ob_5 (Or.inr ⟨(oW hw 1 rfl), (oW hw 22 rfl)⟩)) (own_fv ev_ob_5 (Term.int_eval 3) c7) (Exa.start ev_ob_5 c6) p e ha hc hk s m _ below hf ((Spec.applies_iff_loose hf).mp happ).1 ⟨rfl, State.Warmed39.refl s, rfl⟩ trivial
  refine ⟨n, _, h1, h2, h3, hpost _ _ _ _ _ _ ⟨Cond.after_iff.mpr rfl, Cond.after_iff.mpr (eq_i res_at (Term.int_eval (1)) rfl), trivial⟩ ⟨hq.1, hq.2.1, (hq.2.2.sift fun y hy => Or.inr (N y hy)).mono (by decide) (by decide)⟩⟩
theorem main_1_1 : Claimed_1_1 := comes_1 fun _ _ _ _ _ _ h hF => ⟨h.1, hF⟩
theorem main_1_2 : Claimed_1_2 := comes_1 fun _ _ _ _ _ _ h hF => ⟨h.2.1, hF⟩
end Jvm.Pilot.@@N@@
namespace Jvm.Pilot.@@N@@
open Jvm Jvm.ClassFile Sem Op Lib Jvm.Free Jvm.Stand Jvm.Pilot.@@N@@.Jvm.D
/-! MADE BY PROGRAM (witnessworld.py) out of the Statement's table words and the real class files: 12 classes; the members and pool entries that the words name. The judged class is class 1, her method 1. -/
namespace start1
open Jvm.ClassFile
def u (s : String) : CpInfo := .utf8 (stringToUtf16 s)
/-- a pool by its gaps: so many unusable entries, then the entry; so many at the end -/
def gap : Nat → List CpInfo → List CpInfo
  | 0, r => r
  | n + 1, r => .unusable :: gap n r
def poolList (es : List (Nat × CpInfo)) (last : Nat) : List CpInfo := es.foldr (fun e r => gap e.1 (e.2 :: r)) (gap last [])
def pool (es : List (Nat × CpInfo)) (last : Nat) : Array CpInfo := ⟨poolList es last⟩
def fileOf (pool : Array CpInfo) (this : Nat) (attrs : Array Attribute := #[]) (ms : Array MethodInfo := #[]) (fl : Nat := 33) (sup : Nat := 0) (ifs : Array Nat := #[]) (fds : Array FieldInfo := #[]) : ClassFile where
  minorVersion := 0
  majorVersion := 65
  constantPool := pool
  accessFlags := fl
  thisClass := this
  superClass := sup
  interfaces := ifs
  fields := fds
  methods := ms
  attributes := attrs
def plain (name : String) (sup : Option ClassId) : Class where
  name := name
  kind := .ordinary
  loader := none
  accessFlags := 33
  super := sup
  interfaces := #[]
  cf := none
  fields := #[]
  methods := #[]
  instanceTypes := #[]
  staticTypes := #[]
  resolved := #[]
  callSites := []
  init := .initialized
  statics := none
  mirror := none

def pool0 : Array CpInfo := pool [(5, u "<init>"), (0, u "()V"), (1, .class_ 10), (1, u "java/lang/Object")] 113

def k0m0 : Method := { name := "<init>", desc := "()V", sig := { parameters := [], returnType := none }, accessFlags := 1, code := none }
/-- java/lang/Object -/
def k0 : Class := { plain "java/lang/Object" none with
  accessFlags := 33
  interfaces := #[]
  cf := some (fileOf pool0 8 #[] #[{ accessFlags := 1, nameIndex := 5, descriptorIndex := 6, attributes := #[] }] 33 0 #[] #[])
  fields := #[]
  methods := #[k0m0]
  instanceTypes := #[]
  staticTypes := #[]
  resolved := Array.replicate 124 none
  statics := none }

def pool1 : Array CpInfo := pool [(2, .class_ 4), (1, u "java/lang/Object"), (0, u "<init>"), (0, u "()V"), (0, .fieldref 8 9), (0, .class_ 10), (0, .nameAndType 11 12), (0, u "com/example/typub/typub/Term$Order"), (0, u "LESS"), (0, u "Lcom/example/typub/typub/Term$Order;"), (0, .methodref 8 14), (0, .nameAndType 15 16), (0, u "holds"), (0, u "(I)Z"), (0, .fieldref 8 18), (0, .nameAndType 19 12), (0, u "AT_MOST"), (0, .fieldref 8 21), (0, .nameAndType 22 12), (0, u "GREATER"), (0, .fieldref 8 24), (0, .nameAndType 25 12), (0, u "AT_LEAST"), (0, .class_ 27), (0, u "com/example/typub/typub/OrderHoldsPinLaw"), (2, u "law")] 7

def k1m0 : Method := { name := "<init>", desc := "()V", sig := { parameters := [], returnType := none }, accessFlags := 2, code := none }
def k1c1 : Code := { maxStack := 3, maxLocals := 8, code := code, exceptionTable := #[], attributes := #[] }
def k1m1 : Method := { name := "law", desc := "(I)Z", sig := { parameters := [.int], returnType := some .boolean }, accessFlags := 9, code := some k1c1 }
/-- com/example/typub/typub/OrderHoldsPinLaw -/
def k1 : Class := { plain "com/example/typub/typub/OrderHoldsPinLaw" (some 0) with
  accessFlags := 49
  interfaces := #[]
  cf := some (fileOf pool1 26 #[] #[{ accessFlags := 2, nameIndex := 5, descriptorIndex := 6, attributes := #[] }, { accessFlags := 9, nameIndex := 30, descriptorIndex := 16, attributes := #[] }] 49 2 #[] #[])
  fields := #[]
  methods := #[k1m0, k1m1]
  instanceTypes := #[]
  staticTypes := #[]
  resolved := Array.replicate 38 none
  statics := none }

def pool2 : Array CpInfo := pool [(1, .class_ 2), (0, u "java/lang/constant/Constable"), (0, .class_ 4), (0, u "java/lang/Object")] 6

/-- java/lang/constant/Constable -/
def k2 : Class := { plain "java/lang/constant/Constable" (some 0) with
  accessFlags := 1537
  interfaces := #[]
  cf := some (fileOf pool2 1 #[] #[] 1537 3 #[] #[])
  fields := #[]
  methods := #[]
  instanceTypes := #[]
  staticTypes := #[]
  resolved := Array.replicate 11 none
  statics := none }

def pool3 : Array CpInfo := pool [(1, .class_ 2), (0, u "java/lang/Comparable"), (0, .class_ 4), (0, u "java/lang/Object")] 7

/-- java/lang/Comparable -/
def k3 : Class := { plain "java/lang/Comparable" (some 0) with
  accessFlags := 1537
  interfaces := #[]
  cf := some (fileOf pool3 1 #[] #[] 1537 3 #[] #[])
  fields := #[]
  methods := #[]
  instanceTypes := #[]
  staticTypes := #[]
  resolved := Array.replicate 12 none
  statics := none }

def pool4 : Array CpInfo := pool [(1, .class_ 2), (0, u "java/io/Serializable"), (0, .class_ 4), (0, u "java/lang/Object")] 2

/-- java/io/Serializable -/
def k4 : Class := { plain "java/io/Serializable" (some 0) with
  accessFlags := 1537
  interfaces := #[]
  cf := some (fileOf pool4 1 #[] #[] 1537 3 #[] #[])
  fields := #[]
  methods := #[]
  instanceTypes := #[]
  staticTypes := #[]
  resolved := Array.replicate 7 none
  statics := none }

def pool5 : Array CpInfo := pool [(2, .class_ 4), (1, u "java/lang/Enum"), (0, u "name"), (0, u "Ljava/lang/String;"), (0, .fieldref 2 8), (0, .nameAndType 9 10), (0, u "ordinal"), (0, u "I"), (1, .class_ 14), (1, u "java/lang/Object"), (4, u "hash"), (86, .class_ 108), (1, u "java/lang/Enum$EnumDesc"), (2, .class_ 112), (0, u "java/lang/constant/Constable"), (0, .class_ 114), (0, u "java/lang/Comparable"), (0, .class_ 116), (0, u "java/io/Serializable"), (9, u "()I")] 77

def k5c0 : Code := { maxStack := 1, maxLocals := 1, code := jdk_37_method_2_code, exceptionTable := #[], attributes := #[] }
def k5m0 : Method := { name := "ordinal", desc := "()I", sig := { parameters := [], returnType := some .int }, accessFlags := 17, code := some k5c0 }
/-- java/lang/Enum -/
def k5 : Class := { plain "java/lang/Enum" (some 0) with
  accessFlags := 1057
  interfaces := #[2, 3, 4]
  cf := some (fileOf pool5 2 #[.nestMembers #[106]] #[{ accessFlags := 17, nameIndex := 9, descriptorIndex := 126, attributes := #[] }] 1057 12 #[111, 113, 115] #[{ accessFlags := 18, nameIndex := 5, descriptorIndex := 6, attributes := #[] }, { accessFlags := 18, nameIndex := 9, descriptorIndex := 10, attributes := #[] }, { accessFlags := 2, nameIndex := 19, descriptorIndex := 10, attributes := #[] }])
  fields := #[{ name := "name", type := (.object "java/lang/String"), accessFlags := 18, slot := 0, constantValue := 0 }, { name := "ordinal", type := .int, accessFlags := 18, slot := 1, constantValue := 0 }, { name := "hash", type := .int, accessFlags := 2, slot := 2, constantValue := 0 }]
  methods := #[k5m0]
  instanceTypes := #[(.object "java/lang/String"), .int, .int]
  staticTypes := #[]
  resolved := Array.replicate 204 none
  statics := none }

def pool6 : Array CpInfo := pool [(1, .class_ 2), (0, u "com/example/typub/typub/Term$Order"), (2, u "LESS"), (0, u "Lcom/example/typub/typub/Term$Order;"), (2, u "AT_MOST"), (2, u "GREATER"), (2, u "AT_LEAST"), (2, u "$VALUES"), (0, u "[Lcom/example/typub/typub/Term$Order;"), (6, .class_ 28), (1, u "java/lang/Enum"), (8, u "words"), (0, u "Ljava/lang/String;"), (0, .methodref 1 40), (0, .nameAndType 41 42), (0, u "ordinal"), (0, u "()I"), (31, u "holds"), (0, u "(I)Z"), (7, .class_ 84), (0, u "com/example/typub/typub/Term")] 2

def k6c0 : Code := { maxStack := 4, maxLocals := 2, code := prog_36_method_4_code, exceptionTable := #[], attributes := #[] }
def k6m0 : Method := { name := "holds", desc := "(I)Z", sig := { parameters := [.int], returnType := some .boolean }, accessFlags := 0, code := some k6c0 }
/-- com/example/typub/typub/Term$Order -/
def k6 : Class := { plain "com/example/typub/typub/Term$Order" (some 5) with
  accessFlags := 16433
  interfaces := #[]
  cf := some (fileOf pool6 1 #[.nestHost 83] #[{ accessFlags := 0, nameIndex := 74, descriptorIndex := 75, attributes := #[] }] 16433 26 #[] #[{ accessFlags := 16409, nameIndex := 5, descriptorIndex := 6, attributes := #[] }, { accessFlags := 16409, nameIndex := 9, descriptorIndex := 6, attributes := #[] }, { accessFlags := 16409, nameIndex := 12, descriptorIndex := 6, attributes := #[] }, { accessFlags := 16409, nameIndex := 15, descriptorIndex := 6, attributes := #[] }, { accessFlags := 18, nameIndex := 37, descriptorIndex := 38, attributes := #[] }, { accessFlags := 4122, nameIndex := 18, descriptorIndex := 19, attributes := #[] }])
  fields := #[{ name := "LESS", type := (.object "com/example/typub/typub/Term$Order"), accessFlags := 16409, slot := 0, constantValue := 0 }, { name := "AT_MOST", type := (.object "com/example/typub/typub/Term$Order"), accessFlags := 16409, slot := 1, constantValue := 0 }, { name := "GREATER", type := (.object "com/example/typub/typub/Term$Order"), accessFlags := 16409, slot := 2, constantValue := 0 }, { name := "AT_LEAST", type := (.object "com/example/typub/typub/Term$Order"), accessFlags := 16409, slot := 3, constantValue := 0 }, { name := "words", type := (.object "java/lang/String"), accessFlags := 18, slot := 3, constantValue := 0 }, { name := "$VALUES", type := (.array (.object "com/example/typub/typub/Term$Order")), accessFlags := 4122, slot := 4, constantValue := 0 }]
  methods := #[k6m0]
  instanceTypes := #[(.object "java/lang/String"), .int, .int, (.object "java/lang/String")]
  staticTypes := #[(.object "com/example/typub/typub/Term$Order"), (.object "com/example/typub/typub/Term$Order"), (.object "com/example/typub/typub/Term$Order"), (.object "com/example/typub/typub/Term$Order"), (.array (.object "com/example/typub/typub/Term$Order"))]
  resolved := Array.replicate 87 none
  statics := some 0 }

def pool7 : Array CpInfo := pool [(1, u "java/lang/Cloneable"), (0, .class_ 1), (0, u "java/lang/Object"), (0, .class_ 3)] 3

/-- java/lang/Cloneable -/
def k7 : Class := { plain "java/lang/Cloneable" (some 0) with
  accessFlags := 1537
  interfaces := #[]
  cf := some (fileOf pool7 2 #[] #[] 1537 4 #[] #[])
  fields := #[]
  methods := #[]
  instanceTypes := #[]
  staticTypes := #[]
  resolved := Array.replicate 8 none
  statics := none }

/-- the primitive byte -/
def k8 : Class := { plain "byte" none with kind := .primitive 'B', accessFlags := 0x411 }
/-- [B -/
def k9 : Class := { plain "[B" (some 0) with kind := .array 8 .byte, interfaces := #[7, 4], accessFlags := 1041 }

/-- the primitive int -/
def k10 : Class := { plain "int" none with kind := .primitive 'I', accessFlags := 0x411 }
/-- [I -/
def k11 : Class := { plain "[I" (some 0) with kind := .array 10 .int, interfaces := #[7, 4], accessFlags := 1041 }

def heap : Heap := #[{ cls := 6, slots := #[.ref 1, .ref 2, .ref 3, .ref 4, .null], vm := .statics 6 },
  { cls := 6, slots := #[.null, .int 0, .int 0, .null], vm := .none },
  { cls := 6, slots := #[.null, .int 1, .int 0, .null], vm := .none },
  { cls := 6, slots := #[.null, .int 2, .int 0, .null], vm := .none },
  { cls := 6, slots := #[.null, .int 3, .int 0, .null], vm := .none }]
def classes : Array Class := #[k0, k1, k2, k3, k4, k5, k6, k7, k8, k9, k10, k11]
def interned : List (Array UInt16 × Addr) := []
def slotsUsed : Nat := 21
def theMethod : MethodId := ⟨1, 1⟩
def args0 : Array Value := #[.int 5]
def aboutOver (below : List Frame) : State where
  vm := { classes := classes, interned := interned.toArray }
  heap := heap
  slotsUsed := slotsUsed
  threads := #[{ frames := .invoking theMethod args0 :: below }]
def below0 : List Frame := [.native { method := ⟨0, 0⟩, args := #[] }]
def about1 : State := aboutOver below0
def p0 : Program := .bare "" "" ""
def e0 : Env := launch0.env 0 0 0
theorem w_frames : about1.frames = Frame.invoking theMethod args0 :: below0 := rfl
set_option maxRecDepth 65536 in
theorem w_args : argsFit about1.vm theMethod args0 = true := by decide +kernel
set_option maxRecDepth 65536 in
theorem w_heap : heapFits about1 = true := by decide +kernel
set_option maxRecDepth 65536 in
theorem w_runnable : about1.curStatus? = some .runnable := by decide +kernel
set_option maxRecDepth 65536 in
theorem w_alone : about1.alone = true := by decide +kernel
set_option maxRecDepth 65536 in
theorem w_named : about1.methodNamed? x = some theMethod := by decide +kernel
set_option maxRecDepth 65536 in
theorem w_hears : about1.hears theMethod below0 = true := by decide +kernel
set_option maxRecDepth 65536 in
theorem w_ripe : about1.ripe theMethod args0 below0 = true := by decide +kernel
theorem w_running : about1.status = .running := rfl
set_option maxRecDepth 65536 in
theorem w_room : about1.hasRoom e0.platform room_1 = true :=
  launch0.hasRoom_least _ room_1 (by decide +kernel) (by decide +kernel) (by decide +kernel) (by decide +kernel) (by decide +kernel) (by decide +kernel)
theorem allAtoms_all (ts : List Jvm.Cond) (a : Array Jvm.Value) (st : Jvm.State) : (allAtoms ts).before a st = ts.all (fun c => c.before a st) := by
  induction ts with
  | nil => rfl
  | cons c t ih =>
    show (Jvm.Cond.and c (allAtoms t)).before a st = _
    rw [Jvm.Cond.before_and, ih, List.all_cons]
def words1 : List Jvm.Cond := Jvm.Cond.code x code maxLocals ret :: tables_1
/-- a 'code' word, met by the world's own term for the bytes: nothing is compared byte by byte -/
theorem code_word {y : MethodName} {bytes : ByteArray} {mx : Nat} {rt : Option FieldType} {a : Array Value} {s : State} {m : MethodId} {meth : Method} {c : Code} (h1 : s.methodNamed? y = some m) (h2 : s.vm.method? m = some meth) (h3 : meth.code = some c) (h4 : c.code = bytes)
    (h5 : (c.maxLocals == mx && c.exceptionTable.isEmpty && decide (c.maxStack ≤ mostOperands) && decide (meth.sig.returnType = rt) && !meth.locks && decide (parseMethodDescriptor y.desc = some meth.sig)) = true) : (Jvm.Cond.code y bytes mx rt).before a s = true := by
  simp only [Bool.and_eq_true, beq_iff_eq, Bool.not_eq_true', decide_eq_true_eq] at h5
  obtain ⟨⟨⟨⟨⟨g1, g2⟩, g3⟩, g4⟩, g5⟩, g6⟩ := h5
  simp [Cond.before, Cond.holds, Cond.value, h1, h2, h3, h4, g1, g2, g3, g4, g5, g6]
def isCode : Jvm.Cond → Bool
  | .code _ _ _ _ => true
  | _ => false
theorem all_split {L : List Jvm.Cond} {P : Jvm.Cond → Bool} (h1 : L.all (fun c => isCode c || P c) = true) (h2 : ∀ c ∈ L.filter isCode, P c = true) : L.all P = true := by
  refine List.all_eq_true.mpr fun c hc => ?_
  have h := List.all_eq_true.mp h1 c hc
  rcases Bool.eq_false_or_eq_true (isCode c) with hi | hi
  · exact h2 c (List.mem_filter.mpr ⟨hc, hi⟩)
  · simpa [hi] using h
set_option maxRecDepth 65536 in
theorem w_c0 : (Jvm.Cond.code x code maxLocals ret).before args0 about1 = true := code_word (m := ⟨1, 1⟩) (meth := k1m1) (c := k1c1) (by decide +kernel) rfl rfl rfl (by decide +kernel)
set_option maxRecDepth 65536 in
theorem w_c1 : (Jvm.Cond.code ({ cls := "com/example/typub/typub/Term$Order", name := "holds", desc := "(I)Z" } : Jvm.MethodName) prog_36_method_4_code (2 : Nat) (Option.some Jvm.ClassFile.FieldType.boolean)).before args0 about1 = true := code_word (m := ⟨6, 0⟩) (meth := k6m0) (c := k6c0) (by decide +kernel) rfl rfl rfl (by decide +kernel)
set_option maxRecDepth 65536 in
theorem w_c2 : (Jvm.Cond.code ({ cls := "java/lang/Enum", name := "ordinal", desc := "()I" } : Jvm.MethodName) jdk_37_method_2_code (1 : Nat) (Option.some Jvm.ClassFile.FieldType.int)).before args0 about1 = true := code_word (m := ⟨5, 0⟩) (meth := k5m0) (c := k5c0) (by decide +kernel) rfl rfl rfl (by decide +kernel)
def codes1 : List Jvm.Cond := [Jvm.Cond.code x code maxLocals ret, Jvm.Cond.code ({ cls := "com/example/typub/typub/Term$Order", name := "holds", desc := "(I)Z" } : Jvm.MethodName) prog_36_method_4_code (2 : Nat) (Option.some Jvm.ClassFile.FieldType.boolean), Jvm.Cond.code ({ cls := "java/lang/Enum", name := "ordinal", desc := "()I" } : Jvm.MethodName) jdk_37_method_2_code (1 : Nat) (Option.some Jvm.ClassFile.FieldType.int)]
set_option maxRecDepth 65536 in
theorem codes_eq : words1.filter isCode = codes1 := rfl
theorem w_codes : ∀ c ∈ words1.filter isCode, c.before args0 about1 = true := by
  rw [codes_eq]
  intro c hc
  simp only [codes1, List.mem_cons, List.not_mem_nil, or_false] at hc
  rcases hc with rfl | rfl | rfl
  · exact w_c0
  · exact w_c1
  · exact w_c2
set_option maxRecDepth 65536 in
theorem w_t1 : words1.all (fun c => isCode c || c.before args0 about1) = true := by decide +kernel
theorem w_tables : (allAtoms (Jvm.Cond.code x code maxLocals ret :: tables_1)).before args0 about1 = true := by
  rw [allAtoms_all]
  show words1.all (fun c => c.before args0 about1) = true
  refine all_split ?_ w_codes
  rw [w_t1]
set_option maxRecDepth 65536 in
theorem w_case : (Jvm.Cond.and given_1 narrow_1).before args0 about1 = true := by decide +kernel
theorem w_applies : (headSpec (Jvm.Cond.code x code maxLocals ret :: tables_1) room_1).applies x e0.platform about1 = true :=
  (Spec.applies_iff w_frames).mpr ⟨w_running, w_runnable, w_alone, w_named, w_hears, w_ripe, w_room, w_tables⟩
theorem atStart : AtStart classFile x code maxLocals ret World_1 tables_1 room_1 Calls_1 rest_1 Pre_1 launch0 p0 e0 about1 theMethod args0 below0 :=
  ⟨lists_1, trivial, launch0.admits_env _ _ _, launch0.least_env, fairChoices_fair.cas, fairChoices_fair.clock, w_frames, w_args, w_heap, w_applies, trivial, trivial, w_case⟩
end start1
theorem witness_1 : WitnessClaimed_1 := ⟨start1.p0, start1.e0, start1.about1, start1.theMethod, start1.args0, start1.below0, start1.atStart⟩
end Jvm.Pilot.@@N@@
