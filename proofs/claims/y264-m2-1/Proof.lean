import JvmDerived
import JvmDerived.Pilot.@@N@@Statement
import JvmDerived.Pilot.@@N@@Code
set_option linter.unusedVariables false
set_option linter.unusedSimpArgs false
namespace Jvm.Pilot.@@N@@
open Jvm Jvm.ClassFile Sem Op Lib Jvm.Free Jvm.Stand Jvm.LawKit Jvm.RoadKit Bundle Jvm.Pilot.@@N@@.Jvm.D
section Own
variable {p : Program} {l : Launch} {e : Env} {R : Room} {s : State} {m : MethodId} {args : Array Value} {below : List Frame} {meth : Method} {c : Code} {T : State} {locs : List Loc} {cells slots : Nat} {Z : State} {a0 : Array Value} {h : Heap}
/-- a walk that goes forward: from S the run comes to an end of which P holds -/
def own_G (p : Program) (e : Env) (below : List Frame) (S : State) (P : Outcome → State → Prop) : Prop :=
  ∃ s₂ o, Steps p.tables e below S s₂ ∧ s₂.status = .running ∧ Ended s₂ below o ∧ P o s₂
/-- what a body leaves -/
def own_P (s : State) (Q : Option Value → Heap → List Loc → Prop) (kc ks : Nat) (o : Outcome) (U : State) : Prop := ∃ v L, o = .returned v ∧ Q v U.heap L ∧ FrameEnd s o U L kc ks
theorem oS {S S' : State} {P : Outcome → State → Prop} (k : ∀ t, Steps p.tables e below S' t → Steps p.tables e below S t) (h : own_G p e below S' P) : own_G p e below S P := by
  obtain ⟨s2, o, h1, h2⟩ := h; exact ⟨s2, o, k _ h1, h2⟩
theorem oW {Z : State} {a0 : Array Value} (hw : ∀ d ∈ tables_1, d.before a0 Z = true) (i : Nat) {d : Jvm.Cond} (q : tables_1[i]? = some d) : d.before a0 Z = true := hw _ (List.mem_of_getElem? q)
theorem own_cast {g g' : JFrame} {P : Outcome → State → Prop} (q : g = g') (k : own_G p e below (T.setTop g') P) : own_G p e below (T.setTop g) P := q ▸ k
theorem own_leave (X : Stand p l e R s m args below meth c T locs cells slots) {g : JFrame} {v : Option Value} {Q : Option Value → Heap → List Loc → Prop} {kc ks : Nat} (hlocks : meth.locks = false) (hv : meth.sig.returnType = none → v = none)
    (k : ∀ fs, (∀ (f : JFrame) (acts : List Action), f.method = m → f.locked = none → f.entered = [] → (doReturn e (T.setTop f) acts v).1 = T.setFrames fs) → Steps p.tables e below (T.setTop g) (T.setFrames fs))
    (eT : T.heap = h) (hc : cells ≤ kc) (hs : slots ≤ ks) (hq : Q v h locs) : own_G p e below (T.setTop g) (own_P s Q kc ks) := by
  obtain ⟨fs, hr, hrun, hended, hW, hsame⟩ := X.leave (v := v) hv hlocks
  exact ⟨_, _, k fs hr, hrun, hended, _, _, rfl, by show Q v T.heap locs; rw [eT]; exact hq, ⟨_, rfl⟩, hW, hsame.mono hc hs⟩
theorem own_retN (X : Stand p l e R s m args below meth c T locs cells slots) (hx : p.tables.exec = Jvm.exec) {pc : Nat} {Ls : Array Slot} {z : Int32} {t : FieldType} {rest : List Value} {Q : Option Value → Heap → List Loc → Prop} {kc ks : Nat} (hlocks : meth.locks = false) (hret : meth.sig.returnType = some t) (ht : t = .boolean ∨ t = .byte ∨ t = .char ∨ t = .short)
    (hd : decode c.code pc = .ok (.ireturn, 1)) (hn : nar t z = z) (eT : T.heap = h) (hc : cells ≤ kc) (hs : slots ≤ ks) (hq : Q (some (.int z)) h locs) : own_G p e below (T.setTop (mkF m pc Ls (.int z :: rest))) (own_P s Q kc ks) :=
  own_leave X (v := some (.int z)) hlocks (fun q => by rw [hret] at q; cases q) (fun fs hl => retN X hx hret ht hd (by rw [hn]; exact hl)) eT hc hs hq
theorem own_retI (X : Stand p l e R s m args below meth c T locs cells slots) (hx : p.tables.exec = Jvm.exec) {pc : Nat} {Ls : Array Slot} {z : Int32} {rest : List Value} {Q : Option Value → Heap → List Loc → Prop} {kc ks : Nat} (hlocks : meth.locks = false) (hret : meth.sig.returnType = some .int)
    (hd : decode c.code pc = .ok (.ireturn, 1)) (eT : T.heap = h) (hc : cells ≤ kc) (hs : slots ≤ ks) (hq : Q (some (.int z)) h locs) : own_G p e below (T.setTop (mkF m pc Ls (.int z :: rest))) (own_P s Q kc ks) :=
  own_leave X (v := some (.int z)) hlocks (fun q => by rw [hret] at q; cases q) (fun fs hl => retOut X hx hret rfl (Or.inl ⟨rfl, Or.inl rfl, _, rfl⟩) hd hl) eT hc hs hq
theorem own_retL (X : Stand p l e R s m args below meth c T locs cells slots) (hx : p.tables.exec = Jvm.exec) {pc : Nat} {Ls : Array Slot} {z : Int64} {rest : List Value} {Q : Option Value → Heap → List Loc → Prop} {kc ks : Nat} (hlocks : meth.locks = false) (hret : meth.sig.returnType = some .long)
    (hd : decode c.code pc = .ok (.lreturn, 1)) (eT : T.heap = h) (hc : cells ≤ kc) (hs : slots ≤ ks) (hq : Q (some (.long z)) h locs) : own_G p e below (T.setTop (mkF m pc Ls (.long z :: rest))) (own_P s Q kc ks) :=
  own_leave X (v := some (.long z)) hlocks (fun q => by rw [hret] at q; cases q) (fun fs hl => retOut X hx hret rfl (Or.inr (Or.inl ⟨rfl, rfl, _, rfl⟩)) hd hl) eT hc hs hq
theorem own_narR {t : FieldType} {w : Value} (h : w.isRef = true) : narrow t w = w := by
  rcases ref_cases h with rfl | ⟨a, rfl⟩ <;> cases t <;> rfl
theorem own_retA (X : Stand p l e R s m args below meth c T locs cells slots) (hx : p.tables.exec = Jvm.exec) {pc : Nat} {Ls : Array Slot} {w : Value} {t : FieldType} {rest : List Value} {Q : Option Value → Heap → List Loc → Prop} {kc ks : Nat} (hlocks : meth.locks = false) (hret : meth.sig.returnType = some t) (ht : t.isReference = true) (hw : w.isRef = true)
    (hd : decode c.code pc = .ok (.areturn, 1)) (eT : T.heap = h) (hc : cells ≤ kc) (hs : slots ≤ ks) (hq : Q (some w) h locs) : own_G p e below (T.setTop (mkF m pc Ls (w :: rest))) (own_P s Q kc ks) :=
  own_leave X (v := some w) hlocks (fun q => by rw [hret] at q; cases q) (fun fs hl => retOut X hx hret (own_narR hw) (Or.inr (Or.inr (Or.inr (Or.inr ⟨rfl, ht, hw⟩)))) hd hl) eT hc hs hq
theorem own_retV (X : Stand p l e R s m args below meth c T locs cells slots) (hx : p.tables.exec = Jvm.exec) {pc : Nat} {Ls : Array Slot} {Q : Option Value → Heap → List Loc → Prop} {kc ks : Nat} (hlocks : meth.locks = false) (hret : meth.sig.returnType = none)
    (hd : decode c.code pc = .ok (.return_, 1)) (eT : T.heap = h) (hc : cells ≤ kc) (hs : slots ≤ ks) (hq : Q none h locs) : own_G p e below (T.setTop (mkF m pc Ls [])) (own_P s Q kc ks) :=
  own_leave X (v := none) hlocks (fun _ => rfl) (fun fs hl => X.returnOut hx hret hd hl) eT hc hs hq
abbrev own_Met (l : Launch) (Z : State) (h : Heap) (y : MethodName) (bytes : ByteArray) (maxL : Nat) (ret : Option FieldType) (ws : List Jvm.Cond) (rm : Room) (as' : Array Value) (Q : Option Value → Heap → List Loc → Prop) (kc ks : Nat) : Prop :=
  MetFree l y (head1 (Jvm.Cond.code y bytes maxL ret :: ws) rm) (fun a U => a = as' ∧ Z.Warmed39 U.vm ∧ U.heap = h) (fun _ _ _ _ _ => True) (fun _ U o U' => ∃ v L, o = .returned v ∧ Q v U'.heap L ∧ FrameEnd U o U' L kc ks)
variable {own : String} {index : Nat} {y : MethodName} {bytes : ByteArray} {maxL : Nat} {ret : Option FieldType} {rm : Room} {W : Nat} {as' : Array Value} {Q : Option Value → Heap → List Loc → Prop}
abbrev own_After (p : Program) (l : Launch) (e : Env) (R : Room) (s : State) (m : MethodId) (args : Array Value) (below : List Frame) (meth : Method) (c : Code) (T : State) (locs : List Loc) (kc ks : Nat) (g : JFrame) (rest : List Value) (Q : Option Value → Heap → List Loc → Prop) (len : Nat := 3) : Prop :=
  ∃ (T' : State) (h' : Heap) (v : Option Value) (L : List Loc), Stand p l e R s m args below meth c T' (locs ++ L) kc ks ∧ T'.heap = h' ∧ Q v h' L ∧ ∀ target, Steps p.tables e below (T'.setTop { g with pc := g.pc + len, stack := v.toList ++ rest }) target → Steps p.tables e below (T.setTop g) target
theorem own_callS (X : Stand p l e R s m args below meth c T locs cells slots) (hx : p.tables.exec = Jvm.exec) (hZ : Z.Warmed39 s.vm) (hown : s.vm.findClass own = some m.cls) (eT : T.heap = h)
    (w1 : (Jvm.Cond.methodLink own index y).before a0 Z = true) (w2 : (Jvm.Cond.static y).before a0 Z = true) (w3 : (Jvm.Cond.initialized y.cls).before a0 Z = true) (w4 : (Jvm.Cond.code y bytes maxL ret).before a0 Z = true) (hy : y.cls ≠ "java/lang/invoke/MethodHandle" ∧ y.cls ≠ "java/lang/invoke/VarHandle")
    (hM : own_Met l Z h y bytes maxL ret [] rm as' Q rm.cells rm.slots)
    (hf : rm.frames + 1 ≤ R.frames) (hl : W + (maxL + 11) + rm.locals ≤ R.locals) (hc : cells + rm.cells ≤ R.cells) (hsl : slots + rm.slots ≤ R.slots)
    {g : JFrame} (hg : g.method = m) (hsize : g.locals.size = c.maxLocals) {argsL rest : List Value} (has : argsL.toArray = as') (hlen : ∀ sig, parseMethodDescriptor y.desc = some sig → argsL.length = sig.parameters.length)
    (hstack : g.stack = argsL.reverse ++ rest) (hW : 2 * g.monitorRoom + (rest.map fun v => v.category).sum ≤ W) (hd : decode c.code g.pc = .ok (.invokestatic index, 3)) :
    own_After p l e R s m args below meth c T locs (cells + rm.cells) (slots + rm.slots) g rest Q := by
  obtain ⟨v, vm1, ⟨T', L', k', n'⟩, -, X', ⟨Lc, hQ, l1, y1, z1⟩, st⟩ := Jvm.LawKit.callS X hx (y := y) hown (mvT hZ w1) (mvT hZ w2) (mvT hZ w3) (mvT hZ w4) hy (backOf (W := W) hM hZ w4 w3 hf hl) hg hsize hlen hstack hW hd (fun _ _ => ⟨has, eT, hc, hsl⟩)
  dsimp only [Pt.U, Pt.locs, Pt.cells, Pt.slots] at X' l1 y1 z1 st hQ
  subst l1 y1 z1
  exact ⟨T', _, v, Lc, X', rfl, hQ, st⟩
theorem own_callV (X : Stand p l e R s m args below meth c T locs cells slots) (hx : p.tables.exec = Jvm.exec) (hZ : Z.Warmed39 s.vm) (hown : s.vm.findClass own = some m.cls) (eT : T.heap = h) {z : MethodName} {C : String} {b : Addr}
    (w1 : (Jvm.Cond.methodLink own index y).before a0 Z = true) (w2 : (Jvm.Cond.declares y).before a0 Z = true) (nf : NotFace s y) (w3 : (Jvm.Cond.selects C y z).before a0 Z = true) (w5 : (Jvm.Cond.instanceMethod z).before a0 Z = true) (w6 : (Jvm.Cond.initialized z.cls).before a0 Z = true) (w4 : (Jvm.Cond.code z bytes maxL ret).before a0 Z = true) (hy : y.cls ≠ "java/lang/invoke/MethodHandle" ∧ y.cls ≠ "java/lang/invoke/VarHandle")
    (E : Exa Z h b C) (hM : own_Met l Z h z bytes maxL ret [] rm as' Q rm.cells rm.slots)
    (hf : rm.frames + 1 ≤ R.frames) (hl : W + (maxL + 11) + rm.locals ≤ R.locals) (hc : cells + rm.cells ≤ R.cells) (hsl : slots + rm.slots ≤ R.slots)
    {g : JFrame} (hg : g.method = m) (hsize : g.locals.size = c.maxLocals) {argsL rest : List Value} (has : (.ref b :: argsL).toArray = as') (hlen : ∀ sig, parseMethodDescriptor y.desc = some sig → argsL.length = sig.parameters.length)
    (hstack : g.stack = argsL.reverse ++ .ref b :: rest) (hW : 2 * g.monitorRoom + (rest.map fun v => v.category).sum ≤ W) (hd : decode c.code g.pc = .ok (.invokevirtual index, 3)) :
    own_After p l e R s m args below meth c T locs (cells + rm.cells) (slots + rm.slots) g rest Q := by
  obtain ⟨cq, kq, q1, q2, q3⟩ := isOf hZ eT E
  obtain ⟨v, vm1, ⟨T', L', k', n'⟩, -, X', ⟨Lc, hQ, l1, y1, z1⟩, st⟩ := X.virtualBack hx (y := y) (z := z) hown (mvT hZ w1) (mvT hZ w2) nf (mvT hZ w3) (mvT hZ w5) hy (backOf (W := W) hM hZ w4 w6 hf hl) q1 q3 hg hsize (Steps.refl _) hlen hstack hW hd (fun _ _ => ⟨has, eT, hc, hsl⟩)
  dsimp only [Pt.U, Pt.locs, Pt.cells, Pt.slots] at X' l1 y1 z1 st hQ
  subst l1 y1 z1
  exact ⟨T', _, v, Lc, X', rfl, hQ, fun _ k => st.trans k⟩
theorem own_callU (X : Stand p l e R s m args below meth c T locs cells slots) (hx : p.tables.exec = Jvm.exec) (hZ : Z.Warmed39 s.vm) (hown : s.vm.findClass own = some m.cls) (eT : T.heap = h) {z : MethodName} {C owner : String} {b : Addr}
    (w1 : (Jvm.Cond.methodLink own index y).before a0 Z = true) (w2 : (Jvm.Cond.sameMethod y.cls owner y.name y.desc).before a0 Z = true) (w7 : (Jvm.Cond.declares ⟨owner, y.name, y.desc⟩).before a0 Z = true) (w3 : (Jvm.Cond.selects C y z).before a0 Z = true) (w5 : (Jvm.Cond.instanceMethod z).before a0 Z = true) (w6 : (Jvm.Cond.initialized z.cls).before a0 Z = true) (w4 : (Jvm.Cond.code z bytes maxL ret).before a0 Z = true) (hy : owner ≠ "java/lang/invoke/MethodHandle" ∧ owner ≠ "java/lang/invoke/VarHandle")
    (E : Exa Z h b C) (hM : own_Met l Z h z bytes maxL ret [] rm as' Q rm.cells rm.slots)
    (hf : rm.frames + 1 ≤ R.frames) (hl : W + (maxL + 11) + rm.locals ≤ R.locals) (hc : cells + rm.cells ≤ R.cells) (hsl : slots + rm.slots ≤ R.slots)
    {g : JFrame} (hg : g.method = m) (hsize : g.locals.size = c.maxLocals) {argsL rest : List Value} (has : (.ref b :: argsL).toArray = as') (hlen : ∀ sig, parseMethodDescriptor y.desc = some sig → argsL.length = sig.parameters.length)
    (hstack : g.stack = argsL.reverse ++ .ref b :: rest) (hW : 2 * g.monitorRoom + (rest.map fun v => v.category).sum ≤ W) (hd : decode c.code g.pc = .ok (.invokevirtual index, 3)) :
    own_After p l e R s m args below meth c T locs (cells + rm.cells) (slots + rm.slots) g rest Q := by
  obtain ⟨cq, kq, q1, q2, q3⟩ := isOf hZ eT E
  obtain ⟨v, vm1, ⟨T', L', k', n'⟩, -, X', ⟨Lc, hQ, l1, y1, z1⟩, st⟩ := X.virtualBackUp hx (x := y) (y := z) (owner := owner) hown (mvT hZ w1) (mvT hZ w2) (mvT hZ w7) hy (mvT hZ w3) (mvT hZ w5) (backOf (W := W) hM hZ w4 w6 hf hl) q1 q3 hg hsize (Steps.refl _) hlen hstack hW hd (fun _ _ => ⟨has, eT, hc, hsl⟩)
  dsimp only [Pt.U, Pt.locs, Pt.cells, Pt.slots] at X' l1 y1 z1 st hQ
  subst l1 y1 z1
  exact ⟨T', _, v, Lc, X', rfl, hQ, fun _ k => st.trans k⟩
theorem own_callN (X : Stand p l e R s m args below meth c T locs cells slots) (hx : p.tables.exec = Jvm.exec) (hZ : Z.Warmed39 s.vm) (hown : s.vm.findClass own = some m.cls) (eT : T.heap = h) {b : Addr} (hy1 : y.name = "<init>")
    (w1 : (Jvm.Cond.methodLink own index y).before a0 Z = true) (w5 : (Jvm.Cond.instanceMethod y).before a0 Z = true) (w6 : (Jvm.Cond.initialized y.cls).before a0 Z = true) (w4 : (Jvm.Cond.code y bytes maxL none).before a0 Z = true) (hy : y.cls ≠ "java/lang/invoke/MethodHandle" ∧ y.cls ≠ "java/lang/invoke/VarHandle")
    (hM : own_Met l Z h y bytes maxL none [] rm as' Q rm.cells rm.slots)
    (hf : rm.frames + 1 ≤ R.frames) (hl : W + (maxL + 11) + rm.locals ≤ R.locals) (hc : cells + rm.cells ≤ R.cells) (hsl : slots + rm.slots ≤ R.slots)
    {g : JFrame} (hg : g.method = m) (hsize : g.locals.size = c.maxLocals) {argsL rest : List Value} (has : (.ref b :: argsL).toArray = as') (hlen : ∀ sig, parseMethodDescriptor y.desc = some sig → argsL.length = sig.parameters.length)
    (hstack : g.stack = argsL.reverse ++ .ref b :: rest) (hW : 2 * g.monitorRoom + (rest.map fun v => v.category).sum ≤ W) (hd : decode c.code g.pc = .ok (.invokespecial index, 3)) :
    own_After p l e R s m args below meth c T locs (cells + rm.cells) (slots + rm.slots) g rest Q := by
  obtain ⟨v, vm1, ⟨T', L', k', n'⟩, -, X', ⟨Lc, hQ, l1, y1, z1⟩, st⟩ := X.specialBack hx (y := y) hy1 hown (mvT hZ w1) (mvT hZ w5) (mvT hZ w4) hy (backOf (W := W) hM hZ w4 w6 hf hl) hg hsize (Steps.refl _) hlen hstack hW hd (fun _ _ => ⟨has, eT, hc, hsl⟩)
  dsimp only [Pt.U, Pt.locs, Pt.cells, Pt.slots] at X' l1 y1 z1 st hQ
  subst l1 y1 z1
  exact ⟨T', _, v, Lc, X', rfl, hQ, fun _ k => st.trans k⟩
theorem own_callI (X : Stand p l e R s m args below meth c T locs cells slots) (hx : p.tables.exec = Jvm.exec) (hZ : Z.Warmed39 s.vm) (hown : s.vm.findClass own = some m.cls) (eT : T.heap = h) {z : MethodName} {C : String} {b : Addr} {count : Nat}
    (w1 : (Jvm.Cond.methodLink own index y).before a0 Z = true) (w2 : (Jvm.Cond.declares y).before a0 Z = true) (w7 : (Jvm.Cond.interfaceMethod y.cls y.cls y.name y.desc).before a0 Z = true) (h7 : ((Jvm.Cond.interfaceMethod y.cls y.cls y.name y.desc).onTables && (Jvm.Cond.interfaceMethod y.cls y.cls y.name y.desc).keepsFace) = true) (w3 : (Jvm.Cond.selects C y z).before a0 Z = true) (w5 : (Jvm.Cond.instanceMethod z).before a0 Z = true) (w8 : (Jvm.Cond.publicMethod z).before a0 Z = true) (w9 : (Jvm.Cond.unhidden C y.name y.desc).before a0 Z = true) (w10 : (Jvm.Cond.castable C y.cls).before a0 Z = true) (w6 : (Jvm.Cond.initialized z.cls).before a0 Z = true) (w4 : (Jvm.Cond.code z bytes maxL ret).before a0 Z = true) (hy : y.cls ≠ "java/lang/invoke/MethodHandle" ∧ y.cls ≠ "java/lang/invoke/VarHandle")
    (E : Exa Z h b C) (hM : own_Met l Z h z bytes maxL ret [] rm as' Q rm.cells rm.slots)
    (hf : rm.frames + 1 ≤ R.frames) (hl : W + (maxL + 11) + rm.locals ≤ R.locals) (hc : cells + rm.cells ≤ R.cells) (hsl : slots + rm.slots ≤ R.slots)
    {g : JFrame} (hg : g.method = m) (hsize : g.locals.size = c.maxLocals) {argsL rest : List Value} (has : (.ref b :: argsL).toArray = as') (hlen : ∀ sig, parseMethodDescriptor y.desc = some sig → argsL.length = sig.parameters.length)
    (hstack : g.stack = argsL.reverse ++ .ref b :: rest) (hW : 2 * g.monitorRoom + (rest.map fun v => v.category).sum ≤ W) (hd : decode c.code g.pc = .ok (.invokeinterface index count, 5)) :
    own_After p l e R s m args below meth c T locs (cells + rm.cells) (slots + rm.slots) g rest Q 5 := by
  obtain ⟨cq, kq, q1, q2, q3⟩ := isOf hZ eT E
  obtain ⟨v, vm1, ⟨T', L', k', n'⟩, -, X', ⟨Lc, hQ, l1, y1, z1⟩, st⟩ := X.interfaceBack hx (xi := y) (y := z) hown (mvT hZ w1) (mvT hZ w2) (mvT hZ w7 h7) (mvT hZ w3) (mvT hZ w5) (mvT hZ w8) (mvT hZ w9) (mvT hZ w10) hy (backOf (W := W) hM hZ w4 w6 hf hl) q1 q2 q3 hg hsize (Steps.refl _) hlen hstack hW hd (fun _ _ => ⟨has, eT, hc, hsl⟩)
  dsimp only [Pt.U, Pt.locs, Pt.cells, Pt.slots] at X' l1 y1 z1 st hQ
  subst l1 y1 z1
  exact ⟨T', _, v, Lc, X', rfl, hQ, fun _ k => st.trans k⟩
theorem own_callP (X : Stand p l e R s m args below meth c T locs cells slots) (hx : p.tables.exec = Jvm.exec) (hZ : Z.Warmed39 s.vm) (hown : s.vm.findClass own = some m.cls) (eT : T.heap = h) {b : Addr} {C : String}
    (w1 : (Jvm.Cond.methodLink own index y).before a0 Z = true) (w5 : (Jvm.Cond.instanceMethod y).before a0 Z = true) (w3 : (Jvm.Cond.selects y.cls y y).before a0 Z = true) (w7 : (Jvm.Cond.privateMethod y).before a0 Z = true) (w6 : (Jvm.Cond.initialized y.cls).before a0 Z = true) (w4 : (Jvm.Cond.code y bytes maxL ret).before a0 Z = true) (hy : y.cls ≠ "java/lang/invoke/MethodHandle" ∧ y.cls ≠ "java/lang/invoke/VarHandle")
    (E : Exa Z h b C) (hM : own_Met l Z h y bytes maxL ret [] rm as' Q rm.cells rm.slots)
    (hf : rm.frames + 1 ≤ R.frames) (hl : W + (maxL + 11) + rm.locals ≤ R.locals) (hc : cells + rm.cells ≤ R.cells) (hsl : slots + rm.slots ≤ R.slots)
    {g : JFrame} (hg : g.method = m) (hsize : g.locals.size = c.maxLocals) {argsL rest : List Value} (has : (.ref b :: argsL).toArray = as') (hlen : ∀ sig, parseMethodDescriptor y.desc = some sig → argsL.length = sig.parameters.length)
    (hstack : g.stack = argsL.reverse ++ .ref b :: rest) (hW : 2 * g.monitorRoom + (rest.map fun v => v.category).sum ≤ W) (hd : decode c.code g.pc = .ok (.invokevirtual index, 3)) :
    own_After p l e R s m args below meth c T locs (cells + rm.cells) (slots + rm.slots) g rest Q := by
  obtain ⟨cell, hcell, hobj⟩ := E.cell
  obtain ⟨v, vm1, ⟨T', L', k', n'⟩, -, X', ⟨Lc, hQ, l1, y1, z1⟩, st⟩ := X.privateBack hx (y := y) hown (mvT hZ w1) (mvT hZ w5) (mvT hZ w3) (Cond.privateMethod_at (mvP (args := #[]) hZ w7)) (mvT hZ w4) hy (backOf (W := W) hM hZ w4 w6 hf hl) hg hsize (Steps.refl _) (by rw [eT]; exact hcell) hobj hlen hstack hW hd (fun _ _ => ⟨has, eT, hc, hsl⟩)
  dsimp only [Pt.U, Pt.locs, Pt.cells, Pt.slots] at X' l1 y1 z1 st hQ
  subst l1 y1 z1
  exact ⟨T', _, v, Lc, X', rfl, hQ, fun _ k => st.trans k⟩
theorem own_lsw (X : Stand p l e R s m args below meth c T locs cells slots) (hx : p.tables.exec = Jvm.exec) {g : JFrame} (hg : g.method = m) {k : Int32} {rest : List Value} (hs : g.stack = .int k :: rest) {dflt : Int} {pairs : Array (Int × Int)} {len : Nat} (hd : decode c.code g.pc = .ok (.lookupswitch dflt pairs, len))
    (hsorted : (pairs.toList.zip (pairs.toList.drop 1)).all (fun (a, next) => a.1 < next.1) = true) {a off : Int} (hfind : pairs.find? (·.1 == k.toInt) = some (a, off)) {pc0 pc' : Nat} (hpc : g.pc = pc0) (ho : 0 ≤ (pc0 : Int) + off) (hp : ((pc0 : Int) + off).toNat = pc') :
    ∀ t, Steps p.tables e below (T.setTop { g with pc := pc', stack := rest }) t → Steps p.tables e below (T.setTop g) t := by
  subst hpc hp; exact fun t hr => X.lookupswitchHit hx hg hs hd hsorted hfind ho t hr
theorem own_rne {a b : Addr} (h : a ≠ b) : ¬ (Value.ref a = Value.ref b) := fun q => h (Value.ref.inj q)
def own_pl : Value → Bool
  | .int _ => true
  | .ref _ => true
  | .null => true
  | .long _ => true
  | _ => false
theorem own_eqv {args : Array Value} {f : State} {o : Option Outcome} {idx : List Nat} {t u : Term} {x y : Value} (ha : t.eval args f o idx s = some x) (hb : u.eval args f o idx s = some y) (h : (Jvm.Cond.eq t u).value args f o s idx = some true) (hk : own_pl y = true := by rfl) : x = y := by
  cases x <;> cases y <;> simp [Jvm.Cond.value, ha, hb, own_pl] at h hk ⊢ <;> first | exact h | exact h.symm
theorem own_fv {args : Array Value} {t u : Term} {O n d : String} {a : Addr} {y : Value} (ht : t.eval args s none [] s = some (.ref a)) (hu : u.eval args s none [] s = some y) (h : (Jvm.Cond.eq (.field t O n d) u).value args s none s [] = some true) (hk : own_pl y = true := by rfl) : Fld s s.heap a O n d y := by
  obtain ⟨x, y', e1, e2, -, -⟩ := cmp_v (Or.inl h)
  have q := own_eqv e1 hu h hk
  subst q
  exact Fld.start ((fld_at ht).symm.trans e1)
end Own
theorem own_ef0 (m : MethodId) (x0 : Int32) (x1 : Int64) : entryFrame m #[(.int x0), (.long x1)] maxLocals = mkF m 0 #[.val (.int x0), .val (.long x1), .second, .unset, .unset, .unset, .unset, .unset, .unset, .unset, .unset] [] := by first | (simp [entryFrame, mkF, argsToLocals, Value.category, maxLocals]; done) | rfl
theorem own_ef1 (m : MethodId) (x0 : Int64) (x1 : Int64) : entryFrame m #[(.long x0), (.long x1)] 4 = mkF m 0 #[.val (.long x0), .second, .val (.long x1), .second] [] := by first | (simp [entryFrame, mkF, argsToLocals, Value.category]; done) | rfl
theorem dd0_0 : decode jdk_29_method_66_code 0 = .ok (.lload_n 0, 1) := by decide +kernel
theorem dd0_1 : decode jdk_29_method_66_code 1 = .ok (.lload_n 2, 1) := by decide +kernel
theorem dd0_2 : decode jdk_29_method_66_code 2 = .ok (.lcmp, 1) := by decide +kernel
theorem dd0_3 : decode jdk_29_method_66_code 3 = .ok (.ifCond .lt 7, 3) := by decide +kernel
theorem dd0_10 : decode jdk_29_method_66_code 10 = .ok (.lload_n 2, 1) := by decide +kernel
theorem dd0_11 : decode jdk_29_method_66_code 11 = .ok (.lreturn, 1) := by decide +kernel
theorem dd0_6 : decode jdk_29_method_66_code 6 = .ok (.lload_n 0, 1) := by decide +kernel
theorem dd0_7 : decode jdk_29_method_66_code 7 = .ok (.goto 4, 3) := by decide +kernel
def own_Q2 (Z : State) (lo_2 : Int64) (h0 : Heap) (n0 : Nat) (v : Option Value) (h : Heap) (L : List Loc) : Prop := ((1 < (lo_2 &&& 9223372036854775807)) ∧ v = some (.long (lo_2 &&& 9223372036854775807)) ∧ Fr n0 L ∧ h = h0) ∨ (¬ (1 < (lo_2 &&& 9223372036854775807)) ∧ v = some (.long 1) ∧ Fr n0 L ∧ h = h0)
theorem own_pn0 : plainFor (⟨"java/lang/Math", "max", "(JJ)J"⟩ : MethodName) = true := by decide +kernel
set_option maxRecDepth 65536 in
set_option maxHeartbeats 40000000 in
theorem own_rm2 (l : Launch) (Z : State) (a0 : Array Value) (hw : ∀ d ∈ tables_1, d.before a0 Z = true) (ws : List Jvm.Cond) (lo_2 : Int64) (h0 : Heap) (n0 : Nat) (Z0 : n0 ≤ h0.size) (O0 : Old Z n0 h0)  :
    own_Met l Z h0 (⟨"java/lang/Math", "max", "(JJ)J"⟩ : MethodName) jdk_29_method_66_code 4 (Option.some FieldType.long) ws ({ frames := 0, cells := 0, slots := 0, locals := 0 } : Room) #[(.long 1), (.long (lo_2 &&& 9223372036854775807))] (own_Q2 Z lo_2 h0 n0) 0 0 := by
  refine MetFree.of_bodySF own_pn0 hisR ?_
  intro p e s m args below meth c s₁ Bd hml0 hP hK
  obtain ⟨rfl, hZ, hh⟩ := hP
  have hx := Bd.exec
  have hby := Bd.bytes
  have hml : c.maxLocals = 4 := hml0
  have hown : s.vm.findClass "java/lang/Math" = some m.cls := findClass_of_methodNamed Bd.named
  have hnm := (name_of_methodNamed Bd.named Bd.method).1
  have X0 : Stand p l e ({ frames := 0, cells := 0, slots := 0, locals := 0 } : Room) s m #[(.long 1), (.long (lo_2 &&& 9223372036854775807))] below meth c s₁ [] 0 0 := Stand.of_body Bd
  have e0 : s₁.heap = h0 := by rw [← hh, Bd.state]; rfl
  have N0 := Fr.nil n0
  show own_G p e below (s₁.setTop (entryFrame m #[(.long 1), (.long (lo_2 &&& 9223372036854775807))] 4)) (own_P s (own_Q2 Z lo_2 h0 n0) 0 0)
  refine own_cast (own_ef1 m 1 (lo_2 &&& 9223372036854775807)) ?_
  show own_G p e below (s₁.setTop (mkF m 0 #[.val (.long 1), .second, .val (.long (lo_2 &&& 9223372036854775807)), .second] [])) _
  refine oS (fun _ => XT.lloadN X0.here hx rfl (hb hby dd0_0) rfl) ?_
  refine oS (fun _ => XT.lloadN X0.here hx rfl (hb hby dd0_1) rfl) ?_
  refine oS (fun _ => XT.lcmp X0.here hx rfl (hb hby dd0_2) rfl) ?_
  by_cases b5 : 1 < (lo_2 &&& 9223372036854775807)
  · skip
    refine oS (fun _ => XS.ifYes X0.here hx rfl (pc0 := 3) (pc' := 10) rfl (hb hby dd0_3) rfl (XT.ll_lt_t b5) (by decide) (by decide)) ?_
    show own_G p e below (s₁.setTop (mkF m 10 #[.val (.long 1), .second, .val (.long (lo_2 &&& 9223372036854775807)), .second] [])) _
    refine oS (fun _ => XT.lloadN X0.here hx rfl (hb hby dd0_10) rfl) ?_
    exact own_retL X0 hx Bd.notSynchronized Bd.returns (hb hby dd0_11) e0 (by decide) (by decide) (Or.inl ⟨b5, rfl, N0, rfl⟩)
  · skip
    refine oS (fun _ => XS.ifNo X0.here hx rfl (hb hby dd0_3) rfl (XT.ll_lt_f b5)) ?_
    show own_G p e below (s₁.setTop (mkF m 6 #[.val (.long 1), .second, .val (.long (lo_2 &&& 9223372036854775807)), .second] [])) _
    refine oS (fun _ => XT.lloadN X0.here hx rfl (hb hby dd0_6) rfl) ?_
    refine oS (fun _ => XS.goto X0.here hx rfl (pc0 := 7) (pc' := 11) rfl (hb hby dd0_7) (by decide) (by decide)) ?_
    show own_G p e below (s₁.setTop (mkF m 11 #[.val (.long 1), .second, .val (.long (lo_2 &&& 9223372036854775807)), .second] [(.long 1)])) _
    exact own_retL X0 hx Bd.notSynchronized Bd.returns (hb hby dd0_11) e0 (by decide) (by decide) (Or.inr (⟨b5, rfl, N0, rfl⟩))
theorem own_pd0 : parseMethodDescriptor "(JJ)J" = some ⟨[.long, .long], (some .long)⟩ := by decide +kernel
theorem own_ef2 (m : MethodId) (x0 : Addr) (x1 : Int64) : entryFrame m #[(.ref x0), (.long x1)] 3 = mkF m 0 #[.val (.ref x0), .val (.long x1), .second] [] := by first | (simp [entryFrame, mkF, argsToLocals, Value.category]; done) | rfl
theorem dd1_0 : decode prog_1_method_5_code 0 = .ok (.aload_n 0, 1) := by decide +kernel
theorem own_ef3 (m : MethodId) (x0 : Addr) : entryFrame m #[(.ref x0)] 1 = mkF m 0 #[.val (.ref x0)] [] := by first | (simp [entryFrame, mkF, argsToLocals, Value.category]; done) | rfl
theorem dd2_0 : decode jdk_37_method_2_code 0 = .ok (.aload_n 0, 1) := by decide +kernel
theorem dd2_1 : decode jdk_37_method_2_code 1 = .ok (.getfield 7, 3) := by decide +kernel
theorem dd2_4 : decode jdk_37_method_2_code 4 = .ok (.ireturn, 1) := by decide +kernel
def own_Q4 (Z : State) (ob_3 : Addr) (h0 : Heap) (n0 : Nat) (v : Option Value) (h : Heap) (L : List Loc) : Prop := (v = some (.int 1) ∧ Fr n0 L ∧ h = h0)
theorem own_pn1 : plainFor (⟨"java/lang/Enum", "ordinal", "()I"⟩ : MethodName) = true := by decide +kernel
set_option maxRecDepth 65536 in
set_option maxHeartbeats 40000000 in
theorem own_rm4 (l : Launch) (Z : State) (a0 : Array Value) (hw : ∀ d ∈ tables_1, d.before a0 Z = true) (ws : List Jvm.Cond) (ob_3 : Addr) (h0 : Heap) (n0 : Nat) (Z0 : n0 ≤ h0.size) (O0 : Old Z n0 h0) (I31 : Fld Z Z.heap ob_3 "java/lang/Enum" "ordinal" "I" (.int 1)) :
    own_Met l Z h0 (⟨"java/lang/Enum", "ordinal", "()I"⟩ : MethodName) jdk_37_method_2_code 1 (Option.some FieldType.int) ws ({ frames := 0, cells := 0, slots := 0, locals := 0 } : Room) #[(.ref ob_3)] (own_Q4 Z ob_3 h0 n0) 0 0 := by
  refine MetFree.of_bodySF own_pn1 hisR ?_
  intro p e s m args below meth c s₁ Bd hml0 hP hK
  obtain ⟨rfl, hZ, hh⟩ := hP
  have hx := Bd.exec
  have hby := Bd.bytes
  have hml : c.maxLocals = 1 := hml0
  have hown : s.vm.findClass "java/lang/Enum" = some m.cls := findClass_of_methodNamed Bd.named
  have hnm := (name_of_methodNamed Bd.named Bd.method).1
  have X0 : Stand p l e ({ frames := 0, cells := 0, slots := 0, locals := 0 } : Room) s m #[(.ref ob_3)] below meth c s₁ [] 0 0 := Stand.of_body Bd
  have e0 : s₁.heap = h0 := by rw [← hh, Bd.state]; rfl
  have N0 := Fr.nil n0
  show own_G p e below (s₁.setTop (entryFrame m #[(.ref ob_3)] 1)) (own_P s (own_Q4 Z ob_3 h0 n0) 0 0)
  refine own_cast (own_ef3 m ob_3) ?_
  show own_G p e below (s₁.setTop (mkF m 0 #[rv ob_3] [])) _
  refine oS (fun _ => XS.aloadN X0.here hx rfl (hb hby dd2_0) rfl rfl) ?_
  have F32 : Fld Z h0 ob_3 "java/lang/Enum" "ordinal" "I" (.int 1) := Fld.ext O0.2 I31
  obtain ⟨T33, X34, e35, s36⟩ := getF X0 hx hZ hown (host := "") (Or.inl (oW hw 20 rfl)) Via.refl e0 F32 (g := (mkF m 1 #[rv ob_3] [(.ref ob_3)])) rfl rfl (hb hby dd2_1)
  refine oS s36 ?_
  show own_G p e below (T33.setTop (mkF m 4 #[rv ob_3] [(.int 1)])) _
  exact own_retI X34 hx Bd.notSynchronized Bd.returns (hb hby dd2_4) e35 (by decide) (by decide) (⟨rfl, N0, rfl⟩)
theorem own_pd1 : parseMethodDescriptor "()I" = some ⟨[], (some .int)⟩ := by decide +kernel
theorem dd1_1 : decode prog_1_method_5_code 1 = .ok (.invokevirtual 33, 3) := by decide +kernel
theorem dd1_4 : decode prog_1_method_5_code 4 = .ok (.lookupswitch 28 #[(0, 38), (1, 42)], 28) := by decide +kernel
theorem dd1_46 : decode prog_1_method_5_code 46 = .ok (.lconst 1, 1) := by decide +kernel
theorem dd1_47 : decode prog_1_method_5_code 47 = .ok (.lreturn, 1) := by decide +kernel
def own_Q3 (Z : State) (ob_3 : Addr) (lo_2 : Int64) (h0 : Heap) (n0 : Nat) (v : Option Value) (h : Heap) (L : List Loc) : Prop := (v = some (.long 1) ∧ Fr n0 L ∧ h = h0)
theorem own_pn2 : plainFor (⟨"com/example/keelrate/keelrate/Averaging", "weight", "(J)J"⟩ : MethodName) = true := by decide +kernel
set_option maxRecDepth 65536 in
set_option maxHeartbeats 40000000 in
theorem own_rm3 (l : Launch) (Z : State) (a0 : Array Value) (hw : ∀ d ∈ tables_1, d.before a0 Z = true) (ws : List Jvm.Cond) (ob_3 : Addr) (lo_2 : Int64) (h0 : Heap) (n0 : Nat) (Z0 : n0 ≤ h0.size) (O0 : Old Z n0 h0) (I30 : Fld Z Z.heap ob_3 "java/lang/Enum" "ordinal" "I" (.int 1)) (I46 : Exa Z Z.heap ob_3 "com/example/keelrate/keelrate/Averaging") :
    own_Met l Z h0 (⟨"com/example/keelrate/keelrate/Averaging", "weight", "(J)J"⟩ : MethodName) prog_1_method_5_code 3 (Option.some FieldType.long) ws ({ frames := 1, cells := 0, slots := 0, locals := 12 } : Room) #[(.ref ob_3), (.long (lo_2 &&& 9223372036854775807))] (own_Q3 Z ob_3 lo_2 h0 n0) 0 0 := by
  refine MetFree.of_bodySF own_pn2 hisR ?_
  intro p e s m args below meth c s₁ Bd hml0 hP hK
  obtain ⟨rfl, hZ, hh⟩ := hP
  have hx := Bd.exec
  have hby := Bd.bytes
  have hml : c.maxLocals = 3 := hml0
  have hown : s.vm.findClass "com/example/keelrate/keelrate/Averaging" = some m.cls := findClass_of_methodNamed Bd.named
  have hnm := (name_of_methodNamed Bd.named Bd.method).1
  have X0 : Stand p l e ({ frames := 1, cells := 0, slots := 0, locals := 12 } : Room) s m #[(.ref ob_3), (.long (lo_2 &&& 9223372036854775807))] below meth c s₁ [] 0 0 := Stand.of_body Bd
  have e0 : s₁.heap = h0 := by rw [← hh, Bd.state]; rfl
  have N0 := Fr.nil n0
  show own_G p e below (s₁.setTop (entryFrame m #[(.ref ob_3), (.long (lo_2 &&& 9223372036854775807))] 3)) (own_P s (own_Q3 Z ob_3 lo_2 h0 n0) 0 0)
  refine own_cast (own_ef2 m ob_3 (lo_2 &&& 9223372036854775807)) ?_
  show own_G p e below (s₁.setTop (mkF m 0 #[rv ob_3, .val (.long (lo_2 &&& 9223372036854775807)), .second] [])) _
  refine oS (fun _ => XS.aloadN X0.here hx rfl (hb hby dd1_0) rfl rfl) ?_
  have F47 : Exa Z h0 ob_3 "com/example/keelrate/keelrate/Averaging" := Exa.ext O0.2 I46
  obtain ⟨T37, h38, v39, L40, X41, e42, q43, s44⟩ := own_callU X0 hx hZ hown e0 (y := (⟨"com/example/keelrate/keelrate/Averaging", "ordinal", "()I"⟩ : MethodName)) (z := (⟨"java/lang/Enum", "ordinal", "()I"⟩ : MethodName)) (C := "com/example/keelrate/keelrate/Averaging") (owner := "java/lang/Enum") (b := ob_3) (oW hw 13 rfl) (oW hw 14 rfl) (oW hw 15 rfl) (oW hw 17 rfl) (oW hw 16 rfl) (oW hw 18 rfl) (oW hw 19 rfl) (by decide) F47 (W := 0) (own_rm4 l Z a0 hw [] ob_3 h0 n0 Z0 O0 I30) (by decide) (by decide) (by decide) (by decide) (g := (mkF m 1 #[rv ob_3, .val (.long (lo_2 &&& 9223372036854775807)), .second] [(.ref ob_3)])) rfl (by rw [hml]; rfl) (argsL := []) (rest := []) rfl (lenOf own_pd1 rfl) rfl (by show 2 * 0 + _ ≤ _; exact Nat.le_of_eq rfl) (hb hby dd1_1)
  refine oS s44 ?_
  obtain ⟨rfl, N48, K49⟩ := q43
  have N50 := Fr.app N0 N48
  have e51 := e42.trans K49
  show own_G p e below (T37.setTop (mkF m 4 #[rv ob_3, .val (.long (lo_2 &&& 9223372036854775807)), .second] [(.int 1)])) _
  have u52 : ∀ t, Steps p.tables e below (T37.setTop (mkF m 46 #[rv ob_3, .val (.long (lo_2 &&& 9223372036854775807)), .second] [])) t → Steps p.tables e below (T37.setTop (mkF m 4 #[rv ob_3, .val (.long (lo_2 &&& 9223372036854775807)), .second] [(.int 1)])) t := fun t hr => own_lsw X41 hx (g := (mkF m 4 #[rv ob_3, .val (.long (lo_2 &&& 9223372036854775807)), .second] [(.int 1)])) rfl (k := 1) rfl (hb hby dd1_4) (by decide +kernel) (a := 1) (off := 42) (by decide +kernel) (pc0 := 4) (pc' := 46) rfl (by decide) (by decide) t hr
  refine oS u52 ?_
  refine oS (fun _ => XT.lconst X41.here hx rfl (hb hby dd1_46) ) ?_
  exact own_retL X41 hx Bd.notSynchronized Bd.returns (hb hby dd1_47) e51 (by decide) (by decide) (⟨rfl, N50, rfl⟩)
theorem own_pd2 : parseMethodDescriptor "(J)J" = some ⟨[.long], (some .long)⟩ := by decide +kernel
def own_Q6 (Z : State) (ob_4 : Addr) (h0 : Heap) (n0 : Nat) (v : Option Value) (h : Heap) (L : List Loc) : Prop := (v = some (.int 0) ∧ Fr n0 L ∧ h = h0)
set_option maxRecDepth 65536 in
set_option maxHeartbeats 40000000 in
theorem own_rm6 (l : Launch) (Z : State) (a0 : Array Value) (hw : ∀ d ∈ tables_1, d.before a0 Z = true) (ws : List Jvm.Cond) (ob_4 : Addr) (h0 : Heap) (n0 : Nat) (Z0 : n0 ≤ h0.size) (O0 : Old Z n0 h0) (I74 : Fld Z Z.heap ob_4 "java/lang/Enum" "ordinal" "I" (.int 0)) :
    own_Met l Z h0 (⟨"java/lang/Enum", "ordinal", "()I"⟩ : MethodName) jdk_37_method_2_code 1 (Option.some FieldType.int) ws ({ frames := 0, cells := 0, slots := 0, locals := 0 } : Room) #[(.ref ob_4)] (own_Q6 Z ob_4 h0 n0) 0 0 := by
  refine MetFree.of_bodySF own_pn1 hisR ?_
  intro p e s m args below meth c s₁ Bd hml0 hP hK
  obtain ⟨rfl, hZ, hh⟩ := hP
  have hx := Bd.exec
  have hby := Bd.bytes
  have hml : c.maxLocals = 1 := hml0
  have hown : s.vm.findClass "java/lang/Enum" = some m.cls := findClass_of_methodNamed Bd.named
  have hnm := (name_of_methodNamed Bd.named Bd.method).1
  have X0 : Stand p l e ({ frames := 0, cells := 0, slots := 0, locals := 0 } : Room) s m #[(.ref ob_4)] below meth c s₁ [] 0 0 := Stand.of_body Bd
  have e0 : s₁.heap = h0 := by rw [← hh, Bd.state]; rfl
  have N0 := Fr.nil n0
  show own_G p e below (s₁.setTop (entryFrame m #[(.ref ob_4)] 1)) (own_P s (own_Q6 Z ob_4 h0 n0) 0 0)
  refine own_cast (own_ef3 m ob_4) ?_
  show own_G p e below (s₁.setTop (mkF m 0 #[rv ob_4] [])) _
  refine oS (fun _ => XS.aloadN X0.here hx rfl (hb hby dd2_0) rfl rfl) ?_
  have F75 : Fld Z h0 ob_4 "java/lang/Enum" "ordinal" "I" (.int 0) := Fld.ext O0.2 I74
  obtain ⟨T76, X77, e78, s79⟩ := getF X0 hx hZ hown (host := "") (Or.inl (oW hw 20 rfl)) Via.refl e0 F75 (g := (mkF m 1 #[rv ob_4] [(.ref ob_4)])) rfl rfl (hb hby dd2_1)
  refine oS s79 ?_
  show own_G p e below (T76.setTop (mkF m 4 #[rv ob_4] [(.int 0)])) _
  exact own_retI X77 hx Bd.notSynchronized Bd.returns (hb hby dd2_4) e78 (by decide) (by decide) (⟨rfl, N0, rfl⟩)
theorem dd1_42 : decode prog_1_method_5_code 42 = .ok (.lload_n 1, 1) := by decide +kernel
theorem dd1_43 : decode prog_1_method_5_code 43 = .ok (.goto 4, 3) := by decide +kernel
def own_Q5 (Z : State) (ob_4 : Addr) (lo_2 : Int64) (h0 : Heap) (n0 : Nat) (v : Option Value) (h : Heap) (L : List Loc) : Prop := (v = some (.long (lo_2 &&& 9223372036854775807)) ∧ Fr n0 L ∧ h = h0)
set_option maxRecDepth 65536 in
set_option maxHeartbeats 40000000 in
theorem own_rm5 (l : Launch) (Z : State) (a0 : Array Value) (hw : ∀ d ∈ tables_1, d.before a0 Z = true) (ws : List Jvm.Cond) (ob_4 : Addr) (lo_2 : Int64) (h0 : Heap) (n0 : Nat) (Z0 : n0 ≤ h0.size) (O0 : Old Z n0 h0) (I73 : Fld Z Z.heap ob_4 "java/lang/Enum" "ordinal" "I" (.int 0)) (I89 : Exa Z Z.heap ob_4 "com/example/keelrate/keelrate/Averaging") :
    own_Met l Z h0 (⟨"com/example/keelrate/keelrate/Averaging", "weight", "(J)J"⟩ : MethodName) prog_1_method_5_code 3 (Option.some FieldType.long) ws ({ frames := 1, cells := 0, slots := 0, locals := 12 } : Room) #[(.ref ob_4), (.long (lo_2 &&& 9223372036854775807))] (own_Q5 Z ob_4 lo_2 h0 n0) 0 0 := by
  refine MetFree.of_bodySF own_pn2 hisR ?_
  intro p e s m args below meth c s₁ Bd hml0 hP hK
  obtain ⟨rfl, hZ, hh⟩ := hP
  have hx := Bd.exec
  have hby := Bd.bytes
  have hml : c.maxLocals = 3 := hml0
  have hown : s.vm.findClass "com/example/keelrate/keelrate/Averaging" = some m.cls := findClass_of_methodNamed Bd.named
  have hnm := (name_of_methodNamed Bd.named Bd.method).1
  have X0 : Stand p l e ({ frames := 1, cells := 0, slots := 0, locals := 12 } : Room) s m #[(.ref ob_4), (.long (lo_2 &&& 9223372036854775807))] below meth c s₁ [] 0 0 := Stand.of_body Bd
  have e0 : s₁.heap = h0 := by rw [← hh, Bd.state]; rfl
  have N0 := Fr.nil n0
  show own_G p e below (s₁.setTop (entryFrame m #[(.ref ob_4), (.long (lo_2 &&& 9223372036854775807))] 3)) (own_P s (own_Q5 Z ob_4 lo_2 h0 n0) 0 0)
  refine own_cast (own_ef2 m ob_4 (lo_2 &&& 9223372036854775807)) ?_
  show own_G p e below (s₁.setTop (mkF m 0 #[rv ob_4, .val (.long (lo_2 &&& 9223372036854775807)), .second] [])) _
  refine oS (fun _ => XS.aloadN X0.here hx rfl (hb hby dd1_0) rfl rfl) ?_
  have F90 : Exa Z h0 ob_4 "com/example/keelrate/keelrate/Averaging" := Exa.ext O0.2 I89
  obtain ⟨T80, h81, v82, L83, X84, e85, q86, s87⟩ := own_callU X0 hx hZ hown e0 (y := (⟨"com/example/keelrate/keelrate/Averaging", "ordinal", "()I"⟩ : MethodName)) (z := (⟨"java/lang/Enum", "ordinal", "()I"⟩ : MethodName)) (C := "com/example/keelrate/keelrate/Averaging") (owner := "java/lang/Enum") (b := ob_4) (oW hw 13 rfl) (oW hw 14 rfl) (oW hw 15 rfl) (oW hw 17 rfl) (oW hw 16 rfl) (oW hw 18 rfl) (oW hw 19 rfl) (by decide) F90 (W := 0) (own_rm6 l Z a0 hw [] ob_4 h0 n0 Z0 O0 I73) (by decide) (by decide) (by decide) (by decide) (g := (mkF m 1 #[rv ob_4, .val (.long (lo_2 &&& 9223372036854775807)), .second] [(.ref ob_4)])) rfl (by rw [hml]; rfl) (argsL := []) (rest := []) rfl (lenOf own_pd1 rfl) rfl (by show 2 * 0 + _ ≤ _; exact Nat.le_of_eq rfl) (hb hby dd1_1)
  refine oS s87 ?_
  obtain ⟨rfl, N91, K92⟩ := q86
  have N93 := Fr.app N0 N91
  have e94 := e85.trans K92
  show own_G p e below (T80.setTop (mkF m 4 #[rv ob_4, .val (.long (lo_2 &&& 9223372036854775807)), .second] [(.int 0)])) _
  have u95 : ∀ t, Steps p.tables e below (T80.setTop (mkF m 42 #[rv ob_4, .val (.long (lo_2 &&& 9223372036854775807)), .second] [])) t → Steps p.tables e below (T80.setTop (mkF m 4 #[rv ob_4, .val (.long (lo_2 &&& 9223372036854775807)), .second] [(.int 0)])) t := fun t hr => own_lsw X84 hx (g := (mkF m 4 #[rv ob_4, .val (.long (lo_2 &&& 9223372036854775807)), .second] [(.int 0)])) rfl (k := 0) rfl (hb hby dd1_4) (by decide +kernel) (a := 0) (off := 38) (by decide +kernel) (pc0 := 4) (pc' := 42) rfl (by decide) (by decide) t hr
  refine oS u95 ?_
  refine oS (fun _ => XT.lloadN X84.here hx rfl (hb hby dd1_42) rfl) ?_
  refine oS (fun _ => XS.goto X84.here hx rfl (pc0 := 43) (pc' := 47) rfl (hb hby dd1_43) (by decide) (by decide)) ?_
  show own_G p e below (T80.setTop (mkF m 47 #[rv ob_4, .val (.long (lo_2 &&& 9223372036854775807)), .second] [(.long (lo_2 &&& 9223372036854775807))])) _
  exact own_retL X84 hx Bd.notSynchronized Bd.returns (hb hby dd1_47) e94 (by decide) (by decide) (⟨rfl, N93, rfl⟩)
def own_Q7 (Z : State) (ob_3 : Addr) (h0 : Heap) (n0 : Nat) (v : Option Value) (h : Heap) (L : List Loc) : Prop := (v = some (.long 1) ∧ Fr n0 L ∧ h = h0)
set_option maxRecDepth 65536 in
set_option maxHeartbeats 40000000 in
theorem own_rm7 (l : Launch) (Z : State) (a0 : Array Value) (hw : ∀ d ∈ tables_1, d.before a0 Z = true) (ws : List Jvm.Cond) (ob_3 : Addr) (h0 : Heap) (n0 : Nat) (Z0 : n0 ≤ h0.size) (O0 : Old Z n0 h0) (I117 : Fld Z Z.heap ob_3 "java/lang/Enum" "ordinal" "I" (.int 1)) (I126 : Exa Z Z.heap ob_3 "com/example/keelrate/keelrate/Averaging") :
    own_Met l Z h0 (⟨"com/example/keelrate/keelrate/Averaging", "weight", "(J)J"⟩ : MethodName) prog_1_method_5_code 3 (Option.some FieldType.long) ws ({ frames := 1, cells := 0, slots := 0, locals := 12 } : Room) #[(.ref ob_3), (.long 1)] (own_Q7 Z ob_3 h0 n0) 0 0 := by
  refine MetFree.of_bodySF own_pn2 hisR ?_
  intro p e s m args below meth c s₁ Bd hml0 hP hK
  obtain ⟨rfl, hZ, hh⟩ := hP
  have hx := Bd.exec
  have hby := Bd.bytes
  have hml : c.maxLocals = 3 := hml0
  have hown : s.vm.findClass "com/example/keelrate/keelrate/Averaging" = some m.cls := findClass_of_methodNamed Bd.named
  have hnm := (name_of_methodNamed Bd.named Bd.method).1
  have X0 : Stand p l e ({ frames := 1, cells := 0, slots := 0, locals := 12 } : Room) s m #[(.ref ob_3), (.long 1)] below meth c s₁ [] 0 0 := Stand.of_body Bd
  have e0 : s₁.heap = h0 := by rw [← hh, Bd.state]; rfl
  have N0 := Fr.nil n0
  show own_G p e below (s₁.setTop (entryFrame m #[(.ref ob_3), (.long 1)] 3)) (own_P s (own_Q7 Z ob_3 h0 n0) 0 0)
  refine own_cast (own_ef2 m ob_3 1) ?_
  show own_G p e below (s₁.setTop (mkF m 0 #[rv ob_3, .val (.long 1), .second] [])) _
  refine oS (fun _ => XS.aloadN X0.here hx rfl (hb hby dd1_0) rfl rfl) ?_
  have F127 : Exa Z h0 ob_3 "com/example/keelrate/keelrate/Averaging" := Exa.ext O0.2 I126
  obtain ⟨T118, h119, v120, L121, X122, e123, q124, s125⟩ := own_callU X0 hx hZ hown e0 (y := (⟨"com/example/keelrate/keelrate/Averaging", "ordinal", "()I"⟩ : MethodName)) (z := (⟨"java/lang/Enum", "ordinal", "()I"⟩ : MethodName)) (C := "com/example/keelrate/keelrate/Averaging") (owner := "java/lang/Enum") (b := ob_3) (oW hw 13 rfl) (oW hw 14 rfl) (oW hw 15 rfl) (oW hw 17 rfl) (oW hw 16 rfl) (oW hw 18 rfl) (oW hw 19 rfl) (by decide) F127 (W := 0) (own_rm4 l Z a0 hw [] ob_3 h0 n0 Z0 O0 I117) (by decide) (by decide) (by decide) (by decide) (g := (mkF m 1 #[rv ob_3, .val (.long 1), .second] [(.ref ob_3)])) rfl (by rw [hml]; rfl) (argsL := []) (rest := []) rfl (lenOf own_pd1 rfl) rfl (by show 2 * 0 + _ ≤ _; exact Nat.le_of_eq rfl) (hb hby dd1_1)
  refine oS s125 ?_
  obtain ⟨rfl, N128, K129⟩ := q124
  have N130 := Fr.app N0 N128
  have e131 := e123.trans K129
  show own_G p e below (T118.setTop (mkF m 4 #[rv ob_3, .val (.long 1), .second] [(.int 1)])) _
  have u132 : ∀ t, Steps p.tables e below (T118.setTop (mkF m 46 #[rv ob_3, .val (.long 1), .second] [])) t → Steps p.tables e below (T118.setTop (mkF m 4 #[rv ob_3, .val (.long 1), .second] [(.int 1)])) t := fun t hr => own_lsw X122 hx (g := (mkF m 4 #[rv ob_3, .val (.long 1), .second] [(.int 1)])) rfl (k := 1) rfl (hb hby dd1_4) (by decide +kernel) (a := 1) (off := 42) (by decide +kernel) (pc0 := 4) (pc' := 46) rfl (by decide) (by decide) t hr
  refine oS u132 ?_
  refine oS (fun _ => XT.lconst X122.here hx rfl (hb hby dd1_46) ) ?_
  exact own_retL X122 hx Bd.notSynchronized Bd.returns (hb hby dd1_47) e131 (by decide) (by decide) (⟨rfl, N130, rfl⟩)
def own_Q8 (Z : State) (ob_4 : Addr) (h0 : Heap) (n0 : Nat) (v : Option Value) (h : Heap) (L : List Loc) : Prop := (v = some (.long 1) ∧ Fr n0 L ∧ h = h0)
set_option maxRecDepth 65536 in
set_option maxHeartbeats 40000000 in
theorem own_rm8 (l : Launch) (Z : State) (a0 : Array Value) (hw : ∀ d ∈ tables_1, d.before a0 Z = true) (ws : List Jvm.Cond) (ob_4 : Addr) (h0 : Heap) (n0 : Nat) (Z0 : n0 ≤ h0.size) (O0 : Old Z n0 h0) (I151 : Fld Z Z.heap ob_4 "java/lang/Enum" "ordinal" "I" (.int 0)) (I160 : Exa Z Z.heap ob_4 "com/example/keelrate/keelrate/Averaging") :
    own_Met l Z h0 (⟨"com/example/keelrate/keelrate/Averaging", "weight", "(J)J"⟩ : MethodName) prog_1_method_5_code 3 (Option.some FieldType.long) ws ({ frames := 1, cells := 0, slots := 0, locals := 12 } : Room) #[(.ref ob_4), (.long 1)] (own_Q8 Z ob_4 h0 n0) 0 0 := by
  refine MetFree.of_bodySF own_pn2 hisR ?_
  intro p e s m args below meth c s₁ Bd hml0 hP hK
  obtain ⟨rfl, hZ, hh⟩ := hP
  have hx := Bd.exec
  have hby := Bd.bytes
  have hml : c.maxLocals = 3 := hml0
  have hown : s.vm.findClass "com/example/keelrate/keelrate/Averaging" = some m.cls := findClass_of_methodNamed Bd.named
  have hnm := (name_of_methodNamed Bd.named Bd.method).1
  have X0 : Stand p l e ({ frames := 1, cells := 0, slots := 0, locals := 12 } : Room) s m #[(.ref ob_4), (.long 1)] below meth c s₁ [] 0 0 := Stand.of_body Bd
  have e0 : s₁.heap = h0 := by rw [← hh, Bd.state]; rfl
  have N0 := Fr.nil n0
  show own_G p e below (s₁.setTop (entryFrame m #[(.ref ob_4), (.long 1)] 3)) (own_P s (own_Q8 Z ob_4 h0 n0) 0 0)
  refine own_cast (own_ef2 m ob_4 1) ?_
  show own_G p e below (s₁.setTop (mkF m 0 #[rv ob_4, .val (.long 1), .second] [])) _
  refine oS (fun _ => XS.aloadN X0.here hx rfl (hb hby dd1_0) rfl rfl) ?_
  have F161 : Exa Z h0 ob_4 "com/example/keelrate/keelrate/Averaging" := Exa.ext O0.2 I160
  obtain ⟨T152, h153, v154, L155, X156, e157, q158, s159⟩ := own_callU X0 hx hZ hown e0 (y := (⟨"com/example/keelrate/keelrate/Averaging", "ordinal", "()I"⟩ : MethodName)) (z := (⟨"java/lang/Enum", "ordinal", "()I"⟩ : MethodName)) (C := "com/example/keelrate/keelrate/Averaging") (owner := "java/lang/Enum") (b := ob_4) (oW hw 13 rfl) (oW hw 14 rfl) (oW hw 15 rfl) (oW hw 17 rfl) (oW hw 16 rfl) (oW hw 18 rfl) (oW hw 19 rfl) (by decide) F161 (W := 0) (own_rm6 l Z a0 hw [] ob_4 h0 n0 Z0 O0 I151) (by decide) (by decide) (by decide) (by decide) (g := (mkF m 1 #[rv ob_4, .val (.long 1), .second] [(.ref ob_4)])) rfl (by rw [hml]; rfl) (argsL := []) (rest := []) rfl (lenOf own_pd1 rfl) rfl (by show 2 * 0 + _ ≤ _; exact Nat.le_of_eq rfl) (hb hby dd1_1)
  refine oS s159 ?_
  obtain ⟨rfl, N162, K163⟩ := q158
  have N164 := Fr.app N0 N162
  have e165 := e157.trans K163
  show own_G p e below (T152.setTop (mkF m 4 #[rv ob_4, .val (.long 1), .second] [(.int 0)])) _
  have u166 : ∀ t, Steps p.tables e below (T152.setTop (mkF m 42 #[rv ob_4, .val (.long 1), .second] [])) t → Steps p.tables e below (T152.setTop (mkF m 4 #[rv ob_4, .val (.long 1), .second] [(.int 0)])) t := fun t hr => own_lsw X156 hx (g := (mkF m 4 #[rv ob_4, .val (.long 1), .second] [(.int 0)])) rfl (k := 0) rfl (hb hby dd1_4) (by decide +kernel) (a := 0) (off := 38) (by decide +kernel) (pc0 := 4) (pc' := 42) rfl (by decide) (by decide) t hr
  refine oS u166 ?_
  refine oS (fun _ => XT.lloadN X156.here hx rfl (hb hby dd1_42) rfl) ?_
  refine oS (fun _ => XS.goto X156.here hx rfl (pc0 := 43) (pc' := 47) rfl (hb hby dd1_43) (by decide) (by decide)) ?_
  show own_G p e below (T152.setTop (mkF m 47 #[rv ob_4, .val (.long 1), .second] [(.long 1)])) _
  exact own_retL X156 hx Bd.notSynchronized Bd.returns (hb hby dd1_47) e165 (by decide) (by decide) (⟨rfl, N164, rfl⟩)
def own_Q1 (Z : State) (in_1 : Int32) (lo_2 : Int64) (ob_3 : Addr) (ob_4 : Addr) (h0 : Heap) (n0 : Nat) (v : Option Value) (h : Heap) (L : List Loc) : Prop := (v = some (.int 1) ∧ Fr n0 L)
theorem own_pn3 : plainFor x = true := by decide +kernel
set_option maxRecDepth 65536 in
set_option maxHeartbeats 40000000 in
theorem own_rm1 (l : Launch) (Z : State) (a0 : Array Value) (hw : ∀ d ∈ tables_1, d.before a0 Z = true) (ws : List Jvm.Cond) (in_1 : Int32) (lo_2 : Int64) (ob_3 : Addr) (ob_4 : Addr) (h0 : Heap) (n0 : Nat) (Z0 : n0 ≤ h0.size) (O0 : Old Z n0 h0) (I23 : Sta Z Z.heap "com/example/keelrate/keelrate/Averaging" "UNIFORM" "Lcom/example/keelrate/keelrate/Averaging;" (.ref ob_3)) (I29 : Fld Z Z.heap ob_3 "java/lang/Enum" "ordinal" "I" (.int 1)) (I45 : Exa Z Z.heap ob_3 "com/example/keelrate/keelrate/Averaging") (I66 : Sta Z Z.heap "com/example/keelrate/keelrate/Averaging" "LINEAR" "Lcom/example/keelrate/keelrate/Averaging;" (.ref ob_4)) (I72 : Fld Z Z.heap ob_4 "java/lang/Enum" "ordinal" "I" (.int 0)) (I88 : Exa Z Z.heap ob_4 "com/example/keelrate/keelrate/Averaging") :
    own_Met l Z h0 x code maxLocals ret ws room_1 #[(.int in_1), (.long lo_2)] (own_Q1 Z in_1 lo_2 ob_3 ob_4 h0 n0) 0 0 := by
  refine MetFree.of_bodySF own_pn3 hisR ?_
  intro p e s m args below meth c s₁ Bd hml0 hP hK
  obtain ⟨rfl, hZ, hh⟩ := hP
  have hx := Bd.exec
  have hby := Bd.bytes
  have hml : c.maxLocals = 11 := hml0
  have hown : s.vm.findClass "com/example/keelrate/keelrate/AveragingWeightPinLaw" = some m.cls := findClass_of_methodNamed Bd.named
  have hnm := (name_of_methodNamed Bd.named Bd.method).1
  have X0 : Stand p l e room_1 s m #[(.int in_1), (.long lo_2)] below meth c s₁ [] 0 0 := Stand.of_body Bd
  have e0 : s₁.heap = h0 := by rw [← hh, Bd.state]; rfl
  have N0 := Fr.nil n0
  show own_G p e below (s₁.setTop (entryFrame m #[(.int in_1), (.long lo_2)] maxLocals)) (own_P s (own_Q1 Z in_1 lo_2 ob_3 ob_4 h0 n0) 0 0)
  refine own_cast (own_ef0 m in_1 lo_2) ?_
  show own_G p e below (s₁.setTop (mkF m 0 #[iv in_1, .val (.long lo_2), .second, .unset, .unset, .unset, .unset, .unset, .unset, .unset, .unset] [])) _
  refine oS (fun _ => XT.lconst X0.here hx rfl (hb hby at_0) ) ?_
  refine oS (fun _ => XT.lloadN X0.here hx rfl (hb hby at_1) rfl) ?_
  refine oS (fun _ => X0.ldc2J hx hown (mvT hZ (oW hw 0 rfl)) rfl (hb hby at_2)) ?_
  show own_G p e below (s₁.setTop (mkF m 5 #[iv in_1, .val (.long lo_2), .second, .unset, .unset, .unset, .unset, .unset, .unset, .unset, .unset] [(.long 9223372036854775807), (.long lo_2), (.long 1)])) _
  refine oS (fun _ => XT.land X0.here hx rfl (hb hby at_5) rfl) ?_
  obtain ⟨T6, h7, v8, L9, X10, e11, q12, s13⟩ := own_callS X0 hx hZ hown e0 (y := (⟨"java/lang/Math", "max", "(JJ)J"⟩ : MethodName)) (oW hw 1 rfl) (oW hw 2 rfl) (oW hw 3 rfl) (oW hw 4 rfl) (by decide) (W := 0) (own_rm2 l Z a0 hw [] lo_2 h0 n0 Z0 O0 ) (by decide) (by decide) (by decide) (by decide) (g := (mkF m 6 #[iv in_1, .val (.long lo_2), .second, .unset, .unset, .unset, .unset, .unset, .unset, .unset, .unset] [(.long (lo_2 &&& 9223372036854775807)), (.long 1)])) rfl (by rw [hml]; rfl) (argsL := [(.long 1), (.long (lo_2 &&& 9223372036854775807))]) (rest := []) rfl (lenOf own_pd0 rfl) rfl (by show 2 * 0 + _ ≤ _; exact Nat.le_of_eq rfl) (hb hby at_6)
  refine oS s13 ?_
  rcases q12 with ⟨b14, rfl, N15, K16⟩ | ⟨b17, rfl, N18, K19⟩
  · skip
    have N20 := Fr.app N0 N15
    have e21 := e11.trans K16
    show own_G p e below (T6.setTop (mkF m 9 #[iv in_1, .val (.long lo_2), .second, .unset, .unset, .unset, .unset, .unset, .unset, .unset, .unset] [(.long (lo_2 &&& 9223372036854775807))])) _
    refine oS (fun _ => XT.lstoreN X10.here hx rfl (hb hby at_9) rfl (l' := #[iv in_1, .val (.long lo_2), .second, .val (.long (lo_2 &&& 9223372036854775807)), .second, .unset, .unset, .unset, .unset, .unset, .unset]) rfl) ?_
    refine oS (fun _ => XS.iloadN X10.here hx rfl (hb hby at_10) rfl) ?_
    refine oS (fun _ => XS.iconst X10.here hx rfl (hb hby at_11) ) ?_
    refine oS (fun _ => XS.iand X10.here hx rfl (hb hby at_12) rfl) ?_
    show own_G p e below (T6.setTop (mkF m 13 #[iv in_1, .val (.long lo_2), .second, .val (.long (lo_2 &&& 9223372036854775807)), .second, .unset, .unset, .unset, .unset, .unset, .unset] [(.int (in_1 &&& 1))])) _
    by_cases b22 : (in_1 &&& 1) = 0
    · skip
      refine oS (fun _ => XS.ifYes X10.here hx rfl (pc0 := 13) (pc' := 20) rfl (hb hby at_13) rfl (XT.i0_eq_t b22) (by decide) (by decide)) ?_
      show own_G p e below (T6.setTop (mkF m 20 #[iv in_1, .val (.long lo_2), .second, .val (.long (lo_2 &&& 9223372036854775807)), .second, .unset, .unset, .unset, .unset, .unset, .unset] [])) _
      refine oS (fun _ => XS.iconst X10.here hx rfl (hb hby at_20) ) ?_
      refine oS (fun _ => XS.istore X10.here hx rfl (hb hby at_21) rfl (l' := #[iv in_1, .val (.long lo_2), .second, .val (.long (lo_2 &&& 9223372036854775807)), .second, iv 0, .unset, .unset, .unset, .unset, .unset]) rfl) ?_
      refine oS (fun _ => XS.iload X10.here hx rfl (hb hby at_23) rfl) ?_
      refine oS (fun _ => XS.ifYes X10.here hx rfl (pc0 := 25) (pc' := 34) rfl (hb hby at_25) rfl (XT.i0_eq_t (by decide)) (by decide) (by decide)) ?_
      show own_G p e below (T6.setTop (mkF m 34 #[iv in_1, .val (.long lo_2), .second, .val (.long (lo_2 &&& 9223372036854775807)), .second, iv 0, .unset, .unset, .unset, .unset, .unset] [])) _
      have F24 : Sta Z h0 "com/example/keelrate/keelrate/Averaging" "UNIFORM" "Lcom/example/keelrate/keelrate/Averaging;" (.ref ob_3) := Sta.ext O0.2 I23
      obtain ⟨T25, X26, e27, s28⟩ := getS X10 hx hZ hown (host := "") (oW hw 5 rfl) Via.refl e21 F24 (g := (mkF m 34 #[iv in_1, .val (.long lo_2), .second, .val (.long (lo_2 &&& 9223372036854775807)), .second, iv 0, .unset, .unset, .unset, .unset, .unset] [])) rfl (hb hby at_34)
      refine oS s28 ?_
      show own_G p e below (T25.setTop (mkF m 37 #[iv in_1, .val (.long lo_2), .second, .val (.long (lo_2 &&& 9223372036854775807)), .second, iv 0, .unset, .unset, .unset, .unset, .unset] [(.ref ob_3)])) _
      refine oS (fun _ => XS.astore X26.here hx rfl (hb hby at_37) rfl rfl (l' := #[iv in_1, .val (.long lo_2), .second, .val (.long (lo_2 &&& 9223372036854775807)), .second, iv 0, rv ob_3, .unset, .unset, .unset, .unset]) rfl) ?_
      refine oS (fun _ => XS.aload X26.here hx rfl (hb hby at_39) rfl rfl) ?_
      refine oS (fun _ => XT.lloadN X26.here hx rfl (hb hby at_41) rfl) ?_
      have F61 : Exa Z h0 ob_3 "com/example/keelrate/keelrate/Averaging" := Exa.ext O0.2 I45
      obtain ⟨T53, h54, v55, L56, X57, e58, q59, s60⟩ := own_callV X26 hx hZ hown e27 (y := (⟨"com/example/keelrate/keelrate/Averaging", "weight", "(J)J"⟩ : MethodName)) (z := (⟨"com/example/keelrate/keelrate/Averaging", "weight", "(J)J"⟩ : MethodName)) (C := "com/example/keelrate/keelrate/Averaging") (b := ob_3) (oW hw 8 rfl) (oW hw 9 rfl) (notFace_of_selects (args := #[]) (mvT hZ (oW hw 11 rfl))) (oW hw 11 rfl) (oW hw 10 rfl) (oW hw 6 rfl) (oW hw 12 rfl) (by decide) F61 (W := 0) (own_rm3 l Z a0 hw [] ob_3 lo_2 h0 n0 Z0 O0 I29 I45) (by decide) (by decide) (by decide) (by decide) (g := (mkF m 42 #[iv in_1, .val (.long lo_2), .second, .val (.long (lo_2 &&& 9223372036854775807)), .second, iv 0, rv ob_3, .unset, .unset, .unset, .unset] [(.long (lo_2 &&& 9223372036854775807)), (.ref ob_3)])) rfl (by rw [hml]; rfl) (argsL := [(.long (lo_2 &&& 9223372036854775807))]) (rest := []) rfl (lenOf own_pd2 rfl) rfl (by show 2 * 0 + _ ≤ _; exact Nat.le_of_eq rfl) (hb hby at_42)
      refine oS s60 ?_
      obtain ⟨rfl, N62, K63⟩ := q59
      have N64 := Fr.app N20 N62
      have e65 := e58.trans K63
      show own_G p e below (T53.setTop (mkF m 45 #[iv in_1, .val (.long lo_2), .second, .val (.long (lo_2 &&& 9223372036854775807)), .second, iv 0, rv ob_3, .unset, .unset, .unset, .unset] [(.long 1)])) _
      refine oS (fun _ => XT.lstore X57.here hx rfl (hb hby at_45) rfl (l' := #[iv in_1, .val (.long lo_2), .second, .val (.long (lo_2 &&& 9223372036854775807)), .second, iv 0, rv ob_3, .val (.long 1), .second, .unset, .unset]) rfl) ?_
      refine oS (fun _ => XS.iload X57.here hx rfl (hb hby at_47) rfl) ?_
      refine oS (fun _ => XS.ifYes X57.here hx rfl (pc0 := 49) (pc' := 56) rfl (hb hby at_49) rfl (XT.i0_eq_t (by decide)) (by decide) (by decide)) ?_
      show own_G p e below (T53.setTop (mkF m 56 #[iv in_1, .val (.long lo_2), .second, .val (.long (lo_2 &&& 9223372036854775807)), .second, iv 0, rv ob_3, .val (.long 1), .second, .unset, .unset] [])) _
      refine oS (fun _ => XT.lconst X57.here hx rfl (hb hby at_56) ) ?_
      refine oS (fun _ => XT.lstore X57.here hx rfl (hb hby at_57) rfl (l' := #[iv in_1, .val (.long lo_2), .second, .val (.long (lo_2 &&& 9223372036854775807)), .second, iv 0, rv ob_3, .val (.long 1), .second, .val (.long 1), .second]) rfl) ?_
      refine oS (fun _ => XT.lload X57.here hx rfl (hb hby at_59) rfl) ?_
      refine oS (fun _ => XT.lload X57.here hx rfl (hb hby at_61) rfl) ?_
      show own_G p e below (T53.setTop (mkF m 63 #[iv in_1, .val (.long lo_2), .second, .val (.long (lo_2 &&& 9223372036854775807)), .second, iv 0, rv ob_3, .val (.long 1), .second, .val (.long 1), .second] [(.long 1), (.long 1)])) _
      refine oS (fun _ => XT.lcmp X57.here hx rfl (hb hby at_63) rfl) ?_
      refine oS (fun _ => XS.ifNo X57.here hx rfl (hb hby at_64) rfl (XT.ll_ne_f (by decide))) ?_
      show own_G p e below (T53.setTop (mkF m 67 #[iv in_1, .val (.long lo_2), .second, .val (.long (lo_2 &&& 9223372036854775807)), .second, iv 0, rv ob_3, .val (.long 1), .second, .val (.long 1), .second] [])) _
      refine oS (fun _ => XS.iconst X57.here hx rfl (hb hby at_67) ) ?_
      refine oS (fun _ => XS.goto X57.here hx rfl (pc0 := 68) (pc' := 72) rfl (hb hby at_68) (by decide) (by decide)) ?_
      show own_G p e below (T53.setTop (mkF m 72 #[iv in_1, .val (.long lo_2), .second, .val (.long (lo_2 &&& 9223372036854775807)), .second, iv 0, rv ob_3, .val (.long 1), .second, .val (.long 1), .second] [(.int 1)])) _
      exact own_retN X57 hx (t := .boolean) Bd.notSynchronized Bd.returns (by simp) (hb hby at_72) (by decide) e65 (by decide) (by decide) (⟨rfl, N64⟩)
    · skip
      refine oS (fun _ => XS.ifNo X10.here hx rfl (hb hby at_13) rfl (XT.i0_eq_f b22)) ?_
      show own_G p e below (T6.setTop (mkF m 16 #[iv in_1, .val (.long lo_2), .second, .val (.long (lo_2 &&& 9223372036854775807)), .second, .unset, .unset, .unset, .unset, .unset, .unset] [])) _
      refine oS (fun _ => XS.iconst X10.here hx rfl (hb hby at_16) ) ?_
      refine oS (fun _ => XS.goto X10.here hx rfl (pc0 := 17) (pc' := 21) rfl (hb hby at_17) (by decide) (by decide)) ?_
      show own_G p e below (T6.setTop (mkF m 21 #[iv in_1, .val (.long lo_2), .second, .val (.long (lo_2 &&& 9223372036854775807)), .second, .unset, .unset, .unset, .unset, .unset, .unset] [(.int 1)])) _
      refine oS (fun _ => XS.istore X10.here hx rfl (hb hby at_21) rfl (l' := #[iv in_1, .val (.long lo_2), .second, .val (.long (lo_2 &&& 9223372036854775807)), .second, iv 1, .unset, .unset, .unset, .unset, .unset]) rfl) ?_
      refine oS (fun _ => XS.iload X10.here hx rfl (hb hby at_23) rfl) ?_
      refine oS (fun _ => XS.ifNo X10.here hx rfl (hb hby at_25) rfl (XT.i0_eq_f (by decide))) ?_
      show own_G p e below (T6.setTop (mkF m 28 #[iv in_1, .val (.long lo_2), .second, .val (.long (lo_2 &&& 9223372036854775807)), .second, iv 1, .unset, .unset, .unset, .unset, .unset] [])) _
      have F67 : Sta Z h0 "com/example/keelrate/keelrate/Averaging" "LINEAR" "Lcom/example/keelrate/keelrate/Averaging;" (.ref ob_4) := Sta.ext O0.2 I66
      obtain ⟨T68, X69, e70, s71⟩ := getS X10 hx hZ hown (host := "") (oW hw 22 rfl) Via.refl e21 F67 (g := (mkF m 28 #[iv in_1, .val (.long lo_2), .second, .val (.long (lo_2 &&& 9223372036854775807)), .second, iv 1, .unset, .unset, .unset, .unset, .unset] [])) rfl (hb hby at_28)
      refine oS s71 ?_
      show own_G p e below (T68.setTop (mkF m 31 #[iv in_1, .val (.long lo_2), .second, .val (.long (lo_2 &&& 9223372036854775807)), .second, iv 1, .unset, .unset, .unset, .unset, .unset] [(.ref ob_4)])) _
      refine oS (fun _ => XS.goto X69.here hx rfl (pc0 := 31) (pc' := 37) rfl (hb hby at_31) (by decide) (by decide)) ?_
      show own_G p e below (T68.setTop (mkF m 37 #[iv in_1, .val (.long lo_2), .second, .val (.long (lo_2 &&& 9223372036854775807)), .second, iv 1, .unset, .unset, .unset, .unset, .unset] [(.ref ob_4)])) _
      refine oS (fun _ => XS.astore X69.here hx rfl (hb hby at_37) rfl rfl (l' := #[iv in_1, .val (.long lo_2), .second, .val (.long (lo_2 &&& 9223372036854775807)), .second, iv 1, rv ob_4, .unset, .unset, .unset, .unset]) rfl) ?_
      refine oS (fun _ => XS.aload X69.here hx rfl (hb hby at_39) rfl rfl) ?_
      refine oS (fun _ => XT.lloadN X69.here hx rfl (hb hby at_41) rfl) ?_
      have F104 : Exa Z h0 ob_4 "com/example/keelrate/keelrate/Averaging" := Exa.ext O0.2 I88
      obtain ⟨T96, h97, v98, L99, X100, e101, q102, s103⟩ := own_callV X69 hx hZ hown e70 (y := (⟨"com/example/keelrate/keelrate/Averaging", "weight", "(J)J"⟩ : MethodName)) (z := (⟨"com/example/keelrate/keelrate/Averaging", "weight", "(J)J"⟩ : MethodName)) (C := "com/example/keelrate/keelrate/Averaging") (b := ob_4) (oW hw 8 rfl) (oW hw 9 rfl) (notFace_of_selects (args := #[]) (mvT hZ (oW hw 11 rfl))) (oW hw 11 rfl) (oW hw 10 rfl) (oW hw 6 rfl) (oW hw 12 rfl) (by decide) F104 (W := 0) (own_rm5 l Z a0 hw [] ob_4 lo_2 h0 n0 Z0 O0 I72 I88) (by decide) (by decide) (by decide) (by decide) (g := (mkF m 42 #[iv in_1, .val (.long lo_2), .second, .val (.long (lo_2 &&& 9223372036854775807)), .second, iv 1, rv ob_4, .unset, .unset, .unset, .unset] [(.long (lo_2 &&& 9223372036854775807)), (.ref ob_4)])) rfl (by rw [hml]; rfl) (argsL := [(.long (lo_2 &&& 9223372036854775807))]) (rest := []) rfl (lenOf own_pd2 rfl) rfl (by show 2 * 0 + _ ≤ _; exact Nat.le_of_eq rfl) (hb hby at_42)
      refine oS s103 ?_
      obtain ⟨rfl, N105, K106⟩ := q102
      have N107 := Fr.app N20 N105
      have e108 := e101.trans K106
      show own_G p e below (T96.setTop (mkF m 45 #[iv in_1, .val (.long lo_2), .second, .val (.long (lo_2 &&& 9223372036854775807)), .second, iv 1, rv ob_4, .unset, .unset, .unset, .unset] [(.long (lo_2 &&& 9223372036854775807))])) _
      refine oS (fun _ => XT.lstore X100.here hx rfl (hb hby at_45) rfl (l' := #[iv in_1, .val (.long lo_2), .second, .val (.long (lo_2 &&& 9223372036854775807)), .second, iv 1, rv ob_4, .val (.long (lo_2 &&& 9223372036854775807)), .second, .unset, .unset]) rfl) ?_
      refine oS (fun _ => XS.iload X100.here hx rfl (hb hby at_47) rfl) ?_
      refine oS (fun _ => XS.ifNo X100.here hx rfl (hb hby at_49) rfl (XT.i0_eq_f (by decide))) ?_
      show own_G p e below (T96.setTop (mkF m 52 #[iv in_1, .val (.long lo_2), .second, .val (.long (lo_2 &&& 9223372036854775807)), .second, iv 1, rv ob_4, .val (.long (lo_2 &&& 9223372036854775807)), .second, .unset, .unset] [])) _
      refine oS (fun _ => XT.lloadN X100.here hx rfl (hb hby at_52) rfl) ?_
      refine oS (fun _ => XS.goto X100.here hx rfl (pc0 := 53) (pc' := 57) rfl (hb hby at_53) (by decide) (by decide)) ?_
      show own_G p e below (T96.setTop (mkF m 57 #[iv in_1, .val (.long lo_2), .second, .val (.long (lo_2 &&& 9223372036854775807)), .second, iv 1, rv ob_4, .val (.long (lo_2 &&& 9223372036854775807)), .second, .unset, .unset] [(.long (lo_2 &&& 9223372036854775807))])) _
      refine oS (fun _ => XT.lstore X100.here hx rfl (hb hby at_57) rfl (l' := #[iv in_1, .val (.long lo_2), .second, .val (.long (lo_2 &&& 9223372036854775807)), .second, iv 1, rv ob_4, .val (.long (lo_2 &&& 9223372036854775807)), .second, .val (.long (lo_2 &&& 9223372036854775807)), .second]) rfl) ?_
      refine oS (fun _ => XT.lload X100.here hx rfl (hb hby at_59) rfl) ?_
      refine oS (fun _ => XT.lload X100.here hx rfl (hb hby at_61) rfl) ?_
      refine oS (fun _ => XT.lcmp X100.here hx rfl (hb hby at_63) rfl) ?_
      show own_G p e below (T96.setTop (mkF m 64 #[iv in_1, .val (.long lo_2), .second, .val (.long (lo_2 &&& 9223372036854775807)), .second, iv 1, rv ob_4, .val (.long (lo_2 &&& 9223372036854775807)), .second, .val (.long (lo_2 &&& 9223372036854775807)), .second] [(.int (XT.cmpL (lo_2 &&& 9223372036854775807) (lo_2 &&& 9223372036854775807)))])) _
      refine oS (fun _ => XS.ifNo X100.here hx rfl (hb hby at_64) rfl (XT.ll_ne_f rfl)) ?_
      show own_G p e below (T96.setTop (mkF m 67 #[iv in_1, .val (.long lo_2), .second, .val (.long (lo_2 &&& 9223372036854775807)), .second, iv 1, rv ob_4, .val (.long (lo_2 &&& 9223372036854775807)), .second, .val (.long (lo_2 &&& 9223372036854775807)), .second] [])) _
      refine oS (fun _ => XS.iconst X100.here hx rfl (hb hby at_67) ) ?_
      refine oS (fun _ => XS.goto X100.here hx rfl (pc0 := 68) (pc' := 72) rfl (hb hby at_68) (by decide) (by decide)) ?_
      show own_G p e below (T96.setTop (mkF m 72 #[iv in_1, .val (.long lo_2), .second, .val (.long (lo_2 &&& 9223372036854775807)), .second, iv 1, rv ob_4, .val (.long (lo_2 &&& 9223372036854775807)), .second, .val (.long (lo_2 &&& 9223372036854775807)), .second] [(.int 1)])) _
      exact own_retN X100 hx (t := .boolean) Bd.notSynchronized Bd.returns (by simp) (hb hby at_72) (by decide) e108 (by decide) (by decide) (⟨rfl, N107⟩)
  · skip
    have N109 := Fr.app N0 N18
    have e110 := e11.trans K19
    show own_G p e below (T6.setTop (mkF m 9 #[iv in_1, .val (.long lo_2), .second, .unset, .unset, .unset, .unset, .unset, .unset, .unset, .unset] [(.long 1)])) _
    refine oS (fun _ => XT.lstoreN X10.here hx rfl (hb hby at_9) rfl (l' := #[iv in_1, .val (.long lo_2), .second, .val (.long 1), .second, .unset, .unset, .unset, .unset, .unset, .unset]) rfl) ?_
    refine oS (fun _ => XS.iloadN X10.here hx rfl (hb hby at_10) rfl) ?_
    refine oS (fun _ => XS.iconst X10.here hx rfl (hb hby at_11) ) ?_
    refine oS (fun _ => XS.iand X10.here hx rfl (hb hby at_12) rfl) ?_
    show own_G p e below (T6.setTop (mkF m 13 #[iv in_1, .val (.long lo_2), .second, .val (.long 1), .second, .unset, .unset, .unset, .unset, .unset, .unset] [(.int (in_1 &&& 1))])) _
    by_cases b111 : (in_1 &&& 1) = 0
    · skip
      refine oS (fun _ => XS.ifYes X10.here hx rfl (pc0 := 13) (pc' := 20) rfl (hb hby at_13) rfl (XT.i0_eq_t b111) (by decide) (by decide)) ?_
      show own_G p e below (T6.setTop (mkF m 20 #[iv in_1, .val (.long lo_2), .second, .val (.long 1), .second, .unset, .unset, .unset, .unset, .unset, .unset] [])) _
      refine oS (fun _ => XS.iconst X10.here hx rfl (hb hby at_20) ) ?_
      refine oS (fun _ => XS.istore X10.here hx rfl (hb hby at_21) rfl (l' := #[iv in_1, .val (.long lo_2), .second, .val (.long 1), .second, iv 0, .unset, .unset, .unset, .unset, .unset]) rfl) ?_
      refine oS (fun _ => XS.iload X10.here hx rfl (hb hby at_23) rfl) ?_
      refine oS (fun _ => XS.ifYes X10.here hx rfl (pc0 := 25) (pc' := 34) rfl (hb hby at_25) rfl (XT.i0_eq_t (by decide)) (by decide) (by decide)) ?_
      show own_G p e below (T6.setTop (mkF m 34 #[iv in_1, .val (.long lo_2), .second, .val (.long 1), .second, iv 0, .unset, .unset, .unset, .unset, .unset] [])) _
      have F112 : Sta Z h0 "com/example/keelrate/keelrate/Averaging" "UNIFORM" "Lcom/example/keelrate/keelrate/Averaging;" (.ref ob_3) := Sta.ext O0.2 I23
      obtain ⟨T113, X114, e115, s116⟩ := getS X10 hx hZ hown (host := "") (oW hw 5 rfl) Via.refl e110 F112 (g := (mkF m 34 #[iv in_1, .val (.long lo_2), .second, .val (.long 1), .second, iv 0, .unset, .unset, .unset, .unset, .unset] [])) rfl (hb hby at_34)
      refine oS s116 ?_
      show own_G p e below (T113.setTop (mkF m 37 #[iv in_1, .val (.long lo_2), .second, .val (.long 1), .second, iv 0, .unset, .unset, .unset, .unset, .unset] [(.ref ob_3)])) _
      refine oS (fun _ => XS.astore X114.here hx rfl (hb hby at_37) rfl rfl (l' := #[iv in_1, .val (.long lo_2), .second, .val (.long 1), .second, iv 0, rv ob_3, .unset, .unset, .unset, .unset]) rfl) ?_
      refine oS (fun _ => XS.aload X114.here hx rfl (hb hby at_39) rfl rfl) ?_
      refine oS (fun _ => XT.lloadN X114.here hx rfl (hb hby at_41) rfl) ?_
      have F141 : Exa Z h0 ob_3 "com/example/keelrate/keelrate/Averaging" := Exa.ext O0.2 I45
      obtain ⟨T133, h134, v135, L136, X137, e138, q139, s140⟩ := own_callV X114 hx hZ hown e115 (y := (⟨"com/example/keelrate/keelrate/Averaging", "weight", "(J)J"⟩ : MethodName)) (z := (⟨"com/example/keelrate/keelrate/Averaging", "weight", "(J)J"⟩ : MethodName)) (C := "com/example/keelrate/keelrate/Averaging") (b := ob_3) (oW hw 8 rfl) (oW hw 9 rfl) (notFace_of_selects (args := #[]) (mvT hZ (oW hw 11 rfl))) (oW hw 11 rfl) (oW hw 10 rfl) (oW hw 6 rfl) (oW hw 12 rfl) (by decide) F141 (W := 0) (own_rm7 l Z a0 hw [] ob_3 h0 n0 Z0 O0 I29 I45) (by decide) (by decide) (by decide) (by decide) (g := (mkF m 42 #[iv in_1, .val (.long lo_2), .second, .val (.long 1), .second, iv 0, rv ob_3, .unset, .unset, .unset, .unset] [(.long 1), (.ref ob_3)])) rfl (by rw [hml]; rfl) (argsL := [(.long 1)]) (rest := []) rfl (lenOf own_pd2 rfl) rfl (by show 2 * 0 + _ ≤ _; exact Nat.le_of_eq rfl) (hb hby at_42)
      refine oS s140 ?_
      obtain ⟨rfl, N142, K143⟩ := q139
      have N144 := Fr.app N109 N142
      have e145 := e138.trans K143
      show own_G p e below (T133.setTop (mkF m 45 #[iv in_1, .val (.long lo_2), .second, .val (.long 1), .second, iv 0, rv ob_3, .unset, .unset, .unset, .unset] [(.long 1)])) _
      refine oS (fun _ => XT.lstore X137.here hx rfl (hb hby at_45) rfl (l' := #[iv in_1, .val (.long lo_2), .second, .val (.long 1), .second, iv 0, rv ob_3, .val (.long 1), .second, .unset, .unset]) rfl) ?_
      refine oS (fun _ => XS.iload X137.here hx rfl (hb hby at_47) rfl) ?_
      refine oS (fun _ => XS.ifYes X137.here hx rfl (pc0 := 49) (pc' := 56) rfl (hb hby at_49) rfl (XT.i0_eq_t (by decide)) (by decide) (by decide)) ?_
      show own_G p e below (T133.setTop (mkF m 56 #[iv in_1, .val (.long lo_2), .second, .val (.long 1), .second, iv 0, rv ob_3, .val (.long 1), .second, .unset, .unset] [])) _
      refine oS (fun _ => XT.lconst X137.here hx rfl (hb hby at_56) ) ?_
      refine oS (fun _ => XT.lstore X137.here hx rfl (hb hby at_57) rfl (l' := #[iv in_1, .val (.long lo_2), .second, .val (.long 1), .second, iv 0, rv ob_3, .val (.long 1), .second, .val (.long 1), .second]) rfl) ?_
      refine oS (fun _ => XT.lload X137.here hx rfl (hb hby at_59) rfl) ?_
      refine oS (fun _ => XT.lload X137.here hx rfl (hb hby at_61) rfl) ?_
      show own_G p e below (T133.setTop (mkF m 63 #[iv in_1, .val (.long lo_2), .second, .val (.long 1), .second, iv 0, rv ob_3, .val (.long 1), .second, .val (.long 1), .second] [(.long 1), (.long 1)])) _
      refine oS (fun _ => XT.lcmp X137.here hx rfl (hb hby at_63) rfl) ?_
      refine oS (fun _ => XS.ifNo X137.here hx rfl (hb hby at_64) rfl (XT.ll_ne_f (by decide))) ?_
      show own_G p e below (T133.setTop (mkF m 67 #[iv in_1, .val (.long lo_2), .second, .val (.long 1), .second, iv 0, rv ob_3, .val (.long 1), .second, .val (.long 1), .second] [])) _
      refine oS (fun _ => XS.iconst X137.here hx rfl (hb hby at_67) ) ?_
      refine oS (fun _ => XS.goto X137.here hx rfl (pc0 := 68) (pc' := 72) rfl (hb hby at_68) (by decide) (by decide)) ?_
      show own_G p e below (T133.setTop (mkF m 72 #[iv in_1, .val (.long lo_2), .second, .val (.long 1), .second, iv 0, rv ob_3, .val (.long 1), .second, .val (.long 1), .second] [(.int 1)])) _
      exact own_retN X137 hx (t := .boolean) Bd.notSynchronized Bd.returns (by simp) (hb hby at_72) (by decide) e145 (by decide) (by decide) (⟨rfl, N144⟩)
    · skip
      refine oS (fun _ => XS.ifNo X10.here hx rfl (hb hby at_13) rfl (XT.i0_eq_f b111)) ?_
      show own_G p e below (T6.setTop (mkF m 16 #[iv in_1, .val (.long lo_2), .second, .val (.long 1), .second, .unset, .unset, .unset, .unset, .unset, .unset] [])) _
      refine oS (fun _ => XS.iconst X10.here hx rfl (hb hby at_16) ) ?_
      refine oS (fun _ => XS.goto X10.here hx rfl (pc0 := 17) (pc' := 21) rfl (hb hby at_17) (by decide) (by decide)) ?_
      show own_G p e below (T6.setTop (mkF m 21 #[iv in_1, .val (.long lo_2), .second, .val (.long 1), .second, .unset, .unset, .unset, .unset, .unset, .unset] [(.int 1)])) _
      refine oS (fun _ => XS.istore X10.here hx rfl (hb hby at_21) rfl (l' := #[iv in_1, .val (.long lo_2), .second, .val (.long 1), .second, iv 1, .unset, .unset, .unset, .unset, .unset]) rfl) ?_
      refine oS (fun _ => XS.iload X10.here hx rfl (hb hby at_23) rfl) ?_
      refine oS (fun _ => XS.ifNo X10.here hx rfl (hb hby at_25) rfl (XT.i0_eq_f (by decide))) ?_
      show own_G p e below (T6.setTop (mkF m 28 #[iv in_1, .val (.long lo_2), .second, .val (.long 1), .second, iv 1, .unset, .unset, .unset, .unset, .unset] [])) _
      have F146 : Sta Z h0 "com/example/keelrate/keelrate/Averaging" "LINEAR" "Lcom/example/keelrate/keelrate/Averaging;" (.ref ob_4) := Sta.ext O0.2 I66
      obtain ⟨T147, X148, e149, s150⟩ := getS X10 hx hZ hown (host := "") (oW hw 22 rfl) Via.refl e110 F146 (g := (mkF m 28 #[iv in_1, .val (.long lo_2), .second, .val (.long 1), .second, iv 1, .unset, .unset, .unset, .unset, .unset] [])) rfl (hb hby at_28)
      refine oS s150 ?_
      show own_G p e below (T147.setTop (mkF m 31 #[iv in_1, .val (.long lo_2), .second, .val (.long 1), .second, iv 1, .unset, .unset, .unset, .unset, .unset] [(.ref ob_4)])) _
      refine oS (fun _ => XS.goto X148.here hx rfl (pc0 := 31) (pc' := 37) rfl (hb hby at_31) (by decide) (by decide)) ?_
      show own_G p e below (T147.setTop (mkF m 37 #[iv in_1, .val (.long lo_2), .second, .val (.long 1), .second, iv 1, .unset, .unset, .unset, .unset, .unset] [(.ref ob_4)])) _
      refine oS (fun _ => XS.astore X148.here hx rfl (hb hby at_37) rfl rfl (l' := #[iv in_1, .val (.long lo_2), .second, .val (.long 1), .second, iv 1, rv ob_4, .unset, .unset, .unset, .unset]) rfl) ?_
      refine oS (fun _ => XS.aload X148.here hx rfl (hb hby at_39) rfl rfl) ?_
      refine oS (fun _ => XT.lloadN X148.here hx rfl (hb hby at_41) rfl) ?_
      have F175 : Exa Z h0 ob_4 "com/example/keelrate/keelrate/Averaging" := Exa.ext O0.2 I88
      obtain ⟨T167, h168, v169, L170, X171, e172, q173, s174⟩ := own_callV X148 hx hZ hown e149 (y := (⟨"com/example/keelrate/keelrate/Averaging", "weight", "(J)J"⟩ : MethodName)) (z := (⟨"com/example/keelrate/keelrate/Averaging", "weight", "(J)J"⟩ : MethodName)) (C := "com/example/keelrate/keelrate/Averaging") (b := ob_4) (oW hw 8 rfl) (oW hw 9 rfl) (notFace_of_selects (args := #[]) (mvT hZ (oW hw 11 rfl))) (oW hw 11 rfl) (oW hw 10 rfl) (oW hw 6 rfl) (oW hw 12 rfl) (by decide) F175 (W := 0) (own_rm8 l Z a0 hw [] ob_4 h0 n0 Z0 O0 I72 I88) (by decide) (by decide) (by decide) (by decide) (g := (mkF m 42 #[iv in_1, .val (.long lo_2), .second, .val (.long 1), .second, iv 1, rv ob_4, .unset, .unset, .unset, .unset] [(.long 1), (.ref ob_4)])) rfl (by rw [hml]; rfl) (argsL := [(.long 1)]) (rest := []) rfl (lenOf own_pd2 rfl) rfl (by show 2 * 0 + _ ≤ _; exact Nat.le_of_eq rfl) (hb hby at_42)
      refine oS s174 ?_
      obtain ⟨rfl, N176, K177⟩ := q173
      have N178 := Fr.app N109 N176
      have e179 := e172.trans K177
      show own_G p e below (T167.setTop (mkF m 45 #[iv in_1, .val (.long lo_2), .second, .val (.long 1), .second, iv 1, rv ob_4, .unset, .unset, .unset, .unset] [(.long 1)])) _
      refine oS (fun _ => XT.lstore X171.here hx rfl (hb hby at_45) rfl (l' := #[iv in_1, .val (.long lo_2), .second, .val (.long 1), .second, iv 1, rv ob_4, .val (.long 1), .second, .unset, .unset]) rfl) ?_
      refine oS (fun _ => XS.iload X171.here hx rfl (hb hby at_47) rfl) ?_
      refine oS (fun _ => XS.ifNo X171.here hx rfl (hb hby at_49) rfl (XT.i0_eq_f (by decide))) ?_
      show own_G p e below (T167.setTop (mkF m 52 #[iv in_1, .val (.long lo_2), .second, .val (.long 1), .second, iv 1, rv ob_4, .val (.long 1), .second, .unset, .unset] [])) _
      refine oS (fun _ => XT.lloadN X171.here hx rfl (hb hby at_52) rfl) ?_
      refine oS (fun _ => XS.goto X171.here hx rfl (pc0 := 53) (pc' := 57) rfl (hb hby at_53) (by decide) (by decide)) ?_
      show own_G p e below (T167.setTop (mkF m 57 #[iv in_1, .val (.long lo_2), .second, .val (.long 1), .second, iv 1, rv ob_4, .val (.long 1), .second, .unset, .unset] [(.long 1)])) _
      refine oS (fun _ => XT.lstore X171.here hx rfl (hb hby at_57) rfl (l' := #[iv in_1, .val (.long lo_2), .second, .val (.long 1), .second, iv 1, rv ob_4, .val (.long 1), .second, .val (.long 1), .second]) rfl) ?_
      refine oS (fun _ => XT.lload X171.here hx rfl (hb hby at_59) rfl) ?_
      refine oS (fun _ => XT.lload X171.here hx rfl (hb hby at_61) rfl) ?_
      refine oS (fun _ => XT.lcmp X171.here hx rfl (hb hby at_63) rfl) ?_
      show own_G p e below (T167.setTop (mkF m 64 #[iv in_1, .val (.long lo_2), .second, .val (.long 1), .second, iv 1, rv ob_4, .val (.long 1), .second, .val (.long 1), .second] [(.int (XT.cmpL 1 1))])) _
      refine oS (fun _ => XS.ifNo X171.here hx rfl (hb hby at_64) rfl (XT.ll_ne_f (by decide))) ?_
      show own_G p e below (T167.setTop (mkF m 67 #[iv in_1, .val (.long lo_2), .second, .val (.long 1), .second, iv 1, rv ob_4, .val (.long 1), .second, .val (.long 1), .second] [])) _
      refine oS (fun _ => XS.iconst X171.here hx rfl (hb hby at_67) ) ?_
      refine oS (fun _ => XS.goto X171.here hx rfl (pc0 := 68) (pc' := 72) rfl (hb hby at_68) (by decide) (by decide)) ?_
      show own_G p e below (T167.setTop (mkF m 72 #[iv in_1, .val (.long lo_2), .second, .val (.long 1), .second, iv 1, rv ob_4, .val (.long 1), .second, .val (.long 1), .second] [(.int 1)])) _
      exact own_retN X171 hx (t := .boolean) Bd.notSynchronized Bd.returns (by simp) (hb hby at_72) (by decide) e179 (by decide) (by decide) (⟨rfl, N178⟩)
set_option maxRecDepth 65536 in
set_option maxHeartbeats 40000000 in
theorem comes_1 {Post : Tables → Env → Array Value → State → Outcome → State → Prop} (hpost : ∀ tb e args s v u, (limb_1_1.after args s (.returned v) u = true ∧ limb_1_2.after args s (.returned v) u = true ∧ True) → FrameEnd s (.returned v) u (Jvm.fieldLocs frame_1_writes args s ++ Jvm.arrayLocs frame_1_arrays args s ++ Jvm.staticLocs frame_1_statics s) 0 0 → Post tb e args s (.returned v) u) :
    ArmFor flags0 classFile x code maxLocals ret World_1 tables_1 room_1 Calls_1 rest_1 Pre_1 Post := by
  intro l hfl _ _ p e ha hc hk s m args below hf hA hF happ hP
  obtain ⟨hcalls, hrest, hpre⟩ := hP
  obtain ⟨-, -, -, hnamed, -, -, -, hat⟩ := (Spec.applies_iff hf).mp happ
  obtain ⟨hg, hn⟩ := and_e (Cond.before_iff.mp (show (Jvm.Cond.and given_1 narrow_1).before args s = true from hpre))
  obtain ⟨g0, gg0⟩ := and_e hg
  obtain ⟨w0, w1, rfl⟩ : ∃ w0 w1 : Value, args = #[w0, w1] := by
    have hs : args.size = 2 := by simpa [Cond.value, given_1] using g0
    obtain ⟨L⟩ := args
    match L, hs with
    | [w0, w1], _ => exact ⟨w0, w1, rfl⟩
  have hw := fun d (hd : d ∈ tables_1) => atoms_spec (ws := Jvm.Cond.code x code maxLocals ret :: tables_1) hat d (List.mem_cons_of_mem _ hd)
  have hfit : Fit s := fun {y c} hc i hi => by
    obtain ⟨ha, rfl⟩ := Array.getElem?_eq_some_iff.mp hc
    have q := List.all_eq_true.mp ((Array.all_eq_true_iff_forall_mem.mp hF) _ (Array.getElem_mem ha)) i (List.mem_range.mpr hi)
    simpa [Array.getElem?_eq_getElem hi] using q
  obtain ⟨ga0, gg1⟩ := and_e gg0
  obtain ⟨in_1, ea0⟩ := is_v ga0
  obtain rfl : w0 = (.int in_1) := Option.some.inj ea0
  obtain ⟨lo_2, ea1⟩ := isL_v gg1
  obtain rfl : w1 = (.long lo_2) := Option.some.inj ea1
  obtain ⟨c0, r0⟩ := and_e hn
  obtain ⟨c1, r1⟩ := and_e r0
  obtain ⟨c2, c3⟩ := and_e r1
  obtain ⟨ob_3, ev_ob_3⟩ := exa_v c0
  obtain ⟨ob_4, ev_ob_4⟩ := exa_v c2
  obtain ⟨n, o, h1, h2, h3, _, L, rfl, ⟨rfl, N⟩, hq⟩ := own_rm1 l s _ hw tables_1 in_1 lo_2 ob_3 ob_4 s.heap s.heap.size (Nat.le_refl _) (Old.start s) (Sta.start ev_ob_3 (Or.inr ⟨(oW hw 6 rfl), (oW hw 7 rfl)⟩)) (own_fv ev_ob_3 (Term.int_eval 1) c1) (Exa.start ev_ob_3 c0) (Sta.start ev_ob_4 (Or.inr ⟨(oW hw 6 rfl), (oW hw 23 rfl)⟩)) (own_fv ev_ob_4 (Term.int_eval 0) c3) (Exa.start ev_ob_4 c2) p e ha hc hk s m _ below hf ((Spec.applies_iff_loose hf).mp happ).1 ⟨rfl, State.Warmed39.refl s, rfl⟩ trivial
  refine ⟨n, _, h1, h2, h3, hpost _ _ _ _ _ _ ⟨Cond.after_iff.mpr rfl, Cond.after_iff.mpr (eq_i res_at (Term.int_eval (1)) rfl), trivial⟩ ⟨hq.1, hq.2.1, (hq.2.2.sift fun y hy => Or.inr (N y hy)).mono (by decide) (by decide)⟩⟩
theorem main_1_1 : Claimed_1_1 := comes_1 fun _ _ _ _ _ _ h hF => ⟨h.1, hF⟩
theorem main_1_2 : Claimed_1_2 := comes_1 fun _ _ _ _ _ _ h hF => ⟨h.2.1, hF⟩
end Jvm.Pilot.@@N@@
namespace Jvm.Pilot.@@N@@
open Jvm Jvm.ClassFile Sem Op Lib Jvm.Free Jvm.Stand Jvm.Pilot.@@N@@.Jvm.D
/-! MADE BY PROGRAM (witnessworld.py) out of the Statement's table words and the real class files: 14 classes; the members and pool entries that the words name. The judged class is class 1, her method 1. -/
namespace start1
open Jvm.ClassFile
def u (s : String) : CpInfo := .utf8 (stringToUtf16 s)
/-- a pool by its gaps: so many unusable entries, then the entry; so many at the end -/
def gap : Nat → List CpInfo → List CpInfo
  | 0, r => r
  | n + 1, r => .unusable :: gap n r
def poolList (es : List (Nat × CpInfo)) (last : Nat) : List CpInfo := es.foldr (fun e r => gap e.1 (e.2 :: r)) (gap last [])
def pool (es : List (Nat × CpInfo)) (last : Nat) : Array CpInfo := ⟨poolList es last⟩
def fileOf (pool : Array CpInfo) (this : Nat) (attrs : Array Attribute := #[]) (ms : Array MethodInfo := #[]) (fl : Nat := 33) (sup : Nat := 0) (ifs : Array Nat := #[]) (fds : Array FieldInfo := #[]) : ClassFile where
  minorVersion := 0
  majorVersion := 65
  constantPool := pool
  accessFlags := fl
  thisClass := this
  superClass := sup
  interfaces := ifs
  fields := fds
  methods := ms
  attributes := attrs
def plain (name : String) (sup : Option ClassId) : Class where
  name := name
  kind := .ordinary
  loader := none
  accessFlags := 33
  super := sup
  interfaces := #[]
  cf := none
  fields := #[]
  methods := #[]
  instanceTypes := #[]
  staticTypes := #[]
  resolved := #[]
  callSites := []
  init := .initialized
  statics := none
  mirror := none

def pool0 : Array CpInfo := pool [(5, u "<init>"), (0, u "()V"), (1, .class_ 10), (1, u "java/lang/Object")] 113

def k0m0 : Method := { name := "<init>", desc := "()V", sig := { parameters := [], returnType := none }, accessFlags := 1, code := none }
/-- java/lang/Object -/
def k0 : Class := { plain "java/lang/Object" none with
  accessFlags := 33
  interfaces := #[]
  cf := some (fileOf pool0 8 #[] #[{ accessFlags := 1, nameIndex := 5, descriptorIndex := 6, attributes := #[] }] 33 0 #[] #[])
  fields := #[]
  methods := #[k0m0]
  instanceTypes := #[]
  staticTypes := #[]
  resolved := Array.replicate 124 none
  statics := none }

def pool1 : Array CpInfo := pool [(2, .class_ 4), (1, u "java/lang/Object"), (0, u "<init>"), (0, u "()V"), (2, .long 9223372036854775807), (1, .methodref 12 13), (0, .class_ 14), (0, .nameAndType 15 16), (0, u "java/lang/Math"), (0, u "max"), (0, u "(JJ)J"), (0, .fieldref 18 19), (0, .class_ 20), (0, .nameAndType 21 22), (0, u "com/example/keelrate/keelrate/Averaging"), (0, u "LINEAR"), (0, u "Lcom/example/keelrate/keelrate/Averaging;"), (0, .fieldref 18 24), (0, .nameAndType 25 22), (0, u "UNIFORM"), (0, .methodref 18 27), (0, .nameAndType 28 29), (0, u "weight"), (0, u "(J)J"), (0, .class_ 31), (0, u "com/example/keelrate/keelrate/AveragingWeightPinLaw"), (2, u "law"), (0, u "(IJ)Z")] 3

def k1m0 : Method := { name := "<init>", desc := "()V", sig := { parameters := [], returnType := none }, accessFlags := 1, code := none }
def k1c1 : Code := { maxStack := 6, maxLocals := 11, code := code, exceptionTable := #[], attributes := #[] }
def k1m1 : Method := { name := "law", desc := "(IJ)Z", sig := { parameters := [.int, .long], returnType := some .boolean }, accessFlags := 9, code := some k1c1 }
/-- com/example/keelrate/keelrate/AveragingWeightPinLaw -/
def k1 : Class := { plain "com/example/keelrate/keelrate/AveragingWeightPinLaw" (some 0) with
  accessFlags := 49
  interfaces := #[]
  cf := some (fileOf pool1 30 #[] #[{ accessFlags := 1, nameIndex := 5, descriptorIndex := 6, attributes := #[] }, { accessFlags := 9, nameIndex := 34, descriptorIndex := 35, attributes := #[] }] 49 2 #[] #[])
  fields := #[]
  methods := #[k1m0, k1m1]
  instanceTypes := #[]
  staticTypes := #[]
  resolved := Array.replicate 39 none
  statics := none }

def pool2 : Array CpInfo := pool [(1, .class_ 2), (0, u "java/lang/Math"), (1, .class_ 6), (1, u "java/lang/Object"), (0, u "<init>"), (0, u "()V"), (89, .class_ 100), (1, u "java/lang/Math$RandomNumberGeneratorHolder"), (20, u "(JJ)J"), (50, u "negativeZeroFloatBits"), (0, u "J"), (2, u "negativeZeroDoubleBits"), (21, u "max"), (46, u "$assertionsDisabled"), (0, u "Z"), (91, u "twoToTheDoubleScaleDown"), (0, u "D"), (4, u "twoToTheDoubleScaleUp"), (9, u "E"), (3, u "PI"), (2, u "TAU"), (2, u "DEGREES_TO_RADIANS"), (0, u "RADIANS_TO_DEGREES")] 94

def k2m0 : Method := { name := "<init>", desc := "()V", sig := { parameters := [], returnType := none }, accessFlags := 2, code := none }
def k2c1 : Code := { maxStack := 4, maxLocals := 4, code := jdk_29_method_66_code, exceptionTable := #[], attributes := #[] }
def k2m1 : Method := { name := "max", desc := "(JJ)J", sig := { parameters := [.long, .long], returnType := some .long }, accessFlags := 9, code := some k2c1 }
/-- java/lang/Math -/
def k2 : Class := { plain "java/lang/Math" (some 0) with
  accessFlags := 49
  interfaces := #[]
  cf := some (fileOf pool2 1 #[.nestMembers #[98]] #[{ accessFlags := 2, nameIndex := 7, descriptorIndex := 8, attributes := #[] }, { accessFlags := 9, nameIndex := 198, descriptorIndex := 121, attributes := #[] }] 49 4 #[] #[{ accessFlags := 25, nameIndex := 354, descriptorIndex := 339, attributes := #[] }, { accessFlags := 25, nameIndex := 358, descriptorIndex := 339, attributes := #[] }, { accessFlags := 25, nameIndex := 361, descriptorIndex := 339, attributes := #[] }, { accessFlags := 26, nameIndex := 364, descriptorIndex := 339, attributes := #[] }, { accessFlags := 26, nameIndex := 365, descriptorIndex := 339, attributes := #[] }, { accessFlags := 26, nameIndex := 172, descriptorIndex := 173, attributes := #[] }, { accessFlags := 26, nameIndex := 176, descriptorIndex := 173, attributes := #[] }, { accessFlags := 8, nameIndex := 344, descriptorIndex := 339, attributes := #[] }, { accessFlags := 8, nameIndex := 338, descriptorIndex := 339, attributes := #[] }, { accessFlags := 4120, nameIndex := 245, descriptorIndex := 246, attributes := #[] }])
  fields := #[{ name := "E", type := .double, accessFlags := 25, slot := 0, constantValue := 0 }, { name := "PI", type := .double, accessFlags := 25, slot := 1, constantValue := 0 }, { name := "TAU", type := .double, accessFlags := 25, slot := 2, constantValue := 0 }, { name := "DEGREES_TO_RADIANS", type := .double, accessFlags := 26, slot := 3, constantValue := 0 }, { name := "RADIANS_TO_DEGREES", type := .double, accessFlags := 26, slot := 4, constantValue := 0 }, { name := "negativeZeroFloatBits", type := .long, accessFlags := 26, slot := 5, constantValue := 0 }, { name := "negativeZeroDoubleBits", type := .long, accessFlags := 26, slot := 6, constantValue := 0 }, { name := "twoToTheDoubleScaleUp", type := .double, accessFlags := 8, slot := 7, constantValue := 0 }, { name := "twoToTheDoubleScaleDown", type := .double, accessFlags := 8, slot := 8, constantValue := 0 }, { name := "$assertionsDisabled", type := .boolean, accessFlags := 4120, slot := 9, constantValue := 0 }]
  methods := #[k2m0, k2m1]
  instanceTypes := #[]
  staticTypes := #[.double, .double, .double, .double, .double, .long, .long, .double, .double, .boolean]
  resolved := Array.replicate 460 none
  statics := none }

def pool3 : Array CpInfo := pool [(1, .class_ 2), (0, u "java/lang/constant/Constable"), (0, .class_ 4), (0, u "java/lang/Object")] 6

/-- java/lang/constant/Constable -/
def k3 : Class := { plain "java/lang/constant/Constable" (some 0) with
  accessFlags := 1537
  interfaces := #[]
  cf := some (fileOf pool3 1 #[] #[] 1537 3 #[] #[])
  fields := #[]
  methods := #[]
  instanceTypes := #[]
  staticTypes := #[]
  resolved := Array.replicate 11 none
  statics := none }

def pool4 : Array CpInfo := pool [(1, .class_ 2), (0, u "java/lang/Comparable"), (0, .class_ 4), (0, u "java/lang/Object")] 7

/-- java/lang/Comparable -/
def k4 : Class := { plain "java/lang/Comparable" (some 0) with
  accessFlags := 1537
  interfaces := #[]
  cf := some (fileOf pool4 1 #[] #[] 1537 3 #[] #[])
  fields := #[]
  methods := #[]
  instanceTypes := #[]
  staticTypes := #[]
  resolved := Array.replicate 12 none
  statics := none }

def pool5 : Array CpInfo := pool [(1, .class_ 2), (0, u "java/io/Serializable"), (0, .class_ 4), (0, u "java/lang/Object")] 2

/-- java/io/Serializable -/
def k5 : Class := { plain "java/io/Serializable" (some 0) with
  accessFlags := 1537
  interfaces := #[]
  cf := some (fileOf pool5 1 #[] #[] 1537 3 #[] #[])
  fields := #[]
  methods := #[]
  instanceTypes := #[]
  staticTypes := #[]
  resolved := Array.replicate 7 none
  statics := none }

def pool6 : Array CpInfo := pool [(2, .class_ 4), (1, u "java/lang/Enum"), (0, u "name"), (0, u "Ljava/lang/String;"), (0, .fieldref 2 8), (0, .nameAndType 9 10), (0, u "ordinal"), (0, u "I"), (1, .class_ 14), (1, u "java/lang/Object"), (4, u "hash"), (86, .class_ 108), (1, u "java/lang/Enum$EnumDesc"), (2, .class_ 112), (0, u "java/lang/constant/Constable"), (0, .class_ 114), (0, u "java/lang/Comparable"), (0, .class_ 116), (0, u "java/io/Serializable"), (9, u "()I")] 77

def k6c0 : Code := { maxStack := 1, maxLocals := 1, code := jdk_37_method_2_code, exceptionTable := #[], attributes := #[] }
def k6m0 : Method := { name := "ordinal", desc := "()I", sig := { parameters := [], returnType := some .int }, accessFlags := 17, code := some k6c0 }
/-- java/lang/Enum -/
def k6 : Class := { plain "java/lang/Enum" (some 0) with
  accessFlags := 1057
  interfaces := #[3, 4, 5]
  cf := some (fileOf pool6 2 #[.nestMembers #[106]] #[{ accessFlags := 17, nameIndex := 9, descriptorIndex := 126, attributes := #[] }] 1057 12 #[111, 113, 115] #[{ accessFlags := 18, nameIndex := 5, descriptorIndex := 6, attributes := #[] }, { accessFlags := 18, nameIndex := 9, descriptorIndex := 10, attributes := #[] }, { accessFlags := 2, nameIndex := 19, descriptorIndex := 10, attributes := #[] }])
  fields := #[{ name := "name", type := (.object "java/lang/String"), accessFlags := 18, slot := 0, constantValue := 0 }, { name := "ordinal", type := .int, accessFlags := 18, slot := 1, constantValue := 0 }, { name := "hash", type := .int, accessFlags := 2, slot := 2, constantValue := 0 }]
  methods := #[k6m0]
  instanceTypes := #[(.object "java/lang/String"), .int, .int]
  staticTypes := #[]
  resolved := Array.replicate 204 none
  statics := none }

def pool7 : Array CpInfo := pool [(54, .class_ 55), (0, u "com/example/keelrate/keelrate/Keyword"), (12, .class_ 69), (0, u "java/lang/Object")] 50

/-- com/example/keelrate/keelrate/Keyword -/
def k7 : Class := { plain "com/example/keelrate/keelrate/Keyword" (some 0) with
  accessFlags := 1537
  interfaces := #[]
  cf := some (fileOf pool7 54 #[] #[] 1537 68 #[] #[])
  fields := #[]
  methods := #[]
  instanceTypes := #[]
  staticTypes := #[]
  resolved := Array.replicate 120 none
  statics := none }

def pool8 : Array CpInfo := pool [(1, .class_ 2), (0, u "com/example/keelrate/keelrate/Averaging"), (2, u "LINEAR"), (0, u "Lcom/example/keelrate/keelrate/Averaging;"), (2, u "UNIFORM"), (2, u "$VALUES"), (0, u "[Lcom/example/keelrate/keelrate/Averaging;"), (6, .class_ 22), (1, u "java/lang/Enum"), (8, u "word"), (0, u "Ljava/lang/String;"), (0, .methodref 1 34), (0, .nameAndType 35 36), (0, u "ordinal"), (0, u "()I"), (18, .class_ 56), (0, u "com/example/keelrate/keelrate/Keyword"), (9, u "weight"), (0, u "(J)J")] 6

def k8c0 : Code := { maxStack := 4, maxLocals := 3, code := prog_1_method_5_code, exceptionTable := #[], attributes := #[] }
def k8m0 : Method := { name := "weight", desc := "(J)J", sig := { parameters := [.long], returnType := some .long }, accessFlags := 1, code := some k8c0 }
/-- com/example/keelrate/keelrate/Averaging -/
def k8 : Class := { plain "com/example/keelrate/keelrate/Averaging" (some 6) with
  accessFlags := 16433
  interfaces := #[7]
  cf := some (fileOf pool8 1 #[] #[{ accessFlags := 1, nameIndex := 66, descriptorIndex := 67, attributes := #[] }] 16433 20 #[55] #[{ accessFlags := 16409, nameIndex := 5, descriptorIndex := 6, attributes := #[] }, { accessFlags := 16409, nameIndex := 9, descriptorIndex := 6, attributes := #[] }, { accessFlags := 18, nameIndex := 31, descriptorIndex := 32, attributes := #[] }, { accessFlags := 4122, nameIndex := 12, descriptorIndex := 13, attributes := #[] }])
  fields := #[{ name := "LINEAR", type := (.object "com/example/keelrate/keelrate/Averaging"), accessFlags := 16409, slot := 0, constantValue := 0 }, { name := "UNIFORM", type := (.object "com/example/keelrate/keelrate/Averaging"), accessFlags := 16409, slot := 1, constantValue := 0 }, { name := "word", type := (.object "java/lang/String"), accessFlags := 18, slot := 3, constantValue := 0 }, { name := "$VALUES", type := (.array (.object "com/example/keelrate/keelrate/Averaging")), accessFlags := 4122, slot := 2, constantValue := 0 }]
  methods := #[k8m0]
  instanceTypes := #[(.object "java/lang/String"), .int, .int, (.object "java/lang/String")]
  staticTypes := #[(.object "com/example/keelrate/keelrate/Averaging"), (.object "com/example/keelrate/keelrate/Averaging"), (.array (.object "com/example/keelrate/keelrate/Averaging"))]
  resolved := Array.replicate 74 none
  statics := some 0 }

def pool9 : Array CpInfo := pool [(1, u "java/lang/Cloneable"), (0, .class_ 1), (0, u "java/lang/Object"), (0, .class_ 3)] 3

/-- java/lang/Cloneable -/
def k9 : Class := { plain "java/lang/Cloneable" (some 0) with
  accessFlags := 1537
  interfaces := #[]
  cf := some (fileOf pool9 2 #[] #[] 1537 4 #[] #[])
  fields := #[]
  methods := #[]
  instanceTypes := #[]
  staticTypes := #[]
  resolved := Array.replicate 8 none
  statics := none }

/-- the primitive byte -/
def k10 : Class := { plain "byte" none with kind := .primitive 'B', accessFlags := 0x411 }
/-- [B -/
def k11 : Class := { plain "[B" (some 0) with kind := .array 10 .byte, interfaces := #[9, 5], accessFlags := 1041 }

/-- the primitive int -/
def k12 : Class := { plain "int" none with kind := .primitive 'I', accessFlags := 0x411 }
/-- [I -/
def k13 : Class := { plain "[I" (some 0) with kind := .array 12 .int, interfaces := #[9, 5], accessFlags := 1041 }

def heap : Heap := #[{ cls := 8, slots := #[.ref 2, .ref 1, .null], vm := .statics 8 },
  { cls := 8, slots := #[.null, .int 1, .int 0, .null], vm := .none },
  { cls := 8, slots := #[.null, .int 0, .int 0, .null], vm := .none }]
def classes : Array Class := #[k0, k1, k2, k3, k4, k5, k6, k7, k8, k9, k10, k11, k12, k13]
def interned : List (Array UInt16 × Addr) := []
def slotsUsed : Nat := 11
def theMethod : MethodId := ⟨1, 1⟩
def args0 : Array Value := #[.int 5, .long 7]
def aboutOver (below : List Frame) : State where
  vm := { classes := classes, interned := interned.toArray }
  heap := heap
  slotsUsed := slotsUsed
  threads := #[{ frames := .invoking theMethod args0 :: below }]
def below0 : List Frame := [.native { method := ⟨0, 0⟩, args := #[] }]
def about1 : State := aboutOver below0
def p0 : Program := .bare "" "" ""
def e0 : Env := launch0.env 0 0 0
theorem w_frames : about1.frames = Frame.invoking theMethod args0 :: below0 := rfl
set_option maxRecDepth 65536 in
theorem w_args : argsFit about1.vm theMethod args0 = true := by decide +kernel
set_option maxRecDepth 65536 in
theorem w_heap : heapFits about1 = true := by decide +kernel
set_option maxRecDepth 65536 in
theorem w_runnable : about1.curStatus? = some .runnable := by decide +kernel
set_option maxRecDepth 65536 in
theorem w_alone : about1.alone = true := by decide +kernel
set_option maxRecDepth 65536 in
theorem w_named : about1.methodNamed? x = some theMethod := by decide +kernel
set_option maxRecDepth 65536 in
theorem w_hears : about1.hears theMethod below0 = true := by decide +kernel
set_option maxRecDepth 65536 in
theorem w_ripe : about1.ripe theMethod args0 below0 = true := by decide +kernel
theorem w_running : about1.status = .running := rfl
set_option maxRecDepth 65536 in
theorem w_room : about1.hasRoom e0.platform room_1 = true :=
  launch0.hasRoom_least _ room_1 (by decide +kernel) (by decide +kernel) (by decide +kernel) (by decide +kernel) (by decide +kernel) (by decide +kernel)
theorem allAtoms_all (ts : List Jvm.Cond) (a : Array Jvm.Value) (st : Jvm.State) : (allAtoms ts).before a st = ts.all (fun c => c.before a st) := by
  induction ts with
  | nil => rfl
  | cons c t ih =>
    show (Jvm.Cond.and c (allAtoms t)).before a st = _
    rw [Jvm.Cond.before_and, ih, List.all_cons]
def words1 : List Jvm.Cond := Jvm.Cond.code x code maxLocals ret :: tables_1
/-- a 'code' word, met by the world's own term for the bytes: nothing is compared byte by byte -/
theorem code_word {y : MethodName} {bytes : ByteArray} {mx : Nat} {rt : Option FieldType} {a : Array Value} {s : State} {m : MethodId} {meth : Method} {c : Code} (h1 : s.methodNamed? y = some m) (h2 : s.vm.method? m = some meth) (h3 : meth.code = some c) (h4 : c.code = bytes)
    (h5 : (c.maxLocals == mx && c.exceptionTable.isEmpty && decide (c.maxStack ≤ mostOperands) && decide (meth.sig.returnType = rt) && !meth.locks && decide (parseMethodDescriptor y.desc = some meth.sig)) = true) : (Jvm.Cond.code y bytes mx rt).before a s = true := by
  simp only [Bool.and_eq_true, beq_iff_eq, Bool.not_eq_true', decide_eq_true_eq] at h5
  obtain ⟨⟨⟨⟨⟨g1, g2⟩, g3⟩, g4⟩, g5⟩, g6⟩ := h5
  simp [Cond.before, Cond.holds, Cond.value, h1, h2, h3, h4, g1, g2, g3, g4, g5, g6]
def isCode : Jvm.Cond → Bool
  | .code _ _ _ _ => true
  | _ => false
theorem all_split {L : List Jvm.Cond} {P : Jvm.Cond → Bool} (h1 : L.all (fun c => isCode c || P c) = true) (h2 : ∀ c ∈ L.filter isCode, P c = true) : L.all P = true := by
  refine List.all_eq_true.mpr fun c hc => ?_
  have h := List.all_eq_true.mp h1 c hc
  rcases Bool.eq_false_or_eq_true (isCode c) with hi | hi
  · exact h2 c (List.mem_filter.mpr ⟨hc, hi⟩)
  · simpa [hi] using h
set_option maxRecDepth 65536 in
theorem w_c0 : (Jvm.Cond.code x code maxLocals ret).before args0 about1 = true := code_word (m := ⟨1, 1⟩) (meth := k1m1) (c := k1c1) (by decide +kernel) rfl rfl rfl (by decide +kernel)
set_option maxRecDepth 65536 in
theorem w_c1 : (Jvm.Cond.code ({ cls := "java/lang/Math", name := "max", desc := "(JJ)J" } : Jvm.MethodName) jdk_29_method_66_code (4 : Nat) (Option.some Jvm.ClassFile.FieldType.long)).before args0 about1 = true := code_word (m := ⟨2, 1⟩) (meth := k2m1) (c := k2c1) (by decide +kernel) rfl rfl rfl (by decide +kernel)
set_option maxRecDepth 65536 in
theorem w_c2 : (Jvm.Cond.code ({ cls := "com/example/keelrate/keelrate/Averaging", name := "weight", desc := "(J)J" } : Jvm.MethodName) prog_1_method_5_code (3 : Nat) (Option.some Jvm.ClassFile.FieldType.long)).before args0 about1 = true := code_word (m := ⟨8, 0⟩) (meth := k8m0) (c := k8c0) (by decide +kernel) rfl rfl rfl (by decide +kernel)
set_option maxRecDepth 65536 in
theorem w_c3 : (Jvm.Cond.code ({ cls := "java/lang/Enum", name := "ordinal", desc := "()I" } : Jvm.MethodName) jdk_37_method_2_code (1 : Nat) (Option.some Jvm.ClassFile.FieldType.int)).before args0 about1 = true := code_word (m := ⟨6, 0⟩) (meth := k6m0) (c := k6c0) (by decide +kernel) rfl rfl rfl (by decide +kernel)
def codes1 : List Jvm.Cond := [Jvm.Cond.code x code maxLocals ret, Jvm.Cond.code ({ cls := "java/lang/Math", name := "max", desc := "(JJ)J" } : Jvm.MethodName) jdk_29_method_66_code (4 : Nat) (Option.some Jvm.ClassFile.FieldType.long), Jvm.Cond.code ({ cls := "com/example/keelrate/keelrate/Averaging", name := "weight", desc := "(J)J" } : Jvm.MethodName) prog_1_method_5_code (3 : Nat) (Option.some Jvm.ClassFile.FieldType.long), Jvm.Cond.code ({ cls := "java/lang/Enum", name := "ordinal", desc := "()I" } : Jvm.MethodName) jdk_37_method_2_code (1 : Nat) (Option.some Jvm.ClassFile.FieldType.int)]
set_option maxRecDepth 65536 in
theorem codes_eq : words1.filter isCode = codes1 := rfl
theorem w_codes : ∀ c ∈ words1.filter isCode, c.before args0 about1 = true := by
  rw [codes_eq]
  intro c hc
  simp only [codes1, List.mem_cons, List.not_mem_nil, or_false] at hc
  rcases hc with rfl | rfl | rfl | rfl
  · exact w_c0
  · exact w_c1
  · exact w_c2
  · exact w_c3
set_option maxRecDepth 65536 in
theorem w_t1 : (words1.take 24).all (fun c => isCode c || c.before args0 about1) = true := by decide +kernel
set_option maxRecDepth 65536 in
theorem w_t2 : (words1.drop 24).all (fun c => isCode c || c.before args0 about1) = true := by decide +kernel
theorem w_tables : (allAtoms (Jvm.Cond.code x code maxLocals ret :: tables_1)).before args0 about1 = true := by
  rw [allAtoms_all]
  show words1.all (fun c => c.before args0 about1) = true
  refine all_split ?_ w_codes
  rw [← List.take_append_drop 24 words1, List.all_append, w_t1, w_t2]
  rfl
set_option maxRecDepth 65536 in
theorem w_case : (Jvm.Cond.and given_1 narrow_1).before args0 about1 = true := by decide +kernel
theorem w_applies : (headSpec (Jvm.Cond.code x code maxLocals ret :: tables_1) room_1).applies x e0.platform about1 = true :=
  (Spec.applies_iff w_frames).mpr ⟨w_running, w_runnable, w_alone, w_named, w_hears, w_ripe, w_room, w_tables⟩
theorem atStart : AtStart classFile x code maxLocals ret World_1 tables_1 room_1 Calls_1 rest_1 Pre_1 launch0 p0 e0 about1 theMethod args0 below0 :=
  ⟨lists_1, trivial, launch0.admits_env _ _ _, launch0.least_env, fairChoices_fair.cas, fairChoices_fair.clock, w_frames, w_args, w_heap, w_applies, trivial, trivial, w_case⟩
end start1
theorem witness_1 : WitnessClaimed_1 := ⟨start1.p0, start1.e0, start1.about1, start1.theMethod, start1.args0, start1.below0, start1.atStart⟩
end Jvm.Pilot.@@N@@
