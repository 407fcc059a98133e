import JvmDerived
import JvmDerived.Pilot.@@N@@Statement
import JvmDerived.Pilot.@@N@@Code
set_option linter.unusedVariables false
set_option linter.unusedSimpArgs false
namespace Jvm.Pilot.@@N@@
open Jvm Jvm.ClassFile Sem Op Lib Jvm.Free Jvm.Stand Jvm.LawKit Jvm.RoadKit Bundle Jvm.Pilot.@@N@@.Jvm.D
section Own
variable {p : Program} {l : Launch} {e : Env} {R : Room} {s : State} {m : MethodId} {args : Array Value} {below : List Frame} {meth : Method} {c : Code} {T T' : State} {locs : List Loc} {cells slots : Nat} {g g' : JFrame} {Φ : State → Outcome → Prop}
/-- the run from T, at the frame g, comes to an end of which Φ speaks -/
def own_Go (p : Program) (e : Env) (below : List Frame) (Φ : State → Outcome → Prop) (T : State) (g : JFrame) : Prop :=
  ∃ s₂ o, Steps p.tables e below (T.setTop g) s₂ ∧ s₂.status = .running ∧ Ended s₂ below o ∧ Φ s₂ o
theorem own_st (k : ∀ target, Steps p.tables e below (T'.setTop g') target → Steps p.tables e below (T.setTop g) target) (h : own_Go p e below Φ T' g') : own_Go p e below Φ T g := by
  obtain ⟨s2, o, h1, h2⟩ := h
  exact ⟨s2, o, k _ h1, h2⟩
theorem own_g (T' : State) (g' : JFrame) (k : ∀ target, Steps p.tables e below (T'.setTop g') target → Steps p.tables e below (T.setTop g) target) (h : own_Go p e below Φ T' g') : own_Go p e below Φ T g := own_st k h
theorem own_ts (k : Steps p.tables e below (T.setTop g) (T'.setTop g')) (h : own_Go p e below Φ T' g') : own_Go p e below Φ T g := own_st (fun _ q => k.trans q) h
theorem own_t (T' : State) (g' : JFrame) (k : Steps p.tables e below (T.setTop g) (T'.setTop g')) (h : own_Go p e below Φ T' g') : own_Go p e below Φ T g := own_ts k h
theorem own_in (q : g = g') (h : own_Go p e below Φ T g') : ∃ s₂ o, Steps p.tables e below (T.setTop g) s₂ ∧ s₂.status = .running ∧ Ended s₂ below o ∧ Φ s₂ o := by
  subst q; exact h
theorem own_out {Q : Option Value → Heap → List Loc → Prop} {kC kS : Nat} (X : Stand p l e R s m args below meth c T locs cells slots) (hl : meth.locks = false) {v : Option Value} (hv : meth.sig.returnType = none → v = none)
    (k : ∀ fs, (∀ (f : JFrame) (acts : List Action), f.method = m → f.locked = none → f.entered = [] → (doReturn e (T.setTop f) acts v).1 = T.setFrames fs) → Steps p.tables e below (T.setTop g) (T.setFrames fs)) (q : Q v T.heap locs) (hc : cells ≤ kC) (hs : slots ≤ kS) :
    own_Go p e below (fun s₂ o => ∃ v L, o = .returned v ∧ Q v s₂.heap L ∧ FrameEnd s o s₂ L kC kS) T g := by
  obtain ⟨fs, hr, hrun, hended, hW, hsame⟩ := X.leave (v := v) hv hl
  exact ⟨_, _, k fs hr, hrun, hended, _, _, rfl, q, ⟨_, rfl⟩, hW, hsame.mono hc hs⟩
theorem own_retI (X : Stand p l e R s m args below meth c T locs cells slots) (hx : p.tables.exec = Jvm.exec) {pc : Nat} {Ls : Array Slot} {z : Int32} {rest : List Value} (hret : meth.sig.returnType = some .int) (hd : decode c.code pc = .ok (.ireturn, 1)) {fs : List Frame}
    (hl : ∀ (f : JFrame) (acts : List Action), f.method = m → f.locked = none → f.entered = [] → (doReturn e (T.setTop f) acts (some (.int z))).1 = T.setFrames fs) : Steps p.tables e below (T.setTop (mkF m pc Ls (.int z :: rest))) (T.setFrames fs) :=
  retOut X hx hret rfl (Or.inl ⟨rfl, Or.inl rfl, z, rfl⟩) hd hl
theorem own_retA (X : Stand p l e R s m args below meth c T locs cells slots) (hx : p.tables.exec = Jvm.exec) {pc : Nat} {Ls : Array Slot} {w : Value} {t : FieldType} {rest : List Value} (hret : meth.sig.returnType = some t) (ht : t.isReference = true) (hw : w.isRef = true) (hn : narrow t w = w) (hd : decode c.code pc = .ok (.areturn, 1)) {fs : List Frame}
    (hl : ∀ (f : JFrame) (acts : List Action), f.method = m → f.locked = none → f.entered = [] → (doReturn e (T.setTop f) acts (some w)).1 = T.setFrames fs) : Steps p.tables e below (T.setTop (mkF m pc Ls (w :: rest))) (T.setFrames fs) :=
  retOut X hx hret hn (Or.inr (Or.inr (Or.inr (Or.inr ⟨rfl, ht, hw⟩)))) hd hl
abbrev own_R (f c s l : Nat) : Room := { frames := f, cells := c, slots := s, locals := l }
abbrev own_H (a0 : Array Value) (Z : State) : Prop := ∀ d ∈ tables_1, d.before a0 Z = true
abbrev own_Met (l : Launch) (y : MethodName) (ws : List Jvm.Cond) (rm : Room) (Z : State) (as' : Array Value) (h0 : Heap) (Q : Option Value → Heap → List Loc → Prop) : Prop :=
  MetFree l y (head1 ws rm) (fun a U => a = as' ∧ Z.Warmed39 U.vm ∧ U.heap = h0) (fun _ _ _ _ _ => True) (fun _ U o U' => ∃ v L, o = .returned v ∧ Q v U'.heap L ∧ FrameEnd U o U' L rm.cells rm.slots)
abbrev own_M (l : Launch) (y : MethodName) (code : ByteArray) (maxL : Nat) (ret : Option FieldType) (ws : List Jvm.Cond) (rm : Room) (Z : State) (as' : Array Value) (h0 : Heap) (Q : Option Value → Heap → List Loc → Prop) : Prop := own_Met l y (Jvm.Cond.code y code maxL ret :: ws) rm Z as' h0 Q
theorem own_body {l : Launch} {y : MethodName} {code : ByteArray} {maxL : Nat} {ret : Option FieldType} {ws : List Jvm.Cond} {rm : Room} {Z : State} {as' : Array Value} {h0 : Heap} {Q : Option Value → Heap → List Loc → Prop} (hp : plainFor y = true) {g' : MethodId → JFrame} (ef : ∀ m, entryFrame m as' maxL = g' m)
    (k : ∀ (p : Program) (e : Env) (s : State) (m : MethodId) (below : List Frame) (meth : Method) (c : Code) (s₁ : State), BodyLoose p l y (head1 (Jvm.Cond.code y code maxL ret :: ws) rm) code maxL ret e s m as' below meth c s₁ → p.tables.exec = Jvm.exec → c.code = code → c.maxLocals = maxL → s.vm.findClass y.cls = some m.cls → meth.name = y.name →
      Stand p l e rm s m as' below meth c s₁ [] 0 0 → s₁.heap = h0 → Z.Warmed39 s.vm → own_Go p e below (fun s₂ o => ∃ v L, o = .returned v ∧ Q v s₂.heap L ∧ FrameEnd s o s₂ L rm.cells rm.slots) s₁ (g' m)) :
    own_Met l y (Jvm.Cond.code y code maxL ret :: ws) rm Z as' h0 Q := by
  refine MetFree.of_bodySF hp hisR ?_
  intro p e s m args below meth c s₁ Bd hml0 hP hK
  obtain ⟨rfl, hZ, hh⟩ := hP
  exact own_in (ef m) (k p e s m below meth c s₁ Bd Bd.exec Bd.bytes hml0 (findClass_of_methodNamed Bd.named) (name_of_methodNamed Bd.named Bd.method).1 (Stand.of_body Bd) (by rw [← hh, Bd.state]; rfl) hZ)
section Calls
variable {Z : State} {a0 : Array Value} {h : Heap} {own C : String} {index maxL W : Nat} {y z : MethodName} {bytes : ByteArray} {ret : Option FieldType} {rm : Room} {as' : Array Value} {Q : Option Value → Heap → List Loc → Prop} {argsL rest : List Value} {b : Addr}
theorem own_cS (X : Stand p l e R s m args below meth c T locs cells slots) (hx : p.tables.exec = Jvm.exec) (hZ : Z.Warmed39 s.vm) (hown : s.vm.findClass own = some m.cls) (w1 : (Jvm.Cond.methodLink own index y).before a0 Z = true) (w2 : (Jvm.Cond.static y).before a0 Z = true) (w3 : (Jvm.Cond.initialized y.cls).before a0 Z = true) (w4 : (Jvm.Cond.code y bytes maxL ret).before a0 Z = true)
    (hM : own_Met l y [Jvm.Cond.code y bytes maxL ret] rm Z as' h Q) (eT : T.heap = h) (hlen : ∀ sig, parseMethodDescriptor y.desc = some sig → argsL.length = sig.parameters.length) (hg : g.method = m) (hstack : g.stack = argsL.reverse ++ rest) (hdg : decode c.code g.pc = .ok (.invokestatic index, 3)) (hsize : g.locals.size = c.maxLocals) (hW : 2 * g.monitorRoom + (rest.map fun v => v.category).sum ≤ W) (has : argsL.toArray = as')
    (hy : y.cls ≠ "java/lang/invoke/MethodHandle" ∧ y.cls ≠ "java/lang/invoke/VarHandle") (hf : rm.frames + 1 ≤ R.frames) (hl : W + (maxL + 11) + rm.locals ≤ R.locals) (hc : cells + rm.cells ≤ R.cells) (hs : slots + rm.slots ≤ R.slots) :
    ∃ v T' L, Stand p l e R s m args below meth c T' (locs ++ L) (cells + rm.cells) (slots + rm.slots) ∧ Q v T'.heap L ∧ Steps p.tables e below (T.setTop g) (T'.setTop { g with pc := g.pc + 3, stack := v.toList ++ rest }) := by
  obtain ⟨v, _, ⟨T', L, k, n⟩, -, X', ⟨Lc, hQ, l1, l2, l3⟩, st⟩ := Jvm.LawKit.callS X hx hown (mvT hZ w1) (mvT hZ w2) (mvT hZ w3) (mvT hZ w4) hy (backOf (W := W) hM hZ w4 w3 hf hl) hg hsize hlen hstack hW hdg (fun _ _ => ⟨has, eT, hc, hs⟩)
  dsimp only [Pt.U, Pt.locs, Pt.cells, Pt.slots] at X' l1 l2 l3 st hQ
  subst l1 l2 l3
  exact ⟨v, T', Lc, X', hQ, st _ (Steps.refl _)⟩
theorem own_cI (X : Stand p l e R s m args below meth c T locs cells slots) (hx : p.tables.exec = Jvm.exec) (hZ : Z.Warmed39 s.vm) (hown : s.vm.findClass own = some m.cls) (w1 : (Jvm.Cond.methodLink own index y).before a0 Z = true) (w2 : (Jvm.Cond.instanceMethod y).before a0 Z = true) (w3 : (Jvm.Cond.initialized y.cls).before a0 Z = true) (w4 : (Jvm.Cond.code y bytes maxL none).before a0 Z = true)
    (hM : own_Met l y [Jvm.Cond.code y bytes maxL none] rm Z as' h Q) (eT : T.heap = h) (hlen : ∀ sig, parseMethodDescriptor y.desc = some sig → argsL.length = sig.parameters.length) (hg : g.method = m) (hstack : g.stack = argsL.reverse ++ .ref b :: rest) (hdg : decode c.code g.pc = .ok (.invokespecial index, 3)) (hsize : g.locals.size = c.maxLocals) (hW : 2 * g.monitorRoom + (rest.map fun v => v.category).sum ≤ W) (has : (.ref b :: argsL).toArray = as')
    (hi : y.name = "<init>") (hy : y.cls ≠ "java/lang/invoke/MethodHandle" ∧ y.cls ≠ "java/lang/invoke/VarHandle") (hf : rm.frames + 1 ≤ R.frames) (hl : W + (maxL + 11) + rm.locals ≤ R.locals) (hc : cells + rm.cells ≤ R.cells) (hs : slots + rm.slots ≤ R.slots) :
    ∃ v T' L, Stand p l e R s m args below meth c T' (locs ++ L) (cells + rm.cells) (slots + rm.slots) ∧ Q v T'.heap L ∧ Steps p.tables e below (T.setTop g) (T'.setTop { g with pc := g.pc + 3, stack := v.toList ++ rest }) := by
  obtain ⟨v, _, ⟨T', L, k, n⟩, -, X', ⟨Lc, hQ, l1, l2, l3⟩, st⟩ := X.specialBack hx hi hown (mvT hZ w1) (mvT hZ w2) (mvT hZ w4) hy (backOf (W := W) hM hZ w4 w3 hf hl) hg hsize (Steps.refl _) (a := b) hlen hstack hW hdg (fun _ _ => ⟨has, eT, hc, hs⟩)
  dsimp only [Pt.U, Pt.locs, Pt.cells, Pt.slots] at X' l1 l2 l3 st hQ
  subst l1 l2 l3
  exact ⟨v, T', Lc, X', hQ, st⟩
theorem own_cV (X : Stand p l e R s m args below meth c T locs cells slots) (hx : p.tables.exec = Jvm.exec) (hZ : Z.Warmed39 s.vm) (hown : s.vm.findClass own = some m.cls) (w1 : (Jvm.Cond.methodLink own index y).before a0 Z = true) (w2 : (Jvm.Cond.declares y).before a0 Z = true) (w5 : (Jvm.Cond.selects C y y).before a0 Z = true) (w6 : (Jvm.Cond.instanceMethod y).before a0 Z = true) (w3 : (Jvm.Cond.initialized y.cls).before a0 Z = true) (w4 : (Jvm.Cond.code y bytes maxL ret).before a0 Z = true)
    (hM : own_Met l y [Jvm.Cond.code y bytes maxL ret] rm Z as' h Q) (eT : T.heap = h) (E : Exa Z h b C) (hlen : ∀ sig, parseMethodDescriptor y.desc = some sig → argsL.length = sig.parameters.length) (hg : g.method = m) (hstack : g.stack = argsL.reverse ++ .ref b :: rest) (hdg : decode c.code g.pc = .ok (.invokevirtual index, 3)) (hsize : g.locals.size = c.maxLocals) (hW : 2 * g.monitorRoom + (rest.map fun v => v.category).sum ≤ W) (has : (.ref b :: argsL).toArray = as')
    (hy : y.cls ≠ "java/lang/invoke/MethodHandle" ∧ y.cls ≠ "java/lang/invoke/VarHandle") (hf : rm.frames + 1 ≤ R.frames) (hl : W + (maxL + 11) + rm.locals ≤ R.locals) (hc : cells + rm.cells ≤ R.cells) (hs : slots + rm.slots ≤ R.slots) :
    ∃ v T' L, Stand p l e R s m args below meth c T' (locs ++ L) (cells + rm.cells) (slots + rm.slots) ∧ Q v T'.heap L ∧ Steps p.tables e below (T.setTop g) (T'.setTop { g with pc := g.pc + 3, stack := v.toList ++ rest }) := by
  obtain ⟨cq, kq, qa, qb, qc⟩ := isOf hZ eT E
  obtain ⟨v, _, ⟨T', L, k, n⟩, -, X', ⟨Lc, hQ, l1, l2, l3⟩, st⟩ := X.virtualBack hx hown (mvT hZ w1) (mvT hZ w2) (notFace_of_selects (args := #[]) (mvT hZ w5)) (mvT hZ w5) (mvT hZ w6) hy (backOf (W := W) hM hZ w4 w3 hf hl) qa qc hg hsize (Steps.refl _) hlen hstack hW hdg (fun _ _ => ⟨has, eT, hc, hs⟩)
  dsimp only [Pt.U, Pt.locs, Pt.cells, Pt.slots] at X' l1 l2 l3 st hQ
  subst l1 l2 l3
  exact ⟨v, T', Lc, X', hQ, st⟩
theorem own_cF (X : Stand p l e R s m args below meth c T locs cells slots) (hx : p.tables.exec = Jvm.exec) (hZ : Z.Warmed39 s.vm) (hown : s.vm.findClass own = some m.cls) (w1 : (Jvm.Cond.methodLink own index y).before a0 Z = true) (w2 : (Jvm.Cond.declares y).before a0 Z = true) (w7 : (Jvm.Cond.interfaceMethod y.cls y.cls y.name y.desc).before args s = true) (w5 : (Jvm.Cond.selects C y z).before a0 Z = true) (w6 : (Jvm.Cond.instanceMethod z).before a0 Z = true) (w8 : (Jvm.Cond.publicMethod z).before a0 Z = true) (w9 : (Jvm.Cond.unhidden C y.name y.desc).before a0 Z = true) (w10 : (Jvm.Cond.castable C y.cls).before a0 Z = true) (w3 : (Jvm.Cond.initialized z.cls).before a0 Z = true) (w4 : (Jvm.Cond.code z bytes maxL ret).before a0 Z = true)
    (hM : own_Met l z [Jvm.Cond.code z bytes maxL ret] rm Z as' h Q) (eT : T.heap = h) (E : Exa Z h b C) (hlen : ∀ sig, parseMethodDescriptor y.desc = some sig → argsL.length = sig.parameters.length) {cnt : Nat} (hg : g.method = m) (hstack : g.stack = argsL.reverse ++ .ref b :: rest) (hdg : decode c.code g.pc = .ok (.invokeinterface index cnt, 5)) (hsize : g.locals.size = c.maxLocals) (hW : 2 * g.monitorRoom + (rest.map fun v => v.category).sum ≤ W) (has : (.ref b :: argsL).toArray = as')
    (hy : y.cls ≠ "java/lang/invoke/MethodHandle" ∧ y.cls ≠ "java/lang/invoke/VarHandle") (hf : rm.frames + 1 ≤ R.frames) (hl : W + (maxL + 11) + rm.locals ≤ R.locals) (hc : cells + rm.cells ≤ R.cells) (hs : slots + rm.slots ≤ R.slots) :
    ∃ v T' L, Stand p l e R s m args below meth c T' (locs ++ L) (cells + rm.cells) (slots + rm.slots) ∧ Q v T'.heap L ∧ Steps p.tables e below (T.setTop g) (T'.setTop { g with pc := g.pc + 5, stack := v.toList ++ rest }) := by
  obtain ⟨cq, kq, qa, qb, qc⟩ := isOf hZ eT E
  obtain ⟨v, _, ⟨T', L, k, n⟩, -, X', ⟨Lc, hQ, l1, l2, l3⟩, st⟩ := X.interfaceBack hx hown (mvT hZ w1) (mvT hZ w2) w7 (mvT hZ w5) (mvT hZ w6) (mvT hZ w8) (mvT hZ w9) (mvT hZ w10) hy (backOf (W := W) hM hZ w4 w3 hf hl) qa qb qc hg hsize (Steps.refl _) hlen hstack hW hdg (fun _ _ => ⟨has, eT, hc, hs⟩)
  dsimp only [Pt.U, Pt.locs, Pt.cells, Pt.slots] at X' l1 l2 l3 st hQ
  subst l1 l2 l3
  exact ⟨v, T', Lc, X', hQ, st⟩
theorem own_cP (X : Stand p l e R s m args below meth c T locs cells slots) (hx : p.tables.exec = Jvm.exec) (hZ : Z.Warmed39 s.vm) (hown : s.vm.findClass own = some m.cls) (w1 : (Jvm.Cond.methodLink own index y).before a0 Z = true) (w2 : (Jvm.Cond.privateMethod y).before a0 Z = true) (w5 : (Jvm.Cond.selects y.cls y y).before a0 Z = true) (w6 : (Jvm.Cond.instanceMethod y).before a0 Z = true) (w3 : (Jvm.Cond.initialized y.cls).before a0 Z = true) (w4 : (Jvm.Cond.code y bytes maxL ret).before a0 Z = true)
    (hM : own_Met l y [Jvm.Cond.code y bytes maxL ret] rm Z as' h Q) (eT : T.heap = h) (E : Exa Z h b C) (hlen : ∀ sig, parseMethodDescriptor y.desc = some sig → argsL.length = sig.parameters.length) (hg : g.method = m) (hstack : g.stack = argsL.reverse ++ .ref b :: rest) (hdg : decode c.code g.pc = .ok (.invokevirtual index, 3)) (hsize : g.locals.size = c.maxLocals) (hW : 2 * g.monitorRoom + (rest.map fun v => v.category).sum ≤ W) (has : (.ref b :: argsL).toArray = as')
    (hy : y.cls ≠ "java/lang/invoke/MethodHandle" ∧ y.cls ≠ "java/lang/invoke/VarHandle") (hf : rm.frames + 1 ≤ R.frames) (hl : W + (maxL + 11) + rm.locals ≤ R.locals) (hc : cells + rm.cells ≤ R.cells) (hs : slots + rm.slots ≤ R.slots) :
    ∃ v T' L, Stand p l e R s m args below meth c T' (locs ++ L) (cells + rm.cells) (slots + rm.slots) ∧ Q v T'.heap L ∧ Steps p.tables e below (T.setTop g) (T'.setTop { g with pc := g.pc + 3, stack := v.toList ++ rest }) := by
  obtain ⟨cq, q1, q2⟩ := E.cell
  obtain ⟨v, _, ⟨T', L, k, n⟩, -, X', ⟨Lc, hQ, l1, l2, l3⟩, st⟩ := X.privateBack hx hown (mvT hZ w1) (mvT hZ w6) (mvT hZ w5) (Cond.privateMethod_at (mvP hZ w2 (args := #[]))) (mvT hZ w4) hy (backOf (W := W) hM hZ w4 w3 hf hl) hg hsize (Steps.refl _) (a := b) (by rw [eT]; exact q1) q2 hlen hstack hW hdg (fun _ _ => ⟨has, eT, hc, hs⟩)
  dsimp only [Pt.U, Pt.locs, Pt.cells, Pt.slots] at X' l1 l2 l3 st hQ
  subst l1 l2 l3
  exact ⟨v, T', Lc, X', hQ, st⟩
end Calls
theorem own_reX {a b : Vm} (X : Stand p l e R ((s.setVm a).setVm b) m args below meth c T locs cells slots) : Stand p l e R (s.setVm b) m args below meth c T locs cells slots := X
theorem own_outW {Q : Option Value → Heap → List Loc → Prop} {kC kS : Nat} {vm0 : Vm} (X : Stand p l e R (s.setVm vm0) m args below meth c T locs cells slots) {n : Nat} (hS : s.Since vm0 n) (hn : n ≤ T.heap.size) (hl : meth.locks = false) {v : Option Value} (hv : meth.sig.returnType = none → v = none)
    (k : ∀ fs, (∀ (f : JFrame) (acts : List Action), f.method = m → f.locked = none → f.entered = [] → (doReturn e (T.setTop f) acts v).1 = T.setFrames fs) → Steps p.tables e below (T.setTop g) (T.setFrames fs)) (q : Q v T.heap locs) (hc : cells ≤ kC) (hs : slots ≤ kS) :
    own_Go p e below (fun s₂ o => ∃ v L, o = .returned v ∧ Q v s₂.heap L ∧ ReturnedEndW s o s₂ L kC kS) T g := by
  obtain ⟨fs, hr, hrun, hended, h1, h2, h3, h4⟩ := X.leaveW hS hn (v := v) hv hl
  exact ⟨_, _, k fs hr, hrun, hended, _, _, rfl, q, h1, h2, h3, h4.mono hc hs⟩
theorem own_alen (X : Stand p l e R s m args below meth c T locs cells slots) (hx : p.tables.exec = Jvm.exec) {Z : State} (hZ : Z.Warmed39 s.vm) {h : Heap} (eT : T.heap = h) {a : Addr} {k : ClassId} {ty : FieldType} {z : Int32} {vs : List Value} {dv : Value} (F : Arv Z h a k ty z vs dv) {g : JFrame} (hg : g.method = m) {rest : List Value} (hs : g.stack = .ref a :: rest)
    (hd : decode c.code g.pc = .ok (.arraylength, 1)) : ∀ target, Steps p.tables e below (T.setTop { g with pc := g.pc + 1, stack := .int z :: rest }) target → Steps p.tables e below (T.setTop g) target := by
  obtain ⟨cl, A, q, S, N, H, G⟩ := F
  rw [← len_of S N]
  exact X.arraylength hx (by rw [eT]; exact A.1) (State.isArrayOf_alike hZ.alike A.2.1) hg hs hd
theorem own_mvMN {Z s : State} {a0 args : Array Value} {own host : String} {index : Nat} {y : MethodName} (hZ : Z.Warmed39 s.vm) (w : (Jvm.Cond.methodLinkNest own index y host).before a0 Z = true) : (Jvm.Cond.methodLinkNest own index y host).before args s = true := (Cond.methodLinkNest_wide hZ w :)
theorem own_old {Z : State} {n0 : Nat} {h : Heap} (O : Old Z n0 h) : n0 ≤ h.size := O.1 ▸ O.2.1
end Own
def own_BD (Z : State) (e : Addr) : Prop := Exa Z Z.heap e "java/math/BigDecimal" ∧ Fld Z Z.heap e "java/math/BigDecimal" "scale" "I" (.int (0 : Int32)) ∧ ∃ c : Int64, (c = 0 ∨ c = 1) ∧ Fld Z Z.heap e "java/math/BigDecimal" "intCompact" "J" (.long c)
def own_max (a b : Int32) : Int32 := if a < b then b else a
def own_min (a b : Int32) : Int32 := if b < a then b else a
def own_Mir (Z : State) (C : String) (mr : Addr) : Prop := ∃ (c : ClassId) (k : Class), Z.vm.findClass C = some c ∧ Z.vm.classes[c]? = some k ∧ k.mirror = some mr
section Own2
variable {p : Program} {l : Launch} {e : Env} {R : Room} {s : State} {m : MethodId} {args : Array Value} {below : List Frame} {meth : Method} {c : Code} {T : State} {locs : List Loc} {cells slots : Nat} {Z : State} {a0 : Array Value} {h : Heap}
theorem own_gcls (X : Stand p l e R s m args below meth c T locs cells slots) (hx : p.tables.exec = Jvm.exec) (hZ : Z.Warmed39 s.vm) {own C : String} {index : Nat} (hown : s.vm.findClass own = some m.cls)
    (w1 : (Jvm.Cond.methodLink own index ⟨"java/lang/Object", "getClass", "()Ljava/lang/Class;"⟩).before a0 Z = true) (w2 : (Jvm.Cond.declares ⟨"java/lang/Object", "getClass", "()Ljava/lang/Class;"⟩).before a0 Z = true) (w4 : (Jvm.Cond.selects C ⟨"java/lang/Object", "getClass", "()Ljava/lang/Class;"⟩ ⟨"java/lang/Object", "getClass", "()Ljava/lang/Class;"⟩).before a0 Z = true)
    (w5 : (Jvm.Cond.instanceMethod ⟨"java/lang/Object", "getClass", "()Ljava/lang/Class;"⟩).before a0 Z = true) (w6 : (Jvm.Cond.native ⟨"java/lang/Object", "getClass", "()Ljava/lang/Class;"⟩).before a0 Z = true) (eT : T.heap = h) {a : Addr} (E : Exa Z h a C) {mr : Addr} (M : own_Mir Z C mr)
    {g : JFrame} (hg : g.method = m) (hsize : g.locals.size = c.maxLocals) {rest : List Value} (hs : g.stack = .ref a :: rest) (hd : decode c.code g.pc = .ok (.invokevirtual index, 3)) (hf : 1 ≤ R.frames) {W : Nat} (hW : 2 * g.monitorRoom + (rest.map fun v => v.category).sum ≤ W) (hl : W + (nativeFrameWords "java/lang/Object" "getClass" 1 + 11) ≤ R.locals) :
    ∃ T', Stand p l e R s m args below meth c T' locs cells slots ∧ T'.heap = h ∧ ∀ target, Steps p.tables e below (T'.setTop { g with pc := g.pc + 3, stack := .ref mr :: rest }) target → Steps p.tables e below (T.setTop g) target := by
  obtain ⟨cB, kB, i1, i2, i3⟩ := isOf hZ eT E
  obtain ⟨cc, kc, m1, m2, m3⟩ := M
  have i1' := i1
  rw [hZ.alike.findClass] at i1'
  cases i1'.symm.trans m1
  obtain ⟨k', q, ek⟩ := hZ.alike.2.2 _ _ m2
  obtain ⟨vm', X', st⟩ := X.getClassOf hx hown (mvT hZ w1) (mvT hZ w2) (notFace_of_selects (args := #[]) (mvT hZ w4)) (mvT hZ w4) (mvT hZ w5) (mvT hZ w6) i1 i3 q (by rw [ek]; exact m3) hg hsize hs hd hf (by omega)
  exact ⟨_, X', eT, st⟩
theorem own_ldcM (X : Stand p l e R s m args below meth c T locs cells slots) (hx : p.tables.exec = Jvm.exec) (hZ : Z.Warmed39 s.vm) {own C : String} {index : Nat} (hown : s.vm.findClass own = some m.cls) (w : (Jvm.Cond.classLink own index C).before a0 Z = true) (eT : T.heap = h) {mr : Addr} (M : own_Mir Z C mr)
    {g : JFrame} (hg : g.method = m) (hd : decode c.code g.pc = .ok (.ldc index, 2)) :
    ∃ T', Stand p l e R s m args below meth c T' locs cells slots ∧ T'.heap = h ∧ ∀ target, Steps p.tables e below (T'.setTop { g with pc := g.pc + 2, stack := .ref mr :: g.stack }) target → Steps p.tables e below (T.setTop g) target := by
  obtain ⟨cc, kc, m1, m2, m3⟩ := M
  obtain ⟨k', q, ek⟩ := hZ.alike.2.2 _ _ m2
  have f1 : s.vm.findClass C = some cc := by rw [hZ.alike.findClass]; exact m1
  have f3 : k'.mirror = some mr := by rw [ek]; exact m3
  obtain ⟨vm', X', st⟩ := X.ldcMirror hx hown (mvT hZ w) (a := mr) (by simp [Term.eval, f1, q, f3]) hg hd
  exact ⟨_, X', eT, st⟩
theorem own_NSroot {O K : String} {kk : Nat} (w : (Jvm.Cond.noSuperclass O).before a0 Z = true) (wk : (Jvm.Cond.instantiable K kk).before a0 Z = true) (hn : O ≠ K) : NS Z O K := by
  obtain ⟨c, k, h1, h2, h3, -, -⟩ := Cond.noSuperclass_spec w
  obtain ⟨t, kt, g1, -⟩ := Cond.instantiable_spec wk
  have ne := ids_ne h1 g1 hn
  refine ⟨c, t, h1, g1, fun fuel => ?_⟩
  cases fuel with
  | zero => rfl
  | succ f => simp [Vm.isSubclassAux, ne, h2, h3]
theorem own_NSno {C S K : String} {kk : Nat} (w : (Jvm.Cond.superclass C S).before a0 Z = true) (wk : (Jvm.Cond.instantiable K kk).before a0 Z = true) (n : NS Z C K) (hn : C ≠ K) : ∃ c t, Z.vm.findClass C = some c ∧ Z.vm.findClass K = some t ∧ Z.vm.assignable c t = false := by
  obtain ⟨c, t, h0, g0, n3⟩ := n
  obtain ⟨p, k, kp, h1, h2, h3, h4, h5, -, h7⟩ := Cond.superclass_spec h0 w
  obtain ⟨t', kt, g1, g2, g3, g4, -⟩ := Cond.instantiable_spec wk
  have g5 : kt.isInterface = false := (Bool.or_eq_false_iff.mp g4).1
  cases g0.symm.trans g1
  have ne := ids_ne h0 g0 hn
  refine ⟨c, t, h0, g0, ?_⟩
  show Z.vm.assignableAux (255 + 1) c t = false
  simp [Vm.assignableAux, ne, h2, g2, h5, g3, g5, Vm.isSubclass, n3]
end Own2
theorem d36_0 : decode jdk_29_method_69_code 0 = .ok (.iload_n 0, 1) := by decide +kernel
theorem d36_1 : decode jdk_29_method_69_code 1 = .ok (.iload_n 1, 1) := by decide +kernel
theorem d36_2 : decode jdk_29_method_69_code 2 = .ok (.if_icmp .gt 7, 3) := by decide +kernel
theorem d36_9 : decode jdk_29_method_69_code 9 = .ok (.iload_n 1, 1) := by decide +kernel
theorem d36_10 : decode jdk_29_method_69_code 10 = .ok (.ireturn, 1) := by decide +kernel
theorem d36_5 : decode jdk_29_method_69_code 5 = .ok (.iload_n 0, 1) := by decide +kernel
theorem d36_6 : decode jdk_29_method_69_code 6 = .ok (.goto 4, 3) := by decide +kernel
theorem ef_min (m : MethodId) (x0 : Int32) (x1 : Int32) : entryFrame m #[(.int x0), (.int x1)] 2 = mkF m 0 #[.val (.int x0), .val (.int x1)] [] := by first | (simp [entryFrame, mkF, argsToLocals, Value.category]; done) | rfl
def Qmin (Z : State) (x y : Int32) (h0 : Heap) (n0 : Nat) (v : Option Value) (h : Heap) (L : List Loc) : Prop := v = some (.int (own_min x y)) ∧ Fr n0 L ∧ h = h0
set_option maxRecDepth 65536 in
set_option maxHeartbeats 40000000 in
theorem rmmin (l : Launch) (Z : State) (a0 : Array Value) (hw : own_H a0 Z) (ws : List Jvm.Cond) (x y : Int32) (h0 : Heap) (n0 : Nat) (O0 : Old Z n0 h0) :
    own_M l (⟨"java/lang/Math", "min", "(II)I"⟩ : MethodName) jdk_29_method_69_code 2 (some .int) ws (own_R 0 0 0 0) Z #[(.int x), (.int y)] h0 (Qmin Z x y h0 n0) := by
  refine own_body (Jvm.Free.JP.mathPlain rfl (by decide +kernel)) (fun m => ef_min m x y) ?_
  intro p e s m below meth c s₁ Bd hx hby hml hown hnm X0 e0 hZ
  have N0 := Fr.nil n0
  refine own_g s₁ (mkF m 2 #[iv x, iv y] [(.int y), (.int x)]) (fun _ kq => XS.iloadN X0.here hx rfl (hb hby d36_0) rfl (XS.iloadN X0.here hx rfl (hb hby d36_1) rfl kq)) ?_
  by_cases hq : y < x
  · refine own_g s₁ (mkF m 10 #[iv x, iv y] [(.int y)]) (fun _ kq => XS.icmpYes X0.here hx rfl (pc0 := 2) (pc' := 9) rfl (hb hby d36_2) rfl (tlt (hq : y < x)).2.2.1 (by decide) (by decide) (XS.iloadN X0.here hx rfl (hb hby d36_9) rfl kq)) ?_
    refine own_out X0 Bd.notSynchronized (v := (some (.int y))) (fun h => by rw [Bd.returns] at h; cases h) (fun fs hr => own_retI X0 hx Bd.returns (hb hby d36_10) hr) ?_ (by decide) (by decide)
    rw [e0]
    exact ⟨by unfold own_min; rw [if_pos hq], N0, rfl⟩
  · refine own_g s₁ (mkF m 10 #[iv x, iv y] [(.int x)]) (fun _ kq => XS.icmpNo X0.here hx rfl (hb hby d36_2) rfl (flt (hq : ¬ (y < x))).2.2.1 (XS.iloadN X0.here hx rfl (hb hby d36_5) rfl (XS.goto X0.here hx rfl (pc0 := 6) (pc' := 10) rfl (hb hby d36_6) (by decide) (by decide) kq))) ?_
    refine own_out X0 Bd.notSynchronized (v := (some (.int x))) (fun h => by rw [Bd.returns] at h; cases h) (fun fs hr => own_retI X0 hx Bd.returns (hb hby d36_10) hr) ?_ (by decide) (by decide)
    rw [e0]
    exact ⟨by unfold own_min; rw [if_neg hq], N0, rfl⟩
theorem d10_0 : decode jdk_29_method_65_code 0 = .ok (.iload_n 0, 1) := by decide +kernel
theorem d10_1 : decode jdk_29_method_65_code 1 = .ok (.iload_n 1, 1) := by decide +kernel
theorem d10_2 : decode jdk_29_method_65_code 2 = .ok (.if_icmp .lt 7, 3) := by decide +kernel
theorem d10_9 : decode jdk_29_method_65_code 9 = .ok (.iload_n 1, 1) := by decide +kernel
theorem d10_10 : decode jdk_29_method_65_code 10 = .ok (.ireturn, 1) := by decide +kernel
theorem d10_5 : decode jdk_29_method_65_code 5 = .ok (.iload_n 0, 1) := by decide +kernel
theorem d10_6 : decode jdk_29_method_65_code 6 = .ok (.goto 4, 3) := by decide +kernel
theorem ef_max (m : MethodId) (x0 : Int32) (x1 : Int32) : entryFrame m #[(.int x0), (.int x1)] 2 = mkF m 0 #[.val (.int x0), .val (.int x1)] [] := by first | (simp [entryFrame, mkF, argsToLocals, Value.category]; done) | rfl
def Qmax (Z : State) (x y : Int32) (h0 : Heap) (n0 : Nat) (v : Option Value) (h : Heap) (L : List Loc) : Prop := v = some (.int (own_max x y)) ∧ Fr n0 L ∧ h = h0
set_option maxRecDepth 65536 in
set_option maxHeartbeats 40000000 in
theorem rmmax (l : Launch) (Z : State) (a0 : Array Value) (hw : own_H a0 Z) (ws : List Jvm.Cond) (x y : Int32) (h0 : Heap) (n0 : Nat) (O0 : Old Z n0 h0) :
    own_M l (⟨"java/lang/Math", "max", "(II)I"⟩ : MethodName) jdk_29_method_65_code 2 (some .int) ws (own_R 0 0 0 0) Z #[(.int x), (.int y)] h0 (Qmax Z x y h0 n0) := by
  refine own_body (Jvm.Free.JP.mathPlain rfl (by decide +kernel)) (fun m => ef_max m x y) ?_
  intro p e s m below meth c s₁ Bd hx hby hml hown hnm X0 e0 hZ
  have N0 := Fr.nil n0
  refine own_g s₁ (mkF m 2 #[iv x, iv y] [(.int y), (.int x)]) (fun _ kq => XS.iloadN X0.here hx rfl (hb hby d10_0) rfl (XS.iloadN X0.here hx rfl (hb hby d10_1) rfl kq)) ?_
  by_cases hq : x < y
  · refine own_g s₁ (mkF m 10 #[iv x, iv y] [(.int y)]) (fun _ kq => XS.icmpYes X0.here hx rfl (pc0 := 2) (pc' := 9) rfl (hb hby d10_2) rfl (tlt (hq : x < y)).1 (by decide) (by decide) (XS.iloadN X0.here hx rfl (hb hby d10_9) rfl kq)) ?_
    refine own_out X0 Bd.notSynchronized (v := (some (.int y))) (fun h => by rw [Bd.returns] at h; cases h) (fun fs hr => own_retI X0 hx Bd.returns (hb hby d10_10) hr) ?_ (by decide) (by decide)
    rw [e0]
    exact ⟨by unfold own_max; rw [if_pos hq], N0, rfl⟩
  · refine own_g s₁ (mkF m 10 #[iv x, iv y] [(.int x)]) (fun _ kq => XS.icmpNo X0.here hx rfl (hb hby d10_2) rfl (flt (hq : ¬ (x < y))).1 (XS.iloadN X0.here hx rfl (hb hby d10_5) rfl (XS.goto X0.here hx rfl (pc0 := 6) (pc' := 10) rfl (hb hby d10_6) (by decide) (by decide) kq))) ?_
    refine own_out X0 Bd.notSynchronized (v := (some (.int x))) (fun h => by rw [Bd.returns] at h; cases h) (fun fs hr => own_retI X0 hx Bd.returns (hb hby d10_10) hr) ?_ (by decide) (by decide)
    rw [e0]
    exact ⟨by unfold own_max; rw [if_neg hq], N0, rfl⟩
theorem d12_0 : decode jdk_30_method_1_code 0 = .ok (.aload_n 0, 1) := by decide +kernel
theorem d12_1 : decode jdk_30_method_1_code 1 = .ok (.invokespecial 1, 3) := by decide +kernel
def own_W86 {a0 Z} (hw : own_H a0 Z) := hw _ (List.mem_of_getElem? (i := 86) rfl)
def own_W29 {a0 Z} (hw : own_H a0 Z) := hw _ (List.mem_of_getElem? (i := 29) rfl)
def own_W30 {a0 Z} (hw : own_H a0 Z) := hw _ (List.mem_of_getElem? (i := 30) rfl)
theorem d12_4 : decode jdk_30_method_1_code 4 = .ok (.return_, 1) := by decide +kernel
theorem ef_rec (m : MethodId) (x0 : Addr) : entryFrame m #[(.ref x0)] 1 = mkF m 0 #[.val (.ref x0)] [] := by first | (simp [entryFrame, mkF, argsToLocals, Value.category]; done) | rfl
def Qrec (Z : State) (a1 : Addr) (h0 : Heap) (n0 : Nat) (v : Option Value) (h : Heap) (L : List Loc) : Prop := v = none ∧ Fr n0 L ∧ h = h0
theorem pn_java_lang_Record : plainName "java/lang/Record" = true := by first | (simp [plainName, overriddenIn]; done) | decide +kernel
set_option maxRecDepth 65536 in
set_option maxHeartbeats 40000000 in
theorem rmrec (l : Launch) (Z : State) (a0 : Array Value) (hw : own_H a0 Z) (ws : List Jvm.Cond) (a1 : Addr) (h0 : Heap) (n0 : Nat) (O0 : Old Z n0 h0) :
    own_M l (⟨"java/lang/Record", "<init>", "()V"⟩ : MethodName) jdk_30_method_1_code 1 none ws (own_R 1 0 0 12) Z #[(.ref a1)] h0 (Qrec Z a1 h0 n0) := by
  refine own_body (plainFor_of_name pn_java_lang_Record) (fun m => ef_rec m a1) ?_
  intro p e s m below meth c s₁ Bd hx hby hml hown hnm X0 e0 hZ
  have N0 := Fr.nil n0
  refine own_g s₁ (mkF m 1 #[rv a1] [(.ref a1)]) (fun _ kq => XS.aloadN X0.here hx rfl (hb hby d12_0) rfl rfl kq) ?_
  obtain ⟨T1, X1, e1, st1⟩ := initO X0 hx hZ hown (own_W86 hw) (own_W29 hw) (own_W30 hw) e0 (g := (mkF m 1 #[rv a1] [(.ref a1)])) rfl (by rw [hml]; rfl) rfl (hb hby d12_1) (by decide) (W := 0) (by show 2 * 0 + _ ≤ _; exact Nat.le_of_eq rfl) (by decide)
  refine own_g T1 (mkF m 4 #[rv a1] []) st1 ?_
  refine own_out X1 Bd.notSynchronized (v := none) (fun _ => rfl) (fun fs hr => X1.returnOut hx Bd.returns (hb hby d12_4) hr) ?_ (by decide) (by decide)
  rw [e1]
  exact ⟨rfl, N0, rfl⟩
theorem d4_0 : decode jdk_22_method_1_code 0 = .ok (.aload_n 0, 1) := by decide +kernel
theorem d4_1 : decode jdk_22_method_1_code 1 = .ok (.invokespecial 1, 3) := by decide +kernel
def own_W28 {a0 Z} (hw : own_H a0 Z) := hw _ (List.mem_of_getElem? (i := 28) rfl)
theorem d4_4 : decode jdk_22_method_1_code 4 = .ok (.return_, 1) := by decide +kernel
theorem ef_aci (m : MethodId) (x0 : Addr) : entryFrame m #[(.ref x0)] 1 = mkF m 0 #[.val (.ref x0)] [] := by first | (simp [entryFrame, mkF, argsToLocals, Value.category]; done) | rfl
def Qaci (Z : State) (a1 : Addr) (h0 : Heap) (n0 : Nat) (v : Option Value) (h : Heap) (L : List Loc) : Prop := v = none ∧ Fr n0 L ∧ h = h0
theorem pn_java_util_AbstractCollection : plainName "java/util/AbstractCollection" = true := by first | (simp [plainName, overriddenIn]; done) | decide +kernel
set_option maxRecDepth 65536 in
set_option maxHeartbeats 40000000 in
theorem rmaci (l : Launch) (Z : State) (a0 : Array Value) (hw : own_H a0 Z) (ws : List Jvm.Cond) (a1 : Addr) (h0 : Heap) (n0 : Nat) (O0 : Old Z n0 h0) :
    own_M l (⟨"java/util/AbstractCollection", "<init>", "()V"⟩ : MethodName) jdk_22_method_1_code 1 none ws (own_R 1 0 0 12) Z #[(.ref a1)] h0 (Qaci Z a1 h0 n0) := by
  refine own_body (plainFor_of_name pn_java_util_AbstractCollection) (fun m => ef_aci m a1) ?_
  intro p e s m below meth c s₁ Bd hx hby hml hown hnm X0 e0 hZ
  have N0 := Fr.nil n0
  refine own_g s₁ (mkF m 1 #[rv a1] [(.ref a1)]) (fun _ kq => XS.aloadN X0.here hx rfl (hb hby d4_0) rfl rfl kq) ?_
  obtain ⟨T1, X1, e1, st1⟩ := initO X0 hx hZ hown (own_W28 hw) (own_W29 hw) (own_W30 hw) e0 (g := (mkF m 1 #[rv a1] [(.ref a1)])) rfl (by rw [hml]; rfl) rfl (hb hby d4_1) (by decide) (W := 0) (by show 2 * 0 + _ ≤ _; exact Nat.le_of_eq rfl) (by decide)
  refine own_g T1 (mkF m 4 #[rv a1] []) st1 ?_
  refine own_out X1 Bd.notSynchronized (v := none) (fun _ => rfl) (fun fs hr => X1.returnOut hx Bd.returns (hb hby d4_4) hr) ?_ (by decide) (by decide)
  rw [e1]
  exact ⟨rfl, N0, rfl⟩
theorem d42_0 : decode jdk_47_method_1_code 0 = .ok (.aload_n 0, 1) := by decide +kernel
theorem d42_1 : decode jdk_47_method_1_code 1 = .ok (.invokespecial 1, 3) := by decide +kernel
def own_W27 {a0 Z} (hw : own_H a0 Z) := hw _ (List.mem_of_getElem? (i := 27) rfl)
def own_W271 {a0 Z} (hw : own_H a0 Z) := hw _ (List.mem_of_getElem? (i := 271) rfl)
def own_W26 {a0 Z} (hw : own_H a0 Z) := hw _ (List.mem_of_getElem? (i := 26) rfl)
theorem pd_V_167 : parseMethodDescriptor "()V" = some ⟨[], none⟩ := by decide +kernel
def own_W23 {a0 Z} (hw : own_H a0 Z) := hw _ (List.mem_of_getElem? (i := 23) rfl)
theorem d42_4 : decode jdk_47_method_1_code 4 = .ok (.return_, 1) := by decide +kernel
theorem ef_aimc (m : MethodId) (x0 : Addr) : entryFrame m #[(.ref x0)] 1 = mkF m 0 #[.val (.ref x0)] [] := by first | (simp [entryFrame, mkF, argsToLocals, Value.category]; done) | rfl
def Qaimc (Z : State) (a1 : Addr) (h0 : Heap) (n0 : Nat) (v : Option Value) (h : Heap) (L : List Loc) : Prop := v = none ∧ Fr n0 L ∧ h = h0
theorem pn_java_util_ImmutableCollections_AbstractImmutableCollection : plainName "java/util/ImmutableCollections$AbstractImmutableCollection" = true := by first | (simp [plainName, overriddenIn]; done) | decide +kernel
set_option maxRecDepth 65536 in
set_option maxHeartbeats 40000000 in
theorem rmaimc (l : Launch) (Z : State) (a0 : Array Value) (hw : own_H a0 Z) (ws : List Jvm.Cond) (a1 : Addr) (h0 : Heap) (n0 : Nat) (O0 : Old Z n0 h0) :
    own_M l (⟨"java/util/ImmutableCollections$AbstractImmutableCollection", "<init>", "()V"⟩ : MethodName) jdk_47_method_1_code 1 none ws (own_R 2 0 0 24) Z #[(.ref a1)] h0 (Qaimc Z a1 h0 n0) := by
  refine own_body (plainFor_of_name pn_java_util_ImmutableCollections_AbstractImmutableCollection) (fun m => ef_aimc m a1) ?_
  intro p e s m below meth c s₁ Bd hx hby hml hown hnm X0 e0 hZ
  have N0 := Fr.nil n0
  refine own_g s₁ (mkF m 1 #[rv a1] [(.ref a1)]) (fun _ kq => XS.aloadN X0.here hx rfl (hb hby d42_0) rfl rfl kq) ?_
  obtain ⟨_, T1, L1, X1, ⟨rfl, Nq1, hh1⟩, st1⟩ := own_cI X0 hx hZ hown (own_W271 hw) (own_W23 hw) (own_W26 hw) (own_W27 hw) (rmaci l Z a0 hw [] a1 h0 n0 O0) e0 (lenOf pd_V_167 rfl) (g := (mkF m 1 #[rv a1] [(.ref a1)])) (argsL := []) (rest := []) (W := 0) rfl rfl (hb hby d42_1) (by rw [hml]; rfl) (by show 2 * 0 + _ ≤ _; exact Nat.le_of_eq rfl) rfl rfl (by decide) (by decide) (by decide) (by decide) (by decide)
  have N2 := Fr.app N0 Nq1
  refine own_t T1 (mkF m 4 #[rv a1] []) st1 ?_
  refine own_out X1 Bd.notSynchronized (v := none) (fun _ => rfl) (fun fs hr => X1.returnOut hx Bd.returns (hb hby d42_4) hr) ?_ (by decide) (by decide)
  rw [hh1]
  exact ⟨rfl, N2, rfl⟩
theorem d41_0 : decode jdk_46_method_1_code 0 = .ok (.aload_n 0, 1) := by decide +kernel
theorem d41_1 : decode jdk_46_method_1_code 1 = .ok (.invokespecial 1, 3) := by decide +kernel
def own_W270 {a0 Z} (hw : own_H a0 Z) := hw _ (List.mem_of_getElem? (i := 270) rfl)
def own_W265 {a0 Z} (hw : own_H a0 Z) := hw _ (List.mem_of_getElem? (i := 265) rfl)
def own_W269 {a0 Z} (hw : own_H a0 Z) := hw _ (List.mem_of_getElem? (i := 269) rfl)
def own_W266 {a0 Z} (hw : own_H a0 Z) := hw _ (List.mem_of_getElem? (i := 266) rfl)
theorem d41_4 : decode jdk_46_method_1_code 4 = .ok (.return_, 1) := by decide +kernel
theorem ef_aiml (m : MethodId) (x0 : Addr) : entryFrame m #[(.ref x0)] 1 = mkF m 0 #[.val (.ref x0)] [] := by first | (simp [entryFrame, mkF, argsToLocals, Value.category]; done) | rfl
def Qaiml (Z : State) (a1 : Addr) (h0 : Heap) (n0 : Nat) (v : Option Value) (h : Heap) (L : List Loc) : Prop := v = none ∧ Fr n0 L ∧ h = h0
theorem pn_java_util_ImmutableCollections_AbstractImmutableList : plainName "java/util/ImmutableCollections$AbstractImmutableList" = true := by first | (simp [plainName, overriddenIn]; done) | decide +kernel
set_option maxRecDepth 65536 in
set_option maxHeartbeats 40000000 in
theorem rmaiml (l : Launch) (Z : State) (a0 : Array Value) (hw : own_H a0 Z) (ws : List Jvm.Cond) (a1 : Addr) (h0 : Heap) (n0 : Nat) (O0 : Old Z n0 h0) :
    own_M l (⟨"java/util/ImmutableCollections$AbstractImmutableList", "<init>", "()V"⟩ : MethodName) jdk_46_method_1_code 1 none ws (own_R 3 0 0 36) Z #[(.ref a1)] h0 (Qaiml Z a1 h0 n0) := by
  refine own_body (plainFor_of_name pn_java_util_ImmutableCollections_AbstractImmutableList) (fun m => ef_aiml m a1) ?_
  intro p e s m below meth c s₁ Bd hx hby hml hown hnm X0 e0 hZ
  have N0 := Fr.nil n0
  refine own_g s₁ (mkF m 1 #[rv a1] [(.ref a1)]) (fun _ kq => XS.aloadN X0.here hx rfl (hb hby d41_0) rfl rfl kq) ?_
  obtain ⟨_, T1, L1, X1, ⟨rfl, Nq1, hh1⟩, st1⟩ := own_cI X0 hx hZ hown (own_W265 hw) (own_W266 hw) (own_W269 hw) (own_W270 hw) (rmaimc l Z a0 hw [] a1 h0 n0 O0) e0 (lenOf pd_V_167 rfl) (g := (mkF m 1 #[rv a1] [(.ref a1)])) (argsL := []) (rest := []) (W := 0) rfl rfl (hb hby d41_1) (by rw [hml]; rfl) (by show 2 * 0 + _ ≤ _; exact Nat.le_of_eq rfl) rfl rfl (by decide) (by decide) (by decide) (by decide) (by decide)
  have N2 := Fr.app N0 Nq1
  refine own_t T1 (mkF m 4 #[rv a1] []) st1 ?_
  refine own_out X1 Bd.notSynchronized (v := none) (fun _ => rfl) (fun fs hr => X1.returnOut hx Bd.returns (hb hby d41_4) hr) ?_ (by decide) (by decide)
  rw [hh1]
  exact ⟨rfl, N2, rfl⟩
theorem d3_0 : decode jdk_39_method_1_code 0 = .ok (.aload_n 0, 1) := by decide +kernel
theorem d3_1 : decode jdk_39_method_1_code 1 = .ok (.invokespecial 1, 3) := by decide +kernel
def own_W22 {a0 Z} (hw : own_H a0 Z) := hw _ (List.mem_of_getElem? (i := 22) rfl)
theorem d3_4 : decode jdk_39_method_1_code 4 = .ok (.aload_n 0, 1) := by decide +kernel
theorem d3_5 : decode jdk_39_method_1_code 5 = .ok (.iconst 0, 1) := by decide +kernel
def own_W31 {a0 Z} (hw : own_H a0 Z) := hw _ (List.mem_of_getElem? (i := 31) rfl)
theorem d3_6 : decode jdk_39_method_1_code 6 = .ok (.putfield 7, 3) := by decide +kernel
def own_W32 {a0 Z} (hw : own_H a0 Z) := hw _ (List.mem_of_getElem? (i := 32) rfl)
def own_W11 {a0 Z} (hw : own_H a0 Z) := hw _ (List.mem_of_getElem? (i := 11) rfl)
theorem d3_9 : decode jdk_39_method_1_code 9 = .ok (.return_, 1) := by decide +kernel
theorem ef_abl (m : MethodId) (x0 : Addr) : entryFrame m #[(.ref x0)] 1 = mkF m 0 #[.val (.ref x0)] [] := by first | (simp [entryFrame, mkF, argsToLocals, Value.category]; done) | rfl
def Qabl (Z : State) (a1 : Addr) (h0 : Heap) (n0 : Nat) (v : Option Value) (h : Heap) (L : List Loc) : Prop := v = none ∧ Fr n0 L ∧ Wr h0 h a1 (Jvm.RoadKit.slotOf Z "java/util/AbstractList" "modCount" "I") (.int (0 : Int32))
theorem pn_java_util_AbstractList : plainName "java/util/AbstractList" = true := by first | (simp [plainName, overriddenIn]; done) | decide +kernel
set_option maxRecDepth 65536 in
set_option maxHeartbeats 40000000 in
theorem rmabl (l : Launch) (Z : State) (a0 : Array Value) (hw : own_H a0 Z) (ws : List Jvm.Cond) (a1 : Addr) (h0 : Heap) (n0 : Nat) (O0 : Old Z n0 h0) (Ea : Exa Z h0 a1 "java/util/ArrayList") (Fm : Fld Z h0 a1 "java/util/AbstractList" "modCount" "I" (.int (0 : Int32))) (ga : n0 ≤ a1) :
    own_M l (⟨"java/util/AbstractList", "<init>", "()V"⟩ : MethodName) jdk_39_method_1_code 1 none ws (own_R 2 0 0 24) Z #[(.ref a1)] h0 (Qabl Z a1 h0 n0) := by
  refine own_body (plainFor_of_name pn_java_util_AbstractList) (fun m => ef_abl m a1) ?_
  intro p e s m below meth c s₁ Bd hx hby hml hown hnm X0 e0 hZ
  have N0 := Fr.nil n0
  refine own_g s₁ (mkF m 1 #[rv a1] [(.ref a1)]) (fun _ kq => XS.aloadN X0.here hx rfl (hb hby d3_0) rfl rfl kq) ?_
  obtain ⟨_, T1, L1, X1, ⟨rfl, Nq1, hh1⟩, st1⟩ := own_cI X0 hx hZ hown (own_W22 hw) (own_W23 hw) (own_W26 hw) (own_W27 hw) (rmaci l Z a0 hw [] a1 h0 n0 O0) e0 (lenOf pd_V_167 rfl) (g := (mkF m 1 #[rv a1] [(.ref a1)])) (argsL := []) (rest := []) (W := 0) rfl rfl (hb hby d3_1) (by rw [hml]; rfl) (by show 2 * 0 + _ ≤ _; exact Nat.le_of_eq rfl) rfl rfl (by decide) (by decide) (by decide) (by decide) (by decide)
  have N2 := Fr.app N0 Nq1
  refine own_t T1 (mkF m 4 #[rv a1] []) st1 ?_
  refine own_g T1 (mkF m 6 #[rv a1] [(.int (0 : Int32)), (.ref a1)]) (fun _ kq => XS.aloadN X1.here hx rfl (hb hby d3_4) rfl rfl (XS.iconst X1.here hx rfl (hb hby d3_5) kq)) ?_
  obtain ⟨T3, h3, X3, e3, W3, st3⟩ := putF X1 hx hZ hown (host := "") (Or.inl (own_W31 hw)) Via.refl hh1 Fm Ea (Or.inl (own_W32 hw)) (own_W11 hw) (ty := .int) (by decide) rfl rfl (g := (mkF m 6 #[rv a1] [(.int (0 : Int32)), (.ref a1)])) rfl rfl (hb hby d3_6)
  have Fw3 := Fld.same W3 Fm
  have N4 := Fr.snoc X3 N2 ga
  refine own_g T3 (mkF m 9 #[rv a1] []) st3 ?_
  refine own_out X3 Bd.notSynchronized (v := none) (fun _ => rfl) (fun fs hr => X3.returnOut hx Bd.returns (hb hby d3_9) hr) ?_ (by decide) (by decide)
  rw [e3]
  exact ⟨rfl, N4, W3⟩
theorem d2_0 : decode jdk_38_method_2_code 0 = .ok (.aload_n 0, 1) := by decide +kernel
theorem d2_1 : decode jdk_38_method_2_code 1 = .ok (.invokespecial 1, 3) := by decide +kernel
def own_W21 {a0 Z} (hw : own_H a0 Z) := hw _ (List.mem_of_getElem? (i := 21) rfl)
def own_W16 {a0 Z} (hw : own_H a0 Z) := hw _ (List.mem_of_getElem? (i := 16) rfl)
def own_W20 {a0 Z} (hw : own_H a0 Z) := hw _ (List.mem_of_getElem? (i := 20) rfl)
def own_W17 {a0 Z} (hw : own_H a0 Z) := hw _ (List.mem_of_getElem? (i := 17) rfl)
theorem d2_4 : decode jdk_38_method_2_code 4 = .ok (.aload_n 0, 1) := by decide +kernel
def own_W33 {a0 Z} (hw : own_H a0 Z) := hw _ (List.mem_of_getElem? (i := 33) rfl)
theorem d2_5 : decode jdk_38_method_2_code 5 = .ok (.getstatic 39, 3) := by decide +kernel
def own_W34 {a0 Z} (hw : own_H a0 Z) := hw _ (List.mem_of_getElem? (i := 34) rfl)
theorem d2_8 : decode jdk_38_method_2_code 8 = .ok (.putfield 9, 3) := by decide +kernel
def own_W35 {a0 Z} (hw : own_H a0 Z) := hw _ (List.mem_of_getElem? (i := 35) rfl)
def own_W44 {a0 Z} (hw : own_H a0 Z) := hw _ (List.mem_of_getElem? (i := 44) rfl)
theorem d2_11 : decode jdk_38_method_2_code 11 = .ok (.return_, 1) := by decide +kernel
theorem ef_alinit (m : MethodId) (x0 : Addr) : entryFrame m #[(.ref x0)] 1 = mkF m 0 #[.val (.ref x0)] [] := by first | (simp [entryFrame, mkF, argsToLocals, Value.category]; done) | rfl
def Qalinit (Z : State) (a1 wd : Addr) (h0 : Heap) (n0 : Nat) (v : Option Value) (h : Heap) (L : List Loc) : Prop := v = none ∧ Fr n0 L ∧ Keep h0 h [a1] ∧ Fld Z h a1 "java/util/AbstractList" "modCount" "I" (.int (0 : Int32)) ∧ Fld Z h a1 "java/util/ArrayList" "size" "I" (.int (0 : Int32)) ∧ Fld Z h a1 "java/util/ArrayList" "elementData" "[Ljava/lang/Object;" (.ref wd)
theorem pn_java_util_ArrayList : plainName "java/util/ArrayList" = true := by first | (simp [plainName, overriddenIn]; done) | decide +kernel
set_option maxRecDepth 65536 in
set_option maxHeartbeats 40000000 in
theorem rmalinit (l : Launch) (Z : State) (a0 : Array Value) (hw : own_H a0 Z) (ws : List Jvm.Cond) (a1 wd : Addr) (h0 : Heap) (n0 : Nat) (O0 : Old Z n0 h0) (Ea : Exa Z h0 a1 "java/util/ArrayList") (Fm : Fld Z h0 a1 "java/util/AbstractList" "modCount" "I" (.int (0 : Int32))) (Fs : Fld Z h0 a1 "java/util/ArrayList" "size" "I" (.int (0 : Int32))) (Fe : Fld Z h0 a1 "java/util/ArrayList" "elementData" "[Ljava/lang/Object;" .null) (ga : n0 ≤ a1) (Sd : Sta Z Z.heap "java/util/ArrayList" "DEFAULTCAPACITY_EMPTY_ELEMENTDATA" "[Ljava/lang/Object;" (.ref wd)) :
    own_M l (⟨"java/util/ArrayList", "<init>", "()V"⟩ : MethodName) jdk_38_method_2_code 1 none ws (own_R 3 0 0 36) Z #[(.ref a1)] h0 (Qalinit Z a1 wd h0 n0) := by
  refine own_body (plainFor_of_name pn_java_util_ArrayList) (fun m => ef_alinit m a1) ?_
  intro p e s m below meth c s₁ Bd hx hby hml hown hnm X0 e0 hZ
  have N0 := Fr.nil n0
  refine own_g s₁ (mkF m 1 #[rv a1] [(.ref a1)]) (fun _ kq => XS.aloadN X0.here hx rfl (hb hby d2_0) rfl rfl kq) ?_
  obtain ⟨_, T1, L1, X1, ⟨rfl, Nq1, Wa1⟩, st1⟩ := own_cI X0 hx hZ hown (own_W16 hw) (own_W17 hw) (own_W20 hw) (own_W21 hw) (rmabl l Z a0 hw [] a1 h0 n0 O0 Ea Fm ga) e0 (lenOf pd_V_167 rfl) (g := (mkF m 1 #[rv a1] [(.ref a1)])) (argsL := []) (rest := []) (W := 0) rfl rfl (hb hby d2_1) (by rw [hml]; rfl) (by show 2 * 0 + _ ≤ _; exact Nat.le_of_eq rfl) rfl rfl (by decide) (by decide) (by decide) (by decide) (by decide)
  have N2 := Fr.app N0 Nq1
  refine own_t T1 (mkF m 4 #[rv a1] []) st1 ?_
  have Fm2 : Fld Z T1.heap a1 "java/util/AbstractList" "modCount" "I" (.int (0 : Int32)) := Fld.same Wa1 Fm
  refine own_g T1 (mkF m 5 #[rv a1] [(.ref a1)]) (fun _ kq => XS.aloadN X1.here hx rfl (hb hby d2_4) rfl rfl kq) ?_
  have O3 := (O0.wr Wa1 ga)
  obtain ⟨T4, X4, e4, st4⟩ := getS2 X1 hx hZ hown (host := "") (Or.inl (own_W33 hw)) Via.refl rfl (Sd.ext O3.2) (g := (mkF m 5 #[rv a1] [(.ref a1)])) rfl (hb hby d2_5)
  refine own_g T4 (mkF m 8 #[rv a1] [(.ref wd), (.ref a1)]) st4 ?_
  have f5 := (Ea.wr Wa1)
  have f6 := (Fe.other Wa1 (Or.inr (slot_ne (Or.inl (own_W35 hw)) (Or.inl (own_W32 hw)) (by decide) (t := (.array (.object "java/lang/Object"))) (t' := .int) (by decide) (by decide))))
  obtain ⟨T7, h7, X7, e7, W7, st7⟩ := putF X4 hx hZ hown (host := "") (Or.inl (own_W34 hw)) Via.refl e4 f6 f5 (Or.inl (own_W35 hw)) (own_W11 hw) (ty := (.array (.object "java/lang/Object"))) (by decide) rfl rfl (g := (mkF m 8 #[rv a1] [(.ref wd), (.ref a1)])) rfl rfl (hb hby d2_8)
  have Fw7 := Fld.same W7 f6
  have N8 := Fr.snoc X7 N2 ga
  refine own_g T7 (mkF m 11 #[rv a1] []) st7 ?_
  have K9 : Keep h0 _ [a1] := (((Keep.refl h0 [a1]).wr Wa1 (Or.inl (List.mem_of_getElem? (i := 0) rfl))).wr W7 (Or.inl (List.mem_of_getElem? (i := 0) rfl)))
  have f10 := (Fm2.other W7 (Or.inr (slot_ne (Or.inl (own_W32 hw)) (Or.inl (own_W35 hw)) (by decide) (t := .int) (t' := (.array (.object "java/lang/Object"))) (by decide) (by decide))))
  have f11 := ((Fs.other Wa1 (Or.inr (slot_ne (Or.inl (own_W44 hw)) (Or.inl (own_W32 hw)) (by decide) (t := .int) (t' := .int) (by decide) (by decide)))).other W7 (Or.inr (slot_ne (Or.inl (own_W44 hw)) (Or.inl (own_W35 hw)) (by decide) (t := .int) (t' := (.array (.object "java/lang/Object"))) (by decide) (by decide))))
  refine own_out X7 Bd.notSynchronized (v := none) (fun _ => rfl) (fun fs hr => X7.returnOut hx Bd.returns (hb hby d2_11) hr) ?_ (by decide) (by decide)
  rw [e7]
  exact ⟨rfl, N8, K9, f10, f11, Fw7⟩
theorem d9_0 : decode jdk_38_method_6_code 0 = .ok (.aload_n 0, 1) := by decide +kernel
theorem d9_1 : decode jdk_38_method_6_code 1 = .ok (.getfield 9, 3) := by decide +kernel
theorem d9_4 : decode jdk_38_method_6_code 4 = .ok (.arraylength, 1) := by decide +kernel
theorem d9_5 : decode jdk_38_method_6_code 5 = .ok (.istore_n 2, 1) := by decide +kernel
theorem d9_6 : decode jdk_38_method_6_code 6 = .ok (.iload_n 2, 1) := by decide +kernel
theorem d9_7 : decode jdk_38_method_6_code 7 = .ok (.ifCond .gt 13, 3) := by decide +kernel
theorem d9_10 : decode jdk_38_method_6_code 10 = .ok (.aload_n 0, 1) := by decide +kernel
theorem d9_11 : decode jdk_38_method_6_code 11 = .ok (.getfield 9, 3) := by decide +kernel
theorem d9_14 : decode jdk_38_method_6_code 14 = .ok (.getstatic 39, 3) := by decide +kernel
theorem d9_17 : decode jdk_38_method_6_code 17 = .ok (.if_acmp .eq 28, 3) := by decide +kernel
theorem d9_45 : decode jdk_38_method_6_code 45 = .ok (.aload_n 0, 1) := by decide +kernel
theorem d9_46 : decode jdk_38_method_6_code 46 = .ok (.bipush 10, 2) := by decide +kernel
theorem d9_48 : decode jdk_38_method_6_code 48 = .ok (.iload_n 1, 1) := by decide +kernel
theorem d9_49 : decode jdk_38_method_6_code 49 = .ok (.invokestatic 79, 3) := by decide +kernel
def own_W63 {a0 Z} (hw : own_H a0 Z) := hw _ (List.mem_of_getElem? (i := 63) rfl)
def own_W60 {a0 Z} (hw : own_H a0 Z) := hw _ (List.mem_of_getElem? (i := 60) rfl)
def own_W62 {a0 Z} (hw : own_H a0 Z) := hw _ (List.mem_of_getElem? (i := 62) rfl)
theorem pd_II_I_300 : parseMethodDescriptor "(II)I" = some ⟨[.int, .int], some .int⟩ := by decide +kernel
def own_W61 {a0 Z} (hw : own_H a0 Z) := hw _ (List.mem_of_getElem? (i := 61) rfl)
theorem d9_52 : decode jdk_38_method_6_code 52 = .ok (.anewarray 7, 3) := by decide +kernel
def own_W64 {a0 Z} (hw : own_H a0 Z) := hw _ (List.mem_of_getElem? (i := 64) rfl)
def own_W65 {a0 Z} (hw : own_H a0 Z) := hw _ (List.mem_of_getElem? (i := 65) rfl)
theorem d9_55 : decode jdk_38_method_6_code 55 = .ok (.dup_x1, 1) := by decide +kernel
theorem d9_56 : decode jdk_38_method_6_code 56 = .ok (.putfield 9, 3) := by decide +kernel
theorem d9_59 : decode jdk_38_method_6_code 59 = .ok (.areturn, 1) := by decide +kernel
theorem ef_gr1 (m : MethodId) (x0 : Addr) (x1 : Int32) : entryFrame m #[(.ref x0), (.int x1)] 4 = mkF m 0 #[.val (.ref x0), .val (.int x1), .unset, .unset] [] := by first | (simp [entryFrame, mkF, argsToLocals, Value.category]; done) | rfl
def Qgr1 (Z : State) (a1 wd : Addr) (kd : ClassId) (mc : Int32) (h0 : Heap) (n0 : Nat) (v : Option Value) (h : Heap) (L : List Loc) : Prop := ∃ (r : Addr) (k : ClassId), v = some (.ref r) ∧ Fr n0 L ∧ Keep h0 h [a1] ∧ n0 ≤ r ∧ h0.size ≤ r ∧ Fld Z h a1 "java/util/AbstractList" "modCount" "I" (.int mc) ∧ Fld Z h a1 "java/util/ArrayList" "size" "I" (.int (0 : Int32)) ∧ Fld Z h a1 "java/util/ArrayList" "elementData" "[Ljava/lang/Object;" (.ref r) ∧ Arv Z h r k (.object "java/lang/Object") (10 : Int32) [.null, .null, .null, .null, .null, .null, .null, .null, .null, .null] .null ∧ Exa Z h r "[Ljava/lang/Object;" ∧ Ovr Z k "java/lang/Object"
set_option maxRecDepth 65536 in
set_option maxHeartbeats 40000000 in
theorem rmgr1 (l : Launch) (Z : State) (a0 : Array Value) (hw : own_H a0 Z) (ws : List Jvm.Cond) (a1 wd : Addr) (kd : ClassId) (mc : Int32) (h0 : Heap) (n0 : Nat) (O0 : Old Z n0 h0) (Ea : Exa Z h0 a1 "java/util/ArrayList") (Fm : Fld Z h0 a1 "java/util/AbstractList" "modCount" "I" (.int mc)) (Fs : Fld Z h0 a1 "java/util/ArrayList" "size" "I" (.int (0 : Int32))) (Fe : Fld Z h0 a1 "java/util/ArrayList" "elementData" "[Ljava/lang/Object;" (.ref wd)) (ga : n0 ≤ a1) (Sd : Sta Z Z.heap "java/util/ArrayList" "DEFAULTCAPACITY_EMPTY_ELEMENTDATA" "[Ljava/lang/Object;" (.ref wd)) (Ad : Arv Z Z.heap wd kd (.object "java/lang/Object") (0 : Int32) [] .null) :
    own_M l (⟨"java/util/ArrayList", "grow", "(I)[Ljava/lang/Object;"⟩ : MethodName) jdk_38_method_6_code 4 (some (.array (.object "java/lang/Object"))) ws (own_R 1 1 10 14) Z #[(.ref a1), (.int (1 : Int32))] h0 (Qgr1 Z a1 wd kd mc h0 n0) := by
  refine own_body (plainFor_of_name pn_java_util_ArrayList) (fun m => ef_gr1 m a1 (1 : Int32)) ?_
  intro p e s m below meth c s₁ Bd hx hby hml hown hnm X0 e0 hZ
  have N0 := Fr.nil n0
  refine own_g s₁ (mkF m 1 #[rv a1, iv (1 : Int32), .unset, .unset] [(.ref a1)]) (fun _ kq => XS.aloadN X0.here hx rfl (hb hby d9_0) rfl rfl kq) ?_
  obtain ⟨T1, X1, e1, st1⟩ := getF X0 hx hZ hown (host := "") (Or.inl (own_W34 hw)) Via.refl e0 Fe (g := (mkF m 1 #[rv a1, iv (1 : Int32), .unset, .unset] [(.ref a1)])) rfl rfl (hb hby d9_1)
  refine own_g T1 (mkF m 4 #[rv a1, iv (1 : Int32), .unset, .unset] [(.ref wd)]) st1 ?_
  refine own_g T1 (mkF m 5 #[rv a1, iv (1 : Int32), .unset, .unset] [(.int (0 : Int32))]) (own_alen X1 hx hZ e1 (Ad.ext O0.2) (g := (mkF m 4 #[rv a1, iv (1 : Int32), .unset, .unset] [(.ref wd)])) rfl rfl (hb hby d9_4)) ?_
  refine own_g T1 (mkF m 11 #[rv a1, iv (1 : Int32), iv (0 : Int32), .unset] [(.ref a1)]) (fun _ kq => XS.istoreN X1.here hx rfl (hb hby d9_5) rfl (l' := #[rv a1, iv (1 : Int32), iv (0 : Int32), .unset]) rfl (XS.iloadN X1.here hx rfl (hb hby d9_6) rfl (XS.ifNo X1.here hx rfl (hb hby d9_7) rfl ((if0 _ _).trans (flt ((by decide) : ¬ ((0 : Int32) < (0 : Int32)))).2.2.1) (XS.aloadN X1.here hx rfl (hb hby d9_10) rfl rfl kq)))) ?_
  obtain ⟨T2, X2, e2, st2⟩ := getF X1 hx hZ hown (host := "") (Or.inl (own_W34 hw)) Via.refl e1 Fe (g := (mkF m 11 #[rv a1, iv (1 : Int32), iv (0 : Int32), .unset] [(.ref a1)])) rfl rfl (hb hby d9_11)
  refine own_g T2 (mkF m 14 #[rv a1, iv (1 : Int32), iv (0 : Int32), .unset] [(.ref wd)]) st2 ?_
  obtain ⟨T3, X3, e3, st3⟩ := getS2 X2 hx hZ hown (host := "") (Or.inl (own_W33 hw)) Via.refl e2 (Sd.ext O0.2) (g := (mkF m 14 #[rv a1, iv (1 : Int32), iv (0 : Int32), .unset] [(.ref wd)])) rfl (hb hby d9_14)
  refine own_g T3 (mkF m 17 #[rv a1, iv (1 : Int32), iv (0 : Int32), .unset] [(.ref wd), (.ref wd)]) st3 ?_
  refine own_g T3 (mkF m 49 #[rv a1, iv (1 : Int32), iv (0 : Int32), .unset] [(.int (1 : Int32)), (.int (10 : Int32)), (.ref a1)]) (fun _ kq => Jvm.RoadKit.acmp (g := (mkF m 17 #[rv a1, iv (1 : Int32), iv (0 : Int32), .unset] [(.ref wd), (.ref wd)])) X3 hx rfl rfl rfl (pc0 := 17) (pc' := 45) (same := true) rfl (hb hby d9_17) rfl (decide_eq_true rfl) (by decide) (by decide) (XS.aloadN X3.here hx rfl (hb hby d9_45) rfl rfl (XS.bipush X3.here hx rfl (hb hby d9_46) (XS.iloadN X3.here hx rfl (hb hby d9_48) rfl kq)))) ?_
  obtain ⟨_, T4, L4, X4, ⟨rfl, Nq4, hh4⟩, st4⟩ := own_cS X3 hx hZ hown (own_W60 hw) (own_W61 hw) (own_W62 hw) (own_W63 hw) (rmmax l Z a0 hw [] (10 : Int32) (1 : Int32) h0 n0 O0) e3 (lenOf pd_II_I_300 rfl) (g := (mkF m 49 #[rv a1, iv (1 : Int32), iv (0 : Int32), .unset] [(.int (1 : Int32)), (.int (10 : Int32)), (.ref a1)])) (argsL := [(.int (10 : Int32)), (.int (1 : Int32))]) (rest := [(.ref a1)]) (W := 1) rfl rfl (hb hby d9_49) (by rw [hml]; rfl) (by show 2 * 0 + _ ≤ _; exact Nat.le_of_eq rfl) rfl (by decide) (by decide) (by decide) (by decide) (by decide)
  have N5 := Fr.app N0 Nq4
  refine own_t T4 (mkF m 52 #[rv a1, iv (1 : Int32), iv (0 : Int32), .unset] [(.int (own_max (10 : Int32) (1 : Int32))), (.ref a1)]) st4 ?_
  rw [show own_max (10 : Int32) (1 : Int32) = (10 : Int32) from by decide]
  obtain ⟨T6, h6, k6, X6, e6, E6, A6, Ax6, Ov6, st6⟩ := newRE X4 hx hZ hown (own_W64 hw) (own_W65 hw) hh4 (g := (mkF m 52 #[rv a1, iv (1 : Int32), iv (0 : Int32), .unset] [(.int (10 : Int32)), (.ref a1)])) rfl (hb hby d9_52) rfl (by decide) (cap := 10) (by decide) (by decide) (by decide) (by decide) (ad := "[Ljava/lang/Object;") rfl
  obtain ⟨b6, g6⟩ : ∃ z, z = h0.size := ⟨_, rfl⟩
  rw [← g6] at A6 Ax6 st6
  have ne_a1_b6 : a1 ≠ b6 := Nat.ne_of_lt (Nat.lt_of_lt_of_le Ea.lt (Nat.le_of_eq g6.symm))
  have ne_wd_b6 : wd ≠ b6 := Nat.ne_of_lt (Nat.lt_of_lt_of_le (Ad.ext O0.2).lt (Nat.le_of_eq g6.symm))
  have g_b6 : n0 ≤ b6 := Nat.le_trans (own_old O0) (Nat.le_of_eq g6.symm)
  have sz_b6 : h0.size ≤ b6 := Nat.le_trans (Keep.refl h0 [a1]).1 (Nat.le_of_eq g6.symm)
  have V6 : Arv Z h6 b6 k6 (.object "java/lang/Object") (10 : Int32) [.null, .null, .null, .null, .null, .null, .null, .null, .null, .null] .null := (Arv.new A6 (by decide)).pad (pad_rep [] .null 10)
  refine own_g T6 (mkF m 55 #[rv a1, iv (1 : Int32), iv (0 : Int32), .unset] [(.ref b6), (.ref a1)]) st6 ?_
  refine own_g T6 (mkF m 56 #[rv a1, iv (1 : Int32), iv (0 : Int32), .unset] [(.ref b6), (.ref a1), (.ref b6)]) (fun _ kq => XS.dupX1 X6.here hx rfl (hb hby d9_55) rfl rfl rfl kq) ?_
  have f7 := (Ea.ext E6)
  have f8 := (Fe.ext E6)
  obtain ⟨T9, h9, X9, e9, W9, st9⟩ := putF X6 hx hZ hown (host := "") (Or.inl (own_W34 hw)) Via.refl e6 f8 f7 (Or.inl (own_W35 hw)) (own_W11 hw) (ty := (.array (.object "java/lang/Object"))) (by decide) rfl rfl (g := (mkF m 56 #[rv a1, iv (1 : Int32), iv (0 : Int32), .unset] [(.ref b6), (.ref a1), (.ref b6)])) rfl rfl (hb hby d9_56)
  have Fw9 := Fld.same W9 f8
  have N10 := Fr.snoc X9 N5 ga
  refine own_g T9 (mkF m 59 #[rv a1, iv (1 : Int32), iv (0 : Int32), .unset] [(.ref b6)]) st9 ?_
  have K11 : Keep h0 _ [a1] := (((Keep.refl h0 [a1]).ext E6).wr W9 (Or.inl (List.mem_of_getElem? (i := 0) rfl)))
  have f12 := ((Fm.ext E6).other W9 (Or.inr (slot_ne (Or.inl (own_W32 hw)) (Or.inl (own_W35 hw)) (by decide) (t := .int) (t' := (.array (.object "java/lang/Object"))) (by decide) (by decide))))
  have f13 := ((Fs.ext E6).other W9 (Or.inr (slot_ne (Or.inl (own_W44 hw)) (Or.inl (own_W35 hw)) (by decide) (t := .int) (t' := (.array (.object "java/lang/Object"))) (by decide) (by decide))))
  have f14 := (V6.other W9 (Ne.symm ne_a1_b6))
  have f15 := (Ax6.wr W9)
  refine own_out X9 Bd.notSynchronized (v := (some (.ref b6))) (fun h => by rw [Bd.returns] at h; cases h) (fun fs hr => own_retA X9 hx Bd.returns rfl rfl rfl (hb hby d9_59) hr) ?_ (by decide) (by decide)
  rw [e9]
  exact ⟨_, _, rfl, N10, K11, g_b6, sz_b6, f12, f13, Fw9, f14, f15, Ov6⟩
theorem d8_0 : decode jdk_38_method_7_code 0 = .ok (.aload_n 0, 1) := by decide +kernel
theorem d8_1 : decode jdk_38_method_7_code 1 = .ok (.aload_n 0, 1) := by decide +kernel
def own_W43 {a0 Z} (hw : own_H a0 Z) := hw _ (List.mem_of_getElem? (i := 43) rfl)
theorem d8_2 : decode jdk_38_method_7_code 2 = .ok (.getfield 48, 3) := by decide +kernel
theorem d8_5 : decode jdk_38_method_7_code 5 = .ok (.iconst 1, 1) := by decide +kernel
theorem d8_6 : decode jdk_38_method_7_code 6 = .ok (.iadd, 1) := by decide +kernel
theorem d8_7 : decode jdk_38_method_7_code 7 = .ok (.invokevirtual 69, 3) := by decide +kernel
def own_W59 {a0 Z} (hw : own_H a0 Z) := hw _ (List.mem_of_getElem? (i := 59) rfl)
def own_W55 {a0 Z} (hw : own_H a0 Z) := hw _ (List.mem_of_getElem? (i := 55) rfl)
def own_W12 {a0 Z} (hw : own_H a0 Z) := hw _ (List.mem_of_getElem? (i := 12) rfl)
theorem pd_I__Ljava_lang_Object_912 : parseMethodDescriptor "(I)[Ljava/lang/Object;" = some ⟨[.int], some (.array (.object "java/lang/Object"))⟩ := by decide +kernel
def own_W57 {a0 Z} (hw : own_H a0 Z) := hw _ (List.mem_of_getElem? (i := 57) rfl)
def own_W58 {a0 Z} (hw : own_H a0 Z) := hw _ (List.mem_of_getElem? (i := 58) rfl)
def own_W56 {a0 Z} (hw : own_H a0 Z) := hw _ (List.mem_of_getElem? (i := 56) rfl)
theorem d8_10 : decode jdk_38_method_7_code 10 = .ok (.areturn, 1) := by decide +kernel
theorem ef_gr0 (m : MethodId) (x0 : Addr) : entryFrame m #[(.ref x0)] 1 = mkF m 0 #[.val (.ref x0)] [] := by first | (simp [entryFrame, mkF, argsToLocals, Value.category]; done) | rfl
def Qgr0 (Z : State) (a1 wd : Addr) (kd : ClassId) (mc : Int32) (h0 : Heap) (n0 : Nat) (v : Option Value) (h : Heap) (L : List Loc) : Prop := ∃ (r : Addr) (k : ClassId), v = some (.ref r) ∧ Fr n0 L ∧ Keep h0 h [a1] ∧ n0 ≤ r ∧ h0.size ≤ r ∧ Fld Z h a1 "java/util/AbstractList" "modCount" "I" (.int mc) ∧ Fld Z h a1 "java/util/ArrayList" "size" "I" (.int (0 : Int32)) ∧ Fld Z h a1 "java/util/ArrayList" "elementData" "[Ljava/lang/Object;" (.ref r) ∧ Arv Z h r k (.object "java/lang/Object") (10 : Int32) [.null, .null, .null, .null, .null, .null, .null, .null, .null, .null] .null ∧ Exa Z h r "[Ljava/lang/Object;" ∧ Ovr Z k "java/lang/Object"
set_option maxRecDepth 65536 in
set_option maxHeartbeats 40000000 in
theorem rmgr0 (l : Launch) (Z : State) (a0 : Array Value) (hw : own_H a0 Z) (ws : List Jvm.Cond) (a1 wd : Addr) (kd : ClassId) (mc : Int32) (h0 : Heap) (n0 : Nat) (O0 : Old Z n0 h0) (Ea : Exa Z h0 a1 "java/util/ArrayList") (Fm : Fld Z h0 a1 "java/util/AbstractList" "modCount" "I" (.int mc)) (Fs : Fld Z h0 a1 "java/util/ArrayList" "size" "I" (.int (0 : Int32))) (Fe : Fld Z h0 a1 "java/util/ArrayList" "elementData" "[Ljava/lang/Object;" (.ref wd)) (ga : n0 ≤ a1) (Sd : Sta Z Z.heap "java/util/ArrayList" "DEFAULTCAPACITY_EMPTY_ELEMENTDATA" "[Ljava/lang/Object;" (.ref wd)) (Ad : Arv Z Z.heap wd kd (.object "java/lang/Object") (0 : Int32) [] .null) :
    own_M l (⟨"java/util/ArrayList", "grow", "()[Ljava/lang/Object;"⟩ : MethodName) jdk_38_method_7_code 1 (some (.array (.object "java/lang/Object"))) ws (own_R 2 1 10 29) Z #[(.ref a1)] h0 (Qgr0 Z a1 wd kd mc h0 n0) := by
  refine own_body (plainFor_of_name pn_java_util_ArrayList) (fun m => ef_gr0 m a1) ?_
  intro p e s m below meth c s₁ Bd hx hby hml hown hnm X0 e0 hZ
  have N0 := Fr.nil n0
  refine own_g s₁ (mkF m 2 #[rv a1] [(.ref a1), (.ref a1)]) (fun _ kq => XS.aloadN X0.here hx rfl (hb hby d8_0) rfl rfl (XS.aloadN X0.here hx rfl (hb hby d8_1) rfl rfl kq)) ?_
  obtain ⟨T1, X1, e1, st1⟩ := getF X0 hx hZ hown (host := "") (Or.inl (own_W43 hw)) Via.refl e0 Fs (g := (mkF m 2 #[rv a1] [(.ref a1), (.ref a1)])) rfl rfl (hb hby d8_2)
  refine own_g T1 (mkF m 5 #[rv a1] [(.int (0 : Int32)), (.ref a1)]) st1 ?_
  refine own_g T1 (mkF m 7 #[rv a1] [(.int (1 : Int32)), (.ref a1)]) (fun _ kq => XS.iconst X1.here hx rfl (hb hby d8_5) (XS.iadd X1.here hx rfl (hb hby d8_6) rfl kq)) ?_
  obtain ⟨_, T2, L2, X2, ⟨r2, kr2, rfl, Nq2, Kc2, gr2, szr2, Fa2, Fb2, Fc2, Ar2, Er2, Or2⟩, st2⟩ := own_cP X1 hx hZ hown (own_W55 hw) (own_W57 hw) (own_W58 hw) (own_W56 hw) (own_W12 hw) (own_W59 hw) (rmgr1 l Z a0 hw [] a1 wd kd mc h0 n0 O0 Ea Fm Fs Fe ga Sd Ad) e1 Ea (lenOf pd_I__Ljava_lang_Object_912 rfl) (g := (mkF m 7 #[rv a1] [(.int (1 : Int32)), (.ref a1)])) (argsL := [(.int (1 : Int32))]) (rest := []) (W := 0) rfl rfl (hb hby d8_7) (by rw [hml]; rfl) (by show 2 * 0 + _ ≤ _; exact Nat.le_of_eq rfl) rfl (by decide) (by decide) (by decide) (by decide) (by decide)
  have N3 := Fr.app N0 Nq2
  refine own_t T2 (mkF m 10 #[rv a1] [(.ref r2)]) st2 ?_
  have K4 : Keep h0 _ [a1] := ((Keep.refl h0 [a1]).trans Kc2 (allS (Or.inl (List.mem_of_getElem? (i := 0) rfl)) all0))
  refine own_out X2 Bd.notSynchronized (v := (some (.ref r2))) (fun h => by rw [Bd.returns] at h; cases h) (fun fs hr => own_retA X2 hx Bd.returns rfl rfl rfl (hb hby d8_10) hr) ?_ (by decide) (by decide)
  exact ⟨_, _, rfl, N3, K4, gr2, szr2, Fa2, Fb2, Fc2, Ar2, Er2, Or2⟩
theorem d7_0 : decode jdk_38_method_24_code 0 = .ok (.iload_n 3, 1) := by decide +kernel
theorem d7_1 : decode jdk_38_method_24_code 1 = .ok (.aload_n 2, 1) := by decide +kernel
theorem d7_2 : decode jdk_38_method_24_code 2 = .ok (.arraylength, 1) := by decide +kernel
theorem d7_3 : decode jdk_38_method_24_code 3 = .ok (.if_icmp .ne 8, 3) := by decide +kernel
theorem d7_6 : decode jdk_38_method_24_code 6 = .ok (.aload_n 0, 1) := by decide +kernel
theorem d7_7 : decode jdk_38_method_24_code 7 = .ok (.invokevirtual 129, 3) := by decide +kernel
def own_W54 {a0 Z} (hw : own_H a0 Z) := hw _ (List.mem_of_getElem? (i := 54) rfl)
def own_W50 {a0 Z} (hw : own_H a0 Z) := hw _ (List.mem_of_getElem? (i := 50) rfl)
theorem pd_Ljava_lang_Object_839 : parseMethodDescriptor "()[Ljava/lang/Object;" = some ⟨[], some (.array (.object "java/lang/Object"))⟩ := by decide +kernel
def own_W52 {a0 Z} (hw : own_H a0 Z) := hw _ (List.mem_of_getElem? (i := 52) rfl)
def own_W53 {a0 Z} (hw : own_H a0 Z) := hw _ (List.mem_of_getElem? (i := 53) rfl)
def own_W51 {a0 Z} (hw : own_H a0 Z) := hw _ (List.mem_of_getElem? (i := 51) rfl)
theorem d7_10 : decode jdk_38_method_24_code 10 = .ok (.astore_n 2, 1) := by decide +kernel
theorem d7_11 : decode jdk_38_method_24_code 11 = .ok (.aload_n 2, 1) := by decide +kernel
theorem d7_12 : decode jdk_38_method_24_code 12 = .ok (.iload_n 3, 1) := by decide +kernel
theorem d7_13 : decode jdk_38_method_24_code 13 = .ok (.aload_n 1, 1) := by decide +kernel
theorem d7_14 : decode jdk_38_method_24_code 14 = .ok (.aastore, 1) := by decide +kernel
def own_W66 {a0 Z} (hw : own_H a0 Z) := hw _ (List.mem_of_getElem? (i := 66) rfl)
theorem d7_15 : decode jdk_38_method_24_code 15 = .ok (.aload_n 0, 1) := by decide +kernel
theorem d7_16 : decode jdk_38_method_24_code 16 = .ok (.iload_n 3, 1) := by decide +kernel
theorem d7_17 : decode jdk_38_method_24_code 17 = .ok (.iconst 1, 1) := by decide +kernel
theorem d7_18 : decode jdk_38_method_24_code 18 = .ok (.iadd, 1) := by decide +kernel
theorem d7_19 : decode jdk_38_method_24_code 19 = .ok (.putfield 48, 3) := by decide +kernel
theorem d7_22 : decode jdk_38_method_24_code 22 = .ok (.return_, 1) := by decide +kernel
theorem ef_addb0 (m : MethodId) (x0 : Addr) (x1 : Addr) (x2 : Addr) (x3 : Int32) : entryFrame m #[(.ref x0), (.ref x1), (.ref x2), (.int x3)] 4 = mkF m 0 #[.val (.ref x0), .val (.ref x1), .val (.ref x2), .val (.int x3)] [] := by first | (simp [entryFrame, mkF, argsToLocals, Value.category]; done) | rfl
def Qaddb0 (Z : State) (a1 wd : Addr) (kd : ClassId) (mc : Int32) (el0 : Addr) (h0 : Heap) (n0 : Nat) (v : Option Value) (h : Heap) (L : List Loc) : Prop := ∃ (r : Addr) (k : ClassId), v = none ∧ Fr n0 L ∧ Keep h0 h [a1] ∧ n0 ≤ r ∧ h0.size ≤ r ∧ Fld Z h a1 "java/util/AbstractList" "modCount" "I" (.int mc) ∧ Fld Z h a1 "java/util/ArrayList" "size" "I" (.int (1 : Int32)) ∧ Fld Z h a1 "java/util/ArrayList" "elementData" "[Ljava/lang/Object;" (.ref r) ∧ Arv Z h r k (.object "java/lang/Object") (10 : Int32) [(.ref el0), .null, .null, .null, .null, .null, .null, .null, .null, .null] .null ∧ Exa Z h r "[Ljava/lang/Object;" ∧ Ovr Z k "java/lang/Object"
set_option maxRecDepth 65536 in
set_option maxHeartbeats 40000000 in
theorem rmaddb0 (l : Launch) (Z : State) (a0 : Array Value) (hw : own_H a0 Z) (ws : List Jvm.Cond) (a1 wd : Addr) (kd : ClassId) (mc : Int32) (el0 : Addr) (h0 : Heap) (n0 : Nat) (O0 : Old Z n0 h0) (Ea : Exa Z h0 a1 "java/util/ArrayList") (Fm : Fld Z h0 a1 "java/util/AbstractList" "modCount" "I" (.int mc)) (Fs : Fld Z h0 a1 "java/util/ArrayList" "size" "I" (.int (0 : Int32))) (Fe : Fld Z h0 a1 "java/util/ArrayList" "elementData" "[Ljava/lang/Object;" (.ref wd)) (ga : n0 ≤ a1) (Sd : Sta Z Z.heap "java/util/ArrayList" "DEFAULTCAPACITY_EMPTY_ELEMENTDATA" "[Ljava/lang/Object;" (.ref wd)) (Ad : Arv Z Z.heap wd kd (.object "java/lang/Object") (0 : Int32) [] .null) (Be : Exa Z Z.heap el0 "java/math/BigDecimal") :
    own_M l (⟨"java/util/ArrayList", "add", "(Ljava/lang/Object;[Ljava/lang/Object;I)V"⟩ : MethodName) jdk_38_method_24_code 4 none ws (own_R 3 1 10 41) Z #[(.ref a1), (.ref el0), (.ref wd), (.int (0 : Int32))] h0 (Qaddb0 Z a1 wd kd mc el0 h0 n0) := by
  refine own_body (plainFor_of_name pn_java_util_ArrayList) (fun m => ef_addb0 m a1 el0 wd (0 : Int32)) ?_
  intro p e s m below meth c s₁ Bd hx hby hml hown hnm X0 e0 hZ
  have N0 := Fr.nil n0
  refine own_g s₁ (mkF m 2 #[rv a1, rv el0, rv wd, iv (0 : Int32)] [(.ref wd), (.int (0 : Int32))]) (fun _ kq => XS.iloadN X0.here hx rfl (hb hby d7_0) rfl (XS.aloadN X0.here hx rfl (hb hby d7_1) rfl rfl kq)) ?_
  refine own_g s₁ (mkF m 3 #[rv a1, rv el0, rv wd, iv (0 : Int32)] [(.int (0 : Int32)), (.int (0 : Int32))]) (own_alen X0 hx hZ e0 (Ad.ext O0.2) (g := (mkF m 2 #[rv a1, rv el0, rv wd, iv (0 : Int32)] [(.ref wd), (.int (0 : Int32))])) rfl rfl (hb hby d7_2)) ?_
  refine own_g s₁ (mkF m 7 #[rv a1, rv el0, rv wd, iv (0 : Int32)] [(.ref a1)]) (fun _ kq => XS.icmpNo X0.here hx rfl (hb hby d7_3) rfl (teq ((by decide) : (0 : Int32) = (0 : Int32))).2 (XS.aloadN X0.here hx rfl (hb hby d7_6) rfl rfl kq)) ?_
  obtain ⟨_, T1, L1, X1, ⟨r1, kr1, rfl, Nq1, Kc1, gr1, szr1, Fa1, Fb1, Fc1, Ar1, Er1, Or1⟩, st1⟩ := own_cP X0 hx hZ hown (own_W50 hw) (own_W52 hw) (own_W53 hw) (own_W51 hw) (own_W12 hw) (own_W54 hw) (rmgr0 l Z a0 hw [] a1 wd kd mc h0 n0 O0 Ea Fm Fs Fe ga Sd Ad) e0 Ea (lenOf pd_Ljava_lang_Object_839 rfl) (g := (mkF m 7 #[rv a1, rv el0, rv wd, iv (0 : Int32)] [(.ref a1)])) (argsL := []) (rest := []) (W := 0) rfl rfl (hb hby d7_7) (by rw [hml]; rfl) (by show 2 * 0 + _ ≤ _; exact Nat.le_of_eq rfl) rfl (by decide) (by decide) (by decide) (by decide) (by decide)
  have N2 := Fr.app N0 Nq1
  have sz_r1 : h0.size ≤ r1 := Nat.le_trans (Keep.refl h0 [a1]).1 szr1
  have ne_a1_r1 : a1 ≠ r1 := Nat.ne_of_lt (Nat.lt_of_lt_of_le Ea.lt szr1)
  have ne_wd_r1 : wd ≠ r1 := Nat.ne_of_lt (Nat.lt_of_lt_of_le (Ad.ext O0.2).lt szr1)
  have ne_el0_r1 : el0 ≠ r1 := Nat.ne_of_lt (Nat.lt_of_lt_of_le (Be.ext O0.2).lt szr1)
  refine own_t T1 (mkF m 10 #[rv a1, rv el0, rv wd, iv (0 : Int32)] [(.ref r1)]) st1 ?_
  refine own_g T1 (mkF m 14 #[rv a1, rv el0, rv r1, iv (0 : Int32)] [(.ref el0), (.int (0 : Int32)), (.ref r1)]) (fun _ kq => XS.astoreN X1.here hx rfl (hb hby d7_10) rfl rfl (l' := #[rv a1, rv el0, rv r1, iv (0 : Int32)]) rfl (XS.aloadN X1.here hx rfl (hb hby d7_11) rfl rfl (XS.iloadN X1.here hx rfl (hb hby d7_12) rfl (XS.aloadN X1.here hx rfl (hb hby d7_13) rfl rfl kq)))) ?_
  have O3 := (O0.keep Kc1 (allS ga all0))
  obtain ⟨cl4, Ar4, q4, S4, Nn4, H4, G4⟩ := id Ar1
  have hin5 : ¬ ((0 : Int32) < 0 ∨ cl4.slots.size ≤ ((0 : Int32)).toNatClampNeg) := inb_of S4 ⟨by decide, by decide⟩
  obtain ⟨T5, h5, X5, e5, W5, st5⟩ := stR X1 hx hZ rfl Ar4 (j := (0 : Int32)) hin5 rfl (Sto.ofV Ar4 q4 Or1 (Ins.of_exa (Be.ext O3.2) (own_W66 hw))) (g := (mkF m 14 #[rv a1, rv el0, rv r1, iv (0 : Int32)] [(.ref el0), (.int (0 : Int32)), (.ref r1)])) rfl rfl (hb hby d7_14)
  have V5 : Arv Z h5 r1 kr1 (.object "java/lang/Object") (10 : Int32) [(.ref el0), .null, .null, .null, .null, .null, .null, .null, .null, .null] .null := Arv.set Ar4 q4 S4 Nn4 H4 G4 rfl W5 0 rfl (Nat.le_of_ble_eq_true rfl)
  have N6 := Fr.snoc X5 N2 gr1
  refine own_g T5 (mkF m 15 #[rv a1, rv el0, rv r1, iv (0 : Int32)] []) st5 ?_
  refine own_g T5 (mkF m 19 #[rv a1, rv el0, rv r1, iv (0 : Int32)] [(.int (1 : Int32)), (.ref a1)]) (fun _ kq => XS.aloadN X5.here hx rfl (hb hby d7_15) rfl rfl (XS.iloadN X5.here hx rfl (hb hby d7_16) rfl (XS.iconst X5.here hx rfl (hb hby d7_17) (XS.iadd X5.here hx rfl (hb hby d7_18) rfl kq)))) ?_
  have f7 := ((Ea.keep Kc1).wr W5)
  have f8 := (Fb1.other W5 (Or.inl ne_a1_r1))
  obtain ⟨T9, h9, X9, e9, W9, st9⟩ := putF X5 hx hZ hown (host := "") (Or.inl (own_W43 hw)) Via.refl e5 f8 f7 (Or.inl (own_W44 hw)) (own_W11 hw) (ty := .int) (by decide) rfl rfl (g := (mkF m 19 #[rv a1, rv el0, rv r1, iv (0 : Int32)] [(.int (1 : Int32)), (.ref a1)])) rfl rfl (hb hby d7_19)
  have Fw9 := Fld.same W9 f8
  have N10 := Fr.snoc X9 N6 ga
  refine own_g T9 (mkF m 22 #[rv a1, rv el0, rv r1, iv (0 : Int32)] []) st9 ?_
  have K11 : Keep h0 _ [a1] := ((((Keep.refl h0 [a1]).trans Kc1 (allS (Or.inl (List.mem_of_getElem? (i := 0) rfl)) all0)).wr W5 (Or.inr sz_r1)).wr W9 (Or.inl (List.mem_of_getElem? (i := 0) rfl)))
  have f12 := ((Fa1.other W5 (Or.inl ne_a1_r1)).other W9 (Or.inr (slot_ne (Or.inl (own_W32 hw)) (Or.inl (own_W44 hw)) (by decide) (t := .int) (t' := .int) (by decide) (by decide))))
  have f13 := ((Fc1.other W5 (Or.inl ne_a1_r1)).other W9 (Or.inr (slot_ne (Or.inl (own_W35 hw)) (Or.inl (own_W44 hw)) (by decide) (t := (.array (.object "java/lang/Object"))) (t' := .int) (by decide) (by decide))))
  have f14 := (V5.other W9 (Ne.symm ne_a1_r1))
  have f15 := ((Er1.wr W5).wr W9)
  refine own_out X9 Bd.notSynchronized (v := none) (fun _ => rfl) (fun fs hr => X9.returnOut hx Bd.returns (hb hby d7_22) hr) ?_ (by decide) (by decide)
  rw [e9]
  exact ⟨_, _, rfl, N10, K11, gr1, szr1, f12, Fw9, f13, f14, f15, Or1⟩
theorem d6_0 : decode jdk_38_method_25_code 0 = .ok (.aload_n 0, 1) := by decide +kernel
theorem d6_1 : decode jdk_38_method_25_code 1 = .ok (.dup, 1) := by decide +kernel
def own_W42 {a0 Z} (hw : own_H a0 Z) := hw _ (List.mem_of_getElem? (i := 42) rfl)
def own_W41 {a0 Z} (hw : own_H a0 Z) := hw _ (List.mem_of_getElem? (i := 41) rfl)
theorem d6_2 : decode jdk_38_method_25_code 2 = .ok (.getfield 63, 3) := by decide +kernel
theorem d6_5 : decode jdk_38_method_25_code 5 = .ok (.iconst 1, 1) := by decide +kernel
theorem d6_6 : decode jdk_38_method_25_code 6 = .ok (.iadd, 1) := by decide +kernel
theorem d6_7 : decode jdk_38_method_25_code 7 = .ok (.putfield 63, 3) := by decide +kernel
theorem d6_10 : decode jdk_38_method_25_code 10 = .ok (.aload_n 0, 1) := by decide +kernel
theorem d6_11 : decode jdk_38_method_25_code 11 = .ok (.aload_n 1, 1) := by decide +kernel
theorem d6_12 : decode jdk_38_method_25_code 12 = .ok (.aload_n 0, 1) := by decide +kernel
theorem d6_13 : decode jdk_38_method_25_code 13 = .ok (.getfield 9, 3) := by decide +kernel
theorem d6_16 : decode jdk_38_method_25_code 16 = .ok (.aload_n 0, 1) := by decide +kernel
theorem d6_17 : decode jdk_38_method_25_code 17 = .ok (.getfield 48, 3) := by decide +kernel
theorem d6_20 : decode jdk_38_method_25_code 20 = .ok (.invokevirtual 131, 3) := by decide +kernel
def own_W49 {a0 Z} (hw : own_H a0 Z) := hw _ (List.mem_of_getElem? (i := 49) rfl)
def own_W45 {a0 Z} (hw : own_H a0 Z) := hw _ (List.mem_of_getElem? (i := 45) rfl)
theorem pd_Ljava_lang_Object__Ljava_lang_Object_I_V_668 : parseMethodDescriptor "(Ljava/lang/Object;[Ljava/lang/Object;I)V" = some ⟨[(.object "java/lang/Object"), (.array (.object "java/lang/Object")), .int], none⟩ := by decide +kernel
def own_W47 {a0 Z} (hw : own_H a0 Z) := hw _ (List.mem_of_getElem? (i := 47) rfl)
def own_W48 {a0 Z} (hw : own_H a0 Z) := hw _ (List.mem_of_getElem? (i := 48) rfl)
def own_W46 {a0 Z} (hw : own_H a0 Z) := hw _ (List.mem_of_getElem? (i := 46) rfl)
theorem d6_23 : decode jdk_38_method_25_code 23 = .ok (.iconst 1, 1) := by decide +kernel
theorem d6_24 : decode jdk_38_method_25_code 24 = .ok (.ireturn, 1) := by decide +kernel
theorem ef_adda0 (m : MethodId) (x0 : Addr) (x1 : Addr) : entryFrame m #[(.ref x0), (.ref x1)] 2 = mkF m 0 #[.val (.ref x0), .val (.ref x1)] [] := by first | (simp [entryFrame, mkF, argsToLocals, Value.category]; done) | rfl
def Qadda0 (Z : State) (a1 wd : Addr) (kd : ClassId) (el0 : Addr) (h0 : Heap) (n0 : Nat) (v : Option Value) (h : Heap) (L : List Loc) : Prop := ∃ (r : Addr) (k : ClassId), v = some (.int (1 : Int32)) ∧ Fr n0 L ∧ Keep h0 h [a1] ∧ n0 ≤ r ∧ h0.size ≤ r ∧ Fld Z h a1 "java/util/AbstractList" "modCount" "I" (.int (1 : Int32)) ∧ Fld Z h a1 "java/util/ArrayList" "size" "I" (.int (1 : Int32)) ∧ Fld Z h a1 "java/util/ArrayList" "elementData" "[Ljava/lang/Object;" (.ref r) ∧ Arv Z h r k (.object "java/lang/Object") (10 : Int32) [(.ref el0), .null, .null, .null, .null, .null, .null, .null, .null, .null] .null ∧ Exa Z h r "[Ljava/lang/Object;" ∧ Ovr Z k "java/lang/Object"
set_option maxRecDepth 65536 in
set_option maxHeartbeats 40000000 in
theorem rmadda0 (l : Launch) (Z : State) (a0 : Array Value) (hw : own_H a0 Z) (ws : List Jvm.Cond) (a1 wd : Addr) (kd : ClassId) (el0 : Addr) (h0 : Heap) (n0 : Nat) (O0 : Old Z n0 h0) (Ea : Exa Z h0 a1 "java/util/ArrayList") (Fm : Fld Z h0 a1 "java/util/AbstractList" "modCount" "I" (.int (0 : Int32))) (Fs : Fld Z h0 a1 "java/util/ArrayList" "size" "I" (.int (0 : Int32))) (Fe : Fld Z h0 a1 "java/util/ArrayList" "elementData" "[Ljava/lang/Object;" (.ref wd)) (ga : n0 ≤ a1) (Sd : Sta Z Z.heap "java/util/ArrayList" "DEFAULTCAPACITY_EMPTY_ELEMENTDATA" "[Ljava/lang/Object;" (.ref wd)) (Ad : Arv Z Z.heap wd kd (.object "java/lang/Object") (0 : Int32) [] .null) (Be : Exa Z Z.heap el0 "java/math/BigDecimal") :
    own_M l (⟨"java/util/ArrayList", "add", "(Ljava/lang/Object;)Z"⟩ : MethodName) jdk_38_method_25_code 2 (some .boolean) ws (own_R 4 1 10 56) Z #[(.ref a1), (.ref el0)] h0 (Qadda0 Z a1 wd kd el0 h0 n0) := by
  refine own_body (plainFor_of_name pn_java_util_ArrayList) (fun m => ef_adda0 m a1 el0) ?_
  intro p e s m below meth c s₁ Bd hx hby hml hown hnm X0 e0 hZ
  have N0 := Fr.nil n0
  refine own_g s₁ (mkF m 2 #[rv a1, rv el0] [(.ref a1), (.ref a1)]) (fun _ kq => XS.aloadN X0.here hx rfl (hb hby d6_0) rfl rfl (XS.dup X0.here hx rfl (hb hby d6_1) rfl rfl kq)) ?_
  obtain ⟨T1, X1, e1, st1⟩ := getF X0 hx hZ hown (host := "") (Or.inl (own_W41 hw)) (Via.of (own_W42 hw)) e0 Fm (g := (mkF m 2 #[rv a1, rv el0] [(.ref a1), (.ref a1)])) rfl rfl (hb hby d6_2)
  refine own_g T1 (mkF m 5 #[rv a1, rv el0] [(.int (0 : Int32)), (.ref a1)]) st1 ?_
  refine own_g T1 (mkF m 7 #[rv a1, rv el0] [(.int (1 : Int32)), (.ref a1)]) (fun _ kq => XS.iconst X1.here hx rfl (hb hby d6_5) (XS.iadd X1.here hx rfl (hb hby d6_6) rfl kq)) ?_
  obtain ⟨T2, h2, X2, e2, W2, st2⟩ := putF X1 hx hZ hown (host := "") (Or.inl (own_W41 hw)) (Via.of (own_W42 hw)) e1 Fm Ea (Or.inl (own_W32 hw)) (own_W11 hw) (ty := .int) (by decide) rfl rfl (g := (mkF m 7 #[rv a1, rv el0] [(.int (1 : Int32)), (.ref a1)])) rfl rfl (hb hby d6_7)
  have Fw2 := Fld.same W2 Fm
  have N3 := Fr.snoc X2 N0 ga
  refine own_g T2 (mkF m 10 #[rv a1, rv el0] []) st2 ?_
  refine own_g T2 (mkF m 13 #[rv a1, rv el0] [(.ref a1), (.ref el0), (.ref a1)]) (fun _ kq => XS.aloadN X2.here hx rfl (hb hby d6_10) rfl rfl (XS.aloadN X2.here hx rfl (hb hby d6_11) rfl rfl (XS.aloadN X2.here hx rfl (hb hby d6_12) rfl rfl kq))) ?_
  have f4 := (Fe.other W2 (Or.inr (slot_ne (Or.inl (own_W35 hw)) (Or.inl (own_W32 hw)) (by decide) (t := (.array (.object "java/lang/Object"))) (t' := .int) (by decide) (by decide))))
  obtain ⟨T5, X5, e5, st5⟩ := getF X2 hx hZ hown (host := "") (Or.inl (own_W34 hw)) Via.refl e2 f4 (g := (mkF m 13 #[rv a1, rv el0] [(.ref a1), (.ref el0), (.ref a1)])) rfl rfl (hb hby d6_13)
  refine own_g T5 (mkF m 16 #[rv a1, rv el0] [(.ref wd), (.ref el0), (.ref a1)]) st5 ?_
  refine own_g T5 (mkF m 17 #[rv a1, rv el0] [(.ref a1), (.ref wd), (.ref el0), (.ref a1)]) (fun _ kq => XS.aloadN X5.here hx rfl (hb hby d6_16) rfl rfl kq) ?_
  have f6 := (Fs.other W2 (Or.inr (slot_ne (Or.inl (own_W44 hw)) (Or.inl (own_W32 hw)) (by decide) (t := .int) (t' := .int) (by decide) (by decide))))
  obtain ⟨T7, X7, e7, st7⟩ := getF X5 hx hZ hown (host := "") (Or.inl (own_W43 hw)) Via.refl e5 f6 (g := (mkF m 17 #[rv a1, rv el0] [(.ref a1), (.ref wd), (.ref el0), (.ref a1)])) rfl rfl (hb hby d6_17)
  refine own_g T7 (mkF m 20 #[rv a1, rv el0] [(.int (0 : Int32)), (.ref wd), (.ref el0), (.ref a1)]) st7 ?_
  have O8 := (O0.wr W2 ga)
  have f9 := (Ea.wr W2)
  obtain ⟨_, T10, L10, X10, ⟨r10, kr10, rfl, Nq10, Kc10, gr10, szr10, Fa10, Fb10, Fc10, Ar10, Er10, Or10⟩, st10⟩ := own_cP X7 hx hZ hown (own_W45 hw) (own_W47 hw) (own_W48 hw) (own_W46 hw) (own_W12 hw) (own_W49 hw) (rmaddb0 l Z a0 hw [] a1 wd kd (1 : Int32) el0 h2 n0 O8 f9 Fw2 f6 f4 ga Sd Ad Be) e7 f9 (lenOf pd_Ljava_lang_Object__Ljava_lang_Object_I_V_668 rfl) (g := (mkF m 20 #[rv a1, rv el0] [(.int (0 : Int32)), (.ref wd), (.ref el0), (.ref a1)])) (argsL := [(.ref el0), (.ref wd), (.int (0 : Int32))]) (rest := []) (W := 0) rfl rfl (hb hby d6_20) (by rw [hml]; rfl) (by show 2 * 0 + _ ≤ _; exact Nat.le_of_eq rfl) rfl (by decide) (by decide) (by decide) (by decide) (by decide)
  have N11 := Fr.app N3 Nq10
  refine own_t T10 (mkF m 23 #[rv a1, rv el0] []) st10 ?_
  refine own_g T10 (mkF m 24 #[rv a1, rv el0] [(.int (1 : Int32))]) (fun _ kq => XS.iconst X10.here hx rfl (hb hby d6_23) kq) ?_
  have K12 : Keep h0 _ [a1] := (((Keep.refl h0 [a1]).wr W2 (Or.inl (List.mem_of_getElem? (i := 0) rfl))).trans Kc10 (allS (Or.inl (List.mem_of_getElem? (i := 0) rfl)) all0))
  refine own_out X10 Bd.notSynchronized (v := (some (.int (1 : Int32)))) (fun h => by rw [Bd.returns] at h; cases h) (fun fs hr => retN X10 hx (t := .boolean) Bd.returns (by simp) (hb hby d6_24) hr) ?_ (by decide) (by decide)
  exact ⟨_, _, rfl, N11, K12, gr10, Nat.le_trans (Nat.le_of_eq W2.size.symm) szr10, Fa10, Fb10, Fc10, Ar10, Er10, Or10⟩
theorem ef_addb1 (m : MethodId) (x0 : Addr) (x1 : Addr) (x2 : Addr) (x3 : Int32) : entryFrame m #[(.ref x0), (.ref x1), (.ref x2), (.int x3)] 4 = mkF m 0 #[.val (.ref x0), .val (.ref x1), .val (.ref x2), .val (.int x3)] [] := by first | (simp [entryFrame, mkF, argsToLocals, Value.category]; done) | rfl
def Qaddb1 (Z : State) (a1 ed : Addr) (kd : ClassId) (mc : Int32) (el0 el1 : Addr) (h0 : Heap) (n0 : Nat) (v : Option Value) (h : Heap) (L : List Loc) : Prop := v = none ∧ Fr n0 L ∧ Keep h0 h [a1, ed] ∧ Fld Z h a1 "java/util/AbstractList" "modCount" "I" (.int mc) ∧ Fld Z h a1 "java/util/ArrayList" "size" "I" (.int (2 : Int32)) ∧ Fld Z h a1 "java/util/ArrayList" "elementData" "[Ljava/lang/Object;" (.ref ed) ∧ Arv Z h ed kd (.object "java/lang/Object") (10 : Int32) [(.ref el0), (.ref el1), .null, .null, .null, .null, .null, .null, .null, .null] .null ∧ Exa Z h ed "[Ljava/lang/Object;"
set_option maxRecDepth 65536 in
set_option maxHeartbeats 40000000 in
theorem rmaddb1 (l : Launch) (Z : State) (a0 : Array Value) (hw : own_H a0 Z) (ws : List Jvm.Cond) (a1 ed : Addr) (kd : ClassId) (mc : Int32) (el0 el1 : Addr) (h0 : Heap) (n0 : Nat) (O0 : Old Z n0 h0) (Ea : Exa Z h0 a1 "java/util/ArrayList") (Fm : Fld Z h0 a1 "java/util/AbstractList" "modCount" "I" (.int mc)) (Fs : Fld Z h0 a1 "java/util/ArrayList" "size" "I" (.int (1 : Int32))) (Fe : Fld Z h0 a1 "java/util/ArrayList" "elementData" "[Ljava/lang/Object;" (.ref ed)) (ga : n0 ≤ a1) (Ad : Arv Z h0 ed kd (.object "java/lang/Object") (10 : Int32) [(.ref el0), .null, .null, .null, .null, .null, .null, .null, .null, .null] .null) (Ed : Exa Z h0 ed "[Ljava/lang/Object;") (Od : Ovr Z kd "java/lang/Object") (gd : n0 ≤ ed) (ne : a1 ≠ ed) (Be : Exa Z Z.heap el1 "java/math/BigDecimal") :
    own_M l (⟨"java/util/ArrayList", "add", "(Ljava/lang/Object;[Ljava/lang/Object;I)V"⟩ : MethodName) jdk_38_method_24_code 4 none ws (own_R 0 0 0 0) Z #[(.ref a1), (.ref el1), (.ref ed), (.int (1 : Int32))] h0 (Qaddb1 Z a1 ed kd mc el0 el1 h0 n0) := by
  refine own_body (plainFor_of_name pn_java_util_ArrayList) (fun m => ef_addb1 m a1 el1 ed (1 : Int32)) ?_
  intro p e s m below meth c s₁ Bd hx hby hml hown hnm X0 e0 hZ
  have N0 := Fr.nil n0
  refine own_g s₁ (mkF m 2 #[rv a1, rv el1, rv ed, iv (1 : Int32)] [(.ref ed), (.int (1 : Int32))]) (fun _ kq => XS.iloadN X0.here hx rfl (hb hby d7_0) rfl (XS.aloadN X0.here hx rfl (hb hby d7_1) rfl rfl kq)) ?_
  refine own_g s₁ (mkF m 3 #[rv a1, rv el1, rv ed, iv (1 : Int32)] [(.int (10 : Int32)), (.int (1 : Int32))]) (own_alen X0 hx hZ e0 Ad (g := (mkF m 2 #[rv a1, rv el1, rv ed, iv (1 : Int32)] [(.ref ed), (.int (1 : Int32))])) rfl rfl (hb hby d7_2)) ?_
  refine own_g s₁ (mkF m 14 #[rv a1, rv el1, rv ed, iv (1 : Int32)] [(.ref el1), (.int (1 : Int32)), (.ref ed)]) (fun _ kq => XS.icmpYes X0.here hx rfl (pc0 := 3) (pc' := 11) rfl (hb hby d7_3) rfl (feq ((by decide) : ¬ ((1 : Int32) = (10 : Int32)))).2 (by decide) (by decide) (XS.aloadN X0.here hx rfl (hb hby d7_11) rfl rfl (XS.iloadN X0.here hx rfl (hb hby d7_12) rfl (XS.aloadN X0.here hx rfl (hb hby d7_13) rfl rfl kq)))) ?_
  obtain ⟨cl1, Ar1, q1, S1, Nn1, H1, G1⟩ := id Ad
  have hin2 : ¬ ((1 : Int32) < 0 ∨ cl1.slots.size ≤ ((1 : Int32)).toNatClampNeg) := inb_of S1 ⟨by decide, by decide⟩
  obtain ⟨T2, h2, X2, e2, W2, st2⟩ := stR X0 hx hZ e0 Ar1 (j := (1 : Int32)) hin2 rfl (Sto.ofV Ar1 q1 Od (Ins.of_exa (Be.ext O0.2) (own_W66 hw))) (g := (mkF m 14 #[rv a1, rv el1, rv ed, iv (1 : Int32)] [(.ref el1), (.int (1 : Int32)), (.ref ed)])) rfl rfl (hb hby d7_14)
  have V2 : Arv Z h2 ed kd (.object "java/lang/Object") (10 : Int32) [(.ref el0), (.ref el1), .null, .null, .null, .null, .null, .null, .null, .null] .null := Arv.set Ar1 q1 S1 Nn1 H1 G1 rfl W2 1 rfl (Nat.le_of_ble_eq_true rfl)
  have N3 := Fr.snoc X2 N0 gd
  refine own_g T2 (mkF m 15 #[rv a1, rv el1, rv ed, iv (1 : Int32)] []) st2 ?_
  refine own_g T2 (mkF m 19 #[rv a1, rv el1, rv ed, iv (1 : Int32)] [(.int (2 : Int32)), (.ref a1)]) (fun _ kq => XS.aloadN X2.here hx rfl (hb hby d7_15) rfl rfl (XS.iloadN X2.here hx rfl (hb hby d7_16) rfl (XS.iconst X2.here hx rfl (hb hby d7_17) (XS.iadd X2.here hx rfl (hb hby d7_18) rfl kq)))) ?_
  have f4 := (Ea.wr W2)
  have f5 := (Fs.other W2 (Or.inl ne))
  obtain ⟨T6, h6, X6, e6, W6, st6⟩ := putF X2 hx hZ hown (host := "") (Or.inl (own_W43 hw)) Via.refl e2 f5 f4 (Or.inl (own_W44 hw)) (own_W11 hw) (ty := .int) (by decide) rfl rfl (g := (mkF m 19 #[rv a1, rv el1, rv ed, iv (1 : Int32)] [(.int (2 : Int32)), (.ref a1)])) rfl rfl (hb hby d7_19)
  have Fw6 := Fld.same W6 f5
  have N7 := Fr.snoc X6 N3 ga
  refine own_g T6 (mkF m 22 #[rv a1, rv el1, rv ed, iv (1 : Int32)] []) st6 ?_
  have K8 : Keep h0 _ [a1, ed] := (((Keep.refl h0 [a1, ed]).wr W2 (Or.inl (List.mem_of_getElem? (i := 1) rfl))).wr W6 (Or.inl (List.mem_of_getElem? (i := 0) rfl)))
  have f9 := ((Fm.other W2 (Or.inl ne)).other W6 (Or.inr (slot_ne (Or.inl (own_W32 hw)) (Or.inl (own_W44 hw)) (by decide) (t := .int) (t' := .int) (by decide) (by decide))))
  have f10 := ((Fe.other W2 (Or.inl ne)).other W6 (Or.inr (slot_ne (Or.inl (own_W35 hw)) (Or.inl (own_W44 hw)) (by decide) (t := (.array (.object "java/lang/Object"))) (t' := .int) (by decide) (by decide))))
  have f11 := (V2.other W6 (Ne.symm ne))
  have f12 := ((Ed.wr W2).wr W6)
  refine own_out X6 Bd.notSynchronized (v := none) (fun _ => rfl) (fun fs hr => X6.returnOut hx Bd.returns (hb hby d7_22) hr) ?_ (by decide) (by decide)
  rw [e6]
  exact ⟨rfl, N7, K8, f9, Fw6, f10, f11, f12⟩
theorem ef_adda1 (m : MethodId) (x0 : Addr) (x1 : Addr) : entryFrame m #[(.ref x0), (.ref x1)] 2 = mkF m 0 #[.val (.ref x0), .val (.ref x1)] [] := by first | (simp [entryFrame, mkF, argsToLocals, Value.category]; done) | rfl
def Qadda1 (Z : State) (a1 ed : Addr) (kd : ClassId) (el0 el1 : Addr) (h0 : Heap) (n0 : Nat) (v : Option Value) (h : Heap) (L : List Loc) : Prop := v = some (.int (1 : Int32)) ∧ Fr n0 L ∧ Keep h0 h [a1, ed] ∧ Fld Z h a1 "java/util/AbstractList" "modCount" "I" (.int (2 : Int32)) ∧ Fld Z h a1 "java/util/ArrayList" "size" "I" (.int (2 : Int32)) ∧ Fld Z h a1 "java/util/ArrayList" "elementData" "[Ljava/lang/Object;" (.ref ed) ∧ Arv Z h ed kd (.object "java/lang/Object") (10 : Int32) [(.ref el0), (.ref el1), .null, .null, .null, .null, .null, .null, .null, .null] .null ∧ Exa Z h ed "[Ljava/lang/Object;"
set_option maxRecDepth 65536 in
set_option maxHeartbeats 40000000 in
theorem rmadda1 (l : Launch) (Z : State) (a0 : Array Value) (hw : own_H a0 Z) (ws : List Jvm.Cond) (a1 ed : Addr) (kd : ClassId) (el0 el1 : Addr) (h0 : Heap) (n0 : Nat) (O0 : Old Z n0 h0) (Ea : Exa Z h0 a1 "java/util/ArrayList") (Fm : Fld Z h0 a1 "java/util/AbstractList" "modCount" "I" (.int (1 : Int32))) (Fs : Fld Z h0 a1 "java/util/ArrayList" "size" "I" (.int (1 : Int32))) (Fe : Fld Z h0 a1 "java/util/ArrayList" "elementData" "[Ljava/lang/Object;" (.ref ed)) (ga : n0 ≤ a1) (Ad : Arv Z h0 ed kd (.object "java/lang/Object") (10 : Int32) [(.ref el0), .null, .null, .null, .null, .null, .null, .null, .null, .null] .null) (Ed : Exa Z h0 ed "[Ljava/lang/Object;") (Od : Ovr Z kd "java/lang/Object") (gd : n0 ≤ ed) (ne : a1 ≠ ed) (Be : Exa Z Z.heap el1 "java/math/BigDecimal") :
    own_M l (⟨"java/util/ArrayList", "add", "(Ljava/lang/Object;)Z"⟩ : MethodName) jdk_38_method_25_code 2 (some .boolean) ws (own_R 1 0 0 15) Z #[(.ref a1), (.ref el1)] h0 (Qadda1 Z a1 ed kd el0 el1 h0 n0) := by
  refine own_body (plainFor_of_name pn_java_util_ArrayList) (fun m => ef_adda1 m a1 el1) ?_
  intro p e s m below meth c s₁ Bd hx hby hml hown hnm X0 e0 hZ
  have N0 := Fr.nil n0
  refine own_g s₁ (mkF m 2 #[rv a1, rv el1] [(.ref a1), (.ref a1)]) (fun _ kq => XS.aloadN X0.here hx rfl (hb hby d6_0) rfl rfl (XS.dup X0.here hx rfl (hb hby d6_1) rfl rfl kq)) ?_
  obtain ⟨T1, X1, e1, st1⟩ := getF X0 hx hZ hown (host := "") (Or.inl (own_W41 hw)) (Via.of (own_W42 hw)) e0 Fm (g := (mkF m 2 #[rv a1, rv el1] [(.ref a1), (.ref a1)])) rfl rfl (hb hby d6_2)
  refine own_g T1 (mkF m 5 #[rv a1, rv el1] [(.int (1 : Int32)), (.ref a1)]) st1 ?_
  refine own_g T1 (mkF m 7 #[rv a1, rv el1] [(.int (2 : Int32)), (.ref a1)]) (fun _ kq => XS.iconst X1.here hx rfl (hb hby d6_5) (XS.iadd X1.here hx rfl (hb hby d6_6) rfl kq)) ?_
  obtain ⟨T2, h2, X2, e2, W2, st2⟩ := putF X1 hx hZ hown (host := "") (Or.inl (own_W41 hw)) (Via.of (own_W42 hw)) e1 Fm Ea (Or.inl (own_W32 hw)) (own_W11 hw) (ty := .int) (by decide) rfl rfl (g := (mkF m 7 #[rv a1, rv el1] [(.int (2 : Int32)), (.ref a1)])) rfl rfl (hb hby d6_7)
  have Fw2 := Fld.same W2 Fm
  have N3 := Fr.snoc X2 N0 ga
  refine own_g T2 (mkF m 10 #[rv a1, rv el1] []) st2 ?_
  refine own_g T2 (mkF m 13 #[rv a1, rv el1] [(.ref a1), (.ref el1), (.ref a1)]) (fun _ kq => XS.aloadN X2.here hx rfl (hb hby d6_10) rfl rfl (XS.aloadN X2.here hx rfl (hb hby d6_11) rfl rfl (XS.aloadN X2.here hx rfl (hb hby d6_12) rfl rfl kq))) ?_
  have f4 := (Fe.other W2 (Or.inr (slot_ne (Or.inl (own_W35 hw)) (Or.inl (own_W32 hw)) (by decide) (t := (.array (.object "java/lang/Object"))) (t' := .int) (by decide) (by decide))))
  obtain ⟨T5, X5, e5, st5⟩ := getF X2 hx hZ hown (host := "") (Or.inl (own_W34 hw)) Via.refl e2 f4 (g := (mkF m 13 #[rv a1, rv el1] [(.ref a1), (.ref el1), (.ref a1)])) rfl rfl (hb hby d6_13)
  refine own_g T5 (mkF m 16 #[rv a1, rv el1] [(.ref ed), (.ref el1), (.ref a1)]) st5 ?_
  refine own_g T5 (mkF m 17 #[rv a1, rv el1] [(.ref a1), (.ref ed), (.ref el1), (.ref a1)]) (fun _ kq => XS.aloadN X5.here hx rfl (hb hby d6_16) rfl rfl kq) ?_
  have f6 := (Fs.other W2 (Or.inr (slot_ne (Or.inl (own_W44 hw)) (Or.inl (own_W32 hw)) (by decide) (t := .int) (t' := .int) (by decide) (by decide))))
  obtain ⟨T7, X7, e7, st7⟩ := getF X5 hx hZ hown (host := "") (Or.inl (own_W43 hw)) Via.refl e5 f6 (g := (mkF m 17 #[rv a1, rv el1] [(.ref a1), (.ref ed), (.ref el1), (.ref a1)])) rfl rfl (hb hby d6_17)
  refine own_g T7 (mkF m 20 #[rv a1, rv el1] [(.int (1 : Int32)), (.ref ed), (.ref el1), (.ref a1)]) st7 ?_
  have O8 := (O0.wr W2 ga)
  have f9 := (Ea.wr W2)
  have f10 := (Ad.other W2 (Ne.symm ne))
  have f11 := (Ed.wr W2)
  obtain ⟨_, T12, L12, X12, ⟨rfl, Nq12, Kc12, Fa12, Fb12, Fc12, Ar12, Er12⟩, st12⟩ := own_cP X7 hx hZ hown (own_W45 hw) (own_W47 hw) (own_W48 hw) (own_W46 hw) (own_W12 hw) (own_W49 hw) (rmaddb1 l Z a0 hw [] a1 ed kd (2 : Int32) el0 el1 h2 n0 O8 f9 Fw2 f6 f4 ga f10 f11 Od gd ne Be) e7 f9 (lenOf pd_Ljava_lang_Object__Ljava_lang_Object_I_V_668 rfl) (g := (mkF m 20 #[rv a1, rv el1] [(.int (1 : Int32)), (.ref ed), (.ref el1), (.ref a1)])) (argsL := [(.ref el1), (.ref ed), (.int (1 : Int32))]) (rest := []) (W := 0) rfl rfl (hb hby d6_20) (by rw [hml]; rfl) (by show 2 * 0 + _ ≤ _; exact Nat.le_of_eq rfl) rfl (by decide) (by decide) (by decide) (by decide) (by decide)
  have N13 := Fr.app N3 Nq12
  refine own_t T12 (mkF m 23 #[rv a1, rv el1] []) st12 ?_
  refine own_g T12 (mkF m 24 #[rv a1, rv el1] [(.int (1 : Int32))]) (fun _ kq => XS.iconst X12.here hx rfl (hb hby d6_23) kq) ?_
  have K14 : Keep h0 _ [a1, ed] := (((Keep.refl h0 [a1, ed]).wr W2 (Or.inl (List.mem_of_getElem? (i := 0) rfl))).trans Kc12 (allS (Or.inl (List.mem_of_getElem? (i := 0) rfl)) (allS (Or.inl (List.mem_of_getElem? (i := 1) rfl)) all0)))
  refine own_out X12 Bd.notSynchronized (v := (some (.int (1 : Int32)))) (fun h => by rw [Bd.returns] at h; cases h) (fun fs hr => retN X12 hx (t := .boolean) Bd.returns (by simp) (hb hby d6_24) hr) ?_ (by decide) (by decide)
  exact ⟨rfl, N13, K14, Fa12, Fb12, Fc12, Ar12, Er12⟩
theorem ef_addb2 (m : MethodId) (x0 : Addr) (x1 : Addr) (x2 : Addr) (x3 : Int32) : entryFrame m #[(.ref x0), (.ref x1), (.ref x2), (.int x3)] 4 = mkF m 0 #[.val (.ref x0), .val (.ref x1), .val (.ref x2), .val (.int x3)] [] := by first | (simp [entryFrame, mkF, argsToLocals, Value.category]; done) | rfl
def Qaddb2 (Z : State) (a1 ed : Addr) (kd : ClassId) (mc : Int32) (el0 el1 el2 : Addr) (h0 : Heap) (n0 : Nat) (v : Option Value) (h : Heap) (L : List Loc) : Prop := v = none ∧ Fr n0 L ∧ Keep h0 h [a1, ed] ∧ Fld Z h a1 "java/util/AbstractList" "modCount" "I" (.int mc) ∧ Fld Z h a1 "java/util/ArrayList" "size" "I" (.int (3 : Int32)) ∧ Fld Z h a1 "java/util/ArrayList" "elementData" "[Ljava/lang/Object;" (.ref ed) ∧ Arv Z h ed kd (.object "java/lang/Object") (10 : Int32) [(.ref el0), (.ref el1), (.ref el2), .null, .null, .null, .null, .null, .null, .null] .null ∧ Exa Z h ed "[Ljava/lang/Object;"
set_option maxRecDepth 65536 in
set_option maxHeartbeats 40000000 in
theorem rmaddb2 (l : Launch) (Z : State) (a0 : Array Value) (hw : own_H a0 Z) (ws : List Jvm.Cond) (a1 ed : Addr) (kd : ClassId) (mc : Int32) (el0 el1 el2 : Addr) (h0 : Heap) (n0 : Nat) (O0 : Old Z n0 h0) (Ea : Exa Z h0 a1 "java/util/ArrayList") (Fm : Fld Z h0 a1 "java/util/AbstractList" "modCount" "I" (.int mc)) (Fs : Fld Z h0 a1 "java/util/ArrayList" "size" "I" (.int (2 : Int32))) (Fe : Fld Z h0 a1 "java/util/ArrayList" "elementData" "[Ljava/lang/Object;" (.ref ed)) (ga : n0 ≤ a1) (Ad : Arv Z h0 ed kd (.object "java/lang/Object") (10 : Int32) [(.ref el0), (.ref el1), .null, .null, .null, .null, .null, .null, .null, .null] .null) (Ed : Exa Z h0 ed "[Ljava/lang/Object;") (Od : Ovr Z kd "java/lang/Object") (gd : n0 ≤ ed) (ne : a1 ≠ ed) (Be : Exa Z Z.heap el2 "java/math/BigDecimal") :
    own_M l (⟨"java/util/ArrayList", "add", "(Ljava/lang/Object;[Ljava/lang/Object;I)V"⟩ : MethodName) jdk_38_method_24_code 4 none ws (own_R 0 0 0 0) Z #[(.ref a1), (.ref el2), (.ref ed), (.int (2 : Int32))] h0 (Qaddb2 Z a1 ed kd mc el0 el1 el2 h0 n0) := by
  refine own_body (plainFor_of_name pn_java_util_ArrayList) (fun m => ef_addb2 m a1 el2 ed (2 : Int32)) ?_
  intro p e s m below meth c s₁ Bd hx hby hml hown hnm X0 e0 hZ
  have N0 := Fr.nil n0
  refine own_g s₁ (mkF m 2 #[rv a1, rv el2, rv ed, iv (2 : Int32)] [(.ref ed), (.int (2 : Int32))]) (fun _ kq => XS.iloadN X0.here hx rfl (hb hby d7_0) rfl (XS.aloadN X0.here hx rfl (hb hby d7_1) rfl rfl kq)) ?_
  refine own_g s₁ (mkF m 3 #[rv a1, rv el2, rv ed, iv (2 : Int32)] [(.int (10 : Int32)), (.int (2 : Int32))]) (own_alen X0 hx hZ e0 Ad (g := (mkF m 2 #[rv a1, rv el2, rv ed, iv (2 : Int32)] [(.ref ed), (.int (2 : Int32))])) rfl rfl (hb hby d7_2)) ?_
  refine own_g s₁ (mkF m 14 #[rv a1, rv el2, rv ed, iv (2 : Int32)] [(.ref el2), (.int (2 : Int32)), (.ref ed)]) (fun _ kq => XS.icmpYes X0.here hx rfl (pc0 := 3) (pc' := 11) rfl (hb hby d7_3) rfl (feq ((by decide) : ¬ ((2 : Int32) = (10 : Int32)))).2 (by decide) (by decide) (XS.aloadN X0.here hx rfl (hb hby d7_11) rfl rfl (XS.iloadN X0.here hx rfl (hb hby d7_12) rfl (XS.aloadN X0.here hx rfl (hb hby d7_13) rfl rfl kq)))) ?_
  obtain ⟨cl1, Ar1, q1, S1, Nn1, H1, G1⟩ := id Ad
  have hin2 : ¬ ((2 : Int32) < 0 ∨ cl1.slots.size ≤ ((2 : Int32)).toNatClampNeg) := inb_of S1 ⟨by decide, by decide⟩
  obtain ⟨T2, h2, X2, e2, W2, st2⟩ := stR X0 hx hZ e0 Ar1 (j := (2 : Int32)) hin2 rfl (Sto.ofV Ar1 q1 Od (Ins.of_exa (Be.ext O0.2) (own_W66 hw))) (g := (mkF m 14 #[rv a1, rv el2, rv ed, iv (2 : Int32)] [(.ref el2), (.int (2 : Int32)), (.ref ed)])) rfl rfl (hb hby d7_14)
  have V2 : Arv Z h2 ed kd (.object "java/lang/Object") (10 : Int32) [(.ref el0), (.ref el1), (.ref el2), .null, .null, .null, .null, .null, .null, .null] .null := Arv.set Ar1 q1 S1 Nn1 H1 G1 rfl W2 2 rfl (Nat.le_of_ble_eq_true rfl)
  have N3 := Fr.snoc X2 N0 gd
  refine own_g T2 (mkF m 15 #[rv a1, rv el2, rv ed, iv (2 : Int32)] []) st2 ?_
  refine own_g T2 (mkF m 19 #[rv a1, rv el2, rv ed, iv (2 : Int32)] [(.int (3 : Int32)), (.ref a1)]) (fun _ kq => XS.aloadN X2.here hx rfl (hb hby d7_15) rfl rfl (XS.iloadN X2.here hx rfl (hb hby d7_16) rfl (XS.iconst X2.here hx rfl (hb hby d7_17) (XS.iadd X2.here hx rfl (hb hby d7_18) rfl kq)))) ?_
  have f4 := (Ea.wr W2)
  have f5 := (Fs.other W2 (Or.inl ne))
  obtain ⟨T6, h6, X6, e6, W6, st6⟩ := putF X2 hx hZ hown (host := "") (Or.inl (own_W43 hw)) Via.refl e2 f5 f4 (Or.inl (own_W44 hw)) (own_W11 hw) (ty := .int) (by decide) rfl rfl (g := (mkF m 19 #[rv a1, rv el2, rv ed, iv (2 : Int32)] [(.int (3 : Int32)), (.ref a1)])) rfl rfl (hb hby d7_19)
  have Fw6 := Fld.same W6 f5
  have N7 := Fr.snoc X6 N3 ga
  refine own_g T6 (mkF m 22 #[rv a1, rv el2, rv ed, iv (2 : Int32)] []) st6 ?_
  have K8 : Keep h0 _ [a1, ed] := (((Keep.refl h0 [a1, ed]).wr W2 (Or.inl (List.mem_of_getElem? (i := 1) rfl))).wr W6 (Or.inl (List.mem_of_getElem? (i := 0) rfl)))
  have f9 := ((Fm.other W2 (Or.inl ne)).other W6 (Or.inr (slot_ne (Or.inl (own_W32 hw)) (Or.inl (own_W44 hw)) (by decide) (t := .int) (t' := .int) (by decide) (by decide))))
  have f10 := ((Fe.other W2 (Or.inl ne)).other W6 (Or.inr (slot_ne (Or.inl (own_W35 hw)) (Or.inl (own_W44 hw)) (by decide) (t := (.array (.object "java/lang/Object"))) (t' := .int) (by decide) (by decide))))
  have f11 := (V2.other W6 (Ne.symm ne))
  have f12 := ((Ed.wr W2).wr W6)
  refine own_out X6 Bd.notSynchronized (v := none) (fun _ => rfl) (fun fs hr => X6.returnOut hx Bd.returns (hb hby d7_22) hr) ?_ (by decide) (by decide)
  rw [e6]
  exact ⟨rfl, N7, K8, f9, Fw6, f10, f11, f12⟩
theorem ef_adda2 (m : MethodId) (x0 : Addr) (x1 : Addr) : entryFrame m #[(.ref x0), (.ref x1)] 2 = mkF m 0 #[.val (.ref x0), .val (.ref x1)] [] := by first | (simp [entryFrame, mkF, argsToLocals, Value.category]; done) | rfl
def Qadda2 (Z : State) (a1 ed : Addr) (kd : ClassId) (el0 el1 el2 : Addr) (h0 : Heap) (n0 : Nat) (v : Option Value) (h : Heap) (L : List Loc) : Prop := v = some (.int (1 : Int32)) ∧ Fr n0 L ∧ Keep h0 h [a1, ed] ∧ Fld Z h a1 "java/util/AbstractList" "modCount" "I" (.int (3 : Int32)) ∧ Fld Z h a1 "java/util/ArrayList" "size" "I" (.int (3 : Int32)) ∧ Fld Z h a1 "java/util/ArrayList" "elementData" "[Ljava/lang/Object;" (.ref ed) ∧ Arv Z h ed kd (.object "java/lang/Object") (10 : Int32) [(.ref el0), (.ref el1), (.ref el2), .null, .null, .null, .null, .null, .null, .null] .null ∧ Exa Z h ed "[Ljava/lang/Object;"
set_option maxRecDepth 65536 in
set_option maxHeartbeats 40000000 in
theorem rmadda2 (l : Launch) (Z : State) (a0 : Array Value) (hw : own_H a0 Z) (ws : List Jvm.Cond) (a1 ed : Addr) (kd : ClassId) (el0 el1 el2 : Addr) (h0 : Heap) (n0 : Nat) (O0 : Old Z n0 h0) (Ea : Exa Z h0 a1 "java/util/ArrayList") (Fm : Fld Z h0 a1 "java/util/AbstractList" "modCount" "I" (.int (2 : Int32))) (Fs : Fld Z h0 a1 "java/util/ArrayList" "size" "I" (.int (2 : Int32))) (Fe : Fld Z h0 a1 "java/util/ArrayList" "elementData" "[Ljava/lang/Object;" (.ref ed)) (ga : n0 ≤ a1) (Ad : Arv Z h0 ed kd (.object "java/lang/Object") (10 : Int32) [(.ref el0), (.ref el1), .null, .null, .null, .null, .null, .null, .null, .null] .null) (Ed : Exa Z h0 ed "[Ljava/lang/Object;") (Od : Ovr Z kd "java/lang/Object") (gd : n0 ≤ ed) (ne : a1 ≠ ed) (Be : Exa Z Z.heap el2 "java/math/BigDecimal") :
    own_M l (⟨"java/util/ArrayList", "add", "(Ljava/lang/Object;)Z"⟩ : MethodName) jdk_38_method_25_code 2 (some .boolean) ws (own_R 1 0 0 15) Z #[(.ref a1), (.ref el2)] h0 (Qadda2 Z a1 ed kd el0 el1 el2 h0 n0) := by
  refine own_body (plainFor_of_name pn_java_util_ArrayList) (fun m => ef_adda2 m a1 el2) ?_
  intro p e s m below meth c s₁ Bd hx hby hml hown hnm X0 e0 hZ
  have N0 := Fr.nil n0
  refine own_g s₁ (mkF m 2 #[rv a1, rv el2] [(.ref a1), (.ref a1)]) (fun _ kq => XS.aloadN X0.here hx rfl (hb hby d6_0) rfl rfl (XS.dup X0.here hx rfl (hb hby d6_1) rfl rfl kq)) ?_
  obtain ⟨T1, X1, e1, st1⟩ := getF X0 hx hZ hown (host := "") (Or.inl (own_W41 hw)) (Via.of (own_W42 hw)) e0 Fm (g := (mkF m 2 #[rv a1, rv el2] [(.ref a1), (.ref a1)])) rfl rfl (hb hby d6_2)
  refine own_g T1 (mkF m 5 #[rv a1, rv el2] [(.int (2 : Int32)), (.ref a1)]) st1 ?_
  refine own_g T1 (mkF m 7 #[rv a1, rv el2] [(.int (3 : Int32)), (.ref a1)]) (fun _ kq => XS.iconst X1.here hx rfl (hb hby d6_5) (XS.iadd X1.here hx rfl (hb hby d6_6) rfl kq)) ?_
  obtain ⟨T2, h2, X2, e2, W2, st2⟩ := putF X1 hx hZ hown (host := "") (Or.inl (own_W41 hw)) (Via.of (own_W42 hw)) e1 Fm Ea (Or.inl (own_W32 hw)) (own_W11 hw) (ty := .int) (by decide) rfl rfl (g := (mkF m 7 #[rv a1, rv el2] [(.int (3 : Int32)), (.ref a1)])) rfl rfl (hb hby d6_7)
  have Fw2 := Fld.same W2 Fm
  have N3 := Fr.snoc X2 N0 ga
  refine own_g T2 (mkF m 10 #[rv a1, rv el2] []) st2 ?_
  refine own_g T2 (mkF m 13 #[rv a1, rv el2] [(.ref a1), (.ref el2), (.ref a1)]) (fun _ kq => XS.aloadN X2.here hx rfl (hb hby d6_10) rfl rfl (XS.aloadN X2.here hx rfl (hb hby d6_11) rfl rfl (XS.aloadN X2.here hx rfl (hb hby d6_12) rfl rfl kq))) ?_
  have f4 := (Fe.other W2 (Or.inr (slot_ne (Or.inl (own_W35 hw)) (Or.inl (own_W32 hw)) (by decide) (t := (.array (.object "java/lang/Object"))) (t' := .int) (by decide) (by decide))))
  obtain ⟨T5, X5, e5, st5⟩ := getF X2 hx hZ hown (host := "") (Or.inl (own_W34 hw)) Via.refl e2 f4 (g := (mkF m 13 #[rv a1, rv el2] [(.ref a1), (.ref el2), (.ref a1)])) rfl rfl (hb hby d6_13)
  refine own_g T5 (mkF m 16 #[rv a1, rv el2] [(.ref ed), (.ref el2), (.ref a1)]) st5 ?_
  refine own_g T5 (mkF m 17 #[rv a1, rv el2] [(.ref a1), (.ref ed), (.ref el2), (.ref a1)]) (fun _ kq => XS.aloadN X5.here hx rfl (hb hby d6_16) rfl rfl kq) ?_
  have f6 := (Fs.other W2 (Or.inr (slot_ne (Or.inl (own_W44 hw)) (Or.inl (own_W32 hw)) (by decide) (t := .int) (t' := .int) (by decide) (by decide))))
  obtain ⟨T7, X7, e7, st7⟩ := getF X5 hx hZ hown (host := "") (Or.inl (own_W43 hw)) Via.refl e5 f6 (g := (mkF m 17 #[rv a1, rv el2] [(.ref a1), (.ref ed), (.ref el2), (.ref a1)])) rfl rfl (hb hby d6_17)
  refine own_g T7 (mkF m 20 #[rv a1, rv el2] [(.int (2 : Int32)), (.ref ed), (.ref el2), (.ref a1)]) st7 ?_
  have O8 := (O0.wr W2 ga)
  have f9 := (Ea.wr W2)
  have f10 := (Ad.other W2 (Ne.symm ne))
  have f11 := (Ed.wr W2)
  obtain ⟨_, T12, L12, X12, ⟨rfl, Nq12, Kc12, Fa12, Fb12, Fc12, Ar12, Er12⟩, st12⟩ := own_cP X7 hx hZ hown (own_W45 hw) (own_W47 hw) (own_W48 hw) (own_W46 hw) (own_W12 hw) (own_W49 hw) (rmaddb2 l Z a0 hw [] a1 ed kd (3 : Int32) el0 el1 el2 h2 n0 O8 f9 Fw2 f6 f4 ga f10 f11 Od gd ne Be) e7 f9 (lenOf pd_Ljava_lang_Object__Ljava_lang_Object_I_V_668 rfl) (g := (mkF m 20 #[rv a1, rv el2] [(.int (2 : Int32)), (.ref ed), (.ref el2), (.ref a1)])) (argsL := [(.ref el2), (.ref ed), (.int (2 : Int32))]) (rest := []) (W := 0) rfl rfl (hb hby d6_20) (by rw [hml]; rfl) (by show 2 * 0 + _ ≤ _; exact Nat.le_of_eq rfl) rfl (by decide) (by decide) (by decide) (by decide) (by decide)
  have N13 := Fr.app N3 Nq12
  refine own_t T12 (mkF m 23 #[rv a1, rv el2] []) st12 ?_
  refine own_g T12 (mkF m 24 #[rv a1, rv el2] [(.int (1 : Int32))]) (fun _ kq => XS.iconst X12.here hx rfl (hb hby d6_23) kq) ?_
  have K14 : Keep h0 _ [a1, ed] := (((Keep.refl h0 [a1, ed]).wr W2 (Or.inl (List.mem_of_getElem? (i := 0) rfl))).trans Kc12 (allS (Or.inl (List.mem_of_getElem? (i := 0) rfl)) (allS (Or.inl (List.mem_of_getElem? (i := 1) rfl)) all0)))
  refine own_out X12 Bd.notSynchronized (v := (some (.int (1 : Int32)))) (fun h => by rw [Bd.returns] at h; cases h) (fun fs hr => retN X12 hx (t := .boolean) Bd.returns (by simp) (hb hby d6_24) hr) ?_ (by decide) (by decide)
  exact ⟨rfl, N13, K14, Fa12, Fb12, Fc12, Ar12, Er12⟩
theorem ef_addb3 (m : MethodId) (x0 : Addr) (x1 : Addr) (x2 : Addr) (x3 : Int32) : entryFrame m #[(.ref x0), (.ref x1), (.ref x2), (.int x3)] 4 = mkF m 0 #[.val (.ref x0), .val (.ref x1), .val (.ref x2), .val (.int x3)] [] := by first | (simp [entryFrame, mkF, argsToLocals, Value.category]; done) | rfl
def Qaddb3 (Z : State) (a1 ed : Addr) (kd : ClassId) (mc : Int32) (el0 el1 el2 el3 : Addr) (h0 : Heap) (n0 : Nat) (v : Option Value) (h : Heap) (L : List Loc) : Prop := v = none ∧ Fr n0 L ∧ Keep h0 h [a1, ed] ∧ Fld Z h a1 "java/util/AbstractList" "modCount" "I" (.int mc) ∧ Fld Z h a1 "java/util/ArrayList" "size" "I" (.int (4 : Int32)) ∧ Fld Z h a1 "java/util/ArrayList" "elementData" "[Ljava/lang/Object;" (.ref ed) ∧ Arv Z h ed kd (.object "java/lang/Object") (10 : Int32) [(.ref el0), (.ref el1), (.ref el2), (.ref el3), .null, .null, .null, .null, .null, .null] .null ∧ Exa Z h ed "[Ljava/lang/Object;"
set_option maxRecDepth 65536 in
set_option maxHeartbeats 40000000 in
theorem rmaddb3 (l : Launch) (Z : State) (a0 : Array Value) (hw : own_H a0 Z) (ws : List Jvm.Cond) (a1 ed : Addr) (kd : ClassId) (mc : Int32) (el0 el1 el2 el3 : Addr) (h0 : Heap) (n0 : Nat) (O0 : Old Z n0 h0) (Ea : Exa Z h0 a1 "java/util/ArrayList") (Fm : Fld Z h0 a1 "java/util/AbstractList" "modCount" "I" (.int mc)) (Fs : Fld Z h0 a1 "java/util/ArrayList" "size" "I" (.int (3 : Int32))) (Fe : Fld Z h0 a1 "java/util/ArrayList" "elementData" "[Ljava/lang/Object;" (.ref ed)) (ga : n0 ≤ a1) (Ad : Arv Z h0 ed kd (.object "java/lang/Object") (10 : Int32) [(.ref el0), (.ref el1), (.ref el2), .null, .null, .null, .null, .null, .null, .null] .null) (Ed : Exa Z h0 ed "[Ljava/lang/Object;") (Od : Ovr Z kd "java/lang/Object") (gd : n0 ≤ ed) (ne : a1 ≠ ed) (Be : Exa Z Z.heap el3 "java/math/BigDecimal") :
    own_M l (⟨"java/util/ArrayList", "add", "(Ljava/lang/Object;[Ljava/lang/Object;I)V"⟩ : MethodName) jdk_38_method_24_code 4 none ws (own_R 0 0 0 0) Z #[(.ref a1), (.ref el3), (.ref ed), (.int (3 : Int32))] h0 (Qaddb3 Z a1 ed kd mc el0 el1 el2 el3 h0 n0) := by
  refine own_body (plainFor_of_name pn_java_util_ArrayList) (fun m => ef_addb3 m a1 el3 ed (3 : Int32)) ?_
  intro p e s m below meth c s₁ Bd hx hby hml hown hnm X0 e0 hZ
  have N0 := Fr.nil n0
  refine own_g s₁ (mkF m 2 #[rv a1, rv el3, rv ed, iv (3 : Int32)] [(.ref ed), (.int (3 : Int32))]) (fun _ kq => XS.iloadN X0.here hx rfl (hb hby d7_0) rfl (XS.aloadN X0.here hx rfl (hb hby d7_1) rfl rfl kq)) ?_
  refine own_g s₁ (mkF m 3 #[rv a1, rv el3, rv ed, iv (3 : Int32)] [(.int (10 : Int32)), (.int (3 : Int32))]) (own_alen X0 hx hZ e0 Ad (g := (mkF m 2 #[rv a1, rv el3, rv ed, iv (3 : Int32)] [(.ref ed), (.int (3 : Int32))])) rfl rfl (hb hby d7_2)) ?_
  refine own_g s₁ (mkF m 14 #[rv a1, rv el3, rv ed, iv (3 : Int32)] [(.ref el3), (.int (3 : Int32)), (.ref ed)]) (fun _ kq => XS.icmpYes X0.here hx rfl (pc0 := 3) (pc' := 11) rfl (hb hby d7_3) rfl (feq ((by decide) : ¬ ((3 : Int32) = (10 : Int32)))).2 (by decide) (by decide) (XS.aloadN X0.here hx rfl (hb hby d7_11) rfl rfl (XS.iloadN X0.here hx rfl (hb hby d7_12) rfl (XS.aloadN X0.here hx rfl (hb hby d7_13) rfl rfl kq)))) ?_
  obtain ⟨cl1, Ar1, q1, S1, Nn1, H1, G1⟩ := id Ad
  have hin2 : ¬ ((3 : Int32) < 0 ∨ cl1.slots.size ≤ ((3 : Int32)).toNatClampNeg) := inb_of S1 ⟨by decide, by decide⟩
  obtain ⟨T2, h2, X2, e2, W2, st2⟩ := stR X0 hx hZ e0 Ar1 (j := (3 : Int32)) hin2 rfl (Sto.ofV Ar1 q1 Od (Ins.of_exa (Be.ext O0.2) (own_W66 hw))) (g := (mkF m 14 #[rv a1, rv el3, rv ed, iv (3 : Int32)] [(.ref el3), (.int (3 : Int32)), (.ref ed)])) rfl rfl (hb hby d7_14)
  have V2 : Arv Z h2 ed kd (.object "java/lang/Object") (10 : Int32) [(.ref el0), (.ref el1), (.ref el2), (.ref el3), .null, .null, .null, .null, .null, .null] .null := Arv.set Ar1 q1 S1 Nn1 H1 G1 rfl W2 3 rfl (Nat.le_of_ble_eq_true rfl)
  have N3 := Fr.snoc X2 N0 gd
  refine own_g T2 (mkF m 15 #[rv a1, rv el3, rv ed, iv (3 : Int32)] []) st2 ?_
  refine own_g T2 (mkF m 19 #[rv a1, rv el3, rv ed, iv (3 : Int32)] [(.int (4 : Int32)), (.ref a1)]) (fun _ kq => XS.aloadN X2.here hx rfl (hb hby d7_15) rfl rfl (XS.iloadN X2.here hx rfl (hb hby d7_16) rfl (XS.iconst X2.here hx rfl (hb hby d7_17) (XS.iadd X2.here hx rfl (hb hby d7_18) rfl kq)))) ?_
  have f4 := (Ea.wr W2)
  have f5 := (Fs.other W2 (Or.inl ne))
  obtain ⟨T6, h6, X6, e6, W6, st6⟩ := putF X2 hx hZ hown (host := "") (Or.inl (own_W43 hw)) Via.refl e2 f5 f4 (Or.inl (own_W44 hw)) (own_W11 hw) (ty := .int) (by decide) rfl rfl (g := (mkF m 19 #[rv a1, rv el3, rv ed, iv (3 : Int32)] [(.int (4 : Int32)), (.ref a1)])) rfl rfl (hb hby d7_19)
  have Fw6 := Fld.same W6 f5
  have N7 := Fr.snoc X6 N3 ga
  refine own_g T6 (mkF m 22 #[rv a1, rv el3, rv ed, iv (3 : Int32)] []) st6 ?_
  have K8 : Keep h0 _ [a1, ed] := (((Keep.refl h0 [a1, ed]).wr W2 (Or.inl (List.mem_of_getElem? (i := 1) rfl))).wr W6 (Or.inl (List.mem_of_getElem? (i := 0) rfl)))
  have f9 := ((Fm.other W2 (Or.inl ne)).other W6 (Or.inr (slot_ne (Or.inl (own_W32 hw)) (Or.inl (own_W44 hw)) (by decide) (t := .int) (t' := .int) (by decide) (by decide))))
  have f10 := ((Fe.other W2 (Or.inl ne)).other W6 (Or.inr (slot_ne (Or.inl (own_W35 hw)) (Or.inl (own_W44 hw)) (by decide) (t := (.array (.object "java/lang/Object"))) (t' := .int) (by decide) (by decide))))
  have f11 := (V2.other W6 (Ne.symm ne))
  have f12 := ((Ed.wr W2).wr W6)
  refine own_out X6 Bd.notSynchronized (v := none) (fun _ => rfl) (fun fs hr => X6.returnOut hx Bd.returns (hb hby d7_22) hr) ?_ (by decide) (by decide)
  rw [e6]
  exact ⟨rfl, N7, K8, f9, Fw6, f10, f11, f12⟩
theorem ef_adda3 (m : MethodId) (x0 : Addr) (x1 : Addr) : entryFrame m #[(.ref x0), (.ref x1)] 2 = mkF m 0 #[.val (.ref x0), .val (.ref x1)] [] := by first | (simp [entryFrame, mkF, argsToLocals, Value.category]; done) | rfl
def Qadda3 (Z : State) (a1 ed : Addr) (kd : ClassId) (el0 el1 el2 el3 : Addr) (h0 : Heap) (n0 : Nat) (v : Option Value) (h : Heap) (L : List Loc) : Prop := v = some (.int (1 : Int32)) ∧ Fr n0 L ∧ Keep h0 h [a1, ed] ∧ Fld Z h a1 "java/util/AbstractList" "modCount" "I" (.int (4 : Int32)) ∧ Fld Z h a1 "java/util/ArrayList" "size" "I" (.int (4 : Int32)) ∧ Fld Z h a1 "java/util/ArrayList" "elementData" "[Ljava/lang/Object;" (.ref ed) ∧ Arv Z h ed kd (.object "java/lang/Object") (10 : Int32) [(.ref el0), (.ref el1), (.ref el2), (.ref el3), .null, .null, .null, .null, .null, .null] .null ∧ Exa Z h ed "[Ljava/lang/Object;"
set_option maxRecDepth 65536 in
set_option maxHeartbeats 40000000 in
theorem rmadda3 (l : Launch) (Z : State) (a0 : Array Value) (hw : own_H a0 Z) (ws : List Jvm.Cond) (a1 ed : Addr) (kd : ClassId) (el0 el1 el2 el3 : Addr) (h0 : Heap) (n0 : Nat) (O0 : Old Z n0 h0) (Ea : Exa Z h0 a1 "java/util/ArrayList") (Fm : Fld Z h0 a1 "java/util/AbstractList" "modCount" "I" (.int (3 : Int32))) (Fs : Fld Z h0 a1 "java/util/ArrayList" "size" "I" (.int (3 : Int32))) (Fe : Fld Z h0 a1 "java/util/ArrayList" "elementData" "[Ljava/lang/Object;" (.ref ed)) (ga : n0 ≤ a1) (Ad : Arv Z h0 ed kd (.object "java/lang/Object") (10 : Int32) [(.ref el0), (.ref el1), (.ref el2), .null, .null, .null, .null, .null, .null, .null] .null) (Ed : Exa Z h0 ed "[Ljava/lang/Object;") (Od : Ovr Z kd "java/lang/Object") (gd : n0 ≤ ed) (ne : a1 ≠ ed) (Be : Exa Z Z.heap el3 "java/math/BigDecimal") :
    own_M l (⟨"java/util/ArrayList", "add", "(Ljava/lang/Object;)Z"⟩ : MethodName) jdk_38_method_25_code 2 (some .boolean) ws (own_R 1 0 0 15) Z #[(.ref a1), (.ref el3)] h0 (Qadda3 Z a1 ed kd el0 el1 el2 el3 h0 n0) := by
  refine own_body (plainFor_of_name pn_java_util_ArrayList) (fun m => ef_adda3 m a1 el3) ?_
  intro p e s m below meth c s₁ Bd hx hby hml hown hnm X0 e0 hZ
  have N0 := Fr.nil n0
  refine own_g s₁ (mkF m 2 #[rv a1, rv el3] [(.ref a1), (.ref a1)]) (fun _ kq => XS.aloadN X0.here hx rfl (hb hby d6_0) rfl rfl (XS.dup X0.here hx rfl (hb hby d6_1) rfl rfl kq)) ?_
  obtain ⟨T1, X1, e1, st1⟩ := getF X0 hx hZ hown (host := "") (Or.inl (own_W41 hw)) (Via.of (own_W42 hw)) e0 Fm (g := (mkF m 2 #[rv a1, rv el3] [(.ref a1), (.ref a1)])) rfl rfl (hb hby d6_2)
  refine own_g T1 (mkF m 5 #[rv a1, rv el3] [(.int (3 : Int32)), (.ref a1)]) st1 ?_
  refine own_g T1 (mkF m 7 #[rv a1, rv el3] [(.int (4 : Int32)), (.ref a1)]) (fun _ kq => XS.iconst X1.here hx rfl (hb hby d6_5) (XS.iadd X1.here hx rfl (hb hby d6_6) rfl kq)) ?_
  obtain ⟨T2, h2, X2, e2, W2, st2⟩ := putF X1 hx hZ hown (host := "") (Or.inl (own_W41 hw)) (Via.of (own_W42 hw)) e1 Fm Ea (Or.inl (own_W32 hw)) (own_W11 hw) (ty := .int) (by decide) rfl rfl (g := (mkF m 7 #[rv a1, rv el3] [(.int (4 : Int32)), (.ref a1)])) rfl rfl (hb hby d6_7)
  have Fw2 := Fld.same W2 Fm
  have N3 := Fr.snoc X2 N0 ga
  refine own_g T2 (mkF m 10 #[rv a1, rv el3] []) st2 ?_
  refine own_g T2 (mkF m 13 #[rv a1, rv el3] [(.ref a1), (.ref el3), (.ref a1)]) (fun _ kq => XS.aloadN X2.here hx rfl (hb hby d6_10) rfl rfl (XS.aloadN X2.here hx rfl (hb hby d6_11) rfl rfl (XS.aloadN X2.here hx rfl (hb hby d6_12) rfl rfl kq))) ?_
  have f4 := (Fe.other W2 (Or.inr (slot_ne (Or.inl (own_W35 hw)) (Or.inl (own_W32 hw)) (by decide) (t := (.array (.object "java/lang/Object"))) (t' := .int) (by decide) (by decide))))
  obtain ⟨T5, X5, e5, st5⟩ := getF X2 hx hZ hown (host := "") (Or.inl (own_W34 hw)) Via.refl e2 f4 (g := (mkF m 13 #[rv a1, rv el3] [(.ref a1), (.ref el3), (.ref a1)])) rfl rfl (hb hby d6_13)
  refine own_g T5 (mkF m 16 #[rv a1, rv el3] [(.ref ed), (.ref el3), (.ref a1)]) st5 ?_
  refine own_g T5 (mkF m 17 #[rv a1, rv el3] [(.ref a1), (.ref ed), (.ref el3), (.ref a1)]) (fun _ kq => XS.aloadN X5.here hx rfl (hb hby d6_16) rfl rfl kq) ?_
  have f6 := (Fs.other W2 (Or.inr (slot_ne (Or.inl (own_W44 hw)) (Or.inl (own_W32 hw)) (by decide) (t := .int) (t' := .int) (by decide) (by decide))))
  obtain ⟨T7, X7, e7, st7⟩ := getF X5 hx hZ hown (host := "") (Or.inl (own_W43 hw)) Via.refl e5 f6 (g := (mkF m 17 #[rv a1, rv el3] [(.ref a1), (.ref ed), (.ref el3), (.ref a1)])) rfl rfl (hb hby d6_17)
  refine own_g T7 (mkF m 20 #[rv a1, rv el3] [(.int (3 : Int32)), (.ref ed), (.ref el3), (.ref a1)]) st7 ?_
  have O8 := (O0.wr W2 ga)
  have f9 := (Ea.wr W2)
  have f10 := (Ad.other W2 (Ne.symm ne))
  have f11 := (Ed.wr W2)
  obtain ⟨_, T12, L12, X12, ⟨rfl, Nq12, Kc12, Fa12, Fb12, Fc12, Ar12, Er12⟩, st12⟩ := own_cP X7 hx hZ hown (own_W45 hw) (own_W47 hw) (own_W48 hw) (own_W46 hw) (own_W12 hw) (own_W49 hw) (rmaddb3 l Z a0 hw [] a1 ed kd (4 : Int32) el0 el1 el2 el3 h2 n0 O8 f9 Fw2 f6 f4 ga f10 f11 Od gd ne Be) e7 f9 (lenOf pd_Ljava_lang_Object__Ljava_lang_Object_I_V_668 rfl) (g := (mkF m 20 #[rv a1, rv el3] [(.int (3 : Int32)), (.ref ed), (.ref el3), (.ref a1)])) (argsL := [(.ref el3), (.ref ed), (.int (3 : Int32))]) (rest := []) (W := 0) rfl rfl (hb hby d6_20) (by rw [hml]; rfl) (by show 2 * 0 + _ ≤ _; exact Nat.le_of_eq rfl) rfl (by decide) (by decide) (by decide) (by decide) (by decide)
  have N13 := Fr.app N3 Nq12
  refine own_t T12 (mkF m 23 #[rv a1, rv el3] []) st12 ?_
  refine own_g T12 (mkF m 24 #[rv a1, rv el3] [(.int (1 : Int32))]) (fun _ kq => XS.iconst X12.here hx rfl (hb hby d6_23) kq) ?_
  have K14 : Keep h0 _ [a1, ed] := (((Keep.refl h0 [a1, ed]).wr W2 (Or.inl (List.mem_of_getElem? (i := 0) rfl))).trans Kc12 (allS (Or.inl (List.mem_of_getElem? (i := 0) rfl)) (allS (Or.inl (List.mem_of_getElem? (i := 1) rfl)) all0)))
  refine own_out X12 Bd.notSynchronized (v := (some (.int (1 : Int32)))) (fun h => by rw [Bd.returns] at h; cases h) (fun fs hr => retN X12 hx (t := .boolean) Bd.returns (by simp) (hb hby d6_24) hr) ?_ (by decide) (by decide)
  exact ⟨rfl, N13, K14, Fa12, Fb12, Fc12, Ar12, Er12⟩
def own_W102 {a0 Z} (hw : own_H a0 Z) := hw _ (List.mem_of_getElem? (i := 102) rfl)
theorem d15_0 : decode jdk_42_method_154_code 0 = .ok (.getstatic 38, 3) := by decide +kernel
theorem d15_3 : decode jdk_42_method_154_code 3 = .ok (.ifCond .eq 14, 3) := by decide +kernel
theorem d15_6 : decode jdk_42_method_154_code 6 = .ok (.aload_n 0, 1) := by decide +kernel
def own_W103 {a0 Z} (hw : own_H a0 Z) := hw _ (List.mem_of_getElem? (i := 103) rfl)
theorem d15_7 : decode jdk_42_method_154_code 7 = .ok (.getfield 15, 3) := by decide +kernel
theorem d15_10 : decode jdk_42_method_154_code 10 = .ok (.ifCond .ne 7, 3) := by decide +kernel
theorem d15_13 : decode jdk_42_method_154_code 13 = .ok (.iconst 1, 1) := by decide +kernel
theorem d15_14 : decode jdk_42_method_154_code 14 = .ok (.goto 4, 3) := by decide +kernel
theorem d15_18 : decode jdk_42_method_154_code 18 = .ok (.ireturn, 1) := by decide +kernel
theorem ef_islat (m : MethodId) (x0 : Addr) : entryFrame m #[(.ref x0)] 1 = mkF m 0 #[.val (.ref x0)] [] := by first | (simp [entryFrame, mkF, argsToLocals, Value.category]; done) | rfl
def Qislat (Z : State) (sa bv : Addr) (kb : ClassId) (cs : Int32) (h0 : Heap) (n0 : Nat) (v : Option Value) (h : Heap) (L : List Loc) : Prop := v = some (.int (1 : Int32)) ∧ Fr n0 L ∧ h = h0
theorem pn_java_lang_String : plainName "java/lang/String" = true := by first | (simp [plainName, overriddenIn]; done) | decide +kernel
set_option maxRecDepth 65536 in
set_option maxHeartbeats 40000000 in
theorem rmislat (l : Launch) (Z : State) (a0 : Array Value) (hw : own_H a0 Z) (ws : List Jvm.Cond) (sa bv : Addr) (kb : ClassId) (cs : Int32) (h0 : Heap) (n0 : Nat) (O0 : Old Z n0 h0) (Es : Exa Z h0 sa "java/lang/String") (Fc : Fld Z h0 sa "java/lang/String" "coder" "B" (.int (0 : Int32))) (Fv : Fld Z h0 sa "java/lang/String" "value" "[B" (.ref bv)) (Av : Arv Z h0 bv kb .byte (1 : Int32) [.int (84 : Int32)] (.int (0 : Int32))) (Scs : Sta Z Z.heap "java/lang/String" "COMPACT_STRINGS" "Z" (.int cs)) (hcs : ¬ (cs = (0 : Int32))) :
    own_M l (⟨"java/lang/String", "isLatin1", "()Z"⟩ : MethodName) jdk_42_method_154_code 1 (some .boolean) ws (own_R 0 0 0 0) Z #[(.ref sa)] h0 (Qislat Z sa bv kb cs h0 n0) := by
  refine own_body (plainFor_of_name pn_java_lang_String) (fun m => ef_islat m sa) ?_
  intro p e s m below meth c s₁ Bd hx hby hml hown hnm X0 e0 hZ
  have N0 := Fr.nil n0
  obtain ⟨T1, X1, e1, st1⟩ := getS2 X0 hx hZ hown (host := "") (Or.inl (own_W102 hw)) Via.refl e0 (Scs.ext O0.2) (g := (mkF m 0 #[rv sa] [])) rfl (hb hby d15_0)
  refine own_g T1 (mkF m 3 #[rv sa] [(.int cs)]) st1 ?_
  refine own_g T1 (mkF m 7 #[rv sa] [(.ref sa)]) (fun _ kq => XS.ifNo X1.here hx rfl (hb hby d15_3) rfl ((if0 _ _).trans (feq (hcs : ¬ (cs = (0 : Int32)))).1) (XS.aloadN X1.here hx rfl (hb hby d15_6) rfl rfl kq)) ?_
  obtain ⟨T2, X2, e2, st2⟩ := getF X1 hx hZ hown (host := "") (Or.inl (own_W103 hw)) Via.refl e1 Fc (g := (mkF m 7 #[rv sa] [(.ref sa)])) rfl rfl (hb hby d15_7)
  refine own_g T2 (mkF m 10 #[rv sa] [(.int (0 : Int32))]) st2 ?_
  refine own_g T2 (mkF m 18 #[rv sa] [(.int (1 : Int32))]) (fun _ kq => XS.ifNo X2.here hx rfl (hb hby d15_10) rfl ((if0 _ _).trans (teq ((by decide) : (0 : Int32) = (0 : Int32))).2) (XS.iconst X2.here hx rfl (hb hby d15_13) (XS.goto X2.here hx rfl (pc0 := 14) (pc' := 18) rfl (hb hby d15_14) (by decide) (by decide) kq))) ?_
  refine own_out X2 Bd.notSynchronized (v := (some (.int (1 : Int32)))) (fun h => by rw [Bd.returns] at h; cases h) (fun fs hr => retN X2 hx (t := .boolean) Bd.returns (by simp) (hb hby d15_18) hr) ?_ (by decide) (by decide)
  rw [e2]
  exact ⟨rfl, N0, rfl⟩
theorem d21_0 : decode jdk_42_method_152_code 0 = .ok (.getstatic 38, 3) := by decide +kernel
theorem d21_3 : decode jdk_42_method_152_code 3 = .ok (.ifCond .eq 10, 3) := by decide +kernel
theorem d21_6 : decode jdk_42_method_152_code 6 = .ok (.aload_n 0, 1) := by decide +kernel
theorem d21_7 : decode jdk_42_method_152_code 7 = .ok (.getfield 15, 3) := by decide +kernel
theorem d21_10 : decode jdk_42_method_152_code 10 = .ok (.goto 4, 3) := by decide +kernel
theorem d21_14 : decode jdk_42_method_152_code 14 = .ok (.ireturn, 1) := by decide +kernel
theorem ef_coder (m : MethodId) (x0 : Addr) : entryFrame m #[(.ref x0)] 1 = mkF m 0 #[.val (.ref x0)] [] := by first | (simp [entryFrame, mkF, argsToLocals, Value.category]; done) | rfl
def Qcoder (Z : State) (sa bv : Addr) (kb : ClassId) (cs : Int32) (h0 : Heap) (n0 : Nat) (v : Option Value) (h : Heap) (L : List Loc) : Prop := v = some (.int (0 : Int32)) ∧ Fr n0 L ∧ h = h0
set_option maxRecDepth 65536 in
set_option maxHeartbeats 40000000 in
theorem rmcoder (l : Launch) (Z : State) (a0 : Array Value) (hw : own_H a0 Z) (ws : List Jvm.Cond) (sa bv : Addr) (kb : ClassId) (cs : Int32) (h0 : Heap) (n0 : Nat) (O0 : Old Z n0 h0) (Es : Exa Z h0 sa "java/lang/String") (Fc : Fld Z h0 sa "java/lang/String" "coder" "B" (.int (0 : Int32))) (Fv : Fld Z h0 sa "java/lang/String" "value" "[B" (.ref bv)) (Av : Arv Z h0 bv kb .byte (1 : Int32) [.int (84 : Int32)] (.int (0 : Int32))) (Scs : Sta Z Z.heap "java/lang/String" "COMPACT_STRINGS" "Z" (.int cs)) (hcs : ¬ (cs = (0 : Int32))) :
    own_M l (⟨"java/lang/String", "coder", "()B"⟩ : MethodName) jdk_42_method_152_code 1 (some .byte) ws (own_R 0 0 0 0) Z #[(.ref sa)] h0 (Qcoder Z sa bv kb cs h0 n0) := by
  refine own_body (plainFor_of_name pn_java_lang_String) (fun m => ef_coder m sa) ?_
  intro p e s m below meth c s₁ Bd hx hby hml hown hnm X0 e0 hZ
  have N0 := Fr.nil n0
  obtain ⟨T1, X1, e1, st1⟩ := getS2 X0 hx hZ hown (host := "") (Or.inl (own_W102 hw)) Via.refl e0 (Scs.ext O0.2) (g := (mkF m 0 #[rv sa] [])) rfl (hb hby d21_0)
  refine own_g T1 (mkF m 3 #[rv sa] [(.int cs)]) st1 ?_
  refine own_g T1 (mkF m 7 #[rv sa] [(.ref sa)]) (fun _ kq => XS.ifNo X1.here hx rfl (hb hby d21_3) rfl ((if0 _ _).trans (feq (hcs : ¬ (cs = (0 : Int32)))).1) (XS.aloadN X1.here hx rfl (hb hby d21_6) rfl rfl kq)) ?_
  obtain ⟨T2, X2, e2, st2⟩ := getF X1 hx hZ hown (host := "") (Or.inl (own_W103 hw)) Via.refl e1 Fc (g := (mkF m 7 #[rv sa] [(.ref sa)])) rfl rfl (hb hby d21_7)
  refine own_g T2 (mkF m 10 #[rv sa] [(.int (0 : Int32))]) st2 ?_
  refine own_g T2 (mkF m 14 #[rv sa] [(.int (0 : Int32))]) (fun _ kq => XS.goto X2.here hx rfl (pc0 := 10) (pc' := 14) rfl (hb hby d21_10) (by decide) (by decide) kq) ?_
  refine own_out X2 Bd.notSynchronized (v := (some (.int (0 : Int32)))) (fun h => by rw [Bd.returns] at h; cases h) (fun fs hr => retN X2 hx (t := .byte) Bd.returns (by simp) (hb hby d21_14) hr) ?_ (by decide) (by decide)
  rw [e2]
  exact ⟨rfl, N0, rfl⟩
theorem d17_0 : decode jdk_43_method_44_code 0 = .ok (.aload_n 0, 1) := by decide +kernel
theorem d17_1 : decode jdk_43_method_44_code 1 = .ok (.iload_n 1, 1) := by decide +kernel
theorem d17_2 : decode jdk_43_method_44_code 2 = .ok (.baload, 1) := by decide +kernel
theorem d17_3 : decode jdk_43_method_44_code 3 = .ok (.sipush 255, 3) := by decide +kernel
theorem d17_6 : decode jdk_43_method_44_code 6 = .ok (.iand, 1) := by decide +kernel
theorem d17_7 : decode jdk_43_method_44_code 7 = .ok (.i2c, 1) := by decide +kernel
theorem d17_8 : decode jdk_43_method_44_code 8 = .ok (.ireturn, 1) := by decide +kernel
theorem ef_gch (m : MethodId) (x0 : Addr) (x1 : Int32) : entryFrame m #[(.ref x0), (.int x1)] 2 = mkF m 0 #[.val (.ref x0), .val (.int x1)] [] := by first | (simp [entryFrame, mkF, argsToLocals, Value.category]; done) | rfl
def Qgch (Z : State) (bv : Addr) (kb : ClassId) (h0 : Heap) (n0 : Nat) (v : Option Value) (h : Heap) (L : List Loc) : Prop := v = some (.int (84 : Int32)) ∧ Fr n0 L ∧ h = h0
theorem pn_java_lang_StringLatin1 : plainName "java/lang/StringLatin1" = true := by first | (simp [plainName, overriddenIn]; done) | decide +kernel
set_option maxRecDepth 65536 in
set_option maxHeartbeats 40000000 in
theorem rmgch (l : Launch) (Z : State) (a0 : Array Value) (hw : own_H a0 Z) (ws : List Jvm.Cond) (bv : Addr) (kb : ClassId) (h0 : Heap) (n0 : Nat) (O0 : Old Z n0 h0) (Av : Arv Z h0 bv kb .byte (1 : Int32) [.int (84 : Int32)] (.int (0 : Int32))) :
    own_M l (⟨"java/lang/StringLatin1", "getChar", "([BI)C"⟩ : MethodName) jdk_43_method_44_code 2 (some .char) ws (own_R 0 0 0 0) Z #[(.ref bv), (.int (0 : Int32))] h0 (Qgch Z bv kb h0 n0) := by
  refine own_body (plainFor_of_name pn_java_lang_StringLatin1) (fun m => ef_gch m bv (0 : Int32)) ?_
  intro p e s m below meth c s₁ Bd hx hby hml hown hnm X0 e0 hZ
  have N0 := Fr.nil n0
  refine own_g s₁ (mkF m 2 #[rv bv, iv (0 : Int32)] [(.int (0 : Int32)), (.ref bv)]) (fun _ kq => XS.aloadN X0.here hx rfl (hb hby d17_0) rfl rfl (XS.iloadN X0.here hx rfl (hb hby d17_1) rfl kq)) ?_
  obtain ⟨cl1, Ar1, q1, S1, Nn1, H1, G1⟩ := id Av
  have hin2 : ¬ ((0 : Int32) < 0 ∨ cl1.slots.size ≤ ((0 : Int32)).toNatClampNeg) := inb_of S1 ⟨by decide, by decide⟩
  have hat2 : cl1.slots[((0 : Int32)).toNatClampNeg]? = some (.int (84 : Int32)) := Has.at H1 hin2 rfl
  refine own_g s₁ (mkF m 3 #[rv bv, iv (0 : Int32)] [(.int (84 : Int32))]) (X0.baloadBytes hx (j := (0 : Int32)) (v := (.int (84 : Int32))) (by rw [e0]; exact Ar1.1) (State.isArrayOf_alike hZ.alike Ar1.2.1) Ar1.2.2 hin2 hat2 (g := (mkF m 2 #[rv bv, iv (0 : Int32)] [(.int (0 : Int32)), (.ref bv)])) rfl rfl (hb hby d17_2)) ?_
  refine own_g s₁ (mkF m 8 #[rv bv, iv (0 : Int32)] [(.int (84 : Int32))]) (fun _ kq => XS.sipush X0.here hx rfl (hb hby d17_3) (XS.iand X0.here hx rfl (hb hby d17_6) rfl (XS.i2c X0.here hx rfl (hb hby d17_7) rfl kq))) ?_
  refine own_out X0 Bd.notSynchronized (v := (some (.int (84 : Int32)))) (fun h => by rw [Bd.returns] at h; cases h) (fun fs hr => retN X0 hx (t := .char) Bd.returns (by simp) (hb hby d17_8) hr) ?_ (by decide) (by decide)
  rw [e0]
  exact ⟨rfl, N0, rfl⟩
theorem d19_0 : decode jdk_116_method_1_code 0 = .ok (.iload_n 1, 1) := by decide +kernel
theorem d19_1 : decode jdk_116_method_1_code 1 = .ok (.i2c, 1) := by decide +kernel
theorem d19_2 : decode jdk_116_method_1_code 2 = .ok (.istore_n 2, 1) := by decide +kernel
def own_W124 {a0 Z} (hw : own_H a0 Z) := hw _ (List.mem_of_getElem? (i := 124) rfl)
theorem d19_3 : decode jdk_116_method_1_code 3 = .ok (.getstatic 1, 3) := by decide +kernel
theorem d19_6 : decode jdk_116_method_1_code 6 = .ok (.iload_n 2, 1) := by decide +kernel
theorem d19_7 : decode jdk_116_method_1_code 7 = .ok (.iaload, 1) := by decide +kernel
theorem d19_8 : decode jdk_116_method_1_code 8 = .ok (.istore_n 3, 1) := by decide +kernel
theorem d19_9 : decode jdk_116_method_1_code 9 = .ok (.iload_n 3, 1) := by decide +kernel
theorem d19_10 : decode jdk_116_method_1_code 10 = .ok (.ireturn, 1) := by decide +kernel
theorem ef_gprop (m : MethodId) (x0 : Addr) (x1 : Int32) : entryFrame m #[(.ref x0), (.int x1)] 4 = mkF m 0 #[.val (.ref x0), .val (.int x1), .unset, .unset] [] := by first | (simp [entryFrame, mkF, argsToLocals, Value.category]; done) | rfl
def Qgprop (Z : State) (wi wa : Addr) (cla : Cell) (h0 : Heap) (n0 : Nat) (v : Option Value) (h : Heap) (L : List Loc) : Prop := v = some (.int (8552417 : Int32)) ∧ Fr n0 L ∧ h = h0
theorem pn_java_lang_CharacterDataLatin1 : plainName "java/lang/CharacterDataLatin1" = true := by first | (simp [plainName, overriddenIn]; done) | decide +kernel
set_option maxRecDepth 65536 in
set_option maxHeartbeats 40000000 in
theorem rmgprop (l : Launch) (Z : State) (a0 : Array Value) (hw : own_H a0 Z) (ws : List Jvm.Cond) (wi wa : Addr) (cla : Cell) (h0 : Heap) (n0 : Nat) (O0 : Old Z n0 h0) (Sa : Sta Z Z.heap "java/lang/CharacterDataLatin1" "A" "[I" (.ref wa)) (Ara : Jvm.RoadKit.Arr Z Z.heap wa cla .int) (hina : ¬ ((84 : Int32) < 0 ∨ cla.slots.size ≤ (84 : Int32).toNatClampNeg)) (hata : cla.slots[(84 : Int32).toNatClampNeg]? = some (.int (8552417 : Int32))) :
    own_M l (⟨"java/lang/CharacterDataLatin1", "getProperties", "(I)I"⟩ : MethodName) jdk_116_method_1_code 4 (some .int) ws (own_R 0 0 0 0) Z #[(.ref wi), (.int (84 : Int32))] h0 (Qgprop Z wi wa cla h0 n0) := by
  refine own_body (plainFor_of_name pn_java_lang_CharacterDataLatin1) (fun m => ef_gprop m wi (84 : Int32)) ?_
  intro p e s m below meth c s₁ Bd hx hby hml hown hnm X0 e0 hZ
  have N0 := Fr.nil n0
  refine own_g s₁ (mkF m 3 #[rv wi, iv (84 : Int32), iv (84 : Int32), .unset] []) (fun _ kq => XS.iloadN X0.here hx rfl (hb hby d19_0) rfl (XS.i2c X0.here hx rfl (hb hby d19_1) rfl (XS.istoreN X0.here hx rfl (hb hby d19_2) rfl (l' := #[rv wi, iv (84 : Int32), iv (84 : Int32), .unset]) rfl kq))) ?_
  obtain ⟨T1, X1, e1, st1⟩ := getS2 X0 hx hZ hown (host := "") (Or.inl (own_W124 hw)) Via.refl e0 (Sa.ext O0.2) (g := (mkF m 3 #[rv wi, iv (84 : Int32), iv (84 : Int32), .unset] [])) rfl (hb hby d19_3)
  refine own_g T1 (mkF m 6 #[rv wi, iv (84 : Int32), iv (84 : Int32), .unset] [(.ref wa)]) st1 ?_
  refine own_g T1 (mkF m 7 #[rv wi, iv (84 : Int32), iv (84 : Int32), .unset] [(.int (84 : Int32)), (.ref wa)]) (fun _ kq => XS.iloadN X1.here hx rfl (hb hby d19_6) rfl kq) ?_
  refine own_g T1 (mkF m 8 #[rv wi, iv (84 : Int32), iv (84 : Int32), .unset] [(.int (8552417 : Int32))]) (X1.iaload hx (j := (84 : Int32)) (v := .int (8552417 : Int32)) (by rw [e1]; exact (Ara.ext O0.2).1) (State.isArrayOf_alike hZ.alike Ara.2.1) Ara.2.2 hina hata (g := (mkF m 7 #[rv wi, iv (84 : Int32), iv (84 : Int32), .unset] [(.int (84 : Int32)), (.ref wa)])) rfl rfl (hb hby d19_7)) ?_
  refine own_g T1 (mkF m 10 #[rv wi, iv (84 : Int32), iv (84 : Int32), iv (8552417 : Int32)] [(.int (8552417 : Int32))]) (fun _ kq => XS.istoreN X1.here hx rfl (hb hby d19_8) rfl (l' := #[rv wi, iv (84 : Int32), iv (84 : Int32), iv (8552417 : Int32)]) rfl (XS.iloadN X1.here hx rfl (hb hby d19_9) rfl kq)) ?_
  refine own_out X1 Bd.notSynchronized (v := (some (.int (8552417 : Int32)))) (fun h => by rw [Bd.returns] at h; cases h) (fun fs hr => own_retI X1 hx Bd.returns (hb hby d19_10) hr) ?_ (by decide) (by decide)
  rw [e1]
  exact ⟨rfl, N0, rfl⟩
theorem d18_0 : decode jdk_116_method_26_code 0 = .ok (.aload_n 0, 1) := by decide +kernel
theorem d18_1 : decode jdk_116_method_26_code 1 = .ok (.iload_n 1, 1) := by decide +kernel
theorem d18_2 : decode jdk_116_method_26_code 2 = .ok (.invokevirtual 15, 3) := by decide +kernel
def own_W123 {a0 Z} (hw : own_H a0 Z) := hw _ (List.mem_of_getElem? (i := 123) rfl)
def own_W119 {a0 Z} (hw : own_H a0 Z) := hw _ (List.mem_of_getElem? (i := 119) rfl)
def own_W113 {a0 Z} (hw : own_H a0 Z) := hw _ (List.mem_of_getElem? (i := 113) rfl)
theorem pd_I_I_227 : parseMethodDescriptor "(I)I" = some ⟨[.int], some .int⟩ := by decide +kernel
def own_W120 {a0 Z} (hw : own_H a0 Z) := hw _ (List.mem_of_getElem? (i := 120) rfl)
def own_W122 {a0 Z} (hw : own_H a0 Z) := hw _ (List.mem_of_getElem? (i := 122) rfl)
def own_W121 {a0 Z} (hw : own_H a0 Z) := hw _ (List.mem_of_getElem? (i := 121) rfl)
theorem d18_5 : decode jdk_116_method_26_code 5 = .ok (.istore_n 2, 1) := by decide +kernel
theorem d18_6 : decode jdk_116_method_26_code 6 = .ok (.iload_n 2, 1) := by decide +kernel
theorem d18_7 : decode jdk_116_method_26_code 7 = .ok (.sipush 28672, 3) := by decide +kernel
theorem d18_10 : decode jdk_116_method_26_code 10 = .ok (.iand, 1) := by decide +kernel
theorem d18_11 : decode jdk_116_method_26_code 11 = .ok (.sipush 16384, 3) := by decide +kernel
theorem d18_14 : decode jdk_116_method_26_code 14 = .ok (.if_icmp .ne 7, 3) := by decide +kernel
theorem d18_21 : decode jdk_116_method_26_code 21 = .ok (.iconst 0, 1) := by decide +kernel
theorem d18_22 : decode jdk_116_method_26_code 22 = .ok (.ireturn, 1) := by decide +kernel
theorem ef_isws (m : MethodId) (x0 : Addr) (x1 : Int32) : entryFrame m #[(.ref x0), (.int x1)] 3 = mkF m 0 #[.val (.ref x0), .val (.int x1), .unset] [] := by first | (simp [entryFrame, mkF, argsToLocals, Value.category]; done) | rfl
def Qisws (Z : State) (wi wa : Addr) (cla : Cell) (h0 : Heap) (n0 : Nat) (v : Option Value) (h : Heap) (L : List Loc) : Prop := v = some (.int (0 : Int32)) ∧ Fr n0 L ∧ h = h0
set_option maxRecDepth 65536 in
set_option maxHeartbeats 40000000 in
theorem rmisws (l : Launch) (Z : State) (a0 : Array Value) (hw : own_H a0 Z) (ws : List Jvm.Cond) (wi wa : Addr) (cla : Cell) (h0 : Heap) (n0 : Nat) (O0 : Old Z n0 h0) (Ein : Exa Z Z.heap wi "java/lang/CharacterDataLatin1") (Sa : Sta Z Z.heap "java/lang/CharacterDataLatin1" "A" "[I" (.ref wa)) (Ara : Jvm.RoadKit.Arr Z Z.heap wa cla .int) (hina : ¬ ((84 : Int32) < 0 ∨ cla.slots.size ≤ (84 : Int32).toNatClampNeg)) (hata : cla.slots[(84 : Int32).toNatClampNeg]? = some (.int (8552417 : Int32))) :
    own_M l (⟨"java/lang/CharacterDataLatin1", "isWhitespace", "(I)Z"⟩ : MethodName) jdk_116_method_26_code 3 (some .boolean) ws (own_R 1 0 0 15) Z #[(.ref wi), (.int (84 : Int32))] h0 (Qisws Z wi wa cla h0 n0) := by
  refine own_body (plainFor_of_name pn_java_lang_CharacterDataLatin1) (fun m => ef_isws m wi (84 : Int32)) ?_
  intro p e s m below meth c s₁ Bd hx hby hml hown hnm X0 e0 hZ
  have N0 := Fr.nil n0
  refine own_g s₁ (mkF m 2 #[rv wi, iv (84 : Int32), .unset] [(.int (84 : Int32)), (.ref wi)]) (fun _ kq => XS.aloadN X0.here hx rfl (hb hby d18_0) rfl rfl (XS.iloadN X0.here hx rfl (hb hby d18_1) rfl kq)) ?_
  obtain ⟨_, T1, L1, X1, ⟨rfl, Nq1, hh1⟩, st1⟩ := own_cV X0 hx hZ hown (own_W119 hw) (own_W120 hw) (own_W122 hw) (own_W121 hw) (own_W113 hw) (own_W123 hw) (rmgprop l Z a0 hw [] wi wa cla h0 n0 O0 Sa Ara hina hata) e0 (Ein.ext O0.2) (lenOf pd_I_I_227 rfl) (g := (mkF m 2 #[rv wi, iv (84 : Int32), .unset] [(.int (84 : Int32)), (.ref wi)])) (argsL := [(.int (84 : Int32))]) (rest := []) (W := 0) rfl rfl (hb hby d18_2) (by rw [hml]; rfl) (by show 2 * 0 + _ ≤ _; exact Nat.le_of_eq rfl) rfl (by decide) (by decide) (by decide) (by decide) (by decide)
  have N2 := Fr.app N0 Nq1
  refine own_t T1 (mkF m 5 #[rv wi, iv (84 : Int32), .unset] [(.int (8552417 : Int32))]) st1 ?_
  refine own_g T1 (mkF m 22 #[rv wi, iv (84 : Int32), iv (8552417 : Int32)] [(.int (0 : Int32))]) (fun _ kq => XS.istoreN X1.here hx rfl (hb hby d18_5) rfl (l' := #[rv wi, iv (84 : Int32), iv (8552417 : Int32)]) rfl (XS.iloadN X1.here hx rfl (hb hby d18_6) rfl (XS.sipush X1.here hx rfl (hb hby d18_7) (XS.iand X1.here hx rfl (hb hby d18_10) rfl (XS.sipush X1.here hx rfl (hb hby d18_11) (XS.icmpYes X1.here hx rfl (pc0 := 14) (pc' := 21) rfl (hb hby d18_14) rfl (feq ((by decide) : ¬ ((28672 : Int32) = (16384 : Int32)))).2 (by decide) (by decide) (XS.iconst X1.here hx rfl (hb hby d18_21) kq))))))) ?_
  refine own_out X1 Bd.notSynchronized (v := (some (.int (0 : Int32)))) (fun h => by rw [Bd.returns] at h; cases h) (fun fs hr => retN X1 hx (t := .boolean) Bd.returns (by simp) (hb hby d18_22) hr) ?_ (by decide) (by decide)
  rw [hh1]
  exact ⟨rfl, N2, rfl⟩
theorem d16_0 : decode jdk_43_method_37_code 0 = .ok (.aload_n 0, 1) := by decide +kernel
theorem d16_1 : decode jdk_43_method_37_code 1 = .ok (.arraylength, 1) := by decide +kernel
theorem d16_2 : decode jdk_43_method_37_code 2 = .ok (.istore_n 1, 1) := by decide +kernel
theorem d16_3 : decode jdk_43_method_37_code 3 = .ok (.iconst 0, 1) := by decide +kernel
theorem d16_4 : decode jdk_43_method_37_code 4 = .ok (.istore_n 2, 1) := by decide +kernel
theorem d16_5 : decode jdk_43_method_37_code 5 = .ok (.iload_n 2, 1) := by decide +kernel
theorem d16_6 : decode jdk_43_method_37_code 6 = .ok (.iload_n 1, 1) := by decide +kernel
theorem d16_7 : decode jdk_43_method_37_code 7 = .ok (.if_icmp .ge 40, 3) := by decide +kernel
theorem d16_10 : decode jdk_43_method_37_code 10 = .ok (.aload_n 0, 1) := by decide +kernel
theorem d16_11 : decode jdk_43_method_37_code 11 = .ok (.iload_n 2, 1) := by decide +kernel
theorem d16_12 : decode jdk_43_method_37_code 12 = .ok (.invokestatic 50, 3) := by decide +kernel
def own_W111 {a0 Z} (hw : own_H a0 Z) := hw _ (List.mem_of_getElem? (i := 111) rfl)
def own_W109 {a0 Z} (hw : own_H a0 Z) := hw _ (List.mem_of_getElem? (i := 109) rfl)
def own_W107 {a0 Z} (hw : own_H a0 Z) := hw _ (List.mem_of_getElem? (i := 107) rfl)
theorem pd_BI_C_378 : parseMethodDescriptor "([BI)C" = some ⟨[(.array .byte), .int], some .char⟩ := by decide +kernel
def own_W110 {a0 Z} (hw : own_H a0 Z) := hw _ (List.mem_of_getElem? (i := 110) rfl)
theorem d16_15 : decode jdk_43_method_37_code 15 = .ok (.istore_n 3, 1) := by decide +kernel
theorem d16_16 : decode jdk_43_method_37_code 16 = .ok (.iload_n 3, 1) := by decide +kernel
theorem d16_17 : decode jdk_43_method_37_code 17 = .ok (.bipush 32, 2) := by decide +kernel
theorem d16_19 : decode jdk_43_method_37_code 19 = .ok (.if_icmp .eq 22, 3) := by decide +kernel
theorem d16_22 : decode jdk_43_method_37_code 22 = .ok (.iload_n 3, 1) := by decide +kernel
theorem d16_23 : decode jdk_43_method_37_code 23 = .ok (.bipush 9, 2) := by decide +kernel
theorem d16_25 : decode jdk_43_method_37_code 25 = .ok (.if_icmp .eq 16, 3) := by decide +kernel
def own_W112 {a0 Z} (hw : own_H a0 Z) := hw _ (List.mem_of_getElem? (i := 112) rfl)
theorem d16_28 : decode jdk_43_method_37_code 28 = .ok (.getstatic 66, 3) := by decide +kernel
theorem d16_31 : decode jdk_43_method_37_code 31 = .ok (.iload_n 3, 1) := by decide +kernel
theorem d16_32 : decode jdk_43_method_37_code 32 = .ok (.invokevirtual 211, 3) := by decide +kernel
def own_W118 {a0 Z} (hw : own_H a0 Z) := hw _ (List.mem_of_getElem? (i := 118) rfl)
def own_W114 {a0 Z} (hw : own_H a0 Z) := hw _ (List.mem_of_getElem? (i := 114) rfl)
theorem pd_I_Z_244 : parseMethodDescriptor "(I)Z" = some ⟨[.int], some .boolean⟩ := by decide +kernel
def own_W115 {a0 Z} (hw : own_H a0 Z) := hw _ (List.mem_of_getElem? (i := 115) rfl)
def own_W117 {a0 Z} (hw : own_H a0 Z) := hw _ (List.mem_of_getElem? (i := 117) rfl)
def own_W116 {a0 Z} (hw : own_H a0 Z) := hw _ (List.mem_of_getElem? (i := 116) rfl)
theorem d16_35 : decode jdk_43_method_37_code 35 = .ok (.ifCond .ne 6, 3) := by decide +kernel
theorem d16_38 : decode jdk_43_method_37_code 38 = .ok (.goto 9, 3) := by decide +kernel
theorem d16_47 : decode jdk_43_method_37_code 47 = .ok (.iload_n 2, 1) := by decide +kernel
theorem d16_48 : decode jdk_43_method_37_code 48 = .ok (.ireturn, 1) := by decide +kernel
theorem ef_lionw (m : MethodId) (x0 : Addr) : entryFrame m #[(.ref x0)] 4 = mkF m 0 #[.val (.ref x0), .unset, .unset, .unset] [] := by first | (simp [entryFrame, mkF, argsToLocals, Value.category]; done) | rfl
def Qlionw (Z : State) (bv : Addr) (kb : ClassId) (wi wa : Addr) (cla : Cell) (h0 : Heap) (n0 : Nat) (v : Option Value) (h : Heap) (L : List Loc) : Prop := v = some (.int (0 : Int32)) ∧ Fr n0 L ∧ h = h0
set_option maxRecDepth 65536 in
set_option maxHeartbeats 40000000 in
theorem rmlionw (l : Launch) (Z : State) (a0 : Array Value) (hw : own_H a0 Z) (ws : List Jvm.Cond) (bv : Addr) (kb : ClassId) (wi wa : Addr) (cla : Cell) (h0 : Heap) (n0 : Nat) (O0 : Old Z n0 h0) (Av : Arv Z h0 bv kb .byte (1 : Int32) [.int (84 : Int32)] (.int (0 : Int32))) (Sin : Sta Z Z.heap "java/lang/CharacterDataLatin1" "instance" "Ljava/lang/CharacterDataLatin1;" (.ref wi)) (Ein : Exa Z Z.heap wi "java/lang/CharacterDataLatin1") (Sa : Sta Z Z.heap "java/lang/CharacterDataLatin1" "A" "[I" (.ref wa)) (Ara : Jvm.RoadKit.Arr Z Z.heap wa cla .int) (hina : ¬ ((84 : Int32) < 0 ∨ cla.slots.size ≤ (84 : Int32).toNatClampNeg)) (hata : cla.slots[(84 : Int32).toNatClampNeg]? = some (.int (8552417 : Int32))) :
    own_M l (⟨"java/lang/StringLatin1", "indexOfNonWhitespace", "([B)I"⟩ : MethodName) jdk_43_method_37_code 4 (some .int) ws (own_R 2 0 0 29) Z #[(.ref bv)] h0 (Qlionw Z bv kb wi wa cla h0 n0) := by
  refine own_body (plainFor_of_name pn_java_lang_StringLatin1) (fun m => ef_lionw m bv) ?_
  intro p e s m below meth c s₁ Bd hx hby hml hown hnm X0 e0 hZ
  have N0 := Fr.nil n0
  refine own_g s₁ (mkF m 1 #[rv bv, .unset, .unset, .unset] [(.ref bv)]) (fun _ kq => XS.aloadN X0.here hx rfl (hb hby d16_0) rfl rfl kq) ?_
  refine own_g s₁ (mkF m 2 #[rv bv, .unset, .unset, .unset] [(.int (1 : Int32))]) (own_alen X0 hx hZ e0 Av (g := (mkF m 1 #[rv bv, .unset, .unset, .unset] [(.ref bv)])) rfl rfl (hb hby d16_1)) ?_
  refine own_g s₁ (mkF m 12 #[rv bv, iv (1 : Int32), iv (0 : Int32), .unset] [(.int (0 : Int32)), (.ref bv)]) (fun _ kq => XS.istoreN X0.here hx rfl (hb hby d16_2) rfl (l' := #[rv bv, iv (1 : Int32), .unset, .unset]) rfl (XS.iconst X0.here hx rfl (hb hby d16_3) (XS.istoreN X0.here hx rfl (hb hby d16_4) rfl (l' := #[rv bv, iv (1 : Int32), iv (0 : Int32), .unset]) rfl (XS.iloadN X0.here hx rfl (hb hby d16_5) rfl (XS.iloadN X0.here hx rfl (hb hby d16_6) rfl (XS.icmpNo X0.here hx rfl (hb hby d16_7) rfl (tlt ((by decide) : (0 : Int32) < (1 : Int32))).2.1 (XS.aloadN X0.here hx rfl (hb hby d16_10) rfl rfl (XS.iloadN X0.here hx rfl (hb hby d16_11) rfl kq)))))))) ?_
  obtain ⟨_, T1, L1, X1, ⟨rfl, Nq1, hh1⟩, st1⟩ := own_cS X0 hx hZ hown (own_W109 hw) (own_W110 hw) (own_W107 hw) (own_W111 hw) (rmgch l Z a0 hw [] bv kb h0 n0 O0 Av) e0 (lenOf pd_BI_C_378 rfl) (g := (mkF m 12 #[rv bv, iv (1 : Int32), iv (0 : Int32), .unset] [(.int (0 : Int32)), (.ref bv)])) (argsL := [(.ref bv), (.int (0 : Int32))]) (rest := []) (W := 0) rfl rfl (hb hby d16_12) (by rw [hml]; rfl) (by show 2 * 0 + _ ≤ _; exact Nat.le_of_eq rfl) rfl (by decide) (by decide) (by decide) (by decide) (by decide)
  have N2 := Fr.app N0 Nq1
  refine own_t T1 (mkF m 15 #[rv bv, iv (1 : Int32), iv (0 : Int32), .unset] [(.int (84 : Int32))]) st1 ?_
  refine own_g T1 (mkF m 28 #[rv bv, iv (1 : Int32), iv (0 : Int32), iv (84 : Int32)] []) (fun _ kq => XS.istoreN X1.here hx rfl (hb hby d16_15) rfl (l' := #[rv bv, iv (1 : Int32), iv (0 : Int32), iv (84 : Int32)]) rfl (XS.iloadN X1.here hx rfl (hb hby d16_16) rfl (XS.bipush X1.here hx rfl (hb hby d16_17) (XS.icmpNo X1.here hx rfl (hb hby d16_19) rfl (feq ((by decide) : ¬ ((84 : Int32) = (32 : Int32)))).1 (XS.iloadN X1.here hx rfl (hb hby d16_22) rfl (XS.bipush X1.here hx rfl (hb hby d16_23) (XS.icmpNo X1.here hx rfl (hb hby d16_25) rfl (feq ((by decide) : ¬ ((84 : Int32) = (9 : Int32)))).1 kq))))))) ?_
  obtain ⟨T3, X3, e3, st3⟩ := getS2 X1 hx hZ hown (host := "") (Or.inl (own_W112 hw)) Via.refl hh1 (Sin.ext O0.2) (g := (mkF m 28 #[rv bv, iv (1 : Int32), iv (0 : Int32), iv (84 : Int32)] [])) rfl (hb hby d16_28)
  refine own_g T3 (mkF m 31 #[rv bv, iv (1 : Int32), iv (0 : Int32), iv (84 : Int32)] [(.ref wi)]) st3 ?_
  refine own_g T3 (mkF m 32 #[rv bv, iv (1 : Int32), iv (0 : Int32), iv (84 : Int32)] [(.int (84 : Int32)), (.ref wi)]) (fun _ kq => XS.iloadN X3.here hx rfl (hb hby d16_31) rfl kq) ?_
  obtain ⟨_, T4, L4, X4, ⟨rfl, Nq4, hh4⟩, st4⟩ := own_cV X3 hx hZ hown (own_W114 hw) (own_W115 hw) (own_W117 hw) (own_W116 hw) (own_W113 hw) (own_W118 hw) (rmisws l Z a0 hw [] wi wa cla h0 n0 O0 Ein Sa Ara hina hata) e3 (Ein.ext O0.2) (lenOf pd_I_Z_244 rfl) (g := (mkF m 32 #[rv bv, iv (1 : Int32), iv (0 : Int32), iv (84 : Int32)] [(.int (84 : Int32)), (.ref wi)])) (argsL := [(.int (84 : Int32))]) (rest := []) (W := 0) rfl rfl (hb hby d16_32) (by rw [hml]; rfl) (by show 2 * 0 + _ ≤ _; exact Nat.le_of_eq rfl) rfl (by decide) (by decide) (by decide) (by decide) (by decide)
  have N5 := Fr.app N2 Nq4
  refine own_t T4 (mkF m 35 #[rv bv, iv (1 : Int32), iv (0 : Int32), iv (84 : Int32)] [(.int (0 : Int32))]) st4 ?_
  refine own_g T4 (mkF m 48 #[rv bv, iv (1 : Int32), iv (0 : Int32), iv (84 : Int32)] [(.int (0 : Int32))]) (fun _ kq => XS.ifNo X4.here hx rfl (hb hby d16_35) rfl ((if0 _ _).trans (teq ((by decide) : (0 : Int32) = (0 : Int32))).2) (XS.goto X4.here hx rfl (pc0 := 38) (pc' := 47) rfl (hb hby d16_38) (by decide) (by decide) (XS.iloadN X4.here hx rfl (hb hby d16_47) rfl kq))) ?_
  refine own_out X4 Bd.notSynchronized (v := (some (.int (0 : Int32)))) (fun h => by rw [Bd.returns] at h; cases h) (fun fs hr => own_retI X4 hx Bd.returns (hb hby d16_48) hr) ?_ (by decide) (by decide)
  rw [hh4]
  exact ⟨rfl, N5, rfl⟩
theorem d14_0 : decode jdk_42_method_120_code 0 = .ok (.aload_n 0, 1) := by decide +kernel
theorem d14_1 : decode jdk_42_method_120_code 1 = .ok (.invokevirtual 492, 3) := by decide +kernel
def own_W101 {a0 Z} (hw : own_H a0 Z) := hw _ (List.mem_of_getElem? (i := 101) rfl)
def own_W97 {a0 Z} (hw : own_H a0 Z) := hw _ (List.mem_of_getElem? (i := 97) rfl)
def own_W71 {a0 Z} (hw : own_H a0 Z) := hw _ (List.mem_of_getElem? (i := 71) rfl)
theorem pd_Z_171 : parseMethodDescriptor "()Z" = some ⟨[], some .boolean⟩ := by decide +kernel
def own_W98 {a0 Z} (hw : own_H a0 Z) := hw _ (List.mem_of_getElem? (i := 98) rfl)
def own_W100 {a0 Z} (hw : own_H a0 Z) := hw _ (List.mem_of_getElem? (i := 100) rfl)
def own_W99 {a0 Z} (hw : own_H a0 Z) := hw _ (List.mem_of_getElem? (i := 99) rfl)
theorem d14_4 : decode jdk_42_method_120_code 4 = .ok (.ifCond .eq 13, 3) := by decide +kernel
theorem d14_7 : decode jdk_42_method_120_code 7 = .ok (.aload_n 0, 1) := by decide +kernel
def own_W104 {a0 Z} (hw : own_H a0 Z) := hw _ (List.mem_of_getElem? (i := 104) rfl)
theorem d14_8 : decode jdk_42_method_120_code 8 = .ok (.getfield 9, 3) := by decide +kernel
theorem d14_11 : decode jdk_42_method_120_code 11 = .ok (.invokestatic 924, 3) := by decide +kernel
def own_W108 {a0 Z} (hw : own_H a0 Z) := hw _ (List.mem_of_getElem? (i := 108) rfl)
def own_W105 {a0 Z} (hw : own_H a0 Z) := hw _ (List.mem_of_getElem? (i := 105) rfl)
theorem pd_B_I_311 : parseMethodDescriptor "([B)I" = some ⟨[(.array .byte)], some .int⟩ := by decide +kernel
def own_W106 {a0 Z} (hw : own_H a0 Z) := hw _ (List.mem_of_getElem? (i := 106) rfl)
theorem d14_14 : decode jdk_42_method_120_code 14 = .ok (.goto 10, 3) := by decide +kernel
theorem d14_24 : decode jdk_42_method_120_code 24 = .ok (.ireturn, 1) := by decide +kernel
theorem ef_sionw (m : MethodId) (x0 : Addr) : entryFrame m #[(.ref x0)] 1 = mkF m 0 #[.val (.ref x0)] [] := by first | (simp [entryFrame, mkF, argsToLocals, Value.category]; done) | rfl
def Qsionw (Z : State) (sa bv : Addr) (kb : ClassId) (cs : Int32) (wi wa : Addr) (cla : Cell) (h0 : Heap) (n0 : Nat) (v : Option Value) (h : Heap) (L : List Loc) : Prop := v = some (.int (0 : Int32)) ∧ Fr n0 L ∧ h = h0
set_option maxRecDepth 65536 in
set_option maxHeartbeats 40000000 in
theorem rmsionw (l : Launch) (Z : State) (a0 : Array Value) (hw : own_H a0 Z) (ws : List Jvm.Cond) (sa bv : Addr) (kb : ClassId) (cs : Int32) (wi wa : Addr) (cla : Cell) (h0 : Heap) (n0 : Nat) (O0 : Old Z n0 h0) (Es : Exa Z h0 sa "java/lang/String") (Fc : Fld Z h0 sa "java/lang/String" "coder" "B" (.int (0 : Int32))) (Fv : Fld Z h0 sa "java/lang/String" "value" "[B" (.ref bv)) (Av : Arv Z h0 bv kb .byte (1 : Int32) [.int (84 : Int32)] (.int (0 : Int32))) (Scs : Sta Z Z.heap "java/lang/String" "COMPACT_STRINGS" "Z" (.int cs)) (hcs : ¬ (cs = (0 : Int32))) (Sin : Sta Z Z.heap "java/lang/CharacterDataLatin1" "instance" "Ljava/lang/CharacterDataLatin1;" (.ref wi)) (Ein : Exa Z Z.heap wi "java/lang/CharacterDataLatin1") (Sa : Sta Z Z.heap "java/lang/CharacterDataLatin1" "A" "[I" (.ref wa)) (Ara : Jvm.RoadKit.Arr Z Z.heap wa cla .int) (hina : ¬ ((84 : Int32) < 0 ∨ cla.slots.size ≤ (84 : Int32).toNatClampNeg)) (hata : cla.slots[(84 : Int32).toNatClampNeg]? = some (.int (8552417 : Int32))) :
    own_M l (⟨"java/lang/String", "indexOfNonWhitespace", "()I"⟩ : MethodName) jdk_42_method_120_code 1 (some .int) ws (own_R 3 0 0 44) Z #[(.ref sa)] h0 (Qsionw Z sa bv kb cs wi wa cla h0 n0) := by
  refine own_body (plainFor_of_name pn_java_lang_String) (fun m => ef_sionw m sa) ?_
  intro p e s m below meth c s₁ Bd hx hby hml hown hnm X0 e0 hZ
  have N0 := Fr.nil n0
  refine own_g s₁ (mkF m 1 #[rv sa] [(.ref sa)]) (fun _ kq => XS.aloadN X0.here hx rfl (hb hby d14_0) rfl rfl kq) ?_
  obtain ⟨_, T1, L1, X1, ⟨rfl, Nq1, hh1⟩, st1⟩ := own_cV X0 hx hZ hown (own_W97 hw) (own_W98 hw) (own_W100 hw) (own_W99 hw) (own_W71 hw) (own_W101 hw) (rmislat l Z a0 hw [] sa bv kb cs h0 n0 O0 Es Fc Fv Av Scs hcs) e0 Es (lenOf pd_Z_171 rfl) (g := (mkF m 1 #[rv sa] [(.ref sa)])) (argsL := []) (rest := []) (W := 0) rfl rfl (hb hby d14_1) (by rw [hml]; rfl) (by show 2 * 0 + _ ≤ _; exact Nat.le_of_eq rfl) rfl (by decide) (by decide) (by decide) (by decide) (by decide)
  have N2 := Fr.app N0 Nq1
  refine own_t T1 (mkF m 4 #[rv sa] [(.int (1 : Int32))]) st1 ?_
  refine own_g T1 (mkF m 8 #[rv sa] [(.ref sa)]) (fun _ kq => XS.ifNo X1.here hx rfl (hb hby d14_4) rfl ((if0 _ _).trans (feq ((by decide) : ¬ ((1 : Int32) = (0 : Int32)))).1) (XS.aloadN X1.here hx rfl (hb hby d14_7) rfl rfl kq)) ?_
  obtain ⟨T3, X3, e3, st3⟩ := getF X1 hx hZ hown (host := "") (Or.inl (own_W104 hw)) Via.refl hh1 Fv (g := (mkF m 8 #[rv sa] [(.ref sa)])) rfl rfl (hb hby d14_8)
  refine own_g T3 (mkF m 11 #[rv sa] [(.ref bv)]) st3 ?_
  obtain ⟨_, T4, L4, X4, ⟨rfl, Nq4, hh4⟩, st4⟩ := own_cS X3 hx hZ hown (own_W105 hw) (own_W106 hw) (own_W107 hw) (own_W108 hw) (rmlionw l Z a0 hw [] bv kb wi wa cla h0 n0 O0 Av Sin Ein Sa Ara hina hata) e3 (lenOf pd_B_I_311 rfl) (g := (mkF m 11 #[rv sa] [(.ref bv)])) (argsL := [(.ref bv)]) (rest := []) (W := 0) rfl rfl (hb hby d14_11) (by rw [hml]; rfl) (by show 2 * 0 + _ ≤ _; exact Nat.le_of_eq rfl) rfl (by decide) (by decide) (by decide) (by decide) (by decide)
  have N5 := Fr.app N2 Nq4
  refine own_t T4 (mkF m 14 #[rv sa] [(.int (0 : Int32))]) st4 ?_
  refine own_g T4 (mkF m 24 #[rv sa] [(.int (0 : Int32))]) (fun _ kq => XS.goto X4.here hx rfl (pc0 := 14) (pc' := 24) rfl (hb hby d14_14) (by decide) (by decide) kq) ?_
  refine own_out X4 Bd.notSynchronized (v := (some (.int (0 : Int32)))) (fun h => by rw [Bd.returns] at h; cases h) (fun fs hr => own_retI X4 hx Bd.returns (hb hby d14_24) hr) ?_ (by decide) (by decide)
  rw [hh4]
  exact ⟨rfl, N5, rfl⟩
theorem d20_0 : decode jdk_42_method_54_code 0 = .ok (.aload_n 0, 1) := by decide +kernel
theorem d20_1 : decode jdk_42_method_54_code 1 = .ok (.getfield 9, 3) := by decide +kernel
theorem d20_4 : decode jdk_42_method_54_code 4 = .ok (.arraylength, 1) := by decide +kernel
theorem d20_5 : decode jdk_42_method_54_code 5 = .ok (.aload_n 0, 1) := by decide +kernel
theorem d20_6 : decode jdk_42_method_54_code 6 = .ok (.invokevirtual 335, 3) := by decide +kernel
def own_W134 {a0 Z} (hw : own_H a0 Z) := hw _ (List.mem_of_getElem? (i := 134) rfl)
def own_W130 {a0 Z} (hw : own_H a0 Z) := hw _ (List.mem_of_getElem? (i := 130) rfl)
theorem pd_B_147 : parseMethodDescriptor "()B" = some ⟨[], some .byte⟩ := by decide +kernel
def own_W131 {a0 Z} (hw : own_H a0 Z) := hw _ (List.mem_of_getElem? (i := 131) rfl)
def own_W133 {a0 Z} (hw : own_H a0 Z) := hw _ (List.mem_of_getElem? (i := 133) rfl)
def own_W132 {a0 Z} (hw : own_H a0 Z) := hw _ (List.mem_of_getElem? (i := 132) rfl)
theorem d20_9 : decode jdk_42_method_54_code 9 = .ok (.ishr, 1) := by decide +kernel
theorem d20_10 : decode jdk_42_method_54_code 10 = .ok (.ireturn, 1) := by decide +kernel
theorem ef_slen (m : MethodId) (x0 : Addr) : entryFrame m #[(.ref x0)] 1 = mkF m 0 #[.val (.ref x0)] [] := by first | (simp [entryFrame, mkF, argsToLocals, Value.category]; done) | rfl
def Qslen (Z : State) (sa bv : Addr) (kb : ClassId) (cs : Int32) (h0 : Heap) (n0 : Nat) (v : Option Value) (h : Heap) (L : List Loc) : Prop := v = some (.int (1 : Int32)) ∧ Fr n0 L ∧ h = h0
set_option maxRecDepth 65536 in
set_option maxHeartbeats 40000000 in
theorem rmslen (l : Launch) (Z : State) (a0 : Array Value) (hw : own_H a0 Z) (ws : List Jvm.Cond) (sa bv : Addr) (kb : ClassId) (cs : Int32) (h0 : Heap) (n0 : Nat) (O0 : Old Z n0 h0) (Es : Exa Z h0 sa "java/lang/String") (Fc : Fld Z h0 sa "java/lang/String" "coder" "B" (.int (0 : Int32))) (Fv : Fld Z h0 sa "java/lang/String" "value" "[B" (.ref bv)) (Av : Arv Z h0 bv kb .byte (1 : Int32) [.int (84 : Int32)] (.int (0 : Int32))) (Scs : Sta Z Z.heap "java/lang/String" "COMPACT_STRINGS" "Z" (.int cs)) (hcs : ¬ (cs = (0 : Int32))) :
    own_M l (⟨"java/lang/String", "length", "()I"⟩ : MethodName) jdk_42_method_54_code 1 (some .int) ws (own_R 1 0 0 13) Z #[(.ref sa)] h0 (Qslen Z sa bv kb cs h0 n0) := by
  refine own_body (plainFor_of_name pn_java_lang_String) (fun m => ef_slen m sa) ?_
  intro p e s m below meth c s₁ Bd hx hby hml hown hnm X0 e0 hZ
  have N0 := Fr.nil n0
  refine own_g s₁ (mkF m 1 #[rv sa] [(.ref sa)]) (fun _ kq => XS.aloadN X0.here hx rfl (hb hby d20_0) rfl rfl kq) ?_
  obtain ⟨T1, X1, e1, st1⟩ := getF X0 hx hZ hown (host := "") (Or.inl (own_W104 hw)) Via.refl e0 Fv (g := (mkF m 1 #[rv sa] [(.ref sa)])) rfl rfl (hb hby d20_1)
  refine own_g T1 (mkF m 4 #[rv sa] [(.ref bv)]) st1 ?_
  refine own_g T1 (mkF m 5 #[rv sa] [(.int (1 : Int32))]) (own_alen X1 hx hZ e1 Av (g := (mkF m 4 #[rv sa] [(.ref bv)])) rfl rfl (hb hby d20_4)) ?_
  refine own_g T1 (mkF m 6 #[rv sa] [(.ref sa), (.int (1 : Int32))]) (fun _ kq => XS.aloadN X1.here hx rfl (hb hby d20_5) rfl rfl kq) ?_
  obtain ⟨_, T2, L2, X2, ⟨rfl, Nq2, hh2⟩, st2⟩ := own_cV X1 hx hZ hown (own_W130 hw) (own_W131 hw) (own_W133 hw) (own_W132 hw) (own_W71 hw) (own_W134 hw) (rmcoder l Z a0 hw [] sa bv kb cs h0 n0 O0 Es Fc Fv Av Scs hcs) e1 Es (lenOf pd_B_147 rfl) (g := (mkF m 6 #[rv sa] [(.ref sa), (.int (1 : Int32))])) (argsL := []) (rest := [(.int (1 : Int32))]) (W := 1) rfl rfl (hb hby d20_6) (by rw [hml]; rfl) (by show 2 * 0 + _ ≤ _; exact Nat.le_of_eq rfl) rfl (by decide) (by decide) (by decide) (by decide) (by decide)
  have N3 := Fr.app N0 Nq2
  refine own_t T2 (mkF m 9 #[rv sa] [(.int (0 : Int32)), (.int (1 : Int32))]) st2 ?_
  refine own_g T2 (mkF m 10 #[rv sa] [(.int (1 : Int32))]) (fun _ kq => XS.ishr X2.here hx rfl (hb hby d20_9) rfl kq) ?_
  refine own_out X2 Bd.notSynchronized (v := (some (.int (1 : Int32)))) (fun h => by rw [Bd.returns] at h; cases h) (fun fs hr => own_retI X2 hx Bd.returns (hb hby d20_10) hr) ?_ (by decide) (by decide)
  rw [hh2]
  exact ⟨rfl, N3, rfl⟩
theorem d13_0 : decode jdk_42_method_117_code 0 = .ok (.aload_n 0, 1) := by decide +kernel
theorem d13_1 : decode jdk_42_method_117_code 1 = .ok (.invokevirtual 876, 3) := by decide +kernel
def own_W96 {a0 Z} (hw : own_H a0 Z) := hw _ (List.mem_of_getElem? (i := 96) rfl)
def own_W92 {a0 Z} (hw : own_H a0 Z) := hw _ (List.mem_of_getElem? (i := 92) rfl)
theorem pd_I_154 : parseMethodDescriptor "()I" = some ⟨[], some .int⟩ := by decide +kernel
def own_W94 {a0 Z} (hw : own_H a0 Z) := hw _ (List.mem_of_getElem? (i := 94) rfl)
def own_W95 {a0 Z} (hw : own_H a0 Z) := hw _ (List.mem_of_getElem? (i := 95) rfl)
def own_W93 {a0 Z} (hw : own_H a0 Z) := hw _ (List.mem_of_getElem? (i := 93) rfl)
theorem d13_4 : decode jdk_42_method_117_code 4 = .ok (.aload_n 0, 1) := by decide +kernel
theorem d13_5 : decode jdk_42_method_117_code 5 = .ok (.invokevirtual 505, 3) := by decide +kernel
def own_W129 {a0 Z} (hw : own_H a0 Z) := hw _ (List.mem_of_getElem? (i := 129) rfl)
def own_W125 {a0 Z} (hw : own_H a0 Z) := hw _ (List.mem_of_getElem? (i := 125) rfl)
def own_W126 {a0 Z} (hw : own_H a0 Z) := hw _ (List.mem_of_getElem? (i := 126) rfl)
def own_W128 {a0 Z} (hw : own_H a0 Z) := hw _ (List.mem_of_getElem? (i := 128) rfl)
def own_W127 {a0 Z} (hw : own_H a0 Z) := hw _ (List.mem_of_getElem? (i := 127) rfl)
theorem d13_8 : decode jdk_42_method_117_code 8 = .ok (.if_icmp .ne 7, 3) := by decide +kernel
theorem d13_15 : decode jdk_42_method_117_code 15 = .ok (.iconst 0, 1) := by decide +kernel
theorem d13_16 : decode jdk_42_method_117_code 16 = .ok (.ireturn, 1) := by decide +kernel
theorem ef_isb (m : MethodId) (x0 : Addr) : entryFrame m #[(.ref x0)] 1 = mkF m 0 #[.val (.ref x0)] [] := by first | (simp [entryFrame, mkF, argsToLocals, Value.category]; done) | rfl
def Qisb (Z : State) (sa bv : Addr) (kb : ClassId) (cs : Int32) (wi wa : Addr) (cla : Cell) (h0 : Heap) (n0 : Nat) (v : Option Value) (h : Heap) (L : List Loc) : Prop := v = some (.int (0 : Int32)) ∧ Fr n0 L ∧ h = h0
set_option maxRecDepth 65536 in
set_option maxHeartbeats 40000000 in
theorem rmisb (l : Launch) (Z : State) (a0 : Array Value) (hw : own_H a0 Z) (ws : List Jvm.Cond) (sa bv : Addr) (kb : ClassId) (cs : Int32) (wi wa : Addr) (cla : Cell) (h0 : Heap) (n0 : Nat) (O0 : Old Z n0 h0) (Es : Exa Z h0 sa "java/lang/String") (Fc : Fld Z h0 sa "java/lang/String" "coder" "B" (.int (0 : Int32))) (Fv : Fld Z h0 sa "java/lang/String" "value" "[B" (.ref bv)) (Av : Arv Z h0 bv kb .byte (1 : Int32) [.int (84 : Int32)] (.int (0 : Int32))) (Scs : Sta Z Z.heap "java/lang/String" "COMPACT_STRINGS" "Z" (.int cs)) (hcs : ¬ (cs = (0 : Int32))) (Sin : Sta Z Z.heap "java/lang/CharacterDataLatin1" "instance" "Ljava/lang/CharacterDataLatin1;" (.ref wi)) (Ein : Exa Z Z.heap wi "java/lang/CharacterDataLatin1") (Sa : Sta Z Z.heap "java/lang/CharacterDataLatin1" "A" "[I" (.ref wa)) (Ara : Jvm.RoadKit.Arr Z Z.heap wa cla .int) (hina : ¬ ((84 : Int32) < 0 ∨ cla.slots.size ≤ (84 : Int32).toNatClampNeg)) (hata : cla.slots[(84 : Int32).toNatClampNeg]? = some (.int (8552417 : Int32))) :
    own_M l (⟨"java/lang/String", "isBlank", "()Z"⟩ : MethodName) jdk_42_method_117_code 1 (some .boolean) ws (own_R 4 0 0 56) Z #[(.ref sa)] h0 (Qisb Z sa bv kb cs wi wa cla h0 n0) := by
  refine own_body (plainFor_of_name pn_java_lang_String) (fun m => ef_isb m sa) ?_
  intro p e s m below meth c s₁ Bd hx hby hml hown hnm X0 e0 hZ
  have N0 := Fr.nil n0
  refine own_g s₁ (mkF m 1 #[rv sa] [(.ref sa)]) (fun _ kq => XS.aloadN X0.here hx rfl (hb hby d13_0) rfl rfl kq) ?_
  obtain ⟨_, T1, L1, X1, ⟨rfl, Nq1, hh1⟩, st1⟩ := own_cP X0 hx hZ hown (own_W92 hw) (own_W94 hw) (own_W95 hw) (own_W93 hw) (own_W71 hw) (own_W96 hw) (rmsionw l Z a0 hw [] sa bv kb cs wi wa cla h0 n0 O0 Es Fc Fv Av Scs hcs Sin Ein Sa Ara hina hata) e0 Es (lenOf pd_I_154 rfl) (g := (mkF m 1 #[rv sa] [(.ref sa)])) (argsL := []) (rest := []) (W := 0) rfl rfl (hb hby d13_1) (by rw [hml]; rfl) (by show 2 * 0 + _ ≤ _; exact Nat.le_of_eq rfl) rfl (by decide) (by decide) (by decide) (by decide) (by decide)
  have N2 := Fr.app N0 Nq1
  refine own_t T1 (mkF m 4 #[rv sa] [(.int (0 : Int32))]) st1 ?_
  refine own_g T1 (mkF m 5 #[rv sa] [(.ref sa), (.int (0 : Int32))]) (fun _ kq => XS.aloadN X1.here hx rfl (hb hby d13_4) rfl rfl kq) ?_
  obtain ⟨_, T3, L3, X3, ⟨rfl, Nq3, hh3⟩, st3⟩ := own_cV X1 hx hZ hown (own_W125 hw) (own_W126 hw) (own_W128 hw) (own_W127 hw) (own_W71 hw) (own_W129 hw) (rmslen l Z a0 hw [] sa bv kb cs h0 n0 O0 Es Fc Fv Av Scs hcs) hh1 Es (lenOf pd_I_154 rfl) (g := (mkF m 5 #[rv sa] [(.ref sa), (.int (0 : Int32))])) (argsL := []) (rest := [(.int (0 : Int32))]) (W := 1) rfl rfl (hb hby d13_5) (by rw [hml]; rfl) (by show 2 * 0 + _ ≤ _; exact Nat.le_of_eq rfl) rfl (by decide) (by decide) (by decide) (by decide) (by decide)
  have N4 := Fr.app N2 Nq3
  refine own_t T3 (mkF m 8 #[rv sa] [(.int (1 : Int32)), (.int (0 : Int32))]) st3 ?_
  refine own_g T3 (mkF m 16 #[rv sa] [(.int (0 : Int32))]) (fun _ kq => XS.icmpYes X3.here hx rfl (pc0 := 8) (pc' := 15) rfl (hb hby d13_8) rfl (feq ((by decide) : ¬ ((0 : Int32) = (1 : Int32)))).2 (by decide) (by decide) (XS.iconst X3.here hx rfl (hb hby d13_15) kq)) ?_
  refine own_out X3 Bd.notSynchronized (v := (some (.int (0 : Int32)))) (fun h => by rw [Bd.returns] at h; cases h) (fun fs hr => retN X3 hx (t := .boolean) Bd.returns (by simp) (hb hby d13_16) hr) ?_ (by decide) (by decide)
  rw [hh3]
  exact ⟨rfl, N4, rfl⟩
theorem d22_0 : decode jdk_38_method_9_code 0 = .ok (.aload_n 0, 1) := by decide +kernel
theorem d22_1 : decode jdk_38_method_9_code 1 = .ok (.getfield 48, 3) := by decide +kernel
theorem d22_4 : decode jdk_38_method_9_code 4 = .ok (.ifCond .ne 7, 3) := by decide +kernel
theorem d22_11 : decode jdk_38_method_9_code 11 = .ok (.iconst 0, 1) := by decide +kernel
theorem d22_12 : decode jdk_38_method_9_code 12 = .ok (.ireturn, 1) := by decide +kernel
theorem ef_alisEmpty1 (m : MethodId) (x0 : Addr) : entryFrame m #[(.ref x0)] 1 = mkF m 0 #[.val (.ref x0)] [] := by first | (simp [entryFrame, mkF, argsToLocals, Value.category]; done) | rfl
def QalisEmpty1 (Z : State) (a1 : Addr) (h0 : Heap) (n0 : Nat) (v : Option Value) (h : Heap) (L : List Loc) : Prop := v = some (.int (0 : Int32)) ∧ Fr n0 L ∧ h = h0
set_option maxRecDepth 65536 in
set_option maxHeartbeats 40000000 in
theorem rmalisEmpty1 (l : Launch) (Z : State) (a0 : Array Value) (hw : own_H a0 Z) (ws : List Jvm.Cond) (a1 : Addr) (h0 : Heap) (n0 : Nat) (O0 : Old Z n0 h0) (Fs : Fld Z h0 a1 "java/util/ArrayList" "size" "I" (.int (1 : Int32))) :
    own_M l (⟨"java/util/ArrayList", "isEmpty", "()Z"⟩ : MethodName) jdk_38_method_9_code 1 (some .boolean) ws (own_R 0 0 0 0) Z #[(.ref a1)] h0 (QalisEmpty1 Z a1 h0 n0) := by
  refine own_body (plainFor_of_name pn_java_util_ArrayList) (fun m => ef_alisEmpty1 m a1) ?_
  intro p e s m below meth c s₁ Bd hx hby hml hown hnm X0 e0 hZ
  have N0 := Fr.nil n0
  refine own_g s₁ (mkF m 1 #[rv a1] [(.ref a1)]) (fun _ kq => XS.aloadN X0.here hx rfl (hb hby d22_0) rfl rfl kq) ?_
  obtain ⟨T1, X1, e1, st1⟩ := getF X0 hx hZ hown (host := "") (Or.inl (own_W43 hw)) Via.refl e0 Fs (g := (mkF m 1 #[rv a1] [(.ref a1)])) rfl rfl (hb hby d22_1)
  refine own_g T1 (mkF m 4 #[rv a1] [(.int (1 : Int32))]) st1 ?_
  refine own_g T1 (mkF m 12 #[rv a1] [(.int (0 : Int32))]) (fun _ kq => XS.ifYes X1.here hx rfl (pc0 := 4) (pc' := 11) rfl (hb hby d22_4) rfl ((if0 _ _).trans (feq ((by decide) : ¬ ((1 : Int32) = (0 : Int32)))).2) (by decide) (by decide) (XS.iconst X1.here hx rfl (hb hby d22_11) kq)) ?_
  refine own_out X1 Bd.notSynchronized (v := (some (.int (0 : Int32)))) (fun h => by rw [Bd.returns] at h; cases h) (fun fs hr => retN X1 hx (t := .boolean) Bd.returns (by simp) (hb hby d22_12) hr) ?_ (by decide) (by decide)
  rw [e1]
  exact ⟨rfl, N0, rfl⟩
theorem d23_0 : decode jdk_38_method_8_code 0 = .ok (.aload_n 0, 1) := by decide +kernel
theorem d23_1 : decode jdk_38_method_8_code 1 = .ok (.getfield 48, 3) := by decide +kernel
theorem d23_4 : decode jdk_38_method_8_code 4 = .ok (.ireturn, 1) := by decide +kernel
theorem ef_alsize1 (m : MethodId) (x0 : Addr) : entryFrame m #[(.ref x0)] 1 = mkF m 0 #[.val (.ref x0)] [] := by first | (simp [entryFrame, mkF, argsToLocals, Value.category]; done) | rfl
def Qalsize1 (Z : State) (a1 : Addr) (h0 : Heap) (n0 : Nat) (v : Option Value) (h : Heap) (L : List Loc) : Prop := v = some (.int (1 : Int32)) ∧ Fr n0 L ∧ h = h0
set_option maxRecDepth 65536 in
set_option maxHeartbeats 40000000 in
theorem rmalsize1 (l : Launch) (Z : State) (a0 : Array Value) (hw : own_H a0 Z) (ws : List Jvm.Cond) (a1 : Addr) (h0 : Heap) (n0 : Nat) (O0 : Old Z n0 h0) (Fs : Fld Z h0 a1 "java/util/ArrayList" "size" "I" (.int (1 : Int32))) :
    own_M l (⟨"java/util/ArrayList", "size", "()I"⟩ : MethodName) jdk_38_method_8_code 1 (some .int) ws (own_R 0 0 0 0) Z #[(.ref a1)] h0 (Qalsize1 Z a1 h0 n0) := by
  refine own_body (plainFor_of_name pn_java_util_ArrayList) (fun m => ef_alsize1 m a1) ?_
  intro p e s m below meth c s₁ Bd hx hby hml hown hnm X0 e0 hZ
  have N0 := Fr.nil n0
  refine own_g s₁ (mkF m 1 #[rv a1] [(.ref a1)]) (fun _ kq => XS.aloadN X0.here hx rfl (hb hby d23_0) rfl rfl kq) ?_
  obtain ⟨T1, X1, e1, st1⟩ := getF X0 hx hZ hown (host := "") (Or.inl (own_W43 hw)) Via.refl e0 Fs (g := (mkF m 1 #[rv a1] [(.ref a1)])) rfl rfl (hb hby d23_1)
  refine own_g T1 (mkF m 4 #[rv a1] [(.int (1 : Int32))]) st1 ?_
  refine own_out X1 Bd.notSynchronized (v := (some (.int (1 : Int32)))) (fun h => by rw [Bd.returns] at h; cases h) (fun fs hr => own_retI X1 hx Bd.returns (hb hby d23_4) hr) ?_ (by decide) (by decide)
  rw [e1]
  exact ⟨rfl, N0, rfl⟩
theorem ef_alisEmpty2 (m : MethodId) (x0 : Addr) : entryFrame m #[(.ref x0)] 1 = mkF m 0 #[.val (.ref x0)] [] := by first | (simp [entryFrame, mkF, argsToLocals, Value.category]; done) | rfl
def QalisEmpty2 (Z : State) (a1 : Addr) (h0 : Heap) (n0 : Nat) (v : Option Value) (h : Heap) (L : List Loc) : Prop := v = some (.int (0 : Int32)) ∧ Fr n0 L ∧ h = h0
set_option maxRecDepth 65536 in
set_option maxHeartbeats 40000000 in
theorem rmalisEmpty2 (l : Launch) (Z : State) (a0 : Array Value) (hw : own_H a0 Z) (ws : List Jvm.Cond) (a1 : Addr) (h0 : Heap) (n0 : Nat) (O0 : Old Z n0 h0) (Fs : Fld Z h0 a1 "java/util/ArrayList" "size" "I" (.int (2 : Int32))) :
    own_M l (⟨"java/util/ArrayList", "isEmpty", "()Z"⟩ : MethodName) jdk_38_method_9_code 1 (some .boolean) ws (own_R 0 0 0 0) Z #[(.ref a1)] h0 (QalisEmpty2 Z a1 h0 n0) := by
  refine own_body (plainFor_of_name pn_java_util_ArrayList) (fun m => ef_alisEmpty2 m a1) ?_
  intro p e s m below meth c s₁ Bd hx hby hml hown hnm X0 e0 hZ
  have N0 := Fr.nil n0
  refine own_g s₁ (mkF m 1 #[rv a1] [(.ref a1)]) (fun _ kq => XS.aloadN X0.here hx rfl (hb hby d22_0) rfl rfl kq) ?_
  obtain ⟨T1, X1, e1, st1⟩ := getF X0 hx hZ hown (host := "") (Or.inl (own_W43 hw)) Via.refl e0 Fs (g := (mkF m 1 #[rv a1] [(.ref a1)])) rfl rfl (hb hby d22_1)
  refine own_g T1 (mkF m 4 #[rv a1] [(.int (2 : Int32))]) st1 ?_
  refine own_g T1 (mkF m 12 #[rv a1] [(.int (0 : Int32))]) (fun _ kq => XS.ifYes X1.here hx rfl (pc0 := 4) (pc' := 11) rfl (hb hby d22_4) rfl ((if0 _ _).trans (feq ((by decide) : ¬ ((2 : Int32) = (0 : Int32)))).2) (by decide) (by decide) (XS.iconst X1.here hx rfl (hb hby d22_11) kq)) ?_
  refine own_out X1 Bd.notSynchronized (v := (some (.int (0 : Int32)))) (fun h => by rw [Bd.returns] at h; cases h) (fun fs hr => retN X1 hx (t := .boolean) Bd.returns (by simp) (hb hby d22_12) hr) ?_ (by decide) (by decide)
  rw [e1]
  exact ⟨rfl, N0, rfl⟩
theorem ef_alsize2 (m : MethodId) (x0 : Addr) : entryFrame m #[(.ref x0)] 1 = mkF m 0 #[.val (.ref x0)] [] := by first | (simp [entryFrame, mkF, argsToLocals, Value.category]; done) | rfl
def Qalsize2 (Z : State) (a1 : Addr) (h0 : Heap) (n0 : Nat) (v : Option Value) (h : Heap) (L : List Loc) : Prop := v = some (.int (2 : Int32)) ∧ Fr n0 L ∧ h = h0
set_option maxRecDepth 65536 in
set_option maxHeartbeats 40000000 in
theorem rmalsize2 (l : Launch) (Z : State) (a0 : Array Value) (hw : own_H a0 Z) (ws : List Jvm.Cond) (a1 : Addr) (h0 : Heap) (n0 : Nat) (O0 : Old Z n0 h0) (Fs : Fld Z h0 a1 "java/util/ArrayList" "size" "I" (.int (2 : Int32))) :
    own_M l (⟨"java/util/ArrayList", "size", "()I"⟩ : MethodName) jdk_38_method_8_code 1 (some .int) ws (own_R 0 0 0 0) Z #[(.ref a1)] h0 (Qalsize2 Z a1 h0 n0) := by
  refine own_body (plainFor_of_name pn_java_util_ArrayList) (fun m => ef_alsize2 m a1) ?_
  intro p e s m below meth c s₁ Bd hx hby hml hown hnm X0 e0 hZ
  have N0 := Fr.nil n0
  refine own_g s₁ (mkF m 1 #[rv a1] [(.ref a1)]) (fun _ kq => XS.aloadN X0.here hx rfl (hb hby d23_0) rfl rfl kq) ?_
  obtain ⟨T1, X1, e1, st1⟩ := getF X0 hx hZ hown (host := "") (Or.inl (own_W43 hw)) Via.refl e0 Fs (g := (mkF m 1 #[rv a1] [(.ref a1)])) rfl rfl (hb hby d23_1)
  refine own_g T1 (mkF m 4 #[rv a1] [(.int (2 : Int32))]) st1 ?_
  refine own_out X1 Bd.notSynchronized (v := (some (.int (2 : Int32)))) (fun h => by rw [Bd.returns] at h; cases h) (fun fs hr => own_retI X1 hx Bd.returns (hb hby d23_4) hr) ?_ (by decide) (by decide)
  rw [e1]
  exact ⟨rfl, N0, rfl⟩
theorem ef_alisEmpty3 (m : MethodId) (x0 : Addr) : entryFrame m #[(.ref x0)] 1 = mkF m 0 #[.val (.ref x0)] [] := by first | (simp [entryFrame, mkF, argsToLocals, Value.category]; done) | rfl
def QalisEmpty3 (Z : State) (a1 : Addr) (h0 : Heap) (n0 : Nat) (v : Option Value) (h : Heap) (L : List Loc) : Prop := v = some (.int (0 : Int32)) ∧ Fr n0 L ∧ h = h0
set_option maxRecDepth 65536 in
set_option maxHeartbeats 40000000 in
theorem rmalisEmpty3 (l : Launch) (Z : State) (a0 : Array Value) (hw : own_H a0 Z) (ws : List Jvm.Cond) (a1 : Addr) (h0 : Heap) (n0 : Nat) (O0 : Old Z n0 h0) (Fs : Fld Z h0 a1 "java/util/ArrayList" "size" "I" (.int (3 : Int32))) :
    own_M l (⟨"java/util/ArrayList", "isEmpty", "()Z"⟩ : MethodName) jdk_38_method_9_code 1 (some .boolean) ws (own_R 0 0 0 0) Z #[(.ref a1)] h0 (QalisEmpty3 Z a1 h0 n0) := by
  refine own_body (plainFor_of_name pn_java_util_ArrayList) (fun m => ef_alisEmpty3 m a1) ?_
  intro p e s m below meth c s₁ Bd hx hby hml hown hnm X0 e0 hZ
  have N0 := Fr.nil n0
  refine own_g s₁ (mkF m 1 #[rv a1] [(.ref a1)]) (fun _ kq => XS.aloadN X0.here hx rfl (hb hby d22_0) rfl rfl kq) ?_
  obtain ⟨T1, X1, e1, st1⟩ := getF X0 hx hZ hown (host := "") (Or.inl (own_W43 hw)) Via.refl e0 Fs (g := (mkF m 1 #[rv a1] [(.ref a1)])) rfl rfl (hb hby d22_1)
  refine own_g T1 (mkF m 4 #[rv a1] [(.int (3 : Int32))]) st1 ?_
  refine own_g T1 (mkF m 12 #[rv a1] [(.int (0 : Int32))]) (fun _ kq => XS.ifYes X1.here hx rfl (pc0 := 4) (pc' := 11) rfl (hb hby d22_4) rfl ((if0 _ _).trans (feq ((by decide) : ¬ ((3 : Int32) = (0 : Int32)))).2) (by decide) (by decide) (XS.iconst X1.here hx rfl (hb hby d22_11) kq)) ?_
  refine own_out X1 Bd.notSynchronized (v := (some (.int (0 : Int32)))) (fun h => by rw [Bd.returns] at h; cases h) (fun fs hr => retN X1 hx (t := .boolean) Bd.returns (by simp) (hb hby d22_12) hr) ?_ (by decide) (by decide)
  rw [e1]
  exact ⟨rfl, N0, rfl⟩
theorem ef_alsize3 (m : MethodId) (x0 : Addr) : entryFrame m #[(.ref x0)] 1 = mkF m 0 #[.val (.ref x0)] [] := by first | (simp [entryFrame, mkF, argsToLocals, Value.category]; done) | rfl
def Qalsize3 (Z : State) (a1 : Addr) (h0 : Heap) (n0 : Nat) (v : Option Value) (h : Heap) (L : List Loc) : Prop := v = some (.int (3 : Int32)) ∧ Fr n0 L ∧ h = h0
set_option maxRecDepth 65536 in
set_option maxHeartbeats 40000000 in
theorem rmalsize3 (l : Launch) (Z : State) (a0 : Array Value) (hw : own_H a0 Z) (ws : List Jvm.Cond) (a1 : Addr) (h0 : Heap) (n0 : Nat) (O0 : Old Z n0 h0) (Fs : Fld Z h0 a1 "java/util/ArrayList" "size" "I" (.int (3 : Int32))) :
    own_M l (⟨"java/util/ArrayList", "size", "()I"⟩ : MethodName) jdk_38_method_8_code 1 (some .int) ws (own_R 0 0 0 0) Z #[(.ref a1)] h0 (Qalsize3 Z a1 h0 n0) := by
  refine own_body (plainFor_of_name pn_java_util_ArrayList) (fun m => ef_alsize3 m a1) ?_
  intro p e s m below meth c s₁ Bd hx hby hml hown hnm X0 e0 hZ
  have N0 := Fr.nil n0
  refine own_g s₁ (mkF m 1 #[rv a1] [(.ref a1)]) (fun _ kq => XS.aloadN X0.here hx rfl (hb hby d23_0) rfl rfl kq) ?_
  obtain ⟨T1, X1, e1, st1⟩ := getF X0 hx hZ hown (host := "") (Or.inl (own_W43 hw)) Via.refl e0 Fs (g := (mkF m 1 #[rv a1] [(.ref a1)])) rfl rfl (hb hby d23_1)
  refine own_g T1 (mkF m 4 #[rv a1] [(.int (3 : Int32))]) st1 ?_
  refine own_out X1 Bd.notSynchronized (v := (some (.int (3 : Int32)))) (fun h => by rw [Bd.returns] at h; cases h) (fun fs hr => own_retI X1 hx Bd.returns (hb hby d23_4) hr) ?_ (by decide) (by decide)
  rw [e1]
  exact ⟨rfl, N0, rfl⟩
theorem ef_alisEmpty4 (m : MethodId) (x0 : Addr) : entryFrame m #[(.ref x0)] 1 = mkF m 0 #[.val (.ref x0)] [] := by first | (simp [entryFrame, mkF, argsToLocals, Value.category]; done) | rfl
def QalisEmpty4 (Z : State) (a1 : Addr) (h0 : Heap) (n0 : Nat) (v : Option Value) (h : Heap) (L : List Loc) : Prop := v = some (.int (0 : Int32)) ∧ Fr n0 L ∧ h = h0
set_option maxRecDepth 65536 in
set_option maxHeartbeats 40000000 in
theorem rmalisEmpty4 (l : Launch) (Z : State) (a0 : Array Value) (hw : own_H a0 Z) (ws : List Jvm.Cond) (a1 : Addr) (h0 : Heap) (n0 : Nat) (O0 : Old Z n0 h0) (Fs : Fld Z h0 a1 "java/util/ArrayList" "size" "I" (.int (4 : Int32))) :
    own_M l (⟨"java/util/ArrayList", "isEmpty", "()Z"⟩ : MethodName) jdk_38_method_9_code 1 (some .boolean) ws (own_R 0 0 0 0) Z #[(.ref a1)] h0 (QalisEmpty4 Z a1 h0 n0) := by
  refine own_body (plainFor_of_name pn_java_util_ArrayList) (fun m => ef_alisEmpty4 m a1) ?_
  intro p e s m below meth c s₁ Bd hx hby hml hown hnm X0 e0 hZ
  have N0 := Fr.nil n0
  refine own_g s₁ (mkF m 1 #[rv a1] [(.ref a1)]) (fun _ kq => XS.aloadN X0.here hx rfl (hb hby d22_0) rfl rfl kq) ?_
  obtain ⟨T1, X1, e1, st1⟩ := getF X0 hx hZ hown (host := "") (Or.inl (own_W43 hw)) Via.refl e0 Fs (g := (mkF m 1 #[rv a1] [(.ref a1)])) rfl rfl (hb hby d22_1)
  refine own_g T1 (mkF m 4 #[rv a1] [(.int (4 : Int32))]) st1 ?_
  refine own_g T1 (mkF m 12 #[rv a1] [(.int (0 : Int32))]) (fun _ kq => XS.ifYes X1.here hx rfl (pc0 := 4) (pc' := 11) rfl (hb hby d22_4) rfl ((if0 _ _).trans (feq ((by decide) : ¬ ((4 : Int32) = (0 : Int32)))).2) (by decide) (by decide) (XS.iconst X1.here hx rfl (hb hby d22_11) kq)) ?_
  refine own_out X1 Bd.notSynchronized (v := (some (.int (0 : Int32)))) (fun h => by rw [Bd.returns] at h; cases h) (fun fs hr => retN X1 hx (t := .boolean) Bd.returns (by simp) (hb hby d22_12) hr) ?_ (by decide) (by decide)
  rw [e1]
  exact ⟨rfl, N0, rfl⟩
theorem ef_alsize4 (m : MethodId) (x0 : Addr) : entryFrame m #[(.ref x0)] 1 = mkF m 0 #[.val (.ref x0)] [] := by first | (simp [entryFrame, mkF, argsToLocals, Value.category]; done) | rfl
def Qalsize4 (Z : State) (a1 : Addr) (h0 : Heap) (n0 : Nat) (v : Option Value) (h : Heap) (L : List Loc) : Prop := v = some (.int (4 : Int32)) ∧ Fr n0 L ∧ h = h0
set_option maxRecDepth 65536 in
set_option maxHeartbeats 40000000 in
theorem rmalsize4 (l : Launch) (Z : State) (a0 : Array Value) (hw : own_H a0 Z) (ws : List Jvm.Cond) (a1 : Addr) (h0 : Heap) (n0 : Nat) (O0 : Old Z n0 h0) (Fs : Fld Z h0 a1 "java/util/ArrayList" "size" "I" (.int (4 : Int32))) :
    own_M l (⟨"java/util/ArrayList", "size", "()I"⟩ : MethodName) jdk_38_method_8_code 1 (some .int) ws (own_R 0 0 0 0) Z #[(.ref a1)] h0 (Qalsize4 Z a1 h0 n0) := by
  refine own_body (plainFor_of_name pn_java_util_ArrayList) (fun m => ef_alsize4 m a1) ?_
  intro p e s m below meth c s₁ Bd hx hby hml hown hnm X0 e0 hZ
  have N0 := Fr.nil n0
  refine own_g s₁ (mkF m 1 #[rv a1] [(.ref a1)]) (fun _ kq => XS.aloadN X0.here hx rfl (hb hby d23_0) rfl rfl kq) ?_
  obtain ⟨T1, X1, e1, st1⟩ := getF X0 hx hZ hown (host := "") (Or.inl (own_W43 hw)) Via.refl e0 Fs (g := (mkF m 1 #[rv a1] [(.ref a1)])) rfl rfl (hb hby d23_1)
  refine own_g T1 (mkF m 4 #[rv a1] [(.int (4 : Int32))]) st1 ?_
  refine own_out X1 Bd.notSynchronized (v := (some (.int (4 : Int32)))) (fun h => by rw [Bd.returns] at h; cases h) (fun fs hr => own_retI X1 hx Bd.returns (hb hby d23_4) hr) ?_ (by decide) (by decide)
  rw [e1]
  exact ⟨rfl, N0, rfl⟩
theorem d26_0 : decode jdk_41_method_11_code 0 = .ok (.iload_n 0, 1) := by decide +kernel
theorem d26_1 : decode jdk_41_method_11_code 1 = .ok (.ifCond .lt 8, 3) := by decide +kernel
theorem d26_4 : decode jdk_41_method_11_code 4 = .ok (.iload_n 0, 1) := by decide +kernel
theorem d26_5 : decode jdk_41_method_11_code 5 = .ok (.iload_n 1, 1) := by decide +kernel
theorem d26_6 : decode jdk_41_method_11_code 6 = .ok (.if_icmp .lt 10, 3) := by decide +kernel
theorem d26_16 : decode jdk_41_method_11_code 16 = .ok (.iload_n 0, 1) := by decide +kernel
theorem d26_17 : decode jdk_41_method_11_code 17 = .ok (.ireturn, 1) := by decide +kernel
theorem ef_pci (m : MethodId) (x0 : Int32) (x1 : Int32) : entryFrame m #[(.int x0), (.int x1), .null] 3 = mkF m 0 #[.val (.int x0), .val (.int x1), .val .null] [] := by first | (simp [entryFrame, mkF, argsToLocals, Value.category]; done) | rfl
def Qpci (Z : State) (x y : Int32) (h0 : Heap) (n0 : Nat) (v : Option Value) (h : Heap) (L : List Loc) : Prop := v = some (.int x) ∧ Fr n0 L ∧ h = h0
theorem pn_jdk_internal_util_Preconditions : plainName "jdk/internal/util/Preconditions" = true := by first | (simp [plainName, overriddenIn]; done) | decide +kernel
set_option maxRecDepth 65536 in
set_option maxHeartbeats 40000000 in
theorem rmpci (l : Launch) (Z : State) (a0 : Array Value) (hw : own_H a0 Z) (ws : List Jvm.Cond) (x y : Int32) (h0 : Heap) (n0 : Nat) (O0 : Old Z n0 h0) (h1 : ¬ (x < (0 : Int32))) (h2 : x < y) :
    own_M l (⟨"jdk/internal/util/Preconditions", "checkIndex", "(IILjava/util/function/BiFunction;)I"⟩ : MethodName) jdk_41_method_11_code 3 (some .int) ws (own_R 0 0 0 0) Z #[(.int x), (.int y), .null] h0 (Qpci Z x y h0 n0) := by
  refine own_body (plainFor_of_name pn_jdk_internal_util_Preconditions) (fun m => ef_pci m x y) ?_
  intro p e s m below meth c s₁ Bd hx hby hml hown hnm X0 e0 hZ
  have N0 := Fr.nil n0
  refine own_g s₁ (mkF m 17 #[iv x, iv y, .val .null] [(.int x)]) (fun _ kq => XS.iloadN X0.here hx rfl (hb hby d26_0) rfl (XS.ifNo X0.here hx rfl (hb hby d26_1) rfl ((if0 _ _).trans (flt (h1 : ¬ (x < (0 : Int32)))).1) (XS.iloadN X0.here hx rfl (hb hby d26_4) rfl (XS.iloadN X0.here hx rfl (hb hby d26_5) rfl (XS.icmpYes X0.here hx rfl (pc0 := 6) (pc' := 16) rfl (hb hby d26_6) rfl (tlt (h2 : x < y)).1 (by decide) (by decide) (XS.iloadN X0.here hx rfl (hb hby d26_16) rfl kq)))))) ?_
  refine own_out X0 Bd.notSynchronized (v := (some (.int x))) (fun h => by rw [Bd.returns] at h; cases h) (fun fs hr => own_retI X0 hx Bd.returns (hb hby d26_17) hr) ?_ (by decide) (by decide)
  rw [e0]
  exact ⟨rfl, N0, rfl⟩
theorem d25_0 : decode jdk_31_method_17_code 0 = .ok (.iload_n 0, 1) := by decide +kernel
theorem d25_1 : decode jdk_31_method_17_code 1 = .ok (.iload_n 1, 1) := by decide +kernel
theorem d25_2 : decode jdk_31_method_17_code 2 = .ok (.aconst_null, 1) := by decide +kernel
theorem d25_3 : decode jdk_31_method_17_code 3 = .ok (.invokestatic 105, 3) := by decide +kernel
def own_W167 {a0 Z} (hw : own_H a0 Z) := hw _ (List.mem_of_getElem? (i := 167) rfl)
def own_W164 {a0 Z} (hw : own_H a0 Z) := hw _ (List.mem_of_getElem? (i := 164) rfl)
def own_W166 {a0 Z} (hw : own_H a0 Z) := hw _ (List.mem_of_getElem? (i := 166) rfl)
theorem pd_IILjava_util_function_BiFunction__I_328 : parseMethodDescriptor "(IILjava/util/function/BiFunction;)I" = some ⟨[.int, .int, (.object "java/util/function/BiFunction")], some .int⟩ := by decide +kernel
def own_W165 {a0 Z} (hw : own_H a0 Z) := hw _ (List.mem_of_getElem? (i := 165) rfl)
theorem d25_6 : decode jdk_31_method_17_code 6 = .ok (.ireturn, 1) := by decide +kernel
theorem ef_oci (m : MethodId) (x0 : Int32) (x1 : Int32) : entryFrame m #[(.int x0), (.int x1)] 2 = mkF m 0 #[.val (.int x0), .val (.int x1)] [] := by first | (simp [entryFrame, mkF, argsToLocals, Value.category]; done) | rfl
def Qoci (Z : State) (x y : Int32) (h0 : Heap) (n0 : Nat) (v : Option Value) (h : Heap) (L : List Loc) : Prop := v = some (.int x) ∧ Fr n0 L ∧ h = h0
theorem pn_java_util_Objects : plainName "java/util/Objects" = true := by first | (simp [plainName, overriddenIn]; done) | decide +kernel
set_option maxRecDepth 65536 in
set_option maxHeartbeats 40000000 in
theorem rmoci (l : Launch) (Z : State) (a0 : Array Value) (hw : own_H a0 Z) (ws : List Jvm.Cond) (x y : Int32) (h0 : Heap) (n0 : Nat) (O0 : Old Z n0 h0) (h1 : ¬ (x < (0 : Int32))) (h2 : x < y) :
    own_M l (⟨"java/util/Objects", "checkIndex", "(II)I"⟩ : MethodName) jdk_31_method_17_code 2 (some .int) ws (own_R 1 0 0 14) Z #[(.int x), (.int y)] h0 (Qoci Z x y h0 n0) := by
  refine own_body (plainFor_of_name pn_java_util_Objects) (fun m => ef_oci m x y) ?_
  intro p e s m below meth c s₁ Bd hx hby hml hown hnm X0 e0 hZ
  have N0 := Fr.nil n0
  refine own_g s₁ (mkF m 3 #[iv x, iv y] [.null, (.int y), (.int x)]) (fun _ kq => XS.iloadN X0.here hx rfl (hb hby d25_0) rfl (XS.iloadN X0.here hx rfl (hb hby d25_1) rfl (XS.aconstNull X0.here hx rfl (hb hby d25_2) kq))) ?_
  obtain ⟨_, T1, L1, X1, ⟨rfl, Nq1, hh1⟩, st1⟩ := own_cS X0 hx hZ hown (own_W164 hw) (own_W165 hw) (own_W166 hw) (own_W167 hw) (rmpci l Z a0 hw [] x y h0 n0 O0 h1 h2) e0 (lenOf pd_IILjava_util_function_BiFunction__I_328 rfl) (g := (mkF m 3 #[iv x, iv y] [.null, (.int y), (.int x)])) (argsL := [(.int x), (.int y), .null]) (rest := []) (W := 0) rfl rfl (hb hby d25_3) (by rw [hml]; rfl) (by show 2 * 0 + _ ≤ _; exact Nat.le_of_eq rfl) rfl (by decide) (by decide) (by decide) (by decide) (by decide)
  have N2 := Fr.app N0 Nq1
  refine own_t T1 (mkF m 6 #[iv x, iv y] [(.int x)]) st1 ?_
  refine own_out X1 Bd.notSynchronized (v := (some (.int x))) (fun h => by rw [Bd.returns] at h; cases h) (fun fs hr => own_retI X1 hx Bd.returns (hb hby d25_6) hr) ?_ (by decide) (by decide)
  rw [hh1]
  exact ⟨rfl, N2, rfl⟩
theorem d27_0 : decode jdk_38_method_18_code 0 = .ok (.aload_n 0, 1) := by decide +kernel
theorem d27_1 : decode jdk_38_method_18_code 1 = .ok (.getfield 9, 3) := by decide +kernel
theorem d27_4 : decode jdk_38_method_18_code 4 = .ok (.iload_n 1, 1) := by decide +kernel
theorem d27_5 : decode jdk_38_method_18_code 5 = .ok (.aaload, 1) := by decide +kernel
theorem d27_6 : decode jdk_38_method_18_code 6 = .ok (.areturn, 1) := by decide +kernel
theorem ef_eld0 (m : MethodId) (x0 : Addr) (x1 : Int32) : entryFrame m #[(.ref x0), (.int x1)] 2 = mkF m 0 #[.val (.ref x0), .val (.int x1)] [] := by first | (simp [entryFrame, mkF, argsToLocals, Value.category]; done) | rfl
def Qeld0 (Z : State) (a1 ed el : Addr) (kd : ClassId) (x1 x2 x3 : Value) (h0 : Heap) (n0 : Nat) (v : Option Value) (h : Heap) (L : List Loc) : Prop := v = some (.ref el) ∧ Fr n0 L ∧ h = h0
set_option maxRecDepth 65536 in
set_option maxHeartbeats 40000000 in
theorem rmeld0 (l : Launch) (Z : State) (a0 : Array Value) (hw : own_H a0 Z) (ws : List Jvm.Cond) (a1 ed el : Addr) (kd : ClassId) (x1 x2 x3 : Value) (h0 : Heap) (n0 : Nat) (O0 : Old Z n0 h0) (Fe : Fld Z h0 a1 "java/util/ArrayList" "elementData" "[Ljava/lang/Object;" (.ref ed)) (Ad : Arv Z h0 ed kd (.object "java/lang/Object") (10 : Int32) [(.ref el), x1, x2, x3, .null, .null, .null, .null, .null, .null] .null) :
    own_M l (⟨"java/util/ArrayList", "elementData", "(I)Ljava/lang/Object;"⟩ : MethodName) jdk_38_method_18_code 2 (some (.object "java/lang/Object")) ws (own_R 0 0 0 0) Z #[(.ref a1), (.int (0 : Int32))] h0 (Qeld0 Z a1 ed el kd x1 x2 x3 h0 n0) := by
  refine own_body (plainFor_of_name pn_java_util_ArrayList) (fun m => ef_eld0 m a1 (0 : Int32)) ?_
  intro p e s m below meth c s₁ Bd hx hby hml hown hnm X0 e0 hZ
  have N0 := Fr.nil n0
  refine own_g s₁ (mkF m 1 #[rv a1, iv (0 : Int32)] [(.ref a1)]) (fun _ kq => XS.aloadN X0.here hx rfl (hb hby d27_0) rfl rfl kq) ?_
  obtain ⟨T1, X1, e1, st1⟩ := getF X0 hx hZ hown (host := "") (Or.inl (own_W34 hw)) Via.refl e0 Fe (g := (mkF m 1 #[rv a1, iv (0 : Int32)] [(.ref a1)])) rfl rfl (hb hby d27_1)
  refine own_g T1 (mkF m 4 #[rv a1, iv (0 : Int32)] [(.ref ed)]) st1 ?_
  refine own_g T1 (mkF m 5 #[rv a1, iv (0 : Int32)] [(.int (0 : Int32)), (.ref ed)]) (fun _ kq => XS.iloadN X1.here hx rfl (hb hby d27_4) rfl kq) ?_
  obtain ⟨cl2, Ar2, q2, S2, Nn2, H2, G2⟩ := id Ad
  have hin3 : ¬ ((0 : Int32) < 0 ∨ cl2.slots.size ≤ ((0 : Int32)).toNatClampNeg) := inb_of S2 ⟨by decide, by decide⟩
  have hat3 : cl2.slots[((0 : Int32)).toNatClampNeg]? = some (.ref el) := Has.at H2 hin3 rfl
  refine own_g T1 (mkF m 6 #[rv a1, iv (0 : Int32)] [(.ref el)]) (X1.aaload hx (j := (0 : Int32)) (v := (.ref el)) (by rw [e1]; exact Ar2.1) (State.isArrayOf_alike hZ.alike Ar2.2.1) rfl Ar2.2.2 hin3 hat3 (g := (mkF m 5 #[rv a1, iv (0 : Int32)] [(.int (0 : Int32)), (.ref ed)])) rfl rfl (hb hby d27_5)) ?_
  refine own_out X1 Bd.notSynchronized (v := (some (.ref el))) (fun h => by rw [Bd.returns] at h; cases h) (fun fs hr => own_retA X1 hx Bd.returns rfl rfl rfl (hb hby d27_6) hr) ?_ (by decide) (by decide)
  rw [e1]
  exact ⟨rfl, N0, rfl⟩
theorem d24_0 : decode jdk_38_method_20_code 0 = .ok (.iload_n 1, 1) := by decide +kernel
theorem d24_1 : decode jdk_38_method_20_code 1 = .ok (.aload_n 0, 1) := by decide +kernel
theorem d24_2 : decode jdk_38_method_20_code 2 = .ok (.getfield 48, 3) := by decide +kernel
theorem d24_5 : decode jdk_38_method_20_code 5 = .ok (.invokestatic 118, 3) := by decide +kernel
def own_W163 {a0 Z} (hw : own_H a0 Z) := hw _ (List.mem_of_getElem? (i := 163) rfl)
def own_W160 {a0 Z} (hw : own_H a0 Z) := hw _ (List.mem_of_getElem? (i := 160) rfl)
def own_W162 {a0 Z} (hw : own_H a0 Z) := hw _ (List.mem_of_getElem? (i := 162) rfl)
def own_W161 {a0 Z} (hw : own_H a0 Z) := hw _ (List.mem_of_getElem? (i := 161) rfl)
theorem d24_8 : decode jdk_38_method_20_code 8 = .ok (.pop, 1) := by decide +kernel
theorem d24_9 : decode jdk_38_method_20_code 9 = .ok (.aload_n 0, 1) := by decide +kernel
theorem d24_10 : decode jdk_38_method_20_code 10 = .ok (.iload_n 1, 1) := by decide +kernel
theorem d24_11 : decode jdk_38_method_20_code 11 = .ok (.invokevirtual 123, 3) := by decide +kernel
def own_W172 {a0 Z} (hw : own_H a0 Z) := hw _ (List.mem_of_getElem? (i := 172) rfl)
def own_W168 {a0 Z} (hw : own_H a0 Z) := hw _ (List.mem_of_getElem? (i := 168) rfl)
theorem pd_I_Ljava_lang_Object_821 : parseMethodDescriptor "(I)Ljava/lang/Object;" = some ⟨[.int], some (.object "java/lang/Object")⟩ := by decide +kernel
def own_W169 {a0 Z} (hw : own_H a0 Z) := hw _ (List.mem_of_getElem? (i := 169) rfl)
def own_W171 {a0 Z} (hw : own_H a0 Z) := hw _ (List.mem_of_getElem? (i := 171) rfl)
def own_W170 {a0 Z} (hw : own_H a0 Z) := hw _ (List.mem_of_getElem? (i := 170) rfl)
theorem d24_14 : decode jdk_38_method_20_code 14 = .ok (.areturn, 1) := by decide +kernel
theorem ef_get0 (m : MethodId) (x0 : Addr) (x1 : Int32) : entryFrame m #[(.ref x0), (.int x1)] 2 = mkF m 0 #[.val (.ref x0), .val (.int x1)] [] := by first | (simp [entryFrame, mkF, argsToLocals, Value.category]; done) | rfl
def Qget0 (Z : State) (a1 ed el : Addr) (kd : ClassId) (x1 x2 x3 : Value) (sz : Int32) (h0 : Heap) (n0 : Nat) (v : Option Value) (h : Heap) (L : List Loc) : Prop := v = some (.ref el) ∧ Fr n0 L ∧ h = h0
set_option maxRecDepth 65536 in
set_option maxHeartbeats 40000000 in
theorem rmget0 (l : Launch) (Z : State) (a0 : Array Value) (hw : own_H a0 Z) (ws : List Jvm.Cond) (a1 ed el : Addr) (kd : ClassId) (x1 x2 x3 : Value) (sz : Int32) (h0 : Heap) (n0 : Nat) (O0 : Old Z n0 h0) (Ea : Exa Z h0 a1 "java/util/ArrayList") (Fs : Fld Z h0 a1 "java/util/ArrayList" "size" "I" (.int sz)) (hk : (0 : Int32) < sz) (Fe : Fld Z h0 a1 "java/util/ArrayList" "elementData" "[Ljava/lang/Object;" (.ref ed)) (Ad : Arv Z h0 ed kd (.object "java/lang/Object") (10 : Int32) [(.ref el), x1, x2, x3, .null, .null, .null, .null, .null, .null] .null) :
    own_M l (⟨"java/util/ArrayList", "get", "(I)Ljava/lang/Object;"⟩ : MethodName) jdk_38_method_20_code 2 (some (.object "java/lang/Object")) ws (own_R 2 0 0 27) Z #[(.ref a1), (.int (0 : Int32))] h0 (Qget0 Z a1 ed el kd x1 x2 x3 sz h0 n0) := by
  refine own_body (plainFor_of_name pn_java_util_ArrayList) (fun m => ef_get0 m a1 (0 : Int32)) ?_
  intro p e s m below meth c s₁ Bd hx hby hml hown hnm X0 e0 hZ
  have N0 := Fr.nil n0
  refine own_g s₁ (mkF m 2 #[rv a1, iv (0 : Int32)] [(.ref a1), (.int (0 : Int32))]) (fun _ kq => XS.iloadN X0.here hx rfl (hb hby d24_0) rfl (XS.aloadN X0.here hx rfl (hb hby d24_1) rfl rfl kq)) ?_
  obtain ⟨T1, X1, e1, st1⟩ := getF X0 hx hZ hown (host := "") (Or.inl (own_W43 hw)) Via.refl e0 Fs (g := (mkF m 2 #[rv a1, iv (0 : Int32)] [(.ref a1), (.int (0 : Int32))])) rfl rfl (hb hby d24_2)
  refine own_g T1 (mkF m 5 #[rv a1, iv (0 : Int32)] [(.int sz), (.int (0 : Int32))]) st1 ?_
  obtain ⟨_, T2, L2, X2, ⟨rfl, Nq2, hh2⟩, st2⟩ := own_cS X1 hx hZ hown (own_W160 hw) (own_W161 hw) (own_W162 hw) (own_W163 hw) (rmoci l Z a0 hw [] (0 : Int32) sz h0 n0 O0 (by decide) hk) e1 (lenOf pd_II_I_300 rfl) (g := (mkF m 5 #[rv a1, iv (0 : Int32)] [(.int sz), (.int (0 : Int32))])) (argsL := [(.int (0 : Int32)), (.int sz)]) (rest := []) (W := 0) rfl rfl (hb hby d24_5) (by rw [hml]; rfl) (by show 2 * 0 + _ ≤ _; exact Nat.le_of_eq rfl) rfl (by decide) (by decide) (by decide) (by decide) (by decide)
  have N3 := Fr.app N0 Nq2
  refine own_t T2 (mkF m 8 #[rv a1, iv (0 : Int32)] [(.int (0 : Int32))]) st2 ?_
  refine own_g T2 (mkF m 11 #[rv a1, iv (0 : Int32)] [(.int (0 : Int32)), (.ref a1)]) (fun _ kq => XS.pop X2.here hx rfl (hb hby d24_8) rfl rfl (XS.aloadN X2.here hx rfl (hb hby d24_9) rfl rfl (XS.iloadN X2.here hx rfl (hb hby d24_10) rfl kq))) ?_
  obtain ⟨_, T4, L4, X4, ⟨rfl, Nq4, hh4⟩, st4⟩ := own_cV X2 hx hZ hown (own_W168 hw) (own_W169 hw) (own_W171 hw) (own_W170 hw) (own_W12 hw) (own_W172 hw) (rmeld0 l Z a0 hw [] a1 ed el kd x1 x2 x3 h0 n0 O0 Fe Ad) hh2 Ea (lenOf pd_I_Ljava_lang_Object_821 rfl) (g := (mkF m 11 #[rv a1, iv (0 : Int32)] [(.int (0 : Int32)), (.ref a1)])) (argsL := [(.int (0 : Int32))]) (rest := []) (W := 0) rfl rfl (hb hby d24_11) (by rw [hml]; rfl) (by show 2 * 0 + _ ≤ _; exact Nat.le_of_eq rfl) rfl (by decide) (by decide) (by decide) (by decide) (by decide)
  have N5 := Fr.app N3 Nq4
  refine own_t T4 (mkF m 14 #[rv a1, iv (0 : Int32)] [(.ref el)]) st4 ?_
  refine own_out X4 Bd.notSynchronized (v := (some (.ref el))) (fun h => by rw [Bd.returns] at h; cases h) (fun fs hr => own_retA X4 hx Bd.returns rfl rfl rfl (hb hby d24_14) hr) ?_ (by decide) (by decide)
  rw [hh4]
  exact ⟨rfl, N5, rfl⟩
theorem ef_eld1 (m : MethodId) (x0 : Addr) (x1 : Int32) : entryFrame m #[(.ref x0), (.int x1)] 2 = mkF m 0 #[.val (.ref x0), .val (.int x1)] [] := by first | (simp [entryFrame, mkF, argsToLocals, Value.category]; done) | rfl
def Qeld1 (Z : State) (a1 ed el : Addr) (kd : ClassId) (x0 x2 x3 : Value) (h0 : Heap) (n0 : Nat) (v : Option Value) (h : Heap) (L : List Loc) : Prop := v = some (.ref el) ∧ Fr n0 L ∧ h = h0
set_option maxRecDepth 65536 in
set_option maxHeartbeats 40000000 in
theorem rmeld1 (l : Launch) (Z : State) (a0 : Array Value) (hw : own_H a0 Z) (ws : List Jvm.Cond) (a1 ed el : Addr) (kd : ClassId) (x0 x2 x3 : Value) (h0 : Heap) (n0 : Nat) (O0 : Old Z n0 h0) (Fe : Fld Z h0 a1 "java/util/ArrayList" "elementData" "[Ljava/lang/Object;" (.ref ed)) (Ad : Arv Z h0 ed kd (.object "java/lang/Object") (10 : Int32) [x0, (.ref el), x2, x3, .null, .null, .null, .null, .null, .null] .null) :
    own_M l (⟨"java/util/ArrayList", "elementData", "(I)Ljava/lang/Object;"⟩ : MethodName) jdk_38_method_18_code 2 (some (.object "java/lang/Object")) ws (own_R 0 0 0 0) Z #[(.ref a1), (.int (1 : Int32))] h0 (Qeld1 Z a1 ed el kd x0 x2 x3 h0 n0) := by
  refine own_body (plainFor_of_name pn_java_util_ArrayList) (fun m => ef_eld1 m a1 (1 : Int32)) ?_
  intro p e s m below meth c s₁ Bd hx hby hml hown hnm X0 e0 hZ
  have N0 := Fr.nil n0
  refine own_g s₁ (mkF m 1 #[rv a1, iv (1 : Int32)] [(.ref a1)]) (fun _ kq => XS.aloadN X0.here hx rfl (hb hby d27_0) rfl rfl kq) ?_
  obtain ⟨T1, X1, e1, st1⟩ := getF X0 hx hZ hown (host := "") (Or.inl (own_W34 hw)) Via.refl e0 Fe (g := (mkF m 1 #[rv a1, iv (1 : Int32)] [(.ref a1)])) rfl rfl (hb hby d27_1)
  refine own_g T1 (mkF m 4 #[rv a1, iv (1 : Int32)] [(.ref ed)]) st1 ?_
  refine own_g T1 (mkF m 5 #[rv a1, iv (1 : Int32)] [(.int (1 : Int32)), (.ref ed)]) (fun _ kq => XS.iloadN X1.here hx rfl (hb hby d27_4) rfl kq) ?_
  obtain ⟨cl2, Ar2, q2, S2, Nn2, H2, G2⟩ := id Ad
  have hin3 : ¬ ((1 : Int32) < 0 ∨ cl2.slots.size ≤ ((1 : Int32)).toNatClampNeg) := inb_of S2 ⟨by decide, by decide⟩
  have hat3 : cl2.slots[((1 : Int32)).toNatClampNeg]? = some (.ref el) := Has.at H2 hin3 rfl
  refine own_g T1 (mkF m 6 #[rv a1, iv (1 : Int32)] [(.ref el)]) (X1.aaload hx (j := (1 : Int32)) (v := (.ref el)) (by rw [e1]; exact Ar2.1) (State.isArrayOf_alike hZ.alike Ar2.2.1) rfl Ar2.2.2 hin3 hat3 (g := (mkF m 5 #[rv a1, iv (1 : Int32)] [(.int (1 : Int32)), (.ref ed)])) rfl rfl (hb hby d27_5)) ?_
  refine own_out X1 Bd.notSynchronized (v := (some (.ref el))) (fun h => by rw [Bd.returns] at h; cases h) (fun fs hr => own_retA X1 hx Bd.returns rfl rfl rfl (hb hby d27_6) hr) ?_ (by decide) (by decide)
  rw [e1]
  exact ⟨rfl, N0, rfl⟩
theorem ef_get1 (m : MethodId) (x0 : Addr) (x1 : Int32) : entryFrame m #[(.ref x0), (.int x1)] 2 = mkF m 0 #[.val (.ref x0), .val (.int x1)] [] := by first | (simp [entryFrame, mkF, argsToLocals, Value.category]; done) | rfl
def Qget1 (Z : State) (a1 ed el : Addr) (kd : ClassId) (x0 x2 x3 : Value) (sz : Int32) (h0 : Heap) (n0 : Nat) (v : Option Value) (h : Heap) (L : List Loc) : Prop := v = some (.ref el) ∧ Fr n0 L ∧ h = h0
set_option maxRecDepth 65536 in
set_option maxHeartbeats 40000000 in
theorem rmget1 (l : Launch) (Z : State) (a0 : Array Value) (hw : own_H a0 Z) (ws : List Jvm.Cond) (a1 ed el : Addr) (kd : ClassId) (x0 x2 x3 : Value) (sz : Int32) (h0 : Heap) (n0 : Nat) (O0 : Old Z n0 h0) (Ea : Exa Z h0 a1 "java/util/ArrayList") (Fs : Fld Z h0 a1 "java/util/ArrayList" "size" "I" (.int sz)) (hk : (1 : Int32) < sz) (Fe : Fld Z h0 a1 "java/util/ArrayList" "elementData" "[Ljava/lang/Object;" (.ref ed)) (Ad : Arv Z h0 ed kd (.object "java/lang/Object") (10 : Int32) [x0, (.ref el), x2, x3, .null, .null, .null, .null, .null, .null] .null) :
    own_M l (⟨"java/util/ArrayList", "get", "(I)Ljava/lang/Object;"⟩ : MethodName) jdk_38_method_20_code 2 (some (.object "java/lang/Object")) ws (own_R 2 0 0 27) Z #[(.ref a1), (.int (1 : Int32))] h0 (Qget1 Z a1 ed el kd x0 x2 x3 sz h0 n0) := by
  refine own_body (plainFor_of_name pn_java_util_ArrayList) (fun m => ef_get1 m a1 (1 : Int32)) ?_
  intro p e s m below meth c s₁ Bd hx hby hml hown hnm X0 e0 hZ
  have N0 := Fr.nil n0
  refine own_g s₁ (mkF m 2 #[rv a1, iv (1 : Int32)] [(.ref a1), (.int (1 : Int32))]) (fun _ kq => XS.iloadN X0.here hx rfl (hb hby d24_0) rfl (XS.aloadN X0.here hx rfl (hb hby d24_1) rfl rfl kq)) ?_
  obtain ⟨T1, X1, e1, st1⟩ := getF X0 hx hZ hown (host := "") (Or.inl (own_W43 hw)) Via.refl e0 Fs (g := (mkF m 2 #[rv a1, iv (1 : Int32)] [(.ref a1), (.int (1 : Int32))])) rfl rfl (hb hby d24_2)
  refine own_g T1 (mkF m 5 #[rv a1, iv (1 : Int32)] [(.int sz), (.int (1 : Int32))]) st1 ?_
  obtain ⟨_, T2, L2, X2, ⟨rfl, Nq2, hh2⟩, st2⟩ := own_cS X1 hx hZ hown (own_W160 hw) (own_W161 hw) (own_W162 hw) (own_W163 hw) (rmoci l Z a0 hw [] (1 : Int32) sz h0 n0 O0 (by decide) hk) e1 (lenOf pd_II_I_300 rfl) (g := (mkF m 5 #[rv a1, iv (1 : Int32)] [(.int sz), (.int (1 : Int32))])) (argsL := [(.int (1 : Int32)), (.int sz)]) (rest := []) (W := 0) rfl rfl (hb hby d24_5) (by rw [hml]; rfl) (by show 2 * 0 + _ ≤ _; exact Nat.le_of_eq rfl) rfl (by decide) (by decide) (by decide) (by decide) (by decide)
  have N3 := Fr.app N0 Nq2
  refine own_t T2 (mkF m 8 #[rv a1, iv (1 : Int32)] [(.int (1 : Int32))]) st2 ?_
  refine own_g T2 (mkF m 11 #[rv a1, iv (1 : Int32)] [(.int (1 : Int32)), (.ref a1)]) (fun _ kq => XS.pop X2.here hx rfl (hb hby d24_8) rfl rfl (XS.aloadN X2.here hx rfl (hb hby d24_9) rfl rfl (XS.iloadN X2.here hx rfl (hb hby d24_10) rfl kq))) ?_
  obtain ⟨_, T4, L4, X4, ⟨rfl, Nq4, hh4⟩, st4⟩ := own_cV X2 hx hZ hown (own_W168 hw) (own_W169 hw) (own_W171 hw) (own_W170 hw) (own_W12 hw) (own_W172 hw) (rmeld1 l Z a0 hw [] a1 ed el kd x0 x2 x3 h0 n0 O0 Fe Ad) hh2 Ea (lenOf pd_I_Ljava_lang_Object_821 rfl) (g := (mkF m 11 #[rv a1, iv (1 : Int32)] [(.int (1 : Int32)), (.ref a1)])) (argsL := [(.int (1 : Int32))]) (rest := []) (W := 0) rfl rfl (hb hby d24_11) (by rw [hml]; rfl) (by show 2 * 0 + _ ≤ _; exact Nat.le_of_eq rfl) rfl (by decide) (by decide) (by decide) (by decide) (by decide)
  have N5 := Fr.app N3 Nq4
  refine own_t T4 (mkF m 14 #[rv a1, iv (1 : Int32)] [(.ref el)]) st4 ?_
  refine own_out X4 Bd.notSynchronized (v := (some (.ref el))) (fun h => by rw [Bd.returns] at h; cases h) (fun fs hr => own_retA X4 hx Bd.returns rfl rfl rfl (hb hby d24_14) hr) ?_ (by decide) (by decide)
  rw [hh4]
  exact ⟨rfl, N5, rfl⟩
theorem ef_eld2 (m : MethodId) (x0 : Addr) (x1 : Int32) : entryFrame m #[(.ref x0), (.int x1)] 2 = mkF m 0 #[.val (.ref x0), .val (.int x1)] [] := by first | (simp [entryFrame, mkF, argsToLocals, Value.category]; done) | rfl
def Qeld2 (Z : State) (a1 ed el : Addr) (kd : ClassId) (x0 x1 x3 : Value) (h0 : Heap) (n0 : Nat) (v : Option Value) (h : Heap) (L : List Loc) : Prop := v = some (.ref el) ∧ Fr n0 L ∧ h = h0
set_option maxRecDepth 65536 in
set_option maxHeartbeats 40000000 in
theorem rmeld2 (l : Launch) (Z : State) (a0 : Array Value) (hw : own_H a0 Z) (ws : List Jvm.Cond) (a1 ed el : Addr) (kd : ClassId) (x0 x1 x3 : Value) (h0 : Heap) (n0 : Nat) (O0 : Old Z n0 h0) (Fe : Fld Z h0 a1 "java/util/ArrayList" "elementData" "[Ljava/lang/Object;" (.ref ed)) (Ad : Arv Z h0 ed kd (.object "java/lang/Object") (10 : Int32) [x0, x1, (.ref el), x3, .null, .null, .null, .null, .null, .null] .null) :
    own_M l (⟨"java/util/ArrayList", "elementData", "(I)Ljava/lang/Object;"⟩ : MethodName) jdk_38_method_18_code 2 (some (.object "java/lang/Object")) ws (own_R 0 0 0 0) Z #[(.ref a1), (.int (2 : Int32))] h0 (Qeld2 Z a1 ed el kd x0 x1 x3 h0 n0) := by
  refine own_body (plainFor_of_name pn_java_util_ArrayList) (fun m => ef_eld2 m a1 (2 : Int32)) ?_
  intro p e s m below meth c s₁ Bd hx hby hml hown hnm X0 e0 hZ
  have N0 := Fr.nil n0
  refine own_g s₁ (mkF m 1 #[rv a1, iv (2 : Int32)] [(.ref a1)]) (fun _ kq => XS.aloadN X0.here hx rfl (hb hby d27_0) rfl rfl kq) ?_
  obtain ⟨T1, X1, e1, st1⟩ := getF X0 hx hZ hown (host := "") (Or.inl (own_W34 hw)) Via.refl e0 Fe (g := (mkF m 1 #[rv a1, iv (2 : Int32)] [(.ref a1)])) rfl rfl (hb hby d27_1)
  refine own_g T1 (mkF m 4 #[rv a1, iv (2 : Int32)] [(.ref ed)]) st1 ?_
  refine own_g T1 (mkF m 5 #[rv a1, iv (2 : Int32)] [(.int (2 : Int32)), (.ref ed)]) (fun _ kq => XS.iloadN X1.here hx rfl (hb hby d27_4) rfl kq) ?_
  obtain ⟨cl2, Ar2, q2, S2, Nn2, H2, G2⟩ := id Ad
  have hin3 : ¬ ((2 : Int32) < 0 ∨ cl2.slots.size ≤ ((2 : Int32)).toNatClampNeg) := inb_of S2 ⟨by decide, by decide⟩
  have hat3 : cl2.slots[((2 : Int32)).toNatClampNeg]? = some (.ref el) := Has.at H2 hin3 rfl
  refine own_g T1 (mkF m 6 #[rv a1, iv (2 : Int32)] [(.ref el)]) (X1.aaload hx (j := (2 : Int32)) (v := (.ref el)) (by rw [e1]; exact Ar2.1) (State.isArrayOf_alike hZ.alike Ar2.2.1) rfl Ar2.2.2 hin3 hat3 (g := (mkF m 5 #[rv a1, iv (2 : Int32)] [(.int (2 : Int32)), (.ref ed)])) rfl rfl (hb hby d27_5)) ?_
  refine own_out X1 Bd.notSynchronized (v := (some (.ref el))) (fun h => by rw [Bd.returns] at h; cases h) (fun fs hr => own_retA X1 hx Bd.returns rfl rfl rfl (hb hby d27_6) hr) ?_ (by decide) (by decide)
  rw [e1]
  exact ⟨rfl, N0, rfl⟩
theorem ef_get2 (m : MethodId) (x0 : Addr) (x1 : Int32) : entryFrame m #[(.ref x0), (.int x1)] 2 = mkF m 0 #[.val (.ref x0), .val (.int x1)] [] := by first | (simp [entryFrame, mkF, argsToLocals, Value.category]; done) | rfl
def Qget2 (Z : State) (a1 ed el : Addr) (kd : ClassId) (x0 x1 x3 : Value) (sz : Int32) (h0 : Heap) (n0 : Nat) (v : Option Value) (h : Heap) (L : List Loc) : Prop := v = some (.ref el) ∧ Fr n0 L ∧ h = h0
set_option maxRecDepth 65536 in
set_option maxHeartbeats 40000000 in
theorem rmget2 (l : Launch) (Z : State) (a0 : Array Value) (hw : own_H a0 Z) (ws : List Jvm.Cond) (a1 ed el : Addr) (kd : ClassId) (x0 x1 x3 : Value) (sz : Int32) (h0 : Heap) (n0 : Nat) (O0 : Old Z n0 h0) (Ea : Exa Z h0 a1 "java/util/ArrayList") (Fs : Fld Z h0 a1 "java/util/ArrayList" "size" "I" (.int sz)) (hk : (2 : Int32) < sz) (Fe : Fld Z h0 a1 "java/util/ArrayList" "elementData" "[Ljava/lang/Object;" (.ref ed)) (Ad : Arv Z h0 ed kd (.object "java/lang/Object") (10 : Int32) [x0, x1, (.ref el), x3, .null, .null, .null, .null, .null, .null] .null) :
    own_M l (⟨"java/util/ArrayList", "get", "(I)Ljava/lang/Object;"⟩ : MethodName) jdk_38_method_20_code 2 (some (.object "java/lang/Object")) ws (own_R 2 0 0 27) Z #[(.ref a1), (.int (2 : Int32))] h0 (Qget2 Z a1 ed el kd x0 x1 x3 sz h0 n0) := by
  refine own_body (plainFor_of_name pn_java_util_ArrayList) (fun m => ef_get2 m a1 (2 : Int32)) ?_
  intro p e s m below meth c s₁ Bd hx hby hml hown hnm X0 e0 hZ
  have N0 := Fr.nil n0
  refine own_g s₁ (mkF m 2 #[rv a1, iv (2 : Int32)] [(.ref a1), (.int (2 : Int32))]) (fun _ kq => XS.iloadN X0.here hx rfl (hb hby d24_0) rfl (XS.aloadN X0.here hx rfl (hb hby d24_1) rfl rfl kq)) ?_
  obtain ⟨T1, X1, e1, st1⟩ := getF X0 hx hZ hown (host := "") (Or.inl (own_W43 hw)) Via.refl e0 Fs (g := (mkF m 2 #[rv a1, iv (2 : Int32)] [(.ref a1), (.int (2 : Int32))])) rfl rfl (hb hby d24_2)
  refine own_g T1 (mkF m 5 #[rv a1, iv (2 : Int32)] [(.int sz), (.int (2 : Int32))]) st1 ?_
  obtain ⟨_, T2, L2, X2, ⟨rfl, Nq2, hh2⟩, st2⟩ := own_cS X1 hx hZ hown (own_W160 hw) (own_W161 hw) (own_W162 hw) (own_W163 hw) (rmoci l Z a0 hw [] (2 : Int32) sz h0 n0 O0 (by decide) hk) e1 (lenOf pd_II_I_300 rfl) (g := (mkF m 5 #[rv a1, iv (2 : Int32)] [(.int sz), (.int (2 : Int32))])) (argsL := [(.int (2 : Int32)), (.int sz)]) (rest := []) (W := 0) rfl rfl (hb hby d24_5) (by rw [hml]; rfl) (by show 2 * 0 + _ ≤ _; exact Nat.le_of_eq rfl) rfl (by decide) (by decide) (by decide) (by decide) (by decide)
  have N3 := Fr.app N0 Nq2
  refine own_t T2 (mkF m 8 #[rv a1, iv (2 : Int32)] [(.int (2 : Int32))]) st2 ?_
  refine own_g T2 (mkF m 11 #[rv a1, iv (2 : Int32)] [(.int (2 : Int32)), (.ref a1)]) (fun _ kq => XS.pop X2.here hx rfl (hb hby d24_8) rfl rfl (XS.aloadN X2.here hx rfl (hb hby d24_9) rfl rfl (XS.iloadN X2.here hx rfl (hb hby d24_10) rfl kq))) ?_
  obtain ⟨_, T4, L4, X4, ⟨rfl, Nq4, hh4⟩, st4⟩ := own_cV X2 hx hZ hown (own_W168 hw) (own_W169 hw) (own_W171 hw) (own_W170 hw) (own_W12 hw) (own_W172 hw) (rmeld2 l Z a0 hw [] a1 ed el kd x0 x1 x3 h0 n0 O0 Fe Ad) hh2 Ea (lenOf pd_I_Ljava_lang_Object_821 rfl) (g := (mkF m 11 #[rv a1, iv (2 : Int32)] [(.int (2 : Int32)), (.ref a1)])) (argsL := [(.int (2 : Int32))]) (rest := []) (W := 0) rfl rfl (hb hby d24_11) (by rw [hml]; rfl) (by show 2 * 0 + _ ≤ _; exact Nat.le_of_eq rfl) rfl (by decide) (by decide) (by decide) (by decide) (by decide)
  have N5 := Fr.app N3 Nq4
  refine own_t T4 (mkF m 14 #[rv a1, iv (2 : Int32)] [(.ref el)]) st4 ?_
  refine own_out X4 Bd.notSynchronized (v := (some (.ref el))) (fun h => by rw [Bd.returns] at h; cases h) (fun fs hr => own_retA X4 hx Bd.returns rfl rfl rfl (hb hby d24_14) hr) ?_ (by decide) (by decide)
  rw [hh4]
  exact ⟨rfl, N5, rfl⟩
theorem ef_eld3 (m : MethodId) (x0 : Addr) (x1 : Int32) : entryFrame m #[(.ref x0), (.int x1)] 2 = mkF m 0 #[.val (.ref x0), .val (.int x1)] [] := by first | (simp [entryFrame, mkF, argsToLocals, Value.category]; done) | rfl
def Qeld3 (Z : State) (a1 ed el : Addr) (kd : ClassId) (x0 x1 x2 : Value) (h0 : Heap) (n0 : Nat) (v : Option Value) (h : Heap) (L : List Loc) : Prop := v = some (.ref el) ∧ Fr n0 L ∧ h = h0
set_option maxRecDepth 65536 in
set_option maxHeartbeats 40000000 in
theorem rmeld3 (l : Launch) (Z : State) (a0 : Array Value) (hw : own_H a0 Z) (ws : List Jvm.Cond) (a1 ed el : Addr) (kd : ClassId) (x0 x1 x2 : Value) (h0 : Heap) (n0 : Nat) (O0 : Old Z n0 h0) (Fe : Fld Z h0 a1 "java/util/ArrayList" "elementData" "[Ljava/lang/Object;" (.ref ed)) (Ad : Arv Z h0 ed kd (.object "java/lang/Object") (10 : Int32) [x0, x1, x2, (.ref el), .null, .null, .null, .null, .null, .null] .null) :
    own_M l (⟨"java/util/ArrayList", "elementData", "(I)Ljava/lang/Object;"⟩ : MethodName) jdk_38_method_18_code 2 (some (.object "java/lang/Object")) ws (own_R 0 0 0 0) Z #[(.ref a1), (.int (3 : Int32))] h0 (Qeld3 Z a1 ed el kd x0 x1 x2 h0 n0) := by
  refine own_body (plainFor_of_name pn_java_util_ArrayList) (fun m => ef_eld3 m a1 (3 : Int32)) ?_
  intro p e s m below meth c s₁ Bd hx hby hml hown hnm X0 e0 hZ
  have N0 := Fr.nil n0
  refine own_g s₁ (mkF m 1 #[rv a1, iv (3 : Int32)] [(.ref a1)]) (fun _ kq => XS.aloadN X0.here hx rfl (hb hby d27_0) rfl rfl kq) ?_
  obtain ⟨T1, X1, e1, st1⟩ := getF X0 hx hZ hown (host := "") (Or.inl (own_W34 hw)) Via.refl e0 Fe (g := (mkF m 1 #[rv a1, iv (3 : Int32)] [(.ref a1)])) rfl rfl (hb hby d27_1)
  refine own_g T1 (mkF m 4 #[rv a1, iv (3 : Int32)] [(.ref ed)]) st1 ?_
  refine own_g T1 (mkF m 5 #[rv a1, iv (3 : Int32)] [(.int (3 : Int32)), (.ref ed)]) (fun _ kq => XS.iloadN X1.here hx rfl (hb hby d27_4) rfl kq) ?_
  obtain ⟨cl2, Ar2, q2, S2, Nn2, H2, G2⟩ := id Ad
  have hin3 : ¬ ((3 : Int32) < 0 ∨ cl2.slots.size ≤ ((3 : Int32)).toNatClampNeg) := inb_of S2 ⟨by decide, by decide⟩
  have hat3 : cl2.slots[((3 : Int32)).toNatClampNeg]? = some (.ref el) := Has.at H2 hin3 rfl
  refine own_g T1 (mkF m 6 #[rv a1, iv (3 : Int32)] [(.ref el)]) (X1.aaload hx (j := (3 : Int32)) (v := (.ref el)) (by rw [e1]; exact Ar2.1) (State.isArrayOf_alike hZ.alike Ar2.2.1) rfl Ar2.2.2 hin3 hat3 (g := (mkF m 5 #[rv a1, iv (3 : Int32)] [(.int (3 : Int32)), (.ref ed)])) rfl rfl (hb hby d27_5)) ?_
  refine own_out X1 Bd.notSynchronized (v := (some (.ref el))) (fun h => by rw [Bd.returns] at h; cases h) (fun fs hr => own_retA X1 hx Bd.returns rfl rfl rfl (hb hby d27_6) hr) ?_ (by decide) (by decide)
  rw [e1]
  exact ⟨rfl, N0, rfl⟩
theorem ef_get3 (m : MethodId) (x0 : Addr) (x1 : Int32) : entryFrame m #[(.ref x0), (.int x1)] 2 = mkF m 0 #[.val (.ref x0), .val (.int x1)] [] := by first | (simp [entryFrame, mkF, argsToLocals, Value.category]; done) | rfl
def Qget3 (Z : State) (a1 ed el : Addr) (kd : ClassId) (x0 x1 x2 : Value) (sz : Int32) (h0 : Heap) (n0 : Nat) (v : Option Value) (h : Heap) (L : List Loc) : Prop := v = some (.ref el) ∧ Fr n0 L ∧ h = h0
set_option maxRecDepth 65536 in
set_option maxHeartbeats 40000000 in
theorem rmget3 (l : Launch) (Z : State) (a0 : Array Value) (hw : own_H a0 Z) (ws : List Jvm.Cond) (a1 ed el : Addr) (kd : ClassId) (x0 x1 x2 : Value) (sz : Int32) (h0 : Heap) (n0 : Nat) (O0 : Old Z n0 h0) (Ea : Exa Z h0 a1 "java/util/ArrayList") (Fs : Fld Z h0 a1 "java/util/ArrayList" "size" "I" (.int sz)) (hk : (3 : Int32) < sz) (Fe : Fld Z h0 a1 "java/util/ArrayList" "elementData" "[Ljava/lang/Object;" (.ref ed)) (Ad : Arv Z h0 ed kd (.object "java/lang/Object") (10 : Int32) [x0, x1, x2, (.ref el), .null, .null, .null, .null, .null, .null] .null) :
    own_M l (⟨"java/util/ArrayList", "get", "(I)Ljava/lang/Object;"⟩ : MethodName) jdk_38_method_20_code 2 (some (.object "java/lang/Object")) ws (own_R 2 0 0 27) Z #[(.ref a1), (.int (3 : Int32))] h0 (Qget3 Z a1 ed el kd x0 x1 x2 sz h0 n0) := by
  refine own_body (plainFor_of_name pn_java_util_ArrayList) (fun m => ef_get3 m a1 (3 : Int32)) ?_
  intro p e s m below meth c s₁ Bd hx hby hml hown hnm X0 e0 hZ
  have N0 := Fr.nil n0
  refine own_g s₁ (mkF m 2 #[rv a1, iv (3 : Int32)] [(.ref a1), (.int (3 : Int32))]) (fun _ kq => XS.iloadN X0.here hx rfl (hb hby d24_0) rfl (XS.aloadN X0.here hx rfl (hb hby d24_1) rfl rfl kq)) ?_
  obtain ⟨T1, X1, e1, st1⟩ := getF X0 hx hZ hown (host := "") (Or.inl (own_W43 hw)) Via.refl e0 Fs (g := (mkF m 2 #[rv a1, iv (3 : Int32)] [(.ref a1), (.int (3 : Int32))])) rfl rfl (hb hby d24_2)
  refine own_g T1 (mkF m 5 #[rv a1, iv (3 : Int32)] [(.int sz), (.int (3 : Int32))]) st1 ?_
  obtain ⟨_, T2, L2, X2, ⟨rfl, Nq2, hh2⟩, st2⟩ := own_cS X1 hx hZ hown (own_W160 hw) (own_W161 hw) (own_W162 hw) (own_W163 hw) (rmoci l Z a0 hw [] (3 : Int32) sz h0 n0 O0 (by decide) hk) e1 (lenOf pd_II_I_300 rfl) (g := (mkF m 5 #[rv a1, iv (3 : Int32)] [(.int sz), (.int (3 : Int32))])) (argsL := [(.int (3 : Int32)), (.int sz)]) (rest := []) (W := 0) rfl rfl (hb hby d24_5) (by rw [hml]; rfl) (by show 2 * 0 + _ ≤ _; exact Nat.le_of_eq rfl) rfl (by decide) (by decide) (by decide) (by decide) (by decide)
  have N3 := Fr.app N0 Nq2
  refine own_t T2 (mkF m 8 #[rv a1, iv (3 : Int32)] [(.int (3 : Int32))]) st2 ?_
  refine own_g T2 (mkF m 11 #[rv a1, iv (3 : Int32)] [(.int (3 : Int32)), (.ref a1)]) (fun _ kq => XS.pop X2.here hx rfl (hb hby d24_8) rfl rfl (XS.aloadN X2.here hx rfl (hb hby d24_9) rfl rfl (XS.iloadN X2.here hx rfl (hb hby d24_10) rfl kq))) ?_
  obtain ⟨_, T4, L4, X4, ⟨rfl, Nq4, hh4⟩, st4⟩ := own_cV X2 hx hZ hown (own_W168 hw) (own_W169 hw) (own_W171 hw) (own_W170 hw) (own_W12 hw) (own_W172 hw) (rmeld3 l Z a0 hw [] a1 ed el kd x0 x1 x2 h0 n0 O0 Fe Ad) hh2 Ea (lenOf pd_I_Ljava_lang_Object_821 rfl) (g := (mkF m 11 #[rv a1, iv (3 : Int32)] [(.int (3 : Int32)), (.ref a1)])) (argsL := [(.int (3 : Int32))]) (rest := []) (W := 0) rfl rfl (hb hby d24_11) (by rw [hml]; rfl) (by show 2 * 0 + _ ≤ _; exact Nat.le_of_eq rfl) rfl (by decide) (by decide) (by decide) (by decide) (by decide)
  have N5 := Fr.app N3 Nq4
  refine own_t T4 (mkF m 14 #[rv a1, iv (3 : Int32)] [(.ref el)]) st4 ?_
  refine own_out X4 Bd.notSynchronized (v := (some (.ref el))) (fun h => by rw [Bd.returns] at h; cases h) (fun fs hr => own_retA X4 hx Bd.returns rfl rfl rfl (hb hby d24_14) hr) ?_ (by decide) (by decide)
  rw [hh4]
  exact ⟨rfl, N5, rfl⟩
def own_lsg (x : Int64) : Int32 := ((x >>> ((63 : Int32) &&& 0x3f).toInt64) ||| (((-x).toUInt64 >>> ((63 : Int32) &&& 0x3f).toInt64.toUInt64).toInt64)).toInt32
theorem d29_0 : decode jdk_35_method_57_code 0 = .ok (.lload_n 0, 1) := by decide +kernel
theorem d29_1 : decode jdk_35_method_57_code 1 = .ok (.bipush 63, 2) := by decide +kernel
theorem d29_3 : decode jdk_35_method_57_code 3 = .ok (.lshr, 1) := by decide +kernel
theorem d29_4 : decode jdk_35_method_57_code 4 = .ok (.lload_n 0, 1) := by decide +kernel
theorem d29_5 : decode jdk_35_method_57_code 5 = .ok (.lneg, 1) := by decide +kernel
theorem d29_6 : decode jdk_35_method_57_code 6 = .ok (.bipush 63, 2) := by decide +kernel
theorem d29_8 : decode jdk_35_method_57_code 8 = .ok (.lushr, 1) := by decide +kernel
theorem d29_9 : decode jdk_35_method_57_code 9 = .ok (.lor, 1) := by decide +kernel
theorem d29_10 : decode jdk_35_method_57_code 10 = .ok (.l2i, 1) := by decide +kernel
theorem d29_11 : decode jdk_35_method_57_code 11 = .ok (.ireturn, 1) := by decide +kernel
theorem ef_lsg (m : MethodId) (x0 : Int64) : entryFrame m #[(.long x0)] 2 = mkF m 0 #[.val (.long x0), .second] [] := by first | (simp [entryFrame, mkF, argsToLocals, Value.category]; done) | rfl
def Qlsg (Z : State) (cc : Int64) (h0 : Heap) (n0 : Nat) (v : Option Value) (h : Heap) (L : List Loc) : Prop := v = some (.int (own_lsg cc)) ∧ Fr n0 L ∧ h = h0
theorem pn_java_lang_Long : plainName "java/lang/Long" = true := by first | (simp [plainName, overriddenIn]; done) | decide +kernel
set_option maxRecDepth 65536 in
set_option maxHeartbeats 40000000 in
theorem rmlsg (l : Launch) (Z : State) (a0 : Array Value) (hw : own_H a0 Z) (ws : List Jvm.Cond) (cc : Int64) (h0 : Heap) (n0 : Nat) (O0 : Old Z n0 h0) :
    own_M l (⟨"java/lang/Long", "signum", "(J)I"⟩ : MethodName) jdk_35_method_57_code 2 (some .int) ws (own_R 0 0 0 0) Z #[(.long cc)] h0 (Qlsg Z cc h0 n0) := by
  refine own_body (plainFor_of_name pn_java_lang_Long) (fun m => ef_lsg m cc) ?_
  intro p e s m below meth c s₁ Bd hx hby hml hown hnm X0 e0 hZ
  have N0 := Fr.nil n0
  refine own_g s₁ (mkF m 10 #[.val (.long cc), .second] [(.long ((cc >>> ((63 : Int32) &&& 0x3f).toInt64) ||| (((-cc).toUInt64 >>> ((63 : Int32) &&& 0x3f).toInt64.toUInt64).toInt64)))]) (fun _ kq => XS.lloadN X0.here hx rfl (hb hby d29_0) rfl (XS.bipush X0.here hx rfl (hb hby d29_1) (XS.lshr X0.here hx rfl (hb hby d29_3) rfl (XS.lloadN X0.here hx rfl (hb hby d29_4) rfl (XS.lneg X0.here hx rfl (hb hby d29_5) rfl (XS.bipush X0.here hx rfl (hb hby d29_6) (XS.lushr X0.here hx rfl (hb hby d29_8) rfl (XS.lor X0.here hx rfl (hb hby d29_9) rfl kq)))))))) ?_
  refine own_g s₁ (mkF m 11 #[.val (.long cc), .second] [(.int (((cc >>> ((63 : Int32) &&& 0x3f).toInt64) ||| (((-cc).toUInt64 >>> ((63 : Int32) &&& 0x3f).toInt64.toUInt64).toInt64)).toInt32))]) (fun _ kq => XS.l2i X0.here hx rfl (hb hby d29_10) rfl kq) ?_
  refine own_out X0 Bd.notSynchronized (v := (some (.int (((cc >>> ((63 : Int32) &&& 0x3f).toInt64) ||| (((-cc).toUInt64 >>> ((63 : Int32) &&& 0x3f).toInt64.toUInt64).toInt64)).toInt32)))) (fun h => by rw [Bd.returns] at h; cases h) (fun fs hr => own_retI X0 hx Bd.returns (hb hby d29_11) hr) ?_ (by decide) (by decide)
  rw [e0]
  exact ⟨rfl, N0, rfl⟩
theorem d28_0 : decode jdk_17_method_58_code 0 = .ok (.aload_n 0, 1) := by decide +kernel
def own_W179 {a0 Z} (hw : own_H a0 Z) := hw _ (List.mem_of_getElem? (i := 179) rfl)
theorem d28_1 : decode jdk_17_method_58_code 1 = .ok (.getfield 24, 3) := by decide +kernel
theorem d28_4 : decode jdk_17_method_58_code 4 = .ok (.ldc2_w 125, 3) := by decide +kernel
def own_W181 {a0 Z} (hw : own_H a0 Z) := hw _ (List.mem_of_getElem? (i := 181) rfl)
theorem d28_7 : decode jdk_17_method_58_code 7 = .ok (.lcmp, 1) := by decide +kernel
theorem d28_8 : decode jdk_17_method_58_code 8 = .ok (.ifCond .eq 13, 3) := by decide +kernel
theorem d28_11 : decode jdk_17_method_58_code 11 = .ok (.aload_n 0, 1) := by decide +kernel
theorem d28_12 : decode jdk_17_method_58_code 12 = .ok (.getfield 24, 3) := by decide +kernel
theorem d28_15 : decode jdk_17_method_58_code 15 = .ok (.invokestatic 596, 3) := by decide +kernel
def own_W185 {a0 Z} (hw : own_H a0 Z) := hw _ (List.mem_of_getElem? (i := 185) rfl)
def own_W182 {a0 Z} (hw : own_H a0 Z) := hw _ (List.mem_of_getElem? (i := 182) rfl)
def own_W184 {a0 Z} (hw : own_H a0 Z) := hw _ (List.mem_of_getElem? (i := 184) rfl)
theorem pd_J_I_228 : parseMethodDescriptor "(J)I" = some ⟨[.long], some .int⟩ := by decide +kernel
def own_W183 {a0 Z} (hw : own_H a0 Z) := hw _ (List.mem_of_getElem? (i := 183) rfl)
theorem d28_18 : decode jdk_17_method_58_code 18 = .ok (.goto 10, 3) := by decide +kernel
theorem d28_28 : decode jdk_17_method_58_code 28 = .ok (.ireturn, 1) := by decide +kernel
theorem ef_sgn (m : MethodId) (x0 : Addr) : entryFrame m #[(.ref x0)] 1 = mkF m 0 #[.val (.ref x0)] [] := by first | (simp [entryFrame, mkF, argsToLocals, Value.category]; done) | rfl
def Qsgn (Z : State) (el : Addr) (cc : Int64) (h0 : Heap) (n0 : Nat) (v : Option Value) (h : Heap) (L : List Loc) : Prop := ∃ sg : Int32, v = some (.int sg) ∧ Fr n0 L ∧ h = h0 ∧ ¬ (sg < (0 : Int32))
theorem pn_java_math_BigDecimal : plainName "java/math/BigDecimal" = true := by first | (simp [plainName, overriddenIn]; done) | decide +kernel
set_option maxRecDepth 65536 in
set_option maxHeartbeats 40000000 in
theorem rmsgn (l : Launch) (Z : State) (a0 : Array Value) (hw : own_H a0 Z) (ws : List Jvm.Cond) (el : Addr) (cc : Int64) (h0 : Heap) (n0 : Nat) (O0 : Old Z n0 h0) (Fi : Fld Z Z.heap el "java/math/BigDecimal" "intCompact" "J" (.long cc)) (hcc : cc = 0 ∨ cc = 1) :
    own_M l (⟨"java/math/BigDecimal", "signum", "()I"⟩ : MethodName) jdk_17_method_58_code 1 (some .int) ws (own_R 1 0 0 13) Z #[(.ref el)] h0 (Qsgn Z el cc h0 n0) := by
  refine own_body (plainFor_of_name pn_java_math_BigDecimal) (fun m => ef_sgn m el) ?_
  intro p e s m below meth c s₁ Bd hx hby hml hown hnm X0 e0 hZ
  have N0 := Fr.nil n0
  refine own_g s₁ (mkF m 1 #[rv el] [(.ref el)]) (fun _ kq => XS.aloadN X0.here hx rfl (hb hby d28_0) rfl rfl kq) ?_
  obtain ⟨T1, X1, e1, st1⟩ := getF X0 hx hZ hown (host := "") (Or.inl (own_W179 hw)) Via.refl e0 (Fi.ext O0.2) (g := (mkF m 1 #[rv el] [(.ref el)])) rfl rfl (hb hby d28_1)
  refine own_g T1 (mkF m 4 #[rv el] [(.long cc)]) st1 ?_
  refine own_g T1 (mkF m 7 #[rv el] [(.long (-9223372036854775808 : Int64)), (.long cc)]) (X1.ldc2Long hx hown (mvT hZ (own_W181 hw)) (g := (mkF m 4 #[rv el] [(.long cc)])) rfl (hb hby d28_4)) ?_
  refine own_g T1 (mkF m 12 #[rv el] [(.ref el)]) (fun _ kq => XS.lcmp X1.here hx rfl (hb hby d28_7) rfl (XS.ifNo X1.here hx rfl (hb hby d28_8) rfl ((if0 _ _).trans (feq (by rcases hcc with rfl | rfl <;> decide : ¬ ((lcmpW cc (-9223372036854775808 : Int64)) = (0 : Int32)))).1) (XS.aloadN X1.here hx rfl (hb hby d28_11) rfl rfl kq))) ?_
  obtain ⟨T2, X2, e2, st2⟩ := getF X1 hx hZ hown (host := "") (Or.inl (own_W179 hw)) Via.refl e1 (Fi.ext O0.2) (g := (mkF m 12 #[rv el] [(.ref el)])) rfl rfl (hb hby d28_12)
  refine own_g T2 (mkF m 15 #[rv el] [(.long cc)]) st2 ?_
  obtain ⟨_, T3, L3, X3, ⟨rfl, Nq3, hh3⟩, st3⟩ := own_cS X2 hx hZ hown (own_W182 hw) (own_W183 hw) (own_W184 hw) (own_W185 hw) (rmlsg l Z a0 hw [] cc h0 n0 O0) e2 (lenOf pd_J_I_228 rfl) (g := (mkF m 15 #[rv el] [(.long cc)])) (argsL := [(.long cc)]) (rest := []) (W := 0) rfl rfl (hb hby d28_15) (by rw [hml]; rfl) (by show 2 * 0 + _ ≤ _; exact Nat.le_of_eq rfl) rfl (by decide) (by decide) (by decide) (by decide) (by decide)
  have N4 := Fr.app N0 Nq3
  refine own_t T3 (mkF m 18 #[rv el] [(.int (own_lsg cc))]) st3 ?_
  refine own_g T3 (mkF m 28 #[rv el] [(.int (own_lsg cc))]) (fun _ kq => XS.goto X3.here hx rfl (pc0 := 18) (pc' := 28) rfl (hb hby d28_18) (by decide) (by decide) kq) ?_
  refine own_out X3 Bd.notSynchronized (v := (some (.int (own_lsg cc)))) (fun h => by rw [Bd.returns] at h; cases h) (fun fs hr => own_retI X3 hx Bd.returns (hb hby d28_28) hr) ?_ (by decide) (by decide)
  rw [hh3]
  exact ⟨_, rfl, N4, rfl, by rcases hcc with rfl | rfl <;> decide⟩
theorem d30_0 : decode jdk_17_method_70_code 0 = .ok (.aload_n 0, 1) := by decide +kernel
def own_W192 {a0 Z} (hw : own_H a0 Z) := hw _ (List.mem_of_getElem? (i := 192) rfl)
theorem d30_1 : decode jdk_17_method_70_code 1 = .ok (.getfield 17, 3) := by decide +kernel
theorem d30_4 : decode jdk_17_method_70_code 4 = .ok (.aload_n 1, 1) := by decide +kernel
theorem d30_5 : decode jdk_17_method_70_code 5 = .ok (.getfield 17, 3) := by decide +kernel
theorem d30_8 : decode jdk_17_method_70_code 8 = .ok (.if_icmp .ne 55, 3) := by decide +kernel
theorem d30_11 : decode jdk_17_method_70_code 11 = .ok (.aload_n 0, 1) := by decide +kernel
theorem d30_12 : decode jdk_17_method_70_code 12 = .ok (.getfield 24, 3) := by decide +kernel
theorem d30_15 : decode jdk_17_method_70_code 15 = .ok (.lstore_n 2, 1) := by decide +kernel
theorem d30_16 : decode jdk_17_method_70_code 16 = .ok (.aload_n 1, 1) := by decide +kernel
theorem d30_17 : decode jdk_17_method_70_code 17 = .ok (.getfield 24, 3) := by decide +kernel
theorem d30_20 : decode jdk_17_method_70_code 20 = .ok (.lstore 4, 2) := by decide +kernel
theorem d30_22 : decode jdk_17_method_70_code 22 = .ok (.lload_n 2, 1) := by decide +kernel
theorem d30_23 : decode jdk_17_method_70_code 23 = .ok (.ldc2_w 125, 3) := by decide +kernel
theorem d30_26 : decode jdk_17_method_70_code 26 = .ok (.lcmp, 1) := by decide +kernel
theorem d30_27 : decode jdk_17_method_70_code 27 = .ok (.ifCond .eq 36, 3) := by decide +kernel
theorem d30_30 : decode jdk_17_method_70_code 30 = .ok (.lload 4, 2) := by decide +kernel
theorem d30_32 : decode jdk_17_method_70_code 32 = .ok (.ldc2_w 125, 3) := by decide +kernel
theorem d30_35 : decode jdk_17_method_70_code 35 = .ok (.lcmp, 1) := by decide +kernel
theorem d30_36 : decode jdk_17_method_70_code 36 = .ok (.ifCond .eq 27, 3) := by decide +kernel
theorem d30_39 : decode jdk_17_method_70_code 39 = .ok (.lload_n 2, 1) := by decide +kernel
theorem d30_40 : decode jdk_17_method_70_code 40 = .ok (.lload 4, 2) := by decide +kernel
theorem d30_42 : decode jdk_17_method_70_code 42 = .ok (.lcmp, 1) := by decide +kernel
theorem d30_43 : decode jdk_17_method_70_code 43 = .ok (.ifCond .eq 18, 3) := by decide +kernel
theorem d30_61 : decode jdk_17_method_70_code 61 = .ok (.iconst 0, 1) := by decide +kernel
theorem d30_62 : decode jdk_17_method_70_code 62 = .ok (.ireturn, 1) := by decide +kernel
theorem d30_46 : decode jdk_17_method_70_code 46 = .ok (.lload_n 2, 1) := by decide +kernel
theorem d30_47 : decode jdk_17_method_70_code 47 = .ok (.lload 4, 2) := by decide +kernel
theorem d30_49 : decode jdk_17_method_70_code 49 = .ok (.lcmp, 1) := by decide +kernel
theorem d30_50 : decode jdk_17_method_70_code 50 = .ok (.ifCond .le 7, 3) := by decide +kernel
theorem d30_57 : decode jdk_17_method_70_code 57 = .ok (.iconst (-1), 1) := by decide +kernel
theorem d30_58 : decode jdk_17_method_70_code 58 = .ok (.goto 4, 3) := by decide +kernel
theorem ef_cmpt (m : MethodId) (x0 : Addr) (x1 : Addr) : entryFrame m #[(.ref x0), (.ref x1)] 6 = mkF m 0 #[.val (.ref x0), .val (.ref x1), .unset, .unset, .unset, .unset] [] := by first | (simp [entryFrame, mkF, argsToLocals, Value.category]; done) | rfl
def Qcmpt (Z : State) (el w1 : Addr) (cc : Int64) (h0 : Heap) (n0 : Nat) (v : Option Value) (h : Heap) (L : List Loc) : Prop := ∃ cr : Int32, v = some (.int cr) ∧ Fr n0 L ∧ h = h0 ∧ ¬ ((0 : Int32) < cr)
set_option maxRecDepth 65536 in
set_option maxHeartbeats 40000000 in
theorem rmcmpt (l : Launch) (Z : State) (a0 : Array Value) (hw : own_H a0 Z) (ws : List Jvm.Cond) (el w1 : Addr) (cc : Int64) (h0 : Heap) (n0 : Nat) (O0 : Old Z n0 h0) (Fi : Fld Z Z.heap el "java/math/BigDecimal" "intCompact" "J" (.long cc)) (hcc : cc = 0 ∨ cc = 1) (Fz : Fld Z Z.heap el "java/math/BigDecimal" "scale" "I" (.int (0 : Int32))) (Fi1 : Fld Z Z.heap w1 "java/math/BigDecimal" "intCompact" "J" (.long (1 : Int64))) (Fz1 : Fld Z Z.heap w1 "java/math/BigDecimal" "scale" "I" (.int (0 : Int32))) :
    own_M l (⟨"java/math/BigDecimal", "compareTo", "(Ljava/math/BigDecimal;)I"⟩ : MethodName) jdk_17_method_70_code 6 (some .int) ws (own_R 0 0 0 0) Z #[(.ref el), (.ref w1)] h0 (Qcmpt Z el w1 cc h0 n0) := by
  refine own_body (plainFor_of_name pn_java_math_BigDecimal) (fun m => ef_cmpt m el w1) ?_
  intro p e s m below meth c s₁ Bd hx hby hml hown hnm X0 e0 hZ
  have N0 := Fr.nil n0
  refine own_g s₁ (mkF m 1 #[rv el, rv w1, .unset, .unset, .unset, .unset] [(.ref el)]) (fun _ kq => XS.aloadN X0.here hx rfl (hb hby d30_0) rfl rfl kq) ?_
  obtain ⟨T1, X1, e1, st1⟩ := getF X0 hx hZ hown (host := "") (Or.inl (own_W192 hw)) Via.refl e0 (Fz.ext O0.2) (g := (mkF m 1 #[rv el, rv w1, .unset, .unset, .unset, .unset] [(.ref el)])) rfl rfl (hb hby d30_1)
  refine own_g T1 (mkF m 4 #[rv el, rv w1, .unset, .unset, .unset, .unset] [(.int (0 : Int32))]) st1 ?_
  refine own_g T1 (mkF m 5 #[rv el, rv w1, .unset, .unset, .unset, .unset] [(.ref w1), (.int (0 : Int32))]) (fun _ kq => XS.aloadN X1.here hx rfl (hb hby d30_4) rfl rfl kq) ?_
  obtain ⟨T2, X2, e2, st2⟩ := getF X1 hx hZ hown (host := "") (Or.inl (own_W192 hw)) Via.refl e1 (Fz1.ext O0.2) (g := (mkF m 5 #[rv el, rv w1, .unset, .unset, .unset, .unset] [(.ref w1), (.int (0 : Int32))])) rfl rfl (hb hby d30_5)
  refine own_g T2 (mkF m 8 #[rv el, rv w1, .unset, .unset, .unset, .unset] [(.int (0 : Int32)), (.int (0 : Int32))]) st2 ?_
  refine own_g T2 (mkF m 12 #[rv el, rv w1, .unset, .unset, .unset, .unset] [(.ref el)]) (fun _ kq => XS.icmpNo X2.here hx rfl (hb hby d30_8) rfl (teq ((by decide) : (0 : Int32) = (0 : Int32))).2 (XS.aloadN X2.here hx rfl (hb hby d30_11) rfl rfl kq)) ?_
  obtain ⟨T3, X3, e3, st3⟩ := getF X2 hx hZ hown (host := "") (Or.inl (own_W179 hw)) Via.refl e2 (Fi.ext O0.2) (g := (mkF m 12 #[rv el, rv w1, .unset, .unset, .unset, .unset] [(.ref el)])) rfl rfl (hb hby d30_12)
  refine own_g T3 (mkF m 15 #[rv el, rv w1, .unset, .unset, .unset, .unset] [(.long cc)]) st3 ?_
  refine own_g T3 (mkF m 17 #[rv el, rv w1, .val (.long cc), .second, .unset, .unset] [(.ref w1)]) (fun _ kq => XS.lstoreN X3.here hx rfl (hb hby d30_15) rfl (l' := #[rv el, rv w1, .val (.long cc), .second, .unset, .unset]) rfl (XS.aloadN X3.here hx rfl (hb hby d30_16) rfl rfl kq)) ?_
  obtain ⟨T4, X4, e4, st4⟩ := getF X3 hx hZ hown (host := "") (Or.inl (own_W179 hw)) Via.refl e3 (Fi1.ext O0.2) (g := (mkF m 17 #[rv el, rv w1, .val (.long cc), .second, .unset, .unset] [(.ref w1)])) rfl rfl (hb hby d30_17)
  refine own_g T4 (mkF m 20 #[rv el, rv w1, .val (.long cc), .second, .unset, .unset] [(.long (1 : Int64))]) st4 ?_
  refine own_g T4 (mkF m 23 #[rv el, rv w1, .val (.long cc), .second, .val (.long (1 : Int64)), .second] [(.long cc)]) (fun _ kq => XS.lstore X4.here hx rfl (hb hby d30_20) rfl (l' := #[rv el, rv w1, .val (.long cc), .second, .val (.long (1 : Int64)), .second]) rfl (XS.lloadN X4.here hx rfl (hb hby d30_22) rfl kq)) ?_
  refine own_g T4 (mkF m 26 #[rv el, rv w1, .val (.long cc), .second, .val (.long (1 : Int64)), .second] [(.long (-9223372036854775808 : Int64)), (.long cc)]) (X4.ldc2Long hx hown (mvT hZ (own_W181 hw)) (g := (mkF m 23 #[rv el, rv w1, .val (.long cc), .second, .val (.long (1 : Int64)), .second] [(.long cc)])) rfl (hb hby d30_23)) ?_
  refine own_g T4 (mkF m 32 #[rv el, rv w1, .val (.long cc), .second, .val (.long (1 : Int64)), .second] [(.long (1 : Int64))]) (fun _ kq => XS.lcmp X4.here hx rfl (hb hby d30_26) rfl (XS.ifNo X4.here hx rfl (hb hby d30_27) rfl ((if0 _ _).trans (feq (by rcases hcc with rfl | rfl <;> decide : ¬ ((lcmpW cc (-9223372036854775808 : Int64)) = (0 : Int32)))).1) (XS.lload X4.here hx rfl (hb hby d30_30) rfl kq))) ?_
  refine own_g T4 (mkF m 35 #[rv el, rv w1, .val (.long cc), .second, .val (.long (1 : Int64)), .second] [(.long (-9223372036854775808 : Int64)), (.long (1 : Int64))]) (X4.ldc2Long hx hown (mvT hZ (own_W181 hw)) (g := (mkF m 32 #[rv el, rv w1, .val (.long cc), .second, .val (.long (1 : Int64)), .second] [(.long (1 : Int64))])) rfl (hb hby d30_32)) ?_
  refine own_g T4 (mkF m 43 #[rv el, rv w1, .val (.long cc), .second, .val (.long (1 : Int64)), .second] [(.int (lcmpW cc (1 : Int64)))]) (fun _ kq => XS.lcmp X4.here hx rfl (hb hby d30_35) rfl (XS.ifNo X4.here hx rfl (hb hby d30_36) rfl ((if0 _ _).trans (feq (by decide : ¬ ((lcmpW (1 : Int64) (-9223372036854775808 : Int64)) = (0 : Int32)))).1) (XS.lloadN X4.here hx rfl (hb hby d30_39) rfl (XS.lload X4.here hx rfl (hb hby d30_40) rfl (XS.lcmp X4.here hx rfl (hb hby d30_42) rfl kq))))) ?_
  by_cases hq : (lcmpW cc (1 : Int64)) = (0 : Int32)
  · refine own_g T4 (mkF m 62 #[rv el, rv w1, .val (.long cc), .second, .val (.long (1 : Int64)), .second] [(.int (0 : Int32))]) (fun _ kq => XS.ifYes X4.here hx rfl (pc0 := 43) (pc' := 61) rfl (hb hby d30_43) rfl ((if0 _ _).trans (teq (hq : (lcmpW cc (1 : Int64)) = (0 : Int32))).1) (by decide) (by decide) (XS.iconst X4.here hx rfl (hb hby d30_61) kq)) ?_
    refine own_out X4 Bd.notSynchronized (v := (some (.int (0 : Int32)))) (fun h => by rw [Bd.returns] at h; cases h) (fun fs hr => own_retI X4 hx Bd.returns (hb hby d30_62) hr) ?_ (by decide) (by decide)
    rw [e4]
    exact ⟨_, rfl, N0, rfl, by decide⟩
  · refine own_g T4 (mkF m 62 #[rv el, rv w1, .val (.long cc), .second, .val (.long (1 : Int64)), .second] [(.int (-1 : Int32))]) (fun _ kq => XS.ifNo X4.here hx rfl (hb hby d30_43) rfl ((if0 _ _).trans (feq (hq : ¬ ((lcmpW cc (1 : Int64)) = (0 : Int32)))).1) (XS.lloadN X4.here hx rfl (hb hby d30_46) rfl (XS.lload X4.here hx rfl (hb hby d30_47) rfl (XS.lcmp X4.here hx rfl (hb hby d30_49) rfl (XS.ifYes X4.here hx rfl (pc0 := 50) (pc' := 57) rfl (hb hby d30_50) rfl ((if0 _ _).trans (flt (by rcases hcc with rfl | rfl <;> decide : ¬ ((0 : Int32) < (lcmpW cc (1 : Int64))))).2.2.2) (by decide) (by decide) (XS.iconst X4.here hx rfl (hb hby d30_57) (XS.goto X4.here hx rfl (pc0 := 58) (pc' := 62) rfl (hb hby d30_58) (by decide) (by decide) kq))))))) ?_
    refine own_out X4 Bd.notSynchronized (v := (some (.int (-1 : Int32)))) (fun h => by rw [Bd.returns] at h; cases h) (fun fs hr => own_retI X4 hx Bd.returns (hb hby d30_62) hr) ?_ (by decide) (by decide)
    rw [e4]
    exact ⟨_, rfl, N0, rfl, by decide⟩
theorem d39_0 : decode jdk_31_method_10_code 0 = .ok (.aload_n 0, 1) := by decide +kernel
theorem d39_1 : decode jdk_31_method_10_code 1 = .ok (.ifnonnull 11, 3) := by decide +kernel
theorem d39_12 : decode jdk_31_method_10_code 12 = .ok (.aload_n 0, 1) := by decide +kernel
theorem d39_13 : decode jdk_31_method_10_code 13 = .ok (.areturn, 1) := by decide +kernel
theorem ef_rnn (m : MethodId) (x0 : Addr) : entryFrame m #[(.ref x0)] 1 = mkF m 0 #[.val (.ref x0)] [] := by first | (simp [entryFrame, mkF, argsToLocals, Value.category]; done) | rfl
def Qrnn (Z : State) (a1 : Addr) (h0 : Heap) (n0 : Nat) (v : Option Value) (h : Heap) (L : List Loc) : Prop := v = some (.ref a1) ∧ Fr n0 L ∧ h = h0
set_option maxRecDepth 65536 in
set_option maxHeartbeats 40000000 in
theorem rmrnn (l : Launch) (Z : State) (a0 : Array Value) (hw : own_H a0 Z) (ws : List Jvm.Cond) (a1 : Addr) (h0 : Heap) (n0 : Nat) (O0 : Old Z n0 h0) :
    own_M l (⟨"java/util/Objects", "requireNonNull", "(Ljava/lang/Object;)Ljava/lang/Object;"⟩ : MethodName) jdk_31_method_10_code 1 (some (.object "java/lang/Object")) ws (own_R 0 0 0 0) Z #[(.ref a1)] h0 (Qrnn Z a1 h0 n0) := by
  refine own_body (plainFor_of_name pn_java_util_Objects) (fun m => ef_rnn m a1) ?_
  intro p e s m below meth c s₁ Bd hx hby hml hown hnm X0 e0 hZ
  have N0 := Fr.nil n0
  refine own_g s₁ (mkF m 13 #[rv a1] [(.ref a1)]) (fun _ kq => XS.aloadN X0.here hx rfl (hb hby d39_0) rfl rfl (XS.ifnonnullYes X0.here hx rfl (pc0 := 1) (pc' := 12) rfl (hb hby d39_1) rfl (by decide) (by decide) (XS.aloadN X0.here hx rfl (hb hby d39_12) rfl rfl kq))) ?_
  refine own_out X0 Bd.notSynchronized (v := (some (.ref a1))) (fun h => by rw [Bd.returns] at h; cases h) (fun fs hr => own_retA X0 hx Bd.returns rfl rfl rfl (hb hby d39_13) hr) ?_ (by decide) (by decide)
  rw [e0]
  exact ⟨rfl, N0, rfl⟩
theorem d35_0 : decode jdk_65_method_120_code 0 = .ok (.aload_n 2, 1) := by decide +kernel
theorem d35_1 : decode jdk_65_method_120_code 1 = .ok (.ldc 110, 2) := by decide +kernel
def own_W234 {a0 Z} (hw : own_H a0 Z) := hw _ (List.mem_of_getElem? (i := 234) rfl)
theorem d35_3 : decode jdk_65_method_120_code 3 = .ok (.if_acmp .ne 10, 3) := by decide +kernel
theorem d35_6 : decode jdk_65_method_120_code 6 = .ok (.iload_n 1, 1) := by decide +kernel
theorem d35_7 : decode jdk_65_method_120_code 7 = .ok (.anewarray 2, 3) := by decide +kernel
def own_W235 {a0 Z} (hw : own_H a0 Z) := hw _ (List.mem_of_getElem? (i := 235) rfl)
theorem d35_10 : decode jdk_65_method_120_code 10 = .ok (.goto 14, 3) := by decide +kernel
theorem d35_24 : decode jdk_65_method_120_code 24 = .ok (.astore_n 3, 1) := by decide +kernel
theorem d35_25 : decode jdk_65_method_120_code 25 = .ok (.aload_n 0, 1) := by decide +kernel
theorem d35_26 : decode jdk_65_method_120_code 26 = .ok (.iconst 0, 1) := by decide +kernel
theorem d35_27 : decode jdk_65_method_120_code 27 = .ok (.aload_n 3, 1) := by decide +kernel
theorem d35_28 : decode jdk_65_method_120_code 28 = .ok (.iconst 0, 1) := by decide +kernel
theorem d35_29 : decode jdk_65_method_120_code 29 = .ok (.aload_n 0, 1) := by decide +kernel
theorem d35_30 : decode jdk_65_method_120_code 30 = .ok (.arraylength, 1) := by decide +kernel
theorem d35_31 : decode jdk_65_method_120_code 31 = .ok (.iload_n 1, 1) := by decide +kernel
theorem d35_32 : decode jdk_65_method_120_code 32 = .ok (.invokestatic 304, 3) := by decide +kernel
def own_W238 {a0 Z} (hw : own_H a0 Z) := hw _ (List.mem_of_getElem? (i := 238) rfl)
def own_W236 {a0 Z} (hw : own_H a0 Z) := hw _ (List.mem_of_getElem? (i := 236) rfl)
def own_W237 {a0 Z} (hw : own_H a0 Z) := hw _ (List.mem_of_getElem? (i := 237) rfl)
theorem d35_35 : decode jdk_65_method_120_code 35 = .ok (.invokestatic 150, 3) := by decide +kernel
def own_W239 {a0 Z} (hw : own_H a0 Z) := hw _ (List.mem_of_getElem? (i := 239) rfl)
def own_W242 {a0 Z} (hw : own_H a0 Z) := hw _ (List.mem_of_getElem? (i := 242) rfl)
def own_W240 {a0 Z} (hw : own_H a0 Z) := hw _ (List.mem_of_getElem? (i := 240) rfl)
def own_W241 {a0 Z} (hw : own_H a0 Z) := hw _ (List.mem_of_getElem? (i := 241) rfl)
theorem d35_38 : decode jdk_65_method_120_code 38 = .ok (.aload_n 3, 1) := by decide +kernel
theorem d35_39 : decode jdk_65_method_120_code 39 = .ok (.areturn, 1) := by decide +kernel
theorem ef_cof31 (m : MethodId) (x0 : Addr) (x1 : Int32) (x2 : Addr) : entryFrame m #[(.ref x0), (.int x1), (.ref x2)] 4 = mkF m 0 #[.val (.ref x0), .val (.int x1), .val (.ref x2), .unset] [] := by first | (simp [entryFrame, mkF, argsToLocals, Value.category]; done) | rfl
def Qcof31 (Z : State) (ed mr : Addr) (kd : ClassId) (el0 : Addr) (h0 : Heap) (n0 : Nat) (v : Option Value) (h : Heap) (L : List Loc) : Prop := ∃ (r : Addr) (k : ClassId), v = some (.ref r) ∧ Fr n0 L ∧ Keep h0 h [] ∧ n0 ≤ r ∧ h0.size ≤ r ∧ Arv Z h r k (.object "java/lang/Object") (1 : Int32) [(.ref el0)] .null ∧ Exa Z h r "[Ljava/lang/Object;" ∧ Ovr Z k "java/lang/Object"
theorem pn_java_util_Arrays : plainName "java/util/Arrays" = true := by first | (simp [plainName, overriddenIn]; done) | decide +kernel
set_option maxRecDepth 65536 in
set_option maxHeartbeats 40000000 in
theorem rmcof31 (l : Launch) (Z : State) (a0 : Array Value) (hw : own_H a0 Z) (ws : List Jvm.Cond) (ed mr : Addr) (kd : ClassId) (el0 : Addr) (h0 : Heap) (n0 : Nat) (O0 : Old Z n0 h0) (Ad : Arv Z h0 ed kd (.object "java/lang/Object") (10 : Int32) [(.ref el0), .null, .null, .null, .null, .null, .null, .null, .null, .null] .null) (Ed : Exa Z h0 ed "[Ljava/lang/Object;") (Mr : own_Mir Z "[Ljava/lang/Object;" mr) (B0 : Exa Z Z.heap el0 "java/math/BigDecimal") :
    own_M l (⟨"java/util/Arrays", "copyOf", "([Ljava/lang/Object;ILjava/lang/Class;)[Ljava/lang/Object;"⟩ : MethodName) jdk_65_method_120_code 4 (some (.array (.object "java/lang/Object"))) ws (own_R 1 1 1 51) Z #[(.ref ed), (.int (1 : Int32)), (.ref mr)] h0 (Qcof31 Z ed mr kd el0 h0 n0) := by
  refine own_body (plainFor_of_name pn_java_util_Arrays) (fun m => ef_cof31 m ed (1 : Int32) mr) ?_
  intro p e s m below meth c s₁ Bd hx hby hml hown hnm X0 e0 hZ
  have N0 := Fr.nil n0
  refine own_g s₁ (mkF m 1 #[rv ed, iv (1 : Int32), rv mr, .unset] [(.ref mr)]) (fun _ kq => XS.aloadN X0.here hx rfl (hb hby d35_0) rfl rfl kq) ?_
  obtain ⟨T1, X1, e1, st1⟩ := own_ldcM X0 hx hZ hown (own_W234 hw) e0 Mr (g := (mkF m 1 #[rv ed, iv (1 : Int32), rv mr, .unset] [(.ref mr)])) rfl (hb hby d35_1)
  refine own_g T1 (mkF m 3 #[rv ed, iv (1 : Int32), rv mr, .unset] [(.ref mr), (.ref mr)]) st1 ?_
  refine own_g T1 (mkF m 7 #[rv ed, iv (1 : Int32), rv mr, .unset] [(.int (1 : Int32))]) (fun _ kq => Jvm.RoadKit.acmp (g := (mkF m 3 #[rv ed, iv (1 : Int32), rv mr, .unset] [(.ref mr), (.ref mr)])) X1 hx rfl rfl rfl (pc0 := 3) (pc' := 6) (same := true) rfl (hb hby d35_3) rfl (decide_eq_true rfl) (by decide) (by decide) (XS.iloadN X1.here hx rfl (hb hby d35_6) rfl kq)) ?_
  obtain ⟨T2, h2, k2, X2, e2, E2, A2, Ax2, Ov2, st2⟩ := newRE X1 hx hZ hown (own_W235 hw) (own_W65 hw) e1 (g := (mkF m 7 #[rv ed, iv (1 : Int32), rv mr, .unset] [(.int (1 : Int32))])) rfl (hb hby d35_7) rfl (by decide) (cap := 1) (by decide) (by decide) (by decide) (by decide) (ad := "[Ljava/lang/Object;") rfl
  obtain ⟨b2, g2⟩ : ∃ z, z = h0.size := ⟨_, rfl⟩
  rw [← g2] at A2 Ax2 st2
  have ne_ed_b2 : ed ≠ b2 := Nat.ne_of_lt (Nat.lt_of_lt_of_le Ad.lt (Nat.le_of_eq g2.symm))
  have ne_el0_b2 : el0 ≠ b2 := Nat.ne_of_lt (Nat.lt_of_lt_of_le (B0.ext O0.2).lt (Nat.le_of_eq g2.symm))
  have g_b2 : n0 ≤ b2 := Nat.le_trans (own_old O0) (Nat.le_of_eq g2.symm)
  have sz_b2 : h0.size ≤ b2 := Nat.le_trans (Keep.refl h0 []).1 (Nat.le_of_eq g2.symm)
  have V2 : Arv Z h2 b2 k2 (.object "java/lang/Object") (1 : Int32) [.null] .null := (Arv.new A2 (by decide)).pad (pad_rep [] .null 1)
  refine own_g T2 (mkF m 10 #[rv ed, iv (1 : Int32), rv mr, .unset] [(.ref b2)]) st2 ?_
  refine own_g T2 (mkF m 30 #[rv ed, iv (1 : Int32), rv mr, rv b2] [(.ref ed), (.int (0 : Int32)), (.ref b2), (.int (0 : Int32)), (.ref ed)]) (fun _ kq => XS.goto X2.here hx rfl (pc0 := 10) (pc' := 24) rfl (hb hby d35_10) (by decide) (by decide) (XS.astoreN X2.here hx rfl (hb hby d35_24) rfl rfl (l' := #[rv ed, iv (1 : Int32), rv mr, rv b2]) rfl (XS.aloadN X2.here hx rfl (hb hby d35_25) rfl rfl (XS.iconst X2.here hx rfl (hb hby d35_26) (XS.aloadN X2.here hx rfl (hb hby d35_27) rfl rfl (XS.iconst X2.here hx rfl (hb hby d35_28) (XS.aloadN X2.here hx rfl (hb hby d35_29) rfl rfl kq))))))) ?_
  have f3 := (Ad.ext E2)
  refine own_g T2 (mkF m 31 #[rv ed, iv (1 : Int32), rv mr, rv b2] [(.int (10 : Int32)), (.int (0 : Int32)), (.ref b2), (.int (0 : Int32)), (.ref ed)]) (own_alen X2 hx hZ e2 f3 (g := (mkF m 30 #[rv ed, iv (1 : Int32), rv mr, rv b2] [(.ref ed), (.int (0 : Int32)), (.ref b2), (.int (0 : Int32)), (.ref ed)])) rfl rfl (hb hby d35_30)) ?_
  refine own_g T2 (mkF m 32 #[rv ed, iv (1 : Int32), rv mr, rv b2] [(.int (1 : Int32)), (.int (10 : Int32)), (.int (0 : Int32)), (.ref b2), (.int (0 : Int32)), (.ref ed)]) (fun _ kq => XS.iloadN X2.here hx rfl (hb hby d35_31) rfl kq) ?_
  have O4 := (O0.ext E2)
  obtain ⟨_, T5, L5, X5, ⟨rfl, Nq5, hh5⟩, st5⟩ := own_cS X2 hx hZ hown (own_W236 hw) (own_W237 hw) (own_W62 hw) (own_W238 hw) (rmmin l Z a0 hw [] (10 : Int32) (1 : Int32) h2 n0 O4) e2 (lenOf pd_II_I_300 rfl) (g := (mkF m 32 #[rv ed, iv (1 : Int32), rv mr, rv b2] [(.int (1 : Int32)), (.int (10 : Int32)), (.int (0 : Int32)), (.ref b2), (.int (0 : Int32)), (.ref ed)])) (argsL := [(.int (10 : Int32)), (.int (1 : Int32))]) (rest := [(.int (0 : Int32)), (.ref b2), (.int (0 : Int32)), (.ref ed)]) (W := 4) rfl rfl (hb hby d35_32) (by rw [hml]; rfl) (by show 2 * 0 + _ ≤ _; exact Nat.le_of_eq rfl) rfl (by decide) (by decide) (by decide) (by decide) (by decide)
  have N6 := Fr.app N0 Nq5
  refine own_t T5 (mkF m 35 #[rv ed, iv (1 : Int32), rv mr, rv b2] [(.int (own_min (10 : Int32) (1 : Int32))), (.int (0 : Int32)), (.ref b2), (.int (0 : Int32)), (.ref ed)]) st5 ?_
  rw [show own_min (10 : Int32) (1 : Int32) = (1 : Int32) from by decide]
  obtain ⟨cl7, Ar7, q7, S7, Nn7, H7, G7⟩ := id V2
  obtain ⟨T8, h8, L8, X8, e8, N8, Kc8, V8, st8⟩ := cpA (us := [(.ref el0)]) X5 hx hZ hown (own_W239 hw) (own_W242 hw) (own_W240 hw) (own_W241 hw) hh5 f3 V2 (Or.inr ⟨rfl, rfl, ⟨Sto.ofV Ar7 q7 Ov2 (Ins.of_exa (B0.ext O4.2) (own_W66 hw)), trivial⟩⟩) (by decide) (by decide) (by decide) (by decide) (by decide) rfl (by decide) N6 g_b2 (g := (mkF m 35 #[rv ed, iv (1 : Int32), rv mr, rv b2] [(.int (1 : Int32)), (.int (0 : Int32)), (.ref b2), (.int (0 : Int32)), (.ref ed)])) rfl (by rw [hml]; rfl) rfl (hb hby d35_35) (by decide) (W := 0) (by show 2 * 0 + _ ≤ _; exact Nat.le_of_eq rfl) (by decide)
  have Vc8 : Arv Z h8 b2 k2 (.object "java/lang/Object") (1 : Int32) [(.ref el0)] .null := V8
  refine own_g T8 (mkF m 38 #[rv ed, iv (1 : Int32), rv mr, rv b2] []) st8 ?_
  refine own_g T8 (mkF m 39 #[rv ed, iv (1 : Int32), rv mr, rv b2] [(.ref b2)]) (fun _ kq => XS.aloadN X8.here hx rfl (hb hby d35_38) rfl rfl kq) ?_
  have K9 : Keep h0 _ [] := (((Keep.refl h0 []).ext E2).trans Kc8 (allS (Or.inr sz_b2) all0))
  have f10 := (Ax2.keep Kc8)
  refine own_out X8 Bd.notSynchronized (v := (some (.ref b2))) (fun h => by rw [Bd.returns] at h; cases h) (fun fs hr => own_retA X8 hx Bd.returns rfl rfl rfl (hb hby d35_39) hr) ?_ (by decide) (by decide)
  rw [e8]
  exact ⟨_, _, rfl, N8, K9, g_b2, sz_b2, Vc8, f10, Ov2⟩
theorem d34_0 : decode jdk_65_method_119_code 0 = .ok (.aload_n 0, 1) := by decide +kernel
theorem d34_1 : decode jdk_65_method_119_code 1 = .ok (.iload_n 1, 1) := by decide +kernel
theorem d34_2 : decode jdk_65_method_119_code 2 = .ok (.aload_n 0, 1) := by decide +kernel
theorem d34_3 : decode jdk_65_method_119_code 3 = .ok (.invokevirtual 86, 3) := by decide +kernel
def own_W225 {a0 Z} (hw : own_H a0 Z) := hw _ (List.mem_of_getElem? (i := 225) rfl)
def own_W226 {a0 Z} (hw : own_H a0 Z) := hw _ (List.mem_of_getElem? (i := 226) rfl)
def own_W228 {a0 Z} (hw : own_H a0 Z) := hw _ (List.mem_of_getElem? (i := 228) rfl)
def own_W227 {a0 Z} (hw : own_H a0 Z) := hw _ (List.mem_of_getElem? (i := 227) rfl)
def own_W229 {a0 Z} (hw : own_H a0 Z) := hw _ (List.mem_of_getElem? (i := 229) rfl)
theorem d34_6 : decode jdk_65_method_119_code 6 = .ok (.invokestatic 300, 3) := by decide +kernel
def own_W233 {a0 Z} (hw : own_H a0 Z) := hw _ (List.mem_of_getElem? (i := 233) rfl)
def own_W231 {a0 Z} (hw : own_H a0 Z) := hw _ (List.mem_of_getElem? (i := 231) rfl)
def own_W223 {a0 Z} (hw : own_H a0 Z) := hw _ (List.mem_of_getElem? (i := 223) rfl)
theorem pd_Ljava_lang_Object_ILjava_lang_Class___Ljava_lang_Object_246 : parseMethodDescriptor "([Ljava/lang/Object;ILjava/lang/Class;)[Ljava/lang/Object;" = some ⟨[(.array (.object "java/lang/Object")), .int, (.object "java/lang/Class")], some (.array (.object "java/lang/Object"))⟩ := by decide +kernel
def own_W232 {a0 Z} (hw : own_H a0 Z) := hw _ (List.mem_of_getElem? (i := 232) rfl)
theorem d34_9 : decode jdk_65_method_119_code 9 = .ok (.areturn, 1) := by decide +kernel
theorem ef_cof21 (m : MethodId) (x0 : Addr) (x1 : Int32) : entryFrame m #[(.ref x0), (.int x1)] 2 = mkF m 0 #[.val (.ref x0), .val (.int x1)] [] := by first | (simp [entryFrame, mkF, argsToLocals, Value.category]; done) | rfl
def Qcof21 (Z : State) (ed mr : Addr) (kd : ClassId) (el0 : Addr) (h0 : Heap) (n0 : Nat) (v : Option Value) (h : Heap) (L : List Loc) : Prop := ∃ (r : Addr) (k : ClassId), v = some (.ref r) ∧ Fr n0 L ∧ Keep h0 h [] ∧ n0 ≤ r ∧ h0.size ≤ r ∧ Arv Z h r k (.object "java/lang/Object") (1 : Int32) [(.ref el0)] .null ∧ Exa Z h r "[Ljava/lang/Object;" ∧ Ovr Z k "java/lang/Object"
set_option maxRecDepth 65536 in
set_option maxHeartbeats 40000000 in
theorem rmcof21 (l : Launch) (Z : State) (a0 : Array Value) (hw : own_H a0 Z) (ws : List Jvm.Cond) (ed mr : Addr) (kd : ClassId) (el0 : Addr) (h0 : Heap) (n0 : Nat) (O0 : Old Z n0 h0) (Ad : Arv Z h0 ed kd (.object "java/lang/Object") (10 : Int32) [(.ref el0), .null, .null, .null, .null, .null, .null, .null, .null, .null] .null) (Ed : Exa Z h0 ed "[Ljava/lang/Object;") (Mr : own_Mir Z "[Ljava/lang/Object;" mr) (B0 : Exa Z Z.heap el0 "java/math/BigDecimal") :
    own_M l (⟨"java/util/Arrays", "copyOf", "([Ljava/lang/Object;I)[Ljava/lang/Object;"⟩ : MethodName) jdk_65_method_119_code 2 (some (.array (.object "java/lang/Object"))) ws (own_R 2 1 1 66) Z #[(.ref ed), (.int (1 : Int32))] h0 (Qcof21 Z ed mr kd el0 h0 n0) := by
  refine own_body (plainFor_of_name pn_java_util_Arrays) (fun m => ef_cof21 m ed (1 : Int32)) ?_
  intro p e s m below meth c s₁ Bd hx hby hml hown hnm X0 e0 hZ
  have N0 := Fr.nil n0
  refine own_g s₁ (mkF m 3 #[rv ed, iv (1 : Int32)] [(.ref ed), (.int (1 : Int32)), (.ref ed)]) (fun _ kq => XS.aloadN X0.here hx rfl (hb hby d34_0) rfl rfl (XS.iloadN X0.here hx rfl (hb hby d34_1) rfl (XS.aloadN X0.here hx rfl (hb hby d34_2) rfl rfl kq))) ?_
  obtain ⟨T1, X1, e1, st1⟩ := own_gcls X0 hx hZ hown (own_W225 hw) (own_W226 hw) (own_W228 hw) (own_W227 hw) (own_W229 hw) e0 Ed Mr (g := (mkF m 3 #[rv ed, iv (1 : Int32)] [(.ref ed), (.int (1 : Int32)), (.ref ed)])) rfl (by rw [hml]; rfl) rfl (hb hby d34_3) (by decide) (W := 2) (by show 2 * 0 + _ ≤ _; exact Nat.le_of_eq rfl) (by decide)
  refine own_g T1 (mkF m 6 #[rv ed, iv (1 : Int32)] [(.ref mr), (.int (1 : Int32)), (.ref ed)]) st1 ?_
  obtain ⟨_, T2, L2, X2, ⟨r2, kr2, rfl, Nq2, Kc2, gr2, szr2, Ar2, Er2, Or2⟩, st2⟩ := own_cS X1 hx hZ hown (own_W231 hw) (own_W232 hw) (own_W223 hw) (own_W233 hw) (rmcof31 l Z a0 hw [] ed mr kd el0 h0 n0 O0 Ad Ed Mr B0) e1 (lenOf pd_Ljava_lang_Object_ILjava_lang_Class___Ljava_lang_Object_246 rfl) (g := (mkF m 6 #[rv ed, iv (1 : Int32)] [(.ref mr), (.int (1 : Int32)), (.ref ed)])) (argsL := [(.ref ed), (.int (1 : Int32)), (.ref mr)]) (rest := []) (W := 0) rfl rfl (hb hby d34_6) (by rw [hml]; rfl) (by show 2 * 0 + _ ≤ _; exact Nat.le_of_eq rfl) rfl (by decide) (by decide) (by decide) (by decide) (by decide)
  have N3 := Fr.app N0 Nq2
  refine own_t T2 (mkF m 9 #[rv ed, iv (1 : Int32)] [(.ref r2)]) st2 ?_
  have K4 : Keep h0 _ [] := ((Keep.refl h0 []).trans Kc2 all0)
  refine own_out X2 Bd.notSynchronized (v := (some (.ref r2))) (fun h => by rw [Bd.returns] at h; cases h) (fun fs hr => own_retA X2 hx Bd.returns rfl rfl rfl (hb hby d34_9) hr) ?_ (by decide) (by decide)
  exact ⟨_, _, rfl, N3, K4, gr2, szr2, Ar2, Er2, Or2⟩
theorem d33_0 : decode jdk_38_method_16_code 0 = .ok (.aload_n 0, 1) := by decide +kernel
theorem d33_1 : decode jdk_38_method_16_code 1 = .ok (.getfield 9, 3) := by decide +kernel
theorem d33_4 : decode jdk_38_method_16_code 4 = .ok (.aload_n 0, 1) := by decide +kernel
theorem d33_5 : decode jdk_38_method_16_code 5 = .ok (.getfield 48, 3) := by decide +kernel
theorem d33_8 : decode jdk_38_method_16_code 8 = .ok (.invokestatic 66, 3) := by decide +kernel
def own_W224 {a0 Z} (hw : own_H a0 Z) := hw _ (List.mem_of_getElem? (i := 224) rfl)
def own_W221 {a0 Z} (hw : own_H a0 Z) := hw _ (List.mem_of_getElem? (i := 221) rfl)
theorem pd_Ljava_lang_Object_I__Ljava_lang_Object_673 : parseMethodDescriptor "([Ljava/lang/Object;I)[Ljava/lang/Object;" = some ⟨[(.array (.object "java/lang/Object")), .int], some (.array (.object "java/lang/Object"))⟩ := by decide +kernel
def own_W222 {a0 Z} (hw : own_H a0 Z) := hw _ (List.mem_of_getElem? (i := 222) rfl)
theorem d33_11 : decode jdk_38_method_16_code 11 = .ok (.areturn, 1) := by decide +kernel
theorem ef_toa1 (m : MethodId) (x0 : Addr) : entryFrame m #[(.ref x0)] 1 = mkF m 0 #[.val (.ref x0)] [] := by first | (simp [entryFrame, mkF, argsToLocals, Value.category]; done) | rfl
def Qtoa1 (Z : State) (a1 : Addr) (ed mr : Addr) (kd : ClassId) (el0 : Addr) (h0 : Heap) (n0 : Nat) (v : Option Value) (h : Heap) (L : List Loc) : Prop := ∃ (r : Addr) (k : ClassId), v = some (.ref r) ∧ Fr n0 L ∧ Keep h0 h [] ∧ n0 ≤ r ∧ h0.size ≤ r ∧ Arv Z h r k (.object "java/lang/Object") (1 : Int32) [(.ref el0)] .null ∧ Exa Z h r "[Ljava/lang/Object;" ∧ Ovr Z k "java/lang/Object"
set_option maxRecDepth 65536 in
set_option maxHeartbeats 40000000 in
theorem rmtoa1 (l : Launch) (Z : State) (a0 : Array Value) (hw : own_H a0 Z) (ws : List Jvm.Cond) (a1 : Addr) (ed mr : Addr) (kd : ClassId) (el0 : Addr) (h0 : Heap) (n0 : Nat) (O0 : Old Z n0 h0) (Fs : Fld Z h0 a1 "java/util/ArrayList" "size" "I" (.int (1 : Int32))) (Fe : Fld Z h0 a1 "java/util/ArrayList" "elementData" "[Ljava/lang/Object;" (.ref ed)) (Ad : Arv Z h0 ed kd (.object "java/lang/Object") (10 : Int32) [(.ref el0), .null, .null, .null, .null, .null, .null, .null, .null, .null] .null) (Ed : Exa Z h0 ed "[Ljava/lang/Object;") (Mr : own_Mir Z "[Ljava/lang/Object;" mr) (B0 : Exa Z Z.heap el0 "java/math/BigDecimal") :
    own_M l (⟨"java/util/ArrayList", "toArray", "()[Ljava/lang/Object;"⟩ : MethodName) jdk_38_method_16_code 1 (some (.array (.object "java/lang/Object"))) ws (own_R 3 1 1 79) Z #[(.ref a1)] h0 (Qtoa1 Z a1 ed mr kd el0 h0 n0) := by
  refine own_body (plainFor_of_name pn_java_util_ArrayList) (fun m => ef_toa1 m a1) ?_
  intro p e s m below meth c s₁ Bd hx hby hml hown hnm X0 e0 hZ
  have N0 := Fr.nil n0
  refine own_g s₁ (mkF m 1 #[rv a1] [(.ref a1)]) (fun _ kq => XS.aloadN X0.here hx rfl (hb hby d33_0) rfl rfl kq) ?_
  obtain ⟨T1, X1, e1, st1⟩ := getF X0 hx hZ hown (host := "") (Or.inl (own_W34 hw)) Via.refl e0 Fe (g := (mkF m 1 #[rv a1] [(.ref a1)])) rfl rfl (hb hby d33_1)
  refine own_g T1 (mkF m 4 #[rv a1] [(.ref ed)]) st1 ?_
  refine own_g T1 (mkF m 5 #[rv a1] [(.ref a1), (.ref ed)]) (fun _ kq => XS.aloadN X1.here hx rfl (hb hby d33_4) rfl rfl kq) ?_
  obtain ⟨T2, X2, e2, st2⟩ := getF X1 hx hZ hown (host := "") (Or.inl (own_W43 hw)) Via.refl e1 Fs (g := (mkF m 5 #[rv a1] [(.ref a1), (.ref ed)])) rfl rfl (hb hby d33_5)
  refine own_g T2 (mkF m 8 #[rv a1] [(.int (1 : Int32)), (.ref ed)]) st2 ?_
  obtain ⟨_, T3, L3, X3, ⟨r3, kr3, rfl, Nq3, Kc3, gr3, szr3, Ar3, Er3, Or3⟩, st3⟩ := own_cS X2 hx hZ hown (own_W221 hw) (own_W222 hw) (own_W223 hw) (own_W224 hw) (rmcof21 l Z a0 hw [] ed mr kd el0 h0 n0 O0 Ad Ed Mr B0) e2 (lenOf pd_Ljava_lang_Object_I__Ljava_lang_Object_673 rfl) (g := (mkF m 8 #[rv a1] [(.int (1 : Int32)), (.ref ed)])) (argsL := [(.ref ed), (.int (1 : Int32))]) (rest := []) (W := 0) rfl rfl (hb hby d33_8) (by rw [hml]; rfl) (by show 2 * 0 + _ ≤ _; exact Nat.le_of_eq rfl) rfl (by decide) (by decide) (by decide) (by decide) (by decide)
  have N4 := Fr.app N0 Nq3
  refine own_t T3 (mkF m 11 #[rv a1] [(.ref r3)]) st3 ?_
  have K5 : Keep h0 _ [] := ((Keep.refl h0 []).trans Kc3 all0)
  refine own_out X3 Bd.notSynchronized (v := (some (.ref r3))) (fun h => by rw [Bd.returns] at h; cases h) (fun fs hr => own_retA X3 hx Bd.returns rfl rfl rfl (hb hby d33_11) hr) ?_ (by decide) (by decide)
  exact ⟨_, _, rfl, N4, K5, gr3, szr3, Ar3, Er3, Or3⟩
theorem ef_cof32 (m : MethodId) (x0 : Addr) (x1 : Int32) (x2 : Addr) : entryFrame m #[(.ref x0), (.int x1), (.ref x2)] 4 = mkF m 0 #[.val (.ref x0), .val (.int x1), .val (.ref x2), .unset] [] := by first | (simp [entryFrame, mkF, argsToLocals, Value.category]; done) | rfl
def Qcof32 (Z : State) (ed mr : Addr) (kd : ClassId) (el0 el1 : Addr) (h0 : Heap) (n0 : Nat) (v : Option Value) (h : Heap) (L : List Loc) : Prop := ∃ (r : Addr) (k : ClassId), v = some (.ref r) ∧ Fr n0 L ∧ Keep h0 h [] ∧ n0 ≤ r ∧ h0.size ≤ r ∧ Arv Z h r k (.object "java/lang/Object") (2 : Int32) [(.ref el0), (.ref el1)] .null ∧ Exa Z h r "[Ljava/lang/Object;" ∧ Ovr Z k "java/lang/Object"
set_option maxRecDepth 65536 in
set_option maxHeartbeats 40000000 in
theorem rmcof32 (l : Launch) (Z : State) (a0 : Array Value) (hw : own_H a0 Z) (ws : List Jvm.Cond) (ed mr : Addr) (kd : ClassId) (el0 el1 : Addr) (h0 : Heap) (n0 : Nat) (O0 : Old Z n0 h0) (Ad : Arv Z h0 ed kd (.object "java/lang/Object") (10 : Int32) [(.ref el0), (.ref el1), .null, .null, .null, .null, .null, .null, .null, .null] .null) (Ed : Exa Z h0 ed "[Ljava/lang/Object;") (Mr : own_Mir Z "[Ljava/lang/Object;" mr) (B0 : Exa Z Z.heap el0 "java/math/BigDecimal") (B1 : Exa Z Z.heap el1 "java/math/BigDecimal") :
    own_M l (⟨"java/util/Arrays", "copyOf", "([Ljava/lang/Object;ILjava/lang/Class;)[Ljava/lang/Object;"⟩ : MethodName) jdk_65_method_120_code 4 (some (.array (.object "java/lang/Object"))) ws (own_R 1 1 2 51) Z #[(.ref ed), (.int (2 : Int32)), (.ref mr)] h0 (Qcof32 Z ed mr kd el0 el1 h0 n0) := by
  refine own_body (plainFor_of_name pn_java_util_Arrays) (fun m => ef_cof32 m ed (2 : Int32) mr) ?_
  intro p e s m below meth c s₁ Bd hx hby hml hown hnm X0 e0 hZ
  have N0 := Fr.nil n0
  refine own_g s₁ (mkF m 1 #[rv ed, iv (2 : Int32), rv mr, .unset] [(.ref mr)]) (fun _ kq => XS.aloadN X0.here hx rfl (hb hby d35_0) rfl rfl kq) ?_
  obtain ⟨T1, X1, e1, st1⟩ := own_ldcM X0 hx hZ hown (own_W234 hw) e0 Mr (g := (mkF m 1 #[rv ed, iv (2 : Int32), rv mr, .unset] [(.ref mr)])) rfl (hb hby d35_1)
  refine own_g T1 (mkF m 3 #[rv ed, iv (2 : Int32), rv mr, .unset] [(.ref mr), (.ref mr)]) st1 ?_
  refine own_g T1 (mkF m 7 #[rv ed, iv (2 : Int32), rv mr, .unset] [(.int (2 : Int32))]) (fun _ kq => Jvm.RoadKit.acmp (g := (mkF m 3 #[rv ed, iv (2 : Int32), rv mr, .unset] [(.ref mr), (.ref mr)])) X1 hx rfl rfl rfl (pc0 := 3) (pc' := 6) (same := true) rfl (hb hby d35_3) rfl (decide_eq_true rfl) (by decide) (by decide) (XS.iloadN X1.here hx rfl (hb hby d35_6) rfl kq)) ?_
  obtain ⟨T2, h2, k2, X2, e2, E2, A2, Ax2, Ov2, st2⟩ := newRE X1 hx hZ hown (own_W235 hw) (own_W65 hw) e1 (g := (mkF m 7 #[rv ed, iv (2 : Int32), rv mr, .unset] [(.int (2 : Int32))])) rfl (hb hby d35_7) rfl (by decide) (cap := 2) (by decide) (by decide) (by decide) (by decide) (ad := "[Ljava/lang/Object;") rfl
  obtain ⟨b2, g2⟩ : ∃ z, z = h0.size := ⟨_, rfl⟩
  rw [← g2] at A2 Ax2 st2
  have ne_ed_b2 : ed ≠ b2 := Nat.ne_of_lt (Nat.lt_of_lt_of_le Ad.lt (Nat.le_of_eq g2.symm))
  have ne_el0_b2 : el0 ≠ b2 := Nat.ne_of_lt (Nat.lt_of_lt_of_le (B0.ext O0.2).lt (Nat.le_of_eq g2.symm))
  have ne_el1_b2 : el1 ≠ b2 := Nat.ne_of_lt (Nat.lt_of_lt_of_le (B1.ext O0.2).lt (Nat.le_of_eq g2.symm))
  have g_b2 : n0 ≤ b2 := Nat.le_trans (own_old O0) (Nat.le_of_eq g2.symm)
  have sz_b2 : h0.size ≤ b2 := Nat.le_trans (Keep.refl h0 []).1 (Nat.le_of_eq g2.symm)
  have V2 : Arv Z h2 b2 k2 (.object "java/lang/Object") (2 : Int32) [.null, .null] .null := (Arv.new A2 (by decide)).pad (pad_rep [] .null 2)
  refine own_g T2 (mkF m 10 #[rv ed, iv (2 : Int32), rv mr, .unset] [(.ref b2)]) st2 ?_
  refine own_g T2 (mkF m 30 #[rv ed, iv (2 : Int32), rv mr, rv b2] [(.ref ed), (.int (0 : Int32)), (.ref b2), (.int (0 : Int32)), (.ref ed)]) (fun _ kq => XS.goto X2.here hx rfl (pc0 := 10) (pc' := 24) rfl (hb hby d35_10) (by decide) (by decide) (XS.astoreN X2.here hx rfl (hb hby d35_24) rfl rfl (l' := #[rv ed, iv (2 : Int32), rv mr, rv b2]) rfl (XS.aloadN X2.here hx rfl (hb hby d35_25) rfl rfl (XS.iconst X2.here hx rfl (hb hby d35_26) (XS.aloadN X2.here hx rfl (hb hby d35_27) rfl rfl (XS.iconst X2.here hx rfl (hb hby d35_28) (XS.aloadN X2.here hx rfl (hb hby d35_29) rfl rfl kq))))))) ?_
  have f3 := (Ad.ext E2)
  refine own_g T2 (mkF m 31 #[rv ed, iv (2 : Int32), rv mr, rv b2] [(.int (10 : Int32)), (.int (0 : Int32)), (.ref b2), (.int (0 : Int32)), (.ref ed)]) (own_alen X2 hx hZ e2 f3 (g := (mkF m 30 #[rv ed, iv (2 : Int32), rv mr, rv b2] [(.ref ed), (.int (0 : Int32)), (.ref b2), (.int (0 : Int32)), (.ref ed)])) rfl rfl (hb hby d35_30)) ?_
  refine own_g T2 (mkF m 32 #[rv ed, iv (2 : Int32), rv mr, rv b2] [(.int (2 : Int32)), (.int (10 : Int32)), (.int (0 : Int32)), (.ref b2), (.int (0 : Int32)), (.ref ed)]) (fun _ kq => XS.iloadN X2.here hx rfl (hb hby d35_31) rfl kq) ?_
  have O4 := (O0.ext E2)
  obtain ⟨_, T5, L5, X5, ⟨rfl, Nq5, hh5⟩, st5⟩ := own_cS X2 hx hZ hown (own_W236 hw) (own_W237 hw) (own_W62 hw) (own_W238 hw) (rmmin l Z a0 hw [] (10 : Int32) (2 : Int32) h2 n0 O4) e2 (lenOf pd_II_I_300 rfl) (g := (mkF m 32 #[rv ed, iv (2 : Int32), rv mr, rv b2] [(.int (2 : Int32)), (.int (10 : Int32)), (.int (0 : Int32)), (.ref b2), (.int (0 : Int32)), (.ref ed)])) (argsL := [(.int (10 : Int32)), (.int (2 : Int32))]) (rest := [(.int (0 : Int32)), (.ref b2), (.int (0 : Int32)), (.ref ed)]) (W := 4) rfl rfl (hb hby d35_32) (by rw [hml]; rfl) (by show 2 * 0 + _ ≤ _; exact Nat.le_of_eq rfl) rfl (by decide) (by decide) (by decide) (by decide) (by decide)
  have N6 := Fr.app N0 Nq5
  refine own_t T5 (mkF m 35 #[rv ed, iv (2 : Int32), rv mr, rv b2] [(.int (own_min (10 : Int32) (2 : Int32))), (.int (0 : Int32)), (.ref b2), (.int (0 : Int32)), (.ref ed)]) st5 ?_
  rw [show own_min (10 : Int32) (2 : Int32) = (2 : Int32) from by decide]
  obtain ⟨cl7, Ar7, q7, S7, Nn7, H7, G7⟩ := id V2
  obtain ⟨T8, h8, L8, X8, e8, N8, Kc8, V8, st8⟩ := cpA (us := [(.ref el0), (.ref el1)]) X5 hx hZ hown (own_W239 hw) (own_W242 hw) (own_W240 hw) (own_W241 hw) hh5 f3 V2 (Or.inr ⟨rfl, rfl, ⟨Sto.ofV Ar7 q7 Ov2 (Ins.of_exa (B0.ext O4.2) (own_W66 hw)), ⟨Sto.ofV Ar7 q7 Ov2 (Ins.of_exa (B1.ext O4.2) (own_W66 hw)), trivial⟩⟩⟩) (by decide) (by decide) (by decide) (by decide) (by decide) rfl (by decide) N6 g_b2 (g := (mkF m 35 #[rv ed, iv (2 : Int32), rv mr, rv b2] [(.int (2 : Int32)), (.int (0 : Int32)), (.ref b2), (.int (0 : Int32)), (.ref ed)])) rfl (by rw [hml]; rfl) rfl (hb hby d35_35) (by decide) (W := 0) (by show 2 * 0 + _ ≤ _; exact Nat.le_of_eq rfl) (by decide)
  have Vc8 : Arv Z h8 b2 k2 (.object "java/lang/Object") (2 : Int32) [(.ref el0), (.ref el1)] .null := V8
  refine own_g T8 (mkF m 38 #[rv ed, iv (2 : Int32), rv mr, rv b2] []) st8 ?_
  refine own_g T8 (mkF m 39 #[rv ed, iv (2 : Int32), rv mr, rv b2] [(.ref b2)]) (fun _ kq => XS.aloadN X8.here hx rfl (hb hby d35_38) rfl rfl kq) ?_
  have K9 : Keep h0 _ [] := (((Keep.refl h0 []).ext E2).trans Kc8 (allS (Or.inr sz_b2) all0))
  have f10 := (Ax2.keep Kc8)
  refine own_out X8 Bd.notSynchronized (v := (some (.ref b2))) (fun h => by rw [Bd.returns] at h; cases h) (fun fs hr => own_retA X8 hx Bd.returns rfl rfl rfl (hb hby d35_39) hr) ?_ (by decide) (by decide)
  rw [e8]
  exact ⟨_, _, rfl, N8, K9, g_b2, sz_b2, Vc8, f10, Ov2⟩
theorem ef_cof22 (m : MethodId) (x0 : Addr) (x1 : Int32) : entryFrame m #[(.ref x0), (.int x1)] 2 = mkF m 0 #[.val (.ref x0), .val (.int x1)] [] := by first | (simp [entryFrame, mkF, argsToLocals, Value.category]; done) | rfl
def Qcof22 (Z : State) (ed mr : Addr) (kd : ClassId) (el0 el1 : Addr) (h0 : Heap) (n0 : Nat) (v : Option Value) (h : Heap) (L : List Loc) : Prop := ∃ (r : Addr) (k : ClassId), v = some (.ref r) ∧ Fr n0 L ∧ Keep h0 h [] ∧ n0 ≤ r ∧ h0.size ≤ r ∧ Arv Z h r k (.object "java/lang/Object") (2 : Int32) [(.ref el0), (.ref el1)] .null ∧ Exa Z h r "[Ljava/lang/Object;" ∧ Ovr Z k "java/lang/Object"
set_option maxRecDepth 65536 in
set_option maxHeartbeats 40000000 in
theorem rmcof22 (l : Launch) (Z : State) (a0 : Array Value) (hw : own_H a0 Z) (ws : List Jvm.Cond) (ed mr : Addr) (kd : ClassId) (el0 el1 : Addr) (h0 : Heap) (n0 : Nat) (O0 : Old Z n0 h0) (Ad : Arv Z h0 ed kd (.object "java/lang/Object") (10 : Int32) [(.ref el0), (.ref el1), .null, .null, .null, .null, .null, .null, .null, .null] .null) (Ed : Exa Z h0 ed "[Ljava/lang/Object;") (Mr : own_Mir Z "[Ljava/lang/Object;" mr) (B0 : Exa Z Z.heap el0 "java/math/BigDecimal") (B1 : Exa Z Z.heap el1 "java/math/BigDecimal") :
    own_M l (⟨"java/util/Arrays", "copyOf", "([Ljava/lang/Object;I)[Ljava/lang/Object;"⟩ : MethodName) jdk_65_method_119_code 2 (some (.array (.object "java/lang/Object"))) ws (own_R 2 1 2 66) Z #[(.ref ed), (.int (2 : Int32))] h0 (Qcof22 Z ed mr kd el0 el1 h0 n0) := by
  refine own_body (plainFor_of_name pn_java_util_Arrays) (fun m => ef_cof22 m ed (2 : Int32)) ?_
  intro p e s m below meth c s₁ Bd hx hby hml hown hnm X0 e0 hZ
  have N0 := Fr.nil n0
  refine own_g s₁ (mkF m 3 #[rv ed, iv (2 : Int32)] [(.ref ed), (.int (2 : Int32)), (.ref ed)]) (fun _ kq => XS.aloadN X0.here hx rfl (hb hby d34_0) rfl rfl (XS.iloadN X0.here hx rfl (hb hby d34_1) rfl (XS.aloadN X0.here hx rfl (hb hby d34_2) rfl rfl kq))) ?_
  obtain ⟨T1, X1, e1, st1⟩ := own_gcls X0 hx hZ hown (own_W225 hw) (own_W226 hw) (own_W228 hw) (own_W227 hw) (own_W229 hw) e0 Ed Mr (g := (mkF m 3 #[rv ed, iv (2 : Int32)] [(.ref ed), (.int (2 : Int32)), (.ref ed)])) rfl (by rw [hml]; rfl) rfl (hb hby d34_3) (by decide) (W := 2) (by show 2 * 0 + _ ≤ _; exact Nat.le_of_eq rfl) (by decide)
  refine own_g T1 (mkF m 6 #[rv ed, iv (2 : Int32)] [(.ref mr), (.int (2 : Int32)), (.ref ed)]) st1 ?_
  obtain ⟨_, T2, L2, X2, ⟨r2, kr2, rfl, Nq2, Kc2, gr2, szr2, Ar2, Er2, Or2⟩, st2⟩ := own_cS X1 hx hZ hown (own_W231 hw) (own_W232 hw) (own_W223 hw) (own_W233 hw) (rmcof32 l Z a0 hw [] ed mr kd el0 el1 h0 n0 O0 Ad Ed Mr B0 B1) e1 (lenOf pd_Ljava_lang_Object_ILjava_lang_Class___Ljava_lang_Object_246 rfl) (g := (mkF m 6 #[rv ed, iv (2 : Int32)] [(.ref mr), (.int (2 : Int32)), (.ref ed)])) (argsL := [(.ref ed), (.int (2 : Int32)), (.ref mr)]) (rest := []) (W := 0) rfl rfl (hb hby d34_6) (by rw [hml]; rfl) (by show 2 * 0 + _ ≤ _; exact Nat.le_of_eq rfl) rfl (by decide) (by decide) (by decide) (by decide) (by decide)
  have N3 := Fr.app N0 Nq2
  refine own_t T2 (mkF m 9 #[rv ed, iv (2 : Int32)] [(.ref r2)]) st2 ?_
  have K4 : Keep h0 _ [] := ((Keep.refl h0 []).trans Kc2 all0)
  refine own_out X2 Bd.notSynchronized (v := (some (.ref r2))) (fun h => by rw [Bd.returns] at h; cases h) (fun fs hr => own_retA X2 hx Bd.returns rfl rfl rfl (hb hby d34_9) hr) ?_ (by decide) (by decide)
  exact ⟨_, _, rfl, N3, K4, gr2, szr2, Ar2, Er2, Or2⟩
theorem ef_toa2 (m : MethodId) (x0 : Addr) : entryFrame m #[(.ref x0)] 1 = mkF m 0 #[.val (.ref x0)] [] := by first | (simp [entryFrame, mkF, argsToLocals, Value.category]; done) | rfl
def Qtoa2 (Z : State) (a1 : Addr) (ed mr : Addr) (kd : ClassId) (el0 el1 : Addr) (h0 : Heap) (n0 : Nat) (v : Option Value) (h : Heap) (L : List Loc) : Prop := ∃ (r : Addr) (k : ClassId), v = some (.ref r) ∧ Fr n0 L ∧ Keep h0 h [] ∧ n0 ≤ r ∧ h0.size ≤ r ∧ Arv Z h r k (.object "java/lang/Object") (2 : Int32) [(.ref el0), (.ref el1)] .null ∧ Exa Z h r "[Ljava/lang/Object;" ∧ Ovr Z k "java/lang/Object"
set_option maxRecDepth 65536 in
set_option maxHeartbeats 40000000 in
theorem rmtoa2 (l : Launch) (Z : State) (a0 : Array Value) (hw : own_H a0 Z) (ws : List Jvm.Cond) (a1 : Addr) (ed mr : Addr) (kd : ClassId) (el0 el1 : Addr) (h0 : Heap) (n0 : Nat) (O0 : Old Z n0 h0) (Fs : Fld Z h0 a1 "java/util/ArrayList" "size" "I" (.int (2 : Int32))) (Fe : Fld Z h0 a1 "java/util/ArrayList" "elementData" "[Ljava/lang/Object;" (.ref ed)) (Ad : Arv Z h0 ed kd (.object "java/lang/Object") (10 : Int32) [(.ref el0), (.ref el1), .null, .null, .null, .null, .null, .null, .null, .null] .null) (Ed : Exa Z h0 ed "[Ljava/lang/Object;") (Mr : own_Mir Z "[Ljava/lang/Object;" mr) (B0 : Exa Z Z.heap el0 "java/math/BigDecimal") (B1 : Exa Z Z.heap el1 "java/math/BigDecimal") :
    own_M l (⟨"java/util/ArrayList", "toArray", "()[Ljava/lang/Object;"⟩ : MethodName) jdk_38_method_16_code 1 (some (.array (.object "java/lang/Object"))) ws (own_R 3 1 2 79) Z #[(.ref a1)] h0 (Qtoa2 Z a1 ed mr kd el0 el1 h0 n0) := by
  refine own_body (plainFor_of_name pn_java_util_ArrayList) (fun m => ef_toa2 m a1) ?_
  intro p e s m below meth c s₁ Bd hx hby hml hown hnm X0 e0 hZ
  have N0 := Fr.nil n0
  refine own_g s₁ (mkF m 1 #[rv a1] [(.ref a1)]) (fun _ kq => XS.aloadN X0.here hx rfl (hb hby d33_0) rfl rfl kq) ?_
  obtain ⟨T1, X1, e1, st1⟩ := getF X0 hx hZ hown (host := "") (Or.inl (own_W34 hw)) Via.refl e0 Fe (g := (mkF m 1 #[rv a1] [(.ref a1)])) rfl rfl (hb hby d33_1)
  refine own_g T1 (mkF m 4 #[rv a1] [(.ref ed)]) st1 ?_
  refine own_g T1 (mkF m 5 #[rv a1] [(.ref a1), (.ref ed)]) (fun _ kq => XS.aloadN X1.here hx rfl (hb hby d33_4) rfl rfl kq) ?_
  obtain ⟨T2, X2, e2, st2⟩ := getF X1 hx hZ hown (host := "") (Or.inl (own_W43 hw)) Via.refl e1 Fs (g := (mkF m 5 #[rv a1] [(.ref a1), (.ref ed)])) rfl rfl (hb hby d33_5)
  refine own_g T2 (mkF m 8 #[rv a1] [(.int (2 : Int32)), (.ref ed)]) st2 ?_
  obtain ⟨_, T3, L3, X3, ⟨r3, kr3, rfl, Nq3, Kc3, gr3, szr3, Ar3, Er3, Or3⟩, st3⟩ := own_cS X2 hx hZ hown (own_W221 hw) (own_W222 hw) (own_W223 hw) (own_W224 hw) (rmcof22 l Z a0 hw [] ed mr kd el0 el1 h0 n0 O0 Ad Ed Mr B0 B1) e2 (lenOf pd_Ljava_lang_Object_I__Ljava_lang_Object_673 rfl) (g := (mkF m 8 #[rv a1] [(.int (2 : Int32)), (.ref ed)])) (argsL := [(.ref ed), (.int (2 : Int32))]) (rest := []) (W := 0) rfl rfl (hb hby d33_8) (by rw [hml]; rfl) (by show 2 * 0 + _ ≤ _; exact Nat.le_of_eq rfl) rfl (by decide) (by decide) (by decide) (by decide) (by decide)
  have N4 := Fr.app N0 Nq3
  refine own_t T3 (mkF m 11 #[rv a1] [(.ref r3)]) st3 ?_
  have K5 : Keep h0 _ [] := ((Keep.refl h0 []).trans Kc3 all0)
  refine own_out X3 Bd.notSynchronized (v := (some (.ref r3))) (fun h => by rw [Bd.returns] at h; cases h) (fun fs hr => own_retA X3 hx Bd.returns rfl rfl rfl (hb hby d33_11) hr) ?_ (by decide) (by decide)
  exact ⟨_, _, rfl, N4, K5, gr3, szr3, Ar3, Er3, Or3⟩
theorem ef_cof33 (m : MethodId) (x0 : Addr) (x1 : Int32) (x2 : Addr) : entryFrame m #[(.ref x0), (.int x1), (.ref x2)] 4 = mkF m 0 #[.val (.ref x0), .val (.int x1), .val (.ref x2), .unset] [] := by first | (simp [entryFrame, mkF, argsToLocals, Value.category]; done) | rfl
def Qcof33 (Z : State) (ed mr : Addr) (kd : ClassId) (el0 el1 el2 : Addr) (h0 : Heap) (n0 : Nat) (v : Option Value) (h : Heap) (L : List Loc) : Prop := ∃ (r : Addr) (k : ClassId), v = some (.ref r) ∧ Fr n0 L ∧ Keep h0 h [] ∧ n0 ≤ r ∧ h0.size ≤ r ∧ Arv Z h r k (.object "java/lang/Object") (3 : Int32) [(.ref el0), (.ref el1), (.ref el2)] .null ∧ Exa Z h r "[Ljava/lang/Object;" ∧ Ovr Z k "java/lang/Object"
set_option maxRecDepth 65536 in
set_option maxHeartbeats 40000000 in
theorem rmcof33 (l : Launch) (Z : State) (a0 : Array Value) (hw : own_H a0 Z) (ws : List Jvm.Cond) (ed mr : Addr) (kd : ClassId) (el0 el1 el2 : Addr) (h0 : Heap) (n0 : Nat) (O0 : Old Z n0 h0) (Ad : Arv Z h0 ed kd (.object "java/lang/Object") (10 : Int32) [(.ref el0), (.ref el1), (.ref el2), .null, .null, .null, .null, .null, .null, .null] .null) (Ed : Exa Z h0 ed "[Ljava/lang/Object;") (Mr : own_Mir Z "[Ljava/lang/Object;" mr) (B0 : Exa Z Z.heap el0 "java/math/BigDecimal") (B1 : Exa Z Z.heap el1 "java/math/BigDecimal") (B2 : Exa Z Z.heap el2 "java/math/BigDecimal") :
    own_M l (⟨"java/util/Arrays", "copyOf", "([Ljava/lang/Object;ILjava/lang/Class;)[Ljava/lang/Object;"⟩ : MethodName) jdk_65_method_120_code 4 (some (.array (.object "java/lang/Object"))) ws (own_R 1 1 3 51) Z #[(.ref ed), (.int (3 : Int32)), (.ref mr)] h0 (Qcof33 Z ed mr kd el0 el1 el2 h0 n0) := by
  refine own_body (plainFor_of_name pn_java_util_Arrays) (fun m => ef_cof33 m ed (3 : Int32) mr) ?_
  intro p e s m below meth c s₁ Bd hx hby hml hown hnm X0 e0 hZ
  have N0 := Fr.nil n0
  refine own_g s₁ (mkF m 1 #[rv ed, iv (3 : Int32), rv mr, .unset] [(.ref mr)]) (fun _ kq => XS.aloadN X0.here hx rfl (hb hby d35_0) rfl rfl kq) ?_
  obtain ⟨T1, X1, e1, st1⟩ := own_ldcM X0 hx hZ hown (own_W234 hw) e0 Mr (g := (mkF m 1 #[rv ed, iv (3 : Int32), rv mr, .unset] [(.ref mr)])) rfl (hb hby d35_1)
  refine own_g T1 (mkF m 3 #[rv ed, iv (3 : Int32), rv mr, .unset] [(.ref mr), (.ref mr)]) st1 ?_
  refine own_g T1 (mkF m 7 #[rv ed, iv (3 : Int32), rv mr, .unset] [(.int (3 : Int32))]) (fun _ kq => Jvm.RoadKit.acmp (g := (mkF m 3 #[rv ed, iv (3 : Int32), rv mr, .unset] [(.ref mr), (.ref mr)])) X1 hx rfl rfl rfl (pc0 := 3) (pc' := 6) (same := true) rfl (hb hby d35_3) rfl (decide_eq_true rfl) (by decide) (by decide) (XS.iloadN X1.here hx rfl (hb hby d35_6) rfl kq)) ?_
  obtain ⟨T2, h2, k2, X2, e2, E2, A2, Ax2, Ov2, st2⟩ := newRE X1 hx hZ hown (own_W235 hw) (own_W65 hw) e1 (g := (mkF m 7 #[rv ed, iv (3 : Int32), rv mr, .unset] [(.int (3 : Int32))])) rfl (hb hby d35_7) rfl (by decide) (cap := 3) (by decide) (by decide) (by decide) (by decide) (ad := "[Ljava/lang/Object;") rfl
  obtain ⟨b2, g2⟩ : ∃ z, z = h0.size := ⟨_, rfl⟩
  rw [← g2] at A2 Ax2 st2
  have ne_ed_b2 : ed ≠ b2 := Nat.ne_of_lt (Nat.lt_of_lt_of_le Ad.lt (Nat.le_of_eq g2.symm))
  have ne_el0_b2 : el0 ≠ b2 := Nat.ne_of_lt (Nat.lt_of_lt_of_le (B0.ext O0.2).lt (Nat.le_of_eq g2.symm))
  have ne_el1_b2 : el1 ≠ b2 := Nat.ne_of_lt (Nat.lt_of_lt_of_le (B1.ext O0.2).lt (Nat.le_of_eq g2.symm))
  have ne_el2_b2 : el2 ≠ b2 := Nat.ne_of_lt (Nat.lt_of_lt_of_le (B2.ext O0.2).lt (Nat.le_of_eq g2.symm))
  have g_b2 : n0 ≤ b2 := Nat.le_trans (own_old O0) (Nat.le_of_eq g2.symm)
  have sz_b2 : h0.size ≤ b2 := Nat.le_trans (Keep.refl h0 []).1 (Nat.le_of_eq g2.symm)
  have V2 : Arv Z h2 b2 k2 (.object "java/lang/Object") (3 : Int32) [.null, .null, .null] .null := (Arv.new A2 (by decide)).pad (pad_rep [] .null 3)
  refine own_g T2 (mkF m 10 #[rv ed, iv (3 : Int32), rv mr, .unset] [(.ref b2)]) st2 ?_
  refine own_g T2 (mkF m 30 #[rv ed, iv (3 : Int32), rv mr, rv b2] [(.ref ed), (.int (0 : Int32)), (.ref b2), (.int (0 : Int32)), (.ref ed)]) (fun _ kq => XS.goto X2.here hx rfl (pc0 := 10) (pc' := 24) rfl (hb hby d35_10) (by decide) (by decide) (XS.astoreN X2.here hx rfl (hb hby d35_24) rfl rfl (l' := #[rv ed, iv (3 : Int32), rv mr, rv b2]) rfl (XS.aloadN X2.here hx rfl (hb hby d35_25) rfl rfl (XS.iconst X2.here hx rfl (hb hby d35_26) (XS.aloadN X2.here hx rfl (hb hby d35_27) rfl rfl (XS.iconst X2.here hx rfl (hb hby d35_28) (XS.aloadN X2.here hx rfl (hb hby d35_29) rfl rfl kq))))))) ?_
  have f3 := (Ad.ext E2)
  refine own_g T2 (mkF m 31 #[rv ed, iv (3 : Int32), rv mr, rv b2] [(.int (10 : Int32)), (.int (0 : Int32)), (.ref b2), (.int (0 : Int32)), (.ref ed)]) (own_alen X2 hx hZ e2 f3 (g := (mkF m 30 #[rv ed, iv (3 : Int32), rv mr, rv b2] [(.ref ed), (.int (0 : Int32)), (.ref b2), (.int (0 : Int32)), (.ref ed)])) rfl rfl (hb hby d35_30)) ?_
  refine own_g T2 (mkF m 32 #[rv ed, iv (3 : Int32), rv mr, rv b2] [(.int (3 : Int32)), (.int (10 : Int32)), (.int (0 : Int32)), (.ref b2), (.int (0 : Int32)), (.ref ed)]) (fun _ kq => XS.iloadN X2.here hx rfl (hb hby d35_31) rfl kq) ?_
  have O4 := (O0.ext E2)
  obtain ⟨_, T5, L5, X5, ⟨rfl, Nq5, hh5⟩, st5⟩ := own_cS X2 hx hZ hown (own_W236 hw) (own_W237 hw) (own_W62 hw) (own_W238 hw) (rmmin l Z a0 hw [] (10 : Int32) (3 : Int32) h2 n0 O4) e2 (lenOf pd_II_I_300 rfl) (g := (mkF m 32 #[rv ed, iv (3 : Int32), rv mr, rv b2] [(.int (3 : Int32)), (.int (10 : Int32)), (.int (0 : Int32)), (.ref b2), (.int (0 : Int32)), (.ref ed)])) (argsL := [(.int (10 : Int32)), (.int (3 : Int32))]) (rest := [(.int (0 : Int32)), (.ref b2), (.int (0 : Int32)), (.ref ed)]) (W := 4) rfl rfl (hb hby d35_32) (by rw [hml]; rfl) (by show 2 * 0 + _ ≤ _; exact Nat.le_of_eq rfl) rfl (by decide) (by decide) (by decide) (by decide) (by decide)
  have N6 := Fr.app N0 Nq5
  refine own_t T5 (mkF m 35 #[rv ed, iv (3 : Int32), rv mr, rv b2] [(.int (own_min (10 : Int32) (3 : Int32))), (.int (0 : Int32)), (.ref b2), (.int (0 : Int32)), (.ref ed)]) st5 ?_
  rw [show own_min (10 : Int32) (3 : Int32) = (3 : Int32) from by decide]
  obtain ⟨cl7, Ar7, q7, S7, Nn7, H7, G7⟩ := id V2
  obtain ⟨T8, h8, L8, X8, e8, N8, Kc8, V8, st8⟩ := cpA (us := [(.ref el0), (.ref el1), (.ref el2)]) X5 hx hZ hown (own_W239 hw) (own_W242 hw) (own_W240 hw) (own_W241 hw) hh5 f3 V2 (Or.inr ⟨rfl, rfl, ⟨Sto.ofV Ar7 q7 Ov2 (Ins.of_exa (B0.ext O4.2) (own_W66 hw)), ⟨Sto.ofV Ar7 q7 Ov2 (Ins.of_exa (B1.ext O4.2) (own_W66 hw)), ⟨Sto.ofV Ar7 q7 Ov2 (Ins.of_exa (B2.ext O4.2) (own_W66 hw)), trivial⟩⟩⟩⟩) (by decide) (by decide) (by decide) (by decide) (by decide) rfl (by decide) N6 g_b2 (g := (mkF m 35 #[rv ed, iv (3 : Int32), rv mr, rv b2] [(.int (3 : Int32)), (.int (0 : Int32)), (.ref b2), (.int (0 : Int32)), (.ref ed)])) rfl (by rw [hml]; rfl) rfl (hb hby d35_35) (by decide) (W := 0) (by show 2 * 0 + _ ≤ _; exact Nat.le_of_eq rfl) (by decide)
  have Vc8 : Arv Z h8 b2 k2 (.object "java/lang/Object") (3 : Int32) [(.ref el0), (.ref el1), (.ref el2)] .null := V8
  refine own_g T8 (mkF m 38 #[rv ed, iv (3 : Int32), rv mr, rv b2] []) st8 ?_
  refine own_g T8 (mkF m 39 #[rv ed, iv (3 : Int32), rv mr, rv b2] [(.ref b2)]) (fun _ kq => XS.aloadN X8.here hx rfl (hb hby d35_38) rfl rfl kq) ?_
  have K9 : Keep h0 _ [] := (((Keep.refl h0 []).ext E2).trans Kc8 (allS (Or.inr sz_b2) all0))
  have f10 := (Ax2.keep Kc8)
  refine own_out X8 Bd.notSynchronized (v := (some (.ref b2))) (fun h => by rw [Bd.returns] at h; cases h) (fun fs hr => own_retA X8 hx Bd.returns rfl rfl rfl (hb hby d35_39) hr) ?_ (by decide) (by decide)
  rw [e8]
  exact ⟨_, _, rfl, N8, K9, g_b2, sz_b2, Vc8, f10, Ov2⟩
theorem ef_cof23 (m : MethodId) (x0 : Addr) (x1 : Int32) : entryFrame m #[(.ref x0), (.int x1)] 2 = mkF m 0 #[.val (.ref x0), .val (.int x1)] [] := by first | (simp [entryFrame, mkF, argsToLocals, Value.category]; done) | rfl
def Qcof23 (Z : State) (ed mr : Addr) (kd : ClassId) (el0 el1 el2 : Addr) (h0 : Heap) (n0 : Nat) (v : Option Value) (h : Heap) (L : List Loc) : Prop := ∃ (r : Addr) (k : ClassId), v = some (.ref r) ∧ Fr n0 L ∧ Keep h0 h [] ∧ n0 ≤ r ∧ h0.size ≤ r ∧ Arv Z h r k (.object "java/lang/Object") (3 : Int32) [(.ref el0), (.ref el1), (.ref el2)] .null ∧ Exa Z h r "[Ljava/lang/Object;" ∧ Ovr Z k "java/lang/Object"
set_option maxRecDepth 65536 in
set_option maxHeartbeats 40000000 in
theorem rmcof23 (l : Launch) (Z : State) (a0 : Array Value) (hw : own_H a0 Z) (ws : List Jvm.Cond) (ed mr : Addr) (kd : ClassId) (el0 el1 el2 : Addr) (h0 : Heap) (n0 : Nat) (O0 : Old Z n0 h0) (Ad : Arv Z h0 ed kd (.object "java/lang/Object") (10 : Int32) [(.ref el0), (.ref el1), (.ref el2), .null, .null, .null, .null, .null, .null, .null] .null) (Ed : Exa Z h0 ed "[Ljava/lang/Object;") (Mr : own_Mir Z "[Ljava/lang/Object;" mr) (B0 : Exa Z Z.heap el0 "java/math/BigDecimal") (B1 : Exa Z Z.heap el1 "java/math/BigDecimal") (B2 : Exa Z Z.heap el2 "java/math/BigDecimal") :
    own_M l (⟨"java/util/Arrays", "copyOf", "([Ljava/lang/Object;I)[Ljava/lang/Object;"⟩ : MethodName) jdk_65_method_119_code 2 (some (.array (.object "java/lang/Object"))) ws (own_R 2 1 3 66) Z #[(.ref ed), (.int (3 : Int32))] h0 (Qcof23 Z ed mr kd el0 el1 el2 h0 n0) := by
  refine own_body (plainFor_of_name pn_java_util_Arrays) (fun m => ef_cof23 m ed (3 : Int32)) ?_
  intro p e s m below meth c s₁ Bd hx hby hml hown hnm X0 e0 hZ
  have N0 := Fr.nil n0
  refine own_g s₁ (mkF m 3 #[rv ed, iv (3 : Int32)] [(.ref ed), (.int (3 : Int32)), (.ref ed)]) (fun _ kq => XS.aloadN X0.here hx rfl (hb hby d34_0) rfl rfl (XS.iloadN X0.here hx rfl (hb hby d34_1) rfl (XS.aloadN X0.here hx rfl (hb hby d34_2) rfl rfl kq))) ?_
  obtain ⟨T1, X1, e1, st1⟩ := own_gcls X0 hx hZ hown (own_W225 hw) (own_W226 hw) (own_W228 hw) (own_W227 hw) (own_W229 hw) e0 Ed Mr (g := (mkF m 3 #[rv ed, iv (3 : Int32)] [(.ref ed), (.int (3 : Int32)), (.ref ed)])) rfl (by rw [hml]; rfl) rfl (hb hby d34_3) (by decide) (W := 2) (by show 2 * 0 + _ ≤ _; exact Nat.le_of_eq rfl) (by decide)
  refine own_g T1 (mkF m 6 #[rv ed, iv (3 : Int32)] [(.ref mr), (.int (3 : Int32)), (.ref ed)]) st1 ?_
  obtain ⟨_, T2, L2, X2, ⟨r2, kr2, rfl, Nq2, Kc2, gr2, szr2, Ar2, Er2, Or2⟩, st2⟩ := own_cS X1 hx hZ hown (own_W231 hw) (own_W232 hw) (own_W223 hw) (own_W233 hw) (rmcof33 l Z a0 hw [] ed mr kd el0 el1 el2 h0 n0 O0 Ad Ed Mr B0 B1 B2) e1 (lenOf pd_Ljava_lang_Object_ILjava_lang_Class___Ljava_lang_Object_246 rfl) (g := (mkF m 6 #[rv ed, iv (3 : Int32)] [(.ref mr), (.int (3 : Int32)), (.ref ed)])) (argsL := [(.ref ed), (.int (3 : Int32)), (.ref mr)]) (rest := []) (W := 0) rfl rfl (hb hby d34_6) (by rw [hml]; rfl) (by show 2 * 0 + _ ≤ _; exact Nat.le_of_eq rfl) rfl (by decide) (by decide) (by decide) (by decide) (by decide)
  have N3 := Fr.app N0 Nq2
  refine own_t T2 (mkF m 9 #[rv ed, iv (3 : Int32)] [(.ref r2)]) st2 ?_
  have K4 : Keep h0 _ [] := ((Keep.refl h0 []).trans Kc2 all0)
  refine own_out X2 Bd.notSynchronized (v := (some (.ref r2))) (fun h => by rw [Bd.returns] at h; cases h) (fun fs hr => own_retA X2 hx Bd.returns rfl rfl rfl (hb hby d34_9) hr) ?_ (by decide) (by decide)
  exact ⟨_, _, rfl, N3, K4, gr2, szr2, Ar2, Er2, Or2⟩
theorem ef_toa3 (m : MethodId) (x0 : Addr) : entryFrame m #[(.ref x0)] 1 = mkF m 0 #[.val (.ref x0)] [] := by first | (simp [entryFrame, mkF, argsToLocals, Value.category]; done) | rfl
def Qtoa3 (Z : State) (a1 : Addr) (ed mr : Addr) (kd : ClassId) (el0 el1 el2 : Addr) (h0 : Heap) (n0 : Nat) (v : Option Value) (h : Heap) (L : List Loc) : Prop := ∃ (r : Addr) (k : ClassId), v = some (.ref r) ∧ Fr n0 L ∧ Keep h0 h [] ∧ n0 ≤ r ∧ h0.size ≤ r ∧ Arv Z h r k (.object "java/lang/Object") (3 : Int32) [(.ref el0), (.ref el1), (.ref el2)] .null ∧ Exa Z h r "[Ljava/lang/Object;" ∧ Ovr Z k "java/lang/Object"
set_option maxRecDepth 65536 in
set_option maxHeartbeats 40000000 in
theorem rmtoa3 (l : Launch) (Z : State) (a0 : Array Value) (hw : own_H a0 Z) (ws : List Jvm.Cond) (a1 : Addr) (ed mr : Addr) (kd : ClassId) (el0 el1 el2 : Addr) (h0 : Heap) (n0 : Nat) (O0 : Old Z n0 h0) (Fs : Fld Z h0 a1 "java/util/ArrayList" "size" "I" (.int (3 : Int32))) (Fe : Fld Z h0 a1 "java/util/ArrayList" "elementData" "[Ljava/lang/Object;" (.ref ed)) (Ad : Arv Z h0 ed kd (.object "java/lang/Object") (10 : Int32) [(.ref el0), (.ref el1), (.ref el2), .null, .null, .null, .null, .null, .null, .null] .null) (Ed : Exa Z h0 ed "[Ljava/lang/Object;") (Mr : own_Mir Z "[Ljava/lang/Object;" mr) (B0 : Exa Z Z.heap el0 "java/math/BigDecimal") (B1 : Exa Z Z.heap el1 "java/math/BigDecimal") (B2 : Exa Z Z.heap el2 "java/math/BigDecimal") :
    own_M l (⟨"java/util/ArrayList", "toArray", "()[Ljava/lang/Object;"⟩ : MethodName) jdk_38_method_16_code 1 (some (.array (.object "java/lang/Object"))) ws (own_R 3 1 3 79) Z #[(.ref a1)] h0 (Qtoa3 Z a1 ed mr kd el0 el1 el2 h0 n0) := by
  refine own_body (plainFor_of_name pn_java_util_ArrayList) (fun m => ef_toa3 m a1) ?_
  intro p e s m below meth c s₁ Bd hx hby hml hown hnm X0 e0 hZ
  have N0 := Fr.nil n0
  refine own_g s₁ (mkF m 1 #[rv a1] [(.ref a1)]) (fun _ kq => XS.aloadN X0.here hx rfl (hb hby d33_0) rfl rfl kq) ?_
  obtain ⟨T1, X1, e1, st1⟩ := getF X0 hx hZ hown (host := "") (Or.inl (own_W34 hw)) Via.refl e0 Fe (g := (mkF m 1 #[rv a1] [(.ref a1)])) rfl rfl (hb hby d33_1)
  refine own_g T1 (mkF m 4 #[rv a1] [(.ref ed)]) st1 ?_
  refine own_g T1 (mkF m 5 #[rv a1] [(.ref a1), (.ref ed)]) (fun _ kq => XS.aloadN X1.here hx rfl (hb hby d33_4) rfl rfl kq) ?_
  obtain ⟨T2, X2, e2, st2⟩ := getF X1 hx hZ hown (host := "") (Or.inl (own_W43 hw)) Via.refl e1 Fs (g := (mkF m 5 #[rv a1] [(.ref a1), (.ref ed)])) rfl rfl (hb hby d33_5)
  refine own_g T2 (mkF m 8 #[rv a1] [(.int (3 : Int32)), (.ref ed)]) st2 ?_
  obtain ⟨_, T3, L3, X3, ⟨r3, kr3, rfl, Nq3, Kc3, gr3, szr3, Ar3, Er3, Or3⟩, st3⟩ := own_cS X2 hx hZ hown (own_W221 hw) (own_W222 hw) (own_W223 hw) (own_W224 hw) (rmcof23 l Z a0 hw [] ed mr kd el0 el1 el2 h0 n0 O0 Ad Ed Mr B0 B1 B2) e2 (lenOf pd_Ljava_lang_Object_I__Ljava_lang_Object_673 rfl) (g := (mkF m 8 #[rv a1] [(.int (3 : Int32)), (.ref ed)])) (argsL := [(.ref ed), (.int (3 : Int32))]) (rest := []) (W := 0) rfl rfl (hb hby d33_8) (by rw [hml]; rfl) (by show 2 * 0 + _ ≤ _; exact Nat.le_of_eq rfl) rfl (by decide) (by decide) (by decide) (by decide) (by decide)
  have N4 := Fr.app N0 Nq3
  refine own_t T3 (mkF m 11 #[rv a1] [(.ref r3)]) st3 ?_
  have K5 : Keep h0 _ [] := ((Keep.refl h0 []).trans Kc3 all0)
  refine own_out X3 Bd.notSynchronized (v := (some (.ref r3))) (fun h => by rw [Bd.returns] at h; cases h) (fun fs hr => own_retA X3 hx Bd.returns rfl rfl rfl (hb hby d33_11) hr) ?_ (by decide) (by decide)
  exact ⟨_, _, rfl, N4, K5, gr3, szr3, Ar3, Er3, Or3⟩
theorem ef_cof34 (m : MethodId) (x0 : Addr) (x1 : Int32) (x2 : Addr) : entryFrame m #[(.ref x0), (.int x1), (.ref x2)] 4 = mkF m 0 #[.val (.ref x0), .val (.int x1), .val (.ref x2), .unset] [] := by first | (simp [entryFrame, mkF, argsToLocals, Value.category]; done) | rfl
def Qcof34 (Z : State) (ed mr : Addr) (kd : ClassId) (el0 el1 el2 el3 : Addr) (h0 : Heap) (n0 : Nat) (v : Option Value) (h : Heap) (L : List Loc) : Prop := ∃ (r : Addr) (k : ClassId), v = some (.ref r) ∧ Fr n0 L ∧ Keep h0 h [] ∧ n0 ≤ r ∧ h0.size ≤ r ∧ Arv Z h r k (.object "java/lang/Object") (4 : Int32) [(.ref el0), (.ref el1), (.ref el2), (.ref el3)] .null ∧ Exa Z h r "[Ljava/lang/Object;" ∧ Ovr Z k "java/lang/Object"
set_option maxRecDepth 65536 in
set_option maxHeartbeats 40000000 in
theorem rmcof34 (l : Launch) (Z : State) (a0 : Array Value) (hw : own_H a0 Z) (ws : List Jvm.Cond) (ed mr : Addr) (kd : ClassId) (el0 el1 el2 el3 : Addr) (h0 : Heap) (n0 : Nat) (O0 : Old Z n0 h0) (Ad : Arv Z h0 ed kd (.object "java/lang/Object") (10 : Int32) [(.ref el0), (.ref el1), (.ref el2), (.ref el3), .null, .null, .null, .null, .null, .null] .null) (Ed : Exa Z h0 ed "[Ljava/lang/Object;") (Mr : own_Mir Z "[Ljava/lang/Object;" mr) (B0 : Exa Z Z.heap el0 "java/math/BigDecimal") (B1 : Exa Z Z.heap el1 "java/math/BigDecimal") (B2 : Exa Z Z.heap el2 "java/math/BigDecimal") (B3 : Exa Z Z.heap el3 "java/math/BigDecimal") :
    own_M l (⟨"java/util/Arrays", "copyOf", "([Ljava/lang/Object;ILjava/lang/Class;)[Ljava/lang/Object;"⟩ : MethodName) jdk_65_method_120_code 4 (some (.array (.object "java/lang/Object"))) ws (own_R 1 1 4 51) Z #[(.ref ed), (.int (4 : Int32)), (.ref mr)] h0 (Qcof34 Z ed mr kd el0 el1 el2 el3 h0 n0) := by
  refine own_body (plainFor_of_name pn_java_util_Arrays) (fun m => ef_cof34 m ed (4 : Int32) mr) ?_
  intro p e s m below meth c s₁ Bd hx hby hml hown hnm X0 e0 hZ
  have N0 := Fr.nil n0
  refine own_g s₁ (mkF m 1 #[rv ed, iv (4 : Int32), rv mr, .unset] [(.ref mr)]) (fun _ kq => XS.aloadN X0.here hx rfl (hb hby d35_0) rfl rfl kq) ?_
  obtain ⟨T1, X1, e1, st1⟩ := own_ldcM X0 hx hZ hown (own_W234 hw) e0 Mr (g := (mkF m 1 #[rv ed, iv (4 : Int32), rv mr, .unset] [(.ref mr)])) rfl (hb hby d35_1)
  refine own_g T1 (mkF m 3 #[rv ed, iv (4 : Int32), rv mr, .unset] [(.ref mr), (.ref mr)]) st1 ?_
  refine own_g T1 (mkF m 7 #[rv ed, iv (4 : Int32), rv mr, .unset] [(.int (4 : Int32))]) (fun _ kq => Jvm.RoadKit.acmp (g := (mkF m 3 #[rv ed, iv (4 : Int32), rv mr, .unset] [(.ref mr), (.ref mr)])) X1 hx rfl rfl rfl (pc0 := 3) (pc' := 6) (same := true) rfl (hb hby d35_3) rfl (decide_eq_true rfl) (by decide) (by decide) (XS.iloadN X1.here hx rfl (hb hby d35_6) rfl kq)) ?_
  obtain ⟨T2, h2, k2, X2, e2, E2, A2, Ax2, Ov2, st2⟩ := newRE X1 hx hZ hown (own_W235 hw) (own_W65 hw) e1 (g := (mkF m 7 #[rv ed, iv (4 : Int32), rv mr, .unset] [(.int (4 : Int32))])) rfl (hb hby d35_7) rfl (by decide) (cap := 4) (by decide) (by decide) (by decide) (by decide) (ad := "[Ljava/lang/Object;") rfl
  obtain ⟨b2, g2⟩ : ∃ z, z = h0.size := ⟨_, rfl⟩
  rw [← g2] at A2 Ax2 st2
  have ne_ed_b2 : ed ≠ b2 := Nat.ne_of_lt (Nat.lt_of_lt_of_le Ad.lt (Nat.le_of_eq g2.symm))
  have ne_el0_b2 : el0 ≠ b2 := Nat.ne_of_lt (Nat.lt_of_lt_of_le (B0.ext O0.2).lt (Nat.le_of_eq g2.symm))
  have ne_el1_b2 : el1 ≠ b2 := Nat.ne_of_lt (Nat.lt_of_lt_of_le (B1.ext O0.2).lt (Nat.le_of_eq g2.symm))
  have ne_el2_b2 : el2 ≠ b2 := Nat.ne_of_lt (Nat.lt_of_lt_of_le (B2.ext O0.2).lt (Nat.le_of_eq g2.symm))
  have ne_el3_b2 : el3 ≠ b2 := Nat.ne_of_lt (Nat.lt_of_lt_of_le (B3.ext O0.2).lt (Nat.le_of_eq g2.symm))
  have g_b2 : n0 ≤ b2 := Nat.le_trans (own_old O0) (Nat.le_of_eq g2.symm)
  have sz_b2 : h0.size ≤ b2 := Nat.le_trans (Keep.refl h0 []).1 (Nat.le_of_eq g2.symm)
  have V2 : Arv Z h2 b2 k2 (.object "java/lang/Object") (4 : Int32) [.null, .null, .null, .null] .null := (Arv.new A2 (by decide)).pad (pad_rep [] .null 4)
  refine own_g T2 (mkF m 10 #[rv ed, iv (4 : Int32), rv mr, .unset] [(.ref b2)]) st2 ?_
  refine own_g T2 (mkF m 30 #[rv ed, iv (4 : Int32), rv mr, rv b2] [(.ref ed), (.int (0 : Int32)), (.ref b2), (.int (0 : Int32)), (.ref ed)]) (fun _ kq => XS.goto X2.here hx rfl (pc0 := 10) (pc' := 24) rfl (hb hby d35_10) (by decide) (by decide) (XS.astoreN X2.here hx rfl (hb hby d35_24) rfl rfl (l' := #[rv ed, iv (4 : Int32), rv mr, rv b2]) rfl (XS.aloadN X2.here hx rfl (hb hby d35_25) rfl rfl (XS.iconst X2.here hx rfl (hb hby d35_26) (XS.aloadN X2.here hx rfl (hb hby d35_27) rfl rfl (XS.iconst X2.here hx rfl (hb hby d35_28) (XS.aloadN X2.here hx rfl (hb hby d35_29) rfl rfl kq))))))) ?_
  have f3 := (Ad.ext E2)
  refine own_g T2 (mkF m 31 #[rv ed, iv (4 : Int32), rv mr, rv b2] [(.int (10 : Int32)), (.int (0 : Int32)), (.ref b2), (.int (0 : Int32)), (.ref ed)]) (own_alen X2 hx hZ e2 f3 (g := (mkF m 30 #[rv ed, iv (4 : Int32), rv mr, rv b2] [(.ref ed), (.int (0 : Int32)), (.ref b2), (.int (0 : Int32)), (.ref ed)])) rfl rfl (hb hby d35_30)) ?_
  refine own_g T2 (mkF m 32 #[rv ed, iv (4 : Int32), rv mr, rv b2] [(.int (4 : Int32)), (.int (10 : Int32)), (.int (0 : Int32)), (.ref b2), (.int (0 : Int32)), (.ref ed)]) (fun _ kq => XS.iloadN X2.here hx rfl (hb hby d35_31) rfl kq) ?_
  have O4 := (O0.ext E2)
  obtain ⟨_, T5, L5, X5, ⟨rfl, Nq5, hh5⟩, st5⟩ := own_cS X2 hx hZ hown (own_W236 hw) (own_W237 hw) (own_W62 hw) (own_W238 hw) (rmmin l Z a0 hw [] (10 : Int32) (4 : Int32) h2 n0 O4) e2 (lenOf pd_II_I_300 rfl) (g := (mkF m 32 #[rv ed, iv (4 : Int32), rv mr, rv b2] [(.int (4 : Int32)), (.int (10 : Int32)), (.int (0 : Int32)), (.ref b2), (.int (0 : Int32)), (.ref ed)])) (argsL := [(.int (10 : Int32)), (.int (4 : Int32))]) (rest := [(.int (0 : Int32)), (.ref b2), (.int (0 : Int32)), (.ref ed)]) (W := 4) rfl rfl (hb hby d35_32) (by rw [hml]; rfl) (by show 2 * 0 + _ ≤ _; exact Nat.le_of_eq rfl) rfl (by decide) (by decide) (by decide) (by decide) (by decide)
  have N6 := Fr.app N0 Nq5
  refine own_t T5 (mkF m 35 #[rv ed, iv (4 : Int32), rv mr, rv b2] [(.int (own_min (10 : Int32) (4 : Int32))), (.int (0 : Int32)), (.ref b2), (.int (0 : Int32)), (.ref ed)]) st5 ?_
  rw [show own_min (10 : Int32) (4 : Int32) = (4 : Int32) from by decide]
  obtain ⟨cl7, Ar7, q7, S7, Nn7, H7, G7⟩ := id V2
  obtain ⟨T8, h8, L8, X8, e8, N8, Kc8, V8, st8⟩ := cpA (us := [(.ref el0), (.ref el1), (.ref el2), (.ref el3)]) X5 hx hZ hown (own_W239 hw) (own_W242 hw) (own_W240 hw) (own_W241 hw) hh5 f3 V2 (Or.inr ⟨rfl, rfl, ⟨Sto.ofV Ar7 q7 Ov2 (Ins.of_exa (B0.ext O4.2) (own_W66 hw)), ⟨Sto.ofV Ar7 q7 Ov2 (Ins.of_exa (B1.ext O4.2) (own_W66 hw)), ⟨Sto.ofV Ar7 q7 Ov2 (Ins.of_exa (B2.ext O4.2) (own_W66 hw)), ⟨Sto.ofV Ar7 q7 Ov2 (Ins.of_exa (B3.ext O4.2) (own_W66 hw)), trivial⟩⟩⟩⟩⟩) (by decide) (by decide) (by decide) (by decide) (by decide) rfl (by decide) N6 g_b2 (g := (mkF m 35 #[rv ed, iv (4 : Int32), rv mr, rv b2] [(.int (4 : Int32)), (.int (0 : Int32)), (.ref b2), (.int (0 : Int32)), (.ref ed)])) rfl (by rw [hml]; rfl) rfl (hb hby d35_35) (by decide) (W := 0) (by show 2 * 0 + _ ≤ _; exact Nat.le_of_eq rfl) (by decide)
  have Vc8 : Arv Z h8 b2 k2 (.object "java/lang/Object") (4 : Int32) [(.ref el0), (.ref el1), (.ref el2), (.ref el3)] .null := V8
  refine own_g T8 (mkF m 38 #[rv ed, iv (4 : Int32), rv mr, rv b2] []) st8 ?_
  refine own_g T8 (mkF m 39 #[rv ed, iv (4 : Int32), rv mr, rv b2] [(.ref b2)]) (fun _ kq => XS.aloadN X8.here hx rfl (hb hby d35_38) rfl rfl kq) ?_
  have K9 : Keep h0 _ [] := (((Keep.refl h0 []).ext E2).trans Kc8 (allS (Or.inr sz_b2) all0))
  have f10 := (Ax2.keep Kc8)
  refine own_out X8 Bd.notSynchronized (v := (some (.ref b2))) (fun h => by rw [Bd.returns] at h; cases h) (fun fs hr => own_retA X8 hx Bd.returns rfl rfl rfl (hb hby d35_39) hr) ?_ (by decide) (by decide)
  rw [e8]
  exact ⟨_, _, rfl, N8, K9, g_b2, sz_b2, Vc8, f10, Ov2⟩
theorem ef_cof24 (m : MethodId) (x0 : Addr) (x1 : Int32) : entryFrame m #[(.ref x0), (.int x1)] 2 = mkF m 0 #[.val (.ref x0), .val (.int x1)] [] := by first | (simp [entryFrame, mkF, argsToLocals, Value.category]; done) | rfl
def Qcof24 (Z : State) (ed mr : Addr) (kd : ClassId) (el0 el1 el2 el3 : Addr) (h0 : Heap) (n0 : Nat) (v : Option Value) (h : Heap) (L : List Loc) : Prop := ∃ (r : Addr) (k : ClassId), v = some (.ref r) ∧ Fr n0 L ∧ Keep h0 h [] ∧ n0 ≤ r ∧ h0.size ≤ r ∧ Arv Z h r k (.object "java/lang/Object") (4 : Int32) [(.ref el0), (.ref el1), (.ref el2), (.ref el3)] .null ∧ Exa Z h r "[Ljava/lang/Object;" ∧ Ovr Z k "java/lang/Object"
set_option maxRecDepth 65536 in
set_option maxHeartbeats 40000000 in
theorem rmcof24 (l : Launch) (Z : State) (a0 : Array Value) (hw : own_H a0 Z) (ws : List Jvm.Cond) (ed mr : Addr) (kd : ClassId) (el0 el1 el2 el3 : Addr) (h0 : Heap) (n0 : Nat) (O0 : Old Z n0 h0) (Ad : Arv Z h0 ed kd (.object "java/lang/Object") (10 : Int32) [(.ref el0), (.ref el1), (.ref el2), (.ref el3), .null, .null, .null, .null, .null, .null] .null) (Ed : Exa Z h0 ed "[Ljava/lang/Object;") (Mr : own_Mir Z "[Ljava/lang/Object;" mr) (B0 : Exa Z Z.heap el0 "java/math/BigDecimal") (B1 : Exa Z Z.heap el1 "java/math/BigDecimal") (B2 : Exa Z Z.heap el2 "java/math/BigDecimal") (B3 : Exa Z Z.heap el3 "java/math/BigDecimal") :
    own_M l (⟨"java/util/Arrays", "copyOf", "([Ljava/lang/Object;I)[Ljava/lang/Object;"⟩ : MethodName) jdk_65_method_119_code 2 (some (.array (.object "java/lang/Object"))) ws (own_R 2 1 4 66) Z #[(.ref ed), (.int (4 : Int32))] h0 (Qcof24 Z ed mr kd el0 el1 el2 el3 h0 n0) := by
  refine own_body (plainFor_of_name pn_java_util_Arrays) (fun m => ef_cof24 m ed (4 : Int32)) ?_
  intro p e s m below meth c s₁ Bd hx hby hml hown hnm X0 e0 hZ
  have N0 := Fr.nil n0
  refine own_g s₁ (mkF m 3 #[rv ed, iv (4 : Int32)] [(.ref ed), (.int (4 : Int32)), (.ref ed)]) (fun _ kq => XS.aloadN X0.here hx rfl (hb hby d34_0) rfl rfl (XS.iloadN X0.here hx rfl (hb hby d34_1) rfl (XS.aloadN X0.here hx rfl (hb hby d34_2) rfl rfl kq))) ?_
  obtain ⟨T1, X1, e1, st1⟩ := own_gcls X0 hx hZ hown (own_W225 hw) (own_W226 hw) (own_W228 hw) (own_W227 hw) (own_W229 hw) e0 Ed Mr (g := (mkF m 3 #[rv ed, iv (4 : Int32)] [(.ref ed), (.int (4 : Int32)), (.ref ed)])) rfl (by rw [hml]; rfl) rfl (hb hby d34_3) (by decide) (W := 2) (by show 2 * 0 + _ ≤ _; exact Nat.le_of_eq rfl) (by decide)
  refine own_g T1 (mkF m 6 #[rv ed, iv (4 : Int32)] [(.ref mr), (.int (4 : Int32)), (.ref ed)]) st1 ?_
  obtain ⟨_, T2, L2, X2, ⟨r2, kr2, rfl, Nq2, Kc2, gr2, szr2, Ar2, Er2, Or2⟩, st2⟩ := own_cS X1 hx hZ hown (own_W231 hw) (own_W232 hw) (own_W223 hw) (own_W233 hw) (rmcof34 l Z a0 hw [] ed mr kd el0 el1 el2 el3 h0 n0 O0 Ad Ed Mr B0 B1 B2 B3) e1 (lenOf pd_Ljava_lang_Object_ILjava_lang_Class___Ljava_lang_Object_246 rfl) (g := (mkF m 6 #[rv ed, iv (4 : Int32)] [(.ref mr), (.int (4 : Int32)), (.ref ed)])) (argsL := [(.ref ed), (.int (4 : Int32)), (.ref mr)]) (rest := []) (W := 0) rfl rfl (hb hby d34_6) (by rw [hml]; rfl) (by show 2 * 0 + _ ≤ _; exact Nat.le_of_eq rfl) rfl (by decide) (by decide) (by decide) (by decide) (by decide)
  have N3 := Fr.app N0 Nq2
  refine own_t T2 (mkF m 9 #[rv ed, iv (4 : Int32)] [(.ref r2)]) st2 ?_
  have K4 : Keep h0 _ [] := ((Keep.refl h0 []).trans Kc2 all0)
  refine own_out X2 Bd.notSynchronized (v := (some (.ref r2))) (fun h => by rw [Bd.returns] at h; cases h) (fun fs hr => own_retA X2 hx Bd.returns rfl rfl rfl (hb hby d34_9) hr) ?_ (by decide) (by decide)
  exact ⟨_, _, rfl, N3, K4, gr2, szr2, Ar2, Er2, Or2⟩
theorem ef_toa4 (m : MethodId) (x0 : Addr) : entryFrame m #[(.ref x0)] 1 = mkF m 0 #[.val (.ref x0)] [] := by first | (simp [entryFrame, mkF, argsToLocals, Value.category]; done) | rfl
def Qtoa4 (Z : State) (a1 : Addr) (ed mr : Addr) (kd : ClassId) (el0 el1 el2 el3 : Addr) (h0 : Heap) (n0 : Nat) (v : Option Value) (h : Heap) (L : List Loc) : Prop := ∃ (r : Addr) (k : ClassId), v = some (.ref r) ∧ Fr n0 L ∧ Keep h0 h [] ∧ n0 ≤ r ∧ h0.size ≤ r ∧ Arv Z h r k (.object "java/lang/Object") (4 : Int32) [(.ref el0), (.ref el1), (.ref el2), (.ref el3)] .null ∧ Exa Z h r "[Ljava/lang/Object;" ∧ Ovr Z k "java/lang/Object"
set_option maxRecDepth 65536 in
set_option maxHeartbeats 40000000 in
theorem rmtoa4 (l : Launch) (Z : State) (a0 : Array Value) (hw : own_H a0 Z) (ws : List Jvm.Cond) (a1 : Addr) (ed mr : Addr) (kd : ClassId) (el0 el1 el2 el3 : Addr) (h0 : Heap) (n0 : Nat) (O0 : Old Z n0 h0) (Fs : Fld Z h0 a1 "java/util/ArrayList" "size" "I" (.int (4 : Int32))) (Fe : Fld Z h0 a1 "java/util/ArrayList" "elementData" "[Ljava/lang/Object;" (.ref ed)) (Ad : Arv Z h0 ed kd (.object "java/lang/Object") (10 : Int32) [(.ref el0), (.ref el1), (.ref el2), (.ref el3), .null, .null, .null, .null, .null, .null] .null) (Ed : Exa Z h0 ed "[Ljava/lang/Object;") (Mr : own_Mir Z "[Ljava/lang/Object;" mr) (B0 : Exa Z Z.heap el0 "java/math/BigDecimal") (B1 : Exa Z Z.heap el1 "java/math/BigDecimal") (B2 : Exa Z Z.heap el2 "java/math/BigDecimal") (B3 : Exa Z Z.heap el3 "java/math/BigDecimal") :
    own_M l (⟨"java/util/ArrayList", "toArray", "()[Ljava/lang/Object;"⟩ : MethodName) jdk_38_method_16_code 1 (some (.array (.object "java/lang/Object"))) ws (own_R 3 1 4 79) Z #[(.ref a1)] h0 (Qtoa4 Z a1 ed mr kd el0 el1 el2 el3 h0 n0) := by
  refine own_body (plainFor_of_name pn_java_util_ArrayList) (fun m => ef_toa4 m a1) ?_
  intro p e s m below meth c s₁ Bd hx hby hml hown hnm X0 e0 hZ
  have N0 := Fr.nil n0
  refine own_g s₁ (mkF m 1 #[rv a1] [(.ref a1)]) (fun _ kq => XS.aloadN X0.here hx rfl (hb hby d33_0) rfl rfl kq) ?_
  obtain ⟨T1, X1, e1, st1⟩ := getF X0 hx hZ hown (host := "") (Or.inl (own_W34 hw)) Via.refl e0 Fe (g := (mkF m 1 #[rv a1] [(.ref a1)])) rfl rfl (hb hby d33_1)
  refine own_g T1 (mkF m 4 #[rv a1] [(.ref ed)]) st1 ?_
  refine own_g T1 (mkF m 5 #[rv a1] [(.ref a1), (.ref ed)]) (fun _ kq => XS.aloadN X1.here hx rfl (hb hby d33_4) rfl rfl kq) ?_
  obtain ⟨T2, X2, e2, st2⟩ := getF X1 hx hZ hown (host := "") (Or.inl (own_W43 hw)) Via.refl e1 Fs (g := (mkF m 5 #[rv a1] [(.ref a1), (.ref ed)])) rfl rfl (hb hby d33_5)
  refine own_g T2 (mkF m 8 #[rv a1] [(.int (4 : Int32)), (.ref ed)]) st2 ?_
  obtain ⟨_, T3, L3, X3, ⟨r3, kr3, rfl, Nq3, Kc3, gr3, szr3, Ar3, Er3, Or3⟩, st3⟩ := own_cS X2 hx hZ hown (own_W221 hw) (own_W222 hw) (own_W223 hw) (own_W224 hw) (rmcof24 l Z a0 hw [] ed mr kd el0 el1 el2 el3 h0 n0 O0 Ad Ed Mr B0 B1 B2 B3) e2 (lenOf pd_Ljava_lang_Object_I__Ljava_lang_Object_673 rfl) (g := (mkF m 8 #[rv a1] [(.int (4 : Int32)), (.ref ed)])) (argsL := [(.ref ed), (.int (4 : Int32))]) (rest := []) (W := 0) rfl rfl (hb hby d33_8) (by rw [hml]; rfl) (by show 2 * 0 + _ ≤ _; exact Nat.le_of_eq rfl) rfl (by decide) (by decide) (by decide) (by decide) (by decide)
  have N4 := Fr.app N0 Nq3
  refine own_t T3 (mkF m 11 #[rv a1] [(.ref r3)]) st3 ?_
  have K5 : Keep h0 _ [] := ((Keep.refl h0 []).trans Kc3 all0)
  refine own_out X3 Bd.notSynchronized (v := (some (.ref r3))) (fun h => by rw [Bd.returns] at h; cases h) (fun fs hr => own_retA X3 hx Bd.returns rfl rfl rfl (hb hby d33_11) hr) ?_ (by decide) (by decide)
  exact ⟨_, _, rfl, N4, K5, gr3, szr3, Ar3, Er3, Or3⟩
theorem d47_0 : decode jdk_44_method_1_code 0 = .ok (.aload_n 0, 1) := by decide +kernel
theorem d47_1 : decode jdk_44_method_1_code 1 = .ok (.invokespecial 1, 3) := by decide +kernel
def own_W264 {a0 Z} (hw : own_H a0 Z) := hw _ (List.mem_of_getElem? (i := 264) rfl)
def own_W313 {a0 Z} (hw : own_H a0 Z) := hw _ (List.mem_of_getElem? (i := 313) rfl)
def own_W263 {a0 Z} (hw : own_H a0 Z) := hw _ (List.mem_of_getElem? (i := 263) rfl)
def own_W260 {a0 Z} (hw : own_H a0 Z) := hw _ (List.mem_of_getElem? (i := 260) rfl)
theorem d47_4 : decode jdk_44_method_1_code 4 = .ok (.aload_n 0, 1) := by decide +kernel
theorem d47_5 : decode jdk_44_method_1_code 5 = .ok (.aload_n 1, 1) := by decide +kernel
theorem d47_6 : decode jdk_44_method_1_code 6 = .ok (.invokestatic 7, 3) := by decide +kernel
def own_W252 {a0 Z} (hw : own_H a0 Z) := hw _ (List.mem_of_getElem? (i := 252) rfl)
def own_W317 {a0 Z} (hw : own_H a0 Z) := hw _ (List.mem_of_getElem? (i := 317) rfl)
theorem pd_Ljava_lang_Object__Ljava_lang_Object_418 : parseMethodDescriptor "(Ljava/lang/Object;)Ljava/lang/Object;" = some ⟨[(.object "java/lang/Object")], some (.object "java/lang/Object")⟩ := by decide +kernel
def own_W251 {a0 Z} (hw : own_H a0 Z) := hw _ (List.mem_of_getElem? (i := 251) rfl)
def own_W318 {a0 Z} (hw : own_H a0 Z) := hw _ (List.mem_of_getElem? (i := 318) rfl)
theorem d47_9 : decode jdk_44_method_1_code 9 = .ok (.putfield 13, 3) := by decide +kernel
def own_W319 {a0 Z} (hw : own_H a0 Z) := hw _ (List.mem_of_getElem? (i := 319) rfl)
def own_W307 {a0 Z} (hw : own_H a0 Z) := hw _ (List.mem_of_getElem? (i := 307) rfl)
theorem d47_12 : decode jdk_44_method_1_code 12 = .ok (.aload_n 0, 1) := by decide +kernel
def own_W320 {a0 Z} (hw : own_H a0 Z) := hw _ (List.mem_of_getElem? (i := 320) rfl)
theorem d47_13 : decode jdk_44_method_1_code 13 = .ok (.getstatic 19, 3) := by decide +kernel
def own_W321 {a0 Z} (hw : own_H a0 Z) := hw _ (List.mem_of_getElem? (i := 321) rfl)
theorem d47_16 : decode jdk_44_method_1_code 16 = .ok (.putfield 24, 3) := by decide +kernel
def own_W322 {a0 Z} (hw : own_H a0 Z) := hw _ (List.mem_of_getElem? (i := 322) rfl)
theorem d47_19 : decode jdk_44_method_1_code 19 = .ok (.return_, 1) := by decide +kernel
theorem ef_l12i1 (m : MethodId) (x0 : Addr) (x1 : Addr) : entryFrame m #[(.ref x0), (.ref x1)] 2 = mkF m 0 #[.val (.ref x0), .val (.ref x1)] [] := by first | (simp [entryFrame, mkF, argsToLocals, Value.category]; done) | rfl
def Ql12i1 (Z : State) (a1 we : Addr) (el0 : Addr) (h0 : Heap) (n0 : Nat) (v : Option Value) (h : Heap) (L : List Loc) : Prop := v = none ∧ Fr n0 L ∧ Keep h0 h [a1] ∧ Fld Z h a1 "java/util/ImmutableCollections$List12" "e0" "Ljava/lang/Object;" (.ref el0) ∧ Fld Z h a1 "java/util/ImmutableCollections$List12" "e1" "Ljava/lang/Object;" (.ref we)
theorem pn_java_util_ImmutableCollections_List12 : plainName "java/util/ImmutableCollections$List12" = true := by first | (simp [plainName, overriddenIn]; done) | decide +kernel
set_option maxRecDepth 65536 in
set_option maxHeartbeats 40000000 in
theorem rml12i1 (l : Launch) (Z : State) (a0 : Array Value) (hw : own_H a0 Z) (ws : List Jvm.Cond) (a1 we : Addr) (el0 : Addr) (h0 : Heap) (n0 : Nat) (O0 : Old Z n0 h0) (Ea : Exa Z h0 a1 "java/util/ImmutableCollections$List12") (F0 : Fld Z h0 a1 "java/util/ImmutableCollections$List12" "e0" "Ljava/lang/Object;" .null) (F1 : Fld Z h0 a1 "java/util/ImmutableCollections$List12" "e1" "Ljava/lang/Object;" .null) (ga : n0 ≤ a1) (Sem : Sta Z Z.heap "java/util/ImmutableCollections" "EMPTY" "Ljava/lang/Object;" (.ref we)) :
    own_M l (⟨"java/util/ImmutableCollections$List12", "<init>", "(Ljava/lang/Object;)V"⟩ : MethodName) jdk_44_method_1_code 2 none ws (own_R 4 0 0 48) Z #[(.ref a1), (.ref el0)] h0 (Ql12i1 Z a1 we el0 h0 n0) := by
  refine own_body (plainFor_of_name pn_java_util_ImmutableCollections_List12) (fun m => ef_l12i1 m a1 el0) ?_
  intro p e s m below meth c s₁ Bd hx hby hml hown hnm X0 e0 hZ
  have N0 := Fr.nil n0
  refine own_g s₁ (mkF m 1 #[rv a1, rv el0] [(.ref a1)]) (fun _ kq => XS.aloadN X0.here hx rfl (hb hby d47_0) rfl rfl kq) ?_
  obtain ⟨_, T1, L1, X1, ⟨rfl, Nq1, hh1⟩, st1⟩ := own_cI X0 hx hZ hown (own_W313 hw) (own_W260 hw) (own_W263 hw) (own_W264 hw) (rmaiml l Z a0 hw [] a1 h0 n0 O0) e0 (lenOf pd_V_167 rfl) (g := (mkF m 1 #[rv a1, rv el0] [(.ref a1)])) (argsL := []) (rest := []) (W := 0) rfl rfl (hb hby d47_1) (by rw [hml]; rfl) (by show 2 * 0 + _ ≤ _; exact Nat.le_of_eq rfl) rfl rfl (by decide) (by decide) (by decide) (by decide) (by decide)
  have N2 := Fr.app N0 Nq1
  refine own_t T1 (mkF m 4 #[rv a1, rv el0] []) st1 ?_
  refine own_g T1 (mkF m 6 #[rv a1, rv el0] [(.ref el0), (.ref a1)]) (fun _ kq => XS.aloadN X1.here hx rfl (hb hby d47_4) rfl rfl (XS.aloadN X1.here hx rfl (hb hby d47_5) rfl rfl kq)) ?_
  obtain ⟨_, T3, L3, X3, ⟨rfl, Nq3, hh3⟩, st3⟩ := own_cS X1 hx hZ hown (own_W317 hw) (own_W251 hw) (own_W162 hw) (own_W252 hw) (rmrnn l Z a0 hw [] el0 h0 n0 O0) hh1 (lenOf pd_Ljava_lang_Object__Ljava_lang_Object_418 rfl) (g := (mkF m 6 #[rv a1, rv el0] [(.ref el0), (.ref a1)])) (argsL := [(.ref el0)]) (rest := [(.ref a1)]) (W := 1) rfl rfl (hb hby d47_6) (by rw [hml]; rfl) (by show 2 * 0 + _ ≤ _; exact Nat.le_of_eq rfl) rfl (by decide) (by decide) (by decide) (by decide) (by decide)
  have N4 := Fr.app N2 Nq3
  refine own_t T3 (mkF m 9 #[rv a1, rv el0] [(.ref el0), (.ref a1)]) st3 ?_
  obtain ⟨T5, h5, X5, e5, W5, st5⟩ := putF X3 hx hZ hown (host := "") (Or.inl (own_W318 hw)) Via.refl hh3 F0 Ea (Or.inr ⟨(own_W319 hw), rfl, hnm⟩) (own_W307 hw) (ty := (.object "java/lang/Object")) (by decide) rfl rfl (g := (mkF m 9 #[rv a1, rv el0] [(.ref el0), (.ref a1)])) rfl rfl (hb hby d47_9)
  have Fw5 := Fld.same W5 F0
  have N6 := Fr.snoc X5 N4 ga
  refine own_g T5 (mkF m 12 #[rv a1, rv el0] []) st5 ?_
  refine own_g T5 (mkF m 13 #[rv a1, rv el0] [(.ref a1)]) (fun _ kq => XS.aloadN X5.here hx rfl (hb hby d47_12) rfl rfl kq) ?_
  have O7 := (O0.wr W5 ga)
  obtain ⟨T8, X8, e8, st8⟩ := getS2 X5 hx hZ hown (Or.inr (own_W320 hw)) Via.refl e5 (Sem.ext O7.2) (g := (mkF m 13 #[rv a1, rv el0] [(.ref a1)])) rfl (hb hby d47_13)
  refine own_g T8 (mkF m 16 #[rv a1, rv el0] [(.ref we), (.ref a1)]) st8 ?_
  have f9 := (Ea.wr W5)
  have f10 := (F1.other W5 (Or.inr (slot_ne (Or.inr (own_W322 hw)) (Or.inr (own_W319 hw)) (by decide) (t := (.object "java/lang/Object")) (t' := (.object "java/lang/Object")) (by decide) (by decide))))
  obtain ⟨T11, h11, X11, e11, W11, st11⟩ := putF X8 hx hZ hown (host := "") (Or.inl (own_W321 hw)) Via.refl e8 f10 f9 (Or.inr ⟨(own_W322 hw), rfl, hnm⟩) (own_W307 hw) (ty := (.object "java/lang/Object")) (by decide) rfl rfl (g := (mkF m 16 #[rv a1, rv el0] [(.ref we), (.ref a1)])) rfl rfl (hb hby d47_16)
  have Fw11 := Fld.same W11 f10
  have N12 := Fr.snoc X11 N6 ga
  refine own_g T11 (mkF m 19 #[rv a1, rv el0] []) st11 ?_
  have K13 : Keep h0 _ [a1] := (((Keep.refl h0 [a1]).wr W5 (Or.inl (List.mem_of_getElem? (i := 0) rfl))).wr W11 (Or.inl (List.mem_of_getElem? (i := 0) rfl)))
  have f14 := (Fw5.other W11 (Or.inr (slot_ne (Or.inr (own_W319 hw)) (Or.inr (own_W322 hw)) (by decide) (t := (.object "java/lang/Object")) (t' := (.object "java/lang/Object")) (by decide) (by decide))))
  refine own_out X11 Bd.notSynchronized (v := none) (fun _ => rfl) (fun fs hr => X11.returnOut hx Bd.returns (hb hby d47_19) hr) ?_ (by decide) (by decide)
  rw [e11]
  exact ⟨rfl, N12, K13, f14, Fw11⟩
theorem d50_0 : decode jdk_44_method_2_code 0 = .ok (.aload_n 0, 1) := by decide +kernel
theorem d50_1 : decode jdk_44_method_2_code 1 = .ok (.invokespecial 1, 3) := by decide +kernel
theorem d50_4 : decode jdk_44_method_2_code 4 = .ok (.aload_n 0, 1) := by decide +kernel
theorem d50_5 : decode jdk_44_method_2_code 5 = .ok (.aload_n 1, 1) := by decide +kernel
theorem d50_6 : decode jdk_44_method_2_code 6 = .ok (.invokestatic 7, 3) := by decide +kernel
theorem d50_9 : decode jdk_44_method_2_code 9 = .ok (.putfield 13, 3) := by decide +kernel
theorem d50_12 : decode jdk_44_method_2_code 12 = .ok (.aload_n 0, 1) := by decide +kernel
theorem d50_13 : decode jdk_44_method_2_code 13 = .ok (.aload_n 2, 1) := by decide +kernel
theorem d50_14 : decode jdk_44_method_2_code 14 = .ok (.invokestatic 7, 3) := by decide +kernel
theorem d50_17 : decode jdk_44_method_2_code 17 = .ok (.putfield 24, 3) := by decide +kernel
theorem d50_20 : decode jdk_44_method_2_code 20 = .ok (.return_, 1) := by decide +kernel
theorem ef_l12i2 (m : MethodId) (x0 : Addr) (x1 : Addr) (x2 : Addr) : entryFrame m #[(.ref x0), (.ref x1), (.ref x2)] 3 = mkF m 0 #[.val (.ref x0), .val (.ref x1), .val (.ref x2)] [] := by first | (simp [entryFrame, mkF, argsToLocals, Value.category]; done) | rfl
def Ql12i2 (Z : State) (a1 we : Addr) (el0 el1 : Addr) (h0 : Heap) (n0 : Nat) (v : Option Value) (h : Heap) (L : List Loc) : Prop := v = none ∧ Fr n0 L ∧ Keep h0 h [a1] ∧ Fld Z h a1 "java/util/ImmutableCollections$List12" "e0" "Ljava/lang/Object;" (.ref el0) ∧ Fld Z h a1 "java/util/ImmutableCollections$List12" "e1" "Ljava/lang/Object;" (.ref el1)
set_option maxRecDepth 65536 in
set_option maxHeartbeats 40000000 in
theorem rml12i2 (l : Launch) (Z : State) (a0 : Array Value) (hw : own_H a0 Z) (ws : List Jvm.Cond) (a1 we : Addr) (el0 el1 : Addr) (h0 : Heap) (n0 : Nat) (O0 : Old Z n0 h0) (Ea : Exa Z h0 a1 "java/util/ImmutableCollections$List12") (F0 : Fld Z h0 a1 "java/util/ImmutableCollections$List12" "e0" "Ljava/lang/Object;" .null) (F1 : Fld Z h0 a1 "java/util/ImmutableCollections$List12" "e1" "Ljava/lang/Object;" .null) (ga : n0 ≤ a1) :
    own_M l (⟨"java/util/ImmutableCollections$List12", "<init>", "(Ljava/lang/Object;Ljava/lang/Object;)V"⟩ : MethodName) jdk_44_method_2_code 3 none ws (own_R 4 0 0 48) Z #[(.ref a1), (.ref el0), (.ref el1)] h0 (Ql12i2 Z a1 we el0 el1 h0 n0) := by
  refine own_body (plainFor_of_name pn_java_util_ImmutableCollections_List12) (fun m => ef_l12i2 m a1 el0 el1) ?_
  intro p e s m below meth c s₁ Bd hx hby hml hown hnm X0 e0 hZ
  have N0 := Fr.nil n0
  refine own_g s₁ (mkF m 1 #[rv a1, rv el0, rv el1] [(.ref a1)]) (fun _ kq => XS.aloadN X0.here hx rfl (hb hby d50_0) rfl rfl kq) ?_
  obtain ⟨_, T1, L1, X1, ⟨rfl, Nq1, hh1⟩, st1⟩ := own_cI X0 hx hZ hown (own_W313 hw) (own_W260 hw) (own_W263 hw) (own_W264 hw) (rmaiml l Z a0 hw [] a1 h0 n0 O0) e0 (lenOf pd_V_167 rfl) (g := (mkF m 1 #[rv a1, rv el0, rv el1] [(.ref a1)])) (argsL := []) (rest := []) (W := 0) rfl rfl (hb hby d50_1) (by rw [hml]; rfl) (by show 2 * 0 + _ ≤ _; exact Nat.le_of_eq rfl) rfl rfl (by decide) (by decide) (by decide) (by decide) (by decide)
  have N2 := Fr.app N0 Nq1
  refine own_t T1 (mkF m 4 #[rv a1, rv el0, rv el1] []) st1 ?_
  refine own_g T1 (mkF m 6 #[rv a1, rv el0, rv el1] [(.ref el0), (.ref a1)]) (fun _ kq => XS.aloadN X1.here hx rfl (hb hby d50_4) rfl rfl (XS.aloadN X1.here hx rfl (hb hby d50_5) rfl rfl kq)) ?_
  obtain ⟨_, T3, L3, X3, ⟨rfl, Nq3, hh3⟩, st3⟩ := own_cS X1 hx hZ hown (own_W317 hw) (own_W251 hw) (own_W162 hw) (own_W252 hw) (rmrnn l Z a0 hw [] el0 h0 n0 O0) hh1 (lenOf pd_Ljava_lang_Object__Ljava_lang_Object_418 rfl) (g := (mkF m 6 #[rv a1, rv el0, rv el1] [(.ref el0), (.ref a1)])) (argsL := [(.ref el0)]) (rest := [(.ref a1)]) (W := 1) rfl rfl (hb hby d50_6) (by rw [hml]; rfl) (by show 2 * 0 + _ ≤ _; exact Nat.le_of_eq rfl) rfl (by decide) (by decide) (by decide) (by decide) (by decide)
  have N4 := Fr.app N2 Nq3
  refine own_t T3 (mkF m 9 #[rv a1, rv el0, rv el1] [(.ref el0), (.ref a1)]) st3 ?_
  obtain ⟨T5, h5, X5, e5, W5, st5⟩ := putF X3 hx hZ hown (host := "") (Or.inl (own_W318 hw)) Via.refl hh3 F0 Ea (Or.inr ⟨(own_W319 hw), rfl, hnm⟩) (own_W307 hw) (ty := (.object "java/lang/Object")) (by decide) rfl rfl (g := (mkF m 9 #[rv a1, rv el0, rv el1] [(.ref el0), (.ref a1)])) rfl rfl (hb hby d50_9)
  have Fw5 := Fld.same W5 F0
  have N6 := Fr.snoc X5 N4 ga
  refine own_g T5 (mkF m 12 #[rv a1, rv el0, rv el1] []) st5 ?_
  refine own_g T5 (mkF m 14 #[rv a1, rv el0, rv el1] [(.ref el1), (.ref a1)]) (fun _ kq => XS.aloadN X5.here hx rfl (hb hby d50_12) rfl rfl (XS.aloadN X5.here hx rfl (hb hby d50_13) rfl rfl kq)) ?_
  have O7 := (O0.wr W5 ga)
  obtain ⟨_, T8, L8, X8, ⟨rfl, Nq8, hh8⟩, st8⟩ := own_cS X5 hx hZ hown (own_W317 hw) (own_W251 hw) (own_W162 hw) (own_W252 hw) (rmrnn l Z a0 hw [] el1 h5 n0 O7) e5 (lenOf pd_Ljava_lang_Object__Ljava_lang_Object_418 rfl) (g := (mkF m 14 #[rv a1, rv el0, rv el1] [(.ref el1), (.ref a1)])) (argsL := [(.ref el1)]) (rest := [(.ref a1)]) (W := 1) rfl rfl (hb hby d50_14) (by rw [hml]; rfl) (by show 2 * 0 + _ ≤ _; exact Nat.le_of_eq rfl) rfl (by decide) (by decide) (by decide) (by decide) (by decide)
  have N9 := Fr.app N6 Nq8
  refine own_t T8 (mkF m 17 #[rv a1, rv el0, rv el1] [(.ref el1), (.ref a1)]) st8 ?_
  have f10 := (Ea.wr W5)
  have f11 := (F1.other W5 (Or.inr (slot_ne (Or.inr (own_W322 hw)) (Or.inr (own_W319 hw)) (by decide) (t := (.object "java/lang/Object")) (t' := (.object "java/lang/Object")) (by decide) (by decide))))
  obtain ⟨T12, h12, X12, e12, W12, st12⟩ := putF X8 hx hZ hown (host := "") (Or.inl (own_W321 hw)) Via.refl hh8 f11 f10 (Or.inr ⟨(own_W322 hw), rfl, hnm⟩) (own_W307 hw) (ty := (.object "java/lang/Object")) (by decide) rfl rfl (g := (mkF m 17 #[rv a1, rv el0, rv el1] [(.ref el1), (.ref a1)])) rfl rfl (hb hby d50_17)
  have Fw12 := Fld.same W12 f11
  have N13 := Fr.snoc X12 N9 ga
  obtain ⟨LL14, Xp14, Np14⟩ : ∃ LL, Stand p l e (own_R 4 0 0 48) s m #[(.ref a1), (.ref el0), (.ref el1)] below meth c T12 LL 0 0 ∧ Fr n0 LL := ⟨_, X12, N13⟩
  refine own_g T12 (mkF m 20 #[rv a1, rv el0, rv el1] []) st12 ?_
  have K15 : Keep h0 _ [a1] := (((Keep.refl h0 [a1]).wr W5 (Or.inl (List.mem_of_getElem? (i := 0) rfl))).wr W12 (Or.inl (List.mem_of_getElem? (i := 0) rfl)))
  have f16 := (Fw5.other W12 (Or.inr (slot_ne (Or.inr (own_W319 hw)) (Or.inr (own_W322 hw)) (by decide) (t := (.object "java/lang/Object")) (t' := (.object "java/lang/Object")) (by decide) (by decide))))
  refine own_out Xp14 Bd.notSynchronized (v := none) (fun _ => rfl) (fun fs hr => Xp14.returnOut hx Bd.returns (hb hby d50_20) hr) ?_ (by decide) (by decide)
  rw [e12]
  exact ⟨rfl, Np14, K15, f16, Fw12⟩
theorem d40_0 : decode jdk_45_method_1_code 0 = .ok (.aload_n 0, 1) := by decide +kernel
theorem d40_1 : decode jdk_45_method_1_code 1 = .ok (.invokespecial 1, 3) := by decide +kernel
def own_W259 {a0 Z} (hw : own_H a0 Z) := hw _ (List.mem_of_getElem? (i := 259) rfl)
theorem d40_4 : decode jdk_45_method_1_code 4 = .ok (.aload_n 0, 1) := by decide +kernel
theorem d40_5 : decode jdk_45_method_1_code 5 = .ok (.aload_n 1, 1) := by decide +kernel
def own_W273 {a0 Z} (hw : own_H a0 Z) := hw _ (List.mem_of_getElem? (i := 273) rfl)
theorem d40_6 : decode jdk_45_method_1_code 6 = .ok (.putfield 7, 3) := by decide +kernel
def own_W274 {a0 Z} (hw : own_H a0 Z) := hw _ (List.mem_of_getElem? (i := 274) rfl)
def own_W253 {a0 Z} (hw : own_H a0 Z) := hw _ (List.mem_of_getElem? (i := 253) rfl)
theorem d40_9 : decode jdk_45_method_1_code 9 = .ok (.aload_n 0, 1) := by decide +kernel
theorem d40_10 : decode jdk_45_method_1_code 10 = .ok (.iload_n 2, 1) := by decide +kernel
def own_W275 {a0 Z} (hw : own_H a0 Z) := hw _ (List.mem_of_getElem? (i := 275) rfl)
theorem d40_11 : decode jdk_45_method_1_code 11 = .ok (.putfield 13, 3) := by decide +kernel
def own_W276 {a0 Z} (hw : own_H a0 Z) := hw _ (List.mem_of_getElem? (i := 276) rfl)
theorem d40_14 : decode jdk_45_method_1_code 14 = .ok (.return_, 1) := by decide +kernel
theorem ef_lni (m : MethodId) (x0 : Addr) (x1 : Addr) (x2 : Int32) : entryFrame m #[(.ref x0), (.ref x1), (.int x2)] 3 = mkF m 0 #[.val (.ref x0), .val (.ref x1), .val (.int x2)] [] := by first | (simp [entryFrame, mkF, argsToLocals, Value.category]; done) | rfl
def Qlni (Z : State) (a1 ar : Addr) (h0 : Heap) (n0 : Nat) (v : Option Value) (h : Heap) (L : List Loc) : Prop := v = none ∧ Fr n0 L ∧ Keep h0 h [a1] ∧ Fld Z h a1 "java/util/ImmutableCollections$ListN" "elements" "[Ljava/lang/Object;" (.ref ar)
theorem pn_java_util_ImmutableCollections_ListN : plainName "java/util/ImmutableCollections$ListN" = true := by first | (simp [plainName, overriddenIn]; done) | decide +kernel
set_option maxRecDepth 65536 in
set_option maxHeartbeats 40000000 in
theorem rmlni (l : Launch) (Z : State) (a0 : Array Value) (hw : own_H a0 Z) (ws : List Jvm.Cond) (a1 ar : Addr) (h0 : Heap) (n0 : Nat) (O0 : Old Z n0 h0) (Ea : Exa Z h0 a1 "java/util/ImmutableCollections$ListN") (F0 : Fld Z h0 a1 "java/util/ImmutableCollections$ListN" "elements" "[Ljava/lang/Object;" .null) (F1 : Fld Z h0 a1 "java/util/ImmutableCollections$ListN" "allowNulls" "Z" (.int (0 : Int32))) (ga : n0 ≤ a1) :
    own_M l (⟨"java/util/ImmutableCollections$ListN", "<init>", "([Ljava/lang/Object;Z)V"⟩ : MethodName) jdk_45_method_1_code 3 none ws (own_R 4 0 0 48) Z #[(.ref a1), (.ref ar), (.int (0 : Int32))] h0 (Qlni Z a1 ar h0 n0) := by
  refine own_body (plainFor_of_name pn_java_util_ImmutableCollections_ListN) (fun m => ef_lni m a1 ar (0 : Int32)) ?_
  intro p e s m below meth c s₁ Bd hx hby hml hown hnm X0 e0 hZ
  have N0 := Fr.nil n0
  refine own_g s₁ (mkF m 1 #[rv a1, rv ar, iv (0 : Int32)] [(.ref a1)]) (fun _ kq => XS.aloadN X0.here hx rfl (hb hby d40_0) rfl rfl kq) ?_
  obtain ⟨_, T1, L1, X1, ⟨rfl, Nq1, hh1⟩, st1⟩ := own_cI X0 hx hZ hown (own_W259 hw) (own_W260 hw) (own_W263 hw) (own_W264 hw) (rmaiml l Z a0 hw [] a1 h0 n0 O0) e0 (lenOf pd_V_167 rfl) (g := (mkF m 1 #[rv a1, rv ar, iv (0 : Int32)] [(.ref a1)])) (argsL := []) (rest := []) (W := 0) rfl rfl (hb hby d40_1) (by rw [hml]; rfl) (by show 2 * 0 + _ ≤ _; exact Nat.le_of_eq rfl) rfl rfl (by decide) (by decide) (by decide) (by decide) (by decide)
  have N2 := Fr.app N0 Nq1
  refine own_t T1 (mkF m 4 #[rv a1, rv ar, iv (0 : Int32)] []) st1 ?_
  refine own_g T1 (mkF m 6 #[rv a1, rv ar, iv (0 : Int32)] [(.ref ar), (.ref a1)]) (fun _ kq => XS.aloadN X1.here hx rfl (hb hby d40_4) rfl rfl (XS.aloadN X1.here hx rfl (hb hby d40_5) rfl rfl kq)) ?_
  obtain ⟨T3, h3, X3, e3, W3, st3⟩ := putF X1 hx hZ hown (host := "") (Or.inl (own_W273 hw)) Via.refl hh1 F0 Ea (Or.inr ⟨(own_W274 hw), rfl, hnm⟩) (own_W253 hw) (ty := (.array (.object "java/lang/Object"))) (by decide) rfl rfl (g := (mkF m 6 #[rv a1, rv ar, iv (0 : Int32)] [(.ref ar), (.ref a1)])) rfl rfl (hb hby d40_6)
  have Fw3 := Fld.same W3 F0
  have N4 := Fr.snoc X3 N2 ga
  refine own_g T3 (mkF m 9 #[rv a1, rv ar, iv (0 : Int32)] []) st3 ?_
  refine own_g T3 (mkF m 11 #[rv a1, rv ar, iv (0 : Int32)] [(.int (0 : Int32)), (.ref a1)]) (fun _ kq => XS.aloadN X3.here hx rfl (hb hby d40_9) rfl rfl (XS.iloadN X3.here hx rfl (hb hby d40_10) rfl kq)) ?_
  have f5 := (Ea.wr W3)
  have f6 := (F1.other W3 (Or.inr (slot_ne (Or.inr (own_W276 hw)) (Or.inr (own_W274 hw)) (by decide) (t := .boolean) (t' := (.array (.object "java/lang/Object"))) (by decide) (by decide))))
  obtain ⟨T7, h7, X7, e7, W7, st7⟩ := putFN X3 hx hZ hown (own_W275 hw) Via.refl e3 f6 f5 (Or.inr ⟨(own_W276 hw), rfl, hnm⟩) (own_W253 hw) (ty := .boolean) (v' := (.int (0 : Int32))) (by decide) rfl rfl (g := (mkF m 11 #[rv a1, rv ar, iv (0 : Int32)] [(.int (0 : Int32)), (.ref a1)])) rfl rfl (hb hby d40_11)
  have Fw7 := Fld.same W7 f6
  have N8 := Fr.snoc X7 N4 ga
  refine own_g T7 (mkF m 14 #[rv a1, rv ar, iv (0 : Int32)] []) st7 ?_
  have K9 : Keep h0 _ [a1] := (((Keep.refl h0 [a1]).wr W3 (Or.inl (List.mem_of_getElem? (i := 0) rfl))).wr W7 (Or.inl (List.mem_of_getElem? (i := 0) rfl)))
  have f10 := (Fw3.other W7 (Or.inr (slot_ne (Or.inr (own_W274 hw)) (Or.inr (own_W276 hw)) (by decide) (t := (.array (.object "java/lang/Object"))) (t' := .boolean) (by decide) (by decide))))
  refine own_out X7 Bd.notSynchronized (v := none) (fun _ => rfl) (fun fs hr => X7.returnOut hx Bd.returns (hb hby d40_14) hr) ?_ (by decide) (by decide)
  rw [e7]
  exact ⟨rfl, N8, K9, f10⟩
theorem d37_0 : decode jdk_40_method_47_code 0 = .ok (.aload_n 0, 1) := by decide +kernel
theorem d37_1 : decode jdk_40_method_47_code 1 = .ok (.arraylength, 1) := by decide +kernel
theorem d37_2 : decode jdk_40_method_47_code 2 = .ok (.tableswitch 57 0 2 #[26, 32, 43], 26) := by decide +kernel
theorem d37_34 : decode jdk_40_method_47_code 34 = .ok (.new 96, 3) := by decide +kernel
def own_W306 {a0 Z} (hw : own_H a0 Z) := hw _ (List.mem_of_getElem? (i := 306) rfl)
def own_W308 {a0 Z} (hw : own_H a0 Z) := hw _ (List.mem_of_getElem? (i := 308) rfl)
theorem d37_37 : decode jdk_40_method_47_code 37 = .ok (.dup, 1) := by decide +kernel
theorem d37_38 : decode jdk_40_method_47_code 38 = .ok (.aload_n 0, 1) := by decide +kernel
theorem d37_39 : decode jdk_40_method_47_code 39 = .ok (.iconst 0, 1) := by decide +kernel
theorem d37_40 : decode jdk_40_method_47_code 40 = .ok (.aaload, 1) := by decide +kernel
theorem d37_41 : decode jdk_40_method_47_code 41 = .ok (.invokespecial 98, 3) := by decide +kernel
def own_W312 {a0 Z} (hw : own_H a0 Z) := hw _ (List.mem_of_getElem? (i := 312) rfl)
def own_W309 {a0 Z} (hw : own_H a0 Z) := hw _ (List.mem_of_getElem? (i := 309) rfl)
theorem pd_Ljava_lang_Object__V_834 : parseMethodDescriptor "(Ljava/lang/Object;)V" = some ⟨[(.object "java/lang/Object")], none⟩ := by decide +kernel
def own_W310 {a0 Z} (hw : own_H a0 Z) := hw _ (List.mem_of_getElem? (i := 310) rfl)
theorem d37_44 : decode jdk_40_method_47_code 44 = .ok (.areturn, 1) := by decide +kernel
theorem ef_lof1 (m : MethodId) (x0 : Addr) : entryFrame m #[(.ref x0)] 2 = mkF m 0 #[.val (.ref x0), .unset] [] := by first | (simp [entryFrame, mkF, argsToLocals, Value.category]; done) | rfl
def Qlof1 (Z : State) (sr we : Addr) (ks : ClassId) (el0 : Addr) (h0 : Heap) (n0 : Nat) (v : Option Value) (h : Heap) (L : List Loc) : Prop := ∃ (r : Addr), v = some (.ref r) ∧ Fr n0 L ∧ Keep h0 h [] ∧ n0 ≤ r ∧ h0.size ≤ r ∧ Exa Z h r "java/util/ImmutableCollections$List12" ∧ Fld Z h r "java/util/ImmutableCollections$List12" "e0" "Ljava/lang/Object;" (.ref el0) ∧ Fld Z h r "java/util/ImmutableCollections$List12" "e1" "Ljava/lang/Object;" (.ref we)
theorem pn_java_util_List : plainName "java/util/List" = true := by first | (simp [plainName, overriddenIn]; done) | decide +kernel
set_option maxRecDepth 65536 in
set_option maxHeartbeats 40000000 in
theorem rmlof1 (l : Launch) (Z : State) (a0 : Array Value) (hw : own_H a0 Z) (ws : List Jvm.Cond) (sr we : Addr) (ks : ClassId) (el0 : Addr) (h0 : Heap) (n0 : Nat) (O0 : Old Z n0 h0) (As : Arv Z h0 sr ks (.object "java/lang/Object") (1 : Int32) [(.ref el0)] .null) (Sem : Sta Z Z.heap "java/util/ImmutableCollections" "EMPTY" "Ljava/lang/Object;" (.ref we)) (B0 : Exa Z Z.heap el0 "java/math/BigDecimal") :
    own_M l (⟨"java/util/List", "of", "([Ljava/lang/Object;)Ljava/util/List;"⟩ : MethodName) jdk_40_method_47_code 2 (some (.object "java/util/List")) ws (own_R 5 1 2 62) Z #[(.ref sr)] h0 (Qlof1 Z sr we ks el0 h0 n0) := by
  refine own_body (plainFor_of_name pn_java_util_List) (fun m => ef_lof1 m sr) ?_
  intro p e s m below meth c s₁ Bd hx hby hml hown hnm X0 e0 hZ
  have N0 := Fr.nil n0
  refine own_g s₁ (mkF m 1 #[rv sr, .unset] [(.ref sr)]) (fun _ kq => XS.aloadN X0.here hx rfl (hb hby d37_0) rfl rfl kq) ?_
  refine own_g s₁ (mkF m 2 #[rv sr, .unset] [(.int (1 : Int32))]) (own_alen X0 hx hZ e0 As (g := (mkF m 1 #[rv sr, .unset] [(.ref sr)])) rfl rfl (hb hby d37_1)) ?_
  refine own_g s₁ (mkF m 34 #[rv sr, .unset] []) (fun _ kq => XS.tswIn X0.here hx rfl (pc0 := 2) (pc' := 34) rfl (hb hby d37_2) rfl (by decide) (o := 32) rfl (by decide) (by decide) kq) ?_
  obtain ⟨T1, h1, X1, e1, E1, A1, D1, -, st1⟩ := newO X0 hx hZ hown (own_W306 hw) (own_W307 hw) (own_W308 hw) e0 (g := (mkF m 34 #[rv sr, .unset] [])) rfl (hb hby d37_34) (by decide) (by decide)
  obtain ⟨b1, g1⟩ : ∃ z, z = h0.size := ⟨_, rfl⟩
  rw [← g1] at A1 D1 st1
  have ne_sr_b1 : sr ≠ b1 := Nat.ne_of_lt (Nat.lt_of_lt_of_le As.lt (Nat.le_of_eq g1.symm))
  have ne_el0_b1 : el0 ≠ b1 := Nat.ne_of_lt (Nat.lt_of_lt_of_le (B0.ext O0.2).lt (Nat.le_of_eq g1.symm))
  have g_b1 : n0 ≤ b1 := Nat.le_trans (own_old O0) (Nat.le_of_eq g1.symm)
  have sz_b1 : h0.size ≤ b1 := Nat.le_trans (Keep.refl h0 []).1 (Nat.le_of_eq g1.symm)
  have F_e0_b1 : Fld Z h1 b1 "java/util/ImmutableCollections$List12" "e0" "Ljava/lang/Object;" .null := D1 (Or.inr (own_W319 hw)) (ty := (.object "java/lang/Object")) (by decide)
  have F_e1_b1 : Fld Z h1 b1 "java/util/ImmutableCollections$List12" "e1" "Ljava/lang/Object;" .null := D1 (Or.inr (own_W322 hw)) (ty := (.object "java/lang/Object")) (by decide)
  refine own_g T1 (mkF m 37 #[rv sr, .unset] [(.ref b1)]) st1 ?_
  refine own_g T1 (mkF m 40 #[rv sr, .unset] [(.int (0 : Int32)), (.ref sr), (.ref b1), (.ref b1)]) (fun _ kq => XS.dup X1.here hx rfl (hb hby d37_37) rfl rfl (XS.aloadN X1.here hx rfl (hb hby d37_38) rfl rfl (XS.iconst X1.here hx rfl (hb hby d37_39) kq))) ?_
  have f2 := (As.ext E1)
  obtain ⟨cl3, Ar3, q3, S3, Nn3, H3, G3⟩ := id f2
  have hin4 : ¬ ((0 : Int32) < 0 ∨ cl3.slots.size ≤ ((0 : Int32)).toNatClampNeg) := inb_of S3 ⟨by decide, by decide⟩
  have hat4 : cl3.slots[((0 : Int32)).toNatClampNeg]? = some (.ref el0) := Has.at H3 hin4 rfl
  refine own_g T1 (mkF m 41 #[rv sr, .unset] [(.ref el0), (.ref b1), (.ref b1)]) (X1.aaload hx (j := (0 : Int32)) (v := (.ref el0)) (by rw [e1]; exact Ar3.1) (State.isArrayOf_alike hZ.alike Ar3.2.1) rfl Ar3.2.2 hin4 hat4 (g := (mkF m 40 #[rv sr, .unset] [(.int (0 : Int32)), (.ref sr), (.ref b1), (.ref b1)])) rfl rfl (hb hby d37_40)) ?_
  have O5 := (O0.ext E1)
  obtain ⟨_, T6, L6, X6, ⟨rfl, Nq6, Kc6, Fa6, Fb6⟩, st6⟩ := own_cI X1 hx hZ hown (own_W309 hw) (own_W310 hw) (own_W308 hw) (own_W312 hw) (rml12i1 l Z a0 hw [] b1 we el0 h1 n0 O5 A1 F_e0_b1 F_e1_b1 g_b1 Sem) e1 (lenOf pd_Ljava_lang_Object__V_834 rfl) (g := (mkF m 41 #[rv sr, .unset] [(.ref el0), (.ref b1), (.ref b1)])) (argsL := [(.ref el0)]) (rest := [(.ref b1)]) (W := 1) rfl rfl (hb hby d37_41) (by rw [hml]; rfl) (by show 2 * 0 + _ ≤ _; exact Nat.le_of_eq rfl) rfl rfl (by decide) (by decide) (by decide) (by decide) (by decide)
  have N7 := Fr.app N0 Nq6
  refine own_t T6 (mkF m 44 #[rv sr, .unset] [(.ref b1)]) st6 ?_
  have K8 : Keep h0 _ [] := (((Keep.refl h0 []).ext E1).trans Kc6 (allS (Or.inr sz_b1) all0))
  have f9 := (A1.keep Kc6)
  refine own_out X6 Bd.notSynchronized (v := (some (.ref b1))) (fun h => by rw [Bd.returns] at h; cases h) (fun fs hr => own_retA X6 hx Bd.returns rfl rfl rfl (hb hby d37_44) hr) ?_ (by decide) (by decide)
  exact ⟨_, rfl, N7, K8, g_b1, sz_b1, f9, Fa6, Fb6⟩
theorem d32_0 : decode jdk_56_method_3_code 0 = .ok (.aload_n 0, 1) := by decide +kernel
theorem d32_1 : decode jdk_56_method_3_code 1 = .ok (.instanceof 10, 3) := by decide +kernel
def own_W203 {a0 Z} (hw : own_H a0 Z) := hw _ (List.mem_of_getElem? (i := 203) rfl)
def own_W204 {a0 Z} (hw : own_H a0 Z) := hw _ (List.mem_of_getElem? (i := 204) rfl)
def own_W205 {a0 Z} (hw : own_H a0 Z) := hw _ (List.mem_of_getElem? (i := 205) rfl)
def own_W206 {a0 Z} (hw : own_H a0 Z) := hw _ (List.mem_of_getElem? (i := 206) rfl)
def own_W202 {a0 Z} (hw : own_H a0 Z) := hw _ (List.mem_of_getElem? (i := 202) rfl)
theorem d32_4 : decode jdk_56_method_3_code 4 = .ok (.ifCond .ne 22, 3) := by decide +kernel
theorem d32_7 : decode jdk_56_method_3_code 7 = .ok (.aload_n 0, 1) := by decide +kernel
theorem d32_8 : decode jdk_56_method_3_code 8 = .ok (.instanceof 12, 3) := by decide +kernel
def own_W207 {a0 Z} (hw : own_H a0 Z) := hw _ (List.mem_of_getElem? (i := 207) rfl)
theorem d32_11 : decode jdk_56_method_3_code 11 = .ok (.ifCond .eq 20, 3) := by decide +kernel
theorem d32_31 : decode jdk_56_method_3_code 31 = .ok (.aload_n 0, 1) := by decide +kernel
theorem d32_32 : decode jdk_56_method_3_code 32 = .ok (.invokeinterface 20 1, 5) := by decide +kernel
def own_W143 {a0 Z} (hw : own_H a0 Z) := hw _ (List.mem_of_getElem? (i := 143) rfl)
def own_W208 {a0 Z} (hw : own_H a0 Z) := hw _ (List.mem_of_getElem? (i := 208) rfl)
def own_W209 {a0 Z} (hw : own_H a0 Z) := hw _ (List.mem_of_getElem? (i := 209) rfl)
def own_W210 {a0 Z} (hw : own_H a0 Z) := hw _ (List.mem_of_getElem? (i := 210) rfl)
def own_W211 {a0 Z} (hw : own_H a0 Z) := hw _ (List.mem_of_getElem? (i := 211) rfl)
def own_W139 {a0 Z} (hw : own_H a0 Z) := hw _ (List.mem_of_getElem? (i := 139) rfl)
def own_W140 {a0 Z} (hw : own_H a0 Z) := hw _ (List.mem_of_getElem? (i := 140) rfl)
def own_W141 {a0 Z} (hw : own_H a0 Z) := hw _ (List.mem_of_getElem? (i := 141) rfl)
def own_W212 {a0 Z} (hw : own_H a0 Z) := hw _ (List.mem_of_getElem? (i := 212) rfl)
theorem d32_37 : decode jdk_56_method_3_code 37 = .ok (.ifCond .eq 7, 3) := by decide +kernel
theorem d32_44 : decode jdk_56_method_3_code 44 = .ok (.aload_n 0, 1) := by decide +kernel
theorem d32_45 : decode jdk_56_method_3_code 45 = .ok (.invokeinterface 30 1, 5) := by decide +kernel
def own_W220 {a0 Z} (hw : own_H a0 Z) := hw _ (List.mem_of_getElem? (i := 220) rfl)
def own_W213 {a0 Z} (hw : own_H a0 Z) := hw _ (List.mem_of_getElem? (i := 213) rfl)
def own_W214 {a0 Z} (hw : own_H a0 Z) := hw _ (List.mem_of_getElem? (i := 214) rfl)
def own_W215 {a0 Z} (hw : own_H a0 Z) := hw _ (List.mem_of_getElem? (i := 215) rfl)
def own_W216 {a0 Z} (hw : own_H a0 Z) := hw _ (List.mem_of_getElem? (i := 216) rfl)
def own_W217 {a0 Z} (hw : own_H a0 Z) := hw _ (List.mem_of_getElem? (i := 217) rfl)
def own_W218 {a0 Z} (hw : own_H a0 Z) := hw _ (List.mem_of_getElem? (i := 218) rfl)
def own_W219 {a0 Z} (hw : own_H a0 Z) := hw _ (List.mem_of_getElem? (i := 219) rfl)
theorem d32_50 : decode jdk_56_method_3_code 50 = .ok (.invokestatic 34, 3) := by decide +kernel
def own_W245 {a0 Z} (hw : own_H a0 Z) := hw _ (List.mem_of_getElem? (i := 245) rfl)
def own_W243 {a0 Z} (hw : own_H a0 Z) := hw _ (List.mem_of_getElem? (i := 243) rfl)
def own_W196 {a0 Z} (hw : own_H a0 Z) := hw _ (List.mem_of_getElem? (i := 196) rfl)
theorem pd_Ljava_lang_Object__Ljava_util_List_350 : parseMethodDescriptor "([Ljava/lang/Object;)Ljava/util/List;" = some ⟨[(.array (.object "java/lang/Object"))], some (.object "java/util/List")⟩ := by decide +kernel
def own_W244 {a0 Z} (hw : own_H a0 Z) := hw _ (List.mem_of_getElem? (i := 244) rfl)
theorem d32_53 : decode jdk_56_method_3_code 53 = .ok (.areturn, 1) := by decide +kernel
theorem ef_lcp1 (m : MethodId) (x0 : Addr) : entryFrame m #[(.ref x0)] 2 = mkF m 0 #[.val (.ref x0), .unset] [] := by first | (simp [entryFrame, mkF, argsToLocals, Value.category]; done) | rfl
def Qlcp1 (Z : State) (a1 ed mr we : Addr) (kd : ClassId) (el0 : Addr) (h0 : Heap) (n0 : Nat) (v : Option Value) (h : Heap) (L : List Loc) : Prop := ∃ (r : Addr), v = some (.ref r) ∧ Fr n0 L ∧ Keep h0 h [] ∧ n0 ≤ r ∧ h0.size ≤ r ∧ Exa Z h r "java/util/ImmutableCollections$List12" ∧ Fld Z h r "java/util/ImmutableCollections$List12" "e0" "Ljava/lang/Object;" (.ref el0) ∧ Fld Z h r "java/util/ImmutableCollections$List12" "e1" "Ljava/lang/Object;" (.ref we)
theorem pn_java_util_ImmutableCollections : plainName "java/util/ImmutableCollections" = true := by first | (simp [plainName, overriddenIn]; done) | decide +kernel
set_option maxRecDepth 65536 in
set_option maxHeartbeats 40000000 in
theorem rmlcp1 (l : Launch) (Z : State) (a0 : Array Value) (hw : own_H a0 Z) (ws : List Jvm.Cond) (a1 ed mr we : Addr) (kd : ClassId) (el0 : Addr) (h0 : Heap) (n0 : Nat) (O0 : Old Z n0 h0) (Ea : Exa Z h0 a1 "java/util/ArrayList") (Fs : Fld Z h0 a1 "java/util/ArrayList" "size" "I" (.int (1 : Int32))) (Fe : Fld Z h0 a1 "java/util/ArrayList" "elementData" "[Ljava/lang/Object;" (.ref ed)) (Ad : Arv Z h0 ed kd (.object "java/lang/Object") (10 : Int32) [(.ref el0), .null, .null, .null, .null, .null, .null, .null, .null, .null] .null) (Ed : Exa Z h0 ed "[Ljava/lang/Object;") (Mr : own_Mir Z "[Ljava/lang/Object;" mr) (Sem : Sta Z Z.heap "java/util/ImmutableCollections" "EMPTY" "Ljava/lang/Object;" (.ref we)) (B0 : Exa Z Z.heap el0 "java/math/BigDecimal") :
    own_M l (⟨"java/util/ImmutableCollections", "listCopy", "(Ljava/util/Collection;)Ljava/util/List;"⟩ : MethodName) jdk_56_method_3_code 2 (some (.object "java/util/List")) ws (own_R 6 2 3 91) Z #[(.ref a1)] h0 (Qlcp1 Z a1 ed mr we kd el0 h0 n0) := by
  refine own_body (plainFor_of_name pn_java_util_ImmutableCollections) (fun m => ef_lcp1 m a1) ?_
  intro p e s m below meth c s₁ Bd hx hby hml hown hnm X0 e0 hZ
  have N0 := Fr.nil n0
  refine own_g s₁ (mkF m 1 #[rv a1, .unset] [(.ref a1)]) (fun _ kq => XS.aloadN X0.here hx rfl (hb hby d32_0) rfl rfl kq) ?_
  obtain ⟨T1, X1, e1, st1⟩ := instNo X0 hx hZ hown (own_W202 hw) e0 Ea (own_NSno (own_W203 hw) (own_W307 hw) (NS.step (own_W203 hw) (NS.step (own_W204 hw) (NS.step (own_W205 hw) (own_NSroot (own_W206 hw) (own_W307 hw) (by decide)) (by decide)) (by decide)) (by decide)) (by decide)) (g := (mkF m 1 #[rv a1, .unset] [(.ref a1)])) rfl rfl (hb hby d32_1)
  refine own_g T1 (mkF m 4 #[rv a1, .unset] [(.int (0 : Int32))]) st1 ?_
  refine own_g T1 (mkF m 8 #[rv a1, .unset] [(.ref a1)]) (fun _ kq => XS.ifNo X1.here hx rfl (hb hby d32_4) rfl ((if0 _ _).trans (teq ((by decide) : (0 : Int32) = (0 : Int32))).2) (XS.aloadN X1.here hx rfl (hb hby d32_7) rfl rfl kq)) ?_
  obtain ⟨T2, X2, e2, st2⟩ := instNo X1 hx hZ hown (own_W207 hw) e1 Ea (own_NSno (own_W203 hw) (own_W253 hw) (NS.step (own_W203 hw) (NS.step (own_W204 hw) (NS.step (own_W205 hw) (own_NSroot (own_W206 hw) (own_W253 hw) (by decide)) (by decide)) (by decide)) (by decide)) (by decide)) (g := (mkF m 8 #[rv a1, .unset] [(.ref a1)])) rfl rfl (hb hby d32_8)
  refine own_g T2 (mkF m 11 #[rv a1, .unset] [(.int (0 : Int32))]) st2 ?_
  refine own_g T2 (mkF m 32 #[rv a1, .unset] [(.ref a1)]) (fun _ kq => XS.ifYes X2.here hx rfl (pc0 := 11) (pc' := 31) rfl (hb hby d32_11) rfl ((if0 _ _).trans (teq ((by decide) : (0 : Int32) = (0 : Int32))).1) (by decide) (by decide) (XS.aloadN X2.here hx rfl (hb hby d32_31) rfl rfl kq)) ?_
  obtain ⟨_, T3, L3, X3, ⟨rfl, Nq3, hh3⟩, st3⟩ := own_cF X2 hx hZ hown (own_W208 hw) (own_W209 hw) (mvT hZ (own_W210 hw)) (own_W211 hw) (own_W139 hw) (own_W140 hw) (own_W141 hw) (own_W212 hw) (own_W12 hw) (own_W143 hw) (rmalisEmpty1 l Z a0 hw [] a1 h0 n0 O0 Fs) e2 Ea (lenOf pd_Z_171 rfl) (g := (mkF m 32 #[rv a1, .unset] [(.ref a1)])) (argsL := []) (rest := []) (W := 0) rfl rfl (hb hby d32_32) (by rw [hml]; rfl) (by show 2 * 0 + _ ≤ _; exact Nat.le_of_eq rfl) rfl (by decide) (by decide) (by decide) (by decide) (by decide)
  have N4 := Fr.app N0 Nq3
  refine own_t T3 (mkF m 37 #[rv a1, .unset] [(.int (0 : Int32))]) st3 ?_
  refine own_g T3 (mkF m 45 #[rv a1, .unset] [(.ref a1)]) (fun _ kq => XS.ifYes X3.here hx rfl (pc0 := 37) (pc' := 44) rfl (hb hby d32_37) rfl ((if0 _ _).trans (teq ((by decide) : (0 : Int32) = (0 : Int32))).1) (by decide) (by decide) (XS.aloadN X3.here hx rfl (hb hby d32_44) rfl rfl kq)) ?_
  obtain ⟨_, T5, L5, X5, ⟨r5, kr5, rfl, Nq5, Kc5, gr5, szr5, Ar5, Er5, Or5⟩, st5⟩ := own_cF X3 hx hZ hown (own_W213 hw) (own_W214 hw) (mvT hZ (own_W215 hw)) (own_W216 hw) (own_W217 hw) (own_W218 hw) (own_W219 hw) (own_W212 hw) (own_W12 hw) (own_W220 hw) (rmtoa1 l Z a0 hw [] a1 ed mr kd el0 h0 n0 O0 Fs Fe Ad Ed Mr B0) hh3 Ea (lenOf pd_Ljava_lang_Object_839 rfl) (g := (mkF m 45 #[rv a1, .unset] [(.ref a1)])) (argsL := []) (rest := []) (W := 0) rfl rfl (hb hby d32_45) (by rw [hml]; rfl) (by show 2 * 0 + _ ≤ _; exact Nat.le_of_eq rfl) rfl (by decide) (by decide) (by decide) (by decide) (by decide)
  have N6 := Fr.app N4 Nq5
  refine own_t T5 (mkF m 50 #[rv a1, .unset] [(.ref r5)]) st5 ?_
  have K7 : Keep h0 _ [] := ((Keep.refl h0 []).trans Kc5 all0)
  have szq := K7
  have O8 := (O0.keep Kc5 all0)
  obtain ⟨_, T9, L9, X9, ⟨r9, rfl, Nq9, Kc9, gr9, szr9, La9, Lb9, Lc_9⟩, st9⟩ := own_cS X5 hx hZ hown (own_W243 hw) (own_W244 hw) (own_W196 hw) (own_W245 hw) (rmlof1 l Z a0 hw [] r5 we kr5 el0 T5.heap n0 O8 Ar5 Sem B0) rfl (lenOf pd_Ljava_lang_Object__Ljava_util_List_350 rfl) (g := (mkF m 50 #[rv a1, .unset] [(.ref r5)])) (argsL := [(.ref r5)]) (rest := []) (W := 0) rfl rfl (hb hby d32_50) (by rw [hml]; rfl) (by show 2 * 0 + _ ≤ _; exact Nat.le_of_eq rfl) rfl (by decide) (by decide) (by decide) (by decide) (by decide)
  have N10 := Fr.app N6 Nq9
  refine own_t T9 (mkF m 53 #[rv a1, .unset] [(.ref r9)]) st9 ?_
  have K11 : Keep h0 _ [] := (K7.trans Kc9 all0)
  refine own_out X9 Bd.notSynchronized (v := (some (.ref r9))) (fun h => by rw [Bd.returns] at h; cases h) (fun fs hr => own_retA X9 hx Bd.returns rfl rfl rfl (hb hby d32_53) hr) ?_ (by decide) (by decide)
  exact ⟨_, rfl, N10, K11, gr9, Nat.le_trans szq.1 szr9, La9, Lb9, Lc_9⟩
theorem d31_0 : decode jdk_40_method_48_code 0 = .ok (.aload_n 0, 1) := by decide +kernel
theorem d31_1 : decode jdk_40_method_48_code 1 = .ok (.invokestatic 112, 3) := by decide +kernel
def own_W201 {a0 Z} (hw : own_H a0 Z) := hw _ (List.mem_of_getElem? (i := 201) rfl)
def own_W198 {a0 Z} (hw : own_H a0 Z) := hw _ (List.mem_of_getElem? (i := 198) rfl)
def own_W200 {a0 Z} (hw : own_H a0 Z) := hw _ (List.mem_of_getElem? (i := 200) rfl)
theorem pd_Ljava_util_Collection__Ljava_util_List_724 : parseMethodDescriptor "(Ljava/util/Collection;)Ljava/util/List;" = some ⟨[(.object "java/util/Collection")], some (.object "java/util/List")⟩ := by decide +kernel
def own_W199 {a0 Z} (hw : own_H a0 Z) := hw _ (List.mem_of_getElem? (i := 199) rfl)
theorem d31_4 : decode jdk_40_method_48_code 4 = .ok (.areturn, 1) := by decide +kernel
theorem ef_lco1 (m : MethodId) (x0 : Addr) : entryFrame m #[(.ref x0)] 1 = mkF m 0 #[.val (.ref x0)] [] := by first | (simp [entryFrame, mkF, argsToLocals, Value.category]; done) | rfl
def Qlco1 (Z : State) (a1 ed mr we : Addr) (kd : ClassId) (el0 : Addr) (h0 : Heap) (n0 : Nat) (v : Option Value) (h : Heap) (L : List Loc) : Prop := ∃ (r : Addr), v = some (.ref r) ∧ Fr n0 L ∧ Keep h0 h [] ∧ n0 ≤ r ∧ h0.size ≤ r ∧ Exa Z h r "java/util/ImmutableCollections$List12" ∧ Fld Z h r "java/util/ImmutableCollections$List12" "e0" "Ljava/lang/Object;" (.ref el0) ∧ Fld Z h r "java/util/ImmutableCollections$List12" "e1" "Ljava/lang/Object;" (.ref we)
set_option maxRecDepth 65536 in
set_option maxHeartbeats 40000000 in
theorem rmlco1 (l : Launch) (Z : State) (a0 : Array Value) (hw : own_H a0 Z) (ws : List Jvm.Cond) (a1 ed mr we : Addr) (kd : ClassId) (el0 : Addr) (h0 : Heap) (n0 : Nat) (O0 : Old Z n0 h0) (Ea : Exa Z h0 a1 "java/util/ArrayList") (Fs : Fld Z h0 a1 "java/util/ArrayList" "size" "I" (.int (1 : Int32))) (Fe : Fld Z h0 a1 "java/util/ArrayList" "elementData" "[Ljava/lang/Object;" (.ref ed)) (Ad : Arv Z h0 ed kd (.object "java/lang/Object") (10 : Int32) [(.ref el0), .null, .null, .null, .null, .null, .null, .null, .null, .null] .null) (Ed : Exa Z h0 ed "[Ljava/lang/Object;") (Mr : own_Mir Z "[Ljava/lang/Object;" mr) (Sem : Sta Z Z.heap "java/util/ImmutableCollections" "EMPTY" "Ljava/lang/Object;" (.ref we)) (B0 : Exa Z Z.heap el0 "java/math/BigDecimal") :
    own_M l (⟨"java/util/List", "copyOf", "(Ljava/util/Collection;)Ljava/util/List;"⟩ : MethodName) jdk_40_method_48_code 1 (some (.object "java/util/List")) ws (own_R 7 2 3 104) Z #[(.ref a1)] h0 (Qlco1 Z a1 ed mr we kd el0 h0 n0) := by
  refine own_body (plainFor_of_name pn_java_util_List) (fun m => ef_lco1 m a1) ?_
  intro p e s m below meth c s₁ Bd hx hby hml hown hnm X0 e0 hZ
  have N0 := Fr.nil n0
  refine own_g s₁ (mkF m 1 #[rv a1] [(.ref a1)]) (fun _ kq => XS.aloadN X0.here hx rfl (hb hby d31_0) rfl rfl kq) ?_
  obtain ⟨_, T1, L1, X1, ⟨r1, rfl, Nq1, Kc1, gr1, szr1, La1, Lb1, Lc_1⟩, st1⟩ := own_cS X0 hx hZ hown (own_W198 hw) (own_W199 hw) (own_W200 hw) (own_W201 hw) (rmlcp1 l Z a0 hw [] a1 ed mr we kd el0 h0 n0 O0 Ea Fs Fe Ad Ed Mr Sem B0) e0 (lenOf pd_Ljava_util_Collection__Ljava_util_List_724 rfl) (g := (mkF m 1 #[rv a1] [(.ref a1)])) (argsL := [(.ref a1)]) (rest := []) (W := 0) rfl rfl (hb hby d31_1) (by rw [hml]; rfl) (by show 2 * 0 + _ ≤ _; exact Nat.le_of_eq rfl) rfl (by decide) (by decide) (by decide) (by decide) (by decide)
  have N2 := Fr.app N0 Nq1
  refine own_t T1 (mkF m 4 #[rv a1] [(.ref r1)]) st1 ?_
  have K3 : Keep h0 _ [] := ((Keep.refl h0 []).trans Kc1 all0)
  refine own_out X1 Bd.notSynchronized (v := (some (.ref r1))) (fun h => by rw [Bd.returns] at h; cases h) (fun fs hr => own_retA X1 hx Bd.returns rfl rfl rfl (hb hby d31_4) hr) ?_ (by decide) (by decide)
  exact ⟨_, rfl, N2, K3, gr1, szr1, La1, Lb1, Lc_1⟩
theorem d37_45 : decode jdk_40_method_47_code 45 = .ok (.new 96, 3) := by decide +kernel
theorem d37_48 : decode jdk_40_method_47_code 48 = .ok (.dup, 1) := by decide +kernel
theorem d37_49 : decode jdk_40_method_47_code 49 = .ok (.aload_n 0, 1) := by decide +kernel
theorem d37_50 : decode jdk_40_method_47_code 50 = .ok (.iconst 0, 1) := by decide +kernel
theorem d37_51 : decode jdk_40_method_47_code 51 = .ok (.aaload, 1) := by decide +kernel
theorem d37_52 : decode jdk_40_method_47_code 52 = .ok (.aload_n 0, 1) := by decide +kernel
theorem d37_53 : decode jdk_40_method_47_code 53 = .ok (.iconst 1, 1) := by decide +kernel
theorem d37_54 : decode jdk_40_method_47_code 54 = .ok (.aaload, 1) := by decide +kernel
theorem d37_55 : decode jdk_40_method_47_code 55 = .ok (.invokespecial 100, 3) := by decide +kernel
def own_W336 {a0 Z} (hw : own_H a0 Z) := hw _ (List.mem_of_getElem? (i := 336) rfl)
def own_W334 {a0 Z} (hw : own_H a0 Z) := hw _ (List.mem_of_getElem? (i := 334) rfl)
theorem pd_Ljava_lang_Object_Ljava_lang_Object__V_504 : parseMethodDescriptor "(Ljava/lang/Object;Ljava/lang/Object;)V" = some ⟨[(.object "java/lang/Object"), (.object "java/lang/Object")], none⟩ := by decide +kernel
def own_W335 {a0 Z} (hw : own_H a0 Z) := hw _ (List.mem_of_getElem? (i := 335) rfl)
theorem d37_58 : decode jdk_40_method_47_code 58 = .ok (.areturn, 1) := by decide +kernel
theorem ef_lof2 (m : MethodId) (x0 : Addr) : entryFrame m #[(.ref x0)] 2 = mkF m 0 #[.val (.ref x0), .unset] [] := by first | (simp [entryFrame, mkF, argsToLocals, Value.category]; done) | rfl
def Qlof2 (Z : State) (sr we : Addr) (ks : ClassId) (el0 el1 : Addr) (h0 : Heap) (n0 : Nat) (v : Option Value) (h : Heap) (L : List Loc) : Prop := ∃ (r : Addr), v = some (.ref r) ∧ Fr n0 L ∧ Keep h0 h [] ∧ n0 ≤ r ∧ h0.size ≤ r ∧ Exa Z h r "java/util/ImmutableCollections$List12" ∧ Fld Z h r "java/util/ImmutableCollections$List12" "e0" "Ljava/lang/Object;" (.ref el0) ∧ Fld Z h r "java/util/ImmutableCollections$List12" "e1" "Ljava/lang/Object;" (.ref el1)
set_option maxRecDepth 65536 in
set_option maxHeartbeats 40000000 in
theorem rmlof2 (l : Launch) (Z : State) (a0 : Array Value) (hw : own_H a0 Z) (ws : List Jvm.Cond) (sr we : Addr) (ks : ClassId) (el0 el1 : Addr) (h0 : Heap) (n0 : Nat) (O0 : Old Z n0 h0) (As : Arv Z h0 sr ks (.object "java/lang/Object") (2 : Int32) [(.ref el0), (.ref el1)] .null) (Sem : Sta Z Z.heap "java/util/ImmutableCollections" "EMPTY" "Ljava/lang/Object;" (.ref we)) (B0 : Exa Z Z.heap el0 "java/math/BigDecimal") (B1 : Exa Z Z.heap el1 "java/math/BigDecimal") :
    own_M l (⟨"java/util/List", "of", "([Ljava/lang/Object;)Ljava/util/List;"⟩ : MethodName) jdk_40_method_47_code 2 (some (.object "java/util/List")) ws (own_R 5 1 2 63) Z #[(.ref sr)] h0 (Qlof2 Z sr we ks el0 el1 h0 n0) := by
  refine own_body (plainFor_of_name pn_java_util_List) (fun m => ef_lof2 m sr) ?_
  intro p e s m below meth c s₁ Bd hx hby hml hown hnm X0 e0 hZ
  have N0 := Fr.nil n0
  refine own_g s₁ (mkF m 1 #[rv sr, .unset] [(.ref sr)]) (fun _ kq => XS.aloadN X0.here hx rfl (hb hby d37_0) rfl rfl kq) ?_
  refine own_g s₁ (mkF m 2 #[rv sr, .unset] [(.int (2 : Int32))]) (own_alen X0 hx hZ e0 As (g := (mkF m 1 #[rv sr, .unset] [(.ref sr)])) rfl rfl (hb hby d37_1)) ?_
  refine own_g s₁ (mkF m 45 #[rv sr, .unset] []) (fun _ kq => XS.tswIn X0.here hx rfl (pc0 := 2) (pc' := 45) rfl (hb hby d37_2) rfl (by decide) (o := 43) rfl (by decide) (by decide) kq) ?_
  obtain ⟨T1, h1, X1, e1, E1, A1, D1, -, st1⟩ := newO X0 hx hZ hown (own_W306 hw) (own_W307 hw) (own_W308 hw) e0 (g := (mkF m 45 #[rv sr, .unset] [])) rfl (hb hby d37_45) (by decide) (by decide)
  obtain ⟨b1, g1⟩ : ∃ z, z = h0.size := ⟨_, rfl⟩
  rw [← g1] at A1 D1 st1
  have ne_sr_b1 : sr ≠ b1 := Nat.ne_of_lt (Nat.lt_of_lt_of_le As.lt (Nat.le_of_eq g1.symm))
  have ne_el0_b1 : el0 ≠ b1 := Nat.ne_of_lt (Nat.lt_of_lt_of_le (B0.ext O0.2).lt (Nat.le_of_eq g1.symm))
  have ne_el1_b1 : el1 ≠ b1 := Nat.ne_of_lt (Nat.lt_of_lt_of_le (B1.ext O0.2).lt (Nat.le_of_eq g1.symm))
  have g_b1 : n0 ≤ b1 := Nat.le_trans (own_old O0) (Nat.le_of_eq g1.symm)
  have sz_b1 : h0.size ≤ b1 := Nat.le_trans (Keep.refl h0 []).1 (Nat.le_of_eq g1.symm)
  have F_e0_b1 : Fld Z h1 b1 "java/util/ImmutableCollections$List12" "e0" "Ljava/lang/Object;" .null := D1 (Or.inr (own_W319 hw)) (ty := (.object "java/lang/Object")) (by decide)
  have F_e1_b1 : Fld Z h1 b1 "java/util/ImmutableCollections$List12" "e1" "Ljava/lang/Object;" .null := D1 (Or.inr (own_W322 hw)) (ty := (.object "java/lang/Object")) (by decide)
  refine own_g T1 (mkF m 48 #[rv sr, .unset] [(.ref b1)]) st1 ?_
  refine own_g T1 (mkF m 51 #[rv sr, .unset] [(.int (0 : Int32)), (.ref sr), (.ref b1), (.ref b1)]) (fun _ kq => XS.dup X1.here hx rfl (hb hby d37_48) rfl rfl (XS.aloadN X1.here hx rfl (hb hby d37_49) rfl rfl (XS.iconst X1.here hx rfl (hb hby d37_50) kq))) ?_
  have f2 := (As.ext E1)
  obtain ⟨cl3, Ar3, q3, S3, Nn3, H3, G3⟩ := id f2
  have hin4 : ¬ ((0 : Int32) < 0 ∨ cl3.slots.size ≤ ((0 : Int32)).toNatClampNeg) := inb_of S3 ⟨by decide, by decide⟩
  have hat4 : cl3.slots[((0 : Int32)).toNatClampNeg]? = some (.ref el0) := Has.at H3 hin4 rfl
  refine own_g T1 (mkF m 52 #[rv sr, .unset] [(.ref el0), (.ref b1), (.ref b1)]) (X1.aaload hx (j := (0 : Int32)) (v := (.ref el0)) (by rw [e1]; exact Ar3.1) (State.isArrayOf_alike hZ.alike Ar3.2.1) rfl Ar3.2.2 hin4 hat4 (g := (mkF m 51 #[rv sr, .unset] [(.int (0 : Int32)), (.ref sr), (.ref b1), (.ref b1)])) rfl rfl (hb hby d37_51)) ?_
  refine own_g T1 (mkF m 54 #[rv sr, .unset] [(.int (1 : Int32)), (.ref sr), (.ref el0), (.ref b1), (.ref b1)]) (fun _ kq => XS.aloadN X1.here hx rfl (hb hby d37_52) rfl rfl (XS.iconst X1.here hx rfl (hb hby d37_53) kq)) ?_
  obtain ⟨cl5, Ar5, q5, S5, Nn5, H5, G5⟩ := id f2
  have hin6 : ¬ ((1 : Int32) < 0 ∨ cl5.slots.size ≤ ((1 : Int32)).toNatClampNeg) := inb_of S5 ⟨by decide, by decide⟩
  have hat6 : cl5.slots[((1 : Int32)).toNatClampNeg]? = some (.ref el1) := Has.at H5 hin6 rfl
  refine own_g T1 (mkF m 55 #[rv sr, .unset] [(.ref el1), (.ref el0), (.ref b1), (.ref b1)]) (X1.aaload hx (j := (1 : Int32)) (v := (.ref el1)) (by rw [e1]; exact Ar5.1) (State.isArrayOf_alike hZ.alike Ar5.2.1) rfl Ar5.2.2 hin6 hat6 (g := (mkF m 54 #[rv sr, .unset] [(.int (1 : Int32)), (.ref sr), (.ref el0), (.ref b1), (.ref b1)])) rfl rfl (hb hby d37_54)) ?_
  have O7 := (O0.ext E1)
  obtain ⟨_, T8, L8, X8, ⟨rfl, Nq8, Kc8, Fa8, Fb8⟩, st8⟩ := own_cI X1 hx hZ hown (own_W334 hw) (own_W335 hw) (own_W308 hw) (own_W336 hw) (rml12i2 l Z a0 hw [] b1 we el0 el1 h1 n0 O7 A1 F_e0_b1 F_e1_b1 g_b1) e1 (lenOf pd_Ljava_lang_Object_Ljava_lang_Object__V_504 rfl) (g := (mkF m 55 #[rv sr, .unset] [(.ref el1), (.ref el0), (.ref b1), (.ref b1)])) (argsL := [(.ref el0), (.ref el1)]) (rest := [(.ref b1)]) (W := 1) rfl rfl (hb hby d37_55) (by rw [hml]; rfl) (by show 2 * 0 + _ ≤ _; exact Nat.le_of_eq rfl) rfl rfl (by decide) (by decide) (by decide) (by decide) (by decide)
  have N9 := Fr.app N0 Nq8
  refine own_t T8 (mkF m 58 #[rv sr, .unset] [(.ref b1)]) st8 ?_
  have K10 : Keep h0 _ [] := (((Keep.refl h0 []).ext E1).trans Kc8 (allS (Or.inr sz_b1) all0))
  have f11 := (A1.keep Kc8)
  refine own_out X8 Bd.notSynchronized (v := (some (.ref b1))) (fun h => by rw [Bd.returns] at h; cases h) (fun fs hr => own_retA X8 hx Bd.returns rfl rfl rfl (hb hby d37_58) hr) ?_ (by decide) (by decide)
  exact ⟨_, rfl, N9, K10, g_b1, sz_b1, f11, Fa8, Fb8⟩
theorem ef_lcp2 (m : MethodId) (x0 : Addr) : entryFrame m #[(.ref x0)] 2 = mkF m 0 #[.val (.ref x0), .unset] [] := by first | (simp [entryFrame, mkF, argsToLocals, Value.category]; done) | rfl
def Qlcp2 (Z : State) (a1 ed mr we : Addr) (kd : ClassId) (el0 el1 : Addr) (h0 : Heap) (n0 : Nat) (v : Option Value) (h : Heap) (L : List Loc) : Prop := ∃ (r : Addr), v = some (.ref r) ∧ Fr n0 L ∧ Keep h0 h [] ∧ n0 ≤ r ∧ h0.size ≤ r ∧ Exa Z h r "java/util/ImmutableCollections$List12" ∧ Fld Z h r "java/util/ImmutableCollections$List12" "e0" "Ljava/lang/Object;" (.ref el0) ∧ Fld Z h r "java/util/ImmutableCollections$List12" "e1" "Ljava/lang/Object;" (.ref el1)
set_option maxRecDepth 65536 in
set_option maxHeartbeats 40000000 in
theorem rmlcp2 (l : Launch) (Z : State) (a0 : Array Value) (hw : own_H a0 Z) (ws : List Jvm.Cond) (a1 ed mr we : Addr) (kd : ClassId) (el0 el1 : Addr) (h0 : Heap) (n0 : Nat) (O0 : Old Z n0 h0) (Ea : Exa Z h0 a1 "java/util/ArrayList") (Fs : Fld Z h0 a1 "java/util/ArrayList" "size" "I" (.int (2 : Int32))) (Fe : Fld Z h0 a1 "java/util/ArrayList" "elementData" "[Ljava/lang/Object;" (.ref ed)) (Ad : Arv Z h0 ed kd (.object "java/lang/Object") (10 : Int32) [(.ref el0), (.ref el1), .null, .null, .null, .null, .null, .null, .null, .null] .null) (Ed : Exa Z h0 ed "[Ljava/lang/Object;") (Mr : own_Mir Z "[Ljava/lang/Object;" mr) (Sem : Sta Z Z.heap "java/util/ImmutableCollections" "EMPTY" "Ljava/lang/Object;" (.ref we)) (B0 : Exa Z Z.heap el0 "java/math/BigDecimal") (B1 : Exa Z Z.heap el1 "java/math/BigDecimal") :
    own_M l (⟨"java/util/ImmutableCollections", "listCopy", "(Ljava/util/Collection;)Ljava/util/List;"⟩ : MethodName) jdk_56_method_3_code 2 (some (.object "java/util/List")) ws (own_R 6 2 4 91) Z #[(.ref a1)] h0 (Qlcp2 Z a1 ed mr we kd el0 el1 h0 n0) := by
  refine own_body (plainFor_of_name pn_java_util_ImmutableCollections) (fun m => ef_lcp2 m a1) ?_
  intro p e s m below meth c s₁ Bd hx hby hml hown hnm X0 e0 hZ
  have N0 := Fr.nil n0
  refine own_g s₁ (mkF m 1 #[rv a1, .unset] [(.ref a1)]) (fun _ kq => XS.aloadN X0.here hx rfl (hb hby d32_0) rfl rfl kq) ?_
  obtain ⟨T1, X1, e1, st1⟩ := instNo X0 hx hZ hown (own_W202 hw) e0 Ea (own_NSno (own_W203 hw) (own_W307 hw) (NS.step (own_W203 hw) (NS.step (own_W204 hw) (NS.step (own_W205 hw) (own_NSroot (own_W206 hw) (own_W307 hw) (by decide)) (by decide)) (by decide)) (by decide)) (by decide)) (g := (mkF m 1 #[rv a1, .unset] [(.ref a1)])) rfl rfl (hb hby d32_1)
  refine own_g T1 (mkF m 4 #[rv a1, .unset] [(.int (0 : Int32))]) st1 ?_
  refine own_g T1 (mkF m 8 #[rv a1, .unset] [(.ref a1)]) (fun _ kq => XS.ifNo X1.here hx rfl (hb hby d32_4) rfl ((if0 _ _).trans (teq ((by decide) : (0 : Int32) = (0 : Int32))).2) (XS.aloadN X1.here hx rfl (hb hby d32_7) rfl rfl kq)) ?_
  obtain ⟨T2, X2, e2, st2⟩ := instNo X1 hx hZ hown (own_W207 hw) e1 Ea (own_NSno (own_W203 hw) (own_W253 hw) (NS.step (own_W203 hw) (NS.step (own_W204 hw) (NS.step (own_W205 hw) (own_NSroot (own_W206 hw) (own_W253 hw) (by decide)) (by decide)) (by decide)) (by decide)) (by decide)) (g := (mkF m 8 #[rv a1, .unset] [(.ref a1)])) rfl rfl (hb hby d32_8)
  refine own_g T2 (mkF m 11 #[rv a1, .unset] [(.int (0 : Int32))]) st2 ?_
  refine own_g T2 (mkF m 32 #[rv a1, .unset] [(.ref a1)]) (fun _ kq => XS.ifYes X2.here hx rfl (pc0 := 11) (pc' := 31) rfl (hb hby d32_11) rfl ((if0 _ _).trans (teq ((by decide) : (0 : Int32) = (0 : Int32))).1) (by decide) (by decide) (XS.aloadN X2.here hx rfl (hb hby d32_31) rfl rfl kq)) ?_
  obtain ⟨_, T3, L3, X3, ⟨rfl, Nq3, hh3⟩, st3⟩ := own_cF X2 hx hZ hown (own_W208 hw) (own_W209 hw) (mvT hZ (own_W210 hw)) (own_W211 hw) (own_W139 hw) (own_W140 hw) (own_W141 hw) (own_W212 hw) (own_W12 hw) (own_W143 hw) (rmalisEmpty2 l Z a0 hw [] a1 h0 n0 O0 Fs) e2 Ea (lenOf pd_Z_171 rfl) (g := (mkF m 32 #[rv a1, .unset] [(.ref a1)])) (argsL := []) (rest := []) (W := 0) rfl rfl (hb hby d32_32) (by rw [hml]; rfl) (by show 2 * 0 + _ ≤ _; exact Nat.le_of_eq rfl) rfl (by decide) (by decide) (by decide) (by decide) (by decide)
  have N4 := Fr.app N0 Nq3
  refine own_t T3 (mkF m 37 #[rv a1, .unset] [(.int (0 : Int32))]) st3 ?_
  refine own_g T3 (mkF m 45 #[rv a1, .unset] [(.ref a1)]) (fun _ kq => XS.ifYes X3.here hx rfl (pc0 := 37) (pc' := 44) rfl (hb hby d32_37) rfl ((if0 _ _).trans (teq ((by decide) : (0 : Int32) = (0 : Int32))).1) (by decide) (by decide) (XS.aloadN X3.here hx rfl (hb hby d32_44) rfl rfl kq)) ?_
  obtain ⟨_, T5, L5, X5, ⟨r5, kr5, rfl, Nq5, Kc5, gr5, szr5, Ar5, Er5, Or5⟩, st5⟩ := own_cF X3 hx hZ hown (own_W213 hw) (own_W214 hw) (mvT hZ (own_W215 hw)) (own_W216 hw) (own_W217 hw) (own_W218 hw) (own_W219 hw) (own_W212 hw) (own_W12 hw) (own_W220 hw) (rmtoa2 l Z a0 hw [] a1 ed mr kd el0 el1 h0 n0 O0 Fs Fe Ad Ed Mr B0 B1) hh3 Ea (lenOf pd_Ljava_lang_Object_839 rfl) (g := (mkF m 45 #[rv a1, .unset] [(.ref a1)])) (argsL := []) (rest := []) (W := 0) rfl rfl (hb hby d32_45) (by rw [hml]; rfl) (by show 2 * 0 + _ ≤ _; exact Nat.le_of_eq rfl) rfl (by decide) (by decide) (by decide) (by decide) (by decide)
  have N6 := Fr.app N4 Nq5
  refine own_t T5 (mkF m 50 #[rv a1, .unset] [(.ref r5)]) st5 ?_
  have K7 : Keep h0 _ [] := ((Keep.refl h0 []).trans Kc5 all0)
  have szq := K7
  have O8 := (O0.keep Kc5 all0)
  obtain ⟨_, T9, L9, X9, ⟨r9, rfl, Nq9, Kc9, gr9, szr9, La9, Lb9, Lc_9⟩, st9⟩ := own_cS X5 hx hZ hown (own_W243 hw) (own_W244 hw) (own_W196 hw) (own_W245 hw) (rmlof2 l Z a0 hw [] r5 we kr5 el0 el1 T5.heap n0 O8 Ar5 Sem B0 B1) rfl (lenOf pd_Ljava_lang_Object__Ljava_util_List_350 rfl) (g := (mkF m 50 #[rv a1, .unset] [(.ref r5)])) (argsL := [(.ref r5)]) (rest := []) (W := 0) rfl rfl (hb hby d32_50) (by rw [hml]; rfl) (by show 2 * 0 + _ ≤ _; exact Nat.le_of_eq rfl) rfl (by decide) (by decide) (by decide) (by decide) (by decide)
  have N10 := Fr.app N6 Nq9
  refine own_t T9 (mkF m 53 #[rv a1, .unset] [(.ref r9)]) st9 ?_
  have K11 : Keep h0 _ [] := (K7.trans Kc9 all0)
  refine own_out X9 Bd.notSynchronized (v := (some (.ref r9))) (fun h => by rw [Bd.returns] at h; cases h) (fun fs hr => own_retA X9 hx Bd.returns rfl rfl rfl (hb hby d32_53) hr) ?_ (by decide) (by decide)
  exact ⟨_, rfl, N10, K11, gr9, Nat.le_trans szq.1 szr9, La9, Lb9, Lc_9⟩
theorem ef_lco2 (m : MethodId) (x0 : Addr) : entryFrame m #[(.ref x0)] 1 = mkF m 0 #[.val (.ref x0)] [] := by first | (simp [entryFrame, mkF, argsToLocals, Value.category]; done) | rfl
def Qlco2 (Z : State) (a1 ed mr we : Addr) (kd : ClassId) (el0 el1 : Addr) (h0 : Heap) (n0 : Nat) (v : Option Value) (h : Heap) (L : List Loc) : Prop := ∃ (r : Addr), v = some (.ref r) ∧ Fr n0 L ∧ Keep h0 h [] ∧ n0 ≤ r ∧ h0.size ≤ r ∧ Exa Z h r "java/util/ImmutableCollections$List12" ∧ Fld Z h r "java/util/ImmutableCollections$List12" "e0" "Ljava/lang/Object;" (.ref el0) ∧ Fld Z h r "java/util/ImmutableCollections$List12" "e1" "Ljava/lang/Object;" (.ref el1)
set_option maxRecDepth 65536 in
set_option maxHeartbeats 40000000 in
theorem rmlco2 (l : Launch) (Z : State) (a0 : Array Value) (hw : own_H a0 Z) (ws : List Jvm.Cond) (a1 ed mr we : Addr) (kd : ClassId) (el0 el1 : Addr) (h0 : Heap) (n0 : Nat) (O0 : Old Z n0 h0) (Ea : Exa Z h0 a1 "java/util/ArrayList") (Fs : Fld Z h0 a1 "java/util/ArrayList" "size" "I" (.int (2 : Int32))) (Fe : Fld Z h0 a1 "java/util/ArrayList" "elementData" "[Ljava/lang/Object;" (.ref ed)) (Ad : Arv Z h0 ed kd (.object "java/lang/Object") (10 : Int32) [(.ref el0), (.ref el1), .null, .null, .null, .null, .null, .null, .null, .null] .null) (Ed : Exa Z h0 ed "[Ljava/lang/Object;") (Mr : own_Mir Z "[Ljava/lang/Object;" mr) (Sem : Sta Z Z.heap "java/util/ImmutableCollections" "EMPTY" "Ljava/lang/Object;" (.ref we)) (B0 : Exa Z Z.heap el0 "java/math/BigDecimal") (B1 : Exa Z Z.heap el1 "java/math/BigDecimal") :
    own_M l (⟨"java/util/List", "copyOf", "(Ljava/util/Collection;)Ljava/util/List;"⟩ : MethodName) jdk_40_method_48_code 1 (some (.object "java/util/List")) ws (own_R 7 2 4 104) Z #[(.ref a1)] h0 (Qlco2 Z a1 ed mr we kd el0 el1 h0 n0) := by
  refine own_body (plainFor_of_name pn_java_util_List) (fun m => ef_lco2 m a1) ?_
  intro p e s m below meth c s₁ Bd hx hby hml hown hnm X0 e0 hZ
  have N0 := Fr.nil n0
  refine own_g s₁ (mkF m 1 #[rv a1] [(.ref a1)]) (fun _ kq => XS.aloadN X0.here hx rfl (hb hby d31_0) rfl rfl kq) ?_
  obtain ⟨_, T1, L1, X1, ⟨r1, rfl, Nq1, Kc1, gr1, szr1, La1, Lb1, Lc_1⟩, st1⟩ := own_cS X0 hx hZ hown (own_W198 hw) (own_W199 hw) (own_W200 hw) (own_W201 hw) (rmlcp2 l Z a0 hw [] a1 ed mr we kd el0 el1 h0 n0 O0 Ea Fs Fe Ad Ed Mr Sem B0 B1) e0 (lenOf pd_Ljava_util_Collection__Ljava_util_List_724 rfl) (g := (mkF m 1 #[rv a1] [(.ref a1)])) (argsL := [(.ref a1)]) (rest := []) (W := 0) rfl rfl (hb hby d31_1) (by rw [hml]; rfl) (by show 2 * 0 + _ ≤ _; exact Nat.le_of_eq rfl) rfl (by decide) (by decide) (by decide) (by decide) (by decide)
  have N2 := Fr.app N0 Nq1
  refine own_t T1 (mkF m 4 #[rv a1] [(.ref r1)]) st1 ?_
  have K3 : Keep h0 _ [] := ((Keep.refl h0 []).trans Kc1 all0)
  refine own_out X1 Bd.notSynchronized (v := (some (.ref r1))) (fun h => by rw [Bd.returns] at h; cases h) (fun fs hr => own_retA X1 hx Bd.returns rfl rfl rfl (hb hby d31_4) hr) ?_ (by decide) (by decide)
  exact ⟨_, rfl, N2, K3, gr1, szr1, La1, Lb1, Lc_1⟩
theorem d38_0 : decode jdk_56_method_4_code 0 = .ok (.aload_n 0, 1) := by decide +kernel
theorem d38_1 : decode jdk_56_method_4_code 1 = .ok (.arraylength, 1) := by decide +kernel
theorem d38_2 : decode jdk_56_method_4_code 2 = .ok (.anewarray 2, 3) := by decide +kernel
def own_W249 {a0 Z} (hw : own_H a0 Z) := hw _ (List.mem_of_getElem? (i := 249) rfl)
theorem d38_5 : decode jdk_56_method_4_code 5 = .ok (.astore_n 1, 1) := by decide +kernel
theorem d38_6 : decode jdk_56_method_4_code 6 = .ok (.iconst 0, 1) := by decide +kernel
theorem d38_7 : decode jdk_56_method_4_code 7 = .ok (.istore_n 2, 1) := by decide +kernel
theorem d38_8 : decode jdk_56_method_4_code 8 = .ok (.iload_n 2, 1) := by decide +kernel
theorem d38_9 : decode jdk_56_method_4_code 9 = .ok (.aload_n 0, 1) := by decide +kernel
theorem d38_10 : decode jdk_56_method_4_code 10 = .ok (.arraylength, 1) := by decide +kernel
theorem d38_11 : decode jdk_56_method_4_code 11 = .ok (.if_icmp .ge 18, 3) := by decide +kernel
theorem d38_14 : decode jdk_56_method_4_code 14 = .ok (.aload_n 1, 1) := by decide +kernel
theorem d38_15 : decode jdk_56_method_4_code 15 = .ok (.iload_n 2, 1) := by decide +kernel
theorem d38_16 : decode jdk_56_method_4_code 16 = .ok (.aload_n 0, 1) := by decide +kernel
theorem d38_17 : decode jdk_56_method_4_code 17 = .ok (.iload_n 2, 1) := by decide +kernel
theorem d38_18 : decode jdk_56_method_4_code 18 = .ok (.aaload, 1) := by decide +kernel
theorem d38_19 : decode jdk_56_method_4_code 19 = .ok (.invokestatic 37, 3) := by decide +kernel
def own_W250 {a0 Z} (hw : own_H a0 Z) := hw _ (List.mem_of_getElem? (i := 250) rfl)
theorem d38_22 : decode jdk_56_method_4_code 22 = .ok (.aastore, 1) := by decide +kernel
theorem d38_23 : decode jdk_56_method_4_code 23 = .ok (.iinc 2 1, 3) := by decide +kernel
theorem d38_26 : decode jdk_56_method_4_code 26 = .ok (.goto (-18), 3) := by decide +kernel
theorem d38_29 : decode jdk_56_method_4_code 29 = .ok (.new 12, 3) := by decide +kernel
def own_W254 {a0 Z} (hw : own_H a0 Z) := hw _ (List.mem_of_getElem? (i := 254) rfl)
theorem d38_32 : decode jdk_56_method_4_code 32 = .ok (.dup, 1) := by decide +kernel
theorem d38_33 : decode jdk_56_method_4_code 33 = .ok (.aload_n 1, 1) := by decide +kernel
theorem d38_34 : decode jdk_56_method_4_code 34 = .ok (.iconst 0, 1) := by decide +kernel
theorem d38_35 : decode jdk_56_method_4_code 35 = .ok (.invokespecial 43, 3) := by decide +kernel
def own_W258 {a0 Z} (hw : own_H a0 Z) := hw _ (List.mem_of_getElem? (i := 258) rfl)
def own_W255 {a0 Z} (hw : own_H a0 Z) := hw _ (List.mem_of_getElem? (i := 255) rfl)
theorem pd_Ljava_lang_Object_Z_V_18 : parseMethodDescriptor "([Ljava/lang/Object;Z)V" = some ⟨[(.array (.object "java/lang/Object")), .boolean], none⟩ := by decide +kernel
def own_W256 {a0 Z} (hw : own_H a0 Z) := hw _ (List.mem_of_getElem? (i := 256) rfl)
theorem d38_38 : decode jdk_56_method_4_code 38 = .ok (.areturn, 1) := by decide +kernel
theorem ef_lfa3 (m : MethodId) (x0 : Addr) : entryFrame m #[(.ref x0)] 3 = mkF m 0 #[.val (.ref x0), .unset, .unset] [] := by first | (simp [entryFrame, mkF, argsToLocals, Value.category]; done) | rfl
def Qlfa3 (Z : State) (sr we : Addr) (ks : ClassId) (el0 el1 el2 : Addr) (h0 : Heap) (n0 : Nat) (v : Option Value) (h : Heap) (L : List Loc) : Prop := ∃ (r ar : Addr) (ka : ClassId), v = some (.ref r) ∧ Fr n0 L ∧ Keep h0 h [] ∧ n0 ≤ r ∧ h0.size ≤ r ∧ Exa Z h r "java/util/ImmutableCollections$ListN" ∧ Fld Z h r "java/util/ImmutableCollections$ListN" "elements" "[Ljava/lang/Object;" (.ref ar) ∧ Arv Z h ar ka (.object "java/lang/Object") (3 : Int32) [(.ref el0), (.ref el1), (.ref el2)] .null
set_option maxRecDepth 65536 in
set_option maxHeartbeats 40000000 in
theorem rmlfa3 (l : Launch) (Z : State) (a0 : Array Value) (hw : own_H a0 Z) (ws : List Jvm.Cond) (sr we : Addr) (ks : ClassId) (el0 el1 el2 : Addr) (h0 : Heap) (n0 : Nat) (O0 : Old Z n0 h0) (As : Arv Z h0 sr ks (.object "java/lang/Object") (3 : Int32) [(.ref el0), (.ref el1), (.ref el2)] .null) (Sem : Sta Z Z.heap "java/util/ImmutableCollections" "EMPTY" "Ljava/lang/Object;" (.ref we)) (B0 : Exa Z Z.heap el0 "java/math/BigDecimal") (B1 : Exa Z Z.heap el1 "java/math/BigDecimal") (B2 : Exa Z Z.heap el2 "java/math/BigDecimal") :
    own_M l (⟨"java/util/ImmutableCollections", "listFromArray", "([Ljava/lang/Object;)Ljava/util/List;"⟩ : MethodName) jdk_56_method_4_code 3 (some (.object "java/util/List")) ws (own_R 5 2 5 63) Z #[(.ref sr)] h0 (Qlfa3 Z sr we ks el0 el1 el2 h0 n0) := by
  refine own_body (plainFor_of_name pn_java_util_ImmutableCollections) (fun m => ef_lfa3 m sr) ?_
  intro p e s m below meth c s₁ Bd hx hby hml hown hnm X0 e0 hZ
  have N0 := Fr.nil n0
  refine own_g s₁ (mkF m 1 #[rv sr, .unset, .unset] [(.ref sr)]) (fun _ kq => XS.aloadN X0.here hx rfl (hb hby d38_0) rfl rfl kq) ?_
  refine own_g s₁ (mkF m 2 #[rv sr, .unset, .unset] [(.int (3 : Int32))]) (own_alen X0 hx hZ e0 As (g := (mkF m 1 #[rv sr, .unset, .unset] [(.ref sr)])) rfl rfl (hb hby d38_1)) ?_
  obtain ⟨T1, h1, k1, X1, e1, E1, A1, Ax1, Ov1, st1⟩ := newRE X0 hx hZ hown (own_W249 hw) (own_W65 hw) e0 (g := (mkF m 2 #[rv sr, .unset, .unset] [(.int (3 : Int32))])) rfl (hb hby d38_2) rfl (by decide) (cap := 3) (by decide) (by decide) (by decide) (by decide) (ad := "[Ljava/lang/Object;") rfl
  obtain ⟨b1, g1⟩ : ∃ z, z = h0.size := ⟨_, rfl⟩
  rw [← g1] at A1 Ax1 st1
  have ne_sr_b1 : sr ≠ b1 := Nat.ne_of_lt (Nat.lt_of_lt_of_le As.lt (Nat.le_of_eq g1.symm))
  have ne_el0_b1 : el0 ≠ b1 := Nat.ne_of_lt (Nat.lt_of_lt_of_le (B0.ext O0.2).lt (Nat.le_of_eq g1.symm))
  have ne_el1_b1 : el1 ≠ b1 := Nat.ne_of_lt (Nat.lt_of_lt_of_le (B1.ext O0.2).lt (Nat.le_of_eq g1.symm))
  have ne_el2_b1 : el2 ≠ b1 := Nat.ne_of_lt (Nat.lt_of_lt_of_le (B2.ext O0.2).lt (Nat.le_of_eq g1.symm))
  have g_b1 : n0 ≤ b1 := Nat.le_trans (own_old O0) (Nat.le_of_eq g1.symm)
  have sz_b1 : h0.size ≤ b1 := Nat.le_trans (Keep.refl h0 []).1 (Nat.le_of_eq g1.symm)
  have V1 : Arv Z h1 b1 k1 (.object "java/lang/Object") (3 : Int32) [.null, .null, .null] .null := (Arv.new A1 (by decide)).pad (pad_rep [] .null 3)
  refine own_g T1 (mkF m 5 #[rv sr, .unset, .unset] [(.ref b1)]) st1 ?_
  refine own_g T1 (mkF m 10 #[rv sr, rv b1, iv (0 : Int32)] [(.ref sr), (.int (0 : Int32))]) (fun _ kq => XS.astoreN X1.here hx rfl (hb hby d38_5) rfl rfl (l' := #[rv sr, rv b1, .unset]) rfl (XS.iconst X1.here hx rfl (hb hby d38_6) (XS.istoreN X1.here hx rfl (hb hby d38_7) rfl (l' := #[rv sr, rv b1, iv (0 : Int32)]) rfl (XS.iloadN X1.here hx rfl (hb hby d38_8) rfl (XS.aloadN X1.here hx rfl (hb hby d38_9) rfl rfl kq))))) ?_
  have f2 := (As.ext E1)
  refine own_g T1 (mkF m 11 #[rv sr, rv b1, iv (0 : Int32)] [(.int (3 : Int32)), (.int (0 : Int32))]) (own_alen X1 hx hZ e1 f2 (g := (mkF m 10 #[rv sr, rv b1, iv (0 : Int32)] [(.ref sr), (.int (0 : Int32))])) rfl rfl (hb hby d38_10)) ?_
  refine own_g T1 (mkF m 18 #[rv sr, rv b1, iv (0 : Int32)] [(.int (0 : Int32)), (.ref sr), (.int (0 : Int32)), (.ref b1)]) (fun _ kq => XS.icmpNo X1.here hx rfl (hb hby d38_11) rfl (tlt ((by decide) : (0 : Int32) < (3 : Int32))).2.1 (XS.aloadN X1.here hx rfl (hb hby d38_14) rfl rfl (XS.iloadN X1.here hx rfl (hb hby d38_15) rfl (XS.aloadN X1.here hx rfl (hb hby d38_16) rfl rfl (XS.iloadN X1.here hx rfl (hb hby d38_17) rfl kq))))) ?_
  obtain ⟨cl3, Ar3, q3, S3, Nn3, H3, G3⟩ := id f2
  have hin4 : ¬ ((0 : Int32) < 0 ∨ cl3.slots.size ≤ ((0 : Int32)).toNatClampNeg) := inb_of S3 ⟨by decide, by decide⟩
  have hat4 : cl3.slots[((0 : Int32)).toNatClampNeg]? = some (.ref el0) := Has.at H3 hin4 rfl
  refine own_g T1 (mkF m 19 #[rv sr, rv b1, iv (0 : Int32)] [(.ref el0), (.int (0 : Int32)), (.ref b1)]) (X1.aaload hx (j := (0 : Int32)) (v := (.ref el0)) (by rw [e1]; exact Ar3.1) (State.isArrayOf_alike hZ.alike Ar3.2.1) rfl Ar3.2.2 hin4 hat4 (g := (mkF m 18 #[rv sr, rv b1, iv (0 : Int32)] [(.int (0 : Int32)), (.ref sr), (.int (0 : Int32)), (.ref b1)])) rfl rfl (hb hby d38_18)) ?_
  have O5 := (O0.ext E1)
  obtain ⟨_, T6, L6, X6, ⟨rfl, Nq6, hh6⟩, st6⟩ := own_cS X1 hx hZ hown (own_W250 hw) (own_W251 hw) (own_W162 hw) (own_W252 hw) (rmrnn l Z a0 hw [] el0 h1 n0 O5) e1 (lenOf pd_Ljava_lang_Object__Ljava_lang_Object_418 rfl) (g := (mkF m 19 #[rv sr, rv b1, iv (0 : Int32)] [(.ref el0), (.int (0 : Int32)), (.ref b1)])) (argsL := [(.ref el0)]) (rest := [(.int (0 : Int32)), (.ref b1)]) (W := 2) rfl rfl (hb hby d38_19) (by rw [hml]; rfl) (by show 2 * 0 + _ ≤ _; exact Nat.le_of_eq rfl) rfl (by decide) (by decide) (by decide) (by decide) (by decide)
  have N7 := Fr.app N0 Nq6
  refine own_t T6 (mkF m 22 #[rv sr, rv b1, iv (0 : Int32)] [(.ref el0), (.int (0 : Int32)), (.ref b1)]) st6 ?_
  obtain ⟨cl8, Ar8, q8, S8, Nn8, H8, G8⟩ := id V1
  have hin9 : ¬ ((0 : Int32) < 0 ∨ cl8.slots.size ≤ ((0 : Int32)).toNatClampNeg) := inb_of S8 ⟨by decide, by decide⟩
  obtain ⟨T9, h9, X9, e9, W9, st9⟩ := stR X6 hx hZ hh6 Ar8 (j := (0 : Int32)) hin9 rfl (Sto.ofV Ar8 q8 Ov1 (Ins.of_exa (B0.ext O5.2) (own_W66 hw))) (g := (mkF m 22 #[rv sr, rv b1, iv (0 : Int32)] [(.ref el0), (.int (0 : Int32)), (.ref b1)])) rfl rfl (hb hby d38_22)
  have V9 : Arv Z h9 b1 k1 (.object "java/lang/Object") (3 : Int32) [(.ref el0), .null, .null] .null := Arv.set Ar8 q8 S8 Nn8 H8 G8 rfl W9 0 rfl (Nat.le_of_ble_eq_true rfl)
  have N10 := Fr.snoc X9 N7 g_b1
  refine own_g T9 (mkF m 23 #[rv sr, rv b1, iv (0 : Int32)] []) st9 ?_
  refine own_g T9 (mkF m 10 #[rv sr, rv b1, iv (1 : Int32)] [(.ref sr), (.int (1 : Int32))]) (fun _ kq => XS.iinc X9.here hx rfl (hb hby d38_23) rfl (l' := #[rv sr, rv b1, iv (1 : Int32)]) rfl (XS.goto X9.here hx rfl (pc0 := 26) (pc' := 8) rfl (hb hby d38_26) (by decide) (by decide) (XS.iloadN X9.here hx rfl (hb hby d38_8) rfl (XS.aloadN X9.here hx rfl (hb hby d38_9) rfl rfl kq)))) ?_
  have f11 := (f2.other W9 ne_sr_b1)
  refine own_g T9 (mkF m 11 #[rv sr, rv b1, iv (1 : Int32)] [(.int (3 : Int32)), (.int (1 : Int32))]) (own_alen X9 hx hZ e9 f11 (g := (mkF m 10 #[rv sr, rv b1, iv (1 : Int32)] [(.ref sr), (.int (1 : Int32))])) rfl rfl (hb hby d38_10)) ?_
  refine own_g T9 (mkF m 18 #[rv sr, rv b1, iv (1 : Int32)] [(.int (1 : Int32)), (.ref sr), (.int (1 : Int32)), (.ref b1)]) (fun _ kq => XS.icmpNo X9.here hx rfl (hb hby d38_11) rfl (tlt ((by decide) : (1 : Int32) < (3 : Int32))).2.1 (XS.aloadN X9.here hx rfl (hb hby d38_14) rfl rfl (XS.iloadN X9.here hx rfl (hb hby d38_15) rfl (XS.aloadN X9.here hx rfl (hb hby d38_16) rfl rfl (XS.iloadN X9.here hx rfl (hb hby d38_17) rfl kq))))) ?_
  obtain ⟨cl12, Ar12, q12, S12, Nn12, H12, G12⟩ := id f11
  have hin13 : ¬ ((1 : Int32) < 0 ∨ cl12.slots.size ≤ ((1 : Int32)).toNatClampNeg) := inb_of S12 ⟨by decide, by decide⟩
  have hat13 : cl12.slots[((1 : Int32)).toNatClampNeg]? = some (.ref el1) := Has.at H12 hin13 rfl
  refine own_g T9 (mkF m 19 #[rv sr, rv b1, iv (1 : Int32)] [(.ref el1), (.int (1 : Int32)), (.ref b1)]) (X9.aaload hx (j := (1 : Int32)) (v := (.ref el1)) (by rw [e9]; exact Ar12.1) (State.isArrayOf_alike hZ.alike Ar12.2.1) rfl Ar12.2.2 hin13 hat13 (g := (mkF m 18 #[rv sr, rv b1, iv (1 : Int32)] [(.int (1 : Int32)), (.ref sr), (.int (1 : Int32)), (.ref b1)])) rfl rfl (hb hby d38_18)) ?_
  have O14 := (O5.wr W9 g_b1)
  obtain ⟨_, T15, L15, X15, ⟨rfl, Nq15, hh15⟩, st15⟩ := own_cS X9 hx hZ hown (own_W250 hw) (own_W251 hw) (own_W162 hw) (own_W252 hw) (rmrnn l Z a0 hw [] el1 h9 n0 O14) e9 (lenOf pd_Ljava_lang_Object__Ljava_lang_Object_418 rfl) (g := (mkF m 19 #[rv sr, rv b1, iv (1 : Int32)] [(.ref el1), (.int (1 : Int32)), (.ref b1)])) (argsL := [(.ref el1)]) (rest := [(.int (1 : Int32)), (.ref b1)]) (W := 2) rfl rfl (hb hby d38_19) (by rw [hml]; rfl) (by show 2 * 0 + _ ≤ _; exact Nat.le_of_eq rfl) rfl (by decide) (by decide) (by decide) (by decide) (by decide)
  have N16 := Fr.app N10 Nq15
  refine own_t T15 (mkF m 22 #[rv sr, rv b1, iv (1 : Int32)] [(.ref el1), (.int (1 : Int32)), (.ref b1)]) st15 ?_
  obtain ⟨cl17, Ar17, q17, S17, Nn17, H17, G17⟩ := id V9
  have hin18 : ¬ ((1 : Int32) < 0 ∨ cl17.slots.size ≤ ((1 : Int32)).toNatClampNeg) := inb_of S17 ⟨by decide, by decide⟩
  obtain ⟨T18, h18, X18, e18, W18, st18⟩ := stR X15 hx hZ hh15 Ar17 (j := (1 : Int32)) hin18 rfl (Sto.ofV Ar17 q17 Ov1 (Ins.of_exa (B1.ext O14.2) (own_W66 hw))) (g := (mkF m 22 #[rv sr, rv b1, iv (1 : Int32)] [(.ref el1), (.int (1 : Int32)), (.ref b1)])) rfl rfl (hb hby d38_22)
  have V18 : Arv Z h18 b1 k1 (.object "java/lang/Object") (3 : Int32) [(.ref el0), (.ref el1), .null] .null := Arv.set Ar17 q17 S17 Nn17 H17 G17 rfl W18 1 rfl (Nat.le_of_ble_eq_true rfl)
  have N19 := Fr.snoc X18 N16 g_b1
  refine own_g T18 (mkF m 23 #[rv sr, rv b1, iv (1 : Int32)] []) st18 ?_
  refine own_g T18 (mkF m 10 #[rv sr, rv b1, iv (2 : Int32)] [(.ref sr), (.int (2 : Int32))]) (fun _ kq => XS.iinc X18.here hx rfl (hb hby d38_23) rfl (l' := #[rv sr, rv b1, iv (2 : Int32)]) rfl (XS.goto X18.here hx rfl (pc0 := 26) (pc' := 8) rfl (hb hby d38_26) (by decide) (by decide) (XS.iloadN X18.here hx rfl (hb hby d38_8) rfl (XS.aloadN X18.here hx rfl (hb hby d38_9) rfl rfl kq)))) ?_
  have f20 := (f11.other W18 ne_sr_b1)
  refine own_g T18 (mkF m 11 #[rv sr, rv b1, iv (2 : Int32)] [(.int (3 : Int32)), (.int (2 : Int32))]) (own_alen X18 hx hZ e18 f20 (g := (mkF m 10 #[rv sr, rv b1, iv (2 : Int32)] [(.ref sr), (.int (2 : Int32))])) rfl rfl (hb hby d38_10)) ?_
  refine own_g T18 (mkF m 18 #[rv sr, rv b1, iv (2 : Int32)] [(.int (2 : Int32)), (.ref sr), (.int (2 : Int32)), (.ref b1)]) (fun _ kq => XS.icmpNo X18.here hx rfl (hb hby d38_11) rfl (tlt ((by decide) : (2 : Int32) < (3 : Int32))).2.1 (XS.aloadN X18.here hx rfl (hb hby d38_14) rfl rfl (XS.iloadN X18.here hx rfl (hb hby d38_15) rfl (XS.aloadN X18.here hx rfl (hb hby d38_16) rfl rfl (XS.iloadN X18.here hx rfl (hb hby d38_17) rfl kq))))) ?_
  obtain ⟨cl21, Ar21, q21, S21, Nn21, H21, G21⟩ := id f20
  have hin22 : ¬ ((2 : Int32) < 0 ∨ cl21.slots.size ≤ ((2 : Int32)).toNatClampNeg) := inb_of S21 ⟨by decide, by decide⟩
  have hat22 : cl21.slots[((2 : Int32)).toNatClampNeg]? = some (.ref el2) := Has.at H21 hin22 rfl
  refine own_g T18 (mkF m 19 #[rv sr, rv b1, iv (2 : Int32)] [(.ref el2), (.int (2 : Int32)), (.ref b1)]) (X18.aaload hx (j := (2 : Int32)) (v := (.ref el2)) (by rw [e18]; exact Ar21.1) (State.isArrayOf_alike hZ.alike Ar21.2.1) rfl Ar21.2.2 hin22 hat22 (g := (mkF m 18 #[rv sr, rv b1, iv (2 : Int32)] [(.int (2 : Int32)), (.ref sr), (.int (2 : Int32)), (.ref b1)])) rfl rfl (hb hby d38_18)) ?_
  have O23 := (O14.wr W18 g_b1)
  obtain ⟨_, T24, L24, X24, ⟨rfl, Nq24, hh24⟩, st24⟩ := own_cS X18 hx hZ hown (own_W250 hw) (own_W251 hw) (own_W162 hw) (own_W252 hw) (rmrnn l Z a0 hw [] el2 h18 n0 O23) e18 (lenOf pd_Ljava_lang_Object__Ljava_lang_Object_418 rfl) (g := (mkF m 19 #[rv sr, rv b1, iv (2 : Int32)] [(.ref el2), (.int (2 : Int32)), (.ref b1)])) (argsL := [(.ref el2)]) (rest := [(.int (2 : Int32)), (.ref b1)]) (W := 2) rfl rfl (hb hby d38_19) (by rw [hml]; rfl) (by show 2 * 0 + _ ≤ _; exact Nat.le_of_eq rfl) rfl (by decide) (by decide) (by decide) (by decide) (by decide)
  have N25 := Fr.app N19 Nq24
  refine own_t T24 (mkF m 22 #[rv sr, rv b1, iv (2 : Int32)] [(.ref el2), (.int (2 : Int32)), (.ref b1)]) st24 ?_
  obtain ⟨cl26, Ar26, q26, S26, Nn26, H26, G26⟩ := id V18
  have hin27 : ¬ ((2 : Int32) < 0 ∨ cl26.slots.size ≤ ((2 : Int32)).toNatClampNeg) := inb_of S26 ⟨by decide, by decide⟩
  obtain ⟨T27, h27, X27, e27, W27, st27⟩ := stR X24 hx hZ hh24 Ar26 (j := (2 : Int32)) hin27 rfl (Sto.ofV Ar26 q26 Ov1 (Ins.of_exa (B2.ext O23.2) (own_W66 hw))) (g := (mkF m 22 #[rv sr, rv b1, iv (2 : Int32)] [(.ref el2), (.int (2 : Int32)), (.ref b1)])) rfl rfl (hb hby d38_22)
  have V27 : Arv Z h27 b1 k1 (.object "java/lang/Object") (3 : Int32) [(.ref el0), (.ref el1), (.ref el2)] .null := Arv.set Ar26 q26 S26 Nn26 H26 G26 rfl W27 2 rfl (Nat.le_of_ble_eq_true rfl)
  have N28 := Fr.snoc X27 N25 g_b1
  obtain ⟨LL29, Xp29, Np29⟩ : ∃ LL, Stand p l e (own_R 5 2 5 63) s m #[(.ref sr)] below meth c T27 LL 1 3 ∧ Fr n0 LL := ⟨_, X27, N28⟩
  refine own_g T27 (mkF m 23 #[rv sr, rv b1, iv (2 : Int32)] []) st27 ?_
  refine own_g T27 (mkF m 10 #[rv sr, rv b1, iv (3 : Int32)] [(.ref sr), (.int (3 : Int32))]) (fun _ kq => XS.iinc Xp29.here hx rfl (hb hby d38_23) rfl (l' := #[rv sr, rv b1, iv (3 : Int32)]) rfl (XS.goto Xp29.here hx rfl (pc0 := 26) (pc' := 8) rfl (hb hby d38_26) (by decide) (by decide) (XS.iloadN Xp29.here hx rfl (hb hby d38_8) rfl (XS.aloadN Xp29.here hx rfl (hb hby d38_9) rfl rfl kq)))) ?_
  have f30 := (f20.other W27 ne_sr_b1)
  refine own_g T27 (mkF m 11 #[rv sr, rv b1, iv (3 : Int32)] [(.int (3 : Int32)), (.int (3 : Int32))]) (own_alen Xp29 hx hZ e27 f30 (g := (mkF m 10 #[rv sr, rv b1, iv (3 : Int32)] [(.ref sr), (.int (3 : Int32))])) rfl rfl (hb hby d38_10)) ?_
  refine own_g T27 (mkF m 29 #[rv sr, rv b1, iv (3 : Int32)] []) (fun _ kq => XS.icmpYes Xp29.here hx rfl (pc0 := 11) (pc' := 29) rfl (hb hby d38_11) rfl (flt ((by decide) : ¬ ((3 : Int32) < (3 : Int32)))).2.1 (by decide) (by decide) kq) ?_
  obtain ⟨T31, h31, X31, e31, E31, A31, D31, -, st31⟩ := newO Xp29 hx hZ hown (own_W207 hw) (own_W253 hw) (own_W254 hw) e27 (g := (mkF m 29 #[rv sr, rv b1, iv (3 : Int32)] [])) rfl (hb hby d38_29) (by decide) (by decide)
  obtain ⟨b31, g31⟩ : ∃ z, z = h27.size := ⟨_, rfl⟩
  rw [← g31] at A31 D31 st31
  have ne_sr_b31 : sr ≠ b31 := Nat.ne_of_lt (Nat.lt_of_lt_of_le f30.lt (Nat.le_of_eq g31.symm))
  have O32 := (O23.wr W27 g_b1)
  have ne_el0_b31 : el0 ≠ b31 := Nat.ne_of_lt (Nat.lt_of_lt_of_le (B0.ext O32.2).lt (Nat.le_of_eq g31.symm))
  have ne_el1_b31 : el1 ≠ b31 := Nat.ne_of_lt (Nat.lt_of_lt_of_le (B1.ext O32.2).lt (Nat.le_of_eq g31.symm))
  have ne_el2_b31 : el2 ≠ b31 := Nat.ne_of_lt (Nat.lt_of_lt_of_le (B2.ext O32.2).lt (Nat.le_of_eq g31.symm))
  have ne_b1_b31 : b1 ≠ b31 := Nat.ne_of_lt (Nat.lt_of_lt_of_le V27.lt (Nat.le_of_eq g31.symm))
  have g_b31 : n0 ≤ b31 := Nat.le_trans (own_old O32) (Nat.le_of_eq g31.symm)
  have K33 : Keep h0 _ [] := (((((Keep.refl h0 []).ext E1).wr W9 (Or.inr sz_b1)).wr W18 (Or.inr sz_b1)).wr W27 (Or.inr sz_b1))
  have sz_b31 : h0.size ≤ b31 := Nat.le_trans K33.1 (Nat.le_of_eq g31.symm)
  have F_elements_b31 : Fld Z h31 b31 "java/util/ImmutableCollections$ListN" "elements" "[Ljava/lang/Object;" .null := D31 (Or.inr (own_W274 hw)) (ty := (.array (.object "java/lang/Object"))) (by decide)
  have F_allowNulls_b31 : Fld Z h31 b31 "java/util/ImmutableCollections$ListN" "allowNulls" "Z" (.int (0 : Int32)) := D31 (Or.inr (own_W276 hw)) (ty := .boolean) (by decide)
  refine own_g T31 (mkF m 32 #[rv sr, rv b1, iv (3 : Int32)] [(.ref b31)]) st31 ?_
  refine own_g T31 (mkF m 35 #[rv sr, rv b1, iv (3 : Int32)] [(.int (0 : Int32)), (.ref b1), (.ref b31), (.ref b31)]) (fun _ kq => XS.dup X31.here hx rfl (hb hby d38_32) rfl rfl (XS.aloadN X31.here hx rfl (hb hby d38_33) rfl rfl (XS.iconst X31.here hx rfl (hb hby d38_34) kq))) ?_
  have O34 := (O32.ext E31)
  obtain ⟨_, _, ⟨T35, L35, k35, n35⟩, -, X35, ⟨Lc35, hQ35, l35, y35, z35⟩, st35⟩ := X31.specialBackNest hx (y := (⟨"java/util/ImmutableCollections$ListN", "<init>", "([Ljava/lang/Object;Z)V"⟩ : MethodName)) rfl hown (own_mvMN hZ (own_W255 hw)) (mvT hZ (own_W256 hw)) (mvT hZ (own_W258 hw)) (by decide) (backOf (W := 1) (rmlni l Z a0 hw [] b31 b1 h31 n0 O34 A31 F_elements_b31 F_allowNulls_b31 g_b31) hZ (own_W258 hw) (own_W254 hw) (by decide) (by decide)) (g := (mkF m 35 #[rv sr, rv b1, iv (3 : Int32)] [(.int (0 : Int32)), (.ref b1), (.ref b31), (.ref b31)])) rfl (by rw [hml]; rfl) (Steps.refl _) (a := b31) (argsL := [(.ref b1), (.int (0 : Int32))]) (rest := [(.ref b31)]) (lenOf pd_Ljava_lang_Object_Z_V_18 rfl) rfl (by show 2 * 0 + _ ≤ _; exact Nat.le_of_eq rfl) (hb hby d38_35) (fun _ _ => ⟨rfl, e31, (by decide : 2 + 0 ≤ _), (by decide : 5 + 0 ≤ _)⟩)
  dsimp only [Pt.U, Pt.locs, Pt.cells, Pt.slots] at X35 l35 y35 z35 st35 hQ35
  subst l35 y35 z35
  obtain ⟨rfl, Nq35, Kc35, Fa35⟩ := hQ35
  have N36 := Fr.app Np29 Nq35
  refine own_t T35 (mkF m 38 #[rv sr, rv b1, iv (3 : Int32)] [(.ref b31)]) st35 ?_
  have K37 : Keep h0 _ [] := ((K33.ext E31).trans Kc35 (allS (Or.inr sz_b31) all0))
  have f38 := (A31.keep Kc35)
  have f39 := ((V27.ext E31).keep Kc35 (ninS ne_b1_b31 nin0))
  refine own_out X35 Bd.notSynchronized (v := (some (.ref b31))) (fun h => by rw [Bd.returns] at h; cases h) (fun fs hr => own_retA X35 hx Bd.returns rfl rfl rfl (hb hby d38_38) hr) ?_ (by decide) (by decide)
  exact ⟨_, _, _, rfl, N36, K37, g_b31, sz_b31, f38, Fa35, f39⟩
theorem d37_59 : decode jdk_40_method_47_code 59 = .ok (.aload_n 0, 1) := by decide +kernel
theorem d37_60 : decode jdk_40_method_47_code 60 = .ok (.invokestatic 109, 3) := by decide +kernel
def own_W248 {a0 Z} (hw : own_H a0 Z) := hw _ (List.mem_of_getElem? (i := 248) rfl)
def own_W246 {a0 Z} (hw : own_H a0 Z) := hw _ (List.mem_of_getElem? (i := 246) rfl)
def own_W247 {a0 Z} (hw : own_H a0 Z) := hw _ (List.mem_of_getElem? (i := 247) rfl)
theorem d37_63 : decode jdk_40_method_47_code 63 = .ok (.areturn, 1) := by decide +kernel
theorem ef_lof3 (m : MethodId) (x0 : Addr) : entryFrame m #[(.ref x0)] 2 = mkF m 0 #[.val (.ref x0), .unset] [] := by first | (simp [entryFrame, mkF, argsToLocals, Value.category]; done) | rfl
def Qlof3 (Z : State) (sr we : Addr) (ks : ClassId) (el0 el1 el2 : Addr) (h0 : Heap) (n0 : Nat) (v : Option Value) (h : Heap) (L : List Loc) : Prop := ∃ (r ar : Addr) (ka : ClassId), v = some (.ref r) ∧ Fr n0 L ∧ Keep h0 h [] ∧ n0 ≤ r ∧ h0.size ≤ r ∧ Exa Z h r "java/util/ImmutableCollections$ListN" ∧ Fld Z h r "java/util/ImmutableCollections$ListN" "elements" "[Ljava/lang/Object;" (.ref ar) ∧ Arv Z h ar ka (.object "java/lang/Object") (3 : Int32) [(.ref el0), (.ref el1), (.ref el2)] .null
set_option maxRecDepth 65536 in
set_option maxHeartbeats 40000000 in
theorem rmlof3 (l : Launch) (Z : State) (a0 : Array Value) (hw : own_H a0 Z) (ws : List Jvm.Cond) (sr we : Addr) (ks : ClassId) (el0 el1 el2 : Addr) (h0 : Heap) (n0 : Nat) (O0 : Old Z n0 h0) (As : Arv Z h0 sr ks (.object "java/lang/Object") (3 : Int32) [(.ref el0), (.ref el1), (.ref el2)] .null) (Sem : Sta Z Z.heap "java/util/ImmutableCollections" "EMPTY" "Ljava/lang/Object;" (.ref we)) (B0 : Exa Z Z.heap el0 "java/math/BigDecimal") (B1 : Exa Z Z.heap el1 "java/math/BigDecimal") (B2 : Exa Z Z.heap el2 "java/math/BigDecimal") :
    own_M l (⟨"java/util/List", "of", "([Ljava/lang/Object;)Ljava/util/List;"⟩ : MethodName) jdk_40_method_47_code 2 (some (.object "java/util/List")) ws (own_R 6 2 5 77) Z #[(.ref sr)] h0 (Qlof3 Z sr we ks el0 el1 el2 h0 n0) := by
  refine own_body (plainFor_of_name pn_java_util_List) (fun m => ef_lof3 m sr) ?_
  intro p e s m below meth c s₁ Bd hx hby hml hown hnm X0 e0 hZ
  have N0 := Fr.nil n0
  refine own_g s₁ (mkF m 1 #[rv sr, .unset] [(.ref sr)]) (fun _ kq => XS.aloadN X0.here hx rfl (hb hby d37_0) rfl rfl kq) ?_
  refine own_g s₁ (mkF m 2 #[rv sr, .unset] [(.int (3 : Int32))]) (own_alen X0 hx hZ e0 As (g := (mkF m 1 #[rv sr, .unset] [(.ref sr)])) rfl rfl (hb hby d37_1)) ?_
  refine own_g s₁ (mkF m 60 #[rv sr, .unset] [(.ref sr)]) (fun _ kq => XS.tswOut X0.here hx rfl (pc0 := 2) (pc' := 59) rfl (hb hby d37_2) rfl (by decide) (by decide) (by decide) (XS.aloadN X0.here hx rfl (hb hby d37_59) rfl rfl kq)) ?_
  obtain ⟨_, T1, L1, X1, ⟨r1, ar1, ka1, rfl, Nq1, Kc1, gr1, szr1, La1, Lb1, Lc_1⟩, st1⟩ := own_cS X0 hx hZ hown (own_W246 hw) (own_W247 hw) (own_W200 hw) (own_W248 hw) (rmlfa3 l Z a0 hw [] sr we ks el0 el1 el2 h0 n0 O0 As Sem B0 B1 B2) e0 (lenOf pd_Ljava_lang_Object__Ljava_util_List_350 rfl) (g := (mkF m 60 #[rv sr, .unset] [(.ref sr)])) (argsL := [(.ref sr)]) (rest := []) (W := 0) rfl rfl (hb hby d37_60) (by rw [hml]; rfl) (by show 2 * 0 + _ ≤ _; exact Nat.le_of_eq rfl) rfl (by decide) (by decide) (by decide) (by decide) (by decide)
  have N2 := Fr.app N0 Nq1
  refine own_t T1 (mkF m 63 #[rv sr, .unset] [(.ref r1)]) st1 ?_
  have K3 : Keep h0 _ [] := ((Keep.refl h0 []).trans Kc1 all0)
  refine own_out X1 Bd.notSynchronized (v := (some (.ref r1))) (fun h => by rw [Bd.returns] at h; cases h) (fun fs hr => own_retA X1 hx Bd.returns rfl rfl rfl (hb hby d37_63) hr) ?_ (by decide) (by decide)
  exact ⟨_, _, _, rfl, N2, K3, gr1, szr1, La1, Lb1, Lc_1⟩
theorem ef_lcp3 (m : MethodId) (x0 : Addr) : entryFrame m #[(.ref x0)] 2 = mkF m 0 #[.val (.ref x0), .unset] [] := by first | (simp [entryFrame, mkF, argsToLocals, Value.category]; done) | rfl
def Qlcp3 (Z : State) (a1 ed mr we : Addr) (kd : ClassId) (el0 el1 el2 : Addr) (h0 : Heap) (n0 : Nat) (v : Option Value) (h : Heap) (L : List Loc) : Prop := ∃ (r ar : Addr) (ka : ClassId), v = some (.ref r) ∧ Fr n0 L ∧ Keep h0 h [] ∧ n0 ≤ r ∧ h0.size ≤ r ∧ Exa Z h r "java/util/ImmutableCollections$ListN" ∧ Fld Z h r "java/util/ImmutableCollections$ListN" "elements" "[Ljava/lang/Object;" (.ref ar) ∧ Arv Z h ar ka (.object "java/lang/Object") (3 : Int32) [(.ref el0), (.ref el1), (.ref el2)] .null
set_option maxRecDepth 65536 in
set_option maxHeartbeats 40000000 in
theorem rmlcp3 (l : Launch) (Z : State) (a0 : Array Value) (hw : own_H a0 Z) (ws : List Jvm.Cond) (a1 ed mr we : Addr) (kd : ClassId) (el0 el1 el2 : Addr) (h0 : Heap) (n0 : Nat) (O0 : Old Z n0 h0) (Ea : Exa Z h0 a1 "java/util/ArrayList") (Fs : Fld Z h0 a1 "java/util/ArrayList" "size" "I" (.int (3 : Int32))) (Fe : Fld Z h0 a1 "java/util/ArrayList" "elementData" "[Ljava/lang/Object;" (.ref ed)) (Ad : Arv Z h0 ed kd (.object "java/lang/Object") (10 : Int32) [(.ref el0), (.ref el1), (.ref el2), .null, .null, .null, .null, .null, .null, .null] .null) (Ed : Exa Z h0 ed "[Ljava/lang/Object;") (Mr : own_Mir Z "[Ljava/lang/Object;" mr) (Sem : Sta Z Z.heap "java/util/ImmutableCollections" "EMPTY" "Ljava/lang/Object;" (.ref we)) (B0 : Exa Z Z.heap el0 "java/math/BigDecimal") (B1 : Exa Z Z.heap el1 "java/math/BigDecimal") (B2 : Exa Z Z.heap el2 "java/math/BigDecimal") :
    own_M l (⟨"java/util/ImmutableCollections", "listCopy", "(Ljava/util/Collection;)Ljava/util/List;"⟩ : MethodName) jdk_56_method_3_code 2 (some (.object "java/util/List")) ws (own_R 7 3 8 91) Z #[(.ref a1)] h0 (Qlcp3 Z a1 ed mr we kd el0 el1 el2 h0 n0) := by
  refine own_body (plainFor_of_name pn_java_util_ImmutableCollections) (fun m => ef_lcp3 m a1) ?_
  intro p e s m below meth c s₁ Bd hx hby hml hown hnm X0 e0 hZ
  have N0 := Fr.nil n0
  refine own_g s₁ (mkF m 1 #[rv a1, .unset] [(.ref a1)]) (fun _ kq => XS.aloadN X0.here hx rfl (hb hby d32_0) rfl rfl kq) ?_
  obtain ⟨T1, X1, e1, st1⟩ := instNo X0 hx hZ hown (own_W202 hw) e0 Ea (own_NSno (own_W203 hw) (own_W307 hw) (NS.step (own_W203 hw) (NS.step (own_W204 hw) (NS.step (own_W205 hw) (own_NSroot (own_W206 hw) (own_W307 hw) (by decide)) (by decide)) (by decide)) (by decide)) (by decide)) (g := (mkF m 1 #[rv a1, .unset] [(.ref a1)])) rfl rfl (hb hby d32_1)
  refine own_g T1 (mkF m 4 #[rv a1, .unset] [(.int (0 : Int32))]) st1 ?_
  refine own_g T1 (mkF m 8 #[rv a1, .unset] [(.ref a1)]) (fun _ kq => XS.ifNo X1.here hx rfl (hb hby d32_4) rfl ((if0 _ _).trans (teq ((by decide) : (0 : Int32) = (0 : Int32))).2) (XS.aloadN X1.here hx rfl (hb hby d32_7) rfl rfl kq)) ?_
  obtain ⟨T2, X2, e2, st2⟩ := instNo X1 hx hZ hown (own_W207 hw) e1 Ea (own_NSno (own_W203 hw) (own_W253 hw) (NS.step (own_W203 hw) (NS.step (own_W204 hw) (NS.step (own_W205 hw) (own_NSroot (own_W206 hw) (own_W253 hw) (by decide)) (by decide)) (by decide)) (by decide)) (by decide)) (g := (mkF m 8 #[rv a1, .unset] [(.ref a1)])) rfl rfl (hb hby d32_8)
  refine own_g T2 (mkF m 11 #[rv a1, .unset] [(.int (0 : Int32))]) st2 ?_
  refine own_g T2 (mkF m 32 #[rv a1, .unset] [(.ref a1)]) (fun _ kq => XS.ifYes X2.here hx rfl (pc0 := 11) (pc' := 31) rfl (hb hby d32_11) rfl ((if0 _ _).trans (teq ((by decide) : (0 : Int32) = (0 : Int32))).1) (by decide) (by decide) (XS.aloadN X2.here hx rfl (hb hby d32_31) rfl rfl kq)) ?_
  obtain ⟨_, T3, L3, X3, ⟨rfl, Nq3, hh3⟩, st3⟩ := own_cF X2 hx hZ hown (own_W208 hw) (own_W209 hw) (mvT hZ (own_W210 hw)) (own_W211 hw) (own_W139 hw) (own_W140 hw) (own_W141 hw) (own_W212 hw) (own_W12 hw) (own_W143 hw) (rmalisEmpty3 l Z a0 hw [] a1 h0 n0 O0 Fs) e2 Ea (lenOf pd_Z_171 rfl) (g := (mkF m 32 #[rv a1, .unset] [(.ref a1)])) (argsL := []) (rest := []) (W := 0) rfl rfl (hb hby d32_32) (by rw [hml]; rfl) (by show 2 * 0 + _ ≤ _; exact Nat.le_of_eq rfl) rfl (by decide) (by decide) (by decide) (by decide) (by decide)
  have N4 := Fr.app N0 Nq3
  refine own_t T3 (mkF m 37 #[rv a1, .unset] [(.int (0 : Int32))]) st3 ?_
  refine own_g T3 (mkF m 45 #[rv a1, .unset] [(.ref a1)]) (fun _ kq => XS.ifYes X3.here hx rfl (pc0 := 37) (pc' := 44) rfl (hb hby d32_37) rfl ((if0 _ _).trans (teq ((by decide) : (0 : Int32) = (0 : Int32))).1) (by decide) (by decide) (XS.aloadN X3.here hx rfl (hb hby d32_44) rfl rfl kq)) ?_
  obtain ⟨_, T5, L5, X5, ⟨r5, kr5, rfl, Nq5, Kc5, gr5, szr5, Ar5, Er5, Or5⟩, st5⟩ := own_cF X3 hx hZ hown (own_W213 hw) (own_W214 hw) (mvT hZ (own_W215 hw)) (own_W216 hw) (own_W217 hw) (own_W218 hw) (own_W219 hw) (own_W212 hw) (own_W12 hw) (own_W220 hw) (rmtoa3 l Z a0 hw [] a1 ed mr kd el0 el1 el2 h0 n0 O0 Fs Fe Ad Ed Mr B0 B1 B2) hh3 Ea (lenOf pd_Ljava_lang_Object_839 rfl) (g := (mkF m 45 #[rv a1, .unset] [(.ref a1)])) (argsL := []) (rest := []) (W := 0) rfl rfl (hb hby d32_45) (by rw [hml]; rfl) (by show 2 * 0 + _ ≤ _; exact Nat.le_of_eq rfl) rfl (by decide) (by decide) (by decide) (by decide) (by decide)
  have N6 := Fr.app N4 Nq5
  refine own_t T5 (mkF m 50 #[rv a1, .unset] [(.ref r5)]) st5 ?_
  have K7 : Keep h0 _ [] := ((Keep.refl h0 []).trans Kc5 all0)
  have szq := K7
  have O8 := (O0.keep Kc5 all0)
  obtain ⟨_, T9, L9, X9, ⟨r9, ar9, ka9, rfl, Nq9, Kc9, gr9, szr9, La9, Lb9, Lc_9⟩, st9⟩ := own_cS X5 hx hZ hown (own_W243 hw) (own_W244 hw) (own_W196 hw) (own_W245 hw) (rmlof3 l Z a0 hw [] r5 we kr5 el0 el1 el2 T5.heap n0 O8 Ar5 Sem B0 B1 B2) rfl (lenOf pd_Ljava_lang_Object__Ljava_util_List_350 rfl) (g := (mkF m 50 #[rv a1, .unset] [(.ref r5)])) (argsL := [(.ref r5)]) (rest := []) (W := 0) rfl rfl (hb hby d32_50) (by rw [hml]; rfl) (by show 2 * 0 + _ ≤ _; exact Nat.le_of_eq rfl) rfl (by decide) (by decide) (by decide) (by decide) (by decide)
  have N10 := Fr.app N6 Nq9
  refine own_t T9 (mkF m 53 #[rv a1, .unset] [(.ref r9)]) st9 ?_
  have K11 : Keep h0 _ [] := (K7.trans Kc9 all0)
  refine own_out X9 Bd.notSynchronized (v := (some (.ref r9))) (fun h => by rw [Bd.returns] at h; cases h) (fun fs hr => own_retA X9 hx Bd.returns rfl rfl rfl (hb hby d32_53) hr) ?_ (by decide) (by decide)
  exact ⟨_, _, _, rfl, N10, K11, gr9, Nat.le_trans szq.1 szr9, La9, Lb9, Lc_9⟩
theorem ef_lco3 (m : MethodId) (x0 : Addr) : entryFrame m #[(.ref x0)] 1 = mkF m 0 #[.val (.ref x0)] [] := by first | (simp [entryFrame, mkF, argsToLocals, Value.category]; done) | rfl
def Qlco3 (Z : State) (a1 ed mr we : Addr) (kd : ClassId) (el0 el1 el2 : Addr) (h0 : Heap) (n0 : Nat) (v : Option Value) (h : Heap) (L : List Loc) : Prop := ∃ (r ar : Addr) (ka : ClassId), v = some (.ref r) ∧ Fr n0 L ∧ Keep h0 h [] ∧ n0 ≤ r ∧ h0.size ≤ r ∧ Exa Z h r "java/util/ImmutableCollections$ListN" ∧ Fld Z h r "java/util/ImmutableCollections$ListN" "elements" "[Ljava/lang/Object;" (.ref ar) ∧ Arv Z h ar ka (.object "java/lang/Object") (3 : Int32) [(.ref el0), (.ref el1), (.ref el2)] .null
set_option maxRecDepth 65536 in
set_option maxHeartbeats 40000000 in
theorem rmlco3 (l : Launch) (Z : State) (a0 : Array Value) (hw : own_H a0 Z) (ws : List Jvm.Cond) (a1 ed mr we : Addr) (kd : ClassId) (el0 el1 el2 : Addr) (h0 : Heap) (n0 : Nat) (O0 : Old Z n0 h0) (Ea : Exa Z h0 a1 "java/util/ArrayList") (Fs : Fld Z h0 a1 "java/util/ArrayList" "size" "I" (.int (3 : Int32))) (Fe : Fld Z h0 a1 "java/util/ArrayList" "elementData" "[Ljava/lang/Object;" (.ref ed)) (Ad : Arv Z h0 ed kd (.object "java/lang/Object") (10 : Int32) [(.ref el0), (.ref el1), (.ref el2), .null, .null, .null, .null, .null, .null, .null] .null) (Ed : Exa Z h0 ed "[Ljava/lang/Object;") (Mr : own_Mir Z "[Ljava/lang/Object;" mr) (Sem : Sta Z Z.heap "java/util/ImmutableCollections" "EMPTY" "Ljava/lang/Object;" (.ref we)) (B0 : Exa Z Z.heap el0 "java/math/BigDecimal") (B1 : Exa Z Z.heap el1 "java/math/BigDecimal") (B2 : Exa Z Z.heap el2 "java/math/BigDecimal") :
    own_M l (⟨"java/util/List", "copyOf", "(Ljava/util/Collection;)Ljava/util/List;"⟩ : MethodName) jdk_40_method_48_code 1 (some (.object "java/util/List")) ws (own_R 8 3 8 104) Z #[(.ref a1)] h0 (Qlco3 Z a1 ed mr we kd el0 el1 el2 h0 n0) := by
  refine own_body (plainFor_of_name pn_java_util_List) (fun m => ef_lco3 m a1) ?_
  intro p e s m below meth c s₁ Bd hx hby hml hown hnm X0 e0 hZ
  have N0 := Fr.nil n0
  refine own_g s₁ (mkF m 1 #[rv a1] [(.ref a1)]) (fun _ kq => XS.aloadN X0.here hx rfl (hb hby d31_0) rfl rfl kq) ?_
  obtain ⟨_, T1, L1, X1, ⟨r1, ar1, ka1, rfl, Nq1, Kc1, gr1, szr1, La1, Lb1, Lc_1⟩, st1⟩ := own_cS X0 hx hZ hown (own_W198 hw) (own_W199 hw) (own_W200 hw) (own_W201 hw) (rmlcp3 l Z a0 hw [] a1 ed mr we kd el0 el1 el2 h0 n0 O0 Ea Fs Fe Ad Ed Mr Sem B0 B1 B2) e0 (lenOf pd_Ljava_util_Collection__Ljava_util_List_724 rfl) (g := (mkF m 1 #[rv a1] [(.ref a1)])) (argsL := [(.ref a1)]) (rest := []) (W := 0) rfl rfl (hb hby d31_1) (by rw [hml]; rfl) (by show 2 * 0 + _ ≤ _; exact Nat.le_of_eq rfl) rfl (by decide) (by decide) (by decide) (by decide) (by decide)
  have N2 := Fr.app N0 Nq1
  refine own_t T1 (mkF m 4 #[rv a1] [(.ref r1)]) st1 ?_
  have K3 : Keep h0 _ [] := ((Keep.refl h0 []).trans Kc1 all0)
  refine own_out X1 Bd.notSynchronized (v := (some (.ref r1))) (fun h => by rw [Bd.returns] at h; cases h) (fun fs hr => own_retA X1 hx Bd.returns rfl rfl rfl (hb hby d31_4) hr) ?_ (by decide) (by decide)
  exact ⟨_, _, _, rfl, N2, K3, gr1, szr1, La1, Lb1, Lc_1⟩
theorem ef_lfa4 (m : MethodId) (x0 : Addr) : entryFrame m #[(.ref x0)] 3 = mkF m 0 #[.val (.ref x0), .unset, .unset] [] := by first | (simp [entryFrame, mkF, argsToLocals, Value.category]; done) | rfl
def Qlfa4 (Z : State) (sr we : Addr) (ks : ClassId) (el0 el1 el2 el3 : Addr) (h0 : Heap) (n0 : Nat) (v : Option Value) (h : Heap) (L : List Loc) : Prop := ∃ (r ar : Addr) (ka : ClassId), v = some (.ref r) ∧ Fr n0 L ∧ Keep h0 h [] ∧ n0 ≤ r ∧ h0.size ≤ r ∧ Exa Z h r "java/util/ImmutableCollections$ListN" ∧ Fld Z h r "java/util/ImmutableCollections$ListN" "elements" "[Ljava/lang/Object;" (.ref ar) ∧ Arv Z h ar ka (.object "java/lang/Object") (4 : Int32) [(.ref el0), (.ref el1), (.ref el2), (.ref el3)] .null
set_option maxRecDepth 65536 in
set_option maxHeartbeats 40000000 in
theorem rmlfa4 (l : Launch) (Z : State) (a0 : Array Value) (hw : own_H a0 Z) (ws : List Jvm.Cond) (sr we : Addr) (ks : ClassId) (el0 el1 el2 el3 : Addr) (h0 : Heap) (n0 : Nat) (O0 : Old Z n0 h0) (As : Arv Z h0 sr ks (.object "java/lang/Object") (4 : Int32) [(.ref el0), (.ref el1), (.ref el2), (.ref el3)] .null) (Sem : Sta Z Z.heap "java/util/ImmutableCollections" "EMPTY" "Ljava/lang/Object;" (.ref we)) (B0 : Exa Z Z.heap el0 "java/math/BigDecimal") (B1 : Exa Z Z.heap el1 "java/math/BigDecimal") (B2 : Exa Z Z.heap el2 "java/math/BigDecimal") (B3 : Exa Z Z.heap el3 "java/math/BigDecimal") :
    own_M l (⟨"java/util/ImmutableCollections", "listFromArray", "([Ljava/lang/Object;)Ljava/util/List;"⟩ : MethodName) jdk_56_method_4_code 3 (some (.object "java/util/List")) ws (own_R 5 2 6 63) Z #[(.ref sr)] h0 (Qlfa4 Z sr we ks el0 el1 el2 el3 h0 n0) := by
  refine own_body (plainFor_of_name pn_java_util_ImmutableCollections) (fun m => ef_lfa4 m sr) ?_
  intro p e s m below meth c s₁ Bd hx hby hml hown hnm X0 e0 hZ
  have N0 := Fr.nil n0
  refine own_g s₁ (mkF m 1 #[rv sr, .unset, .unset] [(.ref sr)]) (fun _ kq => XS.aloadN X0.here hx rfl (hb hby d38_0) rfl rfl kq) ?_
  refine own_g s₁ (mkF m 2 #[rv sr, .unset, .unset] [(.int (4 : Int32))]) (own_alen X0 hx hZ e0 As (g := (mkF m 1 #[rv sr, .unset, .unset] [(.ref sr)])) rfl rfl (hb hby d38_1)) ?_
  obtain ⟨T1, h1, k1, X1, e1, E1, A1, Ax1, Ov1, st1⟩ := newRE X0 hx hZ hown (own_W249 hw) (own_W65 hw) e0 (g := (mkF m 2 #[rv sr, .unset, .unset] [(.int (4 : Int32))])) rfl (hb hby d38_2) rfl (by decide) (cap := 4) (by decide) (by decide) (by decide) (by decide) (ad := "[Ljava/lang/Object;") rfl
  obtain ⟨b1, g1⟩ : ∃ z, z = h0.size := ⟨_, rfl⟩
  rw [← g1] at A1 Ax1 st1
  have ne_sr_b1 : sr ≠ b1 := Nat.ne_of_lt (Nat.lt_of_lt_of_le As.lt (Nat.le_of_eq g1.symm))
  have ne_el0_b1 : el0 ≠ b1 := Nat.ne_of_lt (Nat.lt_of_lt_of_le (B0.ext O0.2).lt (Nat.le_of_eq g1.symm))
  have ne_el1_b1 : el1 ≠ b1 := Nat.ne_of_lt (Nat.lt_of_lt_of_le (B1.ext O0.2).lt (Nat.le_of_eq g1.symm))
  have ne_el2_b1 : el2 ≠ b1 := Nat.ne_of_lt (Nat.lt_of_lt_of_le (B2.ext O0.2).lt (Nat.le_of_eq g1.symm))
  have ne_el3_b1 : el3 ≠ b1 := Nat.ne_of_lt (Nat.lt_of_lt_of_le (B3.ext O0.2).lt (Nat.le_of_eq g1.symm))
  have g_b1 : n0 ≤ b1 := Nat.le_trans (own_old O0) (Nat.le_of_eq g1.symm)
  have sz_b1 : h0.size ≤ b1 := Nat.le_trans (Keep.refl h0 []).1 (Nat.le_of_eq g1.symm)
  have V1 : Arv Z h1 b1 k1 (.object "java/lang/Object") (4 : Int32) [.null, .null, .null, .null] .null := (Arv.new A1 (by decide)).pad (pad_rep [] .null 4)
  refine own_g T1 (mkF m 5 #[rv sr, .unset, .unset] [(.ref b1)]) st1 ?_
  refine own_g T1 (mkF m 10 #[rv sr, rv b1, iv (0 : Int32)] [(.ref sr), (.int (0 : Int32))]) (fun _ kq => XS.astoreN X1.here hx rfl (hb hby d38_5) rfl rfl (l' := #[rv sr, rv b1, .unset]) rfl (XS.iconst X1.here hx rfl (hb hby d38_6) (XS.istoreN X1.here hx rfl (hb hby d38_7) rfl (l' := #[rv sr, rv b1, iv (0 : Int32)]) rfl (XS.iloadN X1.here hx rfl (hb hby d38_8) rfl (XS.aloadN X1.here hx rfl (hb hby d38_9) rfl rfl kq))))) ?_
  have f2 := (As.ext E1)
  refine own_g T1 (mkF m 11 #[rv sr, rv b1, iv (0 : Int32)] [(.int (4 : Int32)), (.int (0 : Int32))]) (own_alen X1 hx hZ e1 f2 (g := (mkF m 10 #[rv sr, rv b1, iv (0 : Int32)] [(.ref sr), (.int (0 : Int32))])) rfl rfl (hb hby d38_10)) ?_
  refine own_g T1 (mkF m 18 #[rv sr, rv b1, iv (0 : Int32)] [(.int (0 : Int32)), (.ref sr), (.int (0 : Int32)), (.ref b1)]) (fun _ kq => XS.icmpNo X1.here hx rfl (hb hby d38_11) rfl (tlt ((by decide) : (0 : Int32) < (4 : Int32))).2.1 (XS.aloadN X1.here hx rfl (hb hby d38_14) rfl rfl (XS.iloadN X1.here hx rfl (hb hby d38_15) rfl (XS.aloadN X1.here hx rfl (hb hby d38_16) rfl rfl (XS.iloadN X1.here hx rfl (hb hby d38_17) rfl kq))))) ?_
  obtain ⟨cl3, Ar3, q3, S3, Nn3, H3, G3⟩ := id f2
  have hin4 : ¬ ((0 : Int32) < 0 ∨ cl3.slots.size ≤ ((0 : Int32)).toNatClampNeg) := inb_of S3 ⟨by decide, by decide⟩
  have hat4 : cl3.slots[((0 : Int32)).toNatClampNeg]? = some (.ref el0) := Has.at H3 hin4 rfl
  refine own_g T1 (mkF m 19 #[rv sr, rv b1, iv (0 : Int32)] [(.ref el0), (.int (0 : Int32)), (.ref b1)]) (X1.aaload hx (j := (0 : Int32)) (v := (.ref el0)) (by rw [e1]; exact Ar3.1) (State.isArrayOf_alike hZ.alike Ar3.2.1) rfl Ar3.2.2 hin4 hat4 (g := (mkF m 18 #[rv sr, rv b1, iv (0 : Int32)] [(.int (0 : Int32)), (.ref sr), (.int (0 : Int32)), (.ref b1)])) rfl rfl (hb hby d38_18)) ?_
  have O5 := (O0.ext E1)
  obtain ⟨_, T6, L6, X6, ⟨rfl, Nq6, hh6⟩, st6⟩ := own_cS X1 hx hZ hown (own_W250 hw) (own_W251 hw) (own_W162 hw) (own_W252 hw) (rmrnn l Z a0 hw [] el0 h1 n0 O5) e1 (lenOf pd_Ljava_lang_Object__Ljava_lang_Object_418 rfl) (g := (mkF m 19 #[rv sr, rv b1, iv (0 : Int32)] [(.ref el0), (.int (0 : Int32)), (.ref b1)])) (argsL := [(.ref el0)]) (rest := [(.int (0 : Int32)), (.ref b1)]) (W := 2) rfl rfl (hb hby d38_19) (by rw [hml]; rfl) (by show 2 * 0 + _ ≤ _; exact Nat.le_of_eq rfl) rfl (by decide) (by decide) (by decide) (by decide) (by decide)
  have N7 := Fr.app N0 Nq6
  refine own_t T6 (mkF m 22 #[rv sr, rv b1, iv (0 : Int32)] [(.ref el0), (.int (0 : Int32)), (.ref b1)]) st6 ?_
  obtain ⟨cl8, Ar8, q8, S8, Nn8, H8, G8⟩ := id V1
  have hin9 : ¬ ((0 : Int32) < 0 ∨ cl8.slots.size ≤ ((0 : Int32)).toNatClampNeg) := inb_of S8 ⟨by decide, by decide⟩
  obtain ⟨T9, h9, X9, e9, W9, st9⟩ := stR X6 hx hZ hh6 Ar8 (j := (0 : Int32)) hin9 rfl (Sto.ofV Ar8 q8 Ov1 (Ins.of_exa (B0.ext O5.2) (own_W66 hw))) (g := (mkF m 22 #[rv sr, rv b1, iv (0 : Int32)] [(.ref el0), (.int (0 : Int32)), (.ref b1)])) rfl rfl (hb hby d38_22)
  have V9 : Arv Z h9 b1 k1 (.object "java/lang/Object") (4 : Int32) [(.ref el0), .null, .null, .null] .null := Arv.set Ar8 q8 S8 Nn8 H8 G8 rfl W9 0 rfl (Nat.le_of_ble_eq_true rfl)
  have N10 := Fr.snoc X9 N7 g_b1
  refine own_g T9 (mkF m 23 #[rv sr, rv b1, iv (0 : Int32)] []) st9 ?_
  refine own_g T9 (mkF m 10 #[rv sr, rv b1, iv (1 : Int32)] [(.ref sr), (.int (1 : Int32))]) (fun _ kq => XS.iinc X9.here hx rfl (hb hby d38_23) rfl (l' := #[rv sr, rv b1, iv (1 : Int32)]) rfl (XS.goto X9.here hx rfl (pc0 := 26) (pc' := 8) rfl (hb hby d38_26) (by decide) (by decide) (XS.iloadN X9.here hx rfl (hb hby d38_8) rfl (XS.aloadN X9.here hx rfl (hb hby d38_9) rfl rfl kq)))) ?_
  have f11 := (f2.other W9 ne_sr_b1)
  refine own_g T9 (mkF m 11 #[rv sr, rv b1, iv (1 : Int32)] [(.int (4 : Int32)), (.int (1 : Int32))]) (own_alen X9 hx hZ e9 f11 (g := (mkF m 10 #[rv sr, rv b1, iv (1 : Int32)] [(.ref sr), (.int (1 : Int32))])) rfl rfl (hb hby d38_10)) ?_
  refine own_g T9 (mkF m 18 #[rv sr, rv b1, iv (1 : Int32)] [(.int (1 : Int32)), (.ref sr), (.int (1 : Int32)), (.ref b1)]) (fun _ kq => XS.icmpNo X9.here hx rfl (hb hby d38_11) rfl (tlt ((by decide) : (1 : Int32) < (4 : Int32))).2.1 (XS.aloadN X9.here hx rfl (hb hby d38_14) rfl rfl (XS.iloadN X9.here hx rfl (hb hby d38_15) rfl (XS.aloadN X9.here hx rfl (hb hby d38_16) rfl rfl (XS.iloadN X9.here hx rfl (hb hby d38_17) rfl kq))))) ?_
  obtain ⟨cl12, Ar12, q12, S12, Nn12, H12, G12⟩ := id f11
  have hin13 : ¬ ((1 : Int32) < 0 ∨ cl12.slots.size ≤ ((1 : Int32)).toNatClampNeg) := inb_of S12 ⟨by decide, by decide⟩
  have hat13 : cl12.slots[((1 : Int32)).toNatClampNeg]? = some (.ref el1) := Has.at H12 hin13 rfl
  refine own_g T9 (mkF m 19 #[rv sr, rv b1, iv (1 : Int32)] [(.ref el1), (.int (1 : Int32)), (.ref b1)]) (X9.aaload hx (j := (1 : Int32)) (v := (.ref el1)) (by rw [e9]; exact Ar12.1) (State.isArrayOf_alike hZ.alike Ar12.2.1) rfl Ar12.2.2 hin13 hat13 (g := (mkF m 18 #[rv sr, rv b1, iv (1 : Int32)] [(.int (1 : Int32)), (.ref sr), (.int (1 : Int32)), (.ref b1)])) rfl rfl (hb hby d38_18)) ?_
  have O14 := (O5.wr W9 g_b1)
  obtain ⟨_, T15, L15, X15, ⟨rfl, Nq15, hh15⟩, st15⟩ := own_cS X9 hx hZ hown (own_W250 hw) (own_W251 hw) (own_W162 hw) (own_W252 hw) (rmrnn l Z a0 hw [] el1 h9 n0 O14) e9 (lenOf pd_Ljava_lang_Object__Ljava_lang_Object_418 rfl) (g := (mkF m 19 #[rv sr, rv b1, iv (1 : Int32)] [(.ref el1), (.int (1 : Int32)), (.ref b1)])) (argsL := [(.ref el1)]) (rest := [(.int (1 : Int32)), (.ref b1)]) (W := 2) rfl rfl (hb hby d38_19) (by rw [hml]; rfl) (by show 2 * 0 + _ ≤ _; exact Nat.le_of_eq rfl) rfl (by decide) (by decide) (by decide) (by decide) (by decide)
  have N16 := Fr.app N10 Nq15
  refine own_t T15 (mkF m 22 #[rv sr, rv b1, iv (1 : Int32)] [(.ref el1), (.int (1 : Int32)), (.ref b1)]) st15 ?_
  obtain ⟨cl17, Ar17, q17, S17, Nn17, H17, G17⟩ := id V9
  have hin18 : ¬ ((1 : Int32) < 0 ∨ cl17.slots.size ≤ ((1 : Int32)).toNatClampNeg) := inb_of S17 ⟨by decide, by decide⟩
  obtain ⟨T18, h18, X18, e18, W18, st18⟩ := stR X15 hx hZ hh15 Ar17 (j := (1 : Int32)) hin18 rfl (Sto.ofV Ar17 q17 Ov1 (Ins.of_exa (B1.ext O14.2) (own_W66 hw))) (g := (mkF m 22 #[rv sr, rv b1, iv (1 : Int32)] [(.ref el1), (.int (1 : Int32)), (.ref b1)])) rfl rfl (hb hby d38_22)
  have V18 : Arv Z h18 b1 k1 (.object "java/lang/Object") (4 : Int32) [(.ref el0), (.ref el1), .null, .null] .null := Arv.set Ar17 q17 S17 Nn17 H17 G17 rfl W18 1 rfl (Nat.le_of_ble_eq_true rfl)
  have N19 := Fr.snoc X18 N16 g_b1
  refine own_g T18 (mkF m 23 #[rv sr, rv b1, iv (1 : Int32)] []) st18 ?_
  refine own_g T18 (mkF m 10 #[rv sr, rv b1, iv (2 : Int32)] [(.ref sr), (.int (2 : Int32))]) (fun _ kq => XS.iinc X18.here hx rfl (hb hby d38_23) rfl (l' := #[rv sr, rv b1, iv (2 : Int32)]) rfl (XS.goto X18.here hx rfl (pc0 := 26) (pc' := 8) rfl (hb hby d38_26) (by decide) (by decide) (XS.iloadN X18.here hx rfl (hb hby d38_8) rfl (XS.aloadN X18.here hx rfl (hb hby d38_9) rfl rfl kq)))) ?_
  have f20 := (f11.other W18 ne_sr_b1)
  refine own_g T18 (mkF m 11 #[rv sr, rv b1, iv (2 : Int32)] [(.int (4 : Int32)), (.int (2 : Int32))]) (own_alen X18 hx hZ e18 f20 (g := (mkF m 10 #[rv sr, rv b1, iv (2 : Int32)] [(.ref sr), (.int (2 : Int32))])) rfl rfl (hb hby d38_10)) ?_
  refine own_g T18 (mkF m 18 #[rv sr, rv b1, iv (2 : Int32)] [(.int (2 : Int32)), (.ref sr), (.int (2 : Int32)), (.ref b1)]) (fun _ kq => XS.icmpNo X18.here hx rfl (hb hby d38_11) rfl (tlt ((by decide) : (2 : Int32) < (4 : Int32))).2.1 (XS.aloadN X18.here hx rfl (hb hby d38_14) rfl rfl (XS.iloadN X18.here hx rfl (hb hby d38_15) rfl (XS.aloadN X18.here hx rfl (hb hby d38_16) rfl rfl (XS.iloadN X18.here hx rfl (hb hby d38_17) rfl kq))))) ?_
  obtain ⟨cl21, Ar21, q21, S21, Nn21, H21, G21⟩ := id f20
  have hin22 : ¬ ((2 : Int32) < 0 ∨ cl21.slots.size ≤ ((2 : Int32)).toNatClampNeg) := inb_of S21 ⟨by decide, by decide⟩
  have hat22 : cl21.slots[((2 : Int32)).toNatClampNeg]? = some (.ref el2) := Has.at H21 hin22 rfl
  refine own_g T18 (mkF m 19 #[rv sr, rv b1, iv (2 : Int32)] [(.ref el2), (.int (2 : Int32)), (.ref b1)]) (X18.aaload hx (j := (2 : Int32)) (v := (.ref el2)) (by rw [e18]; exact Ar21.1) (State.isArrayOf_alike hZ.alike Ar21.2.1) rfl Ar21.2.2 hin22 hat22 (g := (mkF m 18 #[rv sr, rv b1, iv (2 : Int32)] [(.int (2 : Int32)), (.ref sr), (.int (2 : Int32)), (.ref b1)])) rfl rfl (hb hby d38_18)) ?_
  have O23 := (O14.wr W18 g_b1)
  obtain ⟨_, T24, L24, X24, ⟨rfl, Nq24, hh24⟩, st24⟩ := own_cS X18 hx hZ hown (own_W250 hw) (own_W251 hw) (own_W162 hw) (own_W252 hw) (rmrnn l Z a0 hw [] el2 h18 n0 O23) e18 (lenOf pd_Ljava_lang_Object__Ljava_lang_Object_418 rfl) (g := (mkF m 19 #[rv sr, rv b1, iv (2 : Int32)] [(.ref el2), (.int (2 : Int32)), (.ref b1)])) (argsL := [(.ref el2)]) (rest := [(.int (2 : Int32)), (.ref b1)]) (W := 2) rfl rfl (hb hby d38_19) (by rw [hml]; rfl) (by show 2 * 0 + _ ≤ _; exact Nat.le_of_eq rfl) rfl (by decide) (by decide) (by decide) (by decide) (by decide)
  have N25 := Fr.app N19 Nq24
  refine own_t T24 (mkF m 22 #[rv sr, rv b1, iv (2 : Int32)] [(.ref el2), (.int (2 : Int32)), (.ref b1)]) st24 ?_
  obtain ⟨cl26, Ar26, q26, S26, Nn26, H26, G26⟩ := id V18
  have hin27 : ¬ ((2 : Int32) < 0 ∨ cl26.slots.size ≤ ((2 : Int32)).toNatClampNeg) := inb_of S26 ⟨by decide, by decide⟩
  obtain ⟨T27, h27, X27, e27, W27, st27⟩ := stR X24 hx hZ hh24 Ar26 (j := (2 : Int32)) hin27 rfl (Sto.ofV Ar26 q26 Ov1 (Ins.of_exa (B2.ext O23.2) (own_W66 hw))) (g := (mkF m 22 #[rv sr, rv b1, iv (2 : Int32)] [(.ref el2), (.int (2 : Int32)), (.ref b1)])) rfl rfl (hb hby d38_22)
  have V27 : Arv Z h27 b1 k1 (.object "java/lang/Object") (4 : Int32) [(.ref el0), (.ref el1), (.ref el2), .null] .null := Arv.set Ar26 q26 S26 Nn26 H26 G26 rfl W27 2 rfl (Nat.le_of_ble_eq_true rfl)
  have N28 := Fr.snoc X27 N25 g_b1
  obtain ⟨LL29, Xp29, Np29⟩ : ∃ LL, Stand p l e (own_R 5 2 6 63) s m #[(.ref sr)] below meth c T27 LL 1 4 ∧ Fr n0 LL := ⟨_, X27, N28⟩
  refine own_g T27 (mkF m 23 #[rv sr, rv b1, iv (2 : Int32)] []) st27 ?_
  refine own_g T27 (mkF m 10 #[rv sr, rv b1, iv (3 : Int32)] [(.ref sr), (.int (3 : Int32))]) (fun _ kq => XS.iinc Xp29.here hx rfl (hb hby d38_23) rfl (l' := #[rv sr, rv b1, iv (3 : Int32)]) rfl (XS.goto Xp29.here hx rfl (pc0 := 26) (pc' := 8) rfl (hb hby d38_26) (by decide) (by decide) (XS.iloadN Xp29.here hx rfl (hb hby d38_8) rfl (XS.aloadN Xp29.here hx rfl (hb hby d38_9) rfl rfl kq)))) ?_
  have f30 := (f20.other W27 ne_sr_b1)
  refine own_g T27 (mkF m 11 #[rv sr, rv b1, iv (3 : Int32)] [(.int (4 : Int32)), (.int (3 : Int32))]) (own_alen Xp29 hx hZ e27 f30 (g := (mkF m 10 #[rv sr, rv b1, iv (3 : Int32)] [(.ref sr), (.int (3 : Int32))])) rfl rfl (hb hby d38_10)) ?_
  refine own_g T27 (mkF m 18 #[rv sr, rv b1, iv (3 : Int32)] [(.int (3 : Int32)), (.ref sr), (.int (3 : Int32)), (.ref b1)]) (fun _ kq => XS.icmpNo Xp29.here hx rfl (hb hby d38_11) rfl (tlt ((by decide) : (3 : Int32) < (4 : Int32))).2.1 (XS.aloadN Xp29.here hx rfl (hb hby d38_14) rfl rfl (XS.iloadN Xp29.here hx rfl (hb hby d38_15) rfl (XS.aloadN Xp29.here hx rfl (hb hby d38_16) rfl rfl (XS.iloadN Xp29.here hx rfl (hb hby d38_17) rfl kq))))) ?_
  obtain ⟨cl31, Ar31, q31, S31, Nn31, H31, G31⟩ := id f30
  have hin32 : ¬ ((3 : Int32) < 0 ∨ cl31.slots.size ≤ ((3 : Int32)).toNatClampNeg) := inb_of S31 ⟨by decide, by decide⟩
  have hat32 : cl31.slots[((3 : Int32)).toNatClampNeg]? = some (.ref el3) := Has.at H31 hin32 rfl
  refine own_g T27 (mkF m 19 #[rv sr, rv b1, iv (3 : Int32)] [(.ref el3), (.int (3 : Int32)), (.ref b1)]) (Xp29.aaload hx (j := (3 : Int32)) (v := (.ref el3)) (by rw [e27]; exact Ar31.1) (State.isArrayOf_alike hZ.alike Ar31.2.1) rfl Ar31.2.2 hin32 hat32 (g := (mkF m 18 #[rv sr, rv b1, iv (3 : Int32)] [(.int (3 : Int32)), (.ref sr), (.int (3 : Int32)), (.ref b1)])) rfl rfl (hb hby d38_18)) ?_
  have O33 := (O23.wr W27 g_b1)
  obtain ⟨_, T34, L34, X34, ⟨rfl, Nq34, hh34⟩, st34⟩ := own_cS Xp29 hx hZ hown (own_W250 hw) (own_W251 hw) (own_W162 hw) (own_W252 hw) (rmrnn l Z a0 hw [] el3 h27 n0 O33) e27 (lenOf pd_Ljava_lang_Object__Ljava_lang_Object_418 rfl) (g := (mkF m 19 #[rv sr, rv b1, iv (3 : Int32)] [(.ref el3), (.int (3 : Int32)), (.ref b1)])) (argsL := [(.ref el3)]) (rest := [(.int (3 : Int32)), (.ref b1)]) (W := 2) rfl rfl (hb hby d38_19) (by rw [hml]; rfl) (by show 2 * 0 + _ ≤ _; exact Nat.le_of_eq rfl) rfl (by decide) (by decide) (by decide) (by decide) (by decide)
  have N35 := Fr.app Np29 Nq34
  refine own_t T34 (mkF m 22 #[rv sr, rv b1, iv (3 : Int32)] [(.ref el3), (.int (3 : Int32)), (.ref b1)]) st34 ?_
  obtain ⟨cl36, Ar36, q36, S36, Nn36, H36, G36⟩ := id V27
  have hin37 : ¬ ((3 : Int32) < 0 ∨ cl36.slots.size ≤ ((3 : Int32)).toNatClampNeg) := inb_of S36 ⟨by decide, by decide⟩
  obtain ⟨T37, h37, X37, e37, W37, st37⟩ := stR X34 hx hZ hh34 Ar36 (j := (3 : Int32)) hin37 rfl (Sto.ofV Ar36 q36 Ov1 (Ins.of_exa (B3.ext O33.2) (own_W66 hw))) (g := (mkF m 22 #[rv sr, rv b1, iv (3 : Int32)] [(.ref el3), (.int (3 : Int32)), (.ref b1)])) rfl rfl (hb hby d38_22)
  have V37 : Arv Z h37 b1 k1 (.object "java/lang/Object") (4 : Int32) [(.ref el0), (.ref el1), (.ref el2), (.ref el3)] .null := Arv.set Ar36 q36 S36 Nn36 H36 G36 rfl W37 3 rfl (Nat.le_of_ble_eq_true rfl)
  have N38 := Fr.snoc X37 N35 g_b1
  refine own_g T37 (mkF m 23 #[rv sr, rv b1, iv (3 : Int32)] []) st37 ?_
  refine own_g T37 (mkF m 10 #[rv sr, rv b1, iv (4 : Int32)] [(.ref sr), (.int (4 : Int32))]) (fun _ kq => XS.iinc X37.here hx rfl (hb hby d38_23) rfl (l' := #[rv sr, rv b1, iv (4 : Int32)]) rfl (XS.goto X37.here hx rfl (pc0 := 26) (pc' := 8) rfl (hb hby d38_26) (by decide) (by decide) (XS.iloadN X37.here hx rfl (hb hby d38_8) rfl (XS.aloadN X37.here hx rfl (hb hby d38_9) rfl rfl kq)))) ?_
  have f39 := (f30.other W37 ne_sr_b1)
  refine own_g T37 (mkF m 11 #[rv sr, rv b1, iv (4 : Int32)] [(.int (4 : Int32)), (.int (4 : Int32))]) (own_alen X37 hx hZ e37 f39 (g := (mkF m 10 #[rv sr, rv b1, iv (4 : Int32)] [(.ref sr), (.int (4 : Int32))])) rfl rfl (hb hby d38_10)) ?_
  refine own_g T37 (mkF m 29 #[rv sr, rv b1, iv (4 : Int32)] []) (fun _ kq => XS.icmpYes X37.here hx rfl (pc0 := 11) (pc' := 29) rfl (hb hby d38_11) rfl (flt ((by decide) : ¬ ((4 : Int32) < (4 : Int32)))).2.1 (by decide) (by decide) kq) ?_
  obtain ⟨T40, h40, X40, e40, E40, A40, D40, -, st40⟩ := newO X37 hx hZ hown (own_W207 hw) (own_W253 hw) (own_W254 hw) e37 (g := (mkF m 29 #[rv sr, rv b1, iv (4 : Int32)] [])) rfl (hb hby d38_29) (by decide) (by decide)
  obtain ⟨b40, g40⟩ : ∃ z, z = h37.size := ⟨_, rfl⟩
  rw [← g40] at A40 D40 st40
  have ne_sr_b40 : sr ≠ b40 := Nat.ne_of_lt (Nat.lt_of_lt_of_le f39.lt (Nat.le_of_eq g40.symm))
  have O41 := (O33.wr W37 g_b1)
  have ne_el0_b40 : el0 ≠ b40 := Nat.ne_of_lt (Nat.lt_of_lt_of_le (B0.ext O41.2).lt (Nat.le_of_eq g40.symm))
  have ne_el1_b40 : el1 ≠ b40 := Nat.ne_of_lt (Nat.lt_of_lt_of_le (B1.ext O41.2).lt (Nat.le_of_eq g40.symm))
  have ne_el2_b40 : el2 ≠ b40 := Nat.ne_of_lt (Nat.lt_of_lt_of_le (B2.ext O41.2).lt (Nat.le_of_eq g40.symm))
  have ne_el3_b40 : el3 ≠ b40 := Nat.ne_of_lt (Nat.lt_of_lt_of_le (B3.ext O41.2).lt (Nat.le_of_eq g40.symm))
  have ne_b1_b40 : b1 ≠ b40 := Nat.ne_of_lt (Nat.lt_of_lt_of_le V37.lt (Nat.le_of_eq g40.symm))
  have g_b40 : n0 ≤ b40 := Nat.le_trans (own_old O41) (Nat.le_of_eq g40.symm)
  have K42 : Keep h0 _ [] := ((((((Keep.refl h0 []).ext E1).wr W9 (Or.inr sz_b1)).wr W18 (Or.inr sz_b1)).wr W27 (Or.inr sz_b1)).wr W37 (Or.inr sz_b1))
  have sz_b40 : h0.size ≤ b40 := Nat.le_trans K42.1 (Nat.le_of_eq g40.symm)
  have F_elements_b40 : Fld Z h40 b40 "java/util/ImmutableCollections$ListN" "elements" "[Ljava/lang/Object;" .null := D40 (Or.inr (own_W274 hw)) (ty := (.array (.object "java/lang/Object"))) (by decide)
  have F_allowNulls_b40 : Fld Z h40 b40 "java/util/ImmutableCollections$ListN" "allowNulls" "Z" (.int (0 : Int32)) := D40 (Or.inr (own_W276 hw)) (ty := .boolean) (by decide)
  refine own_g T40 (mkF m 32 #[rv sr, rv b1, iv (4 : Int32)] [(.ref b40)]) st40 ?_
  refine own_g T40 (mkF m 35 #[rv sr, rv b1, iv (4 : Int32)] [(.int (0 : Int32)), (.ref b1), (.ref b40), (.ref b40)]) (fun _ kq => XS.dup X40.here hx rfl (hb hby d38_32) rfl rfl (XS.aloadN X40.here hx rfl (hb hby d38_33) rfl rfl (XS.iconst X40.here hx rfl (hb hby d38_34) kq))) ?_
  have O43 := (O41.ext E40)
  obtain ⟨_, _, ⟨T44, L44, k44, n44⟩, -, X44, ⟨Lc44, hQ44, l44, y44, z44⟩, st44⟩ := X40.specialBackNest hx (y := (⟨"java/util/ImmutableCollections$ListN", "<init>", "([Ljava/lang/Object;Z)V"⟩ : MethodName)) rfl hown (own_mvMN hZ (own_W255 hw)) (mvT hZ (own_W256 hw)) (mvT hZ (own_W258 hw)) (by decide) (backOf (W := 1) (rmlni l Z a0 hw [] b40 b1 h40 n0 O43 A40 F_elements_b40 F_allowNulls_b40 g_b40) hZ (own_W258 hw) (own_W254 hw) (by decide) (by decide)) (g := (mkF m 35 #[rv sr, rv b1, iv (4 : Int32)] [(.int (0 : Int32)), (.ref b1), (.ref b40), (.ref b40)])) rfl (by rw [hml]; rfl) (Steps.refl _) (a := b40) (argsL := [(.ref b1), (.int (0 : Int32))]) (rest := [(.ref b40)]) (lenOf pd_Ljava_lang_Object_Z_V_18 rfl) rfl (by show 2 * 0 + _ ≤ _; exact Nat.le_of_eq rfl) (hb hby d38_35) (fun _ _ => ⟨rfl, e40, (by decide : 2 + 0 ≤ _), (by decide : 6 + 0 ≤ _)⟩)
  dsimp only [Pt.U, Pt.locs, Pt.cells, Pt.slots] at X44 l44 y44 z44 st44 hQ44
  subst l44 y44 z44
  obtain ⟨rfl, Nq44, Kc44, Fa44⟩ := hQ44
  have N45 := Fr.app N38 Nq44
  refine own_t T44 (mkF m 38 #[rv sr, rv b1, iv (4 : Int32)] [(.ref b40)]) st44 ?_
  have K46 : Keep h0 _ [] := ((K42.ext E40).trans Kc44 (allS (Or.inr sz_b40) all0))
  have f47 := (A40.keep Kc44)
  have f48 := ((V37.ext E40).keep Kc44 (ninS ne_b1_b40 nin0))
  refine own_out X44 Bd.notSynchronized (v := (some (.ref b40))) (fun h => by rw [Bd.returns] at h; cases h) (fun fs hr => own_retA X44 hx Bd.returns rfl rfl rfl (hb hby d38_38) hr) ?_ (by decide) (by decide)
  exact ⟨_, _, _, rfl, N45, K46, g_b40, sz_b40, f47, Fa44, f48⟩
theorem ef_lof4 (m : MethodId) (x0 : Addr) : entryFrame m #[(.ref x0)] 2 = mkF m 0 #[.val (.ref x0), .unset] [] := by first | (simp [entryFrame, mkF, argsToLocals, Value.category]; done) | rfl
def Qlof4 (Z : State) (sr we : Addr) (ks : ClassId) (el0 el1 el2 el3 : Addr) (h0 : Heap) (n0 : Nat) (v : Option Value) (h : Heap) (L : List Loc) : Prop := ∃ (r ar : Addr) (ka : ClassId), v = some (.ref r) ∧ Fr n0 L ∧ Keep h0 h [] ∧ n0 ≤ r ∧ h0.size ≤ r ∧ Exa Z h r "java/util/ImmutableCollections$ListN" ∧ Fld Z h r "java/util/ImmutableCollections$ListN" "elements" "[Ljava/lang/Object;" (.ref ar) ∧ Arv Z h ar ka (.object "java/lang/Object") (4 : Int32) [(.ref el0), (.ref el1), (.ref el2), (.ref el3)] .null
set_option maxRecDepth 65536 in
set_option maxHeartbeats 40000000 in
theorem rmlof4 (l : Launch) (Z : State) (a0 : Array Value) (hw : own_H a0 Z) (ws : List Jvm.Cond) (sr we : Addr) (ks : ClassId) (el0 el1 el2 el3 : Addr) (h0 : Heap) (n0 : Nat) (O0 : Old Z n0 h0) (As : Arv Z h0 sr ks (.object "java/lang/Object") (4 : Int32) [(.ref el0), (.ref el1), (.ref el2), (.ref el3)] .null) (Sem : Sta Z Z.heap "java/util/ImmutableCollections" "EMPTY" "Ljava/lang/Object;" (.ref we)) (B0 : Exa Z Z.heap el0 "java/math/BigDecimal") (B1 : Exa Z Z.heap el1 "java/math/BigDecimal") (B2 : Exa Z Z.heap el2 "java/math/BigDecimal") (B3 : Exa Z Z.heap el3 "java/math/BigDecimal") :
    own_M l (⟨"java/util/List", "of", "([Ljava/lang/Object;)Ljava/util/List;"⟩ : MethodName) jdk_40_method_47_code 2 (some (.object "java/util/List")) ws (own_R 6 2 6 77) Z #[(.ref sr)] h0 (Qlof4 Z sr we ks el0 el1 el2 el3 h0 n0) := by
  refine own_body (plainFor_of_name pn_java_util_List) (fun m => ef_lof4 m sr) ?_
  intro p e s m below meth c s₁ Bd hx hby hml hown hnm X0 e0 hZ
  have N0 := Fr.nil n0
  refine own_g s₁ (mkF m 1 #[rv sr, .unset] [(.ref sr)]) (fun _ kq => XS.aloadN X0.here hx rfl (hb hby d37_0) rfl rfl kq) ?_
  refine own_g s₁ (mkF m 2 #[rv sr, .unset] [(.int (4 : Int32))]) (own_alen X0 hx hZ e0 As (g := (mkF m 1 #[rv sr, .unset] [(.ref sr)])) rfl rfl (hb hby d37_1)) ?_
  refine own_g s₁ (mkF m 60 #[rv sr, .unset] [(.ref sr)]) (fun _ kq => XS.tswOut X0.here hx rfl (pc0 := 2) (pc' := 59) rfl (hb hby d37_2) rfl (by decide) (by decide) (by decide) (XS.aloadN X0.here hx rfl (hb hby d37_59) rfl rfl kq)) ?_
  obtain ⟨_, T1, L1, X1, ⟨r1, ar1, ka1, rfl, Nq1, Kc1, gr1, szr1, La1, Lb1, Lc_1⟩, st1⟩ := own_cS X0 hx hZ hown (own_W246 hw) (own_W247 hw) (own_W200 hw) (own_W248 hw) (rmlfa4 l Z a0 hw [] sr we ks el0 el1 el2 el3 h0 n0 O0 As Sem B0 B1 B2 B3) e0 (lenOf pd_Ljava_lang_Object__Ljava_util_List_350 rfl) (g := (mkF m 60 #[rv sr, .unset] [(.ref sr)])) (argsL := [(.ref sr)]) (rest := []) (W := 0) rfl rfl (hb hby d37_60) (by rw [hml]; rfl) (by show 2 * 0 + _ ≤ _; exact Nat.le_of_eq rfl) rfl (by decide) (by decide) (by decide) (by decide) (by decide)
  have N2 := Fr.app N0 Nq1
  refine own_t T1 (mkF m 63 #[rv sr, .unset] [(.ref r1)]) st1 ?_
  have K3 : Keep h0 _ [] := ((Keep.refl h0 []).trans Kc1 all0)
  refine own_out X1 Bd.notSynchronized (v := (some (.ref r1))) (fun h => by rw [Bd.returns] at h; cases h) (fun fs hr => own_retA X1 hx Bd.returns rfl rfl rfl (hb hby d37_63) hr) ?_ (by decide) (by decide)
  exact ⟨_, _, _, rfl, N2, K3, gr1, szr1, La1, Lb1, Lc_1⟩
theorem ef_lcp4 (m : MethodId) (x0 : Addr) : entryFrame m #[(.ref x0)] 2 = mkF m 0 #[.val (.ref x0), .unset] [] := by first | (simp [entryFrame, mkF, argsToLocals, Value.category]; done) | rfl
def Qlcp4 (Z : State) (a1 ed mr we : Addr) (kd : ClassId) (el0 el1 el2 el3 : Addr) (h0 : Heap) (n0 : Nat) (v : Option Value) (h : Heap) (L : List Loc) : Prop := ∃ (r ar : Addr) (ka : ClassId), v = some (.ref r) ∧ Fr n0 L ∧ Keep h0 h [] ∧ n0 ≤ r ∧ h0.size ≤ r ∧ Exa Z h r "java/util/ImmutableCollections$ListN" ∧ Fld Z h r "java/util/ImmutableCollections$ListN" "elements" "[Ljava/lang/Object;" (.ref ar) ∧ Arv Z h ar ka (.object "java/lang/Object") (4 : Int32) [(.ref el0), (.ref el1), (.ref el2), (.ref el3)] .null
set_option maxRecDepth 65536 in
set_option maxHeartbeats 40000000 in
theorem rmlcp4 (l : Launch) (Z : State) (a0 : Array Value) (hw : own_H a0 Z) (ws : List Jvm.Cond) (a1 ed mr we : Addr) (kd : ClassId) (el0 el1 el2 el3 : Addr) (h0 : Heap) (n0 : Nat) (O0 : Old Z n0 h0) (Ea : Exa Z h0 a1 "java/util/ArrayList") (Fs : Fld Z h0 a1 "java/util/ArrayList" "size" "I" (.int (4 : Int32))) (Fe : Fld Z h0 a1 "java/util/ArrayList" "elementData" "[Ljava/lang/Object;" (.ref ed)) (Ad : Arv Z h0 ed kd (.object "java/lang/Object") (10 : Int32) [(.ref el0), (.ref el1), (.ref el2), (.ref el3), .null, .null, .null, .null, .null, .null] .null) (Ed : Exa Z h0 ed "[Ljava/lang/Object;") (Mr : own_Mir Z "[Ljava/lang/Object;" mr) (Sem : Sta Z Z.heap "java/util/ImmutableCollections" "EMPTY" "Ljava/lang/Object;" (.ref we)) (B0 : Exa Z Z.heap el0 "java/math/BigDecimal") (B1 : Exa Z Z.heap el1 "java/math/BigDecimal") (B2 : Exa Z Z.heap el2 "java/math/BigDecimal") (B3 : Exa Z Z.heap el3 "java/math/BigDecimal") :
    own_M l (⟨"java/util/ImmutableCollections", "listCopy", "(Ljava/util/Collection;)Ljava/util/List;"⟩ : MethodName) jdk_56_method_3_code 2 (some (.object "java/util/List")) ws (own_R 7 3 10 91) Z #[(.ref a1)] h0 (Qlcp4 Z a1 ed mr we kd el0 el1 el2 el3 h0 n0) := by
  refine own_body (plainFor_of_name pn_java_util_ImmutableCollections) (fun m => ef_lcp4 m a1) ?_
  intro p e s m below meth c s₁ Bd hx hby hml hown hnm X0 e0 hZ
  have N0 := Fr.nil n0
  refine own_g s₁ (mkF m 1 #[rv a1, .unset] [(.ref a1)]) (fun _ kq => XS.aloadN X0.here hx rfl (hb hby d32_0) rfl rfl kq) ?_
  obtain ⟨T1, X1, e1, st1⟩ := instNo X0 hx hZ hown (own_W202 hw) e0 Ea (own_NSno (own_W203 hw) (own_W307 hw) (NS.step (own_W203 hw) (NS.step (own_W204 hw) (NS.step (own_W205 hw) (own_NSroot (own_W206 hw) (own_W307 hw) (by decide)) (by decide)) (by decide)) (by decide)) (by decide)) (g := (mkF m 1 #[rv a1, .unset] [(.ref a1)])) rfl rfl (hb hby d32_1)
  refine own_g T1 (mkF m 4 #[rv a1, .unset] [(.int (0 : Int32))]) st1 ?_
  refine own_g T1 (mkF m 8 #[rv a1, .unset] [(.ref a1)]) (fun _ kq => XS.ifNo X1.here hx rfl (hb hby d32_4) rfl ((if0 _ _).trans (teq ((by decide) : (0 : Int32) = (0 : Int32))).2) (XS.aloadN X1.here hx rfl (hb hby d32_7) rfl rfl kq)) ?_
  obtain ⟨T2, X2, e2, st2⟩ := instNo X1 hx hZ hown (own_W207 hw) e1 Ea (own_NSno (own_W203 hw) (own_W253 hw) (NS.step (own_W203 hw) (NS.step (own_W204 hw) (NS.step (own_W205 hw) (own_NSroot (own_W206 hw) (own_W253 hw) (by decide)) (by decide)) (by decide)) (by decide)) (by decide)) (g := (mkF m 8 #[rv a1, .unset] [(.ref a1)])) rfl rfl (hb hby d32_8)
  refine own_g T2 (mkF m 11 #[rv a1, .unset] [(.int (0 : Int32))]) st2 ?_
  refine own_g T2 (mkF m 32 #[rv a1, .unset] [(.ref a1)]) (fun _ kq => XS.ifYes X2.here hx rfl (pc0 := 11) (pc' := 31) rfl (hb hby d32_11) rfl ((if0 _ _).trans (teq ((by decide) : (0 : Int32) = (0 : Int32))).1) (by decide) (by decide) (XS.aloadN X2.here hx rfl (hb hby d32_31) rfl rfl kq)) ?_
  obtain ⟨_, T3, L3, X3, ⟨rfl, Nq3, hh3⟩, st3⟩ := own_cF X2 hx hZ hown (own_W208 hw) (own_W209 hw) (mvT hZ (own_W210 hw)) (own_W211 hw) (own_W139 hw) (own_W140 hw) (own_W141 hw) (own_W212 hw) (own_W12 hw) (own_W143 hw) (rmalisEmpty4 l Z a0 hw [] a1 h0 n0 O0 Fs) e2 Ea (lenOf pd_Z_171 rfl) (g := (mkF m 32 #[rv a1, .unset] [(.ref a1)])) (argsL := []) (rest := []) (W := 0) rfl rfl (hb hby d32_32) (by rw [hml]; rfl) (by show 2 * 0 + _ ≤ _; exact Nat.le_of_eq rfl) rfl (by decide) (by decide) (by decide) (by decide) (by decide)
  have N4 := Fr.app N0 Nq3
  refine own_t T3 (mkF m 37 #[rv a1, .unset] [(.int (0 : Int32))]) st3 ?_
  refine own_g T3 (mkF m 45 #[rv a1, .unset] [(.ref a1)]) (fun _ kq => XS.ifYes X3.here hx rfl (pc0 := 37) (pc' := 44) rfl (hb hby d32_37) rfl ((if0 _ _).trans (teq ((by decide) : (0 : Int32) = (0 : Int32))).1) (by decide) (by decide) (XS.aloadN X3.here hx rfl (hb hby d32_44) rfl rfl kq)) ?_
  obtain ⟨_, T5, L5, X5, ⟨r5, kr5, rfl, Nq5, Kc5, gr5, szr5, Ar5, Er5, Or5⟩, st5⟩ := own_cF X3 hx hZ hown (own_W213 hw) (own_W214 hw) (mvT hZ (own_W215 hw)) (own_W216 hw) (own_W217 hw) (own_W218 hw) (own_W219 hw) (own_W212 hw) (own_W12 hw) (own_W220 hw) (rmtoa4 l Z a0 hw [] a1 ed mr kd el0 el1 el2 el3 h0 n0 O0 Fs Fe Ad Ed Mr B0 B1 B2 B3) hh3 Ea (lenOf pd_Ljava_lang_Object_839 rfl) (g := (mkF m 45 #[rv a1, .unset] [(.ref a1)])) (argsL := []) (rest := []) (W := 0) rfl rfl (hb hby d32_45) (by rw [hml]; rfl) (by show 2 * 0 + _ ≤ _; exact Nat.le_of_eq rfl) rfl (by decide) (by decide) (by decide) (by decide) (by decide)
  have N6 := Fr.app N4 Nq5
  refine own_t T5 (mkF m 50 #[rv a1, .unset] [(.ref r5)]) st5 ?_
  have K7 : Keep h0 _ [] := ((Keep.refl h0 []).trans Kc5 all0)
  have szq := K7
  have O8 := (O0.keep Kc5 all0)
  obtain ⟨_, T9, L9, X9, ⟨r9, ar9, ka9, rfl, Nq9, Kc9, gr9, szr9, La9, Lb9, Lc_9⟩, st9⟩ := own_cS X5 hx hZ hown (own_W243 hw) (own_W244 hw) (own_W196 hw) (own_W245 hw) (rmlof4 l Z a0 hw [] r5 we kr5 el0 el1 el2 el3 T5.heap n0 O8 Ar5 Sem B0 B1 B2 B3) rfl (lenOf pd_Ljava_lang_Object__Ljava_util_List_350 rfl) (g := (mkF m 50 #[rv a1, .unset] [(.ref r5)])) (argsL := [(.ref r5)]) (rest := []) (W := 0) rfl rfl (hb hby d32_50) (by rw [hml]; rfl) (by show 2 * 0 + _ ≤ _; exact Nat.le_of_eq rfl) rfl (by decide) (by decide) (by decide) (by decide) (by decide)
  have N10 := Fr.app N6 Nq9
  refine own_t T9 (mkF m 53 #[rv a1, .unset] [(.ref r9)]) st9 ?_
  have K11 : Keep h0 _ [] := (K7.trans Kc9 all0)
  refine own_out X9 Bd.notSynchronized (v := (some (.ref r9))) (fun h => by rw [Bd.returns] at h; cases h) (fun fs hr => own_retA X9 hx Bd.returns rfl rfl rfl (hb hby d32_53) hr) ?_ (by decide) (by decide)
  exact ⟨_, _, _, rfl, N10, K11, gr9, Nat.le_trans szq.1 szr9, La9, Lb9, Lc_9⟩
theorem ef_lco4 (m : MethodId) (x0 : Addr) : entryFrame m #[(.ref x0)] 1 = mkF m 0 #[.val (.ref x0)] [] := by first | (simp [entryFrame, mkF, argsToLocals, Value.category]; done) | rfl
def Qlco4 (Z : State) (a1 ed mr we : Addr) (kd : ClassId) (el0 el1 el2 el3 : Addr) (h0 : Heap) (n0 : Nat) (v : Option Value) (h : Heap) (L : List Loc) : Prop := ∃ (r ar : Addr) (ka : ClassId), v = some (.ref r) ∧ Fr n0 L ∧ Keep h0 h [] ∧ n0 ≤ r ∧ h0.size ≤ r ∧ Exa Z h r "java/util/ImmutableCollections$ListN" ∧ Fld Z h r "java/util/ImmutableCollections$ListN" "elements" "[Ljava/lang/Object;" (.ref ar) ∧ Arv Z h ar ka (.object "java/lang/Object") (4 : Int32) [(.ref el0), (.ref el1), (.ref el2), (.ref el3)] .null
set_option maxRecDepth 65536 in
set_option maxHeartbeats 40000000 in
theorem rmlco4 (l : Launch) (Z : State) (a0 : Array Value) (hw : own_H a0 Z) (ws : List Jvm.Cond) (a1 ed mr we : Addr) (kd : ClassId) (el0 el1 el2 el3 : Addr) (h0 : Heap) (n0 : Nat) (O0 : Old Z n0 h0) (Ea : Exa Z h0 a1 "java/util/ArrayList") (Fs : Fld Z h0 a1 "java/util/ArrayList" "size" "I" (.int (4 : Int32))) (Fe : Fld Z h0 a1 "java/util/ArrayList" "elementData" "[Ljava/lang/Object;" (.ref ed)) (Ad : Arv Z h0 ed kd (.object "java/lang/Object") (10 : Int32) [(.ref el0), (.ref el1), (.ref el2), (.ref el3), .null, .null, .null, .null, .null, .null] .null) (Ed : Exa Z h0 ed "[Ljava/lang/Object;") (Mr : own_Mir Z "[Ljava/lang/Object;" mr) (Sem : Sta Z Z.heap "java/util/ImmutableCollections" "EMPTY" "Ljava/lang/Object;" (.ref we)) (B0 : Exa Z Z.heap el0 "java/math/BigDecimal") (B1 : Exa Z Z.heap el1 "java/math/BigDecimal") (B2 : Exa Z Z.heap el2 "java/math/BigDecimal") (B3 : Exa Z Z.heap el3 "java/math/BigDecimal") :
    own_M l (⟨"java/util/List", "copyOf", "(Ljava/util/Collection;)Ljava/util/List;"⟩ : MethodName) jdk_40_method_48_code 1 (some (.object "java/util/List")) ws (own_R 8 3 10 104) Z #[(.ref a1)] h0 (Qlco4 Z a1 ed mr we kd el0 el1 el2 el3 h0 n0) := by
  refine own_body (plainFor_of_name pn_java_util_List) (fun m => ef_lco4 m a1) ?_
  intro p e s m below meth c s₁ Bd hx hby hml hown hnm X0 e0 hZ
  have N0 := Fr.nil n0
  refine own_g s₁ (mkF m 1 #[rv a1] [(.ref a1)]) (fun _ kq => XS.aloadN X0.here hx rfl (hb hby d31_0) rfl rfl kq) ?_
  obtain ⟨_, T1, L1, X1, ⟨r1, ar1, ka1, rfl, Nq1, Kc1, gr1, szr1, La1, Lb1, Lc_1⟩, st1⟩ := own_cS X0 hx hZ hown (own_W198 hw) (own_W199 hw) (own_W200 hw) (own_W201 hw) (rmlcp4 l Z a0 hw [] a1 ed mr we kd el0 el1 el2 el3 h0 n0 O0 Ea Fs Fe Ad Ed Mr Sem B0 B1 B2 B3) e0 (lenOf pd_Ljava_util_Collection__Ljava_util_List_724 rfl) (g := (mkF m 1 #[rv a1] [(.ref a1)])) (argsL := [(.ref a1)]) (rest := []) (W := 0) rfl rfl (hb hby d31_1) (by rw [hml]; rfl) (by show 2 * 0 + _ ≤ _; exact Nat.le_of_eq rfl) rfl (by decide) (by decide) (by decide) (by decide) (by decide)
  have N2 := Fr.app N0 Nq1
  refine own_t T1 (mkF m 4 #[rv a1] [(.ref r1)]) st1 ?_
  have K3 : Keep h0 _ [] := ((Keep.refl h0 []).trans Kc1 all0)
  refine own_out X1 Bd.notSynchronized (v := (some (.ref r1))) (fun h => by rw [Bd.returns] at h; cases h) (fun fs hr => own_retA X1 hx Bd.returns rfl rfl rfl (hb hby d31_4) hr) ?_ (by decide) (by decide)
  exact ⟨_, _, _, rfl, N2, K3, gr1, szr1, La1, Lb1, Lc_1⟩
theorem d11_0 : decode prog_35_method_1_code 0 = .ok (.aload_n 0, 1) := by decide +kernel
theorem d11_1 : decode prog_35_method_1_code 1 = .ok (.invokespecial 1, 3) := by decide +kernel
def own_W85 {a0 Z} (hw : own_H a0 Z) := hw _ (List.mem_of_getElem? (i := 85) rfl)
def own_W81 {a0 Z} (hw : own_H a0 Z) := hw _ (List.mem_of_getElem? (i := 81) rfl)
def own_W84 {a0 Z} (hw : own_H a0 Z) := hw _ (List.mem_of_getElem? (i := 84) rfl)
def own_W82 {a0 Z} (hw : own_H a0 Z) := hw _ (List.mem_of_getElem? (i := 82) rfl)
theorem d11_4 : decode prog_35_method_1_code 4 = .ok (.aload_n 1, 1) := by decide +kernel
theorem d11_5 : decode prog_35_method_1_code 5 = .ok (.invokevirtual 7, 3) := by decide +kernel
def own_W91 {a0 Z} (hw : own_H a0 Z) := hw _ (List.mem_of_getElem? (i := 91) rfl)
def own_W87 {a0 Z} (hw : own_H a0 Z) := hw _ (List.mem_of_getElem? (i := 87) rfl)
def own_W88 {a0 Z} (hw : own_H a0 Z) := hw _ (List.mem_of_getElem? (i := 88) rfl)
def own_W90 {a0 Z} (hw : own_H a0 Z) := hw _ (List.mem_of_getElem? (i := 90) rfl)
def own_W89 {a0 Z} (hw : own_H a0 Z) := hw _ (List.mem_of_getElem? (i := 89) rfl)
theorem d11_8 : decode prog_35_method_1_code 8 = .ok (.ifCond .eq 13, 3) := by decide +kernel
theorem d11_21 : decode prog_35_method_1_code 21 = .ok (.aload_n 3, 1) := by decide +kernel
theorem d11_22 : decode prog_35_method_1_code 22 = .ok (.invokeinterface 20 1, 5) := by decide +kernel
def own_W135 {a0 Z} (hw : own_H a0 Z) := hw _ (List.mem_of_getElem? (i := 135) rfl)
def own_W136 {a0 Z} (hw : own_H a0 Z) := hw _ (List.mem_of_getElem? (i := 136) rfl)
def own_W137 {a0 Z} (hw : own_H a0 Z) := hw _ (List.mem_of_getElem? (i := 137) rfl)
def own_W138 {a0 Z} (hw : own_H a0 Z) := hw _ (List.mem_of_getElem? (i := 138) rfl)
def own_W142 {a0 Z} (hw : own_H a0 Z) := hw _ (List.mem_of_getElem? (i := 142) rfl)
theorem d11_27 : decode prog_35_method_1_code 27 = .ok (.ifCond .eq 13, 3) := by decide +kernel
theorem d11_40 : decode prog_35_method_1_code 40 = .ok (.iconst 0, 1) := by decide +kernel
theorem d11_41 : decode prog_35_method_1_code 41 = .ok (.istore 4, 2) := by decide +kernel
theorem d11_43 : decode prog_35_method_1_code 43 = .ok (.iload 4, 2) := by decide +kernel
theorem d11_45 : decode prog_35_method_1_code 45 = .ok (.aload_n 3, 1) := by decide +kernel
theorem d11_46 : decode prog_35_method_1_code 46 = .ok (.invokeinterface 27 1, 5) := by decide +kernel
def own_W151 {a0 Z} (hw : own_H a0 Z) := hw _ (List.mem_of_getElem? (i := 151) rfl)
def own_W144 {a0 Z} (hw : own_H a0 Z) := hw _ (List.mem_of_getElem? (i := 144) rfl)
def own_W145 {a0 Z} (hw : own_H a0 Z) := hw _ (List.mem_of_getElem? (i := 145) rfl)
def own_W146 {a0 Z} (hw : own_H a0 Z) := hw _ (List.mem_of_getElem? (i := 146) rfl)
def own_W147 {a0 Z} (hw : own_H a0 Z) := hw _ (List.mem_of_getElem? (i := 147) rfl)
def own_W148 {a0 Z} (hw : own_H a0 Z) := hw _ (List.mem_of_getElem? (i := 148) rfl)
def own_W149 {a0 Z} (hw : own_H a0 Z) := hw _ (List.mem_of_getElem? (i := 149) rfl)
def own_W150 {a0 Z} (hw : own_H a0 Z) := hw _ (List.mem_of_getElem? (i := 150) rfl)
theorem d11_51 : decode prog_35_method_1_code 51 = .ok (.if_icmp .ge 63, 3) := by decide +kernel
theorem d11_54 : decode prog_35_method_1_code 54 = .ok (.aload_n 3, 1) := by decide +kernel
theorem d11_55 : decode prog_35_method_1_code 55 = .ok (.iload 4, 2) := by decide +kernel
theorem d11_57 : decode prog_35_method_1_code 57 = .ok (.invokeinterface 31 2, 5) := by decide +kernel
def own_W159 {a0 Z} (hw : own_H a0 Z) := hw _ (List.mem_of_getElem? (i := 159) rfl)
def own_W152 {a0 Z} (hw : own_H a0 Z) := hw _ (List.mem_of_getElem? (i := 152) rfl)
def own_W153 {a0 Z} (hw : own_H a0 Z) := hw _ (List.mem_of_getElem? (i := 153) rfl)
def own_W154 {a0 Z} (hw : own_H a0 Z) := hw _ (List.mem_of_getElem? (i := 154) rfl)
def own_W155 {a0 Z} (hw : own_H a0 Z) := hw _ (List.mem_of_getElem? (i := 155) rfl)
def own_W156 {a0 Z} (hw : own_H a0 Z) := hw _ (List.mem_of_getElem? (i := 156) rfl)
def own_W157 {a0 Z} (hw : own_H a0 Z) := hw _ (List.mem_of_getElem? (i := 157) rfl)
def own_W158 {a0 Z} (hw : own_H a0 Z) := hw _ (List.mem_of_getElem? (i := 158) rfl)
theorem d11_62 : decode prog_35_method_1_code 62 = .ok (.checkcast 35, 3) := by decide +kernel
def own_W173 {a0 Z} (hw : own_H a0 Z) := hw _ (List.mem_of_getElem? (i := 173) rfl)
theorem d11_65 : decode prog_35_method_1_code 65 = .ok (.astore 5, 2) := by decide +kernel
theorem d11_67 : decode prog_35_method_1_code 67 = .ok (.aload 5, 2) := by decide +kernel
theorem d11_69 : decode prog_35_method_1_code 69 = .ok (.invokevirtual 37, 3) := by decide +kernel
def own_W178 {a0 Z} (hw : own_H a0 Z) := hw _ (List.mem_of_getElem? (i := 178) rfl)
def own_W174 {a0 Z} (hw : own_H a0 Z) := hw _ (List.mem_of_getElem? (i := 174) rfl)
def own_W7 {a0 Z} (hw : own_H a0 Z) := hw _ (List.mem_of_getElem? (i := 7) rfl)
def own_W175 {a0 Z} (hw : own_H a0 Z) := hw _ (List.mem_of_getElem? (i := 175) rfl)
def own_W177 {a0 Z} (hw : own_H a0 Z) := hw _ (List.mem_of_getElem? (i := 177) rfl)
def own_W176 {a0 Z} (hw : own_H a0 Z) := hw _ (List.mem_of_getElem? (i := 176) rfl)
theorem d11_72 : decode prog_35_method_1_code 72 = .ok (.ifCond .lt 14, 3) := by decide +kernel
theorem d11_75 : decode prog_35_method_1_code 75 = .ok (.aload 5, 2) := by decide +kernel
def own_W186 {a0 Z} (hw : own_H a0 Z) := hw _ (List.mem_of_getElem? (i := 186) rfl)
theorem d11_77 : decode prog_35_method_1_code 77 = .ok (.getstatic 40, 3) := by decide +kernel
theorem d11_80 : decode prog_35_method_1_code 80 = .ok (.invokevirtual 44, 3) := by decide +kernel
def own_W191 {a0 Z} (hw : own_H a0 Z) := hw _ (List.mem_of_getElem? (i := 191) rfl)
def own_W187 {a0 Z} (hw : own_H a0 Z) := hw _ (List.mem_of_getElem? (i := 187) rfl)
theorem pd_Ljava_math_BigDecimal__I_194 : parseMethodDescriptor "(Ljava/math/BigDecimal;)I" = some ⟨[(.object "java/math/BigDecimal")], some .int⟩ := by decide +kernel
def own_W188 {a0 Z} (hw : own_H a0 Z) := hw _ (List.mem_of_getElem? (i := 188) rfl)
def own_W190 {a0 Z} (hw : own_H a0 Z) := hw _ (List.mem_of_getElem? (i := 190) rfl)
def own_W189 {a0 Z} (hw : own_H a0 Z) := hw _ (List.mem_of_getElem? (i := 189) rfl)
theorem d11_83 : decode prog_35_method_1_code 83 = .ok (.ifCond .le 25, 3) := by decide +kernel
theorem d11_108 : decode prog_35_method_1_code 108 = .ok (.iinc 4 1, 3) := by decide +kernel
theorem d11_111 : decode prog_35_method_1_code 111 = .ok (.goto (-68), 3) := by decide +kernel
theorem d11_114 : decode prog_35_method_1_code 114 = .ok (.aload_n 3, 1) := by decide +kernel
theorem d11_115 : decode prog_35_method_1_code 115 = .ok (.invokestatic 56, 3) := by decide +kernel
def own_W197 {a0 Z} (hw : own_H a0 Z) := hw _ (List.mem_of_getElem? (i := 197) rfl)
def own_W194 {a0 Z} (hw : own_H a0 Z) := hw _ (List.mem_of_getElem? (i := 194) rfl)
def own_W195 {a0 Z} (hw : own_H a0 Z) := hw _ (List.mem_of_getElem? (i := 195) rfl)
theorem d11_118 : decode prog_35_method_1_code 118 = .ok (.astore_n 3, 1) := by decide +kernel
theorem d11_119 : decode prog_35_method_1_code 119 = .ok (.aload_n 0, 1) := by decide +kernel
theorem d11_120 : decode prog_35_method_1_code 120 = .ok (.aload_n 1, 1) := by decide +kernel
def own_W277 {a0 Z} (hw : own_H a0 Z) := hw _ (List.mem_of_getElem? (i := 277) rfl)
theorem d11_121 : decode prog_35_method_1_code 121 = .ok (.putfield 60, 3) := by decide +kernel
def own_W278 {a0 Z} (hw : own_H a0 Z) := hw _ (List.mem_of_getElem? (i := 278) rfl)
def own_W68 {a0 Z} (hw : own_H a0 Z) := hw _ (List.mem_of_getElem? (i := 68) rfl)
theorem d11_124 : decode prog_35_method_1_code 124 = .ok (.aload_n 0, 1) := by decide +kernel
theorem d11_125 : decode prog_35_method_1_code 125 = .ok (.iload_n 2, 1) := by decide +kernel
def own_W279 {a0 Z} (hw : own_H a0 Z) := hw _ (List.mem_of_getElem? (i := 279) rfl)
theorem d11_126 : decode prog_35_method_1_code 126 = .ok (.putfield 66, 3) := by decide +kernel
def own_W280 {a0 Z} (hw : own_H a0 Z) := hw _ (List.mem_of_getElem? (i := 280) rfl)
theorem d11_129 : decode prog_35_method_1_code 129 = .ok (.aload_n 0, 1) := by decide +kernel
theorem d11_130 : decode prog_35_method_1_code 130 = .ok (.aload_n 3, 1) := by decide +kernel
def own_W281 {a0 Z} (hw : own_H a0 Z) := hw _ (List.mem_of_getElem? (i := 281) rfl)
theorem d11_131 : decode prog_35_method_1_code 131 = .ok (.putfield 70, 3) := by decide +kernel
def own_W282 {a0 Z} (hw : own_H a0 Z) := hw _ (List.mem_of_getElem? (i := 282) rfl)
theorem d11_134 : decode prog_35_method_1_code 134 = .ok (.return_, 1) := by decide +kernel
theorem ef_mti1 (m : MethodId) (x0 : Addr) (x1 : Addr) (x2 : Int32) (x3 : Addr) : entryFrame m #[(.ref x0), (.ref x1), (.int x2), (.ref x3)] 6 = mkF m 0 #[.val (.ref x0), .val (.ref x1), .val (.int x2), .val (.ref x3), .unset, .unset] [] := by first | (simp [entryFrame, mkF, argsToLocals, Value.category]; done) | rfl
def Qmti1 (Z : State) (a1 al ed mr we w1 : Addr) (kd : ClassId) (fa : Int32) (sa bv : Addr) (kb : ClassId) (cs : Int32) (wi wa : Addr) (cla : Cell) (el0 : Addr) (h0 : Heap) (n0 : Nat) (v : Option Value) (h : Heap) (L : List Loc) : Prop := ∃ (r : Addr), v = none ∧ Fr n0 L ∧ Keep h0 h [a1] ∧ n0 ≤ r ∧ h0.size ≤ r ∧ Fld Z h a1 "com/example/restoria/restoria/mortality/MortalityTable" "firstAge" "I" (.int fa) ∧ Fld Z h a1 "com/example/restoria/restoria/mortality/MortalityTable" "rates" "Ljava/util/List;" (.ref r) ∧ Exa Z h r "java/util/ImmutableCollections$List12" ∧ Fld Z h r "java/util/ImmutableCollections$List12" "e0" "Ljava/lang/Object;" (.ref el0) ∧ Fld Z h r "java/util/ImmutableCollections$List12" "e1" "Ljava/lang/Object;" (.ref we)
theorem pn_com_example_restoria_restoria_mortality_MortalityTable : plainName "com/example/restoria/restoria/mortality/MortalityTable" = true := by first | (simp [plainName, overriddenIn]; done) | decide +kernel
set_option maxRecDepth 65536 in
set_option maxHeartbeats 40000000 in
theorem rmmti1 (l : Launch) (Z : State) (a0 : Array Value) (hw : own_H a0 Z) (ws : List Jvm.Cond) (a1 al ed mr we w1 : Addr) (kd : ClassId) (fa : Int32) (sa bv : Addr) (kb : ClassId) (cs : Int32) (wi wa : Addr) (cla : Cell) (el0 : Addr) (h0 : Heap) (n0 : Nat) (O0 : Old Z n0 h0) (Em : Exa Z h0 a1 "com/example/restoria/restoria/mortality/MortalityTable") (G0 : Fld Z h0 a1 "com/example/restoria/restoria/mortality/MortalityTable" "name" "Ljava/lang/String;" .null) (G1 : Fld Z h0 a1 "com/example/restoria/restoria/mortality/MortalityTable" "firstAge" "I" (.int (0 : Int32))) (G2 : Fld Z h0 a1 "com/example/restoria/restoria/mortality/MortalityTable" "rates" "Ljava/util/List;" .null) (ga : n0 ≤ a1) (Es : Exa Z h0 sa "java/lang/String") (Fc : Fld Z h0 sa "java/lang/String" "coder" "B" (.int (0 : Int32))) (Fv : Fld Z h0 sa "java/lang/String" "value" "[B" (.ref bv)) (Av : Arv Z h0 bv kb .byte (1 : Int32) [.int (84 : Int32)] (.int (0 : Int32))) (Scs : Sta Z Z.heap "java/lang/String" "COMPACT_STRINGS" "Z" (.int cs)) (hcs : ¬ (cs = (0 : Int32))) (Sin : Sta Z Z.heap "java/lang/CharacterDataLatin1" "instance" "Ljava/lang/CharacterDataLatin1;" (.ref wi)) (Ein : Exa Z Z.heap wi "java/lang/CharacterDataLatin1") (Sa : Sta Z Z.heap "java/lang/CharacterDataLatin1" "A" "[I" (.ref wa)) (Ara : Jvm.RoadKit.Arr Z Z.heap wa cla .int) (hina : ¬ ((84 : Int32) < 0 ∨ cla.slots.size ≤ (84 : Int32).toNatClampNeg)) (hata : cla.slots[(84 : Int32).toNatClampNeg]? = some (.int (8552417 : Int32))) (Ea : Exa Z h0 al "java/util/ArrayList") (Fs : Fld Z h0 al "java/util/ArrayList" "size" "I" (.int (1 : Int32))) (Fe : Fld Z h0 al "java/util/ArrayList" "elementData" "[Ljava/lang/Object;" (.ref ed)) (Ad : Arv Z h0 ed kd (.object "java/lang/Object") (10 : Int32) [(.ref el0), .null, .null, .null, .null, .null, .null, .null, .null, .null] .null) (Ed : Exa Z h0 ed "[Ljava/lang/Object;") (Mr : own_Mir Z "[Ljava/lang/Object;" mr) (Sem : Sta Z Z.heap "java/util/ImmutableCollections" "EMPTY" "Ljava/lang/Object;" (.ref we)) (S1 : Sta Z Z.heap "java/math/BigDecimal" "ONE" "Ljava/math/BigDecimal;" (.ref w1)) (Fi1 : Fld Z Z.heap w1 "java/math/BigDecimal" "intCompact" "J" (.long (1 : Int64))) (Fz1 : Fld Z Z.heap w1 "java/math/BigDecimal" "scale" "I" (.int (0 : Int32))) (D0 : own_BD Z el0) :
    own_M l (⟨"com/example/restoria/restoria/mortality/MortalityTable", "<init>", "(Ljava/lang/String;ILjava/util/List;)V"⟩ : MethodName) prog_35_method_1_code 6 none ws (own_R 8 2 3 116) Z #[(.ref a1), (.ref sa), (.int fa), (.ref al)] h0 (Qmti1 Z a1 al ed mr we w1 kd fa sa bv kb cs wi wa cla el0 h0 n0) := by
  refine own_body (plainFor_of_name pn_com_example_restoria_restoria_mortality_MortalityTable) (fun m => ef_mti1 m a1 sa fa al) ?_
  intro p e s m below meth c s₁ Bd hx hby hml hown hnm X0 e0 hZ
  have N0 := Fr.nil n0
  obtain ⟨B0, Z0, cc0, hcc0, I0⟩ := id D0
  refine own_g s₁ (mkF m 1 #[rv a1, rv sa, iv fa, rv al, .unset, .unset] [(.ref a1)]) (fun _ kq => XS.aloadN X0.here hx rfl (hb hby d11_0) rfl rfl kq) ?_
  obtain ⟨_, T1, L1, X1, ⟨rfl, Nq1, hh1⟩, st1⟩ := own_cI X0 hx hZ hown (own_W81 hw) (own_W82 hw) (own_W84 hw) (own_W85 hw) (rmrec l Z a0 hw [] a1 h0 n0 O0) e0 (lenOf pd_V_167 rfl) (g := (mkF m 1 #[rv a1, rv sa, iv fa, rv al, .unset, .unset] [(.ref a1)])) (argsL := []) (rest := []) (W := 0) rfl rfl (hb hby d11_1) (by rw [hml]; rfl) (by show 2 * 0 + _ ≤ _; exact Nat.le_of_eq rfl) rfl rfl (by decide) (by decide) (by decide) (by decide) (by decide)
  have N2 := Fr.app N0 Nq1
  refine own_t T1 (mkF m 4 #[rv a1, rv sa, iv fa, rv al, .unset, .unset] []) st1 ?_
  refine own_g T1 (mkF m 5 #[rv a1, rv sa, iv fa, rv al, .unset, .unset] [(.ref sa)]) (fun _ kq => XS.aloadN X1.here hx rfl (hb hby d11_4) rfl rfl kq) ?_
  obtain ⟨_, T3, L3, X3, ⟨rfl, Nq3, hh3⟩, st3⟩ := own_cV X1 hx hZ hown (own_W87 hw) (own_W88 hw) (own_W90 hw) (own_W89 hw) (own_W71 hw) (own_W91 hw) (rmisb l Z a0 hw [] sa bv kb cs wi wa cla h0 n0 O0 Es Fc Fv Av Scs hcs Sin Ein Sa Ara hina hata) hh1 Es (lenOf pd_Z_171 rfl) (g := (mkF m 5 #[rv a1, rv sa, iv fa, rv al, .unset, .unset] [(.ref sa)])) (argsL := []) (rest := []) (W := 0) rfl rfl (hb hby d11_5) (by rw [hml]; rfl) (by show 2 * 0 + _ ≤ _; exact Nat.le_of_eq rfl) rfl (by decide) (by decide) (by decide) (by decide) (by decide)
  have N4 := Fr.app N2 Nq3
  refine own_t T3 (mkF m 8 #[rv a1, rv sa, iv fa, rv al, .unset, .unset] [(.int (0 : Int32))]) st3 ?_
  refine own_g T3 (mkF m 22 #[rv a1, rv sa, iv fa, rv al, .unset, .unset] [(.ref al)]) (fun _ kq => XS.ifYes X3.here hx rfl (pc0 := 8) (pc' := 21) rfl (hb hby d11_8) rfl ((if0 _ _).trans (teq ((by decide) : (0 : Int32) = (0 : Int32))).1) (by decide) (by decide) (XS.aloadN X3.here hx rfl (hb hby d11_21) rfl rfl kq)) ?_
  obtain ⟨_, T5, L5, X5, ⟨rfl, Nq5, hh5⟩, st5⟩ := own_cF X3 hx hZ hown (own_W135 hw) (own_W136 hw) (mvT hZ (own_W137 hw)) (own_W138 hw) (own_W139 hw) (own_W140 hw) (own_W141 hw) (own_W142 hw) (own_W12 hw) (own_W143 hw) (rmalisEmpty1 l Z a0 hw [] al h0 n0 O0 Fs) hh3 Ea (lenOf pd_Z_171 rfl) (g := (mkF m 22 #[rv a1, rv sa, iv fa, rv al, .unset, .unset] [(.ref al)])) (argsL := []) (rest := []) (W := 0) rfl rfl (hb hby d11_22) (by rw [hml]; rfl) (by show 2 * 0 + _ ≤ _; exact Nat.le_of_eq rfl) rfl (by decide) (by decide) (by decide) (by decide) (by decide)
  have N6 := Fr.app N4 Nq5
  refine own_t T5 (mkF m 27 #[rv a1, rv sa, iv fa, rv al, .unset, .unset] [(.int (0 : Int32))]) st5 ?_
  refine own_g T5 (mkF m 46 #[rv a1, rv sa, iv fa, rv al, iv (0 : Int32), .unset] [(.ref al), (.int (0 : Int32))]) (fun _ kq => XS.ifYes X5.here hx rfl (pc0 := 27) (pc' := 40) rfl (hb hby d11_27) rfl ((if0 _ _).trans (teq ((by decide) : (0 : Int32) = (0 : Int32))).1) (by decide) (by decide) (XS.iconst X5.here hx rfl (hb hby d11_40) (XS.istore X5.here hx rfl (hb hby d11_41) rfl (l' := #[rv a1, rv sa, iv fa, rv al, iv (0 : Int32), .unset]) rfl (XS.iload X5.here hx rfl (hb hby d11_43) rfl (XS.aloadN X5.here hx rfl (hb hby d11_45) rfl rfl kq))))) ?_
  obtain ⟨_, T7, L7, X7, ⟨rfl, Nq7, hh7⟩, st7⟩ := own_cF X5 hx hZ hown (own_W144 hw) (own_W145 hw) (mvT hZ (own_W146 hw)) (own_W147 hw) (own_W148 hw) (own_W149 hw) (own_W150 hw) (own_W142 hw) (own_W12 hw) (own_W151 hw) (rmalsize1 l Z a0 hw [] al h0 n0 O0 Fs) hh5 Ea (lenOf pd_I_154 rfl) (g := (mkF m 46 #[rv a1, rv sa, iv fa, rv al, iv (0 : Int32), .unset] [(.ref al), (.int (0 : Int32))])) (argsL := []) (rest := [(.int (0 : Int32))]) (W := 1) rfl rfl (hb hby d11_46) (by rw [hml]; rfl) (by show 2 * 0 + _ ≤ _; exact Nat.le_of_eq rfl) rfl (by decide) (by decide) (by decide) (by decide) (by decide)
  have N8 := Fr.app N6 Nq7
  refine own_t T7 (mkF m 51 #[rv a1, rv sa, iv fa, rv al, iv (0 : Int32), .unset] [(.int (1 : Int32)), (.int (0 : Int32))]) st7 ?_
  refine own_g T7 (mkF m 57 #[rv a1, rv sa, iv fa, rv al, iv (0 : Int32), .unset] [(.int (0 : Int32)), (.ref al)]) (fun _ kq => XS.icmpNo X7.here hx rfl (hb hby d11_51) rfl (tlt ((by decide) : (0 : Int32) < (1 : Int32))).2.1 (XS.aloadN X7.here hx rfl (hb hby d11_54) rfl rfl (XS.iload X7.here hx rfl (hb hby d11_55) rfl kq))) ?_
  obtain ⟨_, T9, L9, X9, ⟨rfl, Nq9, hh9⟩, st9⟩ := own_cF X7 hx hZ hown (own_W152 hw) (own_W153 hw) (mvT hZ (own_W154 hw)) (own_W155 hw) (own_W156 hw) (own_W157 hw) (own_W158 hw) (own_W142 hw) (own_W12 hw) (own_W159 hw) (rmget0 l Z a0 hw [] al ed el0 kd (.null) (.null) (.null) (1 : Int32) h0 n0 O0 Ea Fs (by decide) Fe Ad) hh7 Ea (lenOf pd_I_Ljava_lang_Object_821 rfl) (g := (mkF m 57 #[rv a1, rv sa, iv fa, rv al, iv (0 : Int32), .unset] [(.int (0 : Int32)), (.ref al)])) (argsL := [(.int (0 : Int32))]) (rest := []) (W := 0) rfl rfl (hb hby d11_57) (by rw [hml]; rfl) (by show 2 * 0 + _ ≤ _; exact Nat.le_of_eq rfl) rfl (by decide) (by decide) (by decide) (by decide) (by decide)
  have N10 := Fr.app N8 Nq9
  refine own_t T9 (mkF m 62 #[rv a1, rv sa, iv fa, rv al, iv (0 : Int32), .unset] [(.ref el0)]) st9 ?_
  obtain ⟨T11, X11, e11, st11⟩ := castY X9 hx hZ hown (own_W173 hw) hh9 (Ins.self (B0.ext O0.2)) (g := (mkF m 62 #[rv a1, rv sa, iv fa, rv al, iv (0 : Int32), .unset] [(.ref el0)])) rfl rfl (hb hby d11_62)
  obtain ⟨LL12, Xp12, Np12⟩ : ∃ LL, Stand p l e (own_R 8 2 3 116) s m #[(.ref a1), (.ref sa), (.int fa), (.ref al)] below meth c T11 LL 0 0 ∧ Fr n0 LL := ⟨_, X11, N10⟩
  refine own_g T11 (mkF m 65 #[rv a1, rv sa, iv fa, rv al, iv (0 : Int32), .unset] [(.ref el0)]) st11 ?_
  refine own_g T11 (mkF m 69 #[rv a1, rv sa, iv fa, rv al, iv (0 : Int32), rv el0] [(.ref el0)]) (fun _ kq => XS.astore Xp12.here hx rfl (hb hby d11_65) rfl rfl (l' := #[rv a1, rv sa, iv fa, rv al, iv (0 : Int32), rv el0]) rfl (XS.aload Xp12.here hx rfl (hb hby d11_67) rfl rfl kq)) ?_
  obtain ⟨_, T13, L13, X13, ⟨sg13, rfl, Nq13, hh13, hs13⟩, st13⟩ := own_cV Xp12 hx hZ hown (own_W174 hw) (own_W175 hw) (own_W177 hw) (own_W176 hw) (own_W7 hw) (own_W178 hw) (rmsgn l Z a0 hw [] el0 cc0 h0 n0 O0 I0 hcc0) e11 (B0.ext O0.2) (lenOf pd_I_154 rfl) (g := (mkF m 69 #[rv a1, rv sa, iv fa, rv al, iv (0 : Int32), rv el0] [(.ref el0)])) (argsL := []) (rest := []) (W := 0) rfl rfl (hb hby d11_69) (by rw [hml]; rfl) (by show 2 * 0 + _ ≤ _; exact Nat.le_of_eq rfl) rfl (by decide) (by decide) (by decide) (by decide) (by decide)
  have N14 := Fr.app Np12 Nq13
  refine own_t T13 (mkF m 72 #[rv a1, rv sa, iv fa, rv al, iv (0 : Int32), rv el0] [(.int sg13)]) st13 ?_
  refine own_g T13 (mkF m 77 #[rv a1, rv sa, iv fa, rv al, iv (0 : Int32), rv el0] [(.ref el0)]) (fun _ kq => XS.ifNo X13.here hx rfl (hb hby d11_72) rfl ((if0 _ _).trans (flt (hs13 : ¬ (sg13 < (0 : Int32)))).1) (XS.aload X13.here hx rfl (hb hby d11_75) rfl rfl kq)) ?_
  obtain ⟨T15, X15, e15, st15⟩ := getS2 X13 hx hZ hown (host := "") (Or.inl (own_W186 hw)) Via.refl hh13 (S1.ext O0.2) (g := (mkF m 77 #[rv a1, rv sa, iv fa, rv al, iv (0 : Int32), rv el0] [(.ref el0)])) rfl (hb hby d11_77)
  refine own_g T15 (mkF m 80 #[rv a1, rv sa, iv fa, rv al, iv (0 : Int32), rv el0] [(.ref w1), (.ref el0)]) st15 ?_
  obtain ⟨_, T16, L16, X16, ⟨cr16, rfl, Nq16, hh16, hs16⟩, st16⟩ := own_cV X15 hx hZ hown (own_W187 hw) (own_W188 hw) (own_W190 hw) (own_W189 hw) (own_W7 hw) (own_W191 hw) (rmcmpt l Z a0 hw [] el0 w1 cc0 h0 n0 O0 I0 hcc0 Z0 Fi1 Fz1) e15 (B0.ext O0.2) (lenOf pd_Ljava_math_BigDecimal__I_194 rfl) (g := (mkF m 80 #[rv a1, rv sa, iv fa, rv al, iv (0 : Int32), rv el0] [(.ref w1), (.ref el0)])) (argsL := [(.ref w1)]) (rest := []) (W := 0) rfl rfl (hb hby d11_80) (by rw [hml]; rfl) (by show 2 * 0 + _ ≤ _; exact Nat.le_of_eq rfl) rfl (by decide) (by decide) (by decide) (by decide) (by decide)
  have N17 := Fr.app N14 Nq16
  refine own_t T16 (mkF m 83 #[rv a1, rv sa, iv fa, rv al, iv (0 : Int32), rv el0] [(.int cr16)]) st16 ?_
  refine own_g T16 (mkF m 46 #[rv a1, rv sa, iv fa, rv al, iv (1 : Int32), rv el0] [(.ref al), (.int (1 : Int32))]) (fun _ kq => XS.ifYes X16.here hx rfl (pc0 := 83) (pc' := 108) rfl (hb hby d11_83) rfl ((if0 _ _).trans (flt (hs16 : ¬ ((0 : Int32) < cr16))).2.2.2) (by decide) (by decide) (XS.iinc X16.here hx rfl (hb hby d11_108) rfl (l' := #[rv a1, rv sa, iv fa, rv al, iv (1 : Int32), rv el0]) rfl (XS.goto X16.here hx rfl (pc0 := 111) (pc' := 43) rfl (hb hby d11_111) (by decide) (by decide) (XS.iload X16.here hx rfl (hb hby d11_43) rfl (XS.aloadN X16.here hx rfl (hb hby d11_45) rfl rfl kq))))) ?_
  obtain ⟨_, T18, L18, X18, ⟨rfl, Nq18, hh18⟩, st18⟩ := own_cF X16 hx hZ hown (own_W144 hw) (own_W145 hw) (mvT hZ (own_W146 hw)) (own_W147 hw) (own_W148 hw) (own_W149 hw) (own_W150 hw) (own_W142 hw) (own_W12 hw) (own_W151 hw) (rmalsize1 l Z a0 hw [] al h0 n0 O0 Fs) hh16 Ea (lenOf pd_I_154 rfl) (g := (mkF m 46 #[rv a1, rv sa, iv fa, rv al, iv (1 : Int32), rv el0] [(.ref al), (.int (1 : Int32))])) (argsL := []) (rest := [(.int (1 : Int32))]) (W := 1) rfl rfl (hb hby d11_46) (by rw [hml]; rfl) (by show 2 * 0 + _ ≤ _; exact Nat.le_of_eq rfl) rfl (by decide) (by decide) (by decide) (by decide) (by decide)
  have N19 := Fr.app N17 Nq18
  refine own_t T18 (mkF m 51 #[rv a1, rv sa, iv fa, rv al, iv (1 : Int32), rv el0] [(.int (1 : Int32)), (.int (1 : Int32))]) st18 ?_
  refine own_g T18 (mkF m 115 #[rv a1, rv sa, iv fa, rv al, iv (1 : Int32), rv el0] [(.ref al)]) (fun _ kq => XS.icmpYes X18.here hx rfl (pc0 := 51) (pc' := 114) rfl (hb hby d11_51) rfl (flt ((by decide) : ¬ ((1 : Int32) < (1 : Int32)))).2.1 (by decide) (by decide) (XS.aloadN X18.here hx rfl (hb hby d11_114) rfl rfl kq)) ?_
  obtain ⟨_, T20, L20, X20, ⟨r20, rfl, Nq20, Kc20, gr20, szr20, La20, Lb20, Lc_20⟩, st20⟩ := own_cS X18 hx hZ hown (own_W194 hw) (own_W195 hw) (own_W196 hw) (own_W197 hw) (rmlco1 l Z a0 hw [] al ed mr we kd el0 h0 n0 O0 Ea Fs Fe Ad Ed Mr Sem B0) hh18 (lenOf pd_Ljava_util_Collection__Ljava_util_List_724 rfl) (g := (mkF m 115 #[rv a1, rv sa, iv fa, rv al, iv (1 : Int32), rv el0] [(.ref al)])) (argsL := [(.ref al)]) (rest := []) (W := 0) rfl rfl (hb hby d11_115) (by rw [hml]; rfl) (by show 2 * 0 + _ ≤ _; exact Nat.le_of_eq rfl) rfl (by decide) (by decide) (by decide) (by decide) (by decide)
  have N21 := Fr.app N19 Nq20
  have sz_r20 : h0.size ≤ r20 := Nat.le_trans (Keep.refl h0 [a1]).1 szr20
  have ne_a1_r20 : a1 ≠ r20 := Nat.ne_of_lt (Nat.lt_of_lt_of_le Em.lt szr20)
  have ne_sa_r20 : sa ≠ r20 := Nat.ne_of_lt (Nat.lt_of_lt_of_le Es.lt szr20)
  have ne_bv_r20 : bv ≠ r20 := Nat.ne_of_lt (Nat.lt_of_lt_of_le Av.lt szr20)
  have ne_al_r20 : al ≠ r20 := Nat.ne_of_lt (Nat.lt_of_lt_of_le Ea.lt szr20)
  have ne_ed_r20 : ed ≠ r20 := Nat.ne_of_lt (Nat.lt_of_lt_of_le Ad.lt szr20)
  have ne_el0_r20 : el0 ≠ r20 := Nat.ne_of_lt (Nat.lt_of_lt_of_le (B0.ext O0.2).lt szr20)
  refine own_t T20 (mkF m 118 #[rv a1, rv sa, iv fa, rv al, iv (1 : Int32), rv el0] [(.ref r20)]) st20 ?_
  refine own_g T20 (mkF m 121 #[rv a1, rv sa, iv fa, rv r20, iv (1 : Int32), rv el0] [(.ref sa), (.ref a1)]) (fun _ kq => XS.astoreN X20.here hx rfl (hb hby d11_118) rfl rfl (l' := #[rv a1, rv sa, iv fa, rv r20, iv (1 : Int32), rv el0]) rfl (XS.aloadN X20.here hx rfl (hb hby d11_119) rfl rfl (XS.aloadN X20.here hx rfl (hb hby d11_120) rfl rfl kq))) ?_
  have f22 := (Em.keep Kc20)
  have f23 := (G0.keep Kc20 nin0)
  obtain ⟨T24, h24, X24, e24, W24, st24⟩ := putF X20 hx hZ hown (host := "") (Or.inl (own_W277 hw)) Via.refl rfl f23 f22 (Or.inr ⟨(own_W278 hw), rfl, hnm⟩) (own_W68 hw) (ty := (.object "java/lang/String")) (by decide) rfl rfl (g := (mkF m 121 #[rv a1, rv sa, iv fa, rv r20, iv (1 : Int32), rv el0] [(.ref sa), (.ref a1)])) rfl rfl (hb hby d11_121)
  have Fw24 := Fld.same W24 f23
  have N25 := Fr.snoc X24 N21 ga
  obtain ⟨LL26, Xp26, Np26⟩ : ∃ LL, Stand p l e (own_R 8 2 3 116) s m #[(.ref a1), (.ref sa), (.int fa), (.ref al)] below meth c T24 LL 2 3 ∧ Fr n0 LL := ⟨_, X24, N25⟩
  refine own_g T24 (mkF m 124 #[rv a1, rv sa, iv fa, rv r20, iv (1 : Int32), rv el0] []) st24 ?_
  refine own_g T24 (mkF m 126 #[rv a1, rv sa, iv fa, rv r20, iv (1 : Int32), rv el0] [(.int fa), (.ref a1)]) (fun _ kq => XS.aloadN Xp26.here hx rfl (hb hby d11_124) rfl rfl (XS.iloadN Xp26.here hx rfl (hb hby d11_125) rfl kq)) ?_
  have f27 := (f22.wr W24)
  have f28 := ((G1.keep Kc20 nin0).other W24 (Or.inr (slot_ne (Or.inr (own_W280 hw)) (Or.inr (own_W278 hw)) (by decide) (t := .int) (t' := (.object "java/lang/String")) (by decide) (by decide))))
  obtain ⟨T29, h29, X29, e29, W29, st29⟩ := putF Xp26 hx hZ hown (host := "") (Or.inl (own_W279 hw)) Via.refl e24 f28 f27 (Or.inr ⟨(own_W280 hw), rfl, hnm⟩) (own_W68 hw) (ty := .int) (by decide) rfl rfl (g := (mkF m 126 #[rv a1, rv sa, iv fa, rv r20, iv (1 : Int32), rv el0] [(.int fa), (.ref a1)])) rfl rfl (hb hby d11_126)
  have Fw29 := Fld.same W29 f28
  have N30 := Fr.snoc X29 Np26 ga
  refine own_g T29 (mkF m 129 #[rv a1, rv sa, iv fa, rv r20, iv (1 : Int32), rv el0] []) st29 ?_
  refine own_g T29 (mkF m 131 #[rv a1, rv sa, iv fa, rv r20, iv (1 : Int32), rv el0] [(.ref r20), (.ref a1)]) (fun _ kq => XS.aloadN X29.here hx rfl (hb hby d11_129) rfl rfl (XS.aloadN X29.here hx rfl (hb hby d11_130) rfl rfl kq)) ?_
  have f31 := (f27.wr W29)
  have f32 := (((G2.keep Kc20 nin0).other W24 (Or.inr (slot_ne (Or.inr (own_W282 hw)) (Or.inr (own_W278 hw)) (by decide) (t := (.object "java/util/List")) (t' := (.object "java/lang/String")) (by decide) (by decide)))).other W29 (Or.inr (slot_ne (Or.inr (own_W282 hw)) (Or.inr (own_W280 hw)) (by decide) (t := (.object "java/util/List")) (t' := .int) (by decide) (by decide))))
  obtain ⟨T33, h33, X33, e33, W33, st33⟩ := putF X29 hx hZ hown (host := "") (Or.inl (own_W281 hw)) Via.refl e29 f32 f31 (Or.inr ⟨(own_W282 hw), rfl, hnm⟩) (own_W68 hw) (ty := (.object "java/util/List")) (by decide) rfl rfl (g := (mkF m 131 #[rv a1, rv sa, iv fa, rv r20, iv (1 : Int32), rv el0] [(.ref r20), (.ref a1)])) rfl rfl (hb hby d11_131)
  have Fw33 := Fld.same W33 f32
  have N34 := Fr.snoc X33 N30 ga
  refine own_g T33 (mkF m 134 #[rv a1, rv sa, iv fa, rv r20, iv (1 : Int32), rv el0] []) st33 ?_
  have K35 : Keep h0 _ [a1] := (((((Keep.refl h0 [a1]).trans Kc20 all0).wr W24 (Or.inl (List.mem_of_getElem? (i := 0) rfl))).wr W29 (Or.inl (List.mem_of_getElem? (i := 0) rfl))).wr W33 (Or.inl (List.mem_of_getElem? (i := 0) rfl)))
  have f36 := (Fw29.other W33 (Or.inr (slot_ne (Or.inr (own_W280 hw)) (Or.inr (own_W282 hw)) (by decide) (t := .int) (t' := (.object "java/util/List")) (by decide) (by decide))))
  have f37 := (((La20.wr W24).wr W29).wr W33)
  have f38 := (((Lb20.other W24 (Or.inl (Ne.symm ne_a1_r20))).other W29 (Or.inl (Ne.symm ne_a1_r20))).other W33 (Or.inl (Ne.symm ne_a1_r20)))
  have f39 := (((Lc_20.other W24 (Or.inl (Ne.symm ne_a1_r20))).other W29 (Or.inl (Ne.symm ne_a1_r20))).other W33 (Or.inl (Ne.symm ne_a1_r20)))
  refine own_out X33 Bd.notSynchronized (v := none) (fun _ => rfl) (fun fs hr => X33.returnOut hx Bd.returns (hb hby d11_134) hr) ?_ (by decide) (by decide)
  rw [e33]
  exact ⟨_, rfl, N34, K35, gr20, szr20, f36, Fw33, f37, f38, f39⟩
theorem ef_mti2 (m : MethodId) (x0 : Addr) (x1 : Addr) (x2 : Int32) (x3 : Addr) : entryFrame m #[(.ref x0), (.ref x1), (.int x2), (.ref x3)] 6 = mkF m 0 #[.val (.ref x0), .val (.ref x1), .val (.int x2), .val (.ref x3), .unset, .unset] [] := by first | (simp [entryFrame, mkF, argsToLocals, Value.category]; done) | rfl
def Qmti2 (Z : State) (a1 al ed mr we w1 : Addr) (kd : ClassId) (fa : Int32) (sa bv : Addr) (kb : ClassId) (cs : Int32) (wi wa : Addr) (cla : Cell) (el0 el1 : Addr) (h0 : Heap) (n0 : Nat) (v : Option Value) (h : Heap) (L : List Loc) : Prop := ∃ (r : Addr), v = none ∧ Fr n0 L ∧ Keep h0 h [a1] ∧ n0 ≤ r ∧ h0.size ≤ r ∧ Fld Z h a1 "com/example/restoria/restoria/mortality/MortalityTable" "firstAge" "I" (.int fa) ∧ Fld Z h a1 "com/example/restoria/restoria/mortality/MortalityTable" "rates" "Ljava/util/List;" (.ref r) ∧ Exa Z h r "java/util/ImmutableCollections$List12" ∧ Fld Z h r "java/util/ImmutableCollections$List12" "e0" "Ljava/lang/Object;" (.ref el0) ∧ Fld Z h r "java/util/ImmutableCollections$List12" "e1" "Ljava/lang/Object;" (.ref el1)
set_option maxRecDepth 65536 in
set_option maxHeartbeats 40000000 in
theorem rmmti2 (l : Launch) (Z : State) (a0 : Array Value) (hw : own_H a0 Z) (ws : List Jvm.Cond) (a1 al ed mr we w1 : Addr) (kd : ClassId) (fa : Int32) (sa bv : Addr) (kb : ClassId) (cs : Int32) (wi wa : Addr) (cla : Cell) (el0 el1 : Addr) (h0 : Heap) (n0 : Nat) (O0 : Old Z n0 h0) (Em : Exa Z h0 a1 "com/example/restoria/restoria/mortality/MortalityTable") (G0 : Fld Z h0 a1 "com/example/restoria/restoria/mortality/MortalityTable" "name" "Ljava/lang/String;" .null) (G1 : Fld Z h0 a1 "com/example/restoria/restoria/mortality/MortalityTable" "firstAge" "I" (.int (0 : Int32))) (G2 : Fld Z h0 a1 "com/example/restoria/restoria/mortality/MortalityTable" "rates" "Ljava/util/List;" .null) (ga : n0 ≤ a1) (Es : Exa Z h0 sa "java/lang/String") (Fc : Fld Z h0 sa "java/lang/String" "coder" "B" (.int (0 : Int32))) (Fv : Fld Z h0 sa "java/lang/String" "value" "[B" (.ref bv)) (Av : Arv Z h0 bv kb .byte (1 : Int32) [.int (84 : Int32)] (.int (0 : Int32))) (Scs : Sta Z Z.heap "java/lang/String" "COMPACT_STRINGS" "Z" (.int cs)) (hcs : ¬ (cs = (0 : Int32))) (Sin : Sta Z Z.heap "java/lang/CharacterDataLatin1" "instance" "Ljava/lang/CharacterDataLatin1;" (.ref wi)) (Ein : Exa Z Z.heap wi "java/lang/CharacterDataLatin1") (Sa : Sta Z Z.heap "java/lang/CharacterDataLatin1" "A" "[I" (.ref wa)) (Ara : Jvm.RoadKit.Arr Z Z.heap wa cla .int) (hina : ¬ ((84 : Int32) < 0 ∨ cla.slots.size ≤ (84 : Int32).toNatClampNeg)) (hata : cla.slots[(84 : Int32).toNatClampNeg]? = some (.int (8552417 : Int32))) (Ea : Exa Z h0 al "java/util/ArrayList") (Fs : Fld Z h0 al "java/util/ArrayList" "size" "I" (.int (2 : Int32))) (Fe : Fld Z h0 al "java/util/ArrayList" "elementData" "[Ljava/lang/Object;" (.ref ed)) (Ad : Arv Z h0 ed kd (.object "java/lang/Object") (10 : Int32) [(.ref el0), (.ref el1), .null, .null, .null, .null, .null, .null, .null, .null] .null) (Ed : Exa Z h0 ed "[Ljava/lang/Object;") (Mr : own_Mir Z "[Ljava/lang/Object;" mr) (Sem : Sta Z Z.heap "java/util/ImmutableCollections" "EMPTY" "Ljava/lang/Object;" (.ref we)) (S1 : Sta Z Z.heap "java/math/BigDecimal" "ONE" "Ljava/math/BigDecimal;" (.ref w1)) (Fi1 : Fld Z Z.heap w1 "java/math/BigDecimal" "intCompact" "J" (.long (1 : Int64))) (Fz1 : Fld Z Z.heap w1 "java/math/BigDecimal" "scale" "I" (.int (0 : Int32))) (D0 : own_BD Z el0) (D1 : own_BD Z el1) :
    own_M l (⟨"com/example/restoria/restoria/mortality/MortalityTable", "<init>", "(Ljava/lang/String;ILjava/util/List;)V"⟩ : MethodName) prog_35_method_1_code 6 none ws (own_R 8 2 4 116) Z #[(.ref a1), (.ref sa), (.int fa), (.ref al)] h0 (Qmti2 Z a1 al ed mr we w1 kd fa sa bv kb cs wi wa cla el0 el1 h0 n0) := by
  refine own_body (plainFor_of_name pn_com_example_restoria_restoria_mortality_MortalityTable) (fun m => ef_mti2 m a1 sa fa al) ?_
  intro p e s m below meth c s₁ Bd hx hby hml hown hnm X0 e0 hZ
  have N0 := Fr.nil n0
  obtain ⟨B0, Z0, cc0, hcc0, I0⟩ := id D0
  obtain ⟨B1, Z1, cc1, hcc1, I1⟩ := id D1
  refine own_g s₁ (mkF m 1 #[rv a1, rv sa, iv fa, rv al, .unset, .unset] [(.ref a1)]) (fun _ kq => XS.aloadN X0.here hx rfl (hb hby d11_0) rfl rfl kq) ?_
  obtain ⟨_, T1, L1, X1, ⟨rfl, Nq1, hh1⟩, st1⟩ := own_cI X0 hx hZ hown (own_W81 hw) (own_W82 hw) (own_W84 hw) (own_W85 hw) (rmrec l Z a0 hw [] a1 h0 n0 O0) e0 (lenOf pd_V_167 rfl) (g := (mkF m 1 #[rv a1, rv sa, iv fa, rv al, .unset, .unset] [(.ref a1)])) (argsL := []) (rest := []) (W := 0) rfl rfl (hb hby d11_1) (by rw [hml]; rfl) (by show 2 * 0 + _ ≤ _; exact Nat.le_of_eq rfl) rfl rfl (by decide) (by decide) (by decide) (by decide) (by decide)
  have N2 := Fr.app N0 Nq1
  refine own_t T1 (mkF m 4 #[rv a1, rv sa, iv fa, rv al, .unset, .unset] []) st1 ?_
  refine own_g T1 (mkF m 5 #[rv a1, rv sa, iv fa, rv al, .unset, .unset] [(.ref sa)]) (fun _ kq => XS.aloadN X1.here hx rfl (hb hby d11_4) rfl rfl kq) ?_
  obtain ⟨_, T3, L3, X3, ⟨rfl, Nq3, hh3⟩, st3⟩ := own_cV X1 hx hZ hown (own_W87 hw) (own_W88 hw) (own_W90 hw) (own_W89 hw) (own_W71 hw) (own_W91 hw) (rmisb l Z a0 hw [] sa bv kb cs wi wa cla h0 n0 O0 Es Fc Fv Av Scs hcs Sin Ein Sa Ara hina hata) hh1 Es (lenOf pd_Z_171 rfl) (g := (mkF m 5 #[rv a1, rv sa, iv fa, rv al, .unset, .unset] [(.ref sa)])) (argsL := []) (rest := []) (W := 0) rfl rfl (hb hby d11_5) (by rw [hml]; rfl) (by show 2 * 0 + _ ≤ _; exact Nat.le_of_eq rfl) rfl (by decide) (by decide) (by decide) (by decide) (by decide)
  have N4 := Fr.app N2 Nq3
  refine own_t T3 (mkF m 8 #[rv a1, rv sa, iv fa, rv al, .unset, .unset] [(.int (0 : Int32))]) st3 ?_
  refine own_g T3 (mkF m 22 #[rv a1, rv sa, iv fa, rv al, .unset, .unset] [(.ref al)]) (fun _ kq => XS.ifYes X3.here hx rfl (pc0 := 8) (pc' := 21) rfl (hb hby d11_8) rfl ((if0 _ _).trans (teq ((by decide) : (0 : Int32) = (0 : Int32))).1) (by decide) (by decide) (XS.aloadN X3.here hx rfl (hb hby d11_21) rfl rfl kq)) ?_
  obtain ⟨_, T5, L5, X5, ⟨rfl, Nq5, hh5⟩, st5⟩ := own_cF X3 hx hZ hown (own_W135 hw) (own_W136 hw) (mvT hZ (own_W137 hw)) (own_W138 hw) (own_W139 hw) (own_W140 hw) (own_W141 hw) (own_W142 hw) (own_W12 hw) (own_W143 hw) (rmalisEmpty2 l Z a0 hw [] al h0 n0 O0 Fs) hh3 Ea (lenOf pd_Z_171 rfl) (g := (mkF m 22 #[rv a1, rv sa, iv fa, rv al, .unset, .unset] [(.ref al)])) (argsL := []) (rest := []) (W := 0) rfl rfl (hb hby d11_22) (by rw [hml]; rfl) (by show 2 * 0 + _ ≤ _; exact Nat.le_of_eq rfl) rfl (by decide) (by decide) (by decide) (by decide) (by decide)
  have N6 := Fr.app N4 Nq5
  refine own_t T5 (mkF m 27 #[rv a1, rv sa, iv fa, rv al, .unset, .unset] [(.int (0 : Int32))]) st5 ?_
  refine own_g T5 (mkF m 46 #[rv a1, rv sa, iv fa, rv al, iv (0 : Int32), .unset] [(.ref al), (.int (0 : Int32))]) (fun _ kq => XS.ifYes X5.here hx rfl (pc0 := 27) (pc' := 40) rfl (hb hby d11_27) rfl ((if0 _ _).trans (teq ((by decide) : (0 : Int32) = (0 : Int32))).1) (by decide) (by decide) (XS.iconst X5.here hx rfl (hb hby d11_40) (XS.istore X5.here hx rfl (hb hby d11_41) rfl (l' := #[rv a1, rv sa, iv fa, rv al, iv (0 : Int32), .unset]) rfl (XS.iload X5.here hx rfl (hb hby d11_43) rfl (XS.aloadN X5.here hx rfl (hb hby d11_45) rfl rfl kq))))) ?_
  obtain ⟨_, T7, L7, X7, ⟨rfl, Nq7, hh7⟩, st7⟩ := own_cF X5 hx hZ hown (own_W144 hw) (own_W145 hw) (mvT hZ (own_W146 hw)) (own_W147 hw) (own_W148 hw) (own_W149 hw) (own_W150 hw) (own_W142 hw) (own_W12 hw) (own_W151 hw) (rmalsize2 l Z a0 hw [] al h0 n0 O0 Fs) hh5 Ea (lenOf pd_I_154 rfl) (g := (mkF m 46 #[rv a1, rv sa, iv fa, rv al, iv (0 : Int32), .unset] [(.ref al), (.int (0 : Int32))])) (argsL := []) (rest := [(.int (0 : Int32))]) (W := 1) rfl rfl (hb hby d11_46) (by rw [hml]; rfl) (by show 2 * 0 + _ ≤ _; exact Nat.le_of_eq rfl) rfl (by decide) (by decide) (by decide) (by decide) (by decide)
  have N8 := Fr.app N6 Nq7
  refine own_t T7 (mkF m 51 #[rv a1, rv sa, iv fa, rv al, iv (0 : Int32), .unset] [(.int (2 : Int32)), (.int (0 : Int32))]) st7 ?_
  refine own_g T7 (mkF m 57 #[rv a1, rv sa, iv fa, rv al, iv (0 : Int32), .unset] [(.int (0 : Int32)), (.ref al)]) (fun _ kq => XS.icmpNo X7.here hx rfl (hb hby d11_51) rfl (tlt ((by decide) : (0 : Int32) < (2 : Int32))).2.1 (XS.aloadN X7.here hx rfl (hb hby d11_54) rfl rfl (XS.iload X7.here hx rfl (hb hby d11_55) rfl kq))) ?_
  obtain ⟨_, T9, L9, X9, ⟨rfl, Nq9, hh9⟩, st9⟩ := own_cF X7 hx hZ hown (own_W152 hw) (own_W153 hw) (mvT hZ (own_W154 hw)) (own_W155 hw) (own_W156 hw) (own_W157 hw) (own_W158 hw) (own_W142 hw) (own_W12 hw) (own_W159 hw) (rmget0 l Z a0 hw [] al ed el0 kd (.ref el1) (.null) (.null) (2 : Int32) h0 n0 O0 Ea Fs (by decide) Fe Ad) hh7 Ea (lenOf pd_I_Ljava_lang_Object_821 rfl) (g := (mkF m 57 #[rv a1, rv sa, iv fa, rv al, iv (0 : Int32), .unset] [(.int (0 : Int32)), (.ref al)])) (argsL := [(.int (0 : Int32))]) (rest := []) (W := 0) rfl rfl (hb hby d11_57) (by rw [hml]; rfl) (by show 2 * 0 + _ ≤ _; exact Nat.le_of_eq rfl) rfl (by decide) (by decide) (by decide) (by decide) (by decide)
  have N10 := Fr.app N8 Nq9
  refine own_t T9 (mkF m 62 #[rv a1, rv sa, iv fa, rv al, iv (0 : Int32), .unset] [(.ref el0)]) st9 ?_
  obtain ⟨T11, X11, e11, st11⟩ := castY X9 hx hZ hown (own_W173 hw) hh9 (Ins.self (B0.ext O0.2)) (g := (mkF m 62 #[rv a1, rv sa, iv fa, rv al, iv (0 : Int32), .unset] [(.ref el0)])) rfl rfl (hb hby d11_62)
  obtain ⟨LL12, Xp12, Np12⟩ : ∃ LL, Stand p l e (own_R 8 2 4 116) s m #[(.ref a1), (.ref sa), (.int fa), (.ref al)] below meth c T11 LL 0 0 ∧ Fr n0 LL := ⟨_, X11, N10⟩
  refine own_g T11 (mkF m 65 #[rv a1, rv sa, iv fa, rv al, iv (0 : Int32), .unset] [(.ref el0)]) st11 ?_
  refine own_g T11 (mkF m 69 #[rv a1, rv sa, iv fa, rv al, iv (0 : Int32), rv el0] [(.ref el0)]) (fun _ kq => XS.astore Xp12.here hx rfl (hb hby d11_65) rfl rfl (l' := #[rv a1, rv sa, iv fa, rv al, iv (0 : Int32), rv el0]) rfl (XS.aload Xp12.here hx rfl (hb hby d11_67) rfl rfl kq)) ?_
  obtain ⟨_, T13, L13, X13, ⟨sg13, rfl, Nq13, hh13, hs13⟩, st13⟩ := own_cV Xp12 hx hZ hown (own_W174 hw) (own_W175 hw) (own_W177 hw) (own_W176 hw) (own_W7 hw) (own_W178 hw) (rmsgn l Z a0 hw [] el0 cc0 h0 n0 O0 I0 hcc0) e11 (B0.ext O0.2) (lenOf pd_I_154 rfl) (g := (mkF m 69 #[rv a1, rv sa, iv fa, rv al, iv (0 : Int32), rv el0] [(.ref el0)])) (argsL := []) (rest := []) (W := 0) rfl rfl (hb hby d11_69) (by rw [hml]; rfl) (by show 2 * 0 + _ ≤ _; exact Nat.le_of_eq rfl) rfl (by decide) (by decide) (by decide) (by decide) (by decide)
  have N14 := Fr.app Np12 Nq13
  refine own_t T13 (mkF m 72 #[rv a1, rv sa, iv fa, rv al, iv (0 : Int32), rv el0] [(.int sg13)]) st13 ?_
  refine own_g T13 (mkF m 77 #[rv a1, rv sa, iv fa, rv al, iv (0 : Int32), rv el0] [(.ref el0)]) (fun _ kq => XS.ifNo X13.here hx rfl (hb hby d11_72) rfl ((if0 _ _).trans (flt (hs13 : ¬ (sg13 < (0 : Int32)))).1) (XS.aload X13.here hx rfl (hb hby d11_75) rfl rfl kq)) ?_
  obtain ⟨T15, X15, e15, st15⟩ := getS2 X13 hx hZ hown (host := "") (Or.inl (own_W186 hw)) Via.refl hh13 (S1.ext O0.2) (g := (mkF m 77 #[rv a1, rv sa, iv fa, rv al, iv (0 : Int32), rv el0] [(.ref el0)])) rfl (hb hby d11_77)
  refine own_g T15 (mkF m 80 #[rv a1, rv sa, iv fa, rv al, iv (0 : Int32), rv el0] [(.ref w1), (.ref el0)]) st15 ?_
  obtain ⟨_, T16, L16, X16, ⟨cr16, rfl, Nq16, hh16, hs16⟩, st16⟩ := own_cV X15 hx hZ hown (own_W187 hw) (own_W188 hw) (own_W190 hw) (own_W189 hw) (own_W7 hw) (own_W191 hw) (rmcmpt l Z a0 hw [] el0 w1 cc0 h0 n0 O0 I0 hcc0 Z0 Fi1 Fz1) e15 (B0.ext O0.2) (lenOf pd_Ljava_math_BigDecimal__I_194 rfl) (g := (mkF m 80 #[rv a1, rv sa, iv fa, rv al, iv (0 : Int32), rv el0] [(.ref w1), (.ref el0)])) (argsL := [(.ref w1)]) (rest := []) (W := 0) rfl rfl (hb hby d11_80) (by rw [hml]; rfl) (by show 2 * 0 + _ ≤ _; exact Nat.le_of_eq rfl) rfl (by decide) (by decide) (by decide) (by decide) (by decide)
  have N17 := Fr.app N14 Nq16
  refine own_t T16 (mkF m 83 #[rv a1, rv sa, iv fa, rv al, iv (0 : Int32), rv el0] [(.int cr16)]) st16 ?_
  refine own_g T16 (mkF m 46 #[rv a1, rv sa, iv fa, rv al, iv (1 : Int32), rv el0] [(.ref al), (.int (1 : Int32))]) (fun _ kq => XS.ifYes X16.here hx rfl (pc0 := 83) (pc' := 108) rfl (hb hby d11_83) rfl ((if0 _ _).trans (flt (hs16 : ¬ ((0 : Int32) < cr16))).2.2.2) (by decide) (by decide) (XS.iinc X16.here hx rfl (hb hby d11_108) rfl (l' := #[rv a1, rv sa, iv fa, rv al, iv (1 : Int32), rv el0]) rfl (XS.goto X16.here hx rfl (pc0 := 111) (pc' := 43) rfl (hb hby d11_111) (by decide) (by decide) (XS.iload X16.here hx rfl (hb hby d11_43) rfl (XS.aloadN X16.here hx rfl (hb hby d11_45) rfl rfl kq))))) ?_
  obtain ⟨_, T18, L18, X18, ⟨rfl, Nq18, hh18⟩, st18⟩ := own_cF X16 hx hZ hown (own_W144 hw) (own_W145 hw) (mvT hZ (own_W146 hw)) (own_W147 hw) (own_W148 hw) (own_W149 hw) (own_W150 hw) (own_W142 hw) (own_W12 hw) (own_W151 hw) (rmalsize2 l Z a0 hw [] al h0 n0 O0 Fs) hh16 Ea (lenOf pd_I_154 rfl) (g := (mkF m 46 #[rv a1, rv sa, iv fa, rv al, iv (1 : Int32), rv el0] [(.ref al), (.int (1 : Int32))])) (argsL := []) (rest := [(.int (1 : Int32))]) (W := 1) rfl rfl (hb hby d11_46) (by rw [hml]; rfl) (by show 2 * 0 + _ ≤ _; exact Nat.le_of_eq rfl) rfl (by decide) (by decide) (by decide) (by decide) (by decide)
  have N19 := Fr.app N17 Nq18
  refine own_t T18 (mkF m 51 #[rv a1, rv sa, iv fa, rv al, iv (1 : Int32), rv el0] [(.int (2 : Int32)), (.int (1 : Int32))]) st18 ?_
  refine own_g T18 (mkF m 57 #[rv a1, rv sa, iv fa, rv al, iv (1 : Int32), rv el0] [(.int (1 : Int32)), (.ref al)]) (fun _ kq => XS.icmpNo X18.here hx rfl (hb hby d11_51) rfl (tlt ((by decide) : (1 : Int32) < (2 : Int32))).2.1 (XS.aloadN X18.here hx rfl (hb hby d11_54) rfl rfl (XS.iload X18.here hx rfl (hb hby d11_55) rfl kq))) ?_
  obtain ⟨_, T20, L20, X20, ⟨rfl, Nq20, hh20⟩, st20⟩ := own_cF X18 hx hZ hown (own_W152 hw) (own_W153 hw) (mvT hZ (own_W154 hw)) (own_W155 hw) (own_W156 hw) (own_W157 hw) (own_W158 hw) (own_W142 hw) (own_W12 hw) (own_W159 hw) (rmget1 l Z a0 hw [] al ed el1 kd (.ref el0) (.null) (.null) (2 : Int32) h0 n0 O0 Ea Fs (by decide) Fe Ad) hh18 Ea (lenOf pd_I_Ljava_lang_Object_821 rfl) (g := (mkF m 57 #[rv a1, rv sa, iv fa, rv al, iv (1 : Int32), rv el0] [(.int (1 : Int32)), (.ref al)])) (argsL := [(.int (1 : Int32))]) (rest := []) (W := 0) rfl rfl (hb hby d11_57) (by rw [hml]; rfl) (by show 2 * 0 + _ ≤ _; exact Nat.le_of_eq rfl) rfl (by decide) (by decide) (by decide) (by decide) (by decide)
  have N21 := Fr.app N19 Nq20
  refine own_t T20 (mkF m 62 #[rv a1, rv sa, iv fa, rv al, iv (1 : Int32), rv el0] [(.ref el1)]) st20 ?_
  obtain ⟨T22, X22, e22, st22⟩ := castY X20 hx hZ hown (own_W173 hw) hh20 (Ins.self (B1.ext O0.2)) (g := (mkF m 62 #[rv a1, rv sa, iv fa, rv al, iv (1 : Int32), rv el0] [(.ref el1)])) rfl rfl (hb hby d11_62)
  refine own_g T22 (mkF m 65 #[rv a1, rv sa, iv fa, rv al, iv (1 : Int32), rv el0] [(.ref el1)]) st22 ?_
  refine own_g T22 (mkF m 69 #[rv a1, rv sa, iv fa, rv al, iv (1 : Int32), rv el1] [(.ref el1)]) (fun _ kq => XS.astore X22.here hx rfl (hb hby d11_65) rfl rfl (l' := #[rv a1, rv sa, iv fa, rv al, iv (1 : Int32), rv el1]) rfl (XS.aload X22.here hx rfl (hb hby d11_67) rfl rfl kq)) ?_
  obtain ⟨_, T23, L23, X23, ⟨sg23, rfl, Nq23, hh23, hs23⟩, st23⟩ := own_cV X22 hx hZ hown (own_W174 hw) (own_W175 hw) (own_W177 hw) (own_W176 hw) (own_W7 hw) (own_W178 hw) (rmsgn l Z a0 hw [] el1 cc1 h0 n0 O0 I1 hcc1) e22 (B1.ext O0.2) (lenOf pd_I_154 rfl) (g := (mkF m 69 #[rv a1, rv sa, iv fa, rv al, iv (1 : Int32), rv el1] [(.ref el1)])) (argsL := []) (rest := []) (W := 0) rfl rfl (hb hby d11_69) (by rw [hml]; rfl) (by show 2 * 0 + _ ≤ _; exact Nat.le_of_eq rfl) rfl (by decide) (by decide) (by decide) (by decide) (by decide)
  have N24 := Fr.app N21 Nq23
  refine own_t T23 (mkF m 72 #[rv a1, rv sa, iv fa, rv al, iv (1 : Int32), rv el1] [(.int sg23)]) st23 ?_
  obtain ⟨LL25, Xp25, Np25⟩ : ∃ LL, Stand p l e (own_R 8 2 4 116) s m #[(.ref a1), (.ref sa), (.int fa), (.ref al)] below meth c T23 LL 0 0 ∧ Fr n0 LL := ⟨_, X23, N24⟩
  refine own_g T23 (mkF m 77 #[rv a1, rv sa, iv fa, rv al, iv (1 : Int32), rv el1] [(.ref el1)]) (fun _ kq => XS.ifNo X23.here hx rfl (hb hby d11_72) rfl ((if0 _ _).trans (flt (hs23 : ¬ (sg23 < (0 : Int32)))).1) (XS.aload Xp25.here hx rfl (hb hby d11_75) rfl rfl kq)) ?_
  obtain ⟨T26, X26, e26, st26⟩ := getS2 Xp25 hx hZ hown (host := "") (Or.inl (own_W186 hw)) Via.refl hh23 (S1.ext O0.2) (g := (mkF m 77 #[rv a1, rv sa, iv fa, rv al, iv (1 : Int32), rv el1] [(.ref el1)])) rfl (hb hby d11_77)
  refine own_g T26 (mkF m 80 #[rv a1, rv sa, iv fa, rv al, iv (1 : Int32), rv el1] [(.ref w1), (.ref el1)]) st26 ?_
  obtain ⟨_, T27, L27, X27, ⟨cr27, rfl, Nq27, hh27, hs27⟩, st27⟩ := own_cV X26 hx hZ hown (own_W187 hw) (own_W188 hw) (own_W190 hw) (own_W189 hw) (own_W7 hw) (own_W191 hw) (rmcmpt l Z a0 hw [] el1 w1 cc1 h0 n0 O0 I1 hcc1 Z1 Fi1 Fz1) e26 (B1.ext O0.2) (lenOf pd_Ljava_math_BigDecimal__I_194 rfl) (g := (mkF m 80 #[rv a1, rv sa, iv fa, rv al, iv (1 : Int32), rv el1] [(.ref w1), (.ref el1)])) (argsL := [(.ref w1)]) (rest := []) (W := 0) rfl rfl (hb hby d11_80) (by rw [hml]; rfl) (by show 2 * 0 + _ ≤ _; exact Nat.le_of_eq rfl) rfl (by decide) (by decide) (by decide) (by decide) (by decide)
  have N28 := Fr.app Np25 Nq27
  refine own_t T27 (mkF m 83 #[rv a1, rv sa, iv fa, rv al, iv (1 : Int32), rv el1] [(.int cr27)]) st27 ?_
  refine own_g T27 (mkF m 46 #[rv a1, rv sa, iv fa, rv al, iv (2 : Int32), rv el1] [(.ref al), (.int (2 : Int32))]) (fun _ kq => XS.ifYes X27.here hx rfl (pc0 := 83) (pc' := 108) rfl (hb hby d11_83) rfl ((if0 _ _).trans (flt (hs27 : ¬ ((0 : Int32) < cr27))).2.2.2) (by decide) (by decide) (XS.iinc X27.here hx rfl (hb hby d11_108) rfl (l' := #[rv a1, rv sa, iv fa, rv al, iv (2 : Int32), rv el1]) rfl (XS.goto X27.here hx rfl (pc0 := 111) (pc' := 43) rfl (hb hby d11_111) (by decide) (by decide) (XS.iload X27.here hx rfl (hb hby d11_43) rfl (XS.aloadN X27.here hx rfl (hb hby d11_45) rfl rfl kq))))) ?_
  obtain ⟨_, T29, L29, X29, ⟨rfl, Nq29, hh29⟩, st29⟩ := own_cF X27 hx hZ hown (own_W144 hw) (own_W145 hw) (mvT hZ (own_W146 hw)) (own_W147 hw) (own_W148 hw) (own_W149 hw) (own_W150 hw) (own_W142 hw) (own_W12 hw) (own_W151 hw) (rmalsize2 l Z a0 hw [] al h0 n0 O0 Fs) hh27 Ea (lenOf pd_I_154 rfl) (g := (mkF m 46 #[rv a1, rv sa, iv fa, rv al, iv (2 : Int32), rv el1] [(.ref al), (.int (2 : Int32))])) (argsL := []) (rest := [(.int (2 : Int32))]) (W := 1) rfl rfl (hb hby d11_46) (by rw [hml]; rfl) (by show 2 * 0 + _ ≤ _; exact Nat.le_of_eq rfl) rfl (by decide) (by decide) (by decide) (by decide) (by decide)
  have N30 := Fr.app N28 Nq29
  refine own_t T29 (mkF m 51 #[rv a1, rv sa, iv fa, rv al, iv (2 : Int32), rv el1] [(.int (2 : Int32)), (.int (2 : Int32))]) st29 ?_
  refine own_g T29 (mkF m 115 #[rv a1, rv sa, iv fa, rv al, iv (2 : Int32), rv el1] [(.ref al)]) (fun _ kq => XS.icmpYes X29.here hx rfl (pc0 := 51) (pc' := 114) rfl (hb hby d11_51) rfl (flt ((by decide) : ¬ ((2 : Int32) < (2 : Int32)))).2.1 (by decide) (by decide) (XS.aloadN X29.here hx rfl (hb hby d11_114) rfl rfl kq)) ?_
  obtain ⟨_, T31, L31, X31, ⟨r31, rfl, Nq31, Kc31, gr31, szr31, La31, Lb31, Lc_31⟩, st31⟩ := own_cS X29 hx hZ hown (own_W194 hw) (own_W195 hw) (own_W196 hw) (own_W197 hw) (rmlco2 l Z a0 hw [] al ed mr we kd el0 el1 h0 n0 O0 Ea Fs Fe Ad Ed Mr Sem B0 B1) hh29 (lenOf pd_Ljava_util_Collection__Ljava_util_List_724 rfl) (g := (mkF m 115 #[rv a1, rv sa, iv fa, rv al, iv (2 : Int32), rv el1] [(.ref al)])) (argsL := [(.ref al)]) (rest := []) (W := 0) rfl rfl (hb hby d11_115) (by rw [hml]; rfl) (by show 2 * 0 + _ ≤ _; exact Nat.le_of_eq rfl) rfl (by decide) (by decide) (by decide) (by decide) (by decide)
  have N32 := Fr.app N30 Nq31
  have sz_r31 : h0.size ≤ r31 := Nat.le_trans (Keep.refl h0 [a1]).1 szr31
  have ne_a1_r31 : a1 ≠ r31 := Nat.ne_of_lt (Nat.lt_of_lt_of_le Em.lt szr31)
  have ne_sa_r31 : sa ≠ r31 := Nat.ne_of_lt (Nat.lt_of_lt_of_le Es.lt szr31)
  have ne_bv_r31 : bv ≠ r31 := Nat.ne_of_lt (Nat.lt_of_lt_of_le Av.lt szr31)
  have ne_al_r31 : al ≠ r31 := Nat.ne_of_lt (Nat.lt_of_lt_of_le Ea.lt szr31)
  have ne_ed_r31 : ed ≠ r31 := Nat.ne_of_lt (Nat.lt_of_lt_of_le Ad.lt szr31)
  have ne_el0_r31 : el0 ≠ r31 := Nat.ne_of_lt (Nat.lt_of_lt_of_le (B0.ext O0.2).lt szr31)
  have ne_el1_r31 : el1 ≠ r31 := Nat.ne_of_lt (Nat.lt_of_lt_of_le (B1.ext O0.2).lt szr31)
  refine own_t T31 (mkF m 118 #[rv a1, rv sa, iv fa, rv al, iv (2 : Int32), rv el1] [(.ref r31)]) st31 ?_
  refine own_g T31 (mkF m 121 #[rv a1, rv sa, iv fa, rv r31, iv (2 : Int32), rv el1] [(.ref sa), (.ref a1)]) (fun _ kq => XS.astoreN X31.here hx rfl (hb hby d11_118) rfl rfl (l' := #[rv a1, rv sa, iv fa, rv r31, iv (2 : Int32), rv el1]) rfl (XS.aloadN X31.here hx rfl (hb hby d11_119) rfl rfl (XS.aloadN X31.here hx rfl (hb hby d11_120) rfl rfl kq))) ?_
  have f33 := (Em.keep Kc31)
  have f34 := (G0.keep Kc31 nin0)
  obtain ⟨T35, h35, X35, e35, W35, st35⟩ := putF X31 hx hZ hown (host := "") (Or.inl (own_W277 hw)) Via.refl rfl f34 f33 (Or.inr ⟨(own_W278 hw), rfl, hnm⟩) (own_W68 hw) (ty := (.object "java/lang/String")) (by decide) rfl rfl (g := (mkF m 121 #[rv a1, rv sa, iv fa, rv r31, iv (2 : Int32), rv el1] [(.ref sa), (.ref a1)])) rfl rfl (hb hby d11_121)
  have Fw35 := Fld.same W35 f34
  have N36 := Fr.snoc X35 N32 ga
  refine own_g T35 (mkF m 124 #[rv a1, rv sa, iv fa, rv r31, iv (2 : Int32), rv el1] []) st35 ?_
  refine own_g T35 (mkF m 126 #[rv a1, rv sa, iv fa, rv r31, iv (2 : Int32), rv el1] [(.int fa), (.ref a1)]) (fun _ kq => XS.aloadN X35.here hx rfl (hb hby d11_124) rfl rfl (XS.iloadN X35.here hx rfl (hb hby d11_125) rfl kq)) ?_
  have f37 := (f33.wr W35)
  have f38 := ((G1.keep Kc31 nin0).other W35 (Or.inr (slot_ne (Or.inr (own_W280 hw)) (Or.inr (own_W278 hw)) (by decide) (t := .int) (t' := (.object "java/lang/String")) (by decide) (by decide))))
  obtain ⟨T39, h39, X39, e39, W39, st39⟩ := putF X35 hx hZ hown (host := "") (Or.inl (own_W279 hw)) Via.refl e35 f38 f37 (Or.inr ⟨(own_W280 hw), rfl, hnm⟩) (own_W68 hw) (ty := .int) (by decide) rfl rfl (g := (mkF m 126 #[rv a1, rv sa, iv fa, rv r31, iv (2 : Int32), rv el1] [(.int fa), (.ref a1)])) rfl rfl (hb hby d11_126)
  have Fw39 := Fld.same W39 f38
  have N40 := Fr.snoc X39 N36 ga
  obtain ⟨LL41, Xp41, Np41⟩ : ∃ LL, Stand p l e (own_R 8 2 4 116) s m #[(.ref a1), (.ref sa), (.int fa), (.ref al)] below meth c T39 LL 2 4 ∧ Fr n0 LL := ⟨_, X39, N40⟩
  refine own_g T39 (mkF m 129 #[rv a1, rv sa, iv fa, rv r31, iv (2 : Int32), rv el1] []) st39 ?_
  refine own_g T39 (mkF m 131 #[rv a1, rv sa, iv fa, rv r31, iv (2 : Int32), rv el1] [(.ref r31), (.ref a1)]) (fun _ kq => XS.aloadN Xp41.here hx rfl (hb hby d11_129) rfl rfl (XS.aloadN Xp41.here hx rfl (hb hby d11_130) rfl rfl kq)) ?_
  have f42 := (f37.wr W39)
  have f43 := (((G2.keep Kc31 nin0).other W35 (Or.inr (slot_ne (Or.inr (own_W282 hw)) (Or.inr (own_W278 hw)) (by decide) (t := (.object "java/util/List")) (t' := (.object "java/lang/String")) (by decide) (by decide)))).other W39 (Or.inr (slot_ne (Or.inr (own_W282 hw)) (Or.inr (own_W280 hw)) (by decide) (t := (.object "java/util/List")) (t' := .int) (by decide) (by decide))))
  obtain ⟨T44, h44, X44, e44, W44, st44⟩ := putF Xp41 hx hZ hown (host := "") (Or.inl (own_W281 hw)) Via.refl e39 f43 f42 (Or.inr ⟨(own_W282 hw), rfl, hnm⟩) (own_W68 hw) (ty := (.object "java/util/List")) (by decide) rfl rfl (g := (mkF m 131 #[rv a1, rv sa, iv fa, rv r31, iv (2 : Int32), rv el1] [(.ref r31), (.ref a1)])) rfl rfl (hb hby d11_131)
  have Fw44 := Fld.same W44 f43
  have N45 := Fr.snoc X44 Np41 ga
  refine own_g T44 (mkF m 134 #[rv a1, rv sa, iv fa, rv r31, iv (2 : Int32), rv el1] []) st44 ?_
  have K46 : Keep h0 _ [a1] := (((((Keep.refl h0 [a1]).trans Kc31 all0).wr W35 (Or.inl (List.mem_of_getElem? (i := 0) rfl))).wr W39 (Or.inl (List.mem_of_getElem? (i := 0) rfl))).wr W44 (Or.inl (List.mem_of_getElem? (i := 0) rfl)))
  have f47 := (Fw39.other W44 (Or.inr (slot_ne (Or.inr (own_W280 hw)) (Or.inr (own_W282 hw)) (by decide) (t := .int) (t' := (.object "java/util/List")) (by decide) (by decide))))
  have f48 := (((La31.wr W35).wr W39).wr W44)
  have f49 := (((Lb31.other W35 (Or.inl (Ne.symm ne_a1_r31))).other W39 (Or.inl (Ne.symm ne_a1_r31))).other W44 (Or.inl (Ne.symm ne_a1_r31)))
  have f50 := (((Lc_31.other W35 (Or.inl (Ne.symm ne_a1_r31))).other W39 (Or.inl (Ne.symm ne_a1_r31))).other W44 (Or.inl (Ne.symm ne_a1_r31)))
  refine own_out X44 Bd.notSynchronized (v := none) (fun _ => rfl) (fun fs hr => X44.returnOut hx Bd.returns (hb hby d11_134) hr) ?_ (by decide) (by decide)
  rw [e44]
  exact ⟨_, rfl, N45, K46, gr31, szr31, f47, Fw44, f48, f49, f50⟩
theorem ef_mti3 (m : MethodId) (x0 : Addr) (x1 : Addr) (x2 : Int32) (x3 : Addr) : entryFrame m #[(.ref x0), (.ref x1), (.int x2), (.ref x3)] 6 = mkF m 0 #[.val (.ref x0), .val (.ref x1), .val (.int x2), .val (.ref x3), .unset, .unset] [] := by first | (simp [entryFrame, mkF, argsToLocals, Value.category]; done) | rfl
def Qmti3 (Z : State) (a1 al ed mr we w1 : Addr) (kd : ClassId) (fa : Int32) (sa bv : Addr) (kb : ClassId) (cs : Int32) (wi wa : Addr) (cla : Cell) (el0 el1 el2 : Addr) (h0 : Heap) (n0 : Nat) (v : Option Value) (h : Heap) (L : List Loc) : Prop := ∃ (r ar : Addr) (ka : ClassId), v = none ∧ Fr n0 L ∧ Keep h0 h [a1] ∧ n0 ≤ r ∧ h0.size ≤ r ∧ Fld Z h a1 "com/example/restoria/restoria/mortality/MortalityTable" "firstAge" "I" (.int fa) ∧ Fld Z h a1 "com/example/restoria/restoria/mortality/MortalityTable" "rates" "Ljava/util/List;" (.ref r) ∧ Exa Z h r "java/util/ImmutableCollections$ListN" ∧ Fld Z h r "java/util/ImmutableCollections$ListN" "elements" "[Ljava/lang/Object;" (.ref ar) ∧ Arv Z h ar ka (.object "java/lang/Object") (3 : Int32) [(.ref el0), (.ref el1), (.ref el2)] .null
set_option maxRecDepth 65536 in
set_option maxHeartbeats 40000000 in
theorem rmmti3 (l : Launch) (Z : State) (a0 : Array Value) (hw : own_H a0 Z) (ws : List Jvm.Cond) (a1 al ed mr we w1 : Addr) (kd : ClassId) (fa : Int32) (sa bv : Addr) (kb : ClassId) (cs : Int32) (wi wa : Addr) (cla : Cell) (el0 el1 el2 : Addr) (h0 : Heap) (n0 : Nat) (O0 : Old Z n0 h0) (Em : Exa Z h0 a1 "com/example/restoria/restoria/mortality/MortalityTable") (G0 : Fld Z h0 a1 "com/example/restoria/restoria/mortality/MortalityTable" "name" "Ljava/lang/String;" .null) (G1 : Fld Z h0 a1 "com/example/restoria/restoria/mortality/MortalityTable" "firstAge" "I" (.int (0 : Int32))) (G2 : Fld Z h0 a1 "com/example/restoria/restoria/mortality/MortalityTable" "rates" "Ljava/util/List;" .null) (ga : n0 ≤ a1) (Es : Exa Z h0 sa "java/lang/String") (Fc : Fld Z h0 sa "java/lang/String" "coder" "B" (.int (0 : Int32))) (Fv : Fld Z h0 sa "java/lang/String" "value" "[B" (.ref bv)) (Av : Arv Z h0 bv kb .byte (1 : Int32) [.int (84 : Int32)] (.int (0 : Int32))) (Scs : Sta Z Z.heap "java/lang/String" "COMPACT_STRINGS" "Z" (.int cs)) (hcs : ¬ (cs = (0 : Int32))) (Sin : Sta Z Z.heap "java/lang/CharacterDataLatin1" "instance" "Ljava/lang/CharacterDataLatin1;" (.ref wi)) (Ein : Exa Z Z.heap wi "java/lang/CharacterDataLatin1") (Sa : Sta Z Z.heap "java/lang/CharacterDataLatin1" "A" "[I" (.ref wa)) (Ara : Jvm.RoadKit.Arr Z Z.heap wa cla .int) (hina : ¬ ((84 : Int32) < 0 ∨ cla.slots.size ≤ (84 : Int32).toNatClampNeg)) (hata : cla.slots[(84 : Int32).toNatClampNeg]? = some (.int (8552417 : Int32))) (Ea : Exa Z h0 al "java/util/ArrayList") (Fs : Fld Z h0 al "java/util/ArrayList" "size" "I" (.int (3 : Int32))) (Fe : Fld Z h0 al "java/util/ArrayList" "elementData" "[Ljava/lang/Object;" (.ref ed)) (Ad : Arv Z h0 ed kd (.object "java/lang/Object") (10 : Int32) [(.ref el0), (.ref el1), (.ref el2), .null, .null, .null, .null, .null, .null, .null] .null) (Ed : Exa Z h0 ed "[Ljava/lang/Object;") (Mr : own_Mir Z "[Ljava/lang/Object;" mr) (Sem : Sta Z Z.heap "java/util/ImmutableCollections" "EMPTY" "Ljava/lang/Object;" (.ref we)) (S1 : Sta Z Z.heap "java/math/BigDecimal" "ONE" "Ljava/math/BigDecimal;" (.ref w1)) (Fi1 : Fld Z Z.heap w1 "java/math/BigDecimal" "intCompact" "J" (.long (1 : Int64))) (Fz1 : Fld Z Z.heap w1 "java/math/BigDecimal" "scale" "I" (.int (0 : Int32))) (D0 : own_BD Z el0) (D1 : own_BD Z el1) (D2 : own_BD Z el2) :
    own_M l (⟨"com/example/restoria/restoria/mortality/MortalityTable", "<init>", "(Ljava/lang/String;ILjava/util/List;)V"⟩ : MethodName) prog_35_method_1_code 6 none ws (own_R 9 3 8 116) Z #[(.ref a1), (.ref sa), (.int fa), (.ref al)] h0 (Qmti3 Z a1 al ed mr we w1 kd fa sa bv kb cs wi wa cla el0 el1 el2 h0 n0) := by
  refine own_body (plainFor_of_name pn_com_example_restoria_restoria_mortality_MortalityTable) (fun m => ef_mti3 m a1 sa fa al) ?_
  intro p e s m below meth c s₁ Bd hx hby hml hown hnm X0 e0 hZ
  have N0 := Fr.nil n0
  obtain ⟨B0, Z0, cc0, hcc0, I0⟩ := id D0
  obtain ⟨B1, Z1, cc1, hcc1, I1⟩ := id D1
  obtain ⟨B2, Z2, cc2, hcc2, I2⟩ := id D2
  refine own_g s₁ (mkF m 1 #[rv a1, rv sa, iv fa, rv al, .unset, .unset] [(.ref a1)]) (fun _ kq => XS.aloadN X0.here hx rfl (hb hby d11_0) rfl rfl kq) ?_
  obtain ⟨_, T1, L1, X1, ⟨rfl, Nq1, hh1⟩, st1⟩ := own_cI X0 hx hZ hown (own_W81 hw) (own_W82 hw) (own_W84 hw) (own_W85 hw) (rmrec l Z a0 hw [] a1 h0 n0 O0) e0 (lenOf pd_V_167 rfl) (g := (mkF m 1 #[rv a1, rv sa, iv fa, rv al, .unset, .unset] [(.ref a1)])) (argsL := []) (rest := []) (W := 0) rfl rfl (hb hby d11_1) (by rw [hml]; rfl) (by show 2 * 0 + _ ≤ _; exact Nat.le_of_eq rfl) rfl rfl (by decide) (by decide) (by decide) (by decide) (by decide)
  have N2 := Fr.app N0 Nq1
  refine own_t T1 (mkF m 4 #[rv a1, rv sa, iv fa, rv al, .unset, .unset] []) st1 ?_
  refine own_g T1 (mkF m 5 #[rv a1, rv sa, iv fa, rv al, .unset, .unset] [(.ref sa)]) (fun _ kq => XS.aloadN X1.here hx rfl (hb hby d11_4) rfl rfl kq) ?_
  obtain ⟨_, T3, L3, X3, ⟨rfl, Nq3, hh3⟩, st3⟩ := own_cV X1 hx hZ hown (own_W87 hw) (own_W88 hw) (own_W90 hw) (own_W89 hw) (own_W71 hw) (own_W91 hw) (rmisb l Z a0 hw [] sa bv kb cs wi wa cla h0 n0 O0 Es Fc Fv Av Scs hcs Sin Ein Sa Ara hina hata) hh1 Es (lenOf pd_Z_171 rfl) (g := (mkF m 5 #[rv a1, rv sa, iv fa, rv al, .unset, .unset] [(.ref sa)])) (argsL := []) (rest := []) (W := 0) rfl rfl (hb hby d11_5) (by rw [hml]; rfl) (by show 2 * 0 + _ ≤ _; exact Nat.le_of_eq rfl) rfl (by decide) (by decide) (by decide) (by decide) (by decide)
  have N4 := Fr.app N2 Nq3
  refine own_t T3 (mkF m 8 #[rv a1, rv sa, iv fa, rv al, .unset, .unset] [(.int (0 : Int32))]) st3 ?_
  refine own_g T3 (mkF m 22 #[rv a1, rv sa, iv fa, rv al, .unset, .unset] [(.ref al)]) (fun _ kq => XS.ifYes X3.here hx rfl (pc0 := 8) (pc' := 21) rfl (hb hby d11_8) rfl ((if0 _ _).trans (teq ((by decide) : (0 : Int32) = (0 : Int32))).1) (by decide) (by decide) (XS.aloadN X3.here hx rfl (hb hby d11_21) rfl rfl kq)) ?_
  obtain ⟨_, T5, L5, X5, ⟨rfl, Nq5, hh5⟩, st5⟩ := own_cF X3 hx hZ hown (own_W135 hw) (own_W136 hw) (mvT hZ (own_W137 hw)) (own_W138 hw) (own_W139 hw) (own_W140 hw) (own_W141 hw) (own_W142 hw) (own_W12 hw) (own_W143 hw) (rmalisEmpty3 l Z a0 hw [] al h0 n0 O0 Fs) hh3 Ea (lenOf pd_Z_171 rfl) (g := (mkF m 22 #[rv a1, rv sa, iv fa, rv al, .unset, .unset] [(.ref al)])) (argsL := []) (rest := []) (W := 0) rfl rfl (hb hby d11_22) (by rw [hml]; rfl) (by show 2 * 0 + _ ≤ _; exact Nat.le_of_eq rfl) rfl (by decide) (by decide) (by decide) (by decide) (by decide)
  have N6 := Fr.app N4 Nq5
  refine own_t T5 (mkF m 27 #[rv a1, rv sa, iv fa, rv al, .unset, .unset] [(.int (0 : Int32))]) st5 ?_
  refine own_g T5 (mkF m 46 #[rv a1, rv sa, iv fa, rv al, iv (0 : Int32), .unset] [(.ref al), (.int (0 : Int32))]) (fun _ kq => XS.ifYes X5.here hx rfl (pc0 := 27) (pc' := 40) rfl (hb hby d11_27) rfl ((if0 _ _).trans (teq ((by decide) : (0 : Int32) = (0 : Int32))).1) (by decide) (by decide) (XS.iconst X5.here hx rfl (hb hby d11_40) (XS.istore X5.here hx rfl (hb hby d11_41) rfl (l' := #[rv a1, rv sa, iv fa, rv al, iv (0 : Int32), .unset]) rfl (XS.iload X5.here hx rfl (hb hby d11_43) rfl (XS.aloadN X5.here hx rfl (hb hby d11_45) rfl rfl kq))))) ?_
  obtain ⟨_, T7, L7, X7, ⟨rfl, Nq7, hh7⟩, st7⟩ := own_cF X5 hx hZ hown (own_W144 hw) (own_W145 hw) (mvT hZ (own_W146 hw)) (own_W147 hw) (own_W148 hw) (own_W149 hw) (own_W150 hw) (own_W142 hw) (own_W12 hw) (own_W151 hw) (rmalsize3 l Z a0 hw [] al h0 n0 O0 Fs) hh5 Ea (lenOf pd_I_154 rfl) (g := (mkF m 46 #[rv a1, rv sa, iv fa, rv al, iv (0 : Int32), .unset] [(.ref al), (.int (0 : Int32))])) (argsL := []) (rest := [(.int (0 : Int32))]) (W := 1) rfl rfl (hb hby d11_46) (by rw [hml]; rfl) (by show 2 * 0 + _ ≤ _; exact Nat.le_of_eq rfl) rfl (by decide) (by decide) (by decide) (by decide) (by decide)
  have N8 := Fr.app N6 Nq7
  refine own_t T7 (mkF m 51 #[rv a1, rv sa, iv fa, rv al, iv (0 : Int32), .unset] [(.int (3 : Int32)), (.int (0 : Int32))]) st7 ?_
  refine own_g T7 (mkF m 57 #[rv a1, rv sa, iv fa, rv al, iv (0 : Int32), .unset] [(.int (0 : Int32)), (.ref al)]) (fun _ kq => XS.icmpNo X7.here hx rfl (hb hby d11_51) rfl (tlt ((by decide) : (0 : Int32) < (3 : Int32))).2.1 (XS.aloadN X7.here hx rfl (hb hby d11_54) rfl rfl (XS.iload X7.here hx rfl (hb hby d11_55) rfl kq))) ?_
  obtain ⟨_, T9, L9, X9, ⟨rfl, Nq9, hh9⟩, st9⟩ := own_cF X7 hx hZ hown (own_W152 hw) (own_W153 hw) (mvT hZ (own_W154 hw)) (own_W155 hw) (own_W156 hw) (own_W157 hw) (own_W158 hw) (own_W142 hw) (own_W12 hw) (own_W159 hw) (rmget0 l Z a0 hw [] al ed el0 kd (.ref el1) (.ref el2) (.null) (3 : Int32) h0 n0 O0 Ea Fs (by decide) Fe Ad) hh7 Ea (lenOf pd_I_Ljava_lang_Object_821 rfl) (g := (mkF m 57 #[rv a1, rv sa, iv fa, rv al, iv (0 : Int32), .unset] [(.int (0 : Int32)), (.ref al)])) (argsL := [(.int (0 : Int32))]) (rest := []) (W := 0) rfl rfl (hb hby d11_57) (by rw [hml]; rfl) (by show 2 * 0 + _ ≤ _; exact Nat.le_of_eq rfl) rfl (by decide) (by decide) (by decide) (by decide) (by decide)
  have N10 := Fr.app N8 Nq9
  refine own_t T9 (mkF m 62 #[rv a1, rv sa, iv fa, rv al, iv (0 : Int32), .unset] [(.ref el0)]) st9 ?_
  obtain ⟨T11, X11, e11, st11⟩ := castY X9 hx hZ hown (own_W173 hw) hh9 (Ins.self (B0.ext O0.2)) (g := (mkF m 62 #[rv a1, rv sa, iv fa, rv al, iv (0 : Int32), .unset] [(.ref el0)])) rfl rfl (hb hby d11_62)
  obtain ⟨LL12, Xp12, Np12⟩ : ∃ LL, Stand p l e (own_R 9 3 8 116) s m #[(.ref a1), (.ref sa), (.int fa), (.ref al)] below meth c T11 LL 0 0 ∧ Fr n0 LL := ⟨_, X11, N10⟩
  refine own_g T11 (mkF m 65 #[rv a1, rv sa, iv fa, rv al, iv (0 : Int32), .unset] [(.ref el0)]) st11 ?_
  refine own_g T11 (mkF m 69 #[rv a1, rv sa, iv fa, rv al, iv (0 : Int32), rv el0] [(.ref el0)]) (fun _ kq => XS.astore Xp12.here hx rfl (hb hby d11_65) rfl rfl (l' := #[rv a1, rv sa, iv fa, rv al, iv (0 : Int32), rv el0]) rfl (XS.aload Xp12.here hx rfl (hb hby d11_67) rfl rfl kq)) ?_
  obtain ⟨_, T13, L13, X13, ⟨sg13, rfl, Nq13, hh13, hs13⟩, st13⟩ := own_cV Xp12 hx hZ hown (own_W174 hw) (own_W175 hw) (own_W177 hw) (own_W176 hw) (own_W7 hw) (own_W178 hw) (rmsgn l Z a0 hw [] el0 cc0 h0 n0 O0 I0 hcc0) e11 (B0.ext O0.2) (lenOf pd_I_154 rfl) (g := (mkF m 69 #[rv a1, rv sa, iv fa, rv al, iv (0 : Int32), rv el0] [(.ref el0)])) (argsL := []) (rest := []) (W := 0) rfl rfl (hb hby d11_69) (by rw [hml]; rfl) (by show 2 * 0 + _ ≤ _; exact Nat.le_of_eq rfl) rfl (by decide) (by decide) (by decide) (by decide) (by decide)
  have N14 := Fr.app Np12 Nq13
  refine own_t T13 (mkF m 72 #[rv a1, rv sa, iv fa, rv al, iv (0 : Int32), rv el0] [(.int sg13)]) st13 ?_
  refine own_g T13 (mkF m 77 #[rv a1, rv sa, iv fa, rv al, iv (0 : Int32), rv el0] [(.ref el0)]) (fun _ kq => XS.ifNo X13.here hx rfl (hb hby d11_72) rfl ((if0 _ _).trans (flt (hs13 : ¬ (sg13 < (0 : Int32)))).1) (XS.aload X13.here hx rfl (hb hby d11_75) rfl rfl kq)) ?_
  obtain ⟨T15, X15, e15, st15⟩ := getS2 X13 hx hZ hown (host := "") (Or.inl (own_W186 hw)) Via.refl hh13 (S1.ext O0.2) (g := (mkF m 77 #[rv a1, rv sa, iv fa, rv al, iv (0 : Int32), rv el0] [(.ref el0)])) rfl (hb hby d11_77)
  refine own_g T15 (mkF m 80 #[rv a1, rv sa, iv fa, rv al, iv (0 : Int32), rv el0] [(.ref w1), (.ref el0)]) st15 ?_
  obtain ⟨_, T16, L16, X16, ⟨cr16, rfl, Nq16, hh16, hs16⟩, st16⟩ := own_cV X15 hx hZ hown (own_W187 hw) (own_W188 hw) (own_W190 hw) (own_W189 hw) (own_W7 hw) (own_W191 hw) (rmcmpt l Z a0 hw [] el0 w1 cc0 h0 n0 O0 I0 hcc0 Z0 Fi1 Fz1) e15 (B0.ext O0.2) (lenOf pd_Ljava_math_BigDecimal__I_194 rfl) (g := (mkF m 80 #[rv a1, rv sa, iv fa, rv al, iv (0 : Int32), rv el0] [(.ref w1), (.ref el0)])) (argsL := [(.ref w1)]) (rest := []) (W := 0) rfl rfl (hb hby d11_80) (by rw [hml]; rfl) (by show 2 * 0 + _ ≤ _; exact Nat.le_of_eq rfl) rfl (by decide) (by decide) (by decide) (by decide) (by decide)
  have N17 := Fr.app N14 Nq16
  refine own_t T16 (mkF m 83 #[rv a1, rv sa, iv fa, rv al, iv (0 : Int32), rv el0] [(.int cr16)]) st16 ?_
  refine own_g T16 (mkF m 46 #[rv a1, rv sa, iv fa, rv al, iv (1 : Int32), rv el0] [(.ref al), (.int (1 : Int32))]) (fun _ kq => XS.ifYes X16.here hx rfl (pc0 := 83) (pc' := 108) rfl (hb hby d11_83) rfl ((if0 _ _).trans (flt (hs16 : ¬ ((0 : Int32) < cr16))).2.2.2) (by decide) (by decide) (XS.iinc X16.here hx rfl (hb hby d11_108) rfl (l' := #[rv a1, rv sa, iv fa, rv al, iv (1 : Int32), rv el0]) rfl (XS.goto X16.here hx rfl (pc0 := 111) (pc' := 43) rfl (hb hby d11_111) (by decide) (by decide) (XS.iload X16.here hx rfl (hb hby d11_43) rfl (XS.aloadN X16.here hx rfl (hb hby d11_45) rfl rfl kq))))) ?_
  obtain ⟨_, T18, L18, X18, ⟨rfl, Nq18, hh18⟩, st18⟩ := own_cF X16 hx hZ hown (own_W144 hw) (own_W145 hw) (mvT hZ (own_W146 hw)) (own_W147 hw) (own_W148 hw) (own_W149 hw) (own_W150 hw) (own_W142 hw) (own_W12 hw) (own_W151 hw) (rmalsize3 l Z a0 hw [] al h0 n0 O0 Fs) hh16 Ea (lenOf pd_I_154 rfl) (g := (mkF m 46 #[rv a1, rv sa, iv fa, rv al, iv (1 : Int32), rv el0] [(.ref al), (.int (1 : Int32))])) (argsL := []) (rest := [(.int (1 : Int32))]) (W := 1) rfl rfl (hb hby d11_46) (by rw [hml]; rfl) (by show 2 * 0 + _ ≤ _; exact Nat.le_of_eq rfl) rfl (by decide) (by decide) (by decide) (by decide) (by decide)
  have N19 := Fr.app N17 Nq18
  refine own_t T18 (mkF m 51 #[rv a1, rv sa, iv fa, rv al, iv (1 : Int32), rv el0] [(.int (3 : Int32)), (.int (1 : Int32))]) st18 ?_
  refine own_g T18 (mkF m 57 #[rv a1, rv sa, iv fa, rv al, iv (1 : Int32), rv el0] [(.int (1 : Int32)), (.ref al)]) (fun _ kq => XS.icmpNo X18.here hx rfl (hb hby d11_51) rfl (tlt ((by decide) : (1 : Int32) < (3 : Int32))).2.1 (XS.aloadN X18.here hx rfl (hb hby d11_54) rfl rfl (XS.iload X18.here hx rfl (hb hby d11_55) rfl kq))) ?_
  obtain ⟨_, T20, L20, X20, ⟨rfl, Nq20, hh20⟩, st20⟩ := own_cF X18 hx hZ hown (own_W152 hw) (own_W153 hw) (mvT hZ (own_W154 hw)) (own_W155 hw) (own_W156 hw) (own_W157 hw) (own_W158 hw) (own_W142 hw) (own_W12 hw) (own_W159 hw) (rmget1 l Z a0 hw [] al ed el1 kd (.ref el0) (.ref el2) (.null) (3 : Int32) h0 n0 O0 Ea Fs (by decide) Fe Ad) hh18 Ea (lenOf pd_I_Ljava_lang_Object_821 rfl) (g := (mkF m 57 #[rv a1, rv sa, iv fa, rv al, iv (1 : Int32), rv el0] [(.int (1 : Int32)), (.ref al)])) (argsL := [(.int (1 : Int32))]) (rest := []) (W := 0) rfl rfl (hb hby d11_57) (by rw [hml]; rfl) (by show 2 * 0 + _ ≤ _; exact Nat.le_of_eq rfl) rfl (by decide) (by decide) (by decide) (by decide) (by decide)
  have N21 := Fr.app N19 Nq20
  refine own_t T20 (mkF m 62 #[rv a1, rv sa, iv fa, rv al, iv (1 : Int32), rv el0] [(.ref el1)]) st20 ?_
  obtain ⟨T22, X22, e22, st22⟩ := castY X20 hx hZ hown (own_W173 hw) hh20 (Ins.self (B1.ext O0.2)) (g := (mkF m 62 #[rv a1, rv sa, iv fa, rv al, iv (1 : Int32), rv el0] [(.ref el1)])) rfl rfl (hb hby d11_62)
  refine own_g T22 (mkF m 65 #[rv a1, rv sa, iv fa, rv al, iv (1 : Int32), rv el0] [(.ref el1)]) st22 ?_
  refine own_g T22 (mkF m 69 #[rv a1, rv sa, iv fa, rv al, iv (1 : Int32), rv el1] [(.ref el1)]) (fun _ kq => XS.astore X22.here hx rfl (hb hby d11_65) rfl rfl (l' := #[rv a1, rv sa, iv fa, rv al, iv (1 : Int32), rv el1]) rfl (XS.aload X22.here hx rfl (hb hby d11_67) rfl rfl kq)) ?_
  obtain ⟨_, T23, L23, X23, ⟨sg23, rfl, Nq23, hh23, hs23⟩, st23⟩ := own_cV X22 hx hZ hown (own_W174 hw) (own_W175 hw) (own_W177 hw) (own_W176 hw) (own_W7 hw) (own_W178 hw) (rmsgn l Z a0 hw [] el1 cc1 h0 n0 O0 I1 hcc1) e22 (B1.ext O0.2) (lenOf pd_I_154 rfl) (g := (mkF m 69 #[rv a1, rv sa, iv fa, rv al, iv (1 : Int32), rv el1] [(.ref el1)])) (argsL := []) (rest := []) (W := 0) rfl rfl (hb hby d11_69) (by rw [hml]; rfl) (by show 2 * 0 + _ ≤ _; exact Nat.le_of_eq rfl) rfl (by decide) (by decide) (by decide) (by decide) (by decide)
  have N24 := Fr.app N21 Nq23
  refine own_t T23 (mkF m 72 #[rv a1, rv sa, iv fa, rv al, iv (1 : Int32), rv el1] [(.int sg23)]) st23 ?_
  obtain ⟨LL25, Xp25, Np25⟩ : ∃ LL, Stand p l e (own_R 9 3 8 116) s m #[(.ref a1), (.ref sa), (.int fa), (.ref al)] below meth c T23 LL 0 0 ∧ Fr n0 LL := ⟨_, X23, N24⟩
  refine own_g T23 (mkF m 77 #[rv a1, rv sa, iv fa, rv al, iv (1 : Int32), rv el1] [(.ref el1)]) (fun _ kq => XS.ifNo X23.here hx rfl (hb hby d11_72) rfl ((if0 _ _).trans (flt (hs23 : ¬ (sg23 < (0 : Int32)))).1) (XS.aload Xp25.here hx rfl (hb hby d11_75) rfl rfl kq)) ?_
  obtain ⟨T26, X26, e26, st26⟩ := getS2 Xp25 hx hZ hown (host := "") (Or.inl (own_W186 hw)) Via.refl hh23 (S1.ext O0.2) (g := (mkF m 77 #[rv a1, rv sa, iv fa, rv al, iv (1 : Int32), rv el1] [(.ref el1)])) rfl (hb hby d11_77)
  refine own_g T26 (mkF m 80 #[rv a1, rv sa, iv fa, rv al, iv (1 : Int32), rv el1] [(.ref w1), (.ref el1)]) st26 ?_
  obtain ⟨_, T27, L27, X27, ⟨cr27, rfl, Nq27, hh27, hs27⟩, st27⟩ := own_cV X26 hx hZ hown (own_W187 hw) (own_W188 hw) (own_W190 hw) (own_W189 hw) (own_W7 hw) (own_W191 hw) (rmcmpt l Z a0 hw [] el1 w1 cc1 h0 n0 O0 I1 hcc1 Z1 Fi1 Fz1) e26 (B1.ext O0.2) (lenOf pd_Ljava_math_BigDecimal__I_194 rfl) (g := (mkF m 80 #[rv a1, rv sa, iv fa, rv al, iv (1 : Int32), rv el1] [(.ref w1), (.ref el1)])) (argsL := [(.ref w1)]) (rest := []) (W := 0) rfl rfl (hb hby d11_80) (by rw [hml]; rfl) (by show 2 * 0 + _ ≤ _; exact Nat.le_of_eq rfl) rfl (by decide) (by decide) (by decide) (by decide) (by decide)
  have N28 := Fr.app Np25 Nq27
  refine own_t T27 (mkF m 83 #[rv a1, rv sa, iv fa, rv al, iv (1 : Int32), rv el1] [(.int cr27)]) st27 ?_
  refine own_g T27 (mkF m 46 #[rv a1, rv sa, iv fa, rv al, iv (2 : Int32), rv el1] [(.ref al), (.int (2 : Int32))]) (fun _ kq => XS.ifYes X27.here hx rfl (pc0 := 83) (pc' := 108) rfl (hb hby d11_83) rfl ((if0 _ _).trans (flt (hs27 : ¬ ((0 : Int32) < cr27))).2.2.2) (by decide) (by decide) (XS.iinc X27.here hx rfl (hb hby d11_108) rfl (l' := #[rv a1, rv sa, iv fa, rv al, iv (2 : Int32), rv el1]) rfl (XS.goto X27.here hx rfl (pc0 := 111) (pc' := 43) rfl (hb hby d11_111) (by decide) (by decide) (XS.iload X27.here hx rfl (hb hby d11_43) rfl (XS.aloadN X27.here hx rfl (hb hby d11_45) rfl rfl kq))))) ?_
  obtain ⟨_, T29, L29, X29, ⟨rfl, Nq29, hh29⟩, st29⟩ := own_cF X27 hx hZ hown (own_W144 hw) (own_W145 hw) (mvT hZ (own_W146 hw)) (own_W147 hw) (own_W148 hw) (own_W149 hw) (own_W150 hw) (own_W142 hw) (own_W12 hw) (own_W151 hw) (rmalsize3 l Z a0 hw [] al h0 n0 O0 Fs) hh27 Ea (lenOf pd_I_154 rfl) (g := (mkF m 46 #[rv a1, rv sa, iv fa, rv al, iv (2 : Int32), rv el1] [(.ref al), (.int (2 : Int32))])) (argsL := []) (rest := [(.int (2 : Int32))]) (W := 1) rfl rfl (hb hby d11_46) (by rw [hml]; rfl) (by show 2 * 0 + _ ≤ _; exact Nat.le_of_eq rfl) rfl (by decide) (by decide) (by decide) (by decide) (by decide)
  have N30 := Fr.app N28 Nq29
  refine own_t T29 (mkF m 51 #[rv a1, rv sa, iv fa, rv al, iv (2 : Int32), rv el1] [(.int (3 : Int32)), (.int (2 : Int32))]) st29 ?_
  refine own_g T29 (mkF m 57 #[rv a1, rv sa, iv fa, rv al, iv (2 : Int32), rv el1] [(.int (2 : Int32)), (.ref al)]) (fun _ kq => XS.icmpNo X29.here hx rfl (hb hby d11_51) rfl (tlt ((by decide) : (2 : Int32) < (3 : Int32))).2.1 (XS.aloadN X29.here hx rfl (hb hby d11_54) rfl rfl (XS.iload X29.here hx rfl (hb hby d11_55) rfl kq))) ?_
  obtain ⟨_, T31, L31, X31, ⟨rfl, Nq31, hh31⟩, st31⟩ := own_cF X29 hx hZ hown (own_W152 hw) (own_W153 hw) (mvT hZ (own_W154 hw)) (own_W155 hw) (own_W156 hw) (own_W157 hw) (own_W158 hw) (own_W142 hw) (own_W12 hw) (own_W159 hw) (rmget2 l Z a0 hw [] al ed el2 kd (.ref el0) (.ref el1) (.null) (3 : Int32) h0 n0 O0 Ea Fs (by decide) Fe Ad) hh29 Ea (lenOf pd_I_Ljava_lang_Object_821 rfl) (g := (mkF m 57 #[rv a1, rv sa, iv fa, rv al, iv (2 : Int32), rv el1] [(.int (2 : Int32)), (.ref al)])) (argsL := [(.int (2 : Int32))]) (rest := []) (W := 0) rfl rfl (hb hby d11_57) (by rw [hml]; rfl) (by show 2 * 0 + _ ≤ _; exact Nat.le_of_eq rfl) rfl (by decide) (by decide) (by decide) (by decide) (by decide)
  have N32 := Fr.app N30 Nq31
  refine own_t T31 (mkF m 62 #[rv a1, rv sa, iv fa, rv al, iv (2 : Int32), rv el1] [(.ref el2)]) st31 ?_
  obtain ⟨T33, X33, e33, st33⟩ := castY X31 hx hZ hown (own_W173 hw) hh31 (Ins.self (B2.ext O0.2)) (g := (mkF m 62 #[rv a1, rv sa, iv fa, rv al, iv (2 : Int32), rv el1] [(.ref el2)])) rfl rfl (hb hby d11_62)
  refine own_g T33 (mkF m 65 #[rv a1, rv sa, iv fa, rv al, iv (2 : Int32), rv el1] [(.ref el2)]) st33 ?_
  refine own_g T33 (mkF m 69 #[rv a1, rv sa, iv fa, rv al, iv (2 : Int32), rv el2] [(.ref el2)]) (fun _ kq => XS.astore X33.here hx rfl (hb hby d11_65) rfl rfl (l' := #[rv a1, rv sa, iv fa, rv al, iv (2 : Int32), rv el2]) rfl (XS.aload X33.here hx rfl (hb hby d11_67) rfl rfl kq)) ?_
  obtain ⟨_, T34, L34, X34, ⟨sg34, rfl, Nq34, hh34, hs34⟩, st34⟩ := own_cV X33 hx hZ hown (own_W174 hw) (own_W175 hw) (own_W177 hw) (own_W176 hw) (own_W7 hw) (own_W178 hw) (rmsgn l Z a0 hw [] el2 cc2 h0 n0 O0 I2 hcc2) e33 (B2.ext O0.2) (lenOf pd_I_154 rfl) (g := (mkF m 69 #[rv a1, rv sa, iv fa, rv al, iv (2 : Int32), rv el2] [(.ref el2)])) (argsL := []) (rest := []) (W := 0) rfl rfl (hb hby d11_69) (by rw [hml]; rfl) (by show 2 * 0 + _ ≤ _; exact Nat.le_of_eq rfl) rfl (by decide) (by decide) (by decide) (by decide) (by decide)
  have N35 := Fr.app N32 Nq34
  refine own_t T34 (mkF m 72 #[rv a1, rv sa, iv fa, rv al, iv (2 : Int32), rv el2] [(.int sg34)]) st34 ?_
  refine own_g T34 (mkF m 77 #[rv a1, rv sa, iv fa, rv al, iv (2 : Int32), rv el2] [(.ref el2)]) (fun _ kq => XS.ifNo X34.here hx rfl (hb hby d11_72) rfl ((if0 _ _).trans (flt (hs34 : ¬ (sg34 < (0 : Int32)))).1) (XS.aload X34.here hx rfl (hb hby d11_75) rfl rfl kq)) ?_
  obtain ⟨T36, X36, e36, st36⟩ := getS2 X34 hx hZ hown (host := "") (Or.inl (own_W186 hw)) Via.refl hh34 (S1.ext O0.2) (g := (mkF m 77 #[rv a1, rv sa, iv fa, rv al, iv (2 : Int32), rv el2] [(.ref el2)])) rfl (hb hby d11_77)
  refine own_g T36 (mkF m 80 #[rv a1, rv sa, iv fa, rv al, iv (2 : Int32), rv el2] [(.ref w1), (.ref el2)]) st36 ?_
  obtain ⟨_, T37, L37, X37, ⟨cr37, rfl, Nq37, hh37, hs37⟩, st37⟩ := own_cV X36 hx hZ hown (own_W187 hw) (own_W188 hw) (own_W190 hw) (own_W189 hw) (own_W7 hw) (own_W191 hw) (rmcmpt l Z a0 hw [] el2 w1 cc2 h0 n0 O0 I2 hcc2 Z2 Fi1 Fz1) e36 (B2.ext O0.2) (lenOf pd_Ljava_math_BigDecimal__I_194 rfl) (g := (mkF m 80 #[rv a1, rv sa, iv fa, rv al, iv (2 : Int32), rv el2] [(.ref w1), (.ref el2)])) (argsL := [(.ref w1)]) (rest := []) (W := 0) rfl rfl (hb hby d11_80) (by rw [hml]; rfl) (by show 2 * 0 + _ ≤ _; exact Nat.le_of_eq rfl) rfl (by decide) (by decide) (by decide) (by decide) (by decide)
  have N38 := Fr.app N35 Nq37
  refine own_t T37 (mkF m 83 #[rv a1, rv sa, iv fa, rv al, iv (2 : Int32), rv el2] [(.int cr37)]) st37 ?_
  obtain ⟨LL39, Xp39, Np39⟩ : ∃ LL, Stand p l e (own_R 9 3 8 116) s m #[(.ref a1), (.ref sa), (.int fa), (.ref al)] below meth c T37 LL 0 0 ∧ Fr n0 LL := ⟨_, X37, N38⟩
  refine own_g T37 (mkF m 46 #[rv a1, rv sa, iv fa, rv al, iv (3 : Int32), rv el2] [(.ref al), (.int (3 : Int32))]) (fun _ kq => XS.ifYes X37.here hx rfl (pc0 := 83) (pc' := 108) rfl (hb hby d11_83) rfl ((if0 _ _).trans (flt (hs37 : ¬ ((0 : Int32) < cr37))).2.2.2) (by decide) (by decide) (XS.iinc Xp39.here hx rfl (hb hby d11_108) rfl (l' := #[rv a1, rv sa, iv fa, rv al, iv (3 : Int32), rv el2]) rfl (XS.goto Xp39.here hx rfl (pc0 := 111) (pc' := 43) rfl (hb hby d11_111) (by decide) (by decide) (XS.iload Xp39.here hx rfl (hb hby d11_43) rfl (XS.aloadN Xp39.here hx rfl (hb hby d11_45) rfl rfl kq))))) ?_
  obtain ⟨_, T40, L40, X40, ⟨rfl, Nq40, hh40⟩, st40⟩ := own_cF Xp39 hx hZ hown (own_W144 hw) (own_W145 hw) (mvT hZ (own_W146 hw)) (own_W147 hw) (own_W148 hw) (own_W149 hw) (own_W150 hw) (own_W142 hw) (own_W12 hw) (own_W151 hw) (rmalsize3 l Z a0 hw [] al h0 n0 O0 Fs) hh37 Ea (lenOf pd_I_154 rfl) (g := (mkF m 46 #[rv a1, rv sa, iv fa, rv al, iv (3 : Int32), rv el2] [(.ref al), (.int (3 : Int32))])) (argsL := []) (rest := [(.int (3 : Int32))]) (W := 1) rfl rfl (hb hby d11_46) (by rw [hml]; rfl) (by show 2 * 0 + _ ≤ _; exact Nat.le_of_eq rfl) rfl (by decide) (by decide) (by decide) (by decide) (by decide)
  have N41 := Fr.app Np39 Nq40
  refine own_t T40 (mkF m 51 #[rv a1, rv sa, iv fa, rv al, iv (3 : Int32), rv el2] [(.int (3 : Int32)), (.int (3 : Int32))]) st40 ?_
  refine own_g T40 (mkF m 115 #[rv a1, rv sa, iv fa, rv al, iv (3 : Int32), rv el2] [(.ref al)]) (fun _ kq => XS.icmpYes X40.here hx rfl (pc0 := 51) (pc' := 114) rfl (hb hby d11_51) rfl (flt ((by decide) : ¬ ((3 : Int32) < (3 : Int32)))).2.1 (by decide) (by decide) (XS.aloadN X40.here hx rfl (hb hby d11_114) rfl rfl kq)) ?_
  obtain ⟨_, T42, L42, X42, ⟨r42, ar42, ka42, rfl, Nq42, Kc42, gr42, szr42, La42, Lb42, Lc_42⟩, st42⟩ := own_cS X40 hx hZ hown (own_W194 hw) (own_W195 hw) (own_W196 hw) (own_W197 hw) (rmlco3 l Z a0 hw [] al ed mr we kd el0 el1 el2 h0 n0 O0 Ea Fs Fe Ad Ed Mr Sem B0 B1 B2) hh40 (lenOf pd_Ljava_util_Collection__Ljava_util_List_724 rfl) (g := (mkF m 115 #[rv a1, rv sa, iv fa, rv al, iv (3 : Int32), rv el2] [(.ref al)])) (argsL := [(.ref al)]) (rest := []) (W := 0) rfl rfl (hb hby d11_115) (by rw [hml]; rfl) (by show 2 * 0 + _ ≤ _; exact Nat.le_of_eq rfl) rfl (by decide) (by decide) (by decide) (by decide) (by decide)
  have N43 := Fr.app N41 Nq42
  have sz_r42 : h0.size ≤ r42 := Nat.le_trans (Keep.refl h0 [a1]).1 szr42
  have ne_a1_r42 : a1 ≠ r42 := Nat.ne_of_lt (Nat.lt_of_lt_of_le Em.lt szr42)
  have ne_sa_r42 : sa ≠ r42 := Nat.ne_of_lt (Nat.lt_of_lt_of_le Es.lt szr42)
  have ne_bv_r42 : bv ≠ r42 := Nat.ne_of_lt (Nat.lt_of_lt_of_le Av.lt szr42)
  have ne_al_r42 : al ≠ r42 := Nat.ne_of_lt (Nat.lt_of_lt_of_le Ea.lt szr42)
  have ne_ed_r42 : ed ≠ r42 := Nat.ne_of_lt (Nat.lt_of_lt_of_le Ad.lt szr42)
  have ne_el0_r42 : el0 ≠ r42 := Nat.ne_of_lt (Nat.lt_of_lt_of_le (B0.ext O0.2).lt szr42)
  have ne_el1_r42 : el1 ≠ r42 := Nat.ne_of_lt (Nat.lt_of_lt_of_le (B1.ext O0.2).lt szr42)
  have ne_el2_r42 : el2 ≠ r42 := Nat.ne_of_lt (Nat.lt_of_lt_of_le (B2.ext O0.2).lt szr42)
  refine own_t T42 (mkF m 118 #[rv a1, rv sa, iv fa, rv al, iv (3 : Int32), rv el2] [(.ref r42)]) st42 ?_
  have f44 := (Em.keep Kc42)
  have ne_ar : ar42 ≠ a1 := (ne_arr f44 (own_W68 hw) (id Lc_42).choose_spec.1).symm
  refine own_g T42 (mkF m 121 #[rv a1, rv sa, iv fa, rv r42, iv (3 : Int32), rv el2] [(.ref sa), (.ref a1)]) (fun _ kq => XS.astoreN X42.here hx rfl (hb hby d11_118) rfl rfl (l' := #[rv a1, rv sa, iv fa, rv r42, iv (3 : Int32), rv el2]) rfl (XS.aloadN X42.here hx rfl (hb hby d11_119) rfl rfl (XS.aloadN X42.here hx rfl (hb hby d11_120) rfl rfl kq))) ?_
  have f45 := (G0.keep Kc42 nin0)
  obtain ⟨T46, h46, X46, e46, W46, st46⟩ := putF X42 hx hZ hown (host := "") (Or.inl (own_W277 hw)) Via.refl rfl f45 f44 (Or.inr ⟨(own_W278 hw), rfl, hnm⟩) (own_W68 hw) (ty := (.object "java/lang/String")) (by decide) rfl rfl (g := (mkF m 121 #[rv a1, rv sa, iv fa, rv r42, iv (3 : Int32), rv el2] [(.ref sa), (.ref a1)])) rfl rfl (hb hby d11_121)
  have Fw46 := Fld.same W46 f45
  have N47 := Fr.snoc X46 N43 ga
  refine own_g T46 (mkF m 124 #[rv a1, rv sa, iv fa, rv r42, iv (3 : Int32), rv el2] []) st46 ?_
  refine own_g T46 (mkF m 126 #[rv a1, rv sa, iv fa, rv r42, iv (3 : Int32), rv el2] [(.int fa), (.ref a1)]) (fun _ kq => XS.aloadN X46.here hx rfl (hb hby d11_124) rfl rfl (XS.iloadN X46.here hx rfl (hb hby d11_125) rfl kq)) ?_
  have f48 := (f44.wr W46)
  have f49 := ((G1.keep Kc42 nin0).other W46 (Or.inr (slot_ne (Or.inr (own_W280 hw)) (Or.inr (own_W278 hw)) (by decide) (t := .int) (t' := (.object "java/lang/String")) (by decide) (by decide))))
  obtain ⟨T50, h50, X50, e50, W50, st50⟩ := putF X46 hx hZ hown (host := "") (Or.inl (own_W279 hw)) Via.refl e46 f49 f48 (Or.inr ⟨(own_W280 hw), rfl, hnm⟩) (own_W68 hw) (ty := .int) (by decide) rfl rfl (g := (mkF m 126 #[rv a1, rv sa, iv fa, rv r42, iv (3 : Int32), rv el2] [(.int fa), (.ref a1)])) rfl rfl (hb hby d11_126)
  have Fw50 := Fld.same W50 f49
  have N51 := Fr.snoc X50 N47 ga
  refine own_g T50 (mkF m 129 #[rv a1, rv sa, iv fa, rv r42, iv (3 : Int32), rv el2] []) st50 ?_
  refine own_g T50 (mkF m 131 #[rv a1, rv sa, iv fa, rv r42, iv (3 : Int32), rv el2] [(.ref r42), (.ref a1)]) (fun _ kq => XS.aloadN X50.here hx rfl (hb hby d11_129) rfl rfl (XS.aloadN X50.here hx rfl (hb hby d11_130) rfl rfl kq)) ?_
  have f52 := (f48.wr W50)
  have f53 := (((G2.keep Kc42 nin0).other W46 (Or.inr (slot_ne (Or.inr (own_W282 hw)) (Or.inr (own_W278 hw)) (by decide) (t := (.object "java/util/List")) (t' := (.object "java/lang/String")) (by decide) (by decide)))).other W50 (Or.inr (slot_ne (Or.inr (own_W282 hw)) (Or.inr (own_W280 hw)) (by decide) (t := (.object "java/util/List")) (t' := .int) (by decide) (by decide))))
  obtain ⟨T54, h54, X54, e54, W54, st54⟩ := putF X50 hx hZ hown (host := "") (Or.inl (own_W281 hw)) Via.refl e50 f53 f52 (Or.inr ⟨(own_W282 hw), rfl, hnm⟩) (own_W68 hw) (ty := (.object "java/util/List")) (by decide) rfl rfl (g := (mkF m 131 #[rv a1, rv sa, iv fa, rv r42, iv (3 : Int32), rv el2] [(.ref r42), (.ref a1)])) rfl rfl (hb hby d11_131)
  have Fw54 := Fld.same W54 f53
  have N55 := Fr.snoc X54 N51 ga
  obtain ⟨LL56, Xp56, Np56⟩ : ∃ LL, Stand p l e (own_R 9 3 8 116) s m #[(.ref a1), (.ref sa), (.int fa), (.ref al)] below meth c T54 LL 3 8 ∧ Fr n0 LL := ⟨_, X54, N55⟩
  refine own_g T54 (mkF m 134 #[rv a1, rv sa, iv fa, rv r42, iv (3 : Int32), rv el2] []) st54 ?_
  have K57 : Keep h0 _ [a1] := (((((Keep.refl h0 [a1]).trans Kc42 all0).wr W46 (Or.inl (List.mem_of_getElem? (i := 0) rfl))).wr W50 (Or.inl (List.mem_of_getElem? (i := 0) rfl))).wr W54 (Or.inl (List.mem_of_getElem? (i := 0) rfl)))
  have f58 := (Fw50.other W54 (Or.inr (slot_ne (Or.inr (own_W280 hw)) (Or.inr (own_W282 hw)) (by decide) (t := .int) (t' := (.object "java/util/List")) (by decide) (by decide))))
  have f59 := (((La42.wr W46).wr W50).wr W54)
  have f60 := (((Lb42.other W46 (Or.inl (Ne.symm ne_a1_r42))).other W50 (Or.inl (Ne.symm ne_a1_r42))).other W54 (Or.inl (Ne.symm ne_a1_r42)))
  have f61 := (((Lc_42.other W46 ne_ar).other W50 ne_ar).other W54 ne_ar)
  refine own_out Xp56 Bd.notSynchronized (v := none) (fun _ => rfl) (fun fs hr => Xp56.returnOut hx Bd.returns (hb hby d11_134) hr) ?_ (by decide) (by decide)
  rw [e54]
  exact ⟨_, _, _, rfl, Np56, K57, gr42, szr42, f58, Fw54, f59, f60, f61⟩
theorem ef_mti4 (m : MethodId) (x0 : Addr) (x1 : Addr) (x2 : Int32) (x3 : Addr) : entryFrame m #[(.ref x0), (.ref x1), (.int x2), (.ref x3)] 6 = mkF m 0 #[.val (.ref x0), .val (.ref x1), .val (.int x2), .val (.ref x3), .unset, .unset] [] := by first | (simp [entryFrame, mkF, argsToLocals, Value.category]; done) | rfl
def Qmti4 (Z : State) (a1 al ed mr we w1 : Addr) (kd : ClassId) (fa : Int32) (sa bv : Addr) (kb : ClassId) (cs : Int32) (wi wa : Addr) (cla : Cell) (el0 el1 el2 el3 : Addr) (h0 : Heap) (n0 : Nat) (v : Option Value) (h : Heap) (L : List Loc) : Prop := ∃ (r ar : Addr) (ka : ClassId), v = none ∧ Fr n0 L ∧ Keep h0 h [a1] ∧ n0 ≤ r ∧ h0.size ≤ r ∧ Fld Z h a1 "com/example/restoria/restoria/mortality/MortalityTable" "firstAge" "I" (.int fa) ∧ Fld Z h a1 "com/example/restoria/restoria/mortality/MortalityTable" "rates" "Ljava/util/List;" (.ref r) ∧ Exa Z h r "java/util/ImmutableCollections$ListN" ∧ Fld Z h r "java/util/ImmutableCollections$ListN" "elements" "[Ljava/lang/Object;" (.ref ar) ∧ Arv Z h ar ka (.object "java/lang/Object") (4 : Int32) [(.ref el0), (.ref el1), (.ref el2), (.ref el3)] .null
set_option maxRecDepth 65536 in
set_option maxHeartbeats 40000000 in
theorem rmmti4 (l : Launch) (Z : State) (a0 : Array Value) (hw : own_H a0 Z) (ws : List Jvm.Cond) (a1 al ed mr we w1 : Addr) (kd : ClassId) (fa : Int32) (sa bv : Addr) (kb : ClassId) (cs : Int32) (wi wa : Addr) (cla : Cell) (el0 el1 el2 el3 : Addr) (h0 : Heap) (n0 : Nat) (O0 : Old Z n0 h0) (Em : Exa Z h0 a1 "com/example/restoria/restoria/mortality/MortalityTable") (G0 : Fld Z h0 a1 "com/example/restoria/restoria/mortality/MortalityTable" "name" "Ljava/lang/String;" .null) (G1 : Fld Z h0 a1 "com/example/restoria/restoria/mortality/MortalityTable" "firstAge" "I" (.int (0 : Int32))) (G2 : Fld Z h0 a1 "com/example/restoria/restoria/mortality/MortalityTable" "rates" "Ljava/util/List;" .null) (ga : n0 ≤ a1) (Es : Exa Z h0 sa "java/lang/String") (Fc : Fld Z h0 sa "java/lang/String" "coder" "B" (.int (0 : Int32))) (Fv : Fld Z h0 sa "java/lang/String" "value" "[B" (.ref bv)) (Av : Arv Z h0 bv kb .byte (1 : Int32) [.int (84 : Int32)] (.int (0 : Int32))) (Scs : Sta Z Z.heap "java/lang/String" "COMPACT_STRINGS" "Z" (.int cs)) (hcs : ¬ (cs = (0 : Int32))) (Sin : Sta Z Z.heap "java/lang/CharacterDataLatin1" "instance" "Ljava/lang/CharacterDataLatin1;" (.ref wi)) (Ein : Exa Z Z.heap wi "java/lang/CharacterDataLatin1") (Sa : Sta Z Z.heap "java/lang/CharacterDataLatin1" "A" "[I" (.ref wa)) (Ara : Jvm.RoadKit.Arr Z Z.heap wa cla .int) (hina : ¬ ((84 : Int32) < 0 ∨ cla.slots.size ≤ (84 : Int32).toNatClampNeg)) (hata : cla.slots[(84 : Int32).toNatClampNeg]? = some (.int (8552417 : Int32))) (Ea : Exa Z h0 al "java/util/ArrayList") (Fs : Fld Z h0 al "java/util/ArrayList" "size" "I" (.int (4 : Int32))) (Fe : Fld Z h0 al "java/util/ArrayList" "elementData" "[Ljava/lang/Object;" (.ref ed)) (Ad : Arv Z h0 ed kd (.object "java/lang/Object") (10 : Int32) [(.ref el0), (.ref el1), (.ref el2), (.ref el3), .null, .null, .null, .null, .null, .null] .null) (Ed : Exa Z h0 ed "[Ljava/lang/Object;") (Mr : own_Mir Z "[Ljava/lang/Object;" mr) (Sem : Sta Z Z.heap "java/util/ImmutableCollections" "EMPTY" "Ljava/lang/Object;" (.ref we)) (S1 : Sta Z Z.heap "java/math/BigDecimal" "ONE" "Ljava/math/BigDecimal;" (.ref w1)) (Fi1 : Fld Z Z.heap w1 "java/math/BigDecimal" "intCompact" "J" (.long (1 : Int64))) (Fz1 : Fld Z Z.heap w1 "java/math/BigDecimal" "scale" "I" (.int (0 : Int32))) (D0 : own_BD Z el0) (D1 : own_BD Z el1) (D2 : own_BD Z el2) (D3 : own_BD Z el3) :
    own_M l (⟨"com/example/restoria/restoria/mortality/MortalityTable", "<init>", "(Ljava/lang/String;ILjava/util/List;)V"⟩ : MethodName) prog_35_method_1_code 6 none ws (own_R 9 3 10 116) Z #[(.ref a1), (.ref sa), (.int fa), (.ref al)] h0 (Qmti4 Z a1 al ed mr we w1 kd fa sa bv kb cs wi wa cla el0 el1 el2 el3 h0 n0) := by
  refine own_body (plainFor_of_name pn_com_example_restoria_restoria_mortality_MortalityTable) (fun m => ef_mti4 m a1 sa fa al) ?_
  intro p e s m below meth c s₁ Bd hx hby hml hown hnm X0 e0 hZ
  have N0 := Fr.nil n0
  obtain ⟨B0, Z0, cc0, hcc0, I0⟩ := id D0
  obtain ⟨B1, Z1, cc1, hcc1, I1⟩ := id D1
  obtain ⟨B2, Z2, cc2, hcc2, I2⟩ := id D2
  obtain ⟨B3, Z3, cc3, hcc3, I3⟩ := id D3
  refine own_g s₁ (mkF m 1 #[rv a1, rv sa, iv fa, rv al, .unset, .unset] [(.ref a1)]) (fun _ kq => XS.aloadN X0.here hx rfl (hb hby d11_0) rfl rfl kq) ?_
  obtain ⟨_, T1, L1, X1, ⟨rfl, Nq1, hh1⟩, st1⟩ := own_cI X0 hx hZ hown (own_W81 hw) (own_W82 hw) (own_W84 hw) (own_W85 hw) (rmrec l Z a0 hw [] a1 h0 n0 O0) e0 (lenOf pd_V_167 rfl) (g := (mkF m 1 #[rv a1, rv sa, iv fa, rv al, .unset, .unset] [(.ref a1)])) (argsL := []) (rest := []) (W := 0) rfl rfl (hb hby d11_1) (by rw [hml]; rfl) (by show 2 * 0 + _ ≤ _; exact Nat.le_of_eq rfl) rfl rfl (by decide) (by decide) (by decide) (by decide) (by decide)
  have N2 := Fr.app N0 Nq1
  refine own_t T1 (mkF m 4 #[rv a1, rv sa, iv fa, rv al, .unset, .unset] []) st1 ?_
  refine own_g T1 (mkF m 5 #[rv a1, rv sa, iv fa, rv al, .unset, .unset] [(.ref sa)]) (fun _ kq => XS.aloadN X1.here hx rfl (hb hby d11_4) rfl rfl kq) ?_
  obtain ⟨_, T3, L3, X3, ⟨rfl, Nq3, hh3⟩, st3⟩ := own_cV X1 hx hZ hown (own_W87 hw) (own_W88 hw) (own_W90 hw) (own_W89 hw) (own_W71 hw) (own_W91 hw) (rmisb l Z a0 hw [] sa bv kb cs wi wa cla h0 n0 O0 Es Fc Fv Av Scs hcs Sin Ein Sa Ara hina hata) hh1 Es (lenOf pd_Z_171 rfl) (g := (mkF m 5 #[rv a1, rv sa, iv fa, rv al, .unset, .unset] [(.ref sa)])) (argsL := []) (rest := []) (W := 0) rfl rfl (hb hby d11_5) (by rw [hml]; rfl) (by show 2 * 0 + _ ≤ _; exact Nat.le_of_eq rfl) rfl (by decide) (by decide) (by decide) (by decide) (by decide)
  have N4 := Fr.app N2 Nq3
  refine own_t T3 (mkF m 8 #[rv a1, rv sa, iv fa, rv al, .unset, .unset] [(.int (0 : Int32))]) st3 ?_
  refine own_g T3 (mkF m 22 #[rv a1, rv sa, iv fa, rv al, .unset, .unset] [(.ref al)]) (fun _ kq => XS.ifYes X3.here hx rfl (pc0 := 8) (pc' := 21) rfl (hb hby d11_8) rfl ((if0 _ _).trans (teq ((by decide) : (0 : Int32) = (0 : Int32))).1) (by decide) (by decide) (XS.aloadN X3.here hx rfl (hb hby d11_21) rfl rfl kq)) ?_
  obtain ⟨_, T5, L5, X5, ⟨rfl, Nq5, hh5⟩, st5⟩ := own_cF X3 hx hZ hown (own_W135 hw) (own_W136 hw) (mvT hZ (own_W137 hw)) (own_W138 hw) (own_W139 hw) (own_W140 hw) (own_W141 hw) (own_W142 hw) (own_W12 hw) (own_W143 hw) (rmalisEmpty4 l Z a0 hw [] al h0 n0 O0 Fs) hh3 Ea (lenOf pd_Z_171 rfl) (g := (mkF m 22 #[rv a1, rv sa, iv fa, rv al, .unset, .unset] [(.ref al)])) (argsL := []) (rest := []) (W := 0) rfl rfl (hb hby d11_22) (by rw [hml]; rfl) (by show 2 * 0 + _ ≤ _; exact Nat.le_of_eq rfl) rfl (by decide) (by decide) (by decide) (by decide) (by decide)
  have N6 := Fr.app N4 Nq5
  refine own_t T5 (mkF m 27 #[rv a1, rv sa, iv fa, rv al, .unset, .unset] [(.int (0 : Int32))]) st5 ?_
  refine own_g T5 (mkF m 46 #[rv a1, rv sa, iv fa, rv al, iv (0 : Int32), .unset] [(.ref al), (.int (0 : Int32))]) (fun _ kq => XS.ifYes X5.here hx rfl (pc0 := 27) (pc' := 40) rfl (hb hby d11_27) rfl ((if0 _ _).trans (teq ((by decide) : (0 : Int32) = (0 : Int32))).1) (by decide) (by decide) (XS.iconst X5.here hx rfl (hb hby d11_40) (XS.istore X5.here hx rfl (hb hby d11_41) rfl (l' := #[rv a1, rv sa, iv fa, rv al, iv (0 : Int32), .unset]) rfl (XS.iload X5.here hx rfl (hb hby d11_43) rfl (XS.aloadN X5.here hx rfl (hb hby d11_45) rfl rfl kq))))) ?_
  obtain ⟨_, T7, L7, X7, ⟨rfl, Nq7, hh7⟩, st7⟩ := own_cF X5 hx hZ hown (own_W144 hw) (own_W145 hw) (mvT hZ (own_W146 hw)) (own_W147 hw) (own_W148 hw) (own_W149 hw) (own_W150 hw) (own_W142 hw) (own_W12 hw) (own_W151 hw) (rmalsize4 l Z a0 hw [] al h0 n0 O0 Fs) hh5 Ea (lenOf pd_I_154 rfl) (g := (mkF m 46 #[rv a1, rv sa, iv fa, rv al, iv (0 : Int32), .unset] [(.ref al), (.int (0 : Int32))])) (argsL := []) (rest := [(.int (0 : Int32))]) (W := 1) rfl rfl (hb hby d11_46) (by rw [hml]; rfl) (by show 2 * 0 + _ ≤ _; exact Nat.le_of_eq rfl) rfl (by decide) (by decide) (by decide) (by decide) (by decide)
  have N8 := Fr.app N6 Nq7
  refine own_t T7 (mkF m 51 #[rv a1, rv sa, iv fa, rv al, iv (0 : Int32), .unset] [(.int (4 : Int32)), (.int (0 : Int32))]) st7 ?_
  refine own_g T7 (mkF m 57 #[rv a1, rv sa, iv fa, rv al, iv (0 : Int32), .unset] [(.int (0 : Int32)), (.ref al)]) (fun _ kq => XS.icmpNo X7.here hx rfl (hb hby d11_51) rfl (tlt ((by decide) : (0 : Int32) < (4 : Int32))).2.1 (XS.aloadN X7.here hx rfl (hb hby d11_54) rfl rfl (XS.iload X7.here hx rfl (hb hby d11_55) rfl kq))) ?_
  obtain ⟨_, T9, L9, X9, ⟨rfl, Nq9, hh9⟩, st9⟩ := own_cF X7 hx hZ hown (own_W152 hw) (own_W153 hw) (mvT hZ (own_W154 hw)) (own_W155 hw) (own_W156 hw) (own_W157 hw) (own_W158 hw) (own_W142 hw) (own_W12 hw) (own_W159 hw) (rmget0 l Z a0 hw [] al ed el0 kd (.ref el1) (.ref el2) (.ref el3) (4 : Int32) h0 n0 O0 Ea Fs (by decide) Fe Ad) hh7 Ea (lenOf pd_I_Ljava_lang_Object_821 rfl) (g := (mkF m 57 #[rv a1, rv sa, iv fa, rv al, iv (0 : Int32), .unset] [(.int (0 : Int32)), (.ref al)])) (argsL := [(.int (0 : Int32))]) (rest := []) (W := 0) rfl rfl (hb hby d11_57) (by rw [hml]; rfl) (by show 2 * 0 + _ ≤ _; exact Nat.le_of_eq rfl) rfl (by decide) (by decide) (by decide) (by decide) (by decide)
  have N10 := Fr.app N8 Nq9
  refine own_t T9 (mkF m 62 #[rv a1, rv sa, iv fa, rv al, iv (0 : Int32), .unset] [(.ref el0)]) st9 ?_
  obtain ⟨T11, X11, e11, st11⟩ := castY X9 hx hZ hown (own_W173 hw) hh9 (Ins.self (B0.ext O0.2)) (g := (mkF m 62 #[rv a1, rv sa, iv fa, rv al, iv (0 : Int32), .unset] [(.ref el0)])) rfl rfl (hb hby d11_62)
  obtain ⟨LL12, Xp12, Np12⟩ : ∃ LL, Stand p l e (own_R 9 3 10 116) s m #[(.ref a1), (.ref sa), (.int fa), (.ref al)] below meth c T11 LL 0 0 ∧ Fr n0 LL := ⟨_, X11, N10⟩
  refine own_g T11 (mkF m 65 #[rv a1, rv sa, iv fa, rv al, iv (0 : Int32), .unset] [(.ref el0)]) st11 ?_
  refine own_g T11 (mkF m 69 #[rv a1, rv sa, iv fa, rv al, iv (0 : Int32), rv el0] [(.ref el0)]) (fun _ kq => XS.astore Xp12.here hx rfl (hb hby d11_65) rfl rfl (l' := #[rv a1, rv sa, iv fa, rv al, iv (0 : Int32), rv el0]) rfl (XS.aload Xp12.here hx rfl (hb hby d11_67) rfl rfl kq)) ?_
  obtain ⟨_, T13, L13, X13, ⟨sg13, rfl, Nq13, hh13, hs13⟩, st13⟩ := own_cV Xp12 hx hZ hown (own_W174 hw) (own_W175 hw) (own_W177 hw) (own_W176 hw) (own_W7 hw) (own_W178 hw) (rmsgn l Z a0 hw [] el0 cc0 h0 n0 O0 I0 hcc0) e11 (B0.ext O0.2) (lenOf pd_I_154 rfl) (g := (mkF m 69 #[rv a1, rv sa, iv fa, rv al, iv (0 : Int32), rv el0] [(.ref el0)])) (argsL := []) (rest := []) (W := 0) rfl rfl (hb hby d11_69) (by rw [hml]; rfl) (by show 2 * 0 + _ ≤ _; exact Nat.le_of_eq rfl) rfl (by decide) (by decide) (by decide) (by decide) (by decide)
  have N14 := Fr.app Np12 Nq13
  refine own_t T13 (mkF m 72 #[rv a1, rv sa, iv fa, rv al, iv (0 : Int32), rv el0] [(.int sg13)]) st13 ?_
  refine own_g T13 (mkF m 77 #[rv a1, rv sa, iv fa, rv al, iv (0 : Int32), rv el0] [(.ref el0)]) (fun _ kq => XS.ifNo X13.here hx rfl (hb hby d11_72) rfl ((if0 _ _).trans (flt (hs13 : ¬ (sg13 < (0 : Int32)))).1) (XS.aload X13.here hx rfl (hb hby d11_75) rfl rfl kq)) ?_
  obtain ⟨T15, X15, e15, st15⟩ := getS2 X13 hx hZ hown (host := "") (Or.inl (own_W186 hw)) Via.refl hh13 (S1.ext O0.2) (g := (mkF m 77 #[rv a1, rv sa, iv fa, rv al, iv (0 : Int32), rv el0] [(.ref el0)])) rfl (hb hby d11_77)
  refine own_g T15 (mkF m 80 #[rv a1, rv sa, iv fa, rv al, iv (0 : Int32), rv el0] [(.ref w1), (.ref el0)]) st15 ?_
  obtain ⟨_, T16, L16, X16, ⟨cr16, rfl, Nq16, hh16, hs16⟩, st16⟩ := own_cV X15 hx hZ hown (own_W187 hw) (own_W188 hw) (own_W190 hw) (own_W189 hw) (own_W7 hw) (own_W191 hw) (rmcmpt l Z a0 hw [] el0 w1 cc0 h0 n0 O0 I0 hcc0 Z0 Fi1 Fz1) e15 (B0.ext O0.2) (lenOf pd_Ljava_math_BigDecimal__I_194 rfl) (g := (mkF m 80 #[rv a1, rv sa, iv fa, rv al, iv (0 : Int32), rv el0] [(.ref w1), (.ref el0)])) (argsL := [(.ref w1)]) (rest := []) (W := 0) rfl rfl (hb hby d11_80) (by rw [hml]; rfl) (by show 2 * 0 + _ ≤ _; exact Nat.le_of_eq rfl) rfl (by decide) (by decide) (by decide) (by decide) (by decide)
  have N17 := Fr.app N14 Nq16
  refine own_t T16 (mkF m 83 #[rv a1, rv sa, iv fa, rv al, iv (0 : Int32), rv el0] [(.int cr16)]) st16 ?_
  refine own_g T16 (mkF m 46 #[rv a1, rv sa, iv fa, rv al, iv (1 : Int32), rv el0] [(.ref al), (.int (1 : Int32))]) (fun _ kq => XS.ifYes X16.here hx rfl (pc0 := 83) (pc' := 108) rfl (hb hby d11_83) rfl ((if0 _ _).trans (flt (hs16 : ¬ ((0 : Int32) < cr16))).2.2.2) (by decide) (by decide) (XS.iinc X16.here hx rfl (hb hby d11_108) rfl (l' := #[rv a1, rv sa, iv fa, rv al, iv (1 : Int32), rv el0]) rfl (XS.goto X16.here hx rfl (pc0 := 111) (pc' := 43) rfl (hb hby d11_111) (by decide) (by decide) (XS.iload X16.here hx rfl (hb hby d11_43) rfl (XS.aloadN X16.here hx rfl (hb hby d11_45) rfl rfl kq))))) ?_
  obtain ⟨_, T18, L18, X18, ⟨rfl, Nq18, hh18⟩, st18⟩ := own_cF X16 hx hZ hown (own_W144 hw) (own_W145 hw) (mvT hZ (own_W146 hw)) (own_W147 hw) (own_W148 hw) (own_W149 hw) (own_W150 hw) (own_W142 hw) (own_W12 hw) (own_W151 hw) (rmalsize4 l Z a0 hw [] al h0 n0 O0 Fs) hh16 Ea (lenOf pd_I_154 rfl) (g := (mkF m 46 #[rv a1, rv sa, iv fa, rv al, iv (1 : Int32), rv el0] [(.ref al), (.int (1 : Int32))])) (argsL := []) (rest := [(.int (1 : Int32))]) (W := 1) rfl rfl (hb hby d11_46) (by rw [hml]; rfl) (by show 2 * 0 + _ ≤ _; exact Nat.le_of_eq rfl) rfl (by decide) (by decide) (by decide) (by decide) (by decide)
  have N19 := Fr.app N17 Nq18
  refine own_t T18 (mkF m 51 #[rv a1, rv sa, iv fa, rv al, iv (1 : Int32), rv el0] [(.int (4 : Int32)), (.int (1 : Int32))]) st18 ?_
  refine own_g T18 (mkF m 57 #[rv a1, rv sa, iv fa, rv al, iv (1 : Int32), rv el0] [(.int (1 : Int32)), (.ref al)]) (fun _ kq => XS.icmpNo X18.here hx rfl (hb hby d11_51) rfl (tlt ((by decide) : (1 : Int32) < (4 : Int32))).2.1 (XS.aloadN X18.here hx rfl (hb hby d11_54) rfl rfl (XS.iload X18.here hx rfl (hb hby d11_55) rfl kq))) ?_
  obtain ⟨_, T20, L20, X20, ⟨rfl, Nq20, hh20⟩, st20⟩ := own_cF X18 hx hZ hown (own_W152 hw) (own_W153 hw) (mvT hZ (own_W154 hw)) (own_W155 hw) (own_W156 hw) (own_W157 hw) (own_W158 hw) (own_W142 hw) (own_W12 hw) (own_W159 hw) (rmget1 l Z a0 hw [] al ed el1 kd (.ref el0) (.ref el2) (.ref el3) (4 : Int32) h0 n0 O0 Ea Fs (by decide) Fe Ad) hh18 Ea (lenOf pd_I_Ljava_lang_Object_821 rfl) (g := (mkF m 57 #[rv a1, rv sa, iv fa, rv al, iv (1 : Int32), rv el0] [(.int (1 : Int32)), (.ref al)])) (argsL := [(.int (1 : Int32))]) (rest := []) (W := 0) rfl rfl (hb hby d11_57) (by rw [hml]; rfl) (by show 2 * 0 + _ ≤ _; exact Nat.le_of_eq rfl) rfl (by decide) (by decide) (by decide) (by decide) (by decide)
  have N21 := Fr.app N19 Nq20
  refine own_t T20 (mkF m 62 #[rv a1, rv sa, iv fa, rv al, iv (1 : Int32), rv el0] [(.ref el1)]) st20 ?_
  obtain ⟨T22, X22, e22, st22⟩ := castY X20 hx hZ hown (own_W173 hw) hh20 (Ins.self (B1.ext O0.2)) (g := (mkF m 62 #[rv a1, rv sa, iv fa, rv al, iv (1 : Int32), rv el0] [(.ref el1)])) rfl rfl (hb hby d11_62)
  refine own_g T22 (mkF m 65 #[rv a1, rv sa, iv fa, rv al, iv (1 : Int32), rv el0] [(.ref el1)]) st22 ?_
  refine own_g T22 (mkF m 69 #[rv a1, rv sa, iv fa, rv al, iv (1 : Int32), rv el1] [(.ref el1)]) (fun _ kq => XS.astore X22.here hx rfl (hb hby d11_65) rfl rfl (l' := #[rv a1, rv sa, iv fa, rv al, iv (1 : Int32), rv el1]) rfl (XS.aload X22.here hx rfl (hb hby d11_67) rfl rfl kq)) ?_
  obtain ⟨_, T23, L23, X23, ⟨sg23, rfl, Nq23, hh23, hs23⟩, st23⟩ := own_cV X22 hx hZ hown (own_W174 hw) (own_W175 hw) (own_W177 hw) (own_W176 hw) (own_W7 hw) (own_W178 hw) (rmsgn l Z a0 hw [] el1 cc1 h0 n0 O0 I1 hcc1) e22 (B1.ext O0.2) (lenOf pd_I_154 rfl) (g := (mkF m 69 #[rv a1, rv sa, iv fa, rv al, iv (1 : Int32), rv el1] [(.ref el1)])) (argsL := []) (rest := []) (W := 0) rfl rfl (hb hby d11_69) (by rw [hml]; rfl) (by show 2 * 0 + _ ≤ _; exact Nat.le_of_eq rfl) rfl (by decide) (by decide) (by decide) (by decide) (by decide)
  have N24 := Fr.app N21 Nq23
  refine own_t T23 (mkF m 72 #[rv a1, rv sa, iv fa, rv al, iv (1 : Int32), rv el1] [(.int sg23)]) st23 ?_
  obtain ⟨LL25, Xp25, Np25⟩ : ∃ LL, Stand p l e (own_R 9 3 10 116) s m #[(.ref a1), (.ref sa), (.int fa), (.ref al)] below meth c T23 LL 0 0 ∧ Fr n0 LL := ⟨_, X23, N24⟩
  refine own_g T23 (mkF m 77 #[rv a1, rv sa, iv fa, rv al, iv (1 : Int32), rv el1] [(.ref el1)]) (fun _ kq => XS.ifNo X23.here hx rfl (hb hby d11_72) rfl ((if0 _ _).trans (flt (hs23 : ¬ (sg23 < (0 : Int32)))).1) (XS.aload Xp25.here hx rfl (hb hby d11_75) rfl rfl kq)) ?_
  obtain ⟨T26, X26, e26, st26⟩ := getS2 Xp25 hx hZ hown (host := "") (Or.inl (own_W186 hw)) Via.refl hh23 (S1.ext O0.2) (g := (mkF m 77 #[rv a1, rv sa, iv fa, rv al, iv (1 : Int32), rv el1] [(.ref el1)])) rfl (hb hby d11_77)
  refine own_g T26 (mkF m 80 #[rv a1, rv sa, iv fa, rv al, iv (1 : Int32), rv el1] [(.ref w1), (.ref el1)]) st26 ?_
  obtain ⟨_, T27, L27, X27, ⟨cr27, rfl, Nq27, hh27, hs27⟩, st27⟩ := own_cV X26 hx hZ hown (own_W187 hw) (own_W188 hw) (own_W190 hw) (own_W189 hw) (own_W7 hw) (own_W191 hw) (rmcmpt l Z a0 hw [] el1 w1 cc1 h0 n0 O0 I1 hcc1 Z1 Fi1 Fz1) e26 (B1.ext O0.2) (lenOf pd_Ljava_math_BigDecimal__I_194 rfl) (g := (mkF m 80 #[rv a1, rv sa, iv fa, rv al, iv (1 : Int32), rv el1] [(.ref w1), (.ref el1)])) (argsL := [(.ref w1)]) (rest := []) (W := 0) rfl rfl (hb hby d11_80) (by rw [hml]; rfl) (by show 2 * 0 + _ ≤ _; exact Nat.le_of_eq rfl) rfl (by decide) (by decide) (by decide) (by decide) (by decide)
  have N28 := Fr.app Np25 Nq27
  refine own_t T27 (mkF m 83 #[rv a1, rv sa, iv fa, rv al, iv (1 : Int32), rv el1] [(.int cr27)]) st27 ?_
  refine own_g T27 (mkF m 46 #[rv a1, rv sa, iv fa, rv al, iv (2 : Int32), rv el1] [(.ref al), (.int (2 : Int32))]) (fun _ kq => XS.ifYes X27.here hx rfl (pc0 := 83) (pc' := 108) rfl (hb hby d11_83) rfl ((if0 _ _).trans (flt (hs27 : ¬ ((0 : Int32) < cr27))).2.2.2) (by decide) (by decide) (XS.iinc X27.here hx rfl (hb hby d11_108) rfl (l' := #[rv a1, rv sa, iv fa, rv al, iv (2 : Int32), rv el1]) rfl (XS.goto X27.here hx rfl (pc0 := 111) (pc' := 43) rfl (hb hby d11_111) (by decide) (by decide) (XS.iload X27.here hx rfl (hb hby d11_43) rfl (XS.aloadN X27.here hx rfl (hb hby d11_45) rfl rfl kq))))) ?_
  obtain ⟨_, T29, L29, X29, ⟨rfl, Nq29, hh29⟩, st29⟩ := own_cF X27 hx hZ hown (own_W144 hw) (own_W145 hw) (mvT hZ (own_W146 hw)) (own_W147 hw) (own_W148 hw) (own_W149 hw) (own_W150 hw) (own_W142 hw) (own_W12 hw) (own_W151 hw) (rmalsize4 l Z a0 hw [] al h0 n0 O0 Fs) hh27 Ea (lenOf pd_I_154 rfl) (g := (mkF m 46 #[rv a1, rv sa, iv fa, rv al, iv (2 : Int32), rv el1] [(.ref al), (.int (2 : Int32))])) (argsL := []) (rest := [(.int (2 : Int32))]) (W := 1) rfl rfl (hb hby d11_46) (by rw [hml]; rfl) (by show 2 * 0 + _ ≤ _; exact Nat.le_of_eq rfl) rfl (by decide) (by decide) (by decide) (by decide) (by decide)
  have N30 := Fr.app N28 Nq29
  refine own_t T29 (mkF m 51 #[rv a1, rv sa, iv fa, rv al, iv (2 : Int32), rv el1] [(.int (4 : Int32)), (.int (2 : Int32))]) st29 ?_
  refine own_g T29 (mkF m 57 #[rv a1, rv sa, iv fa, rv al, iv (2 : Int32), rv el1] [(.int (2 : Int32)), (.ref al)]) (fun _ kq => XS.icmpNo X29.here hx rfl (hb hby d11_51) rfl (tlt ((by decide) : (2 : Int32) < (4 : Int32))).2.1 (XS.aloadN X29.here hx rfl (hb hby d11_54) rfl rfl (XS.iload X29.here hx rfl (hb hby d11_55) rfl kq))) ?_
  obtain ⟨_, T31, L31, X31, ⟨rfl, Nq31, hh31⟩, st31⟩ := own_cF X29 hx hZ hown (own_W152 hw) (own_W153 hw) (mvT hZ (own_W154 hw)) (own_W155 hw) (own_W156 hw) (own_W157 hw) (own_W158 hw) (own_W142 hw) (own_W12 hw) (own_W159 hw) (rmget2 l Z a0 hw [] al ed el2 kd (.ref el0) (.ref el1) (.ref el3) (4 : Int32) h0 n0 O0 Ea Fs (by decide) Fe Ad) hh29 Ea (lenOf pd_I_Ljava_lang_Object_821 rfl) (g := (mkF m 57 #[rv a1, rv sa, iv fa, rv al, iv (2 : Int32), rv el1] [(.int (2 : Int32)), (.ref al)])) (argsL := [(.int (2 : Int32))]) (rest := []) (W := 0) rfl rfl (hb hby d11_57) (by rw [hml]; rfl) (by show 2 * 0 + _ ≤ _; exact Nat.le_of_eq rfl) rfl (by decide) (by decide) (by decide) (by decide) (by decide)
  have N32 := Fr.app N30 Nq31
  refine own_t T31 (mkF m 62 #[rv a1, rv sa, iv fa, rv al, iv (2 : Int32), rv el1] [(.ref el2)]) st31 ?_
  obtain ⟨T33, X33, e33, st33⟩ := castY X31 hx hZ hown (own_W173 hw) hh31 (Ins.self (B2.ext O0.2)) (g := (mkF m 62 #[rv a1, rv sa, iv fa, rv al, iv (2 : Int32), rv el1] [(.ref el2)])) rfl rfl (hb hby d11_62)
  refine own_g T33 (mkF m 65 #[rv a1, rv sa, iv fa, rv al, iv (2 : Int32), rv el1] [(.ref el2)]) st33 ?_
  refine own_g T33 (mkF m 69 #[rv a1, rv sa, iv fa, rv al, iv (2 : Int32), rv el2] [(.ref el2)]) (fun _ kq => XS.astore X33.here hx rfl (hb hby d11_65) rfl rfl (l' := #[rv a1, rv sa, iv fa, rv al, iv (2 : Int32), rv el2]) rfl (XS.aload X33.here hx rfl (hb hby d11_67) rfl rfl kq)) ?_
  obtain ⟨_, T34, L34, X34, ⟨sg34, rfl, Nq34, hh34, hs34⟩, st34⟩ := own_cV X33 hx hZ hown (own_W174 hw) (own_W175 hw) (own_W177 hw) (own_W176 hw) (own_W7 hw) (own_W178 hw) (rmsgn l Z a0 hw [] el2 cc2 h0 n0 O0 I2 hcc2) e33 (B2.ext O0.2) (lenOf pd_I_154 rfl) (g := (mkF m 69 #[rv a1, rv sa, iv fa, rv al, iv (2 : Int32), rv el2] [(.ref el2)])) (argsL := []) (rest := []) (W := 0) rfl rfl (hb hby d11_69) (by rw [hml]; rfl) (by show 2 * 0 + _ ≤ _; exact Nat.le_of_eq rfl) rfl (by decide) (by decide) (by decide) (by decide) (by decide)
  have N35 := Fr.app N32 Nq34
  refine own_t T34 (mkF m 72 #[rv a1, rv sa, iv fa, rv al, iv (2 : Int32), rv el2] [(.int sg34)]) st34 ?_
  refine own_g T34 (mkF m 77 #[rv a1, rv sa, iv fa, rv al, iv (2 : Int32), rv el2] [(.ref el2)]) (fun _ kq => XS.ifNo X34.here hx rfl (hb hby d11_72) rfl ((if0 _ _).trans (flt (hs34 : ¬ (sg34 < (0 : Int32)))).1) (XS.aload X34.here hx rfl (hb hby d11_75) rfl rfl kq)) ?_
  obtain ⟨T36, X36, e36, st36⟩ := getS2 X34 hx hZ hown (host := "") (Or.inl (own_W186 hw)) Via.refl hh34 (S1.ext O0.2) (g := (mkF m 77 #[rv a1, rv sa, iv fa, rv al, iv (2 : Int32), rv el2] [(.ref el2)])) rfl (hb hby d11_77)
  refine own_g T36 (mkF m 80 #[rv a1, rv sa, iv fa, rv al, iv (2 : Int32), rv el2] [(.ref w1), (.ref el2)]) st36 ?_
  obtain ⟨_, T37, L37, X37, ⟨cr37, rfl, Nq37, hh37, hs37⟩, st37⟩ := own_cV X36 hx hZ hown (own_W187 hw) (own_W188 hw) (own_W190 hw) (own_W189 hw) (own_W7 hw) (own_W191 hw) (rmcmpt l Z a0 hw [] el2 w1 cc2 h0 n0 O0 I2 hcc2 Z2 Fi1 Fz1) e36 (B2.ext O0.2) (lenOf pd_Ljava_math_BigDecimal__I_194 rfl) (g := (mkF m 80 #[rv a1, rv sa, iv fa, rv al, iv (2 : Int32), rv el2] [(.ref w1), (.ref el2)])) (argsL := [(.ref w1)]) (rest := []) (W := 0) rfl rfl (hb hby d11_80) (by rw [hml]; rfl) (by show 2 * 0 + _ ≤ _; exact Nat.le_of_eq rfl) rfl (by decide) (by decide) (by decide) (by decide) (by decide)
  have N38 := Fr.app N35 Nq37
  refine own_t T37 (mkF m 83 #[rv a1, rv sa, iv fa, rv al, iv (2 : Int32), rv el2] [(.int cr37)]) st37 ?_
  obtain ⟨LL39, Xp39, Np39⟩ : ∃ LL, Stand p l e (own_R 9 3 10 116) s m #[(.ref a1), (.ref sa), (.int fa), (.ref al)] below meth c T37 LL 0 0 ∧ Fr n0 LL := ⟨_, X37, N38⟩
  refine own_g T37 (mkF m 46 #[rv a1, rv sa, iv fa, rv al, iv (3 : Int32), rv el2] [(.ref al), (.int (3 : Int32))]) (fun _ kq => XS.ifYes X37.here hx rfl (pc0 := 83) (pc' := 108) rfl (hb hby d11_83) rfl ((if0 _ _).trans (flt (hs37 : ¬ ((0 : Int32) < cr37))).2.2.2) (by decide) (by decide) (XS.iinc Xp39.here hx rfl (hb hby d11_108) rfl (l' := #[rv a1, rv sa, iv fa, rv al, iv (3 : Int32), rv el2]) rfl (XS.goto Xp39.here hx rfl (pc0 := 111) (pc' := 43) rfl (hb hby d11_111) (by decide) (by decide) (XS.iload Xp39.here hx rfl (hb hby d11_43) rfl (XS.aloadN Xp39.here hx rfl (hb hby d11_45) rfl rfl kq))))) ?_
  obtain ⟨_, T40, L40, X40, ⟨rfl, Nq40, hh40⟩, st40⟩ := own_cF Xp39 hx hZ hown (own_W144 hw) (own_W145 hw) (mvT hZ (own_W146 hw)) (own_W147 hw) (own_W148 hw) (own_W149 hw) (own_W150 hw) (own_W142 hw) (own_W12 hw) (own_W151 hw) (rmalsize4 l Z a0 hw [] al h0 n0 O0 Fs) hh37 Ea (lenOf pd_I_154 rfl) (g := (mkF m 46 #[rv a1, rv sa, iv fa, rv al, iv (3 : Int32), rv el2] [(.ref al), (.int (3 : Int32))])) (argsL := []) (rest := [(.int (3 : Int32))]) (W := 1) rfl rfl (hb hby d11_46) (by rw [hml]; rfl) (by show 2 * 0 + _ ≤ _; exact Nat.le_of_eq rfl) rfl (by decide) (by decide) (by decide) (by decide) (by decide)
  have N41 := Fr.app Np39 Nq40
  refine own_t T40 (mkF m 51 #[rv a1, rv sa, iv fa, rv al, iv (3 : Int32), rv el2] [(.int (4 : Int32)), (.int (3 : Int32))]) st40 ?_
  refine own_g T40 (mkF m 57 #[rv a1, rv sa, iv fa, rv al, iv (3 : Int32), rv el2] [(.int (3 : Int32)), (.ref al)]) (fun _ kq => XS.icmpNo X40.here hx rfl (hb hby d11_51) rfl (tlt ((by decide) : (3 : Int32) < (4 : Int32))).2.1 (XS.aloadN X40.here hx rfl (hb hby d11_54) rfl rfl (XS.iload X40.here hx rfl (hb hby d11_55) rfl kq))) ?_
  obtain ⟨_, T42, L42, X42, ⟨rfl, Nq42, hh42⟩, st42⟩ := own_cF X40 hx hZ hown (own_W152 hw) (own_W153 hw) (mvT hZ (own_W154 hw)) (own_W155 hw) (own_W156 hw) (own_W157 hw) (own_W158 hw) (own_W142 hw) (own_W12 hw) (own_W159 hw) (rmget3 l Z a0 hw [] al ed el3 kd (.ref el0) (.ref el1) (.ref el2) (4 : Int32) h0 n0 O0 Ea Fs (by decide) Fe Ad) hh40 Ea (lenOf pd_I_Ljava_lang_Object_821 rfl) (g := (mkF m 57 #[rv a1, rv sa, iv fa, rv al, iv (3 : Int32), rv el2] [(.int (3 : Int32)), (.ref al)])) (argsL := [(.int (3 : Int32))]) (rest := []) (W := 0) rfl rfl (hb hby d11_57) (by rw [hml]; rfl) (by show 2 * 0 + _ ≤ _; exact Nat.le_of_eq rfl) rfl (by decide) (by decide) (by decide) (by decide) (by decide)
  have N43 := Fr.app N41 Nq42
  refine own_t T42 (mkF m 62 #[rv a1, rv sa, iv fa, rv al, iv (3 : Int32), rv el2] [(.ref el3)]) st42 ?_
  obtain ⟨T44, X44, e44, st44⟩ := castY X42 hx hZ hown (own_W173 hw) hh42 (Ins.self (B3.ext O0.2)) (g := (mkF m 62 #[rv a1, rv sa, iv fa, rv al, iv (3 : Int32), rv el2] [(.ref el3)])) rfl rfl (hb hby d11_62)
  refine own_g T44 (mkF m 65 #[rv a1, rv sa, iv fa, rv al, iv (3 : Int32), rv el2] [(.ref el3)]) st44 ?_
  refine own_g T44 (mkF m 69 #[rv a1, rv sa, iv fa, rv al, iv (3 : Int32), rv el3] [(.ref el3)]) (fun _ kq => XS.astore X44.here hx rfl (hb hby d11_65) rfl rfl (l' := #[rv a1, rv sa, iv fa, rv al, iv (3 : Int32), rv el3]) rfl (XS.aload X44.here hx rfl (hb hby d11_67) rfl rfl kq)) ?_
  obtain ⟨_, T45, L45, X45, ⟨sg45, rfl, Nq45, hh45, hs45⟩, st45⟩ := own_cV X44 hx hZ hown (own_W174 hw) (own_W175 hw) (own_W177 hw) (own_W176 hw) (own_W7 hw) (own_W178 hw) (rmsgn l Z a0 hw [] el3 cc3 h0 n0 O0 I3 hcc3) e44 (B3.ext O0.2) (lenOf pd_I_154 rfl) (g := (mkF m 69 #[rv a1, rv sa, iv fa, rv al, iv (3 : Int32), rv el3] [(.ref el3)])) (argsL := []) (rest := []) (W := 0) rfl rfl (hb hby d11_69) (by rw [hml]; rfl) (by show 2 * 0 + _ ≤ _; exact Nat.le_of_eq rfl) rfl (by decide) (by decide) (by decide) (by decide) (by decide)
  have N46 := Fr.app N43 Nq45
  refine own_t T45 (mkF m 72 #[rv a1, rv sa, iv fa, rv al, iv (3 : Int32), rv el3] [(.int sg45)]) st45 ?_
  refine own_g T45 (mkF m 77 #[rv a1, rv sa, iv fa, rv al, iv (3 : Int32), rv el3] [(.ref el3)]) (fun _ kq => XS.ifNo X45.here hx rfl (hb hby d11_72) rfl ((if0 _ _).trans (flt (hs45 : ¬ (sg45 < (0 : Int32)))).1) (XS.aload X45.here hx rfl (hb hby d11_75) rfl rfl kq)) ?_
  obtain ⟨T47, X47, e47, st47⟩ := getS2 X45 hx hZ hown (host := "") (Or.inl (own_W186 hw)) Via.refl hh45 (S1.ext O0.2) (g := (mkF m 77 #[rv a1, rv sa, iv fa, rv al, iv (3 : Int32), rv el3] [(.ref el3)])) rfl (hb hby d11_77)
  refine own_g T47 (mkF m 80 #[rv a1, rv sa, iv fa, rv al, iv (3 : Int32), rv el3] [(.ref w1), (.ref el3)]) st47 ?_
  obtain ⟨_, T48, L48, X48, ⟨cr48, rfl, Nq48, hh48, hs48⟩, st48⟩ := own_cV X47 hx hZ hown (own_W187 hw) (own_W188 hw) (own_W190 hw) (own_W189 hw) (own_W7 hw) (own_W191 hw) (rmcmpt l Z a0 hw [] el3 w1 cc3 h0 n0 O0 I3 hcc3 Z3 Fi1 Fz1) e47 (B3.ext O0.2) (lenOf pd_Ljava_math_BigDecimal__I_194 rfl) (g := (mkF m 80 #[rv a1, rv sa, iv fa, rv al, iv (3 : Int32), rv el3] [(.ref w1), (.ref el3)])) (argsL := [(.ref w1)]) (rest := []) (W := 0) rfl rfl (hb hby d11_80) (by rw [hml]; rfl) (by show 2 * 0 + _ ≤ _; exact Nat.le_of_eq rfl) rfl (by decide) (by decide) (by decide) (by decide) (by decide)
  have N49 := Fr.app N46 Nq48
  refine own_t T48 (mkF m 83 #[rv a1, rv sa, iv fa, rv al, iv (3 : Int32), rv el3] [(.int cr48)]) st48 ?_
  refine own_g T48 (mkF m 46 #[rv a1, rv sa, iv fa, rv al, iv (4 : Int32), rv el3] [(.ref al), (.int (4 : Int32))]) (fun _ kq => XS.ifYes X48.here hx rfl (pc0 := 83) (pc' := 108) rfl (hb hby d11_83) rfl ((if0 _ _).trans (flt (hs48 : ¬ ((0 : Int32) < cr48))).2.2.2) (by decide) (by decide) (XS.iinc X48.here hx rfl (hb hby d11_108) rfl (l' := #[rv a1, rv sa, iv fa, rv al, iv (4 : Int32), rv el3]) rfl (XS.goto X48.here hx rfl (pc0 := 111) (pc' := 43) rfl (hb hby d11_111) (by decide) (by decide) (XS.iload X48.here hx rfl (hb hby d11_43) rfl (XS.aloadN X48.here hx rfl (hb hby d11_45) rfl rfl kq))))) ?_
  obtain ⟨_, T50, L50, X50, ⟨rfl, Nq50, hh50⟩, st50⟩ := own_cF X48 hx hZ hown (own_W144 hw) (own_W145 hw) (mvT hZ (own_W146 hw)) (own_W147 hw) (own_W148 hw) (own_W149 hw) (own_W150 hw) (own_W142 hw) (own_W12 hw) (own_W151 hw) (rmalsize4 l Z a0 hw [] al h0 n0 O0 Fs) hh48 Ea (lenOf pd_I_154 rfl) (g := (mkF m 46 #[rv a1, rv sa, iv fa, rv al, iv (4 : Int32), rv el3] [(.ref al), (.int (4 : Int32))])) (argsL := []) (rest := [(.int (4 : Int32))]) (W := 1) rfl rfl (hb hby d11_46) (by rw [hml]; rfl) (by show 2 * 0 + _ ≤ _; exact Nat.le_of_eq rfl) rfl (by decide) (by decide) (by decide) (by decide) (by decide)
  have N51 := Fr.app N49 Nq50
  refine own_t T50 (mkF m 51 #[rv a1, rv sa, iv fa, rv al, iv (4 : Int32), rv el3] [(.int (4 : Int32)), (.int (4 : Int32))]) st50 ?_
  obtain ⟨LL52, Xp52, Np52⟩ : ∃ LL, Stand p l e (own_R 9 3 10 116) s m #[(.ref a1), (.ref sa), (.int fa), (.ref al)] below meth c T50 LL 0 0 ∧ Fr n0 LL := ⟨_, X50, N51⟩
  refine own_g T50 (mkF m 115 #[rv a1, rv sa, iv fa, rv al, iv (4 : Int32), rv el3] [(.ref al)]) (fun _ kq => XS.icmpYes X50.here hx rfl (pc0 := 51) (pc' := 114) rfl (hb hby d11_51) rfl (flt ((by decide) : ¬ ((4 : Int32) < (4 : Int32)))).2.1 (by decide) (by decide) (XS.aloadN Xp52.here hx rfl (hb hby d11_114) rfl rfl kq)) ?_
  obtain ⟨_, T53, L53, X53, ⟨r53, ar53, ka53, rfl, Nq53, Kc53, gr53, szr53, La53, Lb53, Lc_53⟩, st53⟩ := own_cS Xp52 hx hZ hown (own_W194 hw) (own_W195 hw) (own_W196 hw) (own_W197 hw) (rmlco4 l Z a0 hw [] al ed mr we kd el0 el1 el2 el3 h0 n0 O0 Ea Fs Fe Ad Ed Mr Sem B0 B1 B2 B3) hh50 (lenOf pd_Ljava_util_Collection__Ljava_util_List_724 rfl) (g := (mkF m 115 #[rv a1, rv sa, iv fa, rv al, iv (4 : Int32), rv el3] [(.ref al)])) (argsL := [(.ref al)]) (rest := []) (W := 0) rfl rfl (hb hby d11_115) (by rw [hml]; rfl) (by show 2 * 0 + _ ≤ _; exact Nat.le_of_eq rfl) rfl (by decide) (by decide) (by decide) (by decide) (by decide)
  have N54 := Fr.app Np52 Nq53
  have sz_r53 : h0.size ≤ r53 := Nat.le_trans (Keep.refl h0 [a1]).1 szr53
  have ne_a1_r53 : a1 ≠ r53 := Nat.ne_of_lt (Nat.lt_of_lt_of_le Em.lt szr53)
  have ne_sa_r53 : sa ≠ r53 := Nat.ne_of_lt (Nat.lt_of_lt_of_le Es.lt szr53)
  have ne_bv_r53 : bv ≠ r53 := Nat.ne_of_lt (Nat.lt_of_lt_of_le Av.lt szr53)
  have ne_al_r53 : al ≠ r53 := Nat.ne_of_lt (Nat.lt_of_lt_of_le Ea.lt szr53)
  have ne_ed_r53 : ed ≠ r53 := Nat.ne_of_lt (Nat.lt_of_lt_of_le Ad.lt szr53)
  have ne_el0_r53 : el0 ≠ r53 := Nat.ne_of_lt (Nat.lt_of_lt_of_le (B0.ext O0.2).lt szr53)
  have ne_el1_r53 : el1 ≠ r53 := Nat.ne_of_lt (Nat.lt_of_lt_of_le (B1.ext O0.2).lt szr53)
  have ne_el2_r53 : el2 ≠ r53 := Nat.ne_of_lt (Nat.lt_of_lt_of_le (B2.ext O0.2).lt szr53)
  have ne_el3_r53 : el3 ≠ r53 := Nat.ne_of_lt (Nat.lt_of_lt_of_le (B3.ext O0.2).lt szr53)
  refine own_t T53 (mkF m 118 #[rv a1, rv sa, iv fa, rv al, iv (4 : Int32), rv el3] [(.ref r53)]) st53 ?_
  have f55 := (Em.keep Kc53)
  have ne_ar : ar53 ≠ a1 := (ne_arr f55 (own_W68 hw) (id Lc_53).choose_spec.1).symm
  refine own_g T53 (mkF m 121 #[rv a1, rv sa, iv fa, rv r53, iv (4 : Int32), rv el3] [(.ref sa), (.ref a1)]) (fun _ kq => XS.astoreN X53.here hx rfl (hb hby d11_118) rfl rfl (l' := #[rv a1, rv sa, iv fa, rv r53, iv (4 : Int32), rv el3]) rfl (XS.aloadN X53.here hx rfl (hb hby d11_119) rfl rfl (XS.aloadN X53.here hx rfl (hb hby d11_120) rfl rfl kq))) ?_
  have f56 := (G0.keep Kc53 nin0)
  obtain ⟨T57, h57, X57, e57, W57, st57⟩ := putF X53 hx hZ hown (host := "") (Or.inl (own_W277 hw)) Via.refl rfl f56 f55 (Or.inr ⟨(own_W278 hw), rfl, hnm⟩) (own_W68 hw) (ty := (.object "java/lang/String")) (by decide) rfl rfl (g := (mkF m 121 #[rv a1, rv sa, iv fa, rv r53, iv (4 : Int32), rv el3] [(.ref sa), (.ref a1)])) rfl rfl (hb hby d11_121)
  have Fw57 := Fld.same W57 f56
  have N58 := Fr.snoc X57 N54 ga
  refine own_g T57 (mkF m 124 #[rv a1, rv sa, iv fa, rv r53, iv (4 : Int32), rv el3] []) st57 ?_
  refine own_g T57 (mkF m 126 #[rv a1, rv sa, iv fa, rv r53, iv (4 : Int32), rv el3] [(.int fa), (.ref a1)]) (fun _ kq => XS.aloadN X57.here hx rfl (hb hby d11_124) rfl rfl (XS.iloadN X57.here hx rfl (hb hby d11_125) rfl kq)) ?_
  have f59 := (f55.wr W57)
  have f60 := ((G1.keep Kc53 nin0).other W57 (Or.inr (slot_ne (Or.inr (own_W280 hw)) (Or.inr (own_W278 hw)) (by decide) (t := .int) (t' := (.object "java/lang/String")) (by decide) (by decide))))
  obtain ⟨T61, h61, X61, e61, W61, st61⟩ := putF X57 hx hZ hown (host := "") (Or.inl (own_W279 hw)) Via.refl e57 f60 f59 (Or.inr ⟨(own_W280 hw), rfl, hnm⟩) (own_W68 hw) (ty := .int) (by decide) rfl rfl (g := (mkF m 126 #[rv a1, rv sa, iv fa, rv r53, iv (4 : Int32), rv el3] [(.int fa), (.ref a1)])) rfl rfl (hb hby d11_126)
  have Fw61 := Fld.same W61 f60
  have N62 := Fr.snoc X61 N58 ga
  refine own_g T61 (mkF m 129 #[rv a1, rv sa, iv fa, rv r53, iv (4 : Int32), rv el3] []) st61 ?_
  refine own_g T61 (mkF m 131 #[rv a1, rv sa, iv fa, rv r53, iv (4 : Int32), rv el3] [(.ref r53), (.ref a1)]) (fun _ kq => XS.aloadN X61.here hx rfl (hb hby d11_129) rfl rfl (XS.aloadN X61.here hx rfl (hb hby d11_130) rfl rfl kq)) ?_
  have f63 := (f59.wr W61)
  have f64 := (((G2.keep Kc53 nin0).other W57 (Or.inr (slot_ne (Or.inr (own_W282 hw)) (Or.inr (own_W278 hw)) (by decide) (t := (.object "java/util/List")) (t' := (.object "java/lang/String")) (by decide) (by decide)))).other W61 (Or.inr (slot_ne (Or.inr (own_W282 hw)) (Or.inr (own_W280 hw)) (by decide) (t := (.object "java/util/List")) (t' := .int) (by decide) (by decide))))
  obtain ⟨T65, h65, X65, e65, W65, st65⟩ := putF X61 hx hZ hown (host := "") (Or.inl (own_W281 hw)) Via.refl e61 f64 f63 (Or.inr ⟨(own_W282 hw), rfl, hnm⟩) (own_W68 hw) (ty := (.object "java/util/List")) (by decide) rfl rfl (g := (mkF m 131 #[rv a1, rv sa, iv fa, rv r53, iv (4 : Int32), rv el3] [(.ref r53), (.ref a1)])) rfl rfl (hb hby d11_131)
  have Fw65 := Fld.same W65 f64
  have N66 := Fr.snoc X65 N62 ga
  refine own_g T65 (mkF m 134 #[rv a1, rv sa, iv fa, rv r53, iv (4 : Int32), rv el3] []) st65 ?_
  have K67 : Keep h0 _ [a1] := (((((Keep.refl h0 [a1]).trans Kc53 all0).wr W57 (Or.inl (List.mem_of_getElem? (i := 0) rfl))).wr W61 (Or.inl (List.mem_of_getElem? (i := 0) rfl))).wr W65 (Or.inl (List.mem_of_getElem? (i := 0) rfl)))
  have f68 := (Fw61.other W65 (Or.inr (slot_ne (Or.inr (own_W280 hw)) (Or.inr (own_W282 hw)) (by decide) (t := .int) (t' := (.object "java/util/List")) (by decide) (by decide))))
  have f69 := (((La53.wr W57).wr W61).wr W65)
  have f70 := (((Lb53.other W57 (Or.inl (Ne.symm ne_a1_r53))).other W61 (Or.inl (Ne.symm ne_a1_r53))).other W65 (Or.inl (Ne.symm ne_a1_r53)))
  have f71 := (((Lc_53.other W57 ne_ar).other W61 ne_ar).other W65 ne_ar)
  refine own_out X65 Bd.notSynchronized (v := none) (fun _ => rfl) (fun fs hr => X65.returnOut hx Bd.returns (hb hby d11_134) hr) ?_ (by decide) (by decide)
  rw [e65]
  exact ⟨_, _, _, rfl, N66, K67, gr53, szr53, f68, Fw65, f69, f70, f71⟩
theorem d48_0 : decode jdk_44_method_3_code 0 = .ok (.aload_n 0, 1) := by decide +kernel
theorem d48_1 : decode jdk_44_method_3_code 1 = .ok (.getfield 24, 3) := by decide +kernel
theorem d48_4 : decode jdk_44_method_3_code 4 = .ok (.getstatic 19, 3) := by decide +kernel
theorem d48_7 : decode jdk_44_method_3_code 7 = .ok (.if_acmp .eq 7, 3) := by decide +kernel
theorem d48_14 : decode jdk_44_method_3_code 14 = .ok (.iconst 1, 1) := by decide +kernel
theorem d48_15 : decode jdk_44_method_3_code 15 = .ok (.ireturn, 1) := by decide +kernel
theorem ef_lsz1 (m : MethodId) (x0 : Addr) : entryFrame m #[(.ref x0)] 1 = mkF m 0 #[.val (.ref x0)] [] := by first | (simp [entryFrame, mkF, argsToLocals, Value.category]; done) | rfl
def Qlsz1 (Z : State) (r we : Addr) (el0 : Addr) (h0 : Heap) (n0 : Nat) (v : Option Value) (h : Heap) (L : List Loc) : Prop := v = some (.int (1 : Int32)) ∧ Fr n0 L ∧ h = h0
set_option maxRecDepth 65536 in
set_option maxHeartbeats 40000000 in
theorem rmlsz1 (l : Launch) (Z : State) (a0 : Array Value) (hw : own_H a0 Z) (ws : List Jvm.Cond) (r we : Addr) (el0 : Addr) (h0 : Heap) (n0 : Nat) (O0 : Old Z n0 h0) (La : Exa Z h0 r "java/util/ImmutableCollections$List12") (Lb : Fld Z h0 r "java/util/ImmutableCollections$List12" "e0" "Ljava/lang/Object;" (.ref el0)) (Lc : Fld Z h0 r "java/util/ImmutableCollections$List12" "e1" "Ljava/lang/Object;" (.ref we)) (Sem : Sta Z Z.heap "java/util/ImmutableCollections" "EMPTY" "Ljava/lang/Object;" (.ref we)) (Eem : Exa Z Z.heap we "java/lang/Object") (B0 : Exa Z Z.heap el0 "java/math/BigDecimal") :
    own_M l (⟨"java/util/ImmutableCollections$List12", "size", "()I"⟩ : MethodName) jdk_44_method_3_code 1 (some .int) ws (own_R 0 0 0 0) Z #[(.ref r)] h0 (Qlsz1 Z r we el0 h0 n0) := by
  refine own_body (plainFor_of_name pn_java_util_ImmutableCollections_List12) (fun m => ef_lsz1 m r) ?_
  intro p e s m below meth c s₁ Bd hx hby hml hown hnm X0 e0 hZ
  have N0 := Fr.nil n0
  refine own_g s₁ (mkF m 1 #[rv r] [(.ref r)]) (fun _ kq => XS.aloadN X0.here hx rfl (hb hby d48_0) rfl rfl kq) ?_
  obtain ⟨T1, X1, e1, st1⟩ := getF X0 hx hZ hown (host := "") (Or.inl (own_W321 hw)) Via.refl e0 Lc (g := (mkF m 1 #[rv r] [(.ref r)])) rfl rfl (hb hby d48_1)
  refine own_g T1 (mkF m 4 #[rv r] [(.ref we)]) st1 ?_
  obtain ⟨T2, X2, e2, st2⟩ := getS2 X1 hx hZ hown (Or.inr (own_W320 hw)) Via.refl e1 (Sem.ext O0.2) (g := (mkF m 4 #[rv r] [(.ref we)])) rfl (hb hby d48_4)
  refine own_g T2 (mkF m 7 #[rv r] [(.ref we), (.ref we)]) st2 ?_
  refine own_g T2 (mkF m 15 #[rv r] [(.int (1 : Int32))]) (fun _ kq => Jvm.RoadKit.acmp (g := (mkF m 7 #[rv r] [(.ref we), (.ref we)])) X2 hx rfl rfl rfl (pc0 := 7) (pc' := 14) (same := true) rfl (hb hby d48_7) rfl (decide_eq_true rfl) (by decide) (by decide) (XS.iconst X2.here hx rfl (hb hby d48_14) kq)) ?_
  refine own_out X2 Bd.notSynchronized (v := (some (.int (1 : Int32)))) (fun h => by rw [Bd.returns] at h; cases h) (fun fs hr => own_retI X2 hx Bd.returns (hb hby d48_15) hr) ?_ (by decide) (by decide)
  rw [e2]
  exact ⟨rfl, N0, rfl⟩
theorem d49_0 : decode jdk_44_method_5_code 0 = .ok (.iload_n 1, 1) := by decide +kernel
theorem d49_1 : decode jdk_44_method_5_code 1 = .ok (.ifCond .ne 8, 3) := by decide +kernel
theorem d49_4 : decode jdk_44_method_5_code 4 = .ok (.aload_n 0, 1) := by decide +kernel
theorem d49_5 : decode jdk_44_method_5_code 5 = .ok (.getfield 13, 3) := by decide +kernel
theorem d49_8 : decode jdk_44_method_5_code 8 = .ok (.areturn, 1) := by decide +kernel
theorem ef_lget10 (m : MethodId) (x0 : Addr) (x1 : Int32) : entryFrame m #[(.ref x0), (.int x1)] 2 = mkF m 0 #[.val (.ref x0), .val (.int x1)] [] := by first | (simp [entryFrame, mkF, argsToLocals, Value.category]; done) | rfl
def Qlget10 (Z : State) (r we : Addr) (el0 : Addr) (h0 : Heap) (n0 : Nat) (v : Option Value) (h : Heap) (L : List Loc) : Prop := v = some (.ref el0) ∧ Fr n0 L ∧ h = h0
set_option maxRecDepth 65536 in
set_option maxHeartbeats 40000000 in
theorem rmlget10 (l : Launch) (Z : State) (a0 : Array Value) (hw : own_H a0 Z) (ws : List Jvm.Cond) (r we : Addr) (el0 : Addr) (h0 : Heap) (n0 : Nat) (O0 : Old Z n0 h0) (La : Exa Z h0 r "java/util/ImmutableCollections$List12") (Lb : Fld Z h0 r "java/util/ImmutableCollections$List12" "e0" "Ljava/lang/Object;" (.ref el0)) (Lc : Fld Z h0 r "java/util/ImmutableCollections$List12" "e1" "Ljava/lang/Object;" (.ref we)) (Sem : Sta Z Z.heap "java/util/ImmutableCollections" "EMPTY" "Ljava/lang/Object;" (.ref we)) (Eem : Exa Z Z.heap we "java/lang/Object") (B0 : Exa Z Z.heap el0 "java/math/BigDecimal") :
    own_M l (⟨"java/util/ImmutableCollections$List12", "get", "(I)Ljava/lang/Object;"⟩ : MethodName) jdk_44_method_5_code 2 (some (.object "java/lang/Object")) ws (own_R 0 0 0 0) Z #[(.ref r), (.int (0 : Int32))] h0 (Qlget10 Z r we el0 h0 n0) := by
  refine own_body (plainFor_of_name pn_java_util_ImmutableCollections_List12) (fun m => ef_lget10 m r (0 : Int32)) ?_
  intro p e s m below meth c s₁ Bd hx hby hml hown hnm X0 e0 hZ
  have N0 := Fr.nil n0
  refine own_g s₁ (mkF m 5 #[rv r, iv (0 : Int32)] [(.ref r)]) (fun _ kq => XS.iloadN X0.here hx rfl (hb hby d49_0) rfl (XS.ifNo X0.here hx rfl (hb hby d49_1) rfl ((if0 _ _).trans (teq ((by decide) : (0 : Int32) = (0 : Int32))).2) (XS.aloadN X0.here hx rfl (hb hby d49_4) rfl rfl kq))) ?_
  obtain ⟨T1, X1, e1, st1⟩ := getF X0 hx hZ hown (host := "") (Or.inl (own_W318 hw)) Via.refl e0 Lb (g := (mkF m 5 #[rv r, iv (0 : Int32)] [(.ref r)])) rfl rfl (hb hby d49_5)
  refine own_g T1 (mkF m 8 #[rv r, iv (0 : Int32)] [(.ref el0)]) st1 ?_
  refine own_out X1 Bd.notSynchronized (v := (some (.ref el0))) (fun h => by rw [Bd.returns] at h; cases h) (fun fs hr => own_retA X1 hx Bd.returns rfl rfl rfl (hb hby d49_8) hr) ?_ (by decide) (by decide)
  rw [e1]
  exact ⟨rfl, N0, rfl⟩
theorem d43_0 : decode prog_35_method_2_code 0 = .ok (.aload_n 0, 1) := by decide +kernel
theorem d43_1 : decode prog_35_method_2_code 1 = .ok (.getfield 66, 3) := by decide +kernel
theorem d43_4 : decode prog_35_method_2_code 4 = .ok (.aload_n 0, 1) := by decide +kernel
theorem d43_5 : decode prog_35_method_2_code 5 = .ok (.getfield 70, 3) := by decide +kernel
theorem d43_8 : decode prog_35_method_2_code 8 = .ok (.invokeinterface 27 1, 5) := by decide +kernel
def own_W328 {a0 Z} (hw : own_H a0 Z) := hw _ (List.mem_of_getElem? (i := 328) rfl)
def own_W323 {a0 Z} (hw : own_H a0 Z) := hw _ (List.mem_of_getElem? (i := 323) rfl)
def own_W324 {a0 Z} (hw : own_H a0 Z) := hw _ (List.mem_of_getElem? (i := 324) rfl)
def own_W325 {a0 Z} (hw : own_H a0 Z) := hw _ (List.mem_of_getElem? (i := 325) rfl)
def own_W326 {a0 Z} (hw : own_H a0 Z) := hw _ (List.mem_of_getElem? (i := 326) rfl)
def own_W327 {a0 Z} (hw : own_H a0 Z) := hw _ (List.mem_of_getElem? (i := 327) rfl)
theorem d43_13 : decode prog_35_method_2_code 13 = .ok (.iadd, 1) := by decide +kernel
theorem d43_14 : decode prog_35_method_2_code 14 = .ok (.iconst 1, 1) := by decide +kernel
theorem d43_15 : decode prog_35_method_2_code 15 = .ok (.isub, 1) := by decide +kernel
theorem d43_16 : decode prog_35_method_2_code 16 = .ok (.ireturn, 1) := by decide +kernel
theorem ef_last1 (m : MethodId) (x0 : Addr) : entryFrame m #[(.ref x0)] 1 = mkF m 0 #[.val (.ref x0)] [] := by first | (simp [entryFrame, mkF, argsToLocals, Value.category]; done) | rfl
def Qlast1 (Z : State) (t : Addr) (fa : Int32) (r we : Addr) (el0 : Addr) (h0 : Heap) (n0 : Nat) (v : Option Value) (h : Heap) (L : List Loc) : Prop := v = some (.int ((fa + (1 : Int32)) - (1 : Int32))) ∧ Fr n0 L ∧ h = h0
set_option maxRecDepth 65536 in
set_option maxHeartbeats 40000000 in
theorem rmlast1 (l : Launch) (Z : State) (a0 : Array Value) (hw : own_H a0 Z) (ws : List Jvm.Cond) (t : Addr) (fa : Int32) (r we : Addr) (el0 : Addr) (h0 : Heap) (n0 : Nat) (O0 : Old Z n0 h0) (Em : Exa Z h0 t "com/example/restoria/restoria/mortality/MortalityTable") (G1 : Fld Z h0 t "com/example/restoria/restoria/mortality/MortalityTable" "firstAge" "I" (.int fa)) (G2 : Fld Z h0 t "com/example/restoria/restoria/mortality/MortalityTable" "rates" "Ljava/util/List;" (.ref r)) (La : Exa Z h0 r "java/util/ImmutableCollections$List12") (Lb : Fld Z h0 r "java/util/ImmutableCollections$List12" "e0" "Ljava/lang/Object;" (.ref el0)) (Lc : Fld Z h0 r "java/util/ImmutableCollections$List12" "e1" "Ljava/lang/Object;" (.ref we)) (Sem : Sta Z Z.heap "java/util/ImmutableCollections" "EMPTY" "Ljava/lang/Object;" (.ref we)) (Eem : Exa Z Z.heap we "java/lang/Object") (B0 : Exa Z Z.heap el0 "java/math/BigDecimal") :
    own_M l (⟨"com/example/restoria/restoria/mortality/MortalityTable", "lastAge", "()I"⟩ : MethodName) prog_35_method_2_code 1 (some .int) ws (own_R 1 0 0 13) Z #[(.ref t)] h0 (Qlast1 Z t fa r we el0 h0 n0) := by
  refine own_body (plainFor_of_name pn_com_example_restoria_restoria_mortality_MortalityTable) (fun m => ef_last1 m t) ?_
  intro p e s m below meth c s₁ Bd hx hby hml hown hnm X0 e0 hZ
  have N0 := Fr.nil n0
  refine own_g s₁ (mkF m 1 #[rv t] [(.ref t)]) (fun _ kq => XS.aloadN X0.here hx rfl (hb hby d43_0) rfl rfl kq) ?_
  obtain ⟨T1, X1, e1, st1⟩ := getF X0 hx hZ hown (host := "") (Or.inl (own_W279 hw)) Via.refl e0 G1 (g := (mkF m 1 #[rv t] [(.ref t)])) rfl rfl (hb hby d43_1)
  refine own_g T1 (mkF m 4 #[rv t] [(.int fa)]) st1 ?_
  refine own_g T1 (mkF m 5 #[rv t] [(.ref t), (.int fa)]) (fun _ kq => XS.aloadN X1.here hx rfl (hb hby d43_4) rfl rfl kq) ?_
  obtain ⟨T2, X2, e2, st2⟩ := getF X1 hx hZ hown (host := "") (Or.inl (own_W281 hw)) Via.refl e1 G2 (g := (mkF m 5 #[rv t] [(.ref t), (.int fa)])) rfl rfl (hb hby d43_5)
  refine own_g T2 (mkF m 8 #[rv t] [(.ref r), (.int fa)]) st2 ?_
  obtain ⟨_, T3, L3, X3, ⟨rfl, Nq3, hh3⟩, st3⟩ := own_cF X2 hx hZ hown (own_W144 hw) (own_W145 hw) (mvT hZ (own_W146 hw)) (own_W323 hw) (own_W324 hw) (own_W325 hw) (own_W326 hw) (own_W327 hw) (own_W308 hw) (own_W328 hw) (rmlsz1 l Z a0 hw [] r we el0 h0 n0 O0 La Lb Lc Sem Eem B0) e2 La (lenOf pd_I_154 rfl) (g := (mkF m 8 #[rv t] [(.ref r), (.int fa)])) (argsL := []) (rest := [(.int fa)]) (W := 1) rfl rfl (hb hby d43_8) (by rw [hml]; rfl) (by show 2 * 0 + _ ≤ _; exact Nat.le_of_eq rfl) rfl (by decide) (by decide) (by decide) (by decide) (by decide)
  have N4 := Fr.app N0 Nq3
  refine own_t T3 (mkF m 13 #[rv t] [(.int (1 : Int32)), (.int fa)]) st3 ?_
  refine own_g T3 (mkF m 16 #[rv t] [(.int ((fa + (1 : Int32)) - (1 : Int32)))]) (fun _ kq => XS.iadd X3.here hx rfl (hb hby d43_13) rfl (XS.iconst X3.here hx rfl (hb hby d43_14) (XS.isub X3.here hx rfl (hb hby d43_15) rfl kq))) ?_
  refine own_out X3 Bd.notSynchronized (v := (some (.int ((fa + (1 : Int32)) - (1 : Int32))))) (fun h => by rw [Bd.returns] at h; cases h) (fun fs hr => own_retI X3 hx Bd.returns (hb hby d43_16) hr) ?_ (by decide) (by decide)
  rw [hh3]
  exact ⟨rfl, N4, rfl⟩
theorem d45_0 : decode prog_35_method_4_code 0 = .ok (.iload_n 1, 1) := by decide +kernel
theorem d45_1 : decode prog_35_method_4_code 1 = .ok (.aload_n 0, 1) := by decide +kernel
theorem d45_2 : decode prog_35_method_4_code 2 = .ok (.invokevirtual 74, 3) := by decide +kernel
def own_W287 {a0 Z} (hw : own_H a0 Z) := hw _ (List.mem_of_getElem? (i := 287) rfl)
def own_W300 {a0 Z} (hw : own_H a0 Z) := hw _ (List.mem_of_getElem? (i := 300) rfl)
def own_W69 {a0 Z} (hw : own_H a0 Z) := hw _ (List.mem_of_getElem? (i := 69) rfl)
def own_W284 {a0 Z} (hw : own_H a0 Z) := hw _ (List.mem_of_getElem? (i := 284) rfl)
def own_W286 {a0 Z} (hw : own_H a0 Z) := hw _ (List.mem_of_getElem? (i := 286) rfl)
def own_W285 {a0 Z} (hw : own_H a0 Z) := hw _ (List.mem_of_getElem? (i := 285) rfl)
theorem d45_5 : decode prog_35_method_4_code 5 = .ok (.iconst 1, 1) := by decide +kernel
theorem d45_6 : decode prog_35_method_4_code 6 = .ok (.iadd, 1) := by decide +kernel
theorem d45_7 : decode prog_35_method_4_code 7 = .ok (.if_icmp .ne 7, 3) := by decide +kernel
theorem d45_14 : decode prog_35_method_4_code 14 = .ok (.iload_n 1, 1) := by decide +kernel
theorem d45_15 : decode prog_35_method_4_code 15 = .ok (.aload_n 0, 1) := by decide +kernel
theorem d45_16 : decode prog_35_method_4_code 16 = .ok (.getfield 66, 3) := by decide +kernel
theorem d45_19 : decode prog_35_method_4_code 19 = .ok (.if_icmp .lt 11, 3) := by decide +kernel
theorem d45_22 : decode prog_35_method_4_code 22 = .ok (.iload_n 1, 1) := by decide +kernel
theorem d45_23 : decode prog_35_method_4_code 23 = .ok (.aload_n 0, 1) := by decide +kernel
theorem d45_24 : decode prog_35_method_4_code 24 = .ok (.invokevirtual 74, 3) := by decide +kernel
theorem d45_27 : decode prog_35_method_4_code 27 = .ok (.if_icmp .le 29, 3) := by decide +kernel
theorem d45_56 : decode prog_35_method_4_code 56 = .ok (.aload_n 0, 1) := by decide +kernel
theorem d45_57 : decode prog_35_method_4_code 57 = .ok (.getfield 70, 3) := by decide +kernel
theorem d45_60 : decode prog_35_method_4_code 60 = .ok (.iload_n 1, 1) := by decide +kernel
theorem d45_61 : decode prog_35_method_4_code 61 = .ok (.aload_n 0, 1) := by decide +kernel
theorem d45_62 : decode prog_35_method_4_code 62 = .ok (.getfield 66, 3) := by decide +kernel
theorem d45_65 : decode prog_35_method_4_code 65 = .ok (.isub, 1) := by decide +kernel
theorem d45_66 : decode prog_35_method_4_code 66 = .ok (.invokeinterface 31 2, 5) := by decide +kernel
def own_W333 {a0 Z} (hw : own_H a0 Z) := hw _ (List.mem_of_getElem? (i := 333) rfl)
def own_W329 {a0 Z} (hw : own_H a0 Z) := hw _ (List.mem_of_getElem? (i := 329) rfl)
def own_W330 {a0 Z} (hw : own_H a0 Z) := hw _ (List.mem_of_getElem? (i := 330) rfl)
def own_W331 {a0 Z} (hw : own_H a0 Z) := hw _ (List.mem_of_getElem? (i := 331) rfl)
def own_W332 {a0 Z} (hw : own_H a0 Z) := hw _ (List.mem_of_getElem? (i := 332) rfl)
theorem d45_71 : decode prog_35_method_4_code 71 = .ok (.checkcast 35, 3) := by decide +kernel
theorem d45_74 : decode prog_35_method_4_code 74 = .ok (.areturn, 1) := by decide +kernel
theorem ef_rod10 (m : MethodId) (x0 : Addr) (x1 : Int32) : entryFrame m #[(.ref x0), (.int x1)] 2 = mkF m 0 #[.val (.ref x0), .val (.int x1)] [] := by first | (simp [entryFrame, mkF, argsToLocals, Value.category]; done) | rfl
def Qrod10 (Z : State) (t : Addr) (fa : Int32) (r we : Addr) (el0 : Addr) (ag : Int32) (h0 : Heap) (n0 : Nat) (v : Option Value) (h : Heap) (L : List Loc) : Prop := v = some (.ref el0) ∧ Fr n0 L ∧ h = h0
set_option maxRecDepth 65536 in
set_option maxHeartbeats 40000000 in
theorem rmrod10 (l : Launch) (Z : State) (a0 : Array Value) (hw : own_H a0 Z) (ws : List Jvm.Cond) (t : Addr) (fa : Int32) (r we : Addr) (el0 : Addr) (ag : Int32) (h0 : Heap) (n0 : Nat) (O0 : Old Z n0 h0) (Em : Exa Z h0 t "com/example/restoria/restoria/mortality/MortalityTable") (G1 : Fld Z h0 t "com/example/restoria/restoria/mortality/MortalityTable" "firstAge" "I" (.int fa)) (G2 : Fld Z h0 t "com/example/restoria/restoria/mortality/MortalityTable" "rates" "Ljava/util/List;" (.ref r)) (La : Exa Z h0 r "java/util/ImmutableCollections$List12") (Lb : Fld Z h0 r "java/util/ImmutableCollections$List12" "e0" "Ljava/lang/Object;" (.ref el0)) (Lc : Fld Z h0 r "java/util/ImmutableCollections$List12" "e1" "Ljava/lang/Object;" (.ref we)) (Sem : Sta Z Z.heap "java/util/ImmutableCollections" "EMPTY" "Ljava/lang/Object;" (.ref we)) (Eem : Exa Z Z.heap we "java/lang/Object") (B0 : Exa Z Z.heap el0 "java/math/BigDecimal") (q1 : ¬ (ag = (((fa + (1 : Int32)) - (1 : Int32)) + (1 : Int32)))) (q2 : ¬ (ag < fa)) (q3 : ¬ (((fa + (1 : Int32)) - (1 : Int32)) < ag)) (q4 : (ag - fa) = (0 : Int32)) :
    own_M l (⟨"com/example/restoria/restoria/mortality/MortalityTable", "rateOfDeath", "(I)Ljava/math/BigDecimal;"⟩ : MethodName) prog_35_method_4_code 2 (some (.object "java/math/BigDecimal")) ws (own_R 2 0 0 26) Z #[(.ref t), (.int ag)] h0 (Qrod10 Z t fa r we el0 ag h0 n0) := by
  refine own_body (plainFor_of_name pn_com_example_restoria_restoria_mortality_MortalityTable) (fun m => ef_rod10 m t ag) ?_
  intro p e s m below meth c s₁ Bd hx hby hml hown hnm X0 e0 hZ
  have N0 := Fr.nil n0
  refine own_g s₁ (mkF m 2 #[rv t, iv ag] [(.ref t), (.int ag)]) (fun _ kq => XS.iloadN X0.here hx rfl (hb hby d45_0) rfl (XS.aloadN X0.here hx rfl (hb hby d45_1) rfl rfl kq)) ?_
  obtain ⟨_, T1, L1, X1, ⟨rfl, Nq1, hh1⟩, st1⟩ := own_cV X0 hx hZ hown (own_W300 hw) (own_W284 hw) (own_W286 hw) (own_W285 hw) (own_W69 hw) (own_W287 hw) (rmlast1 l Z a0 hw [] t fa r we el0 h0 n0 O0 Em G1 G2 La Lb Lc Sem Eem B0) e0 Em (lenOf pd_I_154 rfl) (g := (mkF m 2 #[rv t, iv ag] [(.ref t), (.int ag)])) (argsL := []) (rest := [(.int ag)]) (W := 1) rfl rfl (hb hby d45_2) (by rw [hml]; rfl) (by show 2 * 0 + _ ≤ _; exact Nat.le_of_eq rfl) rfl (by decide) (by decide) (by decide) (by decide) (by decide)
  have N2 := Fr.app N0 Nq1
  refine own_t T1 (mkF m 5 #[rv t, iv ag] [(.int ((fa + (1 : Int32)) - (1 : Int32))), (.int ag)]) st1 ?_
  refine own_g T1 (mkF m 16 #[rv t, iv ag] [(.ref t), (.int ag)]) (fun _ kq => XS.iconst X1.here hx rfl (hb hby d45_5) (XS.iadd X1.here hx rfl (hb hby d45_6) rfl (XS.icmpYes X1.here hx rfl (pc0 := 7) (pc' := 14) rfl (hb hby d45_7) rfl (feq (q1 : ¬ (ag = (((fa + (1 : Int32)) - (1 : Int32)) + (1 : Int32))))).2 (by decide) (by decide) (XS.iloadN X1.here hx rfl (hb hby d45_14) rfl (XS.aloadN X1.here hx rfl (hb hby d45_15) rfl rfl kq))))) ?_
  obtain ⟨T3, X3, e3, st3⟩ := getF X1 hx hZ hown (host := "") (Or.inl (own_W279 hw)) Via.refl hh1 G1 (g := (mkF m 16 #[rv t, iv ag] [(.ref t), (.int ag)])) rfl rfl (hb hby d45_16)
  refine own_g T3 (mkF m 19 #[rv t, iv ag] [(.int fa), (.int ag)]) st3 ?_
  refine own_g T3 (mkF m 24 #[rv t, iv ag] [(.ref t), (.int ag)]) (fun _ kq => XS.icmpNo X3.here hx rfl (hb hby d45_19) rfl (flt (q2 : ¬ (ag < fa))).1 (XS.iloadN X3.here hx rfl (hb hby d45_22) rfl (XS.aloadN X3.here hx rfl (hb hby d45_23) rfl rfl kq))) ?_
  obtain ⟨_, T4, L4, X4, ⟨rfl, Nq4, hh4⟩, st4⟩ := own_cV X3 hx hZ hown (own_W300 hw) (own_W284 hw) (own_W286 hw) (own_W285 hw) (own_W69 hw) (own_W287 hw) (rmlast1 l Z a0 hw [] t fa r we el0 h0 n0 O0 Em G1 G2 La Lb Lc Sem Eem B0) e3 Em (lenOf pd_I_154 rfl) (g := (mkF m 24 #[rv t, iv ag] [(.ref t), (.int ag)])) (argsL := []) (rest := [(.int ag)]) (W := 1) rfl rfl (hb hby d45_24) (by rw [hml]; rfl) (by show 2 * 0 + _ ≤ _; exact Nat.le_of_eq rfl) rfl (by decide) (by decide) (by decide) (by decide) (by decide)
  have N5 := Fr.app N2 Nq4
  refine own_t T4 (mkF m 27 #[rv t, iv ag] [(.int ((fa + (1 : Int32)) - (1 : Int32))), (.int ag)]) st4 ?_
  refine own_g T4 (mkF m 57 #[rv t, iv ag] [(.ref t)]) (fun _ kq => XS.icmpYes X4.here hx rfl (pc0 := 27) (pc' := 56) rfl (hb hby d45_27) rfl (flt (q3 : ¬ (((fa + (1 : Int32)) - (1 : Int32)) < ag))).2.2.2 (by decide) (by decide) (XS.aloadN X4.here hx rfl (hb hby d45_56) rfl rfl kq)) ?_
  obtain ⟨T6, X6, e6, st6⟩ := getF X4 hx hZ hown (host := "") (Or.inl (own_W281 hw)) Via.refl hh4 G2 (g := (mkF m 57 #[rv t, iv ag] [(.ref t)])) rfl rfl (hb hby d45_57)
  refine own_g T6 (mkF m 60 #[rv t, iv ag] [(.ref r)]) st6 ?_
  refine own_g T6 (mkF m 62 #[rv t, iv ag] [(.ref t), (.int ag), (.ref r)]) (fun _ kq => XS.iloadN X6.here hx rfl (hb hby d45_60) rfl (XS.aloadN X6.here hx rfl (hb hby d45_61) rfl rfl kq)) ?_
  obtain ⟨T7, X7, e7, st7⟩ := getF X6 hx hZ hown (host := "") (Or.inl (own_W279 hw)) Via.refl e6 G1 (g := (mkF m 62 #[rv t, iv ag] [(.ref t), (.int ag), (.ref r)])) rfl rfl (hb hby d45_62)
  refine own_g T7 (mkF m 65 #[rv t, iv ag] [(.int fa), (.int ag), (.ref r)]) st7 ?_
  refine own_g T7 (mkF m 66 #[rv t, iv ag] [(.int (ag - fa)), (.ref r)]) (fun _ kq => XS.isub X7.here hx rfl (hb hby d45_65) rfl kq) ?_
  rw [q4]
  obtain ⟨_, T8, L8, X8, ⟨rfl, Nq8, hh8⟩, st8⟩ := own_cF X7 hx hZ hown (own_W152 hw) (own_W153 hw) (mvT hZ (own_W154 hw)) (own_W329 hw) (own_W330 hw) (own_W331 hw) (own_W332 hw) (own_W327 hw) (own_W308 hw) (own_W333 hw) (rmlget10 l Z a0 hw [] r we el0 h0 n0 O0 La Lb Lc Sem Eem B0) e7 La (lenOf pd_I_Ljava_lang_Object_821 rfl) (g := (mkF m 66 #[rv t, iv ag] [(.int (0 : Int32)), (.ref r)])) (argsL := [(.int (0 : Int32))]) (rest := []) (W := 0) rfl rfl (hb hby d45_66) (by rw [hml]; rfl) (by show 2 * 0 + _ ≤ _; exact Nat.le_of_eq rfl) rfl (by decide) (by decide) (by decide) (by decide) (by decide)
  have N9 := Fr.app N5 Nq8
  refine own_t T8 (mkF m 71 #[rv t, iv ag] [(.ref el0)]) st8 ?_
  obtain ⟨T10, X10, e10, st10⟩ := castY X8 hx hZ hown (own_W173 hw) hh8 (Ins.self (B0.ext O0.2)) (g := (mkF m 71 #[rv t, iv ag] [(.ref el0)])) rfl rfl (hb hby d45_71)
  refine own_g T10 (mkF m 74 #[rv t, iv ag] [(.ref el0)]) st10 ?_
  refine own_out X10 Bd.notSynchronized (v := (some (.ref el0))) (fun h => by rw [Bd.returns] at h; cases h) (fun fs hr => own_retA X10 hx Bd.returns rfl rfl rfl (hb hby d45_74) hr) ?_ (by decide) (by decide)
  rw [e10]
  exact ⟨rfl, N9, rfl⟩
theorem d45_10 : decode prog_35_method_4_code 10 = .ok (.getstatic 40, 3) := by decide +kernel
theorem d45_13 : decode prog_35_method_4_code 13 = .ok (.areturn, 1) := by decide +kernel
theorem ef_rode1 (m : MethodId) (x0 : Addr) (x1 : Int32) : entryFrame m #[(.ref x0), (.int x1)] 2 = mkF m 0 #[.val (.ref x0), .val (.int x1)] [] := by first | (simp [entryFrame, mkF, argsToLocals, Value.category]; done) | rfl
def Qrode1 (Z : State) (t : Addr) (fa : Int32) (r we : Addr) (el0 : Addr) (ag : Int32) (w1 : Addr) (h0 : Heap) (n0 : Nat) (v : Option Value) (h : Heap) (L : List Loc) : Prop := v = some (.ref w1) ∧ Fr n0 L ∧ h = h0
set_option maxRecDepth 65536 in
set_option maxHeartbeats 40000000 in
theorem rmrode1 (l : Launch) (Z : State) (a0 : Array Value) (hw : own_H a0 Z) (ws : List Jvm.Cond) (t : Addr) (fa : Int32) (r we : Addr) (el0 : Addr) (ag : Int32) (w1 : Addr) (h0 : Heap) (n0 : Nat) (O0 : Old Z n0 h0) (Em : Exa Z h0 t "com/example/restoria/restoria/mortality/MortalityTable") (G1 : Fld Z h0 t "com/example/restoria/restoria/mortality/MortalityTable" "firstAge" "I" (.int fa)) (G2 : Fld Z h0 t "com/example/restoria/restoria/mortality/MortalityTable" "rates" "Ljava/util/List;" (.ref r)) (La : Exa Z h0 r "java/util/ImmutableCollections$List12") (Lb : Fld Z h0 r "java/util/ImmutableCollections$List12" "e0" "Ljava/lang/Object;" (.ref el0)) (Lc : Fld Z h0 r "java/util/ImmutableCollections$List12" "e1" "Ljava/lang/Object;" (.ref we)) (Sem : Sta Z Z.heap "java/util/ImmutableCollections" "EMPTY" "Ljava/lang/Object;" (.ref we)) (Eem : Exa Z Z.heap we "java/lang/Object") (B0 : Exa Z Z.heap el0 "java/math/BigDecimal") (S1 : Sta Z Z.heap "java/math/BigDecimal" "ONE" "Ljava/math/BigDecimal;" (.ref w1)) (q1 : ag = (((fa + (1 : Int32)) - (1 : Int32)) + (1 : Int32))) :
    own_M l (⟨"com/example/restoria/restoria/mortality/MortalityTable", "rateOfDeath", "(I)Ljava/math/BigDecimal;"⟩ : MethodName) prog_35_method_4_code 2 (some (.object "java/math/BigDecimal")) ws (own_R 2 0 0 26) Z #[(.ref t), (.int ag)] h0 (Qrode1 Z t fa r we el0 ag w1 h0 n0) := by
  refine own_body (plainFor_of_name pn_com_example_restoria_restoria_mortality_MortalityTable) (fun m => ef_rode1 m t ag) ?_
  intro p e s m below meth c s₁ Bd hx hby hml hown hnm X0 e0 hZ
  have N0 := Fr.nil n0
  refine own_g s₁ (mkF m 2 #[rv t, iv ag] [(.ref t), (.int ag)]) (fun _ kq => XS.iloadN X0.here hx rfl (hb hby d45_0) rfl (XS.aloadN X0.here hx rfl (hb hby d45_1) rfl rfl kq)) ?_
  obtain ⟨_, T1, L1, X1, ⟨rfl, Nq1, hh1⟩, st1⟩ := own_cV X0 hx hZ hown (own_W300 hw) (own_W284 hw) (own_W286 hw) (own_W285 hw) (own_W69 hw) (own_W287 hw) (rmlast1 l Z a0 hw [] t fa r we el0 h0 n0 O0 Em G1 G2 La Lb Lc Sem Eem B0) e0 Em (lenOf pd_I_154 rfl) (g := (mkF m 2 #[rv t, iv ag] [(.ref t), (.int ag)])) (argsL := []) (rest := [(.int ag)]) (W := 1) rfl rfl (hb hby d45_2) (by rw [hml]; rfl) (by show 2 * 0 + _ ≤ _; exact Nat.le_of_eq rfl) rfl (by decide) (by decide) (by decide) (by decide) (by decide)
  have N2 := Fr.app N0 Nq1
  refine own_t T1 (mkF m 5 #[rv t, iv ag] [(.int ((fa + (1 : Int32)) - (1 : Int32))), (.int ag)]) st1 ?_
  refine own_g T1 (mkF m 10 #[rv t, iv ag] []) (fun _ kq => XS.iconst X1.here hx rfl (hb hby d45_5) (XS.iadd X1.here hx rfl (hb hby d45_6) rfl (XS.icmpNo X1.here hx rfl (hb hby d45_7) rfl (teq (q1 : ag = (((fa + (1 : Int32)) - (1 : Int32)) + (1 : Int32)))).2 kq))) ?_
  obtain ⟨T3, X3, e3, st3⟩ := getS2 X1 hx hZ hown (host := "") (Or.inl (own_W186 hw)) Via.refl hh1 (S1.ext O0.2) (g := (mkF m 10 #[rv t, iv ag] [])) rfl (hb hby d45_10)
  refine own_g T3 (mkF m 13 #[rv t, iv ag] [(.ref w1)]) st3 ?_
  refine own_out X3 Bd.notSynchronized (v := (some (.ref w1))) (fun h => by rw [Bd.returns] at h; cases h) (fun fs hr => own_retA X3 hx Bd.returns rfl rfl rfl (hb hby d45_13) hr) ?_ (by decide) (by decide)
  rw [e3]
  exact ⟨rfl, N2, rfl⟩
theorem d48_10 : decode jdk_44_method_3_code 10 = .ok (.iconst 2, 1) := by decide +kernel
theorem d48_11 : decode jdk_44_method_3_code 11 = .ok (.goto 4, 3) := by decide +kernel
theorem ef_lsz2 (m : MethodId) (x0 : Addr) : entryFrame m #[(.ref x0)] 1 = mkF m 0 #[.val (.ref x0)] [] := by first | (simp [entryFrame, mkF, argsToLocals, Value.category]; done) | rfl
def Qlsz2 (Z : State) (r we : Addr) (el0 el1 : Addr) (h0 : Heap) (n0 : Nat) (v : Option Value) (h : Heap) (L : List Loc) : Prop := v = some (.int (2 : Int32)) ∧ Fr n0 L ∧ h = h0
set_option maxRecDepth 65536 in
set_option maxHeartbeats 40000000 in
theorem rmlsz2 (l : Launch) (Z : State) (a0 : Array Value) (hw : own_H a0 Z) (ws : List Jvm.Cond) (r we : Addr) (el0 el1 : Addr) (h0 : Heap) (n0 : Nat) (O0 : Old Z n0 h0) (La : Exa Z h0 r "java/util/ImmutableCollections$List12") (Lb : Fld Z h0 r "java/util/ImmutableCollections$List12" "e0" "Ljava/lang/Object;" (.ref el0)) (Lc : Fld Z h0 r "java/util/ImmutableCollections$List12" "e1" "Ljava/lang/Object;" (.ref el1)) (Sem : Sta Z Z.heap "java/util/ImmutableCollections" "EMPTY" "Ljava/lang/Object;" (.ref we)) (Eem : Exa Z Z.heap we "java/lang/Object") (B0 : Exa Z Z.heap el0 "java/math/BigDecimal") (B1 : Exa Z Z.heap el1 "java/math/BigDecimal") :
    own_M l (⟨"java/util/ImmutableCollections$List12", "size", "()I"⟩ : MethodName) jdk_44_method_3_code 1 (some .int) ws (own_R 0 0 0 0) Z #[(.ref r)] h0 (Qlsz2 Z r we el0 el1 h0 n0) := by
  refine own_body (plainFor_of_name pn_java_util_ImmutableCollections_List12) (fun m => ef_lsz2 m r) ?_
  intro p e s m below meth c s₁ Bd hx hby hml hown hnm X0 e0 hZ
  have N0 := Fr.nil n0
  have ne_ew : el1 ≠ we := ne_exa B1 Eem (by decide)
  refine own_g s₁ (mkF m 1 #[rv r] [(.ref r)]) (fun _ kq => XS.aloadN X0.here hx rfl (hb hby d48_0) rfl rfl kq) ?_
  obtain ⟨T1, X1, e1, st1⟩ := getF X0 hx hZ hown (host := "") (Or.inl (own_W321 hw)) Via.refl e0 Lc (g := (mkF m 1 #[rv r] [(.ref r)])) rfl rfl (hb hby d48_1)
  refine own_g T1 (mkF m 4 #[rv r] [(.ref el1)]) st1 ?_
  obtain ⟨T2, X2, e2, st2⟩ := getS2 X1 hx hZ hown (Or.inr (own_W320 hw)) Via.refl e1 (Sem.ext O0.2) (g := (mkF m 4 #[rv r] [(.ref el1)])) rfl (hb hby d48_4)
  refine own_g T2 (mkF m 7 #[rv r] [(.ref we), (.ref el1)]) st2 ?_
  refine own_g T2 (mkF m 15 #[rv r] [(.int (2 : Int32))]) (fun _ kq => Jvm.RoadKit.acmp (g := (mkF m 7 #[rv r] [(.ref we), (.ref el1)])) X2 hx rfl rfl rfl (pc0 := 7) (pc' := 10) (same := false) rfl (hb hby d48_7) rfl (decide_eq_false fun q => ne_ew (Value.ref.inj q)) (by decide) (by decide) (XS.iconst X2.here hx rfl (hb hby d48_10) (XS.goto X2.here hx rfl (pc0 := 11) (pc' := 15) rfl (hb hby d48_11) (by decide) (by decide) kq))) ?_
  refine own_out X2 Bd.notSynchronized (v := (some (.int (2 : Int32)))) (fun h => by rw [Bd.returns] at h; cases h) (fun fs hr => own_retI X2 hx Bd.returns (hb hby d48_15) hr) ?_ (by decide) (by decide)
  rw [e2]
  exact ⟨rfl, N0, rfl⟩
theorem ef_lget20 (m : MethodId) (x0 : Addr) (x1 : Int32) : entryFrame m #[(.ref x0), (.int x1)] 2 = mkF m 0 #[.val (.ref x0), .val (.int x1)] [] := by first | (simp [entryFrame, mkF, argsToLocals, Value.category]; done) | rfl
def Qlget20 (Z : State) (r we : Addr) (el0 el1 : Addr) (h0 : Heap) (n0 : Nat) (v : Option Value) (h : Heap) (L : List Loc) : Prop := v = some (.ref el0) ∧ Fr n0 L ∧ h = h0
set_option maxRecDepth 65536 in
set_option maxHeartbeats 40000000 in
theorem rmlget20 (l : Launch) (Z : State) (a0 : Array Value) (hw : own_H a0 Z) (ws : List Jvm.Cond) (r we : Addr) (el0 el1 : Addr) (h0 : Heap) (n0 : Nat) (O0 : Old Z n0 h0) (La : Exa Z h0 r "java/util/ImmutableCollections$List12") (Lb : Fld Z h0 r "java/util/ImmutableCollections$List12" "e0" "Ljava/lang/Object;" (.ref el0)) (Lc : Fld Z h0 r "java/util/ImmutableCollections$List12" "e1" "Ljava/lang/Object;" (.ref el1)) (Sem : Sta Z Z.heap "java/util/ImmutableCollections" "EMPTY" "Ljava/lang/Object;" (.ref we)) (Eem : Exa Z Z.heap we "java/lang/Object") (B0 : Exa Z Z.heap el0 "java/math/BigDecimal") (B1 : Exa Z Z.heap el1 "java/math/BigDecimal") :
    own_M l (⟨"java/util/ImmutableCollections$List12", "get", "(I)Ljava/lang/Object;"⟩ : MethodName) jdk_44_method_5_code 2 (some (.object "java/lang/Object")) ws (own_R 0 0 0 0) Z #[(.ref r), (.int (0 : Int32))] h0 (Qlget20 Z r we el0 el1 h0 n0) := by
  refine own_body (plainFor_of_name pn_java_util_ImmutableCollections_List12) (fun m => ef_lget20 m r (0 : Int32)) ?_
  intro p e s m below meth c s₁ Bd hx hby hml hown hnm X0 e0 hZ
  have N0 := Fr.nil n0
  have ne_ew : el1 ≠ we := ne_exa B1 Eem (by decide)
  refine own_g s₁ (mkF m 5 #[rv r, iv (0 : Int32)] [(.ref r)]) (fun _ kq => XS.iloadN X0.here hx rfl (hb hby d49_0) rfl (XS.ifNo X0.here hx rfl (hb hby d49_1) rfl ((if0 _ _).trans (teq ((by decide) : (0 : Int32) = (0 : Int32))).2) (XS.aloadN X0.here hx rfl (hb hby d49_4) rfl rfl kq))) ?_
  obtain ⟨T1, X1, e1, st1⟩ := getF X0 hx hZ hown (host := "") (Or.inl (own_W318 hw)) Via.refl e0 Lb (g := (mkF m 5 #[rv r, iv (0 : Int32)] [(.ref r)])) rfl rfl (hb hby d49_5)
  refine own_g T1 (mkF m 8 #[rv r, iv (0 : Int32)] [(.ref el0)]) st1 ?_
  refine own_out X1 Bd.notSynchronized (v := (some (.ref el0))) (fun h => by rw [Bd.returns] at h; cases h) (fun fs hr => own_retA X1 hx Bd.returns rfl rfl rfl (hb hby d49_8) hr) ?_ (by decide) (by decide)
  rw [e1]
  exact ⟨rfl, N0, rfl⟩
theorem d49_9 : decode jdk_44_method_5_code 9 = .ok (.iload_n 1, 1) := by decide +kernel
theorem d49_10 : decode jdk_44_method_5_code 10 = .ok (.iconst 1, 1) := by decide +kernel
theorem d49_11 : decode jdk_44_method_5_code 11 = .ok (.if_icmp .ne 18, 3) := by decide +kernel
theorem d49_14 : decode jdk_44_method_5_code 14 = .ok (.aload_n 0, 1) := by decide +kernel
theorem d49_15 : decode jdk_44_method_5_code 15 = .ok (.getfield 24, 3) := by decide +kernel
theorem d49_18 : decode jdk_44_method_5_code 18 = .ok (.getstatic 19, 3) := by decide +kernel
theorem d49_21 : decode jdk_44_method_5_code 21 = .ok (.if_acmp .eq 8, 3) := by decide +kernel
theorem d49_24 : decode jdk_44_method_5_code 24 = .ok (.aload_n 0, 1) := by decide +kernel
theorem d49_25 : decode jdk_44_method_5_code 25 = .ok (.getfield 24, 3) := by decide +kernel
theorem d49_28 : decode jdk_44_method_5_code 28 = .ok (.areturn, 1) := by decide +kernel
theorem ef_lget21 (m : MethodId) (x0 : Addr) (x1 : Int32) : entryFrame m #[(.ref x0), (.int x1)] 2 = mkF m 0 #[.val (.ref x0), .val (.int x1)] [] := by first | (simp [entryFrame, mkF, argsToLocals, Value.category]; done) | rfl
def Qlget21 (Z : State) (r we : Addr) (el0 el1 : Addr) (h0 : Heap) (n0 : Nat) (v : Option Value) (h : Heap) (L : List Loc) : Prop := v = some (.ref el1) ∧ Fr n0 L ∧ h = h0
set_option maxRecDepth 65536 in
set_option maxHeartbeats 40000000 in
theorem rmlget21 (l : Launch) (Z : State) (a0 : Array Value) (hw : own_H a0 Z) (ws : List Jvm.Cond) (r we : Addr) (el0 el1 : Addr) (h0 : Heap) (n0 : Nat) (O0 : Old Z n0 h0) (La : Exa Z h0 r "java/util/ImmutableCollections$List12") (Lb : Fld Z h0 r "java/util/ImmutableCollections$List12" "e0" "Ljava/lang/Object;" (.ref el0)) (Lc : Fld Z h0 r "java/util/ImmutableCollections$List12" "e1" "Ljava/lang/Object;" (.ref el1)) (Sem : Sta Z Z.heap "java/util/ImmutableCollections" "EMPTY" "Ljava/lang/Object;" (.ref we)) (Eem : Exa Z Z.heap we "java/lang/Object") (B0 : Exa Z Z.heap el0 "java/math/BigDecimal") (B1 : Exa Z Z.heap el1 "java/math/BigDecimal") :
    own_M l (⟨"java/util/ImmutableCollections$List12", "get", "(I)Ljava/lang/Object;"⟩ : MethodName) jdk_44_method_5_code 2 (some (.object "java/lang/Object")) ws (own_R 0 0 0 0) Z #[(.ref r), (.int (1 : Int32))] h0 (Qlget21 Z r we el0 el1 h0 n0) := by
  refine own_body (plainFor_of_name pn_java_util_ImmutableCollections_List12) (fun m => ef_lget21 m r (1 : Int32)) ?_
  intro p e s m below meth c s₁ Bd hx hby hml hown hnm X0 e0 hZ
  have N0 := Fr.nil n0
  have ne_ew : el1 ≠ we := ne_exa B1 Eem (by decide)
  refine own_g s₁ (mkF m 15 #[rv r, iv (1 : Int32)] [(.ref r)]) (fun _ kq => XS.iloadN X0.here hx rfl (hb hby d49_0) rfl (XS.ifYes X0.here hx rfl (pc0 := 1) (pc' := 9) rfl (hb hby d49_1) rfl ((if0 _ _).trans (feq ((by decide) : ¬ ((1 : Int32) = (0 : Int32)))).2) (by decide) (by decide) (XS.iloadN X0.here hx rfl (hb hby d49_9) rfl (XS.iconst X0.here hx rfl (hb hby d49_10) (XS.icmpNo X0.here hx rfl (hb hby d49_11) rfl (teq ((by decide) : (1 : Int32) = (1 : Int32))).2 (XS.aloadN X0.here hx rfl (hb hby d49_14) rfl rfl kq)))))) ?_
  obtain ⟨T1, X1, e1, st1⟩ := getF X0 hx hZ hown (host := "") (Or.inl (own_W321 hw)) Via.refl e0 Lc (g := (mkF m 15 #[rv r, iv (1 : Int32)] [(.ref r)])) rfl rfl (hb hby d49_15)
  refine own_g T1 (mkF m 18 #[rv r, iv (1 : Int32)] [(.ref el1)]) st1 ?_
  obtain ⟨T2, X2, e2, st2⟩ := getS2 X1 hx hZ hown (Or.inr (own_W320 hw)) Via.refl e1 (Sem.ext O0.2) (g := (mkF m 18 #[rv r, iv (1 : Int32)] [(.ref el1)])) rfl (hb hby d49_18)
  refine own_g T2 (mkF m 21 #[rv r, iv (1 : Int32)] [(.ref we), (.ref el1)]) st2 ?_
  refine own_g T2 (mkF m 25 #[rv r, iv (1 : Int32)] [(.ref r)]) (fun _ kq => Jvm.RoadKit.acmp (g := (mkF m 21 #[rv r, iv (1 : Int32)] [(.ref we), (.ref el1)])) X2 hx rfl rfl rfl (pc0 := 21) (pc' := 24) (same := false) rfl (hb hby d49_21) rfl (decide_eq_false fun q => ne_ew (Value.ref.inj q)) (by decide) (by decide) (XS.aloadN X2.here hx rfl (hb hby d49_24) rfl rfl kq)) ?_
  obtain ⟨T3, X3, e3, st3⟩ := getF X2 hx hZ hown (host := "") (Or.inl (own_W321 hw)) Via.refl e2 Lc (g := (mkF m 25 #[rv r, iv (1 : Int32)] [(.ref r)])) rfl rfl (hb hby d49_25)
  refine own_g T3 (mkF m 28 #[rv r, iv (1 : Int32)] [(.ref el1)]) st3 ?_
  refine own_out X3 Bd.notSynchronized (v := (some (.ref el1))) (fun h => by rw [Bd.returns] at h; cases h) (fun fs hr => own_retA X3 hx Bd.returns rfl rfl rfl (hb hby d49_28) hr) ?_ (by decide) (by decide)
  rw [e3]
  exact ⟨rfl, N0, rfl⟩
theorem ef_last2 (m : MethodId) (x0 : Addr) : entryFrame m #[(.ref x0)] 1 = mkF m 0 #[.val (.ref x0)] [] := by first | (simp [entryFrame, mkF, argsToLocals, Value.category]; done) | rfl
def Qlast2 (Z : State) (t : Addr) (fa : Int32) (r we : Addr) (el0 el1 : Addr) (h0 : Heap) (n0 : Nat) (v : Option Value) (h : Heap) (L : List Loc) : Prop := v = some (.int ((fa + (2 : Int32)) - (1 : Int32))) ∧ Fr n0 L ∧ h = h0
set_option maxRecDepth 65536 in
set_option maxHeartbeats 40000000 in
theorem rmlast2 (l : Launch) (Z : State) (a0 : Array Value) (hw : own_H a0 Z) (ws : List Jvm.Cond) (t : Addr) (fa : Int32) (r we : Addr) (el0 el1 : Addr) (h0 : Heap) (n0 : Nat) (O0 : Old Z n0 h0) (Em : Exa Z h0 t "com/example/restoria/restoria/mortality/MortalityTable") (G1 : Fld Z h0 t "com/example/restoria/restoria/mortality/MortalityTable" "firstAge" "I" (.int fa)) (G2 : Fld Z h0 t "com/example/restoria/restoria/mortality/MortalityTable" "rates" "Ljava/util/List;" (.ref r)) (La : Exa Z h0 r "java/util/ImmutableCollections$List12") (Lb : Fld Z h0 r "java/util/ImmutableCollections$List12" "e0" "Ljava/lang/Object;" (.ref el0)) (Lc : Fld Z h0 r "java/util/ImmutableCollections$List12" "e1" "Ljava/lang/Object;" (.ref el1)) (Sem : Sta Z Z.heap "java/util/ImmutableCollections" "EMPTY" "Ljava/lang/Object;" (.ref we)) (Eem : Exa Z Z.heap we "java/lang/Object") (B0 : Exa Z Z.heap el0 "java/math/BigDecimal") (B1 : Exa Z Z.heap el1 "java/math/BigDecimal") :
    own_M l (⟨"com/example/restoria/restoria/mortality/MortalityTable", "lastAge", "()I"⟩ : MethodName) prog_35_method_2_code 1 (some .int) ws (own_R 1 0 0 13) Z #[(.ref t)] h0 (Qlast2 Z t fa r we el0 el1 h0 n0) := by
  refine own_body (plainFor_of_name pn_com_example_restoria_restoria_mortality_MortalityTable) (fun m => ef_last2 m t) ?_
  intro p e s m below meth c s₁ Bd hx hby hml hown hnm X0 e0 hZ
  have N0 := Fr.nil n0
  refine own_g s₁ (mkF m 1 #[rv t] [(.ref t)]) (fun _ kq => XS.aloadN X0.here hx rfl (hb hby d43_0) rfl rfl kq) ?_
  obtain ⟨T1, X1, e1, st1⟩ := getF X0 hx hZ hown (host := "") (Or.inl (own_W279 hw)) Via.refl e0 G1 (g := (mkF m 1 #[rv t] [(.ref t)])) rfl rfl (hb hby d43_1)
  refine own_g T1 (mkF m 4 #[rv t] [(.int fa)]) st1 ?_
  refine own_g T1 (mkF m 5 #[rv t] [(.ref t), (.int fa)]) (fun _ kq => XS.aloadN X1.here hx rfl (hb hby d43_4) rfl rfl kq) ?_
  obtain ⟨T2, X2, e2, st2⟩ := getF X1 hx hZ hown (host := "") (Or.inl (own_W281 hw)) Via.refl e1 G2 (g := (mkF m 5 #[rv t] [(.ref t), (.int fa)])) rfl rfl (hb hby d43_5)
  refine own_g T2 (mkF m 8 #[rv t] [(.ref r), (.int fa)]) st2 ?_
  obtain ⟨_, T3, L3, X3, ⟨rfl, Nq3, hh3⟩, st3⟩ := own_cF X2 hx hZ hown (own_W144 hw) (own_W145 hw) (mvT hZ (own_W146 hw)) (own_W323 hw) (own_W324 hw) (own_W325 hw) (own_W326 hw) (own_W327 hw) (own_W308 hw) (own_W328 hw) (rmlsz2 l Z a0 hw [] r we el0 el1 h0 n0 O0 La Lb Lc Sem Eem B0 B1) e2 La (lenOf pd_I_154 rfl) (g := (mkF m 8 #[rv t] [(.ref r), (.int fa)])) (argsL := []) (rest := [(.int fa)]) (W := 1) rfl rfl (hb hby d43_8) (by rw [hml]; rfl) (by show 2 * 0 + _ ≤ _; exact Nat.le_of_eq rfl) rfl (by decide) (by decide) (by decide) (by decide) (by decide)
  have N4 := Fr.app N0 Nq3
  refine own_t T3 (mkF m 13 #[rv t] [(.int (2 : Int32)), (.int fa)]) st3 ?_
  refine own_g T3 (mkF m 16 #[rv t] [(.int ((fa + (2 : Int32)) - (1 : Int32)))]) (fun _ kq => XS.iadd X3.here hx rfl (hb hby d43_13) rfl (XS.iconst X3.here hx rfl (hb hby d43_14) (XS.isub X3.here hx rfl (hb hby d43_15) rfl kq))) ?_
  refine own_out X3 Bd.notSynchronized (v := (some (.int ((fa + (2 : Int32)) - (1 : Int32))))) (fun h => by rw [Bd.returns] at h; cases h) (fun fs hr => own_retI X3 hx Bd.returns (hb hby d43_16) hr) ?_ (by decide) (by decide)
  rw [hh3]
  exact ⟨rfl, N4, rfl⟩
theorem ef_rod20 (m : MethodId) (x0 : Addr) (x1 : Int32) : entryFrame m #[(.ref x0), (.int x1)] 2 = mkF m 0 #[.val (.ref x0), .val (.int x1)] [] := by first | (simp [entryFrame, mkF, argsToLocals, Value.category]; done) | rfl
def Qrod20 (Z : State) (t : Addr) (fa : Int32) (r we : Addr) (el0 el1 : Addr) (ag : Int32) (h0 : Heap) (n0 : Nat) (v : Option Value) (h : Heap) (L : List Loc) : Prop := v = some (.ref el0) ∧ Fr n0 L ∧ h = h0
set_option maxRecDepth 65536 in
set_option maxHeartbeats 40000000 in
theorem rmrod20 (l : Launch) (Z : State) (a0 : Array Value) (hw : own_H a0 Z) (ws : List Jvm.Cond) (t : Addr) (fa : Int32) (r we : Addr) (el0 el1 : Addr) (ag : Int32) (h0 : Heap) (n0 : Nat) (O0 : Old Z n0 h0) (Em : Exa Z h0 t "com/example/restoria/restoria/mortality/MortalityTable") (G1 : Fld Z h0 t "com/example/restoria/restoria/mortality/MortalityTable" "firstAge" "I" (.int fa)) (G2 : Fld Z h0 t "com/example/restoria/restoria/mortality/MortalityTable" "rates" "Ljava/util/List;" (.ref r)) (La : Exa Z h0 r "java/util/ImmutableCollections$List12") (Lb : Fld Z h0 r "java/util/ImmutableCollections$List12" "e0" "Ljava/lang/Object;" (.ref el0)) (Lc : Fld Z h0 r "java/util/ImmutableCollections$List12" "e1" "Ljava/lang/Object;" (.ref el1)) (Sem : Sta Z Z.heap "java/util/ImmutableCollections" "EMPTY" "Ljava/lang/Object;" (.ref we)) (Eem : Exa Z Z.heap we "java/lang/Object") (B0 : Exa Z Z.heap el0 "java/math/BigDecimal") (B1 : Exa Z Z.heap el1 "java/math/BigDecimal") (q1 : ¬ (ag = (((fa + (2 : Int32)) - (1 : Int32)) + (1 : Int32)))) (q2 : ¬ (ag < fa)) (q3 : ¬ (((fa + (2 : Int32)) - (1 : Int32)) < ag)) (q4 : (ag - fa) = (0 : Int32)) :
    own_M l (⟨"com/example/restoria/restoria/mortality/MortalityTable", "rateOfDeath", "(I)Ljava/math/BigDecimal;"⟩ : MethodName) prog_35_method_4_code 2 (some (.object "java/math/BigDecimal")) ws (own_R 2 0 0 26) Z #[(.ref t), (.int ag)] h0 (Qrod20 Z t fa r we el0 el1 ag h0 n0) := by
  refine own_body (plainFor_of_name pn_com_example_restoria_restoria_mortality_MortalityTable) (fun m => ef_rod20 m t ag) ?_
  intro p e s m below meth c s₁ Bd hx hby hml hown hnm X0 e0 hZ
  have N0 := Fr.nil n0
  refine own_g s₁ (mkF m 2 #[rv t, iv ag] [(.ref t), (.int ag)]) (fun _ kq => XS.iloadN X0.here hx rfl (hb hby d45_0) rfl (XS.aloadN X0.here hx rfl (hb hby d45_1) rfl rfl kq)) ?_
  obtain ⟨_, T1, L1, X1, ⟨rfl, Nq1, hh1⟩, st1⟩ := own_cV X0 hx hZ hown (own_W300 hw) (own_W284 hw) (own_W286 hw) (own_W285 hw) (own_W69 hw) (own_W287 hw) (rmlast2 l Z a0 hw [] t fa r we el0 el1 h0 n0 O0 Em G1 G2 La Lb Lc Sem Eem B0 B1) e0 Em (lenOf pd_I_154 rfl) (g := (mkF m 2 #[rv t, iv ag] [(.ref t), (.int ag)])) (argsL := []) (rest := [(.int ag)]) (W := 1) rfl rfl (hb hby d45_2) (by rw [hml]; rfl) (by show 2 * 0 + _ ≤ _; exact Nat.le_of_eq rfl) rfl (by decide) (by decide) (by decide) (by decide) (by decide)
  have N2 := Fr.app N0 Nq1
  refine own_t T1 (mkF m 5 #[rv t, iv ag] [(.int ((fa + (2 : Int32)) - (1 : Int32))), (.int ag)]) st1 ?_
  refine own_g T1 (mkF m 16 #[rv t, iv ag] [(.ref t), (.int ag)]) (fun _ kq => XS.iconst X1.here hx rfl (hb hby d45_5) (XS.iadd X1.here hx rfl (hb hby d45_6) rfl (XS.icmpYes X1.here hx rfl (pc0 := 7) (pc' := 14) rfl (hb hby d45_7) rfl (feq (q1 : ¬ (ag = (((fa + (2 : Int32)) - (1 : Int32)) + (1 : Int32))))).2 (by decide) (by decide) (XS.iloadN X1.here hx rfl (hb hby d45_14) rfl (XS.aloadN X1.here hx rfl (hb hby d45_15) rfl rfl kq))))) ?_
  obtain ⟨T3, X3, e3, st3⟩ := getF X1 hx hZ hown (host := "") (Or.inl (own_W279 hw)) Via.refl hh1 G1 (g := (mkF m 16 #[rv t, iv ag] [(.ref t), (.int ag)])) rfl rfl (hb hby d45_16)
  refine own_g T3 (mkF m 19 #[rv t, iv ag] [(.int fa), (.int ag)]) st3 ?_
  refine own_g T3 (mkF m 24 #[rv t, iv ag] [(.ref t), (.int ag)]) (fun _ kq => XS.icmpNo X3.here hx rfl (hb hby d45_19) rfl (flt (q2 : ¬ (ag < fa))).1 (XS.iloadN X3.here hx rfl (hb hby d45_22) rfl (XS.aloadN X3.here hx rfl (hb hby d45_23) rfl rfl kq))) ?_
  obtain ⟨_, T4, L4, X4, ⟨rfl, Nq4, hh4⟩, st4⟩ := own_cV X3 hx hZ hown (own_W300 hw) (own_W284 hw) (own_W286 hw) (own_W285 hw) (own_W69 hw) (own_W287 hw) (rmlast2 l Z a0 hw [] t fa r we el0 el1 h0 n0 O0 Em G1 G2 La Lb Lc Sem Eem B0 B1) e3 Em (lenOf pd_I_154 rfl) (g := (mkF m 24 #[rv t, iv ag] [(.ref t), (.int ag)])) (argsL := []) (rest := [(.int ag)]) (W := 1) rfl rfl (hb hby d45_24) (by rw [hml]; rfl) (by show 2 * 0 + _ ≤ _; exact Nat.le_of_eq rfl) rfl (by decide) (by decide) (by decide) (by decide) (by decide)
  have N5 := Fr.app N2 Nq4
  refine own_t T4 (mkF m 27 #[rv t, iv ag] [(.int ((fa + (2 : Int32)) - (1 : Int32))), (.int ag)]) st4 ?_
  refine own_g T4 (mkF m 57 #[rv t, iv ag] [(.ref t)]) (fun _ kq => XS.icmpYes X4.here hx rfl (pc0 := 27) (pc' := 56) rfl (hb hby d45_27) rfl (flt (q3 : ¬ (((fa + (2 : Int32)) - (1 : Int32)) < ag))).2.2.2 (by decide) (by decide) (XS.aloadN X4.here hx rfl (hb hby d45_56) rfl rfl kq)) ?_
  obtain ⟨T6, X6, e6, st6⟩ := getF X4 hx hZ hown (host := "") (Or.inl (own_W281 hw)) Via.refl hh4 G2 (g := (mkF m 57 #[rv t, iv ag] [(.ref t)])) rfl rfl (hb hby d45_57)
  refine own_g T6 (mkF m 60 #[rv t, iv ag] [(.ref r)]) st6 ?_
  refine own_g T6 (mkF m 62 #[rv t, iv ag] [(.ref t), (.int ag), (.ref r)]) (fun _ kq => XS.iloadN X6.here hx rfl (hb hby d45_60) rfl (XS.aloadN X6.here hx rfl (hb hby d45_61) rfl rfl kq)) ?_
  obtain ⟨T7, X7, e7, st7⟩ := getF X6 hx hZ hown (host := "") (Or.inl (own_W279 hw)) Via.refl e6 G1 (g := (mkF m 62 #[rv t, iv ag] [(.ref t), (.int ag), (.ref r)])) rfl rfl (hb hby d45_62)
  refine own_g T7 (mkF m 65 #[rv t, iv ag] [(.int fa), (.int ag), (.ref r)]) st7 ?_
  refine own_g T7 (mkF m 66 #[rv t, iv ag] [(.int (ag - fa)), (.ref r)]) (fun _ kq => XS.isub X7.here hx rfl (hb hby d45_65) rfl kq) ?_
  rw [q4]
  obtain ⟨_, T8, L8, X8, ⟨rfl, Nq8, hh8⟩, st8⟩ := own_cF X7 hx hZ hown (own_W152 hw) (own_W153 hw) (mvT hZ (own_W154 hw)) (own_W329 hw) (own_W330 hw) (own_W331 hw) (own_W332 hw) (own_W327 hw) (own_W308 hw) (own_W333 hw) (rmlget20 l Z a0 hw [] r we el0 el1 h0 n0 O0 La Lb Lc Sem Eem B0 B1) e7 La (lenOf pd_I_Ljava_lang_Object_821 rfl) (g := (mkF m 66 #[rv t, iv ag] [(.int (0 : Int32)), (.ref r)])) (argsL := [(.int (0 : Int32))]) (rest := []) (W := 0) rfl rfl (hb hby d45_66) (by rw [hml]; rfl) (by show 2 * 0 + _ ≤ _; exact Nat.le_of_eq rfl) rfl (by decide) (by decide) (by decide) (by decide) (by decide)
  have N9 := Fr.app N5 Nq8
  refine own_t T8 (mkF m 71 #[rv t, iv ag] [(.ref el0)]) st8 ?_
  obtain ⟨T10, X10, e10, st10⟩ := castY X8 hx hZ hown (own_W173 hw) hh8 (Ins.self (B0.ext O0.2)) (g := (mkF m 71 #[rv t, iv ag] [(.ref el0)])) rfl rfl (hb hby d45_71)
  refine own_g T10 (mkF m 74 #[rv t, iv ag] [(.ref el0)]) st10 ?_
  refine own_out X10 Bd.notSynchronized (v := (some (.ref el0))) (fun h => by rw [Bd.returns] at h; cases h) (fun fs hr => own_retA X10 hx Bd.returns rfl rfl rfl (hb hby d45_74) hr) ?_ (by decide) (by decide)
  rw [e10]
  exact ⟨rfl, N9, rfl⟩
theorem ef_rod21 (m : MethodId) (x0 : Addr) (x1 : Int32) : entryFrame m #[(.ref x0), (.int x1)] 2 = mkF m 0 #[.val (.ref x0), .val (.int x1)] [] := by first | (simp [entryFrame, mkF, argsToLocals, Value.category]; done) | rfl
def Qrod21 (Z : State) (t : Addr) (fa : Int32) (r we : Addr) (el0 el1 : Addr) (ag : Int32) (h0 : Heap) (n0 : Nat) (v : Option Value) (h : Heap) (L : List Loc) : Prop := v = some (.ref el1) ∧ Fr n0 L ∧ h = h0
set_option maxRecDepth 65536 in
set_option maxHeartbeats 40000000 in
theorem rmrod21 (l : Launch) (Z : State) (a0 : Array Value) (hw : own_H a0 Z) (ws : List Jvm.Cond) (t : Addr) (fa : Int32) (r we : Addr) (el0 el1 : Addr) (ag : Int32) (h0 : Heap) (n0 : Nat) (O0 : Old Z n0 h0) (Em : Exa Z h0 t "com/example/restoria/restoria/mortality/MortalityTable") (G1 : Fld Z h0 t "com/example/restoria/restoria/mortality/MortalityTable" "firstAge" "I" (.int fa)) (G2 : Fld Z h0 t "com/example/restoria/restoria/mortality/MortalityTable" "rates" "Ljava/util/List;" (.ref r)) (La : Exa Z h0 r "java/util/ImmutableCollections$List12") (Lb : Fld Z h0 r "java/util/ImmutableCollections$List12" "e0" "Ljava/lang/Object;" (.ref el0)) (Lc : Fld Z h0 r "java/util/ImmutableCollections$List12" "e1" "Ljava/lang/Object;" (.ref el1)) (Sem : Sta Z Z.heap "java/util/ImmutableCollections" "EMPTY" "Ljava/lang/Object;" (.ref we)) (Eem : Exa Z Z.heap we "java/lang/Object") (B0 : Exa Z Z.heap el0 "java/math/BigDecimal") (B1 : Exa Z Z.heap el1 "java/math/BigDecimal") (q1 : ¬ (ag = (((fa + (2 : Int32)) - (1 : Int32)) + (1 : Int32)))) (q2 : ¬ (ag < fa)) (q3 : ¬ (((fa + (2 : Int32)) - (1 : Int32)) < ag)) (q4 : (ag - fa) = (1 : Int32)) :
    own_M l (⟨"com/example/restoria/restoria/mortality/MortalityTable", "rateOfDeath", "(I)Ljava/math/BigDecimal;"⟩ : MethodName) prog_35_method_4_code 2 (some (.object "java/math/BigDecimal")) ws (own_R 2 0 0 26) Z #[(.ref t), (.int ag)] h0 (Qrod21 Z t fa r we el0 el1 ag h0 n0) := by
  refine own_body (plainFor_of_name pn_com_example_restoria_restoria_mortality_MortalityTable) (fun m => ef_rod21 m t ag) ?_
  intro p e s m below meth c s₁ Bd hx hby hml hown hnm X0 e0 hZ
  have N0 := Fr.nil n0
  refine own_g s₁ (mkF m 2 #[rv t, iv ag] [(.ref t), (.int ag)]) (fun _ kq => XS.iloadN X0.here hx rfl (hb hby d45_0) rfl (XS.aloadN X0.here hx rfl (hb hby d45_1) rfl rfl kq)) ?_
  obtain ⟨_, T1, L1, X1, ⟨rfl, Nq1, hh1⟩, st1⟩ := own_cV X0 hx hZ hown (own_W300 hw) (own_W284 hw) (own_W286 hw) (own_W285 hw) (own_W69 hw) (own_W287 hw) (rmlast2 l Z a0 hw [] t fa r we el0 el1 h0 n0 O0 Em G1 G2 La Lb Lc Sem Eem B0 B1) e0 Em (lenOf pd_I_154 rfl) (g := (mkF m 2 #[rv t, iv ag] [(.ref t), (.int ag)])) (argsL := []) (rest := [(.int ag)]) (W := 1) rfl rfl (hb hby d45_2) (by rw [hml]; rfl) (by show 2 * 0 + _ ≤ _; exact Nat.le_of_eq rfl) rfl (by decide) (by decide) (by decide) (by decide) (by decide)
  have N2 := Fr.app N0 Nq1
  refine own_t T1 (mkF m 5 #[rv t, iv ag] [(.int ((fa + (2 : Int32)) - (1 : Int32))), (.int ag)]) st1 ?_
  refine own_g T1 (mkF m 16 #[rv t, iv ag] [(.ref t), (.int ag)]) (fun _ kq => XS.iconst X1.here hx rfl (hb hby d45_5) (XS.iadd X1.here hx rfl (hb hby d45_6) rfl (XS.icmpYes X1.here hx rfl (pc0 := 7) (pc' := 14) rfl (hb hby d45_7) rfl (feq (q1 : ¬ (ag = (((fa + (2 : Int32)) - (1 : Int32)) + (1 : Int32))))).2 (by decide) (by decide) (XS.iloadN X1.here hx rfl (hb hby d45_14) rfl (XS.aloadN X1.here hx rfl (hb hby d45_15) rfl rfl kq))))) ?_
  obtain ⟨T3, X3, e3, st3⟩ := getF X1 hx hZ hown (host := "") (Or.inl (own_W279 hw)) Via.refl hh1 G1 (g := (mkF m 16 #[rv t, iv ag] [(.ref t), (.int ag)])) rfl rfl (hb hby d45_16)
  refine own_g T3 (mkF m 19 #[rv t, iv ag] [(.int fa), (.int ag)]) st3 ?_
  refine own_g T3 (mkF m 24 #[rv t, iv ag] [(.ref t), (.int ag)]) (fun _ kq => XS.icmpNo X3.here hx rfl (hb hby d45_19) rfl (flt (q2 : ¬ (ag < fa))).1 (XS.iloadN X3.here hx rfl (hb hby d45_22) rfl (XS.aloadN X3.here hx rfl (hb hby d45_23) rfl rfl kq))) ?_
  obtain ⟨_, T4, L4, X4, ⟨rfl, Nq4, hh4⟩, st4⟩ := own_cV X3 hx hZ hown (own_W300 hw) (own_W284 hw) (own_W286 hw) (own_W285 hw) (own_W69 hw) (own_W287 hw) (rmlast2 l Z a0 hw [] t fa r we el0 el1 h0 n0 O0 Em G1 G2 La Lb Lc Sem Eem B0 B1) e3 Em (lenOf pd_I_154 rfl) (g := (mkF m 24 #[rv t, iv ag] [(.ref t), (.int ag)])) (argsL := []) (rest := [(.int ag)]) (W := 1) rfl rfl (hb hby d45_24) (by rw [hml]; rfl) (by show 2 * 0 + _ ≤ _; exact Nat.le_of_eq rfl) rfl (by decide) (by decide) (by decide) (by decide) (by decide)
  have N5 := Fr.app N2 Nq4
  refine own_t T4 (mkF m 27 #[rv t, iv ag] [(.int ((fa + (2 : Int32)) - (1 : Int32))), (.int ag)]) st4 ?_
  refine own_g T4 (mkF m 57 #[rv t, iv ag] [(.ref t)]) (fun _ kq => XS.icmpYes X4.here hx rfl (pc0 := 27) (pc' := 56) rfl (hb hby d45_27) rfl (flt (q3 : ¬ (((fa + (2 : Int32)) - (1 : Int32)) < ag))).2.2.2 (by decide) (by decide) (XS.aloadN X4.here hx rfl (hb hby d45_56) rfl rfl kq)) ?_
  obtain ⟨T6, X6, e6, st6⟩ := getF X4 hx hZ hown (host := "") (Or.inl (own_W281 hw)) Via.refl hh4 G2 (g := (mkF m 57 #[rv t, iv ag] [(.ref t)])) rfl rfl (hb hby d45_57)
  refine own_g T6 (mkF m 60 #[rv t, iv ag] [(.ref r)]) st6 ?_
  refine own_g T6 (mkF m 62 #[rv t, iv ag] [(.ref t), (.int ag), (.ref r)]) (fun _ kq => XS.iloadN X6.here hx rfl (hb hby d45_60) rfl (XS.aloadN X6.here hx rfl (hb hby d45_61) rfl rfl kq)) ?_
  obtain ⟨T7, X7, e7, st7⟩ := getF X6 hx hZ hown (host := "") (Or.inl (own_W279 hw)) Via.refl e6 G1 (g := (mkF m 62 #[rv t, iv ag] [(.ref t), (.int ag), (.ref r)])) rfl rfl (hb hby d45_62)
  refine own_g T7 (mkF m 65 #[rv t, iv ag] [(.int fa), (.int ag), (.ref r)]) st7 ?_
  refine own_g T7 (mkF m 66 #[rv t, iv ag] [(.int (ag - fa)), (.ref r)]) (fun _ kq => XS.isub X7.here hx rfl (hb hby d45_65) rfl kq) ?_
  rw [q4]
  obtain ⟨_, T8, L8, X8, ⟨rfl, Nq8, hh8⟩, st8⟩ := own_cF X7 hx hZ hown (own_W152 hw) (own_W153 hw) (mvT hZ (own_W154 hw)) (own_W329 hw) (own_W330 hw) (own_W331 hw) (own_W332 hw) (own_W327 hw) (own_W308 hw) (own_W333 hw) (rmlget21 l Z a0 hw [] r we el0 el1 h0 n0 O0 La Lb Lc Sem Eem B0 B1) e7 La (lenOf pd_I_Ljava_lang_Object_821 rfl) (g := (mkF m 66 #[rv t, iv ag] [(.int (1 : Int32)), (.ref r)])) (argsL := [(.int (1 : Int32))]) (rest := []) (W := 0) rfl rfl (hb hby d45_66) (by rw [hml]; rfl) (by show 2 * 0 + _ ≤ _; exact Nat.le_of_eq rfl) rfl (by decide) (by decide) (by decide) (by decide) (by decide)
  have N9 := Fr.app N5 Nq8
  refine own_t T8 (mkF m 71 #[rv t, iv ag] [(.ref el1)]) st8 ?_
  obtain ⟨T10, X10, e10, st10⟩ := castY X8 hx hZ hown (own_W173 hw) hh8 (Ins.self (B1.ext O0.2)) (g := (mkF m 71 #[rv t, iv ag] [(.ref el1)])) rfl rfl (hb hby d45_71)
  refine own_g T10 (mkF m 74 #[rv t, iv ag] [(.ref el1)]) st10 ?_
  refine own_out X10 Bd.notSynchronized (v := (some (.ref el1))) (fun h => by rw [Bd.returns] at h; cases h) (fun fs hr => own_retA X10 hx Bd.returns rfl rfl rfl (hb hby d45_74) hr) ?_ (by decide) (by decide)
  rw [e10]
  exact ⟨rfl, N9, rfl⟩
theorem ef_rode2 (m : MethodId) (x0 : Addr) (x1 : Int32) : entryFrame m #[(.ref x0), (.int x1)] 2 = mkF m 0 #[.val (.ref x0), .val (.int x1)] [] := by first | (simp [entryFrame, mkF, argsToLocals, Value.category]; done) | rfl
def Qrode2 (Z : State) (t : Addr) (fa : Int32) (r we : Addr) (el0 el1 : Addr) (ag : Int32) (w1 : Addr) (h0 : Heap) (n0 : Nat) (v : Option Value) (h : Heap) (L : List Loc) : Prop := v = some (.ref w1) ∧ Fr n0 L ∧ h = h0
set_option maxRecDepth 65536 in
set_option maxHeartbeats 40000000 in
theorem rmrode2 (l : Launch) (Z : State) (a0 : Array Value) (hw : own_H a0 Z) (ws : List Jvm.Cond) (t : Addr) (fa : Int32) (r we : Addr) (el0 el1 : Addr) (ag : Int32) (w1 : Addr) (h0 : Heap) (n0 : Nat) (O0 : Old Z n0 h0) (Em : Exa Z h0 t "com/example/restoria/restoria/mortality/MortalityTable") (G1 : Fld Z h0 t "com/example/restoria/restoria/mortality/MortalityTable" "firstAge" "I" (.int fa)) (G2 : Fld Z h0 t "com/example/restoria/restoria/mortality/MortalityTable" "rates" "Ljava/util/List;" (.ref r)) (La : Exa Z h0 r "java/util/ImmutableCollections$List12") (Lb : Fld Z h0 r "java/util/ImmutableCollections$List12" "e0" "Ljava/lang/Object;" (.ref el0)) (Lc : Fld Z h0 r "java/util/ImmutableCollections$List12" "e1" "Ljava/lang/Object;" (.ref el1)) (Sem : Sta Z Z.heap "java/util/ImmutableCollections" "EMPTY" "Ljava/lang/Object;" (.ref we)) (Eem : Exa Z Z.heap we "java/lang/Object") (B0 : Exa Z Z.heap el0 "java/math/BigDecimal") (B1 : Exa Z Z.heap el1 "java/math/BigDecimal") (S1 : Sta Z Z.heap "java/math/BigDecimal" "ONE" "Ljava/math/BigDecimal;" (.ref w1)) (q1 : ag = (((fa + (2 : Int32)) - (1 : Int32)) + (1 : Int32))) :
    own_M l (⟨"com/example/restoria/restoria/mortality/MortalityTable", "rateOfDeath", "(I)Ljava/math/BigDecimal;"⟩ : MethodName) prog_35_method_4_code 2 (some (.object "java/math/BigDecimal")) ws (own_R 2 0 0 26) Z #[(.ref t), (.int ag)] h0 (Qrode2 Z t fa r we el0 el1 ag w1 h0 n0) := by
  refine own_body (plainFor_of_name pn_com_example_restoria_restoria_mortality_MortalityTable) (fun m => ef_rode2 m t ag) ?_
  intro p e s m below meth c s₁ Bd hx hby hml hown hnm X0 e0 hZ
  have N0 := Fr.nil n0
  refine own_g s₁ (mkF m 2 #[rv t, iv ag] [(.ref t), (.int ag)]) (fun _ kq => XS.iloadN X0.here hx rfl (hb hby d45_0) rfl (XS.aloadN X0.here hx rfl (hb hby d45_1) rfl rfl kq)) ?_
  obtain ⟨_, T1, L1, X1, ⟨rfl, Nq1, hh1⟩, st1⟩ := own_cV X0 hx hZ hown (own_W300 hw) (own_W284 hw) (own_W286 hw) (own_W285 hw) (own_W69 hw) (own_W287 hw) (rmlast2 l Z a0 hw [] t fa r we el0 el1 h0 n0 O0 Em G1 G2 La Lb Lc Sem Eem B0 B1) e0 Em (lenOf pd_I_154 rfl) (g := (mkF m 2 #[rv t, iv ag] [(.ref t), (.int ag)])) (argsL := []) (rest := [(.int ag)]) (W := 1) rfl rfl (hb hby d45_2) (by rw [hml]; rfl) (by show 2 * 0 + _ ≤ _; exact Nat.le_of_eq rfl) rfl (by decide) (by decide) (by decide) (by decide) (by decide)
  have N2 := Fr.app N0 Nq1
  refine own_t T1 (mkF m 5 #[rv t, iv ag] [(.int ((fa + (2 : Int32)) - (1 : Int32))), (.int ag)]) st1 ?_
  refine own_g T1 (mkF m 10 #[rv t, iv ag] []) (fun _ kq => XS.iconst X1.here hx rfl (hb hby d45_5) (XS.iadd X1.here hx rfl (hb hby d45_6) rfl (XS.icmpNo X1.here hx rfl (hb hby d45_7) rfl (teq (q1 : ag = (((fa + (2 : Int32)) - (1 : Int32)) + (1 : Int32)))).2 kq))) ?_
  obtain ⟨T3, X3, e3, st3⟩ := getS2 X1 hx hZ hown (host := "") (Or.inl (own_W186 hw)) Via.refl hh1 (S1.ext O0.2) (g := (mkF m 10 #[rv t, iv ag] [])) rfl (hb hby d45_10)
  refine own_g T3 (mkF m 13 #[rv t, iv ag] [(.ref w1)]) st3 ?_
  refine own_out X3 Bd.notSynchronized (v := (some (.ref w1))) (fun h => by rw [Bd.returns] at h; cases h) (fun fs hr => own_retA X3 hx Bd.returns rfl rfl rfl (hb hby d45_13) hr) ?_ (by decide) (by decide)
  rw [e3]
  exact ⟨rfl, N2, rfl⟩
theorem d44_0 : decode jdk_45_method_3_code 0 = .ok (.aload_n 0, 1) := by decide +kernel
theorem d44_1 : decode jdk_45_method_3_code 1 = .ok (.getfield 7, 3) := by decide +kernel
theorem d44_4 : decode jdk_45_method_3_code 4 = .ok (.arraylength, 1) := by decide +kernel
theorem d44_5 : decode jdk_45_method_3_code 5 = .ok (.ireturn, 1) := by decide +kernel
theorem ef_lsz3 (m : MethodId) (x0 : Addr) : entryFrame m #[(.ref x0)] 1 = mkF m 0 #[.val (.ref x0)] [] := by first | (simp [entryFrame, mkF, argsToLocals, Value.category]; done) | rfl
def Qlsz3 (Z : State) (r ar we : Addr) (ka : ClassId) (el0 el1 el2 : Addr) (h0 : Heap) (n0 : Nat) (v : Option Value) (h : Heap) (L : List Loc) : Prop := v = some (.int (3 : Int32)) ∧ Fr n0 L ∧ h = h0
set_option maxRecDepth 65536 in
set_option maxHeartbeats 40000000 in
theorem rmlsz3 (l : Launch) (Z : State) (a0 : Array Value) (hw : own_H a0 Z) (ws : List Jvm.Cond) (r ar we : Addr) (ka : ClassId) (el0 el1 el2 : Addr) (h0 : Heap) (n0 : Nat) (O0 : Old Z n0 h0) (La : Exa Z h0 r "java/util/ImmutableCollections$ListN") (Lb : Fld Z h0 r "java/util/ImmutableCollections$ListN" "elements" "[Ljava/lang/Object;" (.ref ar)) (Lc : Arv Z h0 ar ka (.object "java/lang/Object") (3 : Int32) [(.ref el0), (.ref el1), (.ref el2)] .null) (Sem : Sta Z Z.heap "java/util/ImmutableCollections" "EMPTY" "Ljava/lang/Object;" (.ref we)) (Eem : Exa Z Z.heap we "java/lang/Object") (B0 : Exa Z Z.heap el0 "java/math/BigDecimal") (B1 : Exa Z Z.heap el1 "java/math/BigDecimal") (B2 : Exa Z Z.heap el2 "java/math/BigDecimal") :
    own_M l (⟨"java/util/ImmutableCollections$ListN", "size", "()I"⟩ : MethodName) jdk_45_method_3_code 1 (some .int) ws (own_R 0 0 0 0) Z #[(.ref r)] h0 (Qlsz3 Z r ar we ka el0 el1 el2 h0 n0) := by
  refine own_body (plainFor_of_name pn_java_util_ImmutableCollections_ListN) (fun m => ef_lsz3 m r) ?_
  intro p e s m below meth c s₁ Bd hx hby hml hown hnm X0 e0 hZ
  have N0 := Fr.nil n0
  refine own_g s₁ (mkF m 1 #[rv r] [(.ref r)]) (fun _ kq => XS.aloadN X0.here hx rfl (hb hby d44_0) rfl rfl kq) ?_
  obtain ⟨T1, X1, e1, st1⟩ := getF X0 hx hZ hown (host := "") (Or.inl (own_W273 hw)) Via.refl e0 Lb (g := (mkF m 1 #[rv r] [(.ref r)])) rfl rfl (hb hby d44_1)
  refine own_g T1 (mkF m 4 #[rv r] [(.ref ar)]) st1 ?_
  refine own_g T1 (mkF m 5 #[rv r] [(.int (3 : Int32))]) (own_alen X1 hx hZ e1 Lc (g := (mkF m 4 #[rv r] [(.ref ar)])) rfl rfl (hb hby d44_4)) ?_
  refine own_out X1 Bd.notSynchronized (v := (some (.int (3 : Int32)))) (fun h => by rw [Bd.returns] at h; cases h) (fun fs hr => own_retI X1 hx Bd.returns (hb hby d44_5) hr) ?_ (by decide) (by decide)
  rw [e1]
  exact ⟨rfl, N0, rfl⟩
theorem d46_0 : decode jdk_45_method_4_code 0 = .ok (.aload_n 0, 1) := by decide +kernel
theorem d46_1 : decode jdk_45_method_4_code 1 = .ok (.getfield 7, 3) := by decide +kernel
theorem d46_4 : decode jdk_45_method_4_code 4 = .ok (.iload_n 1, 1) := by decide +kernel
theorem d46_5 : decode jdk_45_method_4_code 5 = .ok (.aaload, 1) := by decide +kernel
theorem d46_6 : decode jdk_45_method_4_code 6 = .ok (.areturn, 1) := by decide +kernel
theorem ef_lget30 (m : MethodId) (x0 : Addr) (x1 : Int32) : entryFrame m #[(.ref x0), (.int x1)] 2 = mkF m 0 #[.val (.ref x0), .val (.int x1)] [] := by first | (simp [entryFrame, mkF, argsToLocals, Value.category]; done) | rfl
def Qlget30 (Z : State) (r ar we : Addr) (ka : ClassId) (el0 el1 el2 : Addr) (h0 : Heap) (n0 : Nat) (v : Option Value) (h : Heap) (L : List Loc) : Prop := v = some (.ref el0) ∧ Fr n0 L ∧ h = h0
set_option maxRecDepth 65536 in
set_option maxHeartbeats 40000000 in
theorem rmlget30 (l : Launch) (Z : State) (a0 : Array Value) (hw : own_H a0 Z) (ws : List Jvm.Cond) (r ar we : Addr) (ka : ClassId) (el0 el1 el2 : Addr) (h0 : Heap) (n0 : Nat) (O0 : Old Z n0 h0) (La : Exa Z h0 r "java/util/ImmutableCollections$ListN") (Lb : Fld Z h0 r "java/util/ImmutableCollections$ListN" "elements" "[Ljava/lang/Object;" (.ref ar)) (Lc : Arv Z h0 ar ka (.object "java/lang/Object") (3 : Int32) [(.ref el0), (.ref el1), (.ref el2)] .null) (Sem : Sta Z Z.heap "java/util/ImmutableCollections" "EMPTY" "Ljava/lang/Object;" (.ref we)) (Eem : Exa Z Z.heap we "java/lang/Object") (B0 : Exa Z Z.heap el0 "java/math/BigDecimal") (B1 : Exa Z Z.heap el1 "java/math/BigDecimal") (B2 : Exa Z Z.heap el2 "java/math/BigDecimal") :
    own_M l (⟨"java/util/ImmutableCollections$ListN", "get", "(I)Ljava/lang/Object;"⟩ : MethodName) jdk_45_method_4_code 2 (some (.object "java/lang/Object")) ws (own_R 0 0 0 0) Z #[(.ref r), (.int (0 : Int32))] h0 (Qlget30 Z r ar we ka el0 el1 el2 h0 n0) := by
  refine own_body (plainFor_of_name pn_java_util_ImmutableCollections_ListN) (fun m => ef_lget30 m r (0 : Int32)) ?_
  intro p e s m below meth c s₁ Bd hx hby hml hown hnm X0 e0 hZ
  have N0 := Fr.nil n0
  refine own_g s₁ (mkF m 1 #[rv r, iv (0 : Int32)] [(.ref r)]) (fun _ kq => XS.aloadN X0.here hx rfl (hb hby d46_0) rfl rfl kq) ?_
  obtain ⟨T1, X1, e1, st1⟩ := getF X0 hx hZ hown (host := "") (Or.inl (own_W273 hw)) Via.refl e0 Lb (g := (mkF m 1 #[rv r, iv (0 : Int32)] [(.ref r)])) rfl rfl (hb hby d46_1)
  refine own_g T1 (mkF m 4 #[rv r, iv (0 : Int32)] [(.ref ar)]) st1 ?_
  refine own_g T1 (mkF m 5 #[rv r, iv (0 : Int32)] [(.int (0 : Int32)), (.ref ar)]) (fun _ kq => XS.iloadN X1.here hx rfl (hb hby d46_4) rfl kq) ?_
  obtain ⟨cl2, Ar2, q2, S2, Nn2, H2, G2⟩ := id Lc
  have hin3 : ¬ ((0 : Int32) < 0 ∨ cl2.slots.size ≤ ((0 : Int32)).toNatClampNeg) := inb_of S2 ⟨by decide, by decide⟩
  have hat3 : cl2.slots[((0 : Int32)).toNatClampNeg]? = some (.ref el0) := Has.at H2 hin3 rfl
  refine own_g T1 (mkF m 6 #[rv r, iv (0 : Int32)] [(.ref el0)]) (X1.aaload hx (j := (0 : Int32)) (v := (.ref el0)) (by rw [e1]; exact Ar2.1) (State.isArrayOf_alike hZ.alike Ar2.2.1) rfl Ar2.2.2 hin3 hat3 (g := (mkF m 5 #[rv r, iv (0 : Int32)] [(.int (0 : Int32)), (.ref ar)])) rfl rfl (hb hby d46_5)) ?_
  refine own_out X1 Bd.notSynchronized (v := (some (.ref el0))) (fun h => by rw [Bd.returns] at h; cases h) (fun fs hr => own_retA X1 hx Bd.returns rfl rfl rfl (hb hby d46_6) hr) ?_ (by decide) (by decide)
  rw [e1]
  exact ⟨rfl, N0, rfl⟩
theorem ef_lget31 (m : MethodId) (x0 : Addr) (x1 : Int32) : entryFrame m #[(.ref x0), (.int x1)] 2 = mkF m 0 #[.val (.ref x0), .val (.int x1)] [] := by first | (simp [entryFrame, mkF, argsToLocals, Value.category]; done) | rfl
def Qlget31 (Z : State) (r ar we : Addr) (ka : ClassId) (el0 el1 el2 : Addr) (h0 : Heap) (n0 : Nat) (v : Option Value) (h : Heap) (L : List Loc) : Prop := v = some (.ref el1) ∧ Fr n0 L ∧ h = h0
set_option maxRecDepth 65536 in
set_option maxHeartbeats 40000000 in
theorem rmlget31 (l : Launch) (Z : State) (a0 : Array Value) (hw : own_H a0 Z) (ws : List Jvm.Cond) (r ar we : Addr) (ka : ClassId) (el0 el1 el2 : Addr) (h0 : Heap) (n0 : Nat) (O0 : Old Z n0 h0) (La : Exa Z h0 r "java/util/ImmutableCollections$ListN") (Lb : Fld Z h0 r "java/util/ImmutableCollections$ListN" "elements" "[Ljava/lang/Object;" (.ref ar)) (Lc : Arv Z h0 ar ka (.object "java/lang/Object") (3 : Int32) [(.ref el0), (.ref el1), (.ref el2)] .null) (Sem : Sta Z Z.heap "java/util/ImmutableCollections" "EMPTY" "Ljava/lang/Object;" (.ref we)) (Eem : Exa Z Z.heap we "java/lang/Object") (B0 : Exa Z Z.heap el0 "java/math/BigDecimal") (B1 : Exa Z Z.heap el1 "java/math/BigDecimal") (B2 : Exa Z Z.heap el2 "java/math/BigDecimal") :
    own_M l (⟨"java/util/ImmutableCollections$ListN", "get", "(I)Ljava/lang/Object;"⟩ : MethodName) jdk_45_method_4_code 2 (some (.object "java/lang/Object")) ws (own_R 0 0 0 0) Z #[(.ref r), (.int (1 : Int32))] h0 (Qlget31 Z r ar we ka el0 el1 el2 h0 n0) := by
  refine own_body (plainFor_of_name pn_java_util_ImmutableCollections_ListN) (fun m => ef_lget31 m r (1 : Int32)) ?_
  intro p e s m below meth c s₁ Bd hx hby hml hown hnm X0 e0 hZ
  have N0 := Fr.nil n0
  refine own_g s₁ (mkF m 1 #[rv r, iv (1 : Int32)] [(.ref r)]) (fun _ kq => XS.aloadN X0.here hx rfl (hb hby d46_0) rfl rfl kq) ?_
  obtain ⟨T1, X1, e1, st1⟩ := getF X0 hx hZ hown (host := "") (Or.inl (own_W273 hw)) Via.refl e0 Lb (g := (mkF m 1 #[rv r, iv (1 : Int32)] [(.ref r)])) rfl rfl (hb hby d46_1)
  refine own_g T1 (mkF m 4 #[rv r, iv (1 : Int32)] [(.ref ar)]) st1 ?_
  refine own_g T1 (mkF m 5 #[rv r, iv (1 : Int32)] [(.int (1 : Int32)), (.ref ar)]) (fun _ kq => XS.iloadN X1.here hx rfl (hb hby d46_4) rfl kq) ?_
  obtain ⟨cl2, Ar2, q2, S2, Nn2, H2, G2⟩ := id Lc
  have hin3 : ¬ ((1 : Int32) < 0 ∨ cl2.slots.size ≤ ((1 : Int32)).toNatClampNeg) := inb_of S2 ⟨by decide, by decide⟩
  have hat3 : cl2.slots[((1 : Int32)).toNatClampNeg]? = some (.ref el1) := Has.at H2 hin3 rfl
  refine own_g T1 (mkF m 6 #[rv r, iv (1 : Int32)] [(.ref el1)]) (X1.aaload hx (j := (1 : Int32)) (v := (.ref el1)) (by rw [e1]; exact Ar2.1) (State.isArrayOf_alike hZ.alike Ar2.2.1) rfl Ar2.2.2 hin3 hat3 (g := (mkF m 5 #[rv r, iv (1 : Int32)] [(.int (1 : Int32)), (.ref ar)])) rfl rfl (hb hby d46_5)) ?_
  refine own_out X1 Bd.notSynchronized (v := (some (.ref el1))) (fun h => by rw [Bd.returns] at h; cases h) (fun fs hr => own_retA X1 hx Bd.returns rfl rfl rfl (hb hby d46_6) hr) ?_ (by decide) (by decide)
  rw [e1]
  exact ⟨rfl, N0, rfl⟩
theorem ef_lget32 (m : MethodId) (x0 : Addr) (x1 : Int32) : entryFrame m #[(.ref x0), (.int x1)] 2 = mkF m 0 #[.val (.ref x0), .val (.int x1)] [] := by first | (simp [entryFrame, mkF, argsToLocals, Value.category]; done) | rfl
def Qlget32 (Z : State) (r ar we : Addr) (ka : ClassId) (el0 el1 el2 : Addr) (h0 : Heap) (n0 : Nat) (v : Option Value) (h : Heap) (L : List Loc) : Prop := v = some (.ref el2) ∧ Fr n0 L ∧ h = h0
set_option maxRecDepth 65536 in
set_option maxHeartbeats 40000000 in
theorem rmlget32 (l : Launch) (Z : State) (a0 : Array Value) (hw : own_H a0 Z) (ws : List Jvm.Cond) (r ar we : Addr) (ka : ClassId) (el0 el1 el2 : Addr) (h0 : Heap) (n0 : Nat) (O0 : Old Z n0 h0) (La : Exa Z h0 r "java/util/ImmutableCollections$ListN") (Lb : Fld Z h0 r "java/util/ImmutableCollections$ListN" "elements" "[Ljava/lang/Object;" (.ref ar)) (Lc : Arv Z h0 ar ka (.object "java/lang/Object") (3 : Int32) [(.ref el0), (.ref el1), (.ref el2)] .null) (Sem : Sta Z Z.heap "java/util/ImmutableCollections" "EMPTY" "Ljava/lang/Object;" (.ref we)) (Eem : Exa Z Z.heap we "java/lang/Object") (B0 : Exa Z Z.heap el0 "java/math/BigDecimal") (B1 : Exa Z Z.heap el1 "java/math/BigDecimal") (B2 : Exa Z Z.heap el2 "java/math/BigDecimal") :
    own_M l (⟨"java/util/ImmutableCollections$ListN", "get", "(I)Ljava/lang/Object;"⟩ : MethodName) jdk_45_method_4_code 2 (some (.object "java/lang/Object")) ws (own_R 0 0 0 0) Z #[(.ref r), (.int (2 : Int32))] h0 (Qlget32 Z r ar we ka el0 el1 el2 h0 n0) := by
  refine own_body (plainFor_of_name pn_java_util_ImmutableCollections_ListN) (fun m => ef_lget32 m r (2 : Int32)) ?_
  intro p e s m below meth c s₁ Bd hx hby hml hown hnm X0 e0 hZ
  have N0 := Fr.nil n0
  refine own_g s₁ (mkF m 1 #[rv r, iv (2 : Int32)] [(.ref r)]) (fun _ kq => XS.aloadN X0.here hx rfl (hb hby d46_0) rfl rfl kq) ?_
  obtain ⟨T1, X1, e1, st1⟩ := getF X0 hx hZ hown (host := "") (Or.inl (own_W273 hw)) Via.refl e0 Lb (g := (mkF m 1 #[rv r, iv (2 : Int32)] [(.ref r)])) rfl rfl (hb hby d46_1)
  refine own_g T1 (mkF m 4 #[rv r, iv (2 : Int32)] [(.ref ar)]) st1 ?_
  refine own_g T1 (mkF m 5 #[rv r, iv (2 : Int32)] [(.int (2 : Int32)), (.ref ar)]) (fun _ kq => XS.iloadN X1.here hx rfl (hb hby d46_4) rfl kq) ?_
  obtain ⟨cl2, Ar2, q2, S2, Nn2, H2, G2⟩ := id Lc
  have hin3 : ¬ ((2 : Int32) < 0 ∨ cl2.slots.size ≤ ((2 : Int32)).toNatClampNeg) := inb_of S2 ⟨by decide, by decide⟩
  have hat3 : cl2.slots[((2 : Int32)).toNatClampNeg]? = some (.ref el2) := Has.at H2 hin3 rfl
  refine own_g T1 (mkF m 6 #[rv r, iv (2 : Int32)] [(.ref el2)]) (X1.aaload hx (j := (2 : Int32)) (v := (.ref el2)) (by rw [e1]; exact Ar2.1) (State.isArrayOf_alike hZ.alike Ar2.2.1) rfl Ar2.2.2 hin3 hat3 (g := (mkF m 5 #[rv r, iv (2 : Int32)] [(.int (2 : Int32)), (.ref ar)])) rfl rfl (hb hby d46_5)) ?_
  refine own_out X1 Bd.notSynchronized (v := (some (.ref el2))) (fun h => by rw [Bd.returns] at h; cases h) (fun fs hr => own_retA X1 hx Bd.returns rfl rfl rfl (hb hby d46_6) hr) ?_ (by decide) (by decide)
  rw [e1]
  exact ⟨rfl, N0, rfl⟩
def own_W293 {a0 Z} (hw : own_H a0 Z) := hw _ (List.mem_of_getElem? (i := 293) rfl)
def own_W288 {a0 Z} (hw : own_H a0 Z) := hw _ (List.mem_of_getElem? (i := 288) rfl)
def own_W289 {a0 Z} (hw : own_H a0 Z) := hw _ (List.mem_of_getElem? (i := 289) rfl)
def own_W290 {a0 Z} (hw : own_H a0 Z) := hw _ (List.mem_of_getElem? (i := 290) rfl)
def own_W291 {a0 Z} (hw : own_H a0 Z) := hw _ (List.mem_of_getElem? (i := 291) rfl)
def own_W292 {a0 Z} (hw : own_H a0 Z) := hw _ (List.mem_of_getElem? (i := 292) rfl)
theorem ef_last3 (m : MethodId) (x0 : Addr) : entryFrame m #[(.ref x0)] 1 = mkF m 0 #[.val (.ref x0)] [] := by first | (simp [entryFrame, mkF, argsToLocals, Value.category]; done) | rfl
def Qlast3 (Z : State) (t : Addr) (fa : Int32) (r ar we : Addr) (ka : ClassId) (el0 el1 el2 : Addr) (h0 : Heap) (n0 : Nat) (v : Option Value) (h : Heap) (L : List Loc) : Prop := v = some (.int ((fa + (3 : Int32)) - (1 : Int32))) ∧ Fr n0 L ∧ h = h0
set_option maxRecDepth 65536 in
set_option maxHeartbeats 40000000 in
theorem rmlast3 (l : Launch) (Z : State) (a0 : Array Value) (hw : own_H a0 Z) (ws : List Jvm.Cond) (t : Addr) (fa : Int32) (r ar we : Addr) (ka : ClassId) (el0 el1 el2 : Addr) (h0 : Heap) (n0 : Nat) (O0 : Old Z n0 h0) (Em : Exa Z h0 t "com/example/restoria/restoria/mortality/MortalityTable") (G1 : Fld Z h0 t "com/example/restoria/restoria/mortality/MortalityTable" "firstAge" "I" (.int fa)) (G2 : Fld Z h0 t "com/example/restoria/restoria/mortality/MortalityTable" "rates" "Ljava/util/List;" (.ref r)) (La : Exa Z h0 r "java/util/ImmutableCollections$ListN") (Lb : Fld Z h0 r "java/util/ImmutableCollections$ListN" "elements" "[Ljava/lang/Object;" (.ref ar)) (Lc : Arv Z h0 ar ka (.object "java/lang/Object") (3 : Int32) [(.ref el0), (.ref el1), (.ref el2)] .null) (Sem : Sta Z Z.heap "java/util/ImmutableCollections" "EMPTY" "Ljava/lang/Object;" (.ref we)) (Eem : Exa Z Z.heap we "java/lang/Object") (B0 : Exa Z Z.heap el0 "java/math/BigDecimal") (B1 : Exa Z Z.heap el1 "java/math/BigDecimal") (B2 : Exa Z Z.heap el2 "java/math/BigDecimal") :
    own_M l (⟨"com/example/restoria/restoria/mortality/MortalityTable", "lastAge", "()I"⟩ : MethodName) prog_35_method_2_code 1 (some .int) ws (own_R 1 0 0 13) Z #[(.ref t)] h0 (Qlast3 Z t fa r ar we ka el0 el1 el2 h0 n0) := by
  refine own_body (plainFor_of_name pn_com_example_restoria_restoria_mortality_MortalityTable) (fun m => ef_last3 m t) ?_
  intro p e s m below meth c s₁ Bd hx hby hml hown hnm X0 e0 hZ
  have N0 := Fr.nil n0
  refine own_g s₁ (mkF m 1 #[rv t] [(.ref t)]) (fun _ kq => XS.aloadN X0.here hx rfl (hb hby d43_0) rfl rfl kq) ?_
  obtain ⟨T1, X1, e1, st1⟩ := getF X0 hx hZ hown (host := "") (Or.inl (own_W279 hw)) Via.refl e0 G1 (g := (mkF m 1 #[rv t] [(.ref t)])) rfl rfl (hb hby d43_1)
  refine own_g T1 (mkF m 4 #[rv t] [(.int fa)]) st1 ?_
  refine own_g T1 (mkF m 5 #[rv t] [(.ref t), (.int fa)]) (fun _ kq => XS.aloadN X1.here hx rfl (hb hby d43_4) rfl rfl kq) ?_
  obtain ⟨T2, X2, e2, st2⟩ := getF X1 hx hZ hown (host := "") (Or.inl (own_W281 hw)) Via.refl e1 G2 (g := (mkF m 5 #[rv t] [(.ref t), (.int fa)])) rfl rfl (hb hby d43_5)
  refine own_g T2 (mkF m 8 #[rv t] [(.ref r), (.int fa)]) st2 ?_
  obtain ⟨_, T3, L3, X3, ⟨rfl, Nq3, hh3⟩, st3⟩ := own_cF X2 hx hZ hown (own_W144 hw) (own_W145 hw) (mvT hZ (own_W146 hw)) (own_W288 hw) (own_W289 hw) (own_W290 hw) (own_W291 hw) (own_W292 hw) (own_W254 hw) (own_W293 hw) (rmlsz3 l Z a0 hw [] r ar we ka el0 el1 el2 h0 n0 O0 La Lb Lc Sem Eem B0 B1 B2) e2 La (lenOf pd_I_154 rfl) (g := (mkF m 8 #[rv t] [(.ref r), (.int fa)])) (argsL := []) (rest := [(.int fa)]) (W := 1) rfl rfl (hb hby d43_8) (by rw [hml]; rfl) (by show 2 * 0 + _ ≤ _; exact Nat.le_of_eq rfl) rfl (by decide) (by decide) (by decide) (by decide) (by decide)
  have N4 := Fr.app N0 Nq3
  refine own_t T3 (mkF m 13 #[rv t] [(.int (3 : Int32)), (.int fa)]) st3 ?_
  refine own_g T3 (mkF m 16 #[rv t] [(.int ((fa + (3 : Int32)) - (1 : Int32)))]) (fun _ kq => XS.iadd X3.here hx rfl (hb hby d43_13) rfl (XS.iconst X3.here hx rfl (hb hby d43_14) (XS.isub X3.here hx rfl (hb hby d43_15) rfl kq))) ?_
  refine own_out X3 Bd.notSynchronized (v := (some (.int ((fa + (3 : Int32)) - (1 : Int32))))) (fun h => by rw [Bd.returns] at h; cases h) (fun fs hr => own_retI X3 hx Bd.returns (hb hby d43_16) hr) ?_ (by decide) (by decide)
  rw [hh3]
  exact ⟨rfl, N4, rfl⟩
def own_W305 {a0 Z} (hw : own_H a0 Z) := hw _ (List.mem_of_getElem? (i := 305) rfl)
def own_W301 {a0 Z} (hw : own_H a0 Z) := hw _ (List.mem_of_getElem? (i := 301) rfl)
def own_W302 {a0 Z} (hw : own_H a0 Z) := hw _ (List.mem_of_getElem? (i := 302) rfl)
def own_W303 {a0 Z} (hw : own_H a0 Z) := hw _ (List.mem_of_getElem? (i := 303) rfl)
def own_W304 {a0 Z} (hw : own_H a0 Z) := hw _ (List.mem_of_getElem? (i := 304) rfl)
theorem ef_rod30 (m : MethodId) (x0 : Addr) (x1 : Int32) : entryFrame m #[(.ref x0), (.int x1)] 2 = mkF m 0 #[.val (.ref x0), .val (.int x1)] [] := by first | (simp [entryFrame, mkF, argsToLocals, Value.category]; done) | rfl
def Qrod30 (Z : State) (t : Addr) (fa : Int32) (r ar we : Addr) (ka : ClassId) (el0 el1 el2 : Addr) (ag : Int32) (h0 : Heap) (n0 : Nat) (v : Option Value) (h : Heap) (L : List Loc) : Prop := v = some (.ref el0) ∧ Fr n0 L ∧ h = h0
set_option maxRecDepth 65536 in
set_option maxHeartbeats 40000000 in
theorem rmrod30 (l : Launch) (Z : State) (a0 : Array Value) (hw : own_H a0 Z) (ws : List Jvm.Cond) (t : Addr) (fa : Int32) (r ar we : Addr) (ka : ClassId) (el0 el1 el2 : Addr) (ag : Int32) (h0 : Heap) (n0 : Nat) (O0 : Old Z n0 h0) (Em : Exa Z h0 t "com/example/restoria/restoria/mortality/MortalityTable") (G1 : Fld Z h0 t "com/example/restoria/restoria/mortality/MortalityTable" "firstAge" "I" (.int fa)) (G2 : Fld Z h0 t "com/example/restoria/restoria/mortality/MortalityTable" "rates" "Ljava/util/List;" (.ref r)) (La : Exa Z h0 r "java/util/ImmutableCollections$ListN") (Lb : Fld Z h0 r "java/util/ImmutableCollections$ListN" "elements" "[Ljava/lang/Object;" (.ref ar)) (Lc : Arv Z h0 ar ka (.object "java/lang/Object") (3 : Int32) [(.ref el0), (.ref el1), (.ref el2)] .null) (Sem : Sta Z Z.heap "java/util/ImmutableCollections" "EMPTY" "Ljava/lang/Object;" (.ref we)) (Eem : Exa Z Z.heap we "java/lang/Object") (B0 : Exa Z Z.heap el0 "java/math/BigDecimal") (B1 : Exa Z Z.heap el1 "java/math/BigDecimal") (B2 : Exa Z Z.heap el2 "java/math/BigDecimal") (q1 : ¬ (ag = (((fa + (3 : Int32)) - (1 : Int32)) + (1 : Int32)))) (q2 : ¬ (ag < fa)) (q3 : ¬ (((fa + (3 : Int32)) - (1 : Int32)) < ag)) (q4 : (ag - fa) = (0 : Int32)) :
    own_M l (⟨"com/example/restoria/restoria/mortality/MortalityTable", "rateOfDeath", "(I)Ljava/math/BigDecimal;"⟩ : MethodName) prog_35_method_4_code 2 (some (.object "java/math/BigDecimal")) ws (own_R 2 0 0 26) Z #[(.ref t), (.int ag)] h0 (Qrod30 Z t fa r ar we ka el0 el1 el2 ag h0 n0) := by
  refine own_body (plainFor_of_name pn_com_example_restoria_restoria_mortality_MortalityTable) (fun m => ef_rod30 m t ag) ?_
  intro p e s m below meth c s₁ Bd hx hby hml hown hnm X0 e0 hZ
  have N0 := Fr.nil n0
  refine own_g s₁ (mkF m 2 #[rv t, iv ag] [(.ref t), (.int ag)]) (fun _ kq => XS.iloadN X0.here hx rfl (hb hby d45_0) rfl (XS.aloadN X0.here hx rfl (hb hby d45_1) rfl rfl kq)) ?_
  obtain ⟨_, T1, L1, X1, ⟨rfl, Nq1, hh1⟩, st1⟩ := own_cV X0 hx hZ hown (own_W300 hw) (own_W284 hw) (own_W286 hw) (own_W285 hw) (own_W69 hw) (own_W287 hw) (rmlast3 l Z a0 hw [] t fa r ar we ka el0 el1 el2 h0 n0 O0 Em G1 G2 La Lb Lc Sem Eem B0 B1 B2) e0 Em (lenOf pd_I_154 rfl) (g := (mkF m 2 #[rv t, iv ag] [(.ref t), (.int ag)])) (argsL := []) (rest := [(.int ag)]) (W := 1) rfl rfl (hb hby d45_2) (by rw [hml]; rfl) (by show 2 * 0 + _ ≤ _; exact Nat.le_of_eq rfl) rfl (by decide) (by decide) (by decide) (by decide) (by decide)
  have N2 := Fr.app N0 Nq1
  refine own_t T1 (mkF m 5 #[rv t, iv ag] [(.int ((fa + (3 : Int32)) - (1 : Int32))), (.int ag)]) st1 ?_
  refine own_g T1 (mkF m 16 #[rv t, iv ag] [(.ref t), (.int ag)]) (fun _ kq => XS.iconst X1.here hx rfl (hb hby d45_5) (XS.iadd X1.here hx rfl (hb hby d45_6) rfl (XS.icmpYes X1.here hx rfl (pc0 := 7) (pc' := 14) rfl (hb hby d45_7) rfl (feq (q1 : ¬ (ag = (((fa + (3 : Int32)) - (1 : Int32)) + (1 : Int32))))).2 (by decide) (by decide) (XS.iloadN X1.here hx rfl (hb hby d45_14) rfl (XS.aloadN X1.here hx rfl (hb hby d45_15) rfl rfl kq))))) ?_
  obtain ⟨T3, X3, e3, st3⟩ := getF X1 hx hZ hown (host := "") (Or.inl (own_W279 hw)) Via.refl hh1 G1 (g := (mkF m 16 #[rv t, iv ag] [(.ref t), (.int ag)])) rfl rfl (hb hby d45_16)
  refine own_g T3 (mkF m 19 #[rv t, iv ag] [(.int fa), (.int ag)]) st3 ?_
  refine own_g T3 (mkF m 24 #[rv t, iv ag] [(.ref t), (.int ag)]) (fun _ kq => XS.icmpNo X3.here hx rfl (hb hby d45_19) rfl (flt (q2 : ¬ (ag < fa))).1 (XS.iloadN X3.here hx rfl (hb hby d45_22) rfl (XS.aloadN X3.here hx rfl (hb hby d45_23) rfl rfl kq))) ?_
  obtain ⟨_, T4, L4, X4, ⟨rfl, Nq4, hh4⟩, st4⟩ := own_cV X3 hx hZ hown (own_W300 hw) (own_W284 hw) (own_W286 hw) (own_W285 hw) (own_W69 hw) (own_W287 hw) (rmlast3 l Z a0 hw [] t fa r ar we ka el0 el1 el2 h0 n0 O0 Em G1 G2 La Lb Lc Sem Eem B0 B1 B2) e3 Em (lenOf pd_I_154 rfl) (g := (mkF m 24 #[rv t, iv ag] [(.ref t), (.int ag)])) (argsL := []) (rest := [(.int ag)]) (W := 1) rfl rfl (hb hby d45_24) (by rw [hml]; rfl) (by show 2 * 0 + _ ≤ _; exact Nat.le_of_eq rfl) rfl (by decide) (by decide) (by decide) (by decide) (by decide)
  have N5 := Fr.app N2 Nq4
  refine own_t T4 (mkF m 27 #[rv t, iv ag] [(.int ((fa + (3 : Int32)) - (1 : Int32))), (.int ag)]) st4 ?_
  refine own_g T4 (mkF m 57 #[rv t, iv ag] [(.ref t)]) (fun _ kq => XS.icmpYes X4.here hx rfl (pc0 := 27) (pc' := 56) rfl (hb hby d45_27) rfl (flt (q3 : ¬ (((fa + (3 : Int32)) - (1 : Int32)) < ag))).2.2.2 (by decide) (by decide) (XS.aloadN X4.here hx rfl (hb hby d45_56) rfl rfl kq)) ?_
  obtain ⟨T6, X6, e6, st6⟩ := getF X4 hx hZ hown (host := "") (Or.inl (own_W281 hw)) Via.refl hh4 G2 (g := (mkF m 57 #[rv t, iv ag] [(.ref t)])) rfl rfl (hb hby d45_57)
  refine own_g T6 (mkF m 60 #[rv t, iv ag] [(.ref r)]) st6 ?_
  refine own_g T6 (mkF m 62 #[rv t, iv ag] [(.ref t), (.int ag), (.ref r)]) (fun _ kq => XS.iloadN X6.here hx rfl (hb hby d45_60) rfl (XS.aloadN X6.here hx rfl (hb hby d45_61) rfl rfl kq)) ?_
  obtain ⟨T7, X7, e7, st7⟩ := getF X6 hx hZ hown (host := "") (Or.inl (own_W279 hw)) Via.refl e6 G1 (g := (mkF m 62 #[rv t, iv ag] [(.ref t), (.int ag), (.ref r)])) rfl rfl (hb hby d45_62)
  refine own_g T7 (mkF m 65 #[rv t, iv ag] [(.int fa), (.int ag), (.ref r)]) st7 ?_
  refine own_g T7 (mkF m 66 #[rv t, iv ag] [(.int (ag - fa)), (.ref r)]) (fun _ kq => XS.isub X7.here hx rfl (hb hby d45_65) rfl kq) ?_
  rw [q4]
  obtain ⟨_, T8, L8, X8, ⟨rfl, Nq8, hh8⟩, st8⟩ := own_cF X7 hx hZ hown (own_W152 hw) (own_W153 hw) (mvT hZ (own_W154 hw)) (own_W301 hw) (own_W302 hw) (own_W303 hw) (own_W304 hw) (own_W292 hw) (own_W254 hw) (own_W305 hw) (rmlget30 l Z a0 hw [] r ar we ka el0 el1 el2 h0 n0 O0 La Lb Lc Sem Eem B0 B1 B2) e7 La (lenOf pd_I_Ljava_lang_Object_821 rfl) (g := (mkF m 66 #[rv t, iv ag] [(.int (0 : Int32)), (.ref r)])) (argsL := [(.int (0 : Int32))]) (rest := []) (W := 0) rfl rfl (hb hby d45_66) (by rw [hml]; rfl) (by show 2 * 0 + _ ≤ _; exact Nat.le_of_eq rfl) rfl (by decide) (by decide) (by decide) (by decide) (by decide)
  have N9 := Fr.app N5 Nq8
  refine own_t T8 (mkF m 71 #[rv t, iv ag] [(.ref el0)]) st8 ?_
  obtain ⟨T10, X10, e10, st10⟩ := castY X8 hx hZ hown (own_W173 hw) hh8 (Ins.self (B0.ext O0.2)) (g := (mkF m 71 #[rv t, iv ag] [(.ref el0)])) rfl rfl (hb hby d45_71)
  refine own_g T10 (mkF m 74 #[rv t, iv ag] [(.ref el0)]) st10 ?_
  refine own_out X10 Bd.notSynchronized (v := (some (.ref el0))) (fun h => by rw [Bd.returns] at h; cases h) (fun fs hr => own_retA X10 hx Bd.returns rfl rfl rfl (hb hby d45_74) hr) ?_ (by decide) (by decide)
  rw [e10]
  exact ⟨rfl, N9, rfl⟩
theorem ef_rod31 (m : MethodId) (x0 : Addr) (x1 : Int32) : entryFrame m #[(.ref x0), (.int x1)] 2 = mkF m 0 #[.val (.ref x0), .val (.int x1)] [] := by first | (simp [entryFrame, mkF, argsToLocals, Value.category]; done) | rfl
def Qrod31 (Z : State) (t : Addr) (fa : Int32) (r ar we : Addr) (ka : ClassId) (el0 el1 el2 : Addr) (ag : Int32) (h0 : Heap) (n0 : Nat) (v : Option Value) (h : Heap) (L : List Loc) : Prop := v = some (.ref el1) ∧ Fr n0 L ∧ h = h0
set_option maxRecDepth 65536 in
set_option maxHeartbeats 40000000 in
theorem rmrod31 (l : Launch) (Z : State) (a0 : Array Value) (hw : own_H a0 Z) (ws : List Jvm.Cond) (t : Addr) (fa : Int32) (r ar we : Addr) (ka : ClassId) (el0 el1 el2 : Addr) (ag : Int32) (h0 : Heap) (n0 : Nat) (O0 : Old Z n0 h0) (Em : Exa Z h0 t "com/example/restoria/restoria/mortality/MortalityTable") (G1 : Fld Z h0 t "com/example/restoria/restoria/mortality/MortalityTable" "firstAge" "I" (.int fa)) (G2 : Fld Z h0 t "com/example/restoria/restoria/mortality/MortalityTable" "rates" "Ljava/util/List;" (.ref r)) (La : Exa Z h0 r "java/util/ImmutableCollections$ListN") (Lb : Fld Z h0 r "java/util/ImmutableCollections$ListN" "elements" "[Ljava/lang/Object;" (.ref ar)) (Lc : Arv Z h0 ar ka (.object "java/lang/Object") (3 : Int32) [(.ref el0), (.ref el1), (.ref el2)] .null) (Sem : Sta Z Z.heap "java/util/ImmutableCollections" "EMPTY" "Ljava/lang/Object;" (.ref we)) (Eem : Exa Z Z.heap we "java/lang/Object") (B0 : Exa Z Z.heap el0 "java/math/BigDecimal") (B1 : Exa Z Z.heap el1 "java/math/BigDecimal") (B2 : Exa Z Z.heap el2 "java/math/BigDecimal") (q1 : ¬ (ag = (((fa + (3 : Int32)) - (1 : Int32)) + (1 : Int32)))) (q2 : ¬ (ag < fa)) (q3 : ¬ (((fa + (3 : Int32)) - (1 : Int32)) < ag)) (q4 : (ag - fa) = (1 : Int32)) :
    own_M l (⟨"com/example/restoria/restoria/mortality/MortalityTable", "rateOfDeath", "(I)Ljava/math/BigDecimal;"⟩ : MethodName) prog_35_method_4_code 2 (some (.object "java/math/BigDecimal")) ws (own_R 2 0 0 26) Z #[(.ref t), (.int ag)] h0 (Qrod31 Z t fa r ar we ka el0 el1 el2 ag h0 n0) := by
  refine own_body (plainFor_of_name pn_com_example_restoria_restoria_mortality_MortalityTable) (fun m => ef_rod31 m t ag) ?_
  intro p e s m below meth c s₁ Bd hx hby hml hown hnm X0 e0 hZ
  have N0 := Fr.nil n0
  refine own_g s₁ (mkF m 2 #[rv t, iv ag] [(.ref t), (.int ag)]) (fun _ kq => XS.iloadN X0.here hx rfl (hb hby d45_0) rfl (XS.aloadN X0.here hx rfl (hb hby d45_1) rfl rfl kq)) ?_
  obtain ⟨_, T1, L1, X1, ⟨rfl, Nq1, hh1⟩, st1⟩ := own_cV X0 hx hZ hown (own_W300 hw) (own_W284 hw) (own_W286 hw) (own_W285 hw) (own_W69 hw) (own_W287 hw) (rmlast3 l Z a0 hw [] t fa r ar we ka el0 el1 el2 h0 n0 O0 Em G1 G2 La Lb Lc Sem Eem B0 B1 B2) e0 Em (lenOf pd_I_154 rfl) (g := (mkF m 2 #[rv t, iv ag] [(.ref t), (.int ag)])) (argsL := []) (rest := [(.int ag)]) (W := 1) rfl rfl (hb hby d45_2) (by rw [hml]; rfl) (by show 2 * 0 + _ ≤ _; exact Nat.le_of_eq rfl) rfl (by decide) (by decide) (by decide) (by decide) (by decide)
  have N2 := Fr.app N0 Nq1
  refine own_t T1 (mkF m 5 #[rv t, iv ag] [(.int ((fa + (3 : Int32)) - (1 : Int32))), (.int ag)]) st1 ?_
  refine own_g T1 (mkF m 16 #[rv t, iv ag] [(.ref t), (.int ag)]) (fun _ kq => XS.iconst X1.here hx rfl (hb hby d45_5) (XS.iadd X1.here hx rfl (hb hby d45_6) rfl (XS.icmpYes X1.here hx rfl (pc0 := 7) (pc' := 14) rfl (hb hby d45_7) rfl (feq (q1 : ¬ (ag = (((fa + (3 : Int32)) - (1 : Int32)) + (1 : Int32))))).2 (by decide) (by decide) (XS.iloadN X1.here hx rfl (hb hby d45_14) rfl (XS.aloadN X1.here hx rfl (hb hby d45_15) rfl rfl kq))))) ?_
  obtain ⟨T3, X3, e3, st3⟩ := getF X1 hx hZ hown (host := "") (Or.inl (own_W279 hw)) Via.refl hh1 G1 (g := (mkF m 16 #[rv t, iv ag] [(.ref t), (.int ag)])) rfl rfl (hb hby d45_16)
  refine own_g T3 (mkF m 19 #[rv t, iv ag] [(.int fa), (.int ag)]) st3 ?_
  refine own_g T3 (mkF m 24 #[rv t, iv ag] [(.ref t), (.int ag)]) (fun _ kq => XS.icmpNo X3.here hx rfl (hb hby d45_19) rfl (flt (q2 : ¬ (ag < fa))).1 (XS.iloadN X3.here hx rfl (hb hby d45_22) rfl (XS.aloadN X3.here hx rfl (hb hby d45_23) rfl rfl kq))) ?_
  obtain ⟨_, T4, L4, X4, ⟨rfl, Nq4, hh4⟩, st4⟩ := own_cV X3 hx hZ hown (own_W300 hw) (own_W284 hw) (own_W286 hw) (own_W285 hw) (own_W69 hw) (own_W287 hw) (rmlast3 l Z a0 hw [] t fa r ar we ka el0 el1 el2 h0 n0 O0 Em G1 G2 La Lb Lc Sem Eem B0 B1 B2) e3 Em (lenOf pd_I_154 rfl) (g := (mkF m 24 #[rv t, iv ag] [(.ref t), (.int ag)])) (argsL := []) (rest := [(.int ag)]) (W := 1) rfl rfl (hb hby d45_24) (by rw [hml]; rfl) (by show 2 * 0 + _ ≤ _; exact Nat.le_of_eq rfl) rfl (by decide) (by decide) (by decide) (by decide) (by decide)
  have N5 := Fr.app N2 Nq4
  refine own_t T4 (mkF m 27 #[rv t, iv ag] [(.int ((fa + (3 : Int32)) - (1 : Int32))), (.int ag)]) st4 ?_
  refine own_g T4 (mkF m 57 #[rv t, iv ag] [(.ref t)]) (fun _ kq => XS.icmpYes X4.here hx rfl (pc0 := 27) (pc' := 56) rfl (hb hby d45_27) rfl (flt (q3 : ¬ (((fa + (3 : Int32)) - (1 : Int32)) < ag))).2.2.2 (by decide) (by decide) (XS.aloadN X4.here hx rfl (hb hby d45_56) rfl rfl kq)) ?_
  obtain ⟨T6, X6, e6, st6⟩ := getF X4 hx hZ hown (host := "") (Or.inl (own_W281 hw)) Via.refl hh4 G2 (g := (mkF m 57 #[rv t, iv ag] [(.ref t)])) rfl rfl (hb hby d45_57)
  refine own_g T6 (mkF m 60 #[rv t, iv ag] [(.ref r)]) st6 ?_
  refine own_g T6 (mkF m 62 #[rv t, iv ag] [(.ref t), (.int ag), (.ref r)]) (fun _ kq => XS.iloadN X6.here hx rfl (hb hby d45_60) rfl (XS.aloadN X6.here hx rfl (hb hby d45_61) rfl rfl kq)) ?_
  obtain ⟨T7, X7, e7, st7⟩ := getF X6 hx hZ hown (host := "") (Or.inl (own_W279 hw)) Via.refl e6 G1 (g := (mkF m 62 #[rv t, iv ag] [(.ref t), (.int ag), (.ref r)])) rfl rfl (hb hby d45_62)
  refine own_g T7 (mkF m 65 #[rv t, iv ag] [(.int fa), (.int ag), (.ref r)]) st7 ?_
  refine own_g T7 (mkF m 66 #[rv t, iv ag] [(.int (ag - fa)), (.ref r)]) (fun _ kq => XS.isub X7.here hx rfl (hb hby d45_65) rfl kq) ?_
  rw [q4]
  obtain ⟨_, T8, L8, X8, ⟨rfl, Nq8, hh8⟩, st8⟩ := own_cF X7 hx hZ hown (own_W152 hw) (own_W153 hw) (mvT hZ (own_W154 hw)) (own_W301 hw) (own_W302 hw) (own_W303 hw) (own_W304 hw) (own_W292 hw) (own_W254 hw) (own_W305 hw) (rmlget31 l Z a0 hw [] r ar we ka el0 el1 el2 h0 n0 O0 La Lb Lc Sem Eem B0 B1 B2) e7 La (lenOf pd_I_Ljava_lang_Object_821 rfl) (g := (mkF m 66 #[rv t, iv ag] [(.int (1 : Int32)), (.ref r)])) (argsL := [(.int (1 : Int32))]) (rest := []) (W := 0) rfl rfl (hb hby d45_66) (by rw [hml]; rfl) (by show 2 * 0 + _ ≤ _; exact Nat.le_of_eq rfl) rfl (by decide) (by decide) (by decide) (by decide) (by decide)
  have N9 := Fr.app N5 Nq8
  refine own_t T8 (mkF m 71 #[rv t, iv ag] [(.ref el1)]) st8 ?_
  obtain ⟨T10, X10, e10, st10⟩ := castY X8 hx hZ hown (own_W173 hw) hh8 (Ins.self (B1.ext O0.2)) (g := (mkF m 71 #[rv t, iv ag] [(.ref el1)])) rfl rfl (hb hby d45_71)
  refine own_g T10 (mkF m 74 #[rv t, iv ag] [(.ref el1)]) st10 ?_
  refine own_out X10 Bd.notSynchronized (v := (some (.ref el1))) (fun h => by rw [Bd.returns] at h; cases h) (fun fs hr => own_retA X10 hx Bd.returns rfl rfl rfl (hb hby d45_74) hr) ?_ (by decide) (by decide)
  rw [e10]
  exact ⟨rfl, N9, rfl⟩
theorem ef_rod32 (m : MethodId) (x0 : Addr) (x1 : Int32) : entryFrame m #[(.ref x0), (.int x1)] 2 = mkF m 0 #[.val (.ref x0), .val (.int x1)] [] := by first | (simp [entryFrame, mkF, argsToLocals, Value.category]; done) | rfl
def Qrod32 (Z : State) (t : Addr) (fa : Int32) (r ar we : Addr) (ka : ClassId) (el0 el1 el2 : Addr) (ag : Int32) (h0 : Heap) (n0 : Nat) (v : Option Value) (h : Heap) (L : List Loc) : Prop := v = some (.ref el2) ∧ Fr n0 L ∧ h = h0
set_option maxRecDepth 65536 in
set_option maxHeartbeats 40000000 in
theorem rmrod32 (l : Launch) (Z : State) (a0 : Array Value) (hw : own_H a0 Z) (ws : List Jvm.Cond) (t : Addr) (fa : Int32) (r ar we : Addr) (ka : ClassId) (el0 el1 el2 : Addr) (ag : Int32) (h0 : Heap) (n0 : Nat) (O0 : Old Z n0 h0) (Em : Exa Z h0 t "com/example/restoria/restoria/mortality/MortalityTable") (G1 : Fld Z h0 t "com/example/restoria/restoria/mortality/MortalityTable" "firstAge" "I" (.int fa)) (G2 : Fld Z h0 t "com/example/restoria/restoria/mortality/MortalityTable" "rates" "Ljava/util/List;" (.ref r)) (La : Exa Z h0 r "java/util/ImmutableCollections$ListN") (Lb : Fld Z h0 r "java/util/ImmutableCollections$ListN" "elements" "[Ljava/lang/Object;" (.ref ar)) (Lc : Arv Z h0 ar ka (.object "java/lang/Object") (3 : Int32) [(.ref el0), (.ref el1), (.ref el2)] .null) (Sem : Sta Z Z.heap "java/util/ImmutableCollections" "EMPTY" "Ljava/lang/Object;" (.ref we)) (Eem : Exa Z Z.heap we "java/lang/Object") (B0 : Exa Z Z.heap el0 "java/math/BigDecimal") (B1 : Exa Z Z.heap el1 "java/math/BigDecimal") (B2 : Exa Z Z.heap el2 "java/math/BigDecimal") (q1 : ¬ (ag = (((fa + (3 : Int32)) - (1 : Int32)) + (1 : Int32)))) (q2 : ¬ (ag < fa)) (q3 : ¬ (((fa + (3 : Int32)) - (1 : Int32)) < ag)) (q4 : (ag - fa) = (2 : Int32)) :
    own_M l (⟨"com/example/restoria/restoria/mortality/MortalityTable", "rateOfDeath", "(I)Ljava/math/BigDecimal;"⟩ : MethodName) prog_35_method_4_code 2 (some (.object "java/math/BigDecimal")) ws (own_R 2 0 0 26) Z #[(.ref t), (.int ag)] h0 (Qrod32 Z t fa r ar we ka el0 el1 el2 ag h0 n0) := by
  refine own_body (plainFor_of_name pn_com_example_restoria_restoria_mortality_MortalityTable) (fun m => ef_rod32 m t ag) ?_
  intro p e s m below meth c s₁ Bd hx hby hml hown hnm X0 e0 hZ
  have N0 := Fr.nil n0
  refine own_g s₁ (mkF m 2 #[rv t, iv ag] [(.ref t), (.int ag)]) (fun _ kq => XS.iloadN X0.here hx rfl (hb hby d45_0) rfl (XS.aloadN X0.here hx rfl (hb hby d45_1) rfl rfl kq)) ?_
  obtain ⟨_, T1, L1, X1, ⟨rfl, Nq1, hh1⟩, st1⟩ := own_cV X0 hx hZ hown (own_W300 hw) (own_W284 hw) (own_W286 hw) (own_W285 hw) (own_W69 hw) (own_W287 hw) (rmlast3 l Z a0 hw [] t fa r ar we ka el0 el1 el2 h0 n0 O0 Em G1 G2 La Lb Lc Sem Eem B0 B1 B2) e0 Em (lenOf pd_I_154 rfl) (g := (mkF m 2 #[rv t, iv ag] [(.ref t), (.int ag)])) (argsL := []) (rest := [(.int ag)]) (W := 1) rfl rfl (hb hby d45_2) (by rw [hml]; rfl) (by show 2 * 0 + _ ≤ _; exact Nat.le_of_eq rfl) rfl (by decide) (by decide) (by decide) (by decide) (by decide)
  have N2 := Fr.app N0 Nq1
  refine own_t T1 (mkF m 5 #[rv t, iv ag] [(.int ((fa + (3 : Int32)) - (1 : Int32))), (.int ag)]) st1 ?_
  refine own_g T1 (mkF m 16 #[rv t, iv ag] [(.ref t), (.int ag)]) (fun _ kq => XS.iconst X1.here hx rfl (hb hby d45_5) (XS.iadd X1.here hx rfl (hb hby d45_6) rfl (XS.icmpYes X1.here hx rfl (pc0 := 7) (pc' := 14) rfl (hb hby d45_7) rfl (feq (q1 : ¬ (ag = (((fa + (3 : Int32)) - (1 : Int32)) + (1 : Int32))))).2 (by decide) (by decide) (XS.iloadN X1.here hx rfl (hb hby d45_14) rfl (XS.aloadN X1.here hx rfl (hb hby d45_15) rfl rfl kq))))) ?_
  obtain ⟨T3, X3, e3, st3⟩ := getF X1 hx hZ hown (host := "") (Or.inl (own_W279 hw)) Via.refl hh1 G1 (g := (mkF m 16 #[rv t, iv ag] [(.ref t), (.int ag)])) rfl rfl (hb hby d45_16)
  refine own_g T3 (mkF m 19 #[rv t, iv ag] [(.int fa), (.int ag)]) st3 ?_
  refine own_g T3 (mkF m 24 #[rv t, iv ag] [(.ref t), (.int ag)]) (fun _ kq => XS.icmpNo X3.here hx rfl (hb hby d45_19) rfl (flt (q2 : ¬ (ag < fa))).1 (XS.iloadN X3.here hx rfl (hb hby d45_22) rfl (XS.aloadN X3.here hx rfl (hb hby d45_23) rfl rfl kq))) ?_
  obtain ⟨_, T4, L4, X4, ⟨rfl, Nq4, hh4⟩, st4⟩ := own_cV X3 hx hZ hown (own_W300 hw) (own_W284 hw) (own_W286 hw) (own_W285 hw) (own_W69 hw) (own_W287 hw) (rmlast3 l Z a0 hw [] t fa r ar we ka el0 el1 el2 h0 n0 O0 Em G1 G2 La Lb Lc Sem Eem B0 B1 B2) e3 Em (lenOf pd_I_154 rfl) (g := (mkF m 24 #[rv t, iv ag] [(.ref t), (.int ag)])) (argsL := []) (rest := [(.int ag)]) (W := 1) rfl rfl (hb hby d45_24) (by rw [hml]; rfl) (by show 2 * 0 + _ ≤ _; exact Nat.le_of_eq rfl) rfl (by decide) (by decide) (by decide) (by decide) (by decide)
  have N5 := Fr.app N2 Nq4
  refine own_t T4 (mkF m 27 #[rv t, iv ag] [(.int ((fa + (3 : Int32)) - (1 : Int32))), (.int ag)]) st4 ?_
  refine own_g T4 (mkF m 57 #[rv t, iv ag] [(.ref t)]) (fun _ kq => XS.icmpYes X4.here hx rfl (pc0 := 27) (pc' := 56) rfl (hb hby d45_27) rfl (flt (q3 : ¬ (((fa + (3 : Int32)) - (1 : Int32)) < ag))).2.2.2 (by decide) (by decide) (XS.aloadN X4.here hx rfl (hb hby d45_56) rfl rfl kq)) ?_
  obtain ⟨T6, X6, e6, st6⟩ := getF X4 hx hZ hown (host := "") (Or.inl (own_W281 hw)) Via.refl hh4 G2 (g := (mkF m 57 #[rv t, iv ag] [(.ref t)])) rfl rfl (hb hby d45_57)
  refine own_g T6 (mkF m 60 #[rv t, iv ag] [(.ref r)]) st6 ?_
  refine own_g T6 (mkF m 62 #[rv t, iv ag] [(.ref t), (.int ag), (.ref r)]) (fun _ kq => XS.iloadN X6.here hx rfl (hb hby d45_60) rfl (XS.aloadN X6.here hx rfl (hb hby d45_61) rfl rfl kq)) ?_
  obtain ⟨T7, X7, e7, st7⟩ := getF X6 hx hZ hown (host := "") (Or.inl (own_W279 hw)) Via.refl e6 G1 (g := (mkF m 62 #[rv t, iv ag] [(.ref t), (.int ag), (.ref r)])) rfl rfl (hb hby d45_62)
  refine own_g T7 (mkF m 65 #[rv t, iv ag] [(.int fa), (.int ag), (.ref r)]) st7 ?_
  refine own_g T7 (mkF m 66 #[rv t, iv ag] [(.int (ag - fa)), (.ref r)]) (fun _ kq => XS.isub X7.here hx rfl (hb hby d45_65) rfl kq) ?_
  rw [q4]
  obtain ⟨_, T8, L8, X8, ⟨rfl, Nq8, hh8⟩, st8⟩ := own_cF X7 hx hZ hown (own_W152 hw) (own_W153 hw) (mvT hZ (own_W154 hw)) (own_W301 hw) (own_W302 hw) (own_W303 hw) (own_W304 hw) (own_W292 hw) (own_W254 hw) (own_W305 hw) (rmlget32 l Z a0 hw [] r ar we ka el0 el1 el2 h0 n0 O0 La Lb Lc Sem Eem B0 B1 B2) e7 La (lenOf pd_I_Ljava_lang_Object_821 rfl) (g := (mkF m 66 #[rv t, iv ag] [(.int (2 : Int32)), (.ref r)])) (argsL := [(.int (2 : Int32))]) (rest := []) (W := 0) rfl rfl (hb hby d45_66) (by rw [hml]; rfl) (by show 2 * 0 + _ ≤ _; exact Nat.le_of_eq rfl) rfl (by decide) (by decide) (by decide) (by decide) (by decide)
  have N9 := Fr.app N5 Nq8
  refine own_t T8 (mkF m 71 #[rv t, iv ag] [(.ref el2)]) st8 ?_
  obtain ⟨T10, X10, e10, st10⟩ := castY X8 hx hZ hown (own_W173 hw) hh8 (Ins.self (B2.ext O0.2)) (g := (mkF m 71 #[rv t, iv ag] [(.ref el2)])) rfl rfl (hb hby d45_71)
  refine own_g T10 (mkF m 74 #[rv t, iv ag] [(.ref el2)]) st10 ?_
  refine own_out X10 Bd.notSynchronized (v := (some (.ref el2))) (fun h => by rw [Bd.returns] at h; cases h) (fun fs hr => own_retA X10 hx Bd.returns rfl rfl rfl (hb hby d45_74) hr) ?_ (by decide) (by decide)
  rw [e10]
  exact ⟨rfl, N9, rfl⟩
theorem ef_rode3 (m : MethodId) (x0 : Addr) (x1 : Int32) : entryFrame m #[(.ref x0), (.int x1)] 2 = mkF m 0 #[.val (.ref x0), .val (.int x1)] [] := by first | (simp [entryFrame, mkF, argsToLocals, Value.category]; done) | rfl
def Qrode3 (Z : State) (t : Addr) (fa : Int32) (r ar we : Addr) (ka : ClassId) (el0 el1 el2 : Addr) (ag : Int32) (w1 : Addr) (h0 : Heap) (n0 : Nat) (v : Option Value) (h : Heap) (L : List Loc) : Prop := v = some (.ref w1) ∧ Fr n0 L ∧ h = h0
set_option maxRecDepth 65536 in
set_option maxHeartbeats 40000000 in
theorem rmrode3 (l : Launch) (Z : State) (a0 : Array Value) (hw : own_H a0 Z) (ws : List Jvm.Cond) (t : Addr) (fa : Int32) (r ar we : Addr) (ka : ClassId) (el0 el1 el2 : Addr) (ag : Int32) (w1 : Addr) (h0 : Heap) (n0 : Nat) (O0 : Old Z n0 h0) (Em : Exa Z h0 t "com/example/restoria/restoria/mortality/MortalityTable") (G1 : Fld Z h0 t "com/example/restoria/restoria/mortality/MortalityTable" "firstAge" "I" (.int fa)) (G2 : Fld Z h0 t "com/example/restoria/restoria/mortality/MortalityTable" "rates" "Ljava/util/List;" (.ref r)) (La : Exa Z h0 r "java/util/ImmutableCollections$ListN") (Lb : Fld Z h0 r "java/util/ImmutableCollections$ListN" "elements" "[Ljava/lang/Object;" (.ref ar)) (Lc : Arv Z h0 ar ka (.object "java/lang/Object") (3 : Int32) [(.ref el0), (.ref el1), (.ref el2)] .null) (Sem : Sta Z Z.heap "java/util/ImmutableCollections" "EMPTY" "Ljava/lang/Object;" (.ref we)) (Eem : Exa Z Z.heap we "java/lang/Object") (B0 : Exa Z Z.heap el0 "java/math/BigDecimal") (B1 : Exa Z Z.heap el1 "java/math/BigDecimal") (B2 : Exa Z Z.heap el2 "java/math/BigDecimal") (S1 : Sta Z Z.heap "java/math/BigDecimal" "ONE" "Ljava/math/BigDecimal;" (.ref w1)) (q1 : ag = (((fa + (3 : Int32)) - (1 : Int32)) + (1 : Int32))) :
    own_M l (⟨"com/example/restoria/restoria/mortality/MortalityTable", "rateOfDeath", "(I)Ljava/math/BigDecimal;"⟩ : MethodName) prog_35_method_4_code 2 (some (.object "java/math/BigDecimal")) ws (own_R 2 0 0 26) Z #[(.ref t), (.int ag)] h0 (Qrode3 Z t fa r ar we ka el0 el1 el2 ag w1 h0 n0) := by
  refine own_body (plainFor_of_name pn_com_example_restoria_restoria_mortality_MortalityTable) (fun m => ef_rode3 m t ag) ?_
  intro p e s m below meth c s₁ Bd hx hby hml hown hnm X0 e0 hZ
  have N0 := Fr.nil n0
  refine own_g s₁ (mkF m 2 #[rv t, iv ag] [(.ref t), (.int ag)]) (fun _ kq => XS.iloadN X0.here hx rfl (hb hby d45_0) rfl (XS.aloadN X0.here hx rfl (hb hby d45_1) rfl rfl kq)) ?_
  obtain ⟨_, T1, L1, X1, ⟨rfl, Nq1, hh1⟩, st1⟩ := own_cV X0 hx hZ hown (own_W300 hw) (own_W284 hw) (own_W286 hw) (own_W285 hw) (own_W69 hw) (own_W287 hw) (rmlast3 l Z a0 hw [] t fa r ar we ka el0 el1 el2 h0 n0 O0 Em G1 G2 La Lb Lc Sem Eem B0 B1 B2) e0 Em (lenOf pd_I_154 rfl) (g := (mkF m 2 #[rv t, iv ag] [(.ref t), (.int ag)])) (argsL := []) (rest := [(.int ag)]) (W := 1) rfl rfl (hb hby d45_2) (by rw [hml]; rfl) (by show 2 * 0 + _ ≤ _; exact Nat.le_of_eq rfl) rfl (by decide) (by decide) (by decide) (by decide) (by decide)
  have N2 := Fr.app N0 Nq1
  refine own_t T1 (mkF m 5 #[rv t, iv ag] [(.int ((fa + (3 : Int32)) - (1 : Int32))), (.int ag)]) st1 ?_
  refine own_g T1 (mkF m 10 #[rv t, iv ag] []) (fun _ kq => XS.iconst X1.here hx rfl (hb hby d45_5) (XS.iadd X1.here hx rfl (hb hby d45_6) rfl (XS.icmpNo X1.here hx rfl (hb hby d45_7) rfl (teq (q1 : ag = (((fa + (3 : Int32)) - (1 : Int32)) + (1 : Int32)))).2 kq))) ?_
  obtain ⟨T3, X3, e3, st3⟩ := getS2 X1 hx hZ hown (host := "") (Or.inl (own_W186 hw)) Via.refl hh1 (S1.ext O0.2) (g := (mkF m 10 #[rv t, iv ag] [])) rfl (hb hby d45_10)
  refine own_g T3 (mkF m 13 #[rv t, iv ag] [(.ref w1)]) st3 ?_
  refine own_out X3 Bd.notSynchronized (v := (some (.ref w1))) (fun h => by rw [Bd.returns] at h; cases h) (fun fs hr => own_retA X3 hx Bd.returns rfl rfl rfl (hb hby d45_13) hr) ?_ (by decide) (by decide)
  rw [e3]
  exact ⟨rfl, N2, rfl⟩
theorem ef_lsz4 (m : MethodId) (x0 : Addr) : entryFrame m #[(.ref x0)] 1 = mkF m 0 #[.val (.ref x0)] [] := by first | (simp [entryFrame, mkF, argsToLocals, Value.category]; done) | rfl
def Qlsz4 (Z : State) (r ar we : Addr) (ka : ClassId) (el0 el1 el2 el3 : Addr) (h0 : Heap) (n0 : Nat) (v : Option Value) (h : Heap) (L : List Loc) : Prop := v = some (.int (4 : Int32)) ∧ Fr n0 L ∧ h = h0
set_option maxRecDepth 65536 in
set_option maxHeartbeats 40000000 in
theorem rmlsz4 (l : Launch) (Z : State) (a0 : Array Value) (hw : own_H a0 Z) (ws : List Jvm.Cond) (r ar we : Addr) (ka : ClassId) (el0 el1 el2 el3 : Addr) (h0 : Heap) (n0 : Nat) (O0 : Old Z n0 h0) (La : Exa Z h0 r "java/util/ImmutableCollections$ListN") (Lb : Fld Z h0 r "java/util/ImmutableCollections$ListN" "elements" "[Ljava/lang/Object;" (.ref ar)) (Lc : Arv Z h0 ar ka (.object "java/lang/Object") (4 : Int32) [(.ref el0), (.ref el1), (.ref el2), (.ref el3)] .null) (Sem : Sta Z Z.heap "java/util/ImmutableCollections" "EMPTY" "Ljava/lang/Object;" (.ref we)) (Eem : Exa Z Z.heap we "java/lang/Object") (B0 : Exa Z Z.heap el0 "java/math/BigDecimal") (B1 : Exa Z Z.heap el1 "java/math/BigDecimal") (B2 : Exa Z Z.heap el2 "java/math/BigDecimal") (B3 : Exa Z Z.heap el3 "java/math/BigDecimal") :
    own_M l (⟨"java/util/ImmutableCollections$ListN", "size", "()I"⟩ : MethodName) jdk_45_method_3_code 1 (some .int) ws (own_R 0 0 0 0) Z #[(.ref r)] h0 (Qlsz4 Z r ar we ka el0 el1 el2 el3 h0 n0) := by
  refine own_body (plainFor_of_name pn_java_util_ImmutableCollections_ListN) (fun m => ef_lsz4 m r) ?_
  intro p e s m below meth c s₁ Bd hx hby hml hown hnm X0 e0 hZ
  have N0 := Fr.nil n0
  refine own_g s₁ (mkF m 1 #[rv r] [(.ref r)]) (fun _ kq => XS.aloadN X0.here hx rfl (hb hby d44_0) rfl rfl kq) ?_
  obtain ⟨T1, X1, e1, st1⟩ := getF X0 hx hZ hown (host := "") (Or.inl (own_W273 hw)) Via.refl e0 Lb (g := (mkF m 1 #[rv r] [(.ref r)])) rfl rfl (hb hby d44_1)
  refine own_g T1 (mkF m 4 #[rv r] [(.ref ar)]) st1 ?_
  refine own_g T1 (mkF m 5 #[rv r] [(.int (4 : Int32))]) (own_alen X1 hx hZ e1 Lc (g := (mkF m 4 #[rv r] [(.ref ar)])) rfl rfl (hb hby d44_4)) ?_
  refine own_out X1 Bd.notSynchronized (v := (some (.int (4 : Int32)))) (fun h => by rw [Bd.returns] at h; cases h) (fun fs hr => own_retI X1 hx Bd.returns (hb hby d44_5) hr) ?_ (by decide) (by decide)
  rw [e1]
  exact ⟨rfl, N0, rfl⟩
theorem ef_lget40 (m : MethodId) (x0 : Addr) (x1 : Int32) : entryFrame m #[(.ref x0), (.int x1)] 2 = mkF m 0 #[.val (.ref x0), .val (.int x1)] [] := by first | (simp [entryFrame, mkF, argsToLocals, Value.category]; done) | rfl
def Qlget40 (Z : State) (r ar we : Addr) (ka : ClassId) (el0 el1 el2 el3 : Addr) (h0 : Heap) (n0 : Nat) (v : Option Value) (h : Heap) (L : List Loc) : Prop := v = some (.ref el0) ∧ Fr n0 L ∧ h = h0
set_option maxRecDepth 65536 in
set_option maxHeartbeats 40000000 in
theorem rmlget40 (l : Launch) (Z : State) (a0 : Array Value) (hw : own_H a0 Z) (ws : List Jvm.Cond) (r ar we : Addr) (ka : ClassId) (el0 el1 el2 el3 : Addr) (h0 : Heap) (n0 : Nat) (O0 : Old Z n0 h0) (La : Exa Z h0 r "java/util/ImmutableCollections$ListN") (Lb : Fld Z h0 r "java/util/ImmutableCollections$ListN" "elements" "[Ljava/lang/Object;" (.ref ar)) (Lc : Arv Z h0 ar ka (.object "java/lang/Object") (4 : Int32) [(.ref el0), (.ref el1), (.ref el2), (.ref el3)] .null) (Sem : Sta Z Z.heap "java/util/ImmutableCollections" "EMPTY" "Ljava/lang/Object;" (.ref we)) (Eem : Exa Z Z.heap we "java/lang/Object") (B0 : Exa Z Z.heap el0 "java/math/BigDecimal") (B1 : Exa Z Z.heap el1 "java/math/BigDecimal") (B2 : Exa Z Z.heap el2 "java/math/BigDecimal") (B3 : Exa Z Z.heap el3 "java/math/BigDecimal") :
    own_M l (⟨"java/util/ImmutableCollections$ListN", "get", "(I)Ljava/lang/Object;"⟩ : MethodName) jdk_45_method_4_code 2 (some (.object "java/lang/Object")) ws (own_R 0 0 0 0) Z #[(.ref r), (.int (0 : Int32))] h0 (Qlget40 Z r ar we ka el0 el1 el2 el3 h0 n0) := by
  refine own_body (plainFor_of_name pn_java_util_ImmutableCollections_ListN) (fun m => ef_lget40 m r (0 : Int32)) ?_
  intro p e s m below meth c s₁ Bd hx hby hml hown hnm X0 e0 hZ
  have N0 := Fr.nil n0
  refine own_g s₁ (mkF m 1 #[rv r, iv (0 : Int32)] [(.ref r)]) (fun _ kq => XS.aloadN X0.here hx rfl (hb hby d46_0) rfl rfl kq) ?_
  obtain ⟨T1, X1, e1, st1⟩ := getF X0 hx hZ hown (host := "") (Or.inl (own_W273 hw)) Via.refl e0 Lb (g := (mkF m 1 #[rv r, iv (0 : Int32)] [(.ref r)])) rfl rfl (hb hby d46_1)
  refine own_g T1 (mkF m 4 #[rv r, iv (0 : Int32)] [(.ref ar)]) st1 ?_
  refine own_g T1 (mkF m 5 #[rv r, iv (0 : Int32)] [(.int (0 : Int32)), (.ref ar)]) (fun _ kq => XS.iloadN X1.here hx rfl (hb hby d46_4) rfl kq) ?_
  obtain ⟨cl2, Ar2, q2, S2, Nn2, H2, G2⟩ := id Lc
  have hin3 : ¬ ((0 : Int32) < 0 ∨ cl2.slots.size ≤ ((0 : Int32)).toNatClampNeg) := inb_of S2 ⟨by decide, by decide⟩
  have hat3 : cl2.slots[((0 : Int32)).toNatClampNeg]? = some (.ref el0) := Has.at H2 hin3 rfl
  refine own_g T1 (mkF m 6 #[rv r, iv (0 : Int32)] [(.ref el0)]) (X1.aaload hx (j := (0 : Int32)) (v := (.ref el0)) (by rw [e1]; exact Ar2.1) (State.isArrayOf_alike hZ.alike Ar2.2.1) rfl Ar2.2.2 hin3 hat3 (g := (mkF m 5 #[rv r, iv (0 : Int32)] [(.int (0 : Int32)), (.ref ar)])) rfl rfl (hb hby d46_5)) ?_
  refine own_out X1 Bd.notSynchronized (v := (some (.ref el0))) (fun h => by rw [Bd.returns] at h; cases h) (fun fs hr => own_retA X1 hx Bd.returns rfl rfl rfl (hb hby d46_6) hr) ?_ (by decide) (by decide)
  rw [e1]
  exact ⟨rfl, N0, rfl⟩
theorem ef_lget41 (m : MethodId) (x0 : Addr) (x1 : Int32) : entryFrame m #[(.ref x0), (.int x1)] 2 = mkF m 0 #[.val (.ref x0), .val (.int x1)] [] := by first | (simp [entryFrame, mkF, argsToLocals, Value.category]; done) | rfl
def Qlget41 (Z : State) (r ar we : Addr) (ka : ClassId) (el0 el1 el2 el3 : Addr) (h0 : Heap) (n0 : Nat) (v : Option Value) (h : Heap) (L : List Loc) : Prop := v = some (.ref el1) ∧ Fr n0 L ∧ h = h0
set_option maxRecDepth 65536 in
set_option maxHeartbeats 40000000 in
theorem rmlget41 (l : Launch) (Z : State) (a0 : Array Value) (hw : own_H a0 Z) (ws : List Jvm.Cond) (r ar we : Addr) (ka : ClassId) (el0 el1 el2 el3 : Addr) (h0 : Heap) (n0 : Nat) (O0 : Old Z n0 h0) (La : Exa Z h0 r "java/util/ImmutableCollections$ListN") (Lb : Fld Z h0 r "java/util/ImmutableCollections$ListN" "elements" "[Ljava/lang/Object;" (.ref ar)) (Lc : Arv Z h0 ar ka (.object "java/lang/Object") (4 : Int32) [(.ref el0), (.ref el1), (.ref el2), (.ref el3)] .null) (Sem : Sta Z Z.heap "java/util/ImmutableCollections" "EMPTY" "Ljava/lang/Object;" (.ref we)) (Eem : Exa Z Z.heap we "java/lang/Object") (B0 : Exa Z Z.heap el0 "java/math/BigDecimal") (B1 : Exa Z Z.heap el1 "java/math/BigDecimal") (B2 : Exa Z Z.heap el2 "java/math/BigDecimal") (B3 : Exa Z Z.heap el3 "java/math/BigDecimal") :
    own_M l (⟨"java/util/ImmutableCollections$ListN", "get", "(I)Ljava/lang/Object;"⟩ : MethodName) jdk_45_method_4_code 2 (some (.object "java/lang/Object")) ws (own_R 0 0 0 0) Z #[(.ref r), (.int (1 : Int32))] h0 (Qlget41 Z r ar we ka el0 el1 el2 el3 h0 n0) := by
  refine own_body (plainFor_of_name pn_java_util_ImmutableCollections_ListN) (fun m => ef_lget41 m r (1 : Int32)) ?_
  intro p e s m below meth c s₁ Bd hx hby hml hown hnm X0 e0 hZ
  have N0 := Fr.nil n0
  refine own_g s₁ (mkF m 1 #[rv r, iv (1 : Int32)] [(.ref r)]) (fun _ kq => XS.aloadN X0.here hx rfl (hb hby d46_0) rfl rfl kq) ?_
  obtain ⟨T1, X1, e1, st1⟩ := getF X0 hx hZ hown (host := "") (Or.inl (own_W273 hw)) Via.refl e0 Lb (g := (mkF m 1 #[rv r, iv (1 : Int32)] [(.ref r)])) rfl rfl (hb hby d46_1)
  refine own_g T1 (mkF m 4 #[rv r, iv (1 : Int32)] [(.ref ar)]) st1 ?_
  refine own_g T1 (mkF m 5 #[rv r, iv (1 : Int32)] [(.int (1 : Int32)), (.ref ar)]) (fun _ kq => XS.iloadN X1.here hx rfl (hb hby d46_4) rfl kq) ?_
  obtain ⟨cl2, Ar2, q2, S2, Nn2, H2, G2⟩ := id Lc
  have hin3 : ¬ ((1 : Int32) < 0 ∨ cl2.slots.size ≤ ((1 : Int32)).toNatClampNeg) := inb_of S2 ⟨by decide, by decide⟩
  have hat3 : cl2.slots[((1 : Int32)).toNatClampNeg]? = some (.ref el1) := Has.at H2 hin3 rfl
  refine own_g T1 (mkF m 6 #[rv r, iv (1 : Int32)] [(.ref el1)]) (X1.aaload hx (j := (1 : Int32)) (v := (.ref el1)) (by rw [e1]; exact Ar2.1) (State.isArrayOf_alike hZ.alike Ar2.2.1) rfl Ar2.2.2 hin3 hat3 (g := (mkF m 5 #[rv r, iv (1 : Int32)] [(.int (1 : Int32)), (.ref ar)])) rfl rfl (hb hby d46_5)) ?_
  refine own_out X1 Bd.notSynchronized (v := (some (.ref el1))) (fun h => by rw [Bd.returns] at h; cases h) (fun fs hr => own_retA X1 hx Bd.returns rfl rfl rfl (hb hby d46_6) hr) ?_ (by decide) (by decide)
  rw [e1]
  exact ⟨rfl, N0, rfl⟩
theorem ef_lget42 (m : MethodId) (x0 : Addr) (x1 : Int32) : entryFrame m #[(.ref x0), (.int x1)] 2 = mkF m 0 #[.val (.ref x0), .val (.int x1)] [] := by first | (simp [entryFrame, mkF, argsToLocals, Value.category]; done) | rfl
def Qlget42 (Z : State) (r ar we : Addr) (ka : ClassId) (el0 el1 el2 el3 : Addr) (h0 : Heap) (n0 : Nat) (v : Option Value) (h : Heap) (L : List Loc) : Prop := v = some (.ref el2) ∧ Fr n0 L ∧ h = h0
set_option maxRecDepth 65536 in
set_option maxHeartbeats 40000000 in
theorem rmlget42 (l : Launch) (Z : State) (a0 : Array Value) (hw : own_H a0 Z) (ws : List Jvm.Cond) (r ar we : Addr) (ka : ClassId) (el0 el1 el2 el3 : Addr) (h0 : Heap) (n0 : Nat) (O0 : Old Z n0 h0) (La : Exa Z h0 r "java/util/ImmutableCollections$ListN") (Lb : Fld Z h0 r "java/util/ImmutableCollections$ListN" "elements" "[Ljava/lang/Object;" (.ref ar)) (Lc : Arv Z h0 ar ka (.object "java/lang/Object") (4 : Int32) [(.ref el0), (.ref el1), (.ref el2), (.ref el3)] .null) (Sem : Sta Z Z.heap "java/util/ImmutableCollections" "EMPTY" "Ljava/lang/Object;" (.ref we)) (Eem : Exa Z Z.heap we "java/lang/Object") (B0 : Exa Z Z.heap el0 "java/math/BigDecimal") (B1 : Exa Z Z.heap el1 "java/math/BigDecimal") (B2 : Exa Z Z.heap el2 "java/math/BigDecimal") (B3 : Exa Z Z.heap el3 "java/math/BigDecimal") :
    own_M l (⟨"java/util/ImmutableCollections$ListN", "get", "(I)Ljava/lang/Object;"⟩ : MethodName) jdk_45_method_4_code 2 (some (.object "java/lang/Object")) ws (own_R 0 0 0 0) Z #[(.ref r), (.int (2 : Int32))] h0 (Qlget42 Z r ar we ka el0 el1 el2 el3 h0 n0) := by
  refine own_body (plainFor_of_name pn_java_util_ImmutableCollections_ListN) (fun m => ef_lget42 m r (2 : Int32)) ?_
  intro p e s m below meth c s₁ Bd hx hby hml hown hnm X0 e0 hZ
  have N0 := Fr.nil n0
  refine own_g s₁ (mkF m 1 #[rv r, iv (2 : Int32)] [(.ref r)]) (fun _ kq => XS.aloadN X0.here hx rfl (hb hby d46_0) rfl rfl kq) ?_
  obtain ⟨T1, X1, e1, st1⟩ := getF X0 hx hZ hown (host := "") (Or.inl (own_W273 hw)) Via.refl e0 Lb (g := (mkF m 1 #[rv r, iv (2 : Int32)] [(.ref r)])) rfl rfl (hb hby d46_1)
  refine own_g T1 (mkF m 4 #[rv r, iv (2 : Int32)] [(.ref ar)]) st1 ?_
  refine own_g T1 (mkF m 5 #[rv r, iv (2 : Int32)] [(.int (2 : Int32)), (.ref ar)]) (fun _ kq => XS.iloadN X1.here hx rfl (hb hby d46_4) rfl kq) ?_
  obtain ⟨cl2, Ar2, q2, S2, Nn2, H2, G2⟩ := id Lc
  have hin3 : ¬ ((2 : Int32) < 0 ∨ cl2.slots.size ≤ ((2 : Int32)).toNatClampNeg) := inb_of S2 ⟨by decide, by decide⟩
  have hat3 : cl2.slots[((2 : Int32)).toNatClampNeg]? = some (.ref el2) := Has.at H2 hin3 rfl
  refine own_g T1 (mkF m 6 #[rv r, iv (2 : Int32)] [(.ref el2)]) (X1.aaload hx (j := (2 : Int32)) (v := (.ref el2)) (by rw [e1]; exact Ar2.1) (State.isArrayOf_alike hZ.alike Ar2.2.1) rfl Ar2.2.2 hin3 hat3 (g := (mkF m 5 #[rv r, iv (2 : Int32)] [(.int (2 : Int32)), (.ref ar)])) rfl rfl (hb hby d46_5)) ?_
  refine own_out X1 Bd.notSynchronized (v := (some (.ref el2))) (fun h => by rw [Bd.returns] at h; cases h) (fun fs hr => own_retA X1 hx Bd.returns rfl rfl rfl (hb hby d46_6) hr) ?_ (by decide) (by decide)
  rw [e1]
  exact ⟨rfl, N0, rfl⟩
theorem ef_lget43 (m : MethodId) (x0 : Addr) (x1 : Int32) : entryFrame m #[(.ref x0), (.int x1)] 2 = mkF m 0 #[.val (.ref x0), .val (.int x1)] [] := by first | (simp [entryFrame, mkF, argsToLocals, Value.category]; done) | rfl
def Qlget43 (Z : State) (r ar we : Addr) (ka : ClassId) (el0 el1 el2 el3 : Addr) (h0 : Heap) (n0 : Nat) (v : Option Value) (h : Heap) (L : List Loc) : Prop := v = some (.ref el3) ∧ Fr n0 L ∧ h = h0
set_option maxRecDepth 65536 in
set_option maxHeartbeats 40000000 in
theorem rmlget43 (l : Launch) (Z : State) (a0 : Array Value) (hw : own_H a0 Z) (ws : List Jvm.Cond) (r ar we : Addr) (ka : ClassId) (el0 el1 el2 el3 : Addr) (h0 : Heap) (n0 : Nat) (O0 : Old Z n0 h0) (La : Exa Z h0 r "java/util/ImmutableCollections$ListN") (Lb : Fld Z h0 r "java/util/ImmutableCollections$ListN" "elements" "[Ljava/lang/Object;" (.ref ar)) (Lc : Arv Z h0 ar ka (.object "java/lang/Object") (4 : Int32) [(.ref el0), (.ref el1), (.ref el2), (.ref el3)] .null) (Sem : Sta Z Z.heap "java/util/ImmutableCollections" "EMPTY" "Ljava/lang/Object;" (.ref we)) (Eem : Exa Z Z.heap we "java/lang/Object") (B0 : Exa Z Z.heap el0 "java/math/BigDecimal") (B1 : Exa Z Z.heap el1 "java/math/BigDecimal") (B2 : Exa Z Z.heap el2 "java/math/BigDecimal") (B3 : Exa Z Z.heap el3 "java/math/BigDecimal") :
    own_M l (⟨"java/util/ImmutableCollections$ListN", "get", "(I)Ljava/lang/Object;"⟩ : MethodName) jdk_45_method_4_code 2 (some (.object "java/lang/Object")) ws (own_R 0 0 0 0) Z #[(.ref r), (.int (3 : Int32))] h0 (Qlget43 Z r ar we ka el0 el1 el2 el3 h0 n0) := by
  refine own_body (plainFor_of_name pn_java_util_ImmutableCollections_ListN) (fun m => ef_lget43 m r (3 : Int32)) ?_
  intro p e s m below meth c s₁ Bd hx hby hml hown hnm X0 e0 hZ
  have N0 := Fr.nil n0
  refine own_g s₁ (mkF m 1 #[rv r, iv (3 : Int32)] [(.ref r)]) (fun _ kq => XS.aloadN X0.here hx rfl (hb hby d46_0) rfl rfl kq) ?_
  obtain ⟨T1, X1, e1, st1⟩ := getF X0 hx hZ hown (host := "") (Or.inl (own_W273 hw)) Via.refl e0 Lb (g := (mkF m 1 #[rv r, iv (3 : Int32)] [(.ref r)])) rfl rfl (hb hby d46_1)
  refine own_g T1 (mkF m 4 #[rv r, iv (3 : Int32)] [(.ref ar)]) st1 ?_
  refine own_g T1 (mkF m 5 #[rv r, iv (3 : Int32)] [(.int (3 : Int32)), (.ref ar)]) (fun _ kq => XS.iloadN X1.here hx rfl (hb hby d46_4) rfl kq) ?_
  obtain ⟨cl2, Ar2, q2, S2, Nn2, H2, G2⟩ := id Lc
  have hin3 : ¬ ((3 : Int32) < 0 ∨ cl2.slots.size ≤ ((3 : Int32)).toNatClampNeg) := inb_of S2 ⟨by decide, by decide⟩
  have hat3 : cl2.slots[((3 : Int32)).toNatClampNeg]? = some (.ref el3) := Has.at H2 hin3 rfl
  refine own_g T1 (mkF m 6 #[rv r, iv (3 : Int32)] [(.ref el3)]) (X1.aaload hx (j := (3 : Int32)) (v := (.ref el3)) (by rw [e1]; exact Ar2.1) (State.isArrayOf_alike hZ.alike Ar2.2.1) rfl Ar2.2.2 hin3 hat3 (g := (mkF m 5 #[rv r, iv (3 : Int32)] [(.int (3 : Int32)), (.ref ar)])) rfl rfl (hb hby d46_5)) ?_
  refine own_out X1 Bd.notSynchronized (v := (some (.ref el3))) (fun h => by rw [Bd.returns] at h; cases h) (fun fs hr => own_retA X1 hx Bd.returns rfl rfl rfl (hb hby d46_6) hr) ?_ (by decide) (by decide)
  rw [e1]
  exact ⟨rfl, N0, rfl⟩
theorem ef_last4 (m : MethodId) (x0 : Addr) : entryFrame m #[(.ref x0)] 1 = mkF m 0 #[.val (.ref x0)] [] := by first | (simp [entryFrame, mkF, argsToLocals, Value.category]; done) | rfl
def Qlast4 (Z : State) (t : Addr) (fa : Int32) (r ar we : Addr) (ka : ClassId) (el0 el1 el2 el3 : Addr) (h0 : Heap) (n0 : Nat) (v : Option Value) (h : Heap) (L : List Loc) : Prop := v = some (.int ((fa + (4 : Int32)) - (1 : Int32))) ∧ Fr n0 L ∧ h = h0
set_option maxRecDepth 65536 in
set_option maxHeartbeats 40000000 in
theorem rmlast4 (l : Launch) (Z : State) (a0 : Array Value) (hw : own_H a0 Z) (ws : List Jvm.Cond) (t : Addr) (fa : Int32) (r ar we : Addr) (ka : ClassId) (el0 el1 el2 el3 : Addr) (h0 : Heap) (n0 : Nat) (O0 : Old Z n0 h0) (Em : Exa Z h0 t "com/example/restoria/restoria/mortality/MortalityTable") (G1 : Fld Z h0 t "com/example/restoria/restoria/mortality/MortalityTable" "firstAge" "I" (.int fa)) (G2 : Fld Z h0 t "com/example/restoria/restoria/mortality/MortalityTable" "rates" "Ljava/util/List;" (.ref r)) (La : Exa Z h0 r "java/util/ImmutableCollections$ListN") (Lb : Fld Z h0 r "java/util/ImmutableCollections$ListN" "elements" "[Ljava/lang/Object;" (.ref ar)) (Lc : Arv Z h0 ar ka (.object "java/lang/Object") (4 : Int32) [(.ref el0), (.ref el1), (.ref el2), (.ref el3)] .null) (Sem : Sta Z Z.heap "java/util/ImmutableCollections" "EMPTY" "Ljava/lang/Object;" (.ref we)) (Eem : Exa Z Z.heap we "java/lang/Object") (B0 : Exa Z Z.heap el0 "java/math/BigDecimal") (B1 : Exa Z Z.heap el1 "java/math/BigDecimal") (B2 : Exa Z Z.heap el2 "java/math/BigDecimal") (B3 : Exa Z Z.heap el3 "java/math/BigDecimal") :
    own_M l (⟨"com/example/restoria/restoria/mortality/MortalityTable", "lastAge", "()I"⟩ : MethodName) prog_35_method_2_code 1 (some .int) ws (own_R 1 0 0 13) Z #[(.ref t)] h0 (Qlast4 Z t fa r ar we ka el0 el1 el2 el3 h0 n0) := by
  refine own_body (plainFor_of_name pn_com_example_restoria_restoria_mortality_MortalityTable) (fun m => ef_last4 m t) ?_
  intro p e s m below meth c s₁ Bd hx hby hml hown hnm X0 e0 hZ
  have N0 := Fr.nil n0
  refine own_g s₁ (mkF m 1 #[rv t] [(.ref t)]) (fun _ kq => XS.aloadN X0.here hx rfl (hb hby d43_0) rfl rfl kq) ?_
  obtain ⟨T1, X1, e1, st1⟩ := getF X0 hx hZ hown (host := "") (Or.inl (own_W279 hw)) Via.refl e0 G1 (g := (mkF m 1 #[rv t] [(.ref t)])) rfl rfl (hb hby d43_1)
  refine own_g T1 (mkF m 4 #[rv t] [(.int fa)]) st1 ?_
  refine own_g T1 (mkF m 5 #[rv t] [(.ref t), (.int fa)]) (fun _ kq => XS.aloadN X1.here hx rfl (hb hby d43_4) rfl rfl kq) ?_
  obtain ⟨T2, X2, e2, st2⟩ := getF X1 hx hZ hown (host := "") (Or.inl (own_W281 hw)) Via.refl e1 G2 (g := (mkF m 5 #[rv t] [(.ref t), (.int fa)])) rfl rfl (hb hby d43_5)
  refine own_g T2 (mkF m 8 #[rv t] [(.ref r), (.int fa)]) st2 ?_
  obtain ⟨_, T3, L3, X3, ⟨rfl, Nq3, hh3⟩, st3⟩ := own_cF X2 hx hZ hown (own_W144 hw) (own_W145 hw) (mvT hZ (own_W146 hw)) (own_W288 hw) (own_W289 hw) (own_W290 hw) (own_W291 hw) (own_W292 hw) (own_W254 hw) (own_W293 hw) (rmlsz4 l Z a0 hw [] r ar we ka el0 el1 el2 el3 h0 n0 O0 La Lb Lc Sem Eem B0 B1 B2 B3) e2 La (lenOf pd_I_154 rfl) (g := (mkF m 8 #[rv t] [(.ref r), (.int fa)])) (argsL := []) (rest := [(.int fa)]) (W := 1) rfl rfl (hb hby d43_8) (by rw [hml]; rfl) (by show 2 * 0 + _ ≤ _; exact Nat.le_of_eq rfl) rfl (by decide) (by decide) (by decide) (by decide) (by decide)
  have N4 := Fr.app N0 Nq3
  refine own_t T3 (mkF m 13 #[rv t] [(.int (4 : Int32)), (.int fa)]) st3 ?_
  refine own_g T3 (mkF m 16 #[rv t] [(.int ((fa + (4 : Int32)) - (1 : Int32)))]) (fun _ kq => XS.iadd X3.here hx rfl (hb hby d43_13) rfl (XS.iconst X3.here hx rfl (hb hby d43_14) (XS.isub X3.here hx rfl (hb hby d43_15) rfl kq))) ?_
  refine own_out X3 Bd.notSynchronized (v := (some (.int ((fa + (4 : Int32)) - (1 : Int32))))) (fun h => by rw [Bd.returns] at h; cases h) (fun fs hr => own_retI X3 hx Bd.returns (hb hby d43_16) hr) ?_ (by decide) (by decide)
  rw [hh3]
  exact ⟨rfl, N4, rfl⟩
theorem ef_rod40 (m : MethodId) (x0 : Addr) (x1 : Int32) : entryFrame m #[(.ref x0), (.int x1)] 2 = mkF m 0 #[.val (.ref x0), .val (.int x1)] [] := by first | (simp [entryFrame, mkF, argsToLocals, Value.category]; done) | rfl
def Qrod40 (Z : State) (t : Addr) (fa : Int32) (r ar we : Addr) (ka : ClassId) (el0 el1 el2 el3 : Addr) (ag : Int32) (h0 : Heap) (n0 : Nat) (v : Option Value) (h : Heap) (L : List Loc) : Prop := v = some (.ref el0) ∧ Fr n0 L ∧ h = h0
set_option maxRecDepth 65536 in
set_option maxHeartbeats 40000000 in
theorem rmrod40 (l : Launch) (Z : State) (a0 : Array Value) (hw : own_H a0 Z) (ws : List Jvm.Cond) (t : Addr) (fa : Int32) (r ar we : Addr) (ka : ClassId) (el0 el1 el2 el3 : Addr) (ag : Int32) (h0 : Heap) (n0 : Nat) (O0 : Old Z n0 h0) (Em : Exa Z h0 t "com/example/restoria/restoria/mortality/MortalityTable") (G1 : Fld Z h0 t "com/example/restoria/restoria/mortality/MortalityTable" "firstAge" "I" (.int fa)) (G2 : Fld Z h0 t "com/example/restoria/restoria/mortality/MortalityTable" "rates" "Ljava/util/List;" (.ref r)) (La : Exa Z h0 r "java/util/ImmutableCollections$ListN") (Lb : Fld Z h0 r "java/util/ImmutableCollections$ListN" "elements" "[Ljava/lang/Object;" (.ref ar)) (Lc : Arv Z h0 ar ka (.object "java/lang/Object") (4 : Int32) [(.ref el0), (.ref el1), (.ref el2), (.ref el3)] .null) (Sem : Sta Z Z.heap "java/util/ImmutableCollections" "EMPTY" "Ljava/lang/Object;" (.ref we)) (Eem : Exa Z Z.heap we "java/lang/Object") (B0 : Exa Z Z.heap el0 "java/math/BigDecimal") (B1 : Exa Z Z.heap el1 "java/math/BigDecimal") (B2 : Exa Z Z.heap el2 "java/math/BigDecimal") (B3 : Exa Z Z.heap el3 "java/math/BigDecimal") (q1 : ¬ (ag = (((fa + (4 : Int32)) - (1 : Int32)) + (1 : Int32)))) (q2 : ¬ (ag < fa)) (q3 : ¬ (((fa + (4 : Int32)) - (1 : Int32)) < ag)) (q4 : (ag - fa) = (0 : Int32)) :
    own_M l (⟨"com/example/restoria/restoria/mortality/MortalityTable", "rateOfDeath", "(I)Ljava/math/BigDecimal;"⟩ : MethodName) prog_35_method_4_code 2 (some (.object "java/math/BigDecimal")) ws (own_R 2 0 0 26) Z #[(.ref t), (.int ag)] h0 (Qrod40 Z t fa r ar we ka el0 el1 el2 el3 ag h0 n0) := by
  refine own_body (plainFor_of_name pn_com_example_restoria_restoria_mortality_MortalityTable) (fun m => ef_rod40 m t ag) ?_
  intro p e s m below meth c s₁ Bd hx hby hml hown hnm X0 e0 hZ
  have N0 := Fr.nil n0
  refine own_g s₁ (mkF m 2 #[rv t, iv ag] [(.ref t), (.int ag)]) (fun _ kq => XS.iloadN X0.here hx rfl (hb hby d45_0) rfl (XS.aloadN X0.here hx rfl (hb hby d45_1) rfl rfl kq)) ?_
  obtain ⟨_, T1, L1, X1, ⟨rfl, Nq1, hh1⟩, st1⟩ := own_cV X0 hx hZ hown (own_W300 hw) (own_W284 hw) (own_W286 hw) (own_W285 hw) (own_W69 hw) (own_W287 hw) (rmlast4 l Z a0 hw [] t fa r ar we ka el0 el1 el2 el3 h0 n0 O0 Em G1 G2 La Lb Lc Sem Eem B0 B1 B2 B3) e0 Em (lenOf pd_I_154 rfl) (g := (mkF m 2 #[rv t, iv ag] [(.ref t), (.int ag)])) (argsL := []) (rest := [(.int ag)]) (W := 1) rfl rfl (hb hby d45_2) (by rw [hml]; rfl) (by show 2 * 0 + _ ≤ _; exact Nat.le_of_eq rfl) rfl (by decide) (by decide) (by decide) (by decide) (by decide)
  have N2 := Fr.app N0 Nq1
  refine own_t T1 (mkF m 5 #[rv t, iv ag] [(.int ((fa + (4 : Int32)) - (1 : Int32))), (.int ag)]) st1 ?_
  refine own_g T1 (mkF m 16 #[rv t, iv ag] [(.ref t), (.int ag)]) (fun _ kq => XS.iconst X1.here hx rfl (hb hby d45_5) (XS.iadd X1.here hx rfl (hb hby d45_6) rfl (XS.icmpYes X1.here hx rfl (pc0 := 7) (pc' := 14) rfl (hb hby d45_7) rfl (feq (q1 : ¬ (ag = (((fa + (4 : Int32)) - (1 : Int32)) + (1 : Int32))))).2 (by decide) (by decide) (XS.iloadN X1.here hx rfl (hb hby d45_14) rfl (XS.aloadN X1.here hx rfl (hb hby d45_15) rfl rfl kq))))) ?_
  obtain ⟨T3, X3, e3, st3⟩ := getF X1 hx hZ hown (host := "") (Or.inl (own_W279 hw)) Via.refl hh1 G1 (g := (mkF m 16 #[rv t, iv ag] [(.ref t), (.int ag)])) rfl rfl (hb hby d45_16)
  refine own_g T3 (mkF m 19 #[rv t, iv ag] [(.int fa), (.int ag)]) st3 ?_
  refine own_g T3 (mkF m 24 #[rv t, iv ag] [(.ref t), (.int ag)]) (fun _ kq => XS.icmpNo X3.here hx rfl (hb hby d45_19) rfl (flt (q2 : ¬ (ag < fa))).1 (XS.iloadN X3.here hx rfl (hb hby d45_22) rfl (XS.aloadN X3.here hx rfl (hb hby d45_23) rfl rfl kq))) ?_
  obtain ⟨_, T4, L4, X4, ⟨rfl, Nq4, hh4⟩, st4⟩ := own_cV X3 hx hZ hown (own_W300 hw) (own_W284 hw) (own_W286 hw) (own_W285 hw) (own_W69 hw) (own_W287 hw) (rmlast4 l Z a0 hw [] t fa r ar we ka el0 el1 el2 el3 h0 n0 O0 Em G1 G2 La Lb Lc Sem Eem B0 B1 B2 B3) e3 Em (lenOf pd_I_154 rfl) (g := (mkF m 24 #[rv t, iv ag] [(.ref t), (.int ag)])) (argsL := []) (rest := [(.int ag)]) (W := 1) rfl rfl (hb hby d45_24) (by rw [hml]; rfl) (by show 2 * 0 + _ ≤ _; exact Nat.le_of_eq rfl) rfl (by decide) (by decide) (by decide) (by decide) (by decide)
  have N5 := Fr.app N2 Nq4
  refine own_t T4 (mkF m 27 #[rv t, iv ag] [(.int ((fa + (4 : Int32)) - (1 : Int32))), (.int ag)]) st4 ?_
  refine own_g T4 (mkF m 57 #[rv t, iv ag] [(.ref t)]) (fun _ kq => XS.icmpYes X4.here hx rfl (pc0 := 27) (pc' := 56) rfl (hb hby d45_27) rfl (flt (q3 : ¬ (((fa + (4 : Int32)) - (1 : Int32)) < ag))).2.2.2 (by decide) (by decide) (XS.aloadN X4.here hx rfl (hb hby d45_56) rfl rfl kq)) ?_
  obtain ⟨T6, X6, e6, st6⟩ := getF X4 hx hZ hown (host := "") (Or.inl (own_W281 hw)) Via.refl hh4 G2 (g := (mkF m 57 #[rv t, iv ag] [(.ref t)])) rfl rfl (hb hby d45_57)
  refine own_g T6 (mkF m 60 #[rv t, iv ag] [(.ref r)]) st6 ?_
  refine own_g T6 (mkF m 62 #[rv t, iv ag] [(.ref t), (.int ag), (.ref r)]) (fun _ kq => XS.iloadN X6.here hx rfl (hb hby d45_60) rfl (XS.aloadN X6.here hx rfl (hb hby d45_61) rfl rfl kq)) ?_
  obtain ⟨T7, X7, e7, st7⟩ := getF X6 hx hZ hown (host := "") (Or.inl (own_W279 hw)) Via.refl e6 G1 (g := (mkF m 62 #[rv t, iv ag] [(.ref t), (.int ag), (.ref r)])) rfl rfl (hb hby d45_62)
  refine own_g T7 (mkF m 65 #[rv t, iv ag] [(.int fa), (.int ag), (.ref r)]) st7 ?_
  refine own_g T7 (mkF m 66 #[rv t, iv ag] [(.int (ag - fa)), (.ref r)]) (fun _ kq => XS.isub X7.here hx rfl (hb hby d45_65) rfl kq) ?_
  rw [q4]
  obtain ⟨_, T8, L8, X8, ⟨rfl, Nq8, hh8⟩, st8⟩ := own_cF X7 hx hZ hown (own_W152 hw) (own_W153 hw) (mvT hZ (own_W154 hw)) (own_W301 hw) (own_W302 hw) (own_W303 hw) (own_W304 hw) (own_W292 hw) (own_W254 hw) (own_W305 hw) (rmlget40 l Z a0 hw [] r ar we ka el0 el1 el2 el3 h0 n0 O0 La Lb Lc Sem Eem B0 B1 B2 B3) e7 La (lenOf pd_I_Ljava_lang_Object_821 rfl) (g := (mkF m 66 #[rv t, iv ag] [(.int (0 : Int32)), (.ref r)])) (argsL := [(.int (0 : Int32))]) (rest := []) (W := 0) rfl rfl (hb hby d45_66) (by rw [hml]; rfl) (by show 2 * 0 + _ ≤ _; exact Nat.le_of_eq rfl) rfl (by decide) (by decide) (by decide) (by decide) (by decide)
  have N9 := Fr.app N5 Nq8
  refine own_t T8 (mkF m 71 #[rv t, iv ag] [(.ref el0)]) st8 ?_
  obtain ⟨T10, X10, e10, st10⟩ := castY X8 hx hZ hown (own_W173 hw) hh8 (Ins.self (B0.ext O0.2)) (g := (mkF m 71 #[rv t, iv ag] [(.ref el0)])) rfl rfl (hb hby d45_71)
  refine own_g T10 (mkF m 74 #[rv t, iv ag] [(.ref el0)]) st10 ?_
  refine own_out X10 Bd.notSynchronized (v := (some (.ref el0))) (fun h => by rw [Bd.returns] at h; cases h) (fun fs hr => own_retA X10 hx Bd.returns rfl rfl rfl (hb hby d45_74) hr) ?_ (by decide) (by decide)
  rw [e10]
  exact ⟨rfl, N9, rfl⟩
theorem ef_rod41 (m : MethodId) (x0 : Addr) (x1 : Int32) : entryFrame m #[(.ref x0), (.int x1)] 2 = mkF m 0 #[.val (.ref x0), .val (.int x1)] [] := by first | (simp [entryFrame, mkF, argsToLocals, Value.category]; done) | rfl
def Qrod41 (Z : State) (t : Addr) (fa : Int32) (r ar we : Addr) (ka : ClassId) (el0 el1 el2 el3 : Addr) (ag : Int32) (h0 : Heap) (n0 : Nat) (v : Option Value) (h : Heap) (L : List Loc) : Prop := v = some (.ref el1) ∧ Fr n0 L ∧ h = h0
set_option maxRecDepth 65536 in
set_option maxHeartbeats 40000000 in
theorem rmrod41 (l : Launch) (Z : State) (a0 : Array Value) (hw : own_H a0 Z) (ws : List Jvm.Cond) (t : Addr) (fa : Int32) (r ar we : Addr) (ka : ClassId) (el0 el1 el2 el3 : Addr) (ag : Int32) (h0 : Heap) (n0 : Nat) (O0 : Old Z n0 h0) (Em : Exa Z h0 t "com/example/restoria/restoria/mortality/MortalityTable") (G1 : Fld Z h0 t "com/example/restoria/restoria/mortality/MortalityTable" "firstAge" "I" (.int fa)) (G2 : Fld Z h0 t "com/example/restoria/restoria/mortality/MortalityTable" "rates" "Ljava/util/List;" (.ref r)) (La : Exa Z h0 r "java/util/ImmutableCollections$ListN") (Lb : Fld Z h0 r "java/util/ImmutableCollections$ListN" "elements" "[Ljava/lang/Object;" (.ref ar)) (Lc : Arv Z h0 ar ka (.object "java/lang/Object") (4 : Int32) [(.ref el0), (.ref el1), (.ref el2), (.ref el3)] .null) (Sem : Sta Z Z.heap "java/util/ImmutableCollections" "EMPTY" "Ljava/lang/Object;" (.ref we)) (Eem : Exa Z Z.heap we "java/lang/Object") (B0 : Exa Z Z.heap el0 "java/math/BigDecimal") (B1 : Exa Z Z.heap el1 "java/math/BigDecimal") (B2 : Exa Z Z.heap el2 "java/math/BigDecimal") (B3 : Exa Z Z.heap el3 "java/math/BigDecimal") (q1 : ¬ (ag = (((fa + (4 : Int32)) - (1 : Int32)) + (1 : Int32)))) (q2 : ¬ (ag < fa)) (q3 : ¬ (((fa + (4 : Int32)) - (1 : Int32)) < ag)) (q4 : (ag - fa) = (1 : Int32)) :
    own_M l (⟨"com/example/restoria/restoria/mortality/MortalityTable", "rateOfDeath", "(I)Ljava/math/BigDecimal;"⟩ : MethodName) prog_35_method_4_code 2 (some (.object "java/math/BigDecimal")) ws (own_R 2 0 0 26) Z #[(.ref t), (.int ag)] h0 (Qrod41 Z t fa r ar we ka el0 el1 el2 el3 ag h0 n0) := by
  refine own_body (plainFor_of_name pn_com_example_restoria_restoria_mortality_MortalityTable) (fun m => ef_rod41 m t ag) ?_
  intro p e s m below meth c s₁ Bd hx hby hml hown hnm X0 e0 hZ
  have N0 := Fr.nil n0
  refine own_g s₁ (mkF m 2 #[rv t, iv ag] [(.ref t), (.int ag)]) (fun _ kq => XS.iloadN X0.here hx rfl (hb hby d45_0) rfl (XS.aloadN X0.here hx rfl (hb hby d45_1) rfl rfl kq)) ?_
  obtain ⟨_, T1, L1, X1, ⟨rfl, Nq1, hh1⟩, st1⟩ := own_cV X0 hx hZ hown (own_W300 hw) (own_W284 hw) (own_W286 hw) (own_W285 hw) (own_W69 hw) (own_W287 hw) (rmlast4 l Z a0 hw [] t fa r ar we ka el0 el1 el2 el3 h0 n0 O0 Em G1 G2 La Lb Lc Sem Eem B0 B1 B2 B3) e0 Em (lenOf pd_I_154 rfl) (g := (mkF m 2 #[rv t, iv ag] [(.ref t), (.int ag)])) (argsL := []) (rest := [(.int ag)]) (W := 1) rfl rfl (hb hby d45_2) (by rw [hml]; rfl) (by show 2 * 0 + _ ≤ _; exact Nat.le_of_eq rfl) rfl (by decide) (by decide) (by decide) (by decide) (by decide)
  have N2 := Fr.app N0 Nq1
  refine own_t T1 (mkF m 5 #[rv t, iv ag] [(.int ((fa + (4 : Int32)) - (1 : Int32))), (.int ag)]) st1 ?_
  refine own_g T1 (mkF m 16 #[rv t, iv ag] [(.ref t), (.int ag)]) (fun _ kq => XS.iconst X1.here hx rfl (hb hby d45_5) (XS.iadd X1.here hx rfl (hb hby d45_6) rfl (XS.icmpYes X1.here hx rfl (pc0 := 7) (pc' := 14) rfl (hb hby d45_7) rfl (feq (q1 : ¬ (ag = (((fa + (4 : Int32)) - (1 : Int32)) + (1 : Int32))))).2 (by decide) (by decide) (XS.iloadN X1.here hx rfl (hb hby d45_14) rfl (XS.aloadN X1.here hx rfl (hb hby d45_15) rfl rfl kq))))) ?_
  obtain ⟨T3, X3, e3, st3⟩ := getF X1 hx hZ hown (host := "") (Or.inl (own_W279 hw)) Via.refl hh1 G1 (g := (mkF m 16 #[rv t, iv ag] [(.ref t), (.int ag)])) rfl rfl (hb hby d45_16)
  refine own_g T3 (mkF m 19 #[rv t, iv ag] [(.int fa), (.int ag)]) st3 ?_
  refine own_g T3 (mkF m 24 #[rv t, iv ag] [(.ref t), (.int ag)]) (fun _ kq => XS.icmpNo X3.here hx rfl (hb hby d45_19) rfl (flt (q2 : ¬ (ag < fa))).1 (XS.iloadN X3.here hx rfl (hb hby d45_22) rfl (XS.aloadN X3.here hx rfl (hb hby d45_23) rfl rfl kq))) ?_
  obtain ⟨_, T4, L4, X4, ⟨rfl, Nq4, hh4⟩, st4⟩ := own_cV X3 hx hZ hown (own_W300 hw) (own_W284 hw) (own_W286 hw) (own_W285 hw) (own_W69 hw) (own_W287 hw) (rmlast4 l Z a0 hw [] t fa r ar we ka el0 el1 el2 el3 h0 n0 O0 Em G1 G2 La Lb Lc Sem Eem B0 B1 B2 B3) e3 Em (lenOf pd_I_154 rfl) (g := (mkF m 24 #[rv t, iv ag] [(.ref t), (.int ag)])) (argsL := []) (rest := [(.int ag)]) (W := 1) rfl rfl (hb hby d45_24) (by rw [hml]; rfl) (by show 2 * 0 + _ ≤ _; exact Nat.le_of_eq rfl) rfl (by decide) (by decide) (by decide) (by decide) (by decide)
  have N5 := Fr.app N2 Nq4
  refine own_t T4 (mkF m 27 #[rv t, iv ag] [(.int ((fa + (4 : Int32)) - (1 : Int32))), (.int ag)]) st4 ?_
  refine own_g T4 (mkF m 57 #[rv t, iv ag] [(.ref t)]) (fun _ kq => XS.icmpYes X4.here hx rfl (pc0 := 27) (pc' := 56) rfl (hb hby d45_27) rfl (flt (q3 : ¬ (((fa + (4 : Int32)) - (1 : Int32)) < ag))).2.2.2 (by decide) (by decide) (XS.aloadN X4.here hx rfl (hb hby d45_56) rfl rfl kq)) ?_
  obtain ⟨T6, X6, e6, st6⟩ := getF X4 hx hZ hown (host := "") (Or.inl (own_W281 hw)) Via.refl hh4 G2 (g := (mkF m 57 #[rv t, iv ag] [(.ref t)])) rfl rfl (hb hby d45_57)
  refine own_g T6 (mkF m 60 #[rv t, iv ag] [(.ref r)]) st6 ?_
  refine own_g T6 (mkF m 62 #[rv t, iv ag] [(.ref t), (.int ag), (.ref r)]) (fun _ kq => XS.iloadN X6.here hx rfl (hb hby d45_60) rfl (XS.aloadN X6.here hx rfl (hb hby d45_61) rfl rfl kq)) ?_
  obtain ⟨T7, X7, e7, st7⟩ := getF X6 hx hZ hown (host := "") (Or.inl (own_W279 hw)) Via.refl e6 G1 (g := (mkF m 62 #[rv t, iv ag] [(.ref t), (.int ag), (.ref r)])) rfl rfl (hb hby d45_62)
  refine own_g T7 (mkF m 65 #[rv t, iv ag] [(.int fa), (.int ag), (.ref r)]) st7 ?_
  refine own_g T7 (mkF m 66 #[rv t, iv ag] [(.int (ag - fa)), (.ref r)]) (fun _ kq => XS.isub X7.here hx rfl (hb hby d45_65) rfl kq) ?_
  rw [q4]
  obtain ⟨_, T8, L8, X8, ⟨rfl, Nq8, hh8⟩, st8⟩ := own_cF X7 hx hZ hown (own_W152 hw) (own_W153 hw) (mvT hZ (own_W154 hw)) (own_W301 hw) (own_W302 hw) (own_W303 hw) (own_W304 hw) (own_W292 hw) (own_W254 hw) (own_W305 hw) (rmlget41 l Z a0 hw [] r ar we ka el0 el1 el2 el3 h0 n0 O0 La Lb Lc Sem Eem B0 B1 B2 B3) e7 La (lenOf pd_I_Ljava_lang_Object_821 rfl) (g := (mkF m 66 #[rv t, iv ag] [(.int (1 : Int32)), (.ref r)])) (argsL := [(.int (1 : Int32))]) (rest := []) (W := 0) rfl rfl (hb hby d45_66) (by rw [hml]; rfl) (by show 2 * 0 + _ ≤ _; exact Nat.le_of_eq rfl) rfl (by decide) (by decide) (by decide) (by decide) (by decide)
  have N9 := Fr.app N5 Nq8
  refine own_t T8 (mkF m 71 #[rv t, iv ag] [(.ref el1)]) st8 ?_
  obtain ⟨T10, X10, e10, st10⟩ := castY X8 hx hZ hown (own_W173 hw) hh8 (Ins.self (B1.ext O0.2)) (g := (mkF m 71 #[rv t, iv ag] [(.ref el1)])) rfl rfl (hb hby d45_71)
  refine own_g T10 (mkF m 74 #[rv t, iv ag] [(.ref el1)]) st10 ?_
  refine own_out X10 Bd.notSynchronized (v := (some (.ref el1))) (fun h => by rw [Bd.returns] at h; cases h) (fun fs hr => own_retA X10 hx Bd.returns rfl rfl rfl (hb hby d45_74) hr) ?_ (by decide) (by decide)
  rw [e10]
  exact ⟨rfl, N9, rfl⟩
theorem ef_rod42 (m : MethodId) (x0 : Addr) (x1 : Int32) : entryFrame m #[(.ref x0), (.int x1)] 2 = mkF m 0 #[.val (.ref x0), .val (.int x1)] [] := by first | (simp [entryFrame, mkF, argsToLocals, Value.category]; done) | rfl
def Qrod42 (Z : State) (t : Addr) (fa : Int32) (r ar we : Addr) (ka : ClassId) (el0 el1 el2 el3 : Addr) (ag : Int32) (h0 : Heap) (n0 : Nat) (v : Option Value) (h : Heap) (L : List Loc) : Prop := v = some (.ref el2) ∧ Fr n0 L ∧ h = h0
set_option maxRecDepth 65536 in
set_option maxHeartbeats 40000000 in
theorem rmrod42 (l : Launch) (Z : State) (a0 : Array Value) (hw : own_H a0 Z) (ws : List Jvm.Cond) (t : Addr) (fa : Int32) (r ar we : Addr) (ka : ClassId) (el0 el1 el2 el3 : Addr) (ag : Int32) (h0 : Heap) (n0 : Nat) (O0 : Old Z n0 h0) (Em : Exa Z h0 t "com/example/restoria/restoria/mortality/MortalityTable") (G1 : Fld Z h0 t "com/example/restoria/restoria/mortality/MortalityTable" "firstAge" "I" (.int fa)) (G2 : Fld Z h0 t "com/example/restoria/restoria/mortality/MortalityTable" "rates" "Ljava/util/List;" (.ref r)) (La : Exa Z h0 r "java/util/ImmutableCollections$ListN") (Lb : Fld Z h0 r "java/util/ImmutableCollections$ListN" "elements" "[Ljava/lang/Object;" (.ref ar)) (Lc : Arv Z h0 ar ka (.object "java/lang/Object") (4 : Int32) [(.ref el0), (.ref el1), (.ref el2), (.ref el3)] .null) (Sem : Sta Z Z.heap "java/util/ImmutableCollections" "EMPTY" "Ljava/lang/Object;" (.ref we)) (Eem : Exa Z Z.heap we "java/lang/Object") (B0 : Exa Z Z.heap el0 "java/math/BigDecimal") (B1 : Exa Z Z.heap el1 "java/math/BigDecimal") (B2 : Exa Z Z.heap el2 "java/math/BigDecimal") (B3 : Exa Z Z.heap el3 "java/math/BigDecimal") (q1 : ¬ (ag = (((fa + (4 : Int32)) - (1 : Int32)) + (1 : Int32)))) (q2 : ¬ (ag < fa)) (q3 : ¬ (((fa + (4 : Int32)) - (1 : Int32)) < ag)) (q4 : (ag - fa) = (2 : Int32)) :
    own_M l (⟨"com/example/restoria/restoria/mortality/MortalityTable", "rateOfDeath", "(I)Ljava/math/BigDecimal;"⟩ : MethodName) prog_35_method_4_code 2 (some (.object "java/math/BigDecimal")) ws (own_R 2 0 0 26) Z #[(.ref t), (.int ag)] h0 (Qrod42 Z t fa r ar we ka el0 el1 el2 el3 ag h0 n0) := by
  refine own_body (plainFor_of_name pn_com_example_restoria_restoria_mortality_MortalityTable) (fun m => ef_rod42 m t ag) ?_
  intro p e s m below meth c s₁ Bd hx hby hml hown hnm X0 e0 hZ
  have N0 := Fr.nil n0
  refine own_g s₁ (mkF m 2 #[rv t, iv ag] [(.ref t), (.int ag)]) (fun _ kq => XS.iloadN X0.here hx rfl (hb hby d45_0) rfl (XS.aloadN X0.here hx rfl (hb hby d45_1) rfl rfl kq)) ?_
  obtain ⟨_, T1, L1, X1, ⟨rfl, Nq1, hh1⟩, st1⟩ := own_cV X0 hx hZ hown (own_W300 hw) (own_W284 hw) (own_W286 hw) (own_W285 hw) (own_W69 hw) (own_W287 hw) (rmlast4 l Z a0 hw [] t fa r ar we ka el0 el1 el2 el3 h0 n0 O0 Em G1 G2 La Lb Lc Sem Eem B0 B1 B2 B3) e0 Em (lenOf pd_I_154 rfl) (g := (mkF m 2 #[rv t, iv ag] [(.ref t), (.int ag)])) (argsL := []) (rest := [(.int ag)]) (W := 1) rfl rfl (hb hby d45_2) (by rw [hml]; rfl) (by show 2 * 0 + _ ≤ _; exact Nat.le_of_eq rfl) rfl (by decide) (by decide) (by decide) (by decide) (by decide)
  have N2 := Fr.app N0 Nq1
  refine own_t T1 (mkF m 5 #[rv t, iv ag] [(.int ((fa + (4 : Int32)) - (1 : Int32))), (.int ag)]) st1 ?_
  refine own_g T1 (mkF m 16 #[rv t, iv ag] [(.ref t), (.int ag)]) (fun _ kq => XS.iconst X1.here hx rfl (hb hby d45_5) (XS.iadd X1.here hx rfl (hb hby d45_6) rfl (XS.icmpYes X1.here hx rfl (pc0 := 7) (pc' := 14) rfl (hb hby d45_7) rfl (feq (q1 : ¬ (ag = (((fa + (4 : Int32)) - (1 : Int32)) + (1 : Int32))))).2 (by decide) (by decide) (XS.iloadN X1.here hx rfl (hb hby d45_14) rfl (XS.aloadN X1.here hx rfl (hb hby d45_15) rfl rfl kq))))) ?_
  obtain ⟨T3, X3, e3, st3⟩ := getF X1 hx hZ hown (host := "") (Or.inl (own_W279 hw)) Via.refl hh1 G1 (g := (mkF m 16 #[rv t, iv ag] [(.ref t), (.int ag)])) rfl rfl (hb hby d45_16)
  refine own_g T3 (mkF m 19 #[rv t, iv ag] [(.int fa), (.int ag)]) st3 ?_
  refine own_g T3 (mkF m 24 #[rv t, iv ag] [(.ref t), (.int ag)]) (fun _ kq => XS.icmpNo X3.here hx rfl (hb hby d45_19) rfl (flt (q2 : ¬ (ag < fa))).1 (XS.iloadN X3.here hx rfl (hb hby d45_22) rfl (XS.aloadN X3.here hx rfl (hb hby d45_23) rfl rfl kq))) ?_
  obtain ⟨_, T4, L4, X4, ⟨rfl, Nq4, hh4⟩, st4⟩ := own_cV X3 hx hZ hown (own_W300 hw) (own_W284 hw) (own_W286 hw) (own_W285 hw) (own_W69 hw) (own_W287 hw) (rmlast4 l Z a0 hw [] t fa r ar we ka el0 el1 el2 el3 h0 n0 O0 Em G1 G2 La Lb Lc Sem Eem B0 B1 B2 B3) e3 Em (lenOf pd_I_154 rfl) (g := (mkF m 24 #[rv t, iv ag] [(.ref t), (.int ag)])) (argsL := []) (rest := [(.int ag)]) (W := 1) rfl rfl (hb hby d45_24) (by rw [hml]; rfl) (by show 2 * 0 + _ ≤ _; exact Nat.le_of_eq rfl) rfl (by decide) (by decide) (by decide) (by decide) (by decide)
  have N5 := Fr.app N2 Nq4
  refine own_t T4 (mkF m 27 #[rv t, iv ag] [(.int ((fa + (4 : Int32)) - (1 : Int32))), (.int ag)]) st4 ?_
  refine own_g T4 (mkF m 57 #[rv t, iv ag] [(.ref t)]) (fun _ kq => XS.icmpYes X4.here hx rfl (pc0 := 27) (pc' := 56) rfl (hb hby d45_27) rfl (flt (q3 : ¬ (((fa + (4 : Int32)) - (1 : Int32)) < ag))).2.2.2 (by decide) (by decide) (XS.aloadN X4.here hx rfl (hb hby d45_56) rfl rfl kq)) ?_
  obtain ⟨T6, X6, e6, st6⟩ := getF X4 hx hZ hown (host := "") (Or.inl (own_W281 hw)) Via.refl hh4 G2 (g := (mkF m 57 #[rv t, iv ag] [(.ref t)])) rfl rfl (hb hby d45_57)
  refine own_g T6 (mkF m 60 #[rv t, iv ag] [(.ref r)]) st6 ?_
  refine own_g T6 (mkF m 62 #[rv t, iv ag] [(.ref t), (.int ag), (.ref r)]) (fun _ kq => XS.iloadN X6.here hx rfl (hb hby d45_60) rfl (XS.aloadN X6.here hx rfl (hb hby d45_61) rfl rfl kq)) ?_
  obtain ⟨T7, X7, e7, st7⟩ := getF X6 hx hZ hown (host := "") (Or.inl (own_W279 hw)) Via.refl e6 G1 (g := (mkF m 62 #[rv t, iv ag] [(.ref t), (.int ag), (.ref r)])) rfl rfl (hb hby d45_62)
  refine own_g T7 (mkF m 65 #[rv t, iv ag] [(.int fa), (.int ag), (.ref r)]) st7 ?_
  refine own_g T7 (mkF m 66 #[rv t, iv ag] [(.int (ag - fa)), (.ref r)]) (fun _ kq => XS.isub X7.here hx rfl (hb hby d45_65) rfl kq) ?_
  rw [q4]
  obtain ⟨_, T8, L8, X8, ⟨rfl, Nq8, hh8⟩, st8⟩ := own_cF X7 hx hZ hown (own_W152 hw) (own_W153 hw) (mvT hZ (own_W154 hw)) (own_W301 hw) (own_W302 hw) (own_W303 hw) (own_W304 hw) (own_W292 hw) (own_W254 hw) (own_W305 hw) (rmlget42 l Z a0 hw [] r ar we ka el0 el1 el2 el3 h0 n0 O0 La Lb Lc Sem Eem B0 B1 B2 B3) e7 La (lenOf pd_I_Ljava_lang_Object_821 rfl) (g := (mkF m 66 #[rv t, iv ag] [(.int (2 : Int32)), (.ref r)])) (argsL := [(.int (2 : Int32))]) (rest := []) (W := 0) rfl rfl (hb hby d45_66) (by rw [hml]; rfl) (by show 2 * 0 + _ ≤ _; exact Nat.le_of_eq rfl) rfl (by decide) (by decide) (by decide) (by decide) (by decide)
  have N9 := Fr.app N5 Nq8
  refine own_t T8 (mkF m 71 #[rv t, iv ag] [(.ref el2)]) st8 ?_
  obtain ⟨T10, X10, e10, st10⟩ := castY X8 hx hZ hown (own_W173 hw) hh8 (Ins.self (B2.ext O0.2)) (g := (mkF m 71 #[rv t, iv ag] [(.ref el2)])) rfl rfl (hb hby d45_71)
  refine own_g T10 (mkF m 74 #[rv t, iv ag] [(.ref el2)]) st10 ?_
  refine own_out X10 Bd.notSynchronized (v := (some (.ref el2))) (fun h => by rw [Bd.returns] at h; cases h) (fun fs hr => own_retA X10 hx Bd.returns rfl rfl rfl (hb hby d45_74) hr) ?_ (by decide) (by decide)
  rw [e10]
  exact ⟨rfl, N9, rfl⟩
theorem ef_rod43 (m : MethodId) (x0 : Addr) (x1 : Int32) : entryFrame m #[(.ref x0), (.int x1)] 2 = mkF m 0 #[.val (.ref x0), .val (.int x1)] [] := by first | (simp [entryFrame, mkF, argsToLocals, Value.category]; done) | rfl
def Qrod43 (Z : State) (t : Addr) (fa : Int32) (r ar we : Addr) (ka : ClassId) (el0 el1 el2 el3 : Addr) (ag : Int32) (h0 : Heap) (n0 : Nat) (v : Option Value) (h : Heap) (L : List Loc) : Prop := v = some (.ref el3) ∧ Fr n0 L ∧ h = h0
set_option maxRecDepth 65536 in
set_option maxHeartbeats 40000000 in
theorem rmrod43 (l : Launch) (Z : State) (a0 : Array Value) (hw : own_H a0 Z) (ws : List Jvm.Cond) (t : Addr) (fa : Int32) (r ar we : Addr) (ka : ClassId) (el0 el1 el2 el3 : Addr) (ag : Int32) (h0 : Heap) (n0 : Nat) (O0 : Old Z n0 h0) (Em : Exa Z h0 t "com/example/restoria/restoria/mortality/MortalityTable") (G1 : Fld Z h0 t "com/example/restoria/restoria/mortality/MortalityTable" "firstAge" "I" (.int fa)) (G2 : Fld Z h0 t "com/example/restoria/restoria/mortality/MortalityTable" "rates" "Ljava/util/List;" (.ref r)) (La : Exa Z h0 r "java/util/ImmutableCollections$ListN") (Lb : Fld Z h0 r "java/util/ImmutableCollections$ListN" "elements" "[Ljava/lang/Object;" (.ref ar)) (Lc : Arv Z h0 ar ka (.object "java/lang/Object") (4 : Int32) [(.ref el0), (.ref el1), (.ref el2), (.ref el3)] .null) (Sem : Sta Z Z.heap "java/util/ImmutableCollections" "EMPTY" "Ljava/lang/Object;" (.ref we)) (Eem : Exa Z Z.heap we "java/lang/Object") (B0 : Exa Z Z.heap el0 "java/math/BigDecimal") (B1 : Exa Z Z.heap el1 "java/math/BigDecimal") (B2 : Exa Z Z.heap el2 "java/math/BigDecimal") (B3 : Exa Z Z.heap el3 "java/math/BigDecimal") (q1 : ¬ (ag = (((fa + (4 : Int32)) - (1 : Int32)) + (1 : Int32)))) (q2 : ¬ (ag < fa)) (q3 : ¬ (((fa + (4 : Int32)) - (1 : Int32)) < ag)) (q4 : (ag - fa) = (3 : Int32)) :
    own_M l (⟨"com/example/restoria/restoria/mortality/MortalityTable", "rateOfDeath", "(I)Ljava/math/BigDecimal;"⟩ : MethodName) prog_35_method_4_code 2 (some (.object "java/math/BigDecimal")) ws (own_R 2 0 0 26) Z #[(.ref t), (.int ag)] h0 (Qrod43 Z t fa r ar we ka el0 el1 el2 el3 ag h0 n0) := by
  refine own_body (plainFor_of_name pn_com_example_restoria_restoria_mortality_MortalityTable) (fun m => ef_rod43 m t ag) ?_
  intro p e s m below meth c s₁ Bd hx hby hml hown hnm X0 e0 hZ
  have N0 := Fr.nil n0
  refine own_g s₁ (mkF m 2 #[rv t, iv ag] [(.ref t), (.int ag)]) (fun _ kq => XS.iloadN X0.here hx rfl (hb hby d45_0) rfl (XS.aloadN X0.here hx rfl (hb hby d45_1) rfl rfl kq)) ?_
  obtain ⟨_, T1, L1, X1, ⟨rfl, Nq1, hh1⟩, st1⟩ := own_cV X0 hx hZ hown (own_W300 hw) (own_W284 hw) (own_W286 hw) (own_W285 hw) (own_W69 hw) (own_W287 hw) (rmlast4 l Z a0 hw [] t fa r ar we ka el0 el1 el2 el3 h0 n0 O0 Em G1 G2 La Lb Lc Sem Eem B0 B1 B2 B3) e0 Em (lenOf pd_I_154 rfl) (g := (mkF m 2 #[rv t, iv ag] [(.ref t), (.int ag)])) (argsL := []) (rest := [(.int ag)]) (W := 1) rfl rfl (hb hby d45_2) (by rw [hml]; rfl) (by show 2 * 0 + _ ≤ _; exact Nat.le_of_eq rfl) rfl (by decide) (by decide) (by decide) (by decide) (by decide)
  have N2 := Fr.app N0 Nq1
  refine own_t T1 (mkF m 5 #[rv t, iv ag] [(.int ((fa + (4 : Int32)) - (1 : Int32))), (.int ag)]) st1 ?_
  refine own_g T1 (mkF m 16 #[rv t, iv ag] [(.ref t), (.int ag)]) (fun _ kq => XS.iconst X1.here hx rfl (hb hby d45_5) (XS.iadd X1.here hx rfl (hb hby d45_6) rfl (XS.icmpYes X1.here hx rfl (pc0 := 7) (pc' := 14) rfl (hb hby d45_7) rfl (feq (q1 : ¬ (ag = (((fa + (4 : Int32)) - (1 : Int32)) + (1 : Int32))))).2 (by decide) (by decide) (XS.iloadN X1.here hx rfl (hb hby d45_14) rfl (XS.aloadN X1.here hx rfl (hb hby d45_15) rfl rfl kq))))) ?_
  obtain ⟨T3, X3, e3, st3⟩ := getF X1 hx hZ hown (host := "") (Or.inl (own_W279 hw)) Via.refl hh1 G1 (g := (mkF m 16 #[rv t, iv ag] [(.ref t), (.int ag)])) rfl rfl (hb hby d45_16)
  refine own_g T3 (mkF m 19 #[rv t, iv ag] [(.int fa), (.int ag)]) st3 ?_
  refine own_g T3 (mkF m 24 #[rv t, iv ag] [(.ref t), (.int ag)]) (fun _ kq => XS.icmpNo X3.here hx rfl (hb hby d45_19) rfl (flt (q2 : ¬ (ag < fa))).1 (XS.iloadN X3.here hx rfl (hb hby d45_22) rfl (XS.aloadN X3.here hx rfl (hb hby d45_23) rfl rfl kq))) ?_
  obtain ⟨_, T4, L4, X4, ⟨rfl, Nq4, hh4⟩, st4⟩ := own_cV X3 hx hZ hown (own_W300 hw) (own_W284 hw) (own_W286 hw) (own_W285 hw) (own_W69 hw) (own_W287 hw) (rmlast4 l Z a0 hw [] t fa r ar we ka el0 el1 el2 el3 h0 n0 O0 Em G1 G2 La Lb Lc Sem Eem B0 B1 B2 B3) e3 Em (lenOf pd_I_154 rfl) (g := (mkF m 24 #[rv t, iv ag] [(.ref t), (.int ag)])) (argsL := []) (rest := [(.int ag)]) (W := 1) rfl rfl (hb hby d45_24) (by rw [hml]; rfl) (by show 2 * 0 + _ ≤ _; exact Nat.le_of_eq rfl) rfl (by decide) (by decide) (by decide) (by decide) (by decide)
  have N5 := Fr.app N2 Nq4
  refine own_t T4 (mkF m 27 #[rv t, iv ag] [(.int ((fa + (4 : Int32)) - (1 : Int32))), (.int ag)]) st4 ?_
  refine own_g T4 (mkF m 57 #[rv t, iv ag] [(.ref t)]) (fun _ kq => XS.icmpYes X4.here hx rfl (pc0 := 27) (pc' := 56) rfl (hb hby d45_27) rfl (flt (q3 : ¬ (((fa + (4 : Int32)) - (1 : Int32)) < ag))).2.2.2 (by decide) (by decide) (XS.aloadN X4.here hx rfl (hb hby d45_56) rfl rfl kq)) ?_
  obtain ⟨T6, X6, e6, st6⟩ := getF X4 hx hZ hown (host := "") (Or.inl (own_W281 hw)) Via.refl hh4 G2 (g := (mkF m 57 #[rv t, iv ag] [(.ref t)])) rfl rfl (hb hby d45_57)
  refine own_g T6 (mkF m 60 #[rv t, iv ag] [(.ref r)]) st6 ?_
  refine own_g T6 (mkF m 62 #[rv t, iv ag] [(.ref t), (.int ag), (.ref r)]) (fun _ kq => XS.iloadN X6.here hx rfl (hb hby d45_60) rfl (XS.aloadN X6.here hx rfl (hb hby d45_61) rfl rfl kq)) ?_
  obtain ⟨T7, X7, e7, st7⟩ := getF X6 hx hZ hown (host := "") (Or.inl (own_W279 hw)) Via.refl e6 G1 (g := (mkF m 62 #[rv t, iv ag] [(.ref t), (.int ag), (.ref r)])) rfl rfl (hb hby d45_62)
  refine own_g T7 (mkF m 65 #[rv t, iv ag] [(.int fa), (.int ag), (.ref r)]) st7 ?_
  refine own_g T7 (mkF m 66 #[rv t, iv ag] [(.int (ag - fa)), (.ref r)]) (fun _ kq => XS.isub X7.here hx rfl (hb hby d45_65) rfl kq) ?_
  rw [q4]
  obtain ⟨_, T8, L8, X8, ⟨rfl, Nq8, hh8⟩, st8⟩ := own_cF X7 hx hZ hown (own_W152 hw) (own_W153 hw) (mvT hZ (own_W154 hw)) (own_W301 hw) (own_W302 hw) (own_W303 hw) (own_W304 hw) (own_W292 hw) (own_W254 hw) (own_W305 hw) (rmlget43 l Z a0 hw [] r ar we ka el0 el1 el2 el3 h0 n0 O0 La Lb Lc Sem Eem B0 B1 B2 B3) e7 La (lenOf pd_I_Ljava_lang_Object_821 rfl) (g := (mkF m 66 #[rv t, iv ag] [(.int (3 : Int32)), (.ref r)])) (argsL := [(.int (3 : Int32))]) (rest := []) (W := 0) rfl rfl (hb hby d45_66) (by rw [hml]; rfl) (by show 2 * 0 + _ ≤ _; exact Nat.le_of_eq rfl) rfl (by decide) (by decide) (by decide) (by decide) (by decide)
  have N9 := Fr.app N5 Nq8
  refine own_t T8 (mkF m 71 #[rv t, iv ag] [(.ref el3)]) st8 ?_
  obtain ⟨T10, X10, e10, st10⟩ := castY X8 hx hZ hown (own_W173 hw) hh8 (Ins.self (B3.ext O0.2)) (g := (mkF m 71 #[rv t, iv ag] [(.ref el3)])) rfl rfl (hb hby d45_71)
  refine own_g T10 (mkF m 74 #[rv t, iv ag] [(.ref el3)]) st10 ?_
  refine own_out X10 Bd.notSynchronized (v := (some (.ref el3))) (fun h => by rw [Bd.returns] at h; cases h) (fun fs hr => own_retA X10 hx Bd.returns rfl rfl rfl (hb hby d45_74) hr) ?_ (by decide) (by decide)
  rw [e10]
  exact ⟨rfl, N9, rfl⟩
theorem ef_rode4 (m : MethodId) (x0 : Addr) (x1 : Int32) : entryFrame m #[(.ref x0), (.int x1)] 2 = mkF m 0 #[.val (.ref x0), .val (.int x1)] [] := by first | (simp [entryFrame, mkF, argsToLocals, Value.category]; done) | rfl
def Qrode4 (Z : State) (t : Addr) (fa : Int32) (r ar we : Addr) (ka : ClassId) (el0 el1 el2 el3 : Addr) (ag : Int32) (w1 : Addr) (h0 : Heap) (n0 : Nat) (v : Option Value) (h : Heap) (L : List Loc) : Prop := v = some (.ref w1) ∧ Fr n0 L ∧ h = h0
set_option maxRecDepth 65536 in
set_option maxHeartbeats 40000000 in
theorem rmrode4 (l : Launch) (Z : State) (a0 : Array Value) (hw : own_H a0 Z) (ws : List Jvm.Cond) (t : Addr) (fa : Int32) (r ar we : Addr) (ka : ClassId) (el0 el1 el2 el3 : Addr) (ag : Int32) (w1 : Addr) (h0 : Heap) (n0 : Nat) (O0 : Old Z n0 h0) (Em : Exa Z h0 t "com/example/restoria/restoria/mortality/MortalityTable") (G1 : Fld Z h0 t "com/example/restoria/restoria/mortality/MortalityTable" "firstAge" "I" (.int fa)) (G2 : Fld Z h0 t "com/example/restoria/restoria/mortality/MortalityTable" "rates" "Ljava/util/List;" (.ref r)) (La : Exa Z h0 r "java/util/ImmutableCollections$ListN") (Lb : Fld Z h0 r "java/util/ImmutableCollections$ListN" "elements" "[Ljava/lang/Object;" (.ref ar)) (Lc : Arv Z h0 ar ka (.object "java/lang/Object") (4 : Int32) [(.ref el0), (.ref el1), (.ref el2), (.ref el3)] .null) (Sem : Sta Z Z.heap "java/util/ImmutableCollections" "EMPTY" "Ljava/lang/Object;" (.ref we)) (Eem : Exa Z Z.heap we "java/lang/Object") (B0 : Exa Z Z.heap el0 "java/math/BigDecimal") (B1 : Exa Z Z.heap el1 "java/math/BigDecimal") (B2 : Exa Z Z.heap el2 "java/math/BigDecimal") (B3 : Exa Z Z.heap el3 "java/math/BigDecimal") (S1 : Sta Z Z.heap "java/math/BigDecimal" "ONE" "Ljava/math/BigDecimal;" (.ref w1)) (q1 : ag = (((fa + (4 : Int32)) - (1 : Int32)) + (1 : Int32))) :
    own_M l (⟨"com/example/restoria/restoria/mortality/MortalityTable", "rateOfDeath", "(I)Ljava/math/BigDecimal;"⟩ : MethodName) prog_35_method_4_code 2 (some (.object "java/math/BigDecimal")) ws (own_R 2 0 0 26) Z #[(.ref t), (.int ag)] h0 (Qrode4 Z t fa r ar we ka el0 el1 el2 el3 ag w1 h0 n0) := by
  refine own_body (plainFor_of_name pn_com_example_restoria_restoria_mortality_MortalityTable) (fun m => ef_rode4 m t ag) ?_
  intro p e s m below meth c s₁ Bd hx hby hml hown hnm X0 e0 hZ
  have N0 := Fr.nil n0
  refine own_g s₁ (mkF m 2 #[rv t, iv ag] [(.ref t), (.int ag)]) (fun _ kq => XS.iloadN X0.here hx rfl (hb hby d45_0) rfl (XS.aloadN X0.here hx rfl (hb hby d45_1) rfl rfl kq)) ?_
  obtain ⟨_, T1, L1, X1, ⟨rfl, Nq1, hh1⟩, st1⟩ := own_cV X0 hx hZ hown (own_W300 hw) (own_W284 hw) (own_W286 hw) (own_W285 hw) (own_W69 hw) (own_W287 hw) (rmlast4 l Z a0 hw [] t fa r ar we ka el0 el1 el2 el3 h0 n0 O0 Em G1 G2 La Lb Lc Sem Eem B0 B1 B2 B3) e0 Em (lenOf pd_I_154 rfl) (g := (mkF m 2 #[rv t, iv ag] [(.ref t), (.int ag)])) (argsL := []) (rest := [(.int ag)]) (W := 1) rfl rfl (hb hby d45_2) (by rw [hml]; rfl) (by show 2 * 0 + _ ≤ _; exact Nat.le_of_eq rfl) rfl (by decide) (by decide) (by decide) (by decide) (by decide)
  have N2 := Fr.app N0 Nq1
  refine own_t T1 (mkF m 5 #[rv t, iv ag] [(.int ((fa + (4 : Int32)) - (1 : Int32))), (.int ag)]) st1 ?_
  refine own_g T1 (mkF m 10 #[rv t, iv ag] []) (fun _ kq => XS.iconst X1.here hx rfl (hb hby d45_5) (XS.iadd X1.here hx rfl (hb hby d45_6) rfl (XS.icmpNo X1.here hx rfl (hb hby d45_7) rfl (teq (q1 : ag = (((fa + (4 : Int32)) - (1 : Int32)) + (1 : Int32)))).2 kq))) ?_
  obtain ⟨T3, X3, e3, st3⟩ := getS2 X1 hx hZ hown (host := "") (Or.inl (own_W186 hw)) Via.refl hh1 (S1.ext O0.2) (g := (mkF m 10 #[rv t, iv ag] [])) rfl (hb hby d45_10)
  refine own_g T3 (mkF m 13 #[rv t, iv ag] [(.ref w1)]) st3 ?_
  refine own_out X3 Bd.notSynchronized (v := (some (.ref w1))) (fun h => by rw [Bd.returns] at h; cases h) (fun fs hr => own_retA X3 hx Bd.returns rfl rfl rfl (hb hby d45_13) hr) ?_ (by decide) (by decide)
  rw [e3]
  exact ⟨rfl, N2, rfl⟩
def own_W72 {a0 Z} (hw : own_H a0 Z) := hw _ (List.mem_of_getElem? (i := 72) rfl)
def own_W73 {a0 Z} (hw : own_H a0 Z) := hw _ (List.mem_of_getElem? (i := 73) rfl)
def own_W74 {a0 Z} (hw : own_H a0 Z) := hw _ (List.mem_of_getElem? (i := 74) rfl)
def own_W75 {a0 Z} (hw : own_H a0 Z) := hw _ (List.mem_of_getElem? (i := 75) rfl)
def own_W76 {a0 Z} (hw : own_H a0 Z) := hw _ (List.mem_of_getElem? (i := 76) rfl)
def own_W77 {a0 Z} (hw : own_H a0 Z) := hw _ (List.mem_of_getElem? (i := 77) rfl)
theorem own_strs {a0 : Array Value} {Z : State} (hw : ∀ d ∈ tables_1, d.before a0 Z = true) : ∀ a ∈ Bundle.stringAtoms, a.before a0 Z = true := fun a ha => by
  simp only [Bundle.stringAtoms, Bundle.sN, List.mem_cons, List.not_mem_nil, or_false] at ha
  rcases ha with rfl | rfl | rfl | rfl | rfl | rfl | rfl
  · exact (own_W71 hw)
  · exact (own_W72 hw)
  · exact (own_W73 hw)
  · exact (own_W74 hw)
  · exact (own_W75 hw)
  · exact (own_W76 hw)
  · exact (own_W77 hw)
theorem own_eqInt {args : Array Value} {s : State} {t : Term} {k : Int32} (h : (Jvm.Cond.eq t (Term.int k)).value args s none s [] = some true) : t.eval args s none [] s = some (.int k) := by
  cases ht : t.eval args s none [] s with
  | none => simp [Cond.value, ht] at h
  | some x => cases x <;> simp [Cond.value, ht, Term.eval] at h ⊢ ; exact h
theorem own_eqLong {args : Array Value} {s : State} {t : Term} {k : Int64} (h : (Jvm.Cond.eq t (Term.long k)).value args s none s [] = some true) : t.eval args s none [] s = some (.long k) := by
  cases ht : t.eval args s none [] s with
  | none => simp [Cond.value, ht] at h
  | some x => cases x <;> simp [Cond.value, ht, Term.eval] at h ⊢ ; exact h
theorem own_neInt {args : Array Value} {s : State} {t : Term} {k x : Int32} (h : (Jvm.Cond.not (Jvm.Cond.eq t (Term.int k))).value args s none s [] = some true) (ht : t.eval args s none [] s = some (.int x)) : ¬ (x = k) := by
  have h1 := not_v h
  simpa [Cond.value, ht, Term.eval] using h1
theorem own_n (x : Int32) : ((x &&& (3 : Int32)) + (1 : Int32)) = 1 ∨ ((x &&& (3 : Int32)) + (1 : Int32)) = 2 ∨ ((x &&& (3 : Int32)) + (1 : Int32)) = 3 ∨ ((x &&& (3 : Int32)) + (1 : Int32)) = 4 := by
  have h := c_and x 3 (by decide)
  have k3 : (3 : Int32).toInt = 3 := rfl
  have e : ∀ z : Int32, (x &&& 3).toInt = z.toInt → (x &&& 3) = z := fun z q => Int32.toInt_inj.mp q
  have hq : (x &&& 3).toInt = 0 ∨ (x &&& 3).toInt = 1 ∨ (x &&& 3).toInt = 2 ∨ (x &&& 3).toInt = 3 := by omega
  rcases hq with q | q | q | q
  · rw [e 0 q]; decide
  · rw [e 1 q]; decide
  · rw [e 2 q]; decide
  · rw [e 3 q]; decide
theorem own_last1 (fa : Int32) : ((fa + (1 : Int32)) - (1 : Int32)) = fa := by
  rw [Int32.sub_eq_add_neg, Int32.add_assoc]; exact Int32.add_zero fa
theorem own_last2 (fa : Int32) : ((fa + (2 : Int32)) - (1 : Int32)) = (fa + (1 : Int32)) := by
  rw [Int32.sub_eq_add_neg, Int32.add_assoc]; rfl
theorem own_last3 (fa : Int32) : ((fa + (3 : Int32)) - (1 : Int32)) = (fa + (2 : Int32)) := by
  rw [Int32.sub_eq_add_neg, Int32.add_assoc]; rfl
theorem own_last4 (fa : Int32) : ((fa + (4 : Int32)) - (1 : Int32)) = (fa + (3 : Int32)) := by
  rw [Int32.sub_eq_add_neg, Int32.add_assoc]; rfl
theorem own_rd (fa n k ag : Int32) (hf : ¬ ((2147483643 : Int32) < fa)) (hn : 1 ≤ n.toInt ∧ n.toInt ≤ 4) (hk : 0 ≤ k.toInt ∧ k.toInt < n.toInt) (ha : ag = fa + k) :
    ¬ (ag = (((fa + n) - (1 : Int32)) + (1 : Int32))) ∧ ¬ (ag < fa) ∧ ¬ (((fa + n) - (1 : Int32)) < ag) ∧ (ag - fa) = k := by
  subst ha
  have k1 : (1 : Int32).toInt = 1 := rfl
  have km : (2147483643 : Int32).toInt = 2147483643 := rfl
  have hf' : fa.toInt ≤ 2147483643 := by
    have := mt Int32.lt_iff_toInt_lt.mpr hf
    omega
  have r := rng32 fa
  have a1 := c_iadd fa n
  have r1 := rng32 (fa + n)
  have a2 := c_isub (fa + n) 1
  have r2 := rng32 ((fa + n) - 1)
  have a3 := c_iadd ((fa + n) - 1) 1
  have r3 := rng32 (((fa + n) - 1) + 1)
  have a4 := c_iadd fa k
  have r4 := rng32 (fa + k)
  have a5 := c_isub (fa + k) fa
  have r5 := rng32 ((fa + k) - fa)
  rw [k1] at a2 a3
  refine ⟨fun q => ?_, fun q => ?_, fun q => ?_, ?_⟩
  · have := congrArg Int32.toInt q
    omega
  · have := Int32.lt_iff_toInt_lt.mp q
    omega
  · have := Int32.lt_iff_toInt_lt.mp q
    omega
  · apply Int32.toInt_inj.mp
    omega
theorem d1_0 : decode method_2_code 0 = .ok (.iload_n 0, 1) := by decide +kernel
theorem d1_1 : decode method_2_code 1 = .ok (.iload_n 1, 1) := by decide +kernel
theorem d1_2 : decode method_2_code 2 = .ok (.ishr, 1) := by decide +kernel
theorem d1_3 : decode method_2_code 3 = .ok (.iconst 1, 1) := by decide +kernel
theorem d1_4 : decode method_2_code 4 = .ok (.iand, 1) := by decide +kernel
theorem d1_5 : decode method_2_code 5 = .ok (.ifCond .eq 9, 3) := by decide +kernel
def own_W6 {a0 Z} (hw : own_H a0 Z) := hw _ (List.mem_of_getElem? (i := 6) rfl)
theorem d1_14 : decode method_2_code 14 = .ok (.getstatic 13, 3) := by decide +kernel
theorem d1_17 : decode method_2_code 17 = .ok (.areturn, 1) := by decide +kernel
def own_W9 {a0 Z} (hw : own_H a0 Z) := hw _ (List.mem_of_getElem? (i := 9) rfl)
theorem d1_8 : decode method_2_code 8 = .ok (.getstatic 7, 3) := by decide +kernel
theorem d1_11 : decode method_2_code 11 = .ok (.goto 6, 3) := by decide +kernel
theorem ef_pick (m : MethodId) (x0 : Int32) (x1 : Int32) : entryFrame m #[(.int x0), (.int x1)] 2 = mkF m 0 #[.val (.int x0), .val (.int x1)] [] := by first | (simp [entryFrame, mkF, argsToLocals, Value.category]; done) | rfl
def Qpick (Z : State) (bs ix : Int32) (w1 w0 : Addr) (h0 : Heap) (n0 : Nat) (v : Option Value) (h : Heap) (L : List Loc) : Prop := ∃ e : Addr, v = some (.ref e) ∧ Fr n0 L ∧ h = h0 ∧ own_BD Z e
theorem pn_com_example_restoria_restoria_mortality_MortalityTableLastAgePinLaw : plainName "com/example/restoria/restoria/mortality/MortalityTableLastAgePinLaw" = true := by first | (simp [plainName, overriddenIn]; done) | decide +kernel
set_option maxRecDepth 65536 in
set_option maxHeartbeats 40000000 in
theorem rmpick (l : Launch) (Z : State) (a0 : Array Value) (hw : own_H a0 Z) (ws : List Jvm.Cond) (bs ix : Int32) (w1 w0 : Addr) (h0 : Heap) (n0 : Nat) (O0 : Old Z n0 h0) (S1 : Sta Z Z.heap "java/math/BigDecimal" "ONE" "Ljava/math/BigDecimal;" (.ref w1)) (S0 : Sta Z Z.heap "java/math/BigDecimal" "ZERO" "Ljava/math/BigDecimal;" (.ref w0)) (D1 : own_BD Z w1) (D0 : own_BD Z w0) :
    own_M l (⟨"com/example/restoria/restoria/mortality/MortalityTableLastAgePinLaw", "pick", "(II)Ljava/math/BigDecimal;"⟩ : MethodName) method_2_code 2 (some (.object "java/math/BigDecimal")) ws (own_R 0 0 0 0) Z #[(.int bs), (.int ix)] h0 (Qpick Z bs ix w1 w0 h0 n0) := by
  refine own_body (plainFor_of_name pn_com_example_restoria_restoria_mortality_MortalityTableLastAgePinLaw) (fun m => ef_pick m bs ix) ?_
  intro p e s m below meth c s₁ Bd hx hby hml hown hnm X0 e0 hZ
  have N0 := Fr.nil n0
  refine own_g s₁ (mkF m 5 #[iv bs, iv ix] [(.int ((bs >>> (ix &&& 31)) &&& (1 : Int32)))]) (fun _ kq => XS.iloadN X0.here hx rfl (hb hby d1_0) rfl (XS.iloadN X0.here hx rfl (hb hby d1_1) rfl (XS.ishr X0.here hx rfl (hb hby d1_2) rfl (XS.iconst X0.here hx rfl (hb hby d1_3) (XS.iand X0.here hx rfl (hb hby d1_4) rfl kq))))) ?_
  by_cases hq : ((bs >>> (ix &&& 31)) &&& (1 : Int32)) = (0 : Int32)
  · refine own_g s₁ (mkF m 14 #[iv bs, iv ix] []) (fun _ kq => XS.ifYes X0.here hx rfl (pc0 := 5) (pc' := 14) rfl (hb hby d1_5) rfl ((if0 _ _).trans (teq (hq : ((bs >>> (ix &&& 31)) &&& (1 : Int32)) = (0 : Int32))).1) (by decide) (by decide) kq) ?_
    obtain ⟨T1, X1, e1, st1⟩ := getS2 X0 hx hZ hown (host := "") (Or.inl (own_W6 hw)) Via.refl e0 (S0.ext O0.2) (g := (mkF m 14 #[iv bs, iv ix] [])) rfl (hb hby d1_14)
    refine own_g T1 (mkF m 17 #[iv bs, iv ix] [(.ref w0)]) st1 ?_
    refine own_out X1 Bd.notSynchronized (v := (some (.ref w0))) (fun h => by rw [Bd.returns] at h; cases h) (fun fs hr => own_retA X1 hx Bd.returns rfl rfl rfl (hb hby d1_17) hr) ?_ (by decide) (by decide)
    rw [e1]
    exact ⟨_, rfl, N0, rfl, D0⟩
  · refine own_g s₁ (mkF m 8 #[iv bs, iv ix] []) (fun _ kq => XS.ifNo X0.here hx rfl (hb hby d1_5) rfl ((if0 _ _).trans (feq (hq : ¬ (((bs >>> (ix &&& 31)) &&& (1 : Int32)) = (0 : Int32)))).1) kq) ?_
    obtain ⟨T2, X2, e2, st2⟩ := getS2 X0 hx hZ hown (host := "") (Or.inl (own_W9 hw)) Via.refl e0 (S1.ext O0.2) (g := (mkF m 8 #[iv bs, iv ix] [])) rfl (hb hby d1_8)
    refine own_g T2 (mkF m 11 #[iv bs, iv ix] [(.ref w1)]) st2 ?_
    refine own_g T2 (mkF m 17 #[iv bs, iv ix] [(.ref w1)]) (fun _ kq => XS.goto X2.here hx rfl (pc0 := 11) (pc' := 17) rfl (hb hby d1_11) (by decide) (by decide) kq) ?_
    refine own_out X2 Bd.notSynchronized (v := (some (.ref w1))) (fun h => by rw [Bd.returns] at h; cases h) (fun fs hr => own_retA X2 hx Bd.returns rfl rfl rfl (hb hby d1_17) hr) ?_ (by decide) (by decide)
    rw [e2]
    exact ⟨_, rfl, N0, rfl, D1⟩
def own_W0 {a0 Z} (hw : own_H a0 Z) := hw _ (List.mem_of_getElem? (i := 0) rfl)
def own_W1 {a0 Z} (hw : own_H a0 Z) := hw _ (List.mem_of_getElem? (i := 1) rfl)
def own_W5 {a0 Z} (hw : own_H a0 Z) := hw _ (List.mem_of_getElem? (i := 5) rfl)
def own_W2 {a0 Z} (hw : own_H a0 Z) := hw _ (List.mem_of_getElem? (i := 2) rfl)
def own_W4 {a0 Z} (hw : own_H a0 Z) := hw _ (List.mem_of_getElem? (i := 4) rfl)
theorem pd_II_Ljava_math_BigDecimal_267 : parseMethodDescriptor "(II)Ljava/math/BigDecimal;" = some ⟨[.int, .int], some (.object "java/math/BigDecimal")⟩ := by decide +kernel
def own_W3 {a0 Z} (hw : own_H a0 Z) := hw _ (List.mem_of_getElem? (i := 3) rfl)
def own_W10 {a0 Z} (hw : own_H a0 Z) := hw _ (List.mem_of_getElem? (i := 10) rfl)
def own_W15 {a0 Z} (hw : own_H a0 Z) := hw _ (List.mem_of_getElem? (i := 15) rfl)
def own_W13 {a0 Z} (hw : own_H a0 Z) := hw _ (List.mem_of_getElem? (i := 13) rfl)
def own_W14 {a0 Z} (hw : own_H a0 Z) := hw _ (List.mem_of_getElem? (i := 14) rfl)
def own_W40 {a0 Z} (hw : own_H a0 Z) := hw _ (List.mem_of_getElem? (i := 40) rfl)
def own_W36 {a0 Z} (hw : own_H a0 Z) := hw _ (List.mem_of_getElem? (i := 36) rfl)
theorem pd_Ljava_lang_Object__Z_838 : parseMethodDescriptor "(Ljava/lang/Object;)Z" = some ⟨[(.object "java/lang/Object")], some .boolean⟩ := by decide +kernel
def own_W37 {a0 Z} (hw : own_H a0 Z) := hw _ (List.mem_of_getElem? (i := 37) rfl)
def own_W39 {a0 Z} (hw : own_H a0 Z) := hw _ (List.mem_of_getElem? (i := 39) rfl)
def own_W38 {a0 Z} (hw : own_H a0 Z) := hw _ (List.mem_of_getElem? (i := 38) rfl)
def own_W67 {a0 Z} (hw : own_H a0 Z) := hw _ (List.mem_of_getElem? (i := 67) rfl)
def own_W70 {a0 Z} (hw : own_H a0 Z) := hw _ (List.mem_of_getElem? (i := 70) rfl)
def own_W80 {a0 Z} (hw : own_H a0 Z) := hw _ (List.mem_of_getElem? (i := 80) rfl)
def own_W78 {a0 Z} (hw : own_H a0 Z) := hw _ (List.mem_of_getElem? (i := 78) rfl)
theorem pd_Ljava_lang_String_ILjava_util_List__V_450 : parseMethodDescriptor "(Ljava/lang/String;ILjava/util/List;)V" = some ⟨[(.object "java/lang/String"), .int, (.object "java/util/List")], none⟩ := by decide +kernel
def own_W79 {a0 Z} (hw : own_H a0 Z) := hw _ (List.mem_of_getElem? (i := 79) rfl)
def own_W283 {a0 Z} (hw : own_H a0 Z) := hw _ (List.mem_of_getElem? (i := 283) rfl)
def own_W294 {a0 Z} (hw : own_H a0 Z) := hw _ (List.mem_of_getElem? (i := 294) rfl)
def own_W299 {a0 Z} (hw : own_H a0 Z) := hw _ (List.mem_of_getElem? (i := 299) rfl)
def own_W295 {a0 Z} (hw : own_H a0 Z) := hw _ (List.mem_of_getElem? (i := 295) rfl)
theorem pd_I_Ljava_math_BigDecimal_194 : parseMethodDescriptor "(I)Ljava/math/BigDecimal;" = some ⟨[.int], some (.object "java/math/BigDecimal")⟩ := by decide +kernel
def own_W296 {a0 Z} (hw : own_H a0 Z) := hw _ (List.mem_of_getElem? (i := 296) rfl)
def own_W298 {a0 Z} (hw : own_H a0 Z) := hw _ (List.mem_of_getElem? (i := 298) rfl)
def own_W297 {a0 Z} (hw : own_H a0 Z) := hw _ (List.mem_of_getElem? (i := 297) rfl)
theorem ef_0 (m : MethodId) (x0 : Int32) (x1 : Int32) (x2 : Int32) : entryFrame m #[(.int x0), (.int x1), (.int x2)] maxLocals = mkF m 0 #[.val (.int x0), .val (.int x1), .val (.int x2), .unset, .unset, .unset, .unset, .unset, .unset, .unset] [] := by first | (simp [entryFrame, mkF, argsToLocals, Value.category, maxLocals]; done) | rfl
def Q0 (Z : State) (fa p2 p3 : Int32) (w1 w0 wd wi wa we mr : Addr) (kd : ClassId) (cs : Int32) (cla : Cell) (h0 : Heap) (n0 : Nat) (v : Option Value) (h : Heap) (L : List Loc) : Prop := v = some (.int 1) ∧ Fr n0 L
set_option maxRecDepth 65536 in
set_option maxHeartbeats 40000000 in
theorem rm0 (l : Launch) (Z : State) (a0 : Array Value) (hw : own_H a0 Z) (ws : List Jvm.Cond) (fa p2 p3 : Int32) (w1 w0 wd wi wa we mr : Addr) (kd : ClassId) (cs : Int32) (cla : Cell) (h0 : Heap) (n0 : Nat) (O0 : Old Z n0 h0) (S1 : Sta Z Z.heap "java/math/BigDecimal" "ONE" "Ljava/math/BigDecimal;" (.ref w1)) (S0 : Sta Z Z.heap "java/math/BigDecimal" "ZERO" "Ljava/math/BigDecimal;" (.ref w0)) (D1 : own_BD Z w1) (D0 : own_BD Z w0) (Fi1 : Fld Z Z.heap w1 "java/math/BigDecimal" "intCompact" "J" (.long (1 : Int64))) (Fz1 : Fld Z Z.heap w1 "java/math/BigDecimal" "scale" "I" (.int (0 : Int32))) (Sd : Sta Z Z.heap "java/util/ArrayList" "DEFAULTCAPACITY_EMPTY_ELEMENTDATA" "[Ljava/lang/Object;" (.ref wd)) (Ad : Arv Z Z.heap wd kd (.object "java/lang/Object") (0 : Int32) [] .null) (Scs : Sta Z Z.heap "java/lang/String" "COMPACT_STRINGS" "Z" (.int cs)) (hcs : ¬ (cs = (0 : Int32))) (Sin : Sta Z Z.heap "java/lang/CharacterDataLatin1" "instance" "Ljava/lang/CharacterDataLatin1;" (.ref wi)) (Ein : Exa Z Z.heap wi "java/lang/CharacterDataLatin1") (Sa : Sta Z Z.heap "java/lang/CharacterDataLatin1" "A" "[I" (.ref wa)) (Ara : Jvm.RoadKit.Arr Z Z.heap wa cla .int) (hina : ¬ ((84 : Int32) < 0 ∨ cla.slots.size ≤ (84 : Int32).toNatClampNeg)) (hata : cla.slots[(84 : Int32).toNatClampNeg]? = some (.int (8552417 : Int32))) (Sem : Sta Z Z.heap "java/util/ImmutableCollections" "EMPTY" "Ljava/lang/Object;" (.ref we)) (Eem : Exa Z Z.heap we "java/lang/Object") (Mr : own_Mir Z "[Ljava/lang/Object;" mr) (hcon : Jvm.Lit.constHeld Z "com/example/restoria/restoria/mortality/MortalityTableLastAgePinLaw" 31) (hcw : Jvm.Lit.compactW.before a0 Z = true) (hsz : h0.size = n0) :
    MetFree l x (head1 (Jvm.Cond.code x code maxLocals ret :: ws) room_1) (fun a U => a = #[(.int fa), (.int p2), (.int p3)] ∧ Z.Warmed39 U.vm ∧ U.heap = h0 ∧ U.vm = Z.vm) (fun _ _ _ _ _ => True) (fun _ U o U' => ∃ v L, o = .returned v ∧ Q0 Z fa p2 p3 w1 w0 wd wi wa we mr kd cs cla h0 n0 v U'.heap L ∧ ReturnedEndW U o U' L room_1.cells room_1.slots) := by
  refine MetFree.of_bodySF (plainFor_of_name pn_com_example_restoria_restoria_mortality_MortalityTableLastAgePinLaw) hisR ?_
  intro p e s m args below meth c s₁ Bd hml0 hP hK
  obtain ⟨rfl, hZ, hh, hvm⟩ := hP
  have hx := Bd.exec
  have hby := Bd.bytes
  have hml : c.maxLocals = 10 := hml0
  have hown : s.vm.findClass "com/example/restoria/restoria/mortality/MortalityTableLastAgePinLaw" = some m.cls := findClass_of_methodNamed Bd.named
  have hnm := (name_of_methodNamed Bd.named Bd.method).1
  have X0 : Stand p l e room_1 (s.setVm s.vm) m #[(.int fa), (.int p2), (.int p3)] below meth c s₁ [] 0 0 := Stand.of_body Bd
  have e0 : s₁.heap = h0 := by rw [← hh, Bd.state]; rfl
  have N0 := Fr.nil n0
  have hS0 : s.Since s.vm h0.size := State.WarmedH.since (State.WarmedH.refl s) _
  refine own_in (ef_0 m fa p2 p3) ?_
  have hnn := own_n p2
  refine own_g s₁ (mkF m 6 #[iv fa, iv p2, iv p3, iv ((p2 &&& (3 : Int32)) + (1 : Int32)), .unset, .unset, .unset, .unset, .unset, .unset] []) (fun _ kq => XS.iloadN X0.here hx rfl (hb hby at_0) rfl (XS.iconst X0.here hx rfl (hb hby at_1) (XS.iand X0.here hx rfl (hb hby at_2) rfl (XS.iconst X0.here hx rfl (hb hby at_3) (XS.iadd X0.here hx rfl (hb hby at_4) rfl (XS.istoreN X0.here hx rfl (hb hby at_5) rfl (l' := #[iv fa, iv p2, iv p3, iv ((p2 &&& (3 : Int32)) + (1 : Int32)), .unset, .unset, .unset, .unset, .unset, .unset]) rfl kq)))))) ?_
  generalize ((p2 &&& (3 : Int32)) + (1 : Int32)) = nn at hnn ⊢
  refine own_g s₁ (mkF m 7 #[iv fa, iv p2, iv p3, iv nn, .unset, .unset, .unset, .unset, .unset, .unset] [(.int (4 : Int32))]) (fun _ kq => XS.iconst X0.here hx rfl (hb hby at_6) kq) ?_
  obtain ⟨T1, h1, k1, X1, e1, E1, A1, Ax1, Ov1, st1⟩ := newRE X0 hx hZ hown (own_W0 hw) (own_W1 hw) e0 (g := (mkF m 7 #[iv fa, iv p2, iv p3, iv nn, .unset, .unset, .unset, .unset, .unset, .unset] [(.int (4 : Int32))])) rfl (hb hby at_7) rfl (by decide) (cap := 4) (by decide) (by decide) (by decide) (by decide) (ad := "[Ljava/math/BigDecimal;") rfl
  obtain ⟨b1, g1⟩ : ∃ z, z = h0.size := ⟨_, rfl⟩
  rw [← g1] at A1 Ax1 st1
  have g_b1 : n0 ≤ b1 := Nat.le_trans (own_old O0) (Nat.le_of_eq g1.symm)
  have sz_b1 : h0.size ≤ b1 := Nat.le_trans (Keep.refl h0 []).1 (Nat.le_of_eq g1.symm)
  have V1 : Arv Z h1 b1 k1 (.object "java/math/BigDecimal") (4 : Int32) [.null, .null, .null, .null] .null := (Arv.new A1 (by decide)).pad (pad_rep [] .null 4)
  refine own_g T1 (mkF m 10 #[iv fa, iv p2, iv p3, iv nn, .unset, .unset, .unset, .unset, .unset, .unset] [(.ref b1)]) st1 ?_
  refine own_g T1 (mkF m 17 #[iv fa, iv p2, iv p3, iv nn, rv b1, .unset, .unset, .unset, .unset, .unset] [(.int (0 : Int32)), (.int p3), (.int (0 : Int32)), (.ref b1)]) (fun _ kq => XS.astore X1.here hx rfl (hb hby at_10) rfl rfl (l' := #[iv fa, iv p2, iv p3, iv nn, rv b1, .unset, .unset, .unset, .unset, .unset]) rfl (XS.aload X1.here hx rfl (hb hby at_12) rfl rfl (XS.iconst X1.here hx rfl (hb hby at_14) (XS.iloadN X1.here hx rfl (hb hby at_15) rfl (XS.iconst X1.here hx rfl (hb hby at_16) kq))))) ?_
  have O2 := (O0.ext E1)
  obtain ⟨_, T3, L3, X3, ⟨el3, rfl, Nq3, hh3, D3⟩, st3⟩ := own_cS X1 hx hZ hown (own_W2 hw) (own_W3 hw) (own_W4 hw) (own_W5 hw) (rmpick l Z a0 hw [] p3 (0 : Int32) w1 w0 h1 n0 O2 S1 S0 D1 D0) e1 (lenOf pd_II_Ljava_math_BigDecimal_267 rfl) (g := (mkF m 17 #[iv fa, iv p2, iv p3, iv nn, rv b1, .unset, .unset, .unset, .unset, .unset] [(.int (0 : Int32)), (.int p3), (.int (0 : Int32)), (.ref b1)])) (argsL := [(.int p3), (.int (0 : Int32))]) (rest := [(.int (0 : Int32)), (.ref b1)]) (W := 2) rfl rfl (hb hby at_17) (by rw [hml]; rfl) (by show 2 * 0 + _ ≤ _; exact Nat.le_of_eq rfl) rfl (by decide) (by decide) (by decide) (by decide) (by decide)
  have N4 := Fr.app N0 Nq3
  refine own_t T3 (mkF m 20 #[iv fa, iv p2, iv p3, iv nn, rv b1, .unset, .unset, .unset, .unset, .unset] [(.ref el3), (.int (0 : Int32)), (.ref b1)]) st3 ?_
  obtain ⟨cl5, Ar5, q5, S5, Nn5, H5, G5⟩ := id V1
  have hin6 : ¬ ((0 : Int32) < 0 ∨ cl5.slots.size ≤ ((0 : Int32)).toNatClampNeg) := inb_of S5 ⟨by decide, by decide⟩
  obtain ⟨T6, h6, X6, e6, W6, st6⟩ := stR X3 hx hZ hh3 Ar5 (j := (0 : Int32)) hin6 rfl (Sto.ofV Ar5 q5 Ov1 (Ins.self (D3.1.ext O2.2))) (g := (mkF m 20 #[iv fa, iv p2, iv p3, iv nn, rv b1, .unset, .unset, .unset, .unset, .unset] [(.ref el3), (.int (0 : Int32)), (.ref b1)])) rfl rfl (hb hby at_20)
  have V6 : Arv Z h6 b1 k1 (.object "java/math/BigDecimal") (4 : Int32) [(.ref el3), .null, .null, .null] .null := Arv.set Ar5 q5 S5 Nn5 H5 G5 rfl W6 0 rfl (Nat.le_of_ble_eq_true rfl)
  have N7 := Fr.snoc X6 N4 g_b1
  refine own_g T6 (mkF m 21 #[iv fa, iv p2, iv p3, iv nn, rv b1, .unset, .unset, .unset, .unset, .unset] []) st6 ?_
  refine own_g T6 (mkF m 26 #[iv fa, iv p2, iv p3, iv nn, rv b1, .unset, .unset, .unset, .unset, .unset] [(.int (1 : Int32)), (.int p3), (.int (1 : Int32)), (.ref b1)]) (fun _ kq => XS.aload X6.here hx rfl (hb hby at_21) rfl rfl (XS.iconst X6.here hx rfl (hb hby at_23) (XS.iloadN X6.here hx rfl (hb hby at_24) rfl (XS.iconst X6.here hx rfl (hb hby at_25) kq)))) ?_
  have O8 := (O2.wr W6 g_b1)
  obtain ⟨_, T9, L9, X9, ⟨el9, rfl, Nq9, hh9, D9⟩, st9⟩ := own_cS X6 hx hZ hown (own_W2 hw) (own_W3 hw) (own_W4 hw) (own_W5 hw) (rmpick l Z a0 hw [] p3 (1 : Int32) w1 w0 h6 n0 O8 S1 S0 D1 D0) e6 (lenOf pd_II_Ljava_math_BigDecimal_267 rfl) (g := (mkF m 26 #[iv fa, iv p2, iv p3, iv nn, rv b1, .unset, .unset, .unset, .unset, .unset] [(.int (1 : Int32)), (.int p3), (.int (1 : Int32)), (.ref b1)])) (argsL := [(.int p3), (.int (1 : Int32))]) (rest := [(.int (1 : Int32)), (.ref b1)]) (W := 2) rfl rfl (hb hby at_26) (by rw [hml]; rfl) (by show 2 * 0 + _ ≤ _; exact Nat.le_of_eq rfl) rfl (by decide) (by decide) (by decide) (by decide) (by decide)
  have N10 := Fr.app N7 Nq9
  refine own_t T9 (mkF m 29 #[iv fa, iv p2, iv p3, iv nn, rv b1, .unset, .unset, .unset, .unset, .unset] [(.ref el9), (.int (1 : Int32)), (.ref b1)]) st9 ?_
  obtain ⟨cl11, Ar11, q11, S11, Nn11, H11, G11⟩ := id V6
  have hin12 : ¬ ((1 : Int32) < 0 ∨ cl11.slots.size ≤ ((1 : Int32)).toNatClampNeg) := inb_of S11 ⟨by decide, by decide⟩
  obtain ⟨T12, h12, X12, e12, W12, st12⟩ := stR X9 hx hZ hh9 Ar11 (j := (1 : Int32)) hin12 rfl (Sto.ofV Ar11 q11 Ov1 (Ins.self (D9.1.ext O8.2))) (g := (mkF m 29 #[iv fa, iv p2, iv p3, iv nn, rv b1, .unset, .unset, .unset, .unset, .unset] [(.ref el9), (.int (1 : Int32)), (.ref b1)])) rfl rfl (hb hby at_29)
  have V12 : Arv Z h12 b1 k1 (.object "java/math/BigDecimal") (4 : Int32) [(.ref el3), (.ref el9), .null, .null] .null := Arv.set Ar11 q11 S11 Nn11 H11 G11 rfl W12 1 rfl (Nat.le_of_ble_eq_true rfl)
  have N13 := Fr.snoc X12 N10 g_b1
  refine own_g T12 (mkF m 30 #[iv fa, iv p2, iv p3, iv nn, rv b1, .unset, .unset, .unset, .unset, .unset] []) st12 ?_
  refine own_g T12 (mkF m 35 #[iv fa, iv p2, iv p3, iv nn, rv b1, .unset, .unset, .unset, .unset, .unset] [(.int (2 : Int32)), (.int p3), (.int (2 : Int32)), (.ref b1)]) (fun _ kq => XS.aload X12.here hx rfl (hb hby at_30) rfl rfl (XS.iconst X12.here hx rfl (hb hby at_32) (XS.iloadN X12.here hx rfl (hb hby at_33) rfl (XS.iconst X12.here hx rfl (hb hby at_34) kq)))) ?_
  have O14 := (O8.wr W12 g_b1)
  obtain ⟨_, T15, L15, X15, ⟨el15, rfl, Nq15, hh15, D15⟩, st15⟩ := own_cS X12 hx hZ hown (own_W2 hw) (own_W3 hw) (own_W4 hw) (own_W5 hw) (rmpick l Z a0 hw [] p3 (2 : Int32) w1 w0 h12 n0 O14 S1 S0 D1 D0) e12 (lenOf pd_II_Ljava_math_BigDecimal_267 rfl) (g := (mkF m 35 #[iv fa, iv p2, iv p3, iv nn, rv b1, .unset, .unset, .unset, .unset, .unset] [(.int (2 : Int32)), (.int p3), (.int (2 : Int32)), (.ref b1)])) (argsL := [(.int p3), (.int (2 : Int32))]) (rest := [(.int (2 : Int32)), (.ref b1)]) (W := 2) rfl rfl (hb hby at_35) (by rw [hml]; rfl) (by show 2 * 0 + _ ≤ _; exact Nat.le_of_eq rfl) rfl (by decide) (by decide) (by decide) (by decide) (by decide)
  have N16 := Fr.app N13 Nq15
  refine own_t T15 (mkF m 38 #[iv fa, iv p2, iv p3, iv nn, rv b1, .unset, .unset, .unset, .unset, .unset] [(.ref el15), (.int (2 : Int32)), (.ref b1)]) st15 ?_
  obtain ⟨cl17, Ar17, q17, S17, Nn17, H17, G17⟩ := id V12
  have hin18 : ¬ ((2 : Int32) < 0 ∨ cl17.slots.size ≤ ((2 : Int32)).toNatClampNeg) := inb_of S17 ⟨by decide, by decide⟩
  obtain ⟨T18, h18, X18, e18, W18, st18⟩ := stR X15 hx hZ hh15 Ar17 (j := (2 : Int32)) hin18 rfl (Sto.ofV Ar17 q17 Ov1 (Ins.self (D15.1.ext O14.2))) (g := (mkF m 38 #[iv fa, iv p2, iv p3, iv nn, rv b1, .unset, .unset, .unset, .unset, .unset] [(.ref el15), (.int (2 : Int32)), (.ref b1)])) rfl rfl (hb hby at_38)
  have V18 : Arv Z h18 b1 k1 (.object "java/math/BigDecimal") (4 : Int32) [(.ref el3), (.ref el9), (.ref el15), .null] .null := Arv.set Ar17 q17 S17 Nn17 H17 G17 rfl W18 2 rfl (Nat.le_of_ble_eq_true rfl)
  have N19 := Fr.snoc X18 N16 g_b1
  obtain ⟨LL20, Xp20, Np20⟩ : ∃ LL, Stand p l e room_1 (s.setVm s.vm) m #[(.int fa), (.int p2), (.int p3)] below meth c T18 LL 1 4 ∧ Fr n0 LL := ⟨_, X18, N19⟩
  refine own_g T18 (mkF m 39 #[iv fa, iv p2, iv p3, iv nn, rv b1, .unset, .unset, .unset, .unset, .unset] []) st18 ?_
  refine own_g T18 (mkF m 44 #[iv fa, iv p2, iv p3, iv nn, rv b1, .unset, .unset, .unset, .unset, .unset] [(.int (3 : Int32)), (.int p3), (.int (3 : Int32)), (.ref b1)]) (fun _ kq => XS.aload Xp20.here hx rfl (hb hby at_39) rfl rfl (XS.iconst Xp20.here hx rfl (hb hby at_41) (XS.iloadN Xp20.here hx rfl (hb hby at_42) rfl (XS.iconst Xp20.here hx rfl (hb hby at_43) kq)))) ?_
  have O21 := (O14.wr W18 g_b1)
  obtain ⟨_, T22, L22, X22, ⟨el22, rfl, Nq22, hh22, D22⟩, st22⟩ := own_cS Xp20 hx hZ hown (own_W2 hw) (own_W3 hw) (own_W4 hw) (own_W5 hw) (rmpick l Z a0 hw [] p3 (3 : Int32) w1 w0 h18 n0 O21 S1 S0 D1 D0) e18 (lenOf pd_II_Ljava_math_BigDecimal_267 rfl) (g := (mkF m 44 #[iv fa, iv p2, iv p3, iv nn, rv b1, .unset, .unset, .unset, .unset, .unset] [(.int (3 : Int32)), (.int p3), (.int (3 : Int32)), (.ref b1)])) (argsL := [(.int p3), (.int (3 : Int32))]) (rest := [(.int (3 : Int32)), (.ref b1)]) (W := 2) rfl rfl (hb hby at_44) (by rw [hml]; rfl) (by show 2 * 0 + _ ≤ _; exact Nat.le_of_eq rfl) rfl (by decide) (by decide) (by decide) (by decide) (by decide)
  have N23 := Fr.app Np20 Nq22
  refine own_t T22 (mkF m 47 #[iv fa, iv p2, iv p3, iv nn, rv b1, .unset, .unset, .unset, .unset, .unset] [(.ref el22), (.int (3 : Int32)), (.ref b1)]) st22 ?_
  obtain ⟨cl24, Ar24, q24, S24, Nn24, H24, G24⟩ := id V18
  have hin25 : ¬ ((3 : Int32) < 0 ∨ cl24.slots.size ≤ ((3 : Int32)).toNatClampNeg) := inb_of S24 ⟨by decide, by decide⟩
  obtain ⟨T25, h25, X25, e25, W25, st25⟩ := stR X22 hx hZ hh22 Ar24 (j := (3 : Int32)) hin25 rfl (Sto.ofV Ar24 q24 Ov1 (Ins.self (D22.1.ext O21.2))) (g := (mkF m 47 #[iv fa, iv p2, iv p3, iv nn, rv b1, .unset, .unset, .unset, .unset, .unset] [(.ref el22), (.int (3 : Int32)), (.ref b1)])) rfl rfl (hb hby at_47)
  have V25 : Arv Z h25 b1 k1 (.object "java/math/BigDecimal") (4 : Int32) [(.ref el3), (.ref el9), (.ref el15), (.ref el22)] .null := Arv.set Ar24 q24 S24 Nn24 H24 G24 rfl W25 3 rfl (Nat.le_of_ble_eq_true rfl)
  have N26 := Fr.snoc X25 N23 g_b1
  refine own_g T25 (mkF m 48 #[iv fa, iv p2, iv p3, iv nn, rv b1, .unset, .unset, .unset, .unset, .unset] []) st25 ?_
  obtain ⟨T27, h27, X27, e27, E27, A27, D27, -, st27⟩ := newO X25 hx hZ hown (own_W10 hw) (own_W11 hw) (own_W12 hw) e25 (g := (mkF m 48 #[iv fa, iv p2, iv p3, iv nn, rv b1, .unset, .unset, .unset, .unset, .unset] [])) rfl (hb hby at_48) (by decide) (by decide)
  obtain ⟨b27, g27⟩ : ∃ z, z = h25.size := ⟨_, rfl⟩
  rw [← g27] at A27 D27 st27
  have ne_b1_b27 : b1 ≠ b27 := Nat.ne_of_lt (Nat.lt_of_lt_of_le V25.lt (Nat.le_of_eq g27.symm))
  have O28 := (O21.wr W25 g_b1)
  have ne_el3_b27 : el3 ≠ b27 := Nat.ne_of_lt (Nat.lt_of_lt_of_le (D3.1.ext O28.2).lt (Nat.le_of_eq g27.symm))
  have ne_el9_b27 : el9 ≠ b27 := Nat.ne_of_lt (Nat.lt_of_lt_of_le (D9.1.ext O28.2).lt (Nat.le_of_eq g27.symm))
  have ne_el15_b27 : el15 ≠ b27 := Nat.ne_of_lt (Nat.lt_of_lt_of_le (D15.1.ext O28.2).lt (Nat.le_of_eq g27.symm))
  have ne_el22_b27 : el22 ≠ b27 := Nat.ne_of_lt (Nat.lt_of_lt_of_le (D22.1.ext O28.2).lt (Nat.le_of_eq g27.symm))
  have g_b27 : n0 ≤ b27 := Nat.le_trans (own_old O28) (Nat.le_of_eq g27.symm)
  have K29 : Keep h0 _ [] := ((((((Keep.refl h0 []).ext E1).wr W6 (Or.inr sz_b1)).wr W12 (Or.inr sz_b1)).wr W18 (Or.inr sz_b1)).wr W25 (Or.inr sz_b1))
  have sz_b27 : h0.size ≤ b27 := Nat.le_trans K29.1 (Nat.le_of_eq g27.symm)
  have F_modCount_b27 : Fld Z h27 b27 "java/util/AbstractList" "modCount" "I" (.int (0 : Int32)) := D27 (Or.inl (own_W32 hw)) (ty := .int) (by decide)
  have F_elementData_b27 : Fld Z h27 b27 "java/util/ArrayList" "elementData" "[Ljava/lang/Object;" .null := D27 (Or.inl (own_W35 hw)) (ty := (.array (.object "java/lang/Object"))) (by decide)
  have F_size_b27 : Fld Z h27 b27 "java/util/ArrayList" "size" "I" (.int (0 : Int32)) := D27 (Or.inl (own_W44 hw)) (ty := .int) (by decide)
  refine own_g T27 (mkF m 51 #[iv fa, iv p2, iv p3, iv nn, rv b1, .unset, .unset, .unset, .unset, .unset] [(.ref b27)]) st27 ?_
  refine own_g T27 (mkF m 52 #[iv fa, iv p2, iv p3, iv nn, rv b1, .unset, .unset, .unset, .unset, .unset] [(.ref b27), (.ref b27)]) (fun _ kq => XS.dup X27.here hx rfl (hb hby at_51) rfl rfl kq) ?_
  have O30 := (O28.ext E27)
  obtain ⟨_, T31, L31, X31, ⟨rfl, Nq31, Kc31, Fa31, Fb31, Fc31⟩, st31⟩ := own_cI X27 hx hZ hown (own_W13 hw) (own_W14 hw) (own_W12 hw) (own_W15 hw) (rmalinit l Z a0 hw [] b27 wd h27 n0 O30 A27 F_modCount_b27 F_size_b27 F_elementData_b27 g_b27 Sd) e27 (lenOf pd_V_167 rfl) (g := (mkF m 52 #[iv fa, iv p2, iv p3, iv nn, rv b1, .unset, .unset, .unset, .unset, .unset] [(.ref b27), (.ref b27)])) (argsL := []) (rest := [(.ref b27)]) (W := 1) rfl rfl (hb hby at_52) (by rw [hml]; rfl) (by show 2 * 0 + _ ≤ _; exact Nat.le_of_eq rfl) rfl rfl (by decide) (by decide) (by decide) (by decide) (by decide)
  have N32 := Fr.app N26 Nq31
  refine own_t T31 (mkF m 55 #[iv fa, iv p2, iv p3, iv nn, rv b1, .unset, .unset, .unset, .unset, .unset] [(.ref b27)]) st31 ?_
  refine own_g T31 (mkF m 62 #[iv fa, iv p2, iv p3, iv nn, rv b1, rv b27, .unset, .unset, .unset, .unset] [(.int (0 : Int32)), (.ref b1), (.ref b27)]) (fun _ kq => XS.astore X31.here hx rfl (hb hby at_55) rfl rfl (l' := #[iv fa, iv p2, iv p3, iv nn, rv b1, rv b27, .unset, .unset, .unset, .unset]) rfl (XS.aload X31.here hx rfl (hb hby at_57) rfl rfl (XS.aload X31.here hx rfl (hb hby at_59) rfl rfl (XS.iconst X31.here hx rfl (hb hby at_61) kq)))) ?_
  have f33 := ((V25.ext E27).keep Kc31 (ninS ne_b1_b27 nin0))
  obtain ⟨cl34, Ar34, q34, S34, Nn34, H34, G34⟩ := id f33
  have hin35 : ¬ ((0 : Int32) < 0 ∨ cl34.slots.size ≤ ((0 : Int32)).toNatClampNeg) := inb_of S34 ⟨by decide, by decide⟩
  have hat35 : cl34.slots[((0 : Int32)).toNatClampNeg]? = some (.ref el3) := Has.at H34 hin35 rfl
  refine own_g T31 (mkF m 63 #[iv fa, iv p2, iv p3, iv nn, rv b1, rv b27, .unset, .unset, .unset, .unset] [(.ref el3), (.ref b27)]) (X31.aaload hx (j := (0 : Int32)) (v := (.ref el3)) (Ar34.1) (State.isArrayOf_alike hZ.alike Ar34.2.1) rfl Ar34.2.2 hin35 hat35 (g := (mkF m 62 #[iv fa, iv p2, iv p3, iv nn, rv b1, rv b27, .unset, .unset, .unset, .unset] [(.int (0 : Int32)), (.ref b1), (.ref b27)])) rfl rfl (hb hby at_62)) ?_
  have O36 := (O30.keep Kc31 (allS g_b27 all0))
  have f37 := (A27.keep Kc31)
  have K39 : Keep h0 _ [] := ((K29.ext E27).trans Kc31 (allS (Or.inr sz_b27) all0))
  obtain ⟨_, T38, L38, X38, ⟨r38, kr38, rfl, Nq38, Kc38, gr38, szr38, Fa38, Fb38, Fc38, Ar38, Er38, Or38⟩, st38⟩ := own_cV X31 hx hZ hown (own_W36 hw) (own_W37 hw) (own_W39 hw) (own_W38 hw) (own_W12 hw) (own_W40 hw) (rmadda0 l Z a0 hw [] b27 wd kd el3 T31.heap n0 O36 f37 Fa31 Fb31 Fc31 g_b27 Sd Ad D3.1) rfl f37 (lenOf pd_Ljava_lang_Object__Z_838 rfl) (g := (mkF m 63 #[iv fa, iv p2, iv p3, iv nn, rv b1, rv b27, .unset, .unset, .unset, .unset] [(.ref el3), (.ref b27)])) (argsL := [(.ref el3)]) (rest := []) (W := 0) rfl rfl (hb hby at_63) (by rw [hml]; rfl) (by show 2 * 0 + _ ≤ _; exact Nat.le_of_eq rfl) rfl (by decide) (by decide) (by decide) (by decide) (by decide)
  have N40 := Fr.app N32 Nq38
  have sz_r38 : h0.size ≤ r38 := Nat.le_trans K39.1 szr38
  have ne_b1_r38 : b1 ≠ r38 := Nat.ne_of_lt (Nat.lt_of_lt_of_le f33.lt szr38)
  have ne_el3_r38 : el3 ≠ r38 := Nat.ne_of_lt (Nat.lt_of_lt_of_le (D3.1.ext O36.2).lt szr38)
  have ne_el9_r38 : el9 ≠ r38 := Nat.ne_of_lt (Nat.lt_of_lt_of_le (D9.1.ext O36.2).lt szr38)
  have ne_el15_r38 : el15 ≠ r38 := Nat.ne_of_lt (Nat.lt_of_lt_of_le (D15.1.ext O36.2).lt szr38)
  have ne_el22_r38 : el22 ≠ r38 := Nat.ne_of_lt (Nat.lt_of_lt_of_le (D22.1.ext O36.2).lt szr38)
  have ne_b27_r38 : b27 ≠ r38 := Nat.ne_of_lt (Nat.lt_of_lt_of_le f37.lt szr38)
  refine own_t T38 (mkF m 66 #[iv fa, iv p2, iv p3, iv nn, rv b1, rv b27, .unset, .unset, .unset, .unset] [(.int (1 : Int32))]) st38 ?_
  refine own_g T38 (mkF m 67 #[iv fa, iv p2, iv p3, iv nn, rv b1, rv b27, .unset, .unset, .unset, .unset] []) (fun _ kq => XS.pop X38.here hx rfl (hb hby at_66) rfl rfl kq) ?_
  rcases hnn with rfl | rfl | rfl | rfl
  · refine own_g T38 (mkF m 99 #[iv fa, iv p2, iv p3, iv (1 : Int32), rv b1, rv b27, .unset, .unset, .unset, .unset] [(.int (4 : Int32)), (.int (1 : Int32))]) (fun _ kq => XS.iloadN X38.here hx rfl (hb hby at_67) rfl (XS.iconst X38.here hx rfl (hb hby at_68) (XS.icmpYes X38.here hx rfl (pc0 := 69) (pc' := 82) rfl (hb hby at_69) rfl (tlt ((by decide) : (1 : Int32) < (2 : Int32))).1 (by decide) (by decide) (XS.iloadN X38.here hx rfl (hb hby at_82) rfl (XS.iconst X38.here hx rfl (hb hby at_83) (XS.icmpYes X38.here hx rfl (pc0 := 84) (pc' := 97) rfl (hb hby at_84) rfl (tlt ((by decide) : (1 : Int32) < (3 : Int32))).1 (by decide) (by decide) (XS.iloadN X38.here hx rfl (hb hby at_97) rfl (XS.iconst X38.here hx rfl (hb hby at_98) kq)))))))) ?_
    refine own_g T38 (mkF m 112 #[iv fa, iv p2, iv p3, iv (1 : Int32), rv b1, rv b27, .unset, .unset, .unset, .unset] []) (fun _ kq => XS.icmpYes X38.here hx rfl (pc0 := 99) (pc' := 112) rfl (hb hby at_99) rfl (tlt ((by decide) : (1 : Int32) < (4 : Int32))).1 (by decide) (by decide) kq) ?_
    obtain ⟨T41, h41, X41, e41, E41, A41, D41, -, st41⟩ := newO X38 hx hZ hown (own_W67 hw) (own_W68 hw) (own_W69 hw) rfl (g := (mkF m 112 #[iv fa, iv p2, iv p3, iv (1 : Int32), rv b1, rv b27, .unset, .unset, .unset, .unset] [])) rfl (hb hby at_112) (by decide) (by decide)
    obtain ⟨b41, g41⟩ : ∃ z, z = T38.heap.size := ⟨_, rfl⟩
    rw [← g41] at A41 D41 st41
    have f42 := (f33.keep Kc38 (ninS ne_b1_b27 nin0))
    have ne_b1_b41 : b1 ≠ b41 := Nat.ne_of_lt (Nat.lt_of_lt_of_le f42.lt (Nat.le_of_eq g41.symm))
    have O43 := (O36.keep Kc38 (allS g_b27 all0))
    have ne_el3_b41 : el3 ≠ b41 := Nat.ne_of_lt (Nat.lt_of_lt_of_le (D3.1.ext O43.2).lt (Nat.le_of_eq g41.symm))
    have ne_el9_b41 : el9 ≠ b41 := Nat.ne_of_lt (Nat.lt_of_lt_of_le (D9.1.ext O43.2).lt (Nat.le_of_eq g41.symm))
    have ne_el15_b41 : el15 ≠ b41 := Nat.ne_of_lt (Nat.lt_of_lt_of_le (D15.1.ext O43.2).lt (Nat.le_of_eq g41.symm))
    have ne_el22_b41 : el22 ≠ b41 := Nat.ne_of_lt (Nat.lt_of_lt_of_le (D22.1.ext O43.2).lt (Nat.le_of_eq g41.symm))
    have f44 := (f37.keep Kc38)
    have ne_b27_b41 : b27 ≠ b41 := Nat.ne_of_lt (Nat.lt_of_lt_of_le f44.lt (Nat.le_of_eq g41.symm))
    have ne_r38_b41 : r38 ≠ b41 := Nat.ne_of_lt (Nat.lt_of_lt_of_le Ar38.lt (Nat.le_of_eq g41.symm))
    have g_b41 : n0 ≤ b41 := Nat.le_trans (own_old O43) (Nat.le_of_eq g41.symm)
    have K45 : Keep h0 _ [] := (K39.trans Kc38 (allS (Or.inr sz_b27) all0))
    have sz_b41 : h0.size ≤ b41 := Nat.le_trans K45.1 (Nat.le_of_eq g41.symm)
    have F_name_b41 : Fld Z h41 b41 "com/example/restoria/restoria/mortality/MortalityTable" "name" "Ljava/lang/String;" .null := D41 (Or.inr (own_W278 hw)) (ty := (.object "java/lang/String")) (by decide)
    have F_firstAge_b41 : Fld Z h41 b41 "com/example/restoria/restoria/mortality/MortalityTable" "firstAge" "I" (.int (0 : Int32)) := D41 (Or.inr (own_W280 hw)) (ty := .int) (by decide)
    have F_rates_b41 : Fld Z h41 b41 "com/example/restoria/restoria/mortality/MortalityTable" "rates" "Ljava/util/List;" .null := D41 (Or.inr (own_W282 hw)) (ty := (.object "java/util/List")) (by decide)
    refine own_g T41 (mkF m 115 #[iv fa, iv p2, iv p3, iv (1 : Int32), rv b1, rv b27, .unset, .unset, .unset, .unset] [(.ref b41)]) st41 ?_
    refine own_g T41 (mkF m 116 #[iv fa, iv p2, iv p3, iv (1 : Int32), rv b1, rv b27, .unset, .unset, .unset, .unset] [(.ref b41), (.ref b41)]) (fun _ kq => XS.dup X41.here hx rfl (hb hby at_115) rfl rfl kq) ?_
    obtain ⟨sa, T46, h46, kk46, bv, kb, X46, e46, E46, hS46, hk46, hZ46, hown46, Es, Fc, Fv, Av, -, -, -, -, -, st46⟩ := ldcSVd (vs := [.int (84 : Int32)]) (z := (1 : Int32)) (Ts := []) X41 hx hZ hown (own_W70 hw) (own_strs hw) e41 hS0 (Nat.le_trans (Nat.le_trans (Nat.le_trans (Nat.le_trans (Nat.le_trans (Nat.le_trans (Nat.le_trans (Nat.le_trans (Nat.le_trans (Nat.le_refl _) E1.1) (Nat.le_of_eq W6.size.symm)) (Nat.le_of_eq W12.size.symm)) (Nat.le_of_eq W18.size.symm)) (Nat.le_of_eq W25.size.symm)) E27.1) Kc31.1) Kc38.1) E41.1) (by rw [hh, hsz]; exact N40) (fun b cl q => by rw [hh]; exact O0.2.2 b cl q) (hvm ▸ IB.start) (by decide) hcon hcw ⟨by decide, by decide⟩ (by decide) rfl (g := (mkF m 116 #[iv fa, iv p2, iv p3, iv (1 : Int32), rv b1, rv b27, .unset, .unset, .unset, .unset] [(.ref b41), (.ref b41)])) rfl (hb hby at_116) (n := 4) (by decide) (by decide) (by decide) (by decide)
    refine own_g T46 (mkF m 118 #[iv fa, iv p2, iv p3, iv (1 : Int32), rv b1, rv b27, .unset, .unset, .unset, .unset] [(.ref sa), (.ref b41), (.ref b41)]) st46 ?_
    refine own_g T46 (mkF m 121 #[iv fa, iv p2, iv p3, iv (1 : Int32), rv b1, rv b27, .unset, .unset, .unset, .unset] [(.ref b27), (.int fa), (.ref sa), (.ref b41), (.ref b41)]) (fun _ kq => XS.iloadN X46.here hx rfl (hb hby at_118) rfl (XS.aload X46.here hx rfl (hb hby at_119) rfl rfl kq)) ?_
    have O47 := ((O43.ext E41).ext E46)
    have f48 := (A41.ext E46)
    have f49 := (F_name_b41.ext E46)
    have f50 := (F_firstAge_b41.ext E46)
    have f51 := (F_rates_b41.ext E46)
    have f52 := ((f44.ext E41).ext E46)
    have f53 := ((Fb38.ext E41).ext E46)
    have f54 := ((Fc38.ext E41).ext E46)
    have f55 := ((Ar38.ext E41).ext E46)
    have f56 := ((Er38.ext E41).ext E46)
    obtain ⟨_, T57, L57, X57, ⟨r57, rfl, Nq57, Kc57, gr57, szr57, Fg57, Fr57, La57, Lb57, Lc_57⟩, st57⟩ := own_cI X46 hx hZ46 hown46 (own_W78 hw) (own_W79 hw) (own_W69 hw) (own_W80 hw) (rmmti1 l Z a0 hw [] b41 b27 r38 mr we w1 kr38 fa sa bv kb cs wi wa cla el3 h46 n0 O47 f48 f49 f50 f51 g_b41 Es Fc Fv Av Scs hcs Sin Ein Sa Ara hina hata f52 f53 f54 f55 f56 Mr Sem S1 Fi1 Fz1 D3) e46 (lenOf pd_Ljava_lang_String_ILjava_util_List__V_450 rfl) (g := (mkF m 121 #[iv fa, iv p2, iv p3, iv (1 : Int32), rv b1, rv b27, .unset, .unset, .unset, .unset] [(.ref b27), (.int fa), (.ref sa), (.ref b41), (.ref b41)])) (argsL := [(.ref sa), (.int fa), (.ref b27)]) (rest := [(.ref b41)]) (W := 1) rfl rfl (hb hby at_121) (by rw [hml]; rfl) (by show 2 * 0 + _ ≤ _; exact Nat.le_of_eq rfl) rfl rfl (by decide) (by decide) (by decide) (by decide) (by decide)
    have N58 := Fr.app N40 Nq57
    refine own_t T57 (mkF m 124 #[iv fa, iv p2, iv p3, iv (1 : Int32), rv b1, rv b27, .unset, .unset, .unset, .unset] [(.ref b41)]) st57 ?_
    obtain ⟨LL59, Xp59, Np59⟩ : ∃ LL, Stand p l e room_1 (s.setVm T46.vm) m #[(.int fa), (.int p2), (.int p3)] below meth c T57 LL 8 31 ∧ Fr n0 LL := ⟨_, X57, N58⟩
    refine own_g T57 (mkF m 128 #[iv fa, iv p2, iv p3, iv (1 : Int32), rv b1, rv b27, rv b41, .unset, .unset, .unset] [(.ref b41)]) (fun _ kq => XS.astore X57.here hx rfl (hb hby at_124) rfl rfl (l' := #[iv fa, iv p2, iv p3, iv (1 : Int32), rv b1, rv b27, rv b41, .unset, .unset, .unset]) rfl (XS.aload Xp59.here hx rfl (hb hby at_126) rfl rfl kq)) ?_
    have O60 := (O47.keep Kc57 (allS g_b41 all0))
    have f61 := (f48.keep Kc57)
    obtain ⟨_, T62, L62, X62, ⟨rfl, Nq62, hh62⟩, st62⟩ := own_cV Xp59 hx hZ46 hown46 (own_W283 hw) (own_W284 hw) (own_W286 hw) (own_W285 hw) (own_W69 hw) (own_W287 hw) (rmlast1 l Z a0 hw [] b41 fa r57 we el3 T57.heap n0 O60 f61 Fg57 Fr57 La57 Lb57 Lc_57 Sem Eem D3.1) rfl f61 (lenOf pd_I_154 rfl) (g := (mkF m 128 #[iv fa, iv p2, iv p3, iv (1 : Int32), rv b1, rv b27, rv b41, .unset, .unset, .unset] [(.ref b41)])) (argsL := []) (rest := []) (W := 0) rfl rfl (hb hby at_128) (by rw [hml]; rfl) (by show 2 * 0 + _ ≤ _; exact Nat.le_of_eq rfl) rfl (by decide) (by decide) (by decide) (by decide) (by decide)
    have N63 := Fr.app Np59 Nq62
    refine own_t T62 (mkF m 131 #[iv fa, iv p2, iv p3, iv (1 : Int32), rv b1, rv b27, rv b41, .unset, .unset, .unset] [(.int ((fa + (1 : Int32)) - (1 : Int32)))]) st62 ?_
    rw [own_last1 fa]
    refine own_g T62 (mkF m 177 #[iv fa, iv p2, iv p3, iv (1 : Int32), rv b1, rv b27, rv b41, iv fa, iv fa, .unset] [(.int fa)]) (fun _ kq => XS.istore X62.here hx rfl (hb hby at_131) rfl (l' := #[iv fa, iv p2, iv p3, iv (1 : Int32), rv b1, rv b27, rv b41, iv fa, .unset, .unset]) rfl (XS.iloadN X62.here hx rfl (hb hby at_133) rfl (XS.iconst X62.here hx rfl (hb hby at_134) (XS.icmpNo X62.here hx rfl (hb hby at_135) rfl (teq ((by decide) : (1 : Int32) = (1 : Int32))).2 (XS.iloadN X62.here hx rfl (hb hby at_138) rfl (XS.istore X62.here hx rfl (hb hby at_139) rfl (l' := #[iv fa, iv p2, iv p3, iv (1 : Int32), rv b1, rv b27, rv b41, iv fa, iv fa, .unset]) rfl (XS.goto X62.here hx rfl (pc0 := 141) (pc' := 175) rfl (hb hby at_141) (by decide) (by decide) (XS.iload X62.here hx rfl (hb hby at_175) rfl kq)))))))) ?_
    refine own_g T62 (mkF m 195 #[iv fa, iv p2, iv p3, iv (1 : Int32), rv b1, rv b27, rv b41, iv fa, iv fa, iv (1 : Int32)] [(.int fa)]) (fun _ kq => XS.iload X62.here hx rfl (hb hby at_177) rfl (XS.icmpNo X62.here hx rfl (hb hby at_179) rfl (teq (rfl : fa = fa)).2 (XS.iconst X62.here hx rfl (hb hby at_182) (XS.goto X62.here hx rfl (pc0 := 183) (pc' := 187) rfl (hb hby at_183) (by decide) (by decide) (XS.istore X62.here hx rfl (hb hby at_187) rfl (l' := #[iv fa, iv p2, iv p3, iv (1 : Int32), rv b1, rv b27, rv b41, iv fa, iv fa, iv (1 : Int32)]) rfl (XS.iload X62.here hx rfl (hb hby at_189) rfl (XS.ifNo X62.here hx rfl (hb hby at_191) rfl ((if0 _ _).trans (feq ((by decide) : ¬ ((1 : Int32) = (0 : Int32)))).1) (XS.iloadN X62.here hx rfl (hb hby at_194) rfl kq)))))))) ?_
    refine own_g T62 (mkF m 197 #[iv fa, iv p2, iv p3, iv (1 : Int32), rv b1, rv b27, rv b41, iv fa, iv fa, iv (1 : Int32)] [(.int (2147483643 : Int32)), (.int fa)]) (X62.ldcInt hx hown46 (mvT hZ46 (own_W294 hw)) (g := (mkF m 195 #[iv fa, iv p2, iv p3, iv (1 : Int32), rv b1, rv b27, rv b41, iv fa, iv fa, iv (1 : Int32)] [(.int fa)])) rfl (hb hby at_195)) ?_
    by_cases hbig : (2147483643 : Int32) < fa
    · refine own_g T62 (mkF m 277 #[iv fa, iv p2, iv p3, iv (1 : Int32), rv b1, rv b27, rv b41, iv fa, iv fa, iv (1 : Int32)] [(.int (1 : Int32))]) (fun _ kq => XS.icmpYes X62.here hx rfl (pc0 := 197) (pc' := 275) rfl (hb hby at_197) rfl (tlt (hbig : (2147483643 : Int32) < fa)).2.2.1 (by decide) (by decide) (XS.iload X62.here hx rfl (hb hby at_275) rfl kq)) ?_
      refine own_outW X62 hS46 (by rw [hh62]; exact (Nat.le_trans hk46 Kc57.1)) Bd.notSynchronized (v := (some (.int (1 : Int32)))) (fun h => by rw [Bd.returns] at h; cases h) (fun fs hr => retN X62 hx (t := .boolean) Bd.returns (by simp) (hb hby at_277) hr) ?_ (by decide) (by decide)
      rw [hh62]
      exact ⟨rfl, N63⟩
    · refine own_g T62 (mkF m 203 #[iv fa, iv p2, iv p3, iv (1 : Int32), rv b1, rv b27, rv b41, iv fa, iv fa, iv (1 : Int32)] [(.int fa), (.ref b41)]) (fun _ kq => XS.icmpNo X62.here hx rfl (hb hby at_197) rfl (flt (hbig : ¬ ((2147483643 : Int32) < fa))).2.2.1 (XS.aload X62.here hx rfl (hb hby at_200) rfl rfl (XS.iloadN X62.here hx rfl (hb hby at_202) rfl kq))) ?_
      obtain ⟨uq1, uq2, uq3, uq4⟩ := own_rd fa (1 : Int32) (0 : Int32) fa hbig (by decide) (by decide) (Int32.add_zero fa).symm
      obtain ⟨_, T64, L64, X64, ⟨rfl, Nq64, hh64⟩, st64⟩ := own_cV X62 hx hZ46 hown46 (own_W295 hw) (own_W296 hw) (own_W298 hw) (own_W297 hw) (own_W69 hw) (own_W299 hw) (rmrod10 l Z a0 hw [] b41 fa r57 we el3 fa T57.heap n0 O60 f61 Fg57 Fr57 La57 Lb57 Lc_57 Sem Eem D3.1 uq1 uq2 uq3 uq4) hh62 f61 (lenOf pd_I_Ljava_math_BigDecimal_194 rfl) (g := (mkF m 203 #[iv fa, iv p2, iv p3, iv (1 : Int32), rv b1, rv b27, rv b41, iv fa, iv fa, iv (1 : Int32)] [(.int fa), (.ref b41)])) (argsL := [(.int fa)]) (rest := []) (W := 0) rfl rfl (hb hby at_203) (by rw [hml]; rfl) (by show 2 * 0 + _ ≤ _; exact Nat.le_of_eq rfl) rfl (by decide) (by decide) (by decide) (by decide) (by decide)
      have N65 := Fr.app N63 Nq64
      refine own_t T64 (mkF m 206 #[iv fa, iv p2, iv p3, iv (1 : Int32), rv b1, rv b27, rv b41, iv fa, iv fa, iv (1 : Int32)] [(.ref el3)]) st64 ?_
      refine own_g T64 (mkF m 209 #[iv fa, iv p2, iv p3, iv (1 : Int32), rv b1, rv b27, rv b41, iv fa, iv fa, iv (1 : Int32)] [(.int (0 : Int32)), (.ref b1), (.ref el3)]) (fun _ kq => XS.aload X64.here hx rfl (hb hby at_206) rfl rfl (XS.iconst X64.here hx rfl (hb hby at_208) kq)) ?_
      have f66 := (((f42.ext E41).ext E46).keep Kc57 (ninS ne_b1_b41 nin0))
      obtain ⟨cl67, Ar67, q67, S67, Nn67, H67, G67⟩ := id f66
      have hin68 : ¬ ((0 : Int32) < 0 ∨ cl67.slots.size ≤ ((0 : Int32)).toNatClampNeg) := inb_of S67 ⟨by decide, by decide⟩
      have hat68 : cl67.slots[((0 : Int32)).toNatClampNeg]? = some (.ref el3) := Has.at H67 hin68 rfl
      refine own_g T64 (mkF m 210 #[iv fa, iv p2, iv p3, iv (1 : Int32), rv b1, rv b27, rv b41, iv fa, iv fa, iv (1 : Int32)] [(.ref el3), (.ref el3)]) (X64.aaload hx (j := (0 : Int32)) (v := (.ref el3)) (by rw [hh64]; exact Ar67.1) (State.isArrayOf_alike hZ46.alike Ar67.2.1) rfl Ar67.2.2 hin68 hat68 (g := (mkF m 209 #[iv fa, iv p2, iv p3, iv (1 : Int32), rv b1, rv b27, rv b41, iv fa, iv fa, iv (1 : Int32)] [(.int (0 : Int32)), (.ref b1), (.ref el3)])) rfl rfl (hb hby at_209)) ?_
      refine own_g T64 (mkF m 229 #[iv fa, iv p2, iv p3, iv (1 : Int32), rv b1, rv b27, rv b41, iv fa, iv fa, iv (1 : Int32)] [(.int fa), (.ref b41)]) (fun _ kq => Jvm.RoadKit.acmp (g := (mkF m 210 #[iv fa, iv p2, iv p3, iv (1 : Int32), rv b1, rv b27, rv b41, iv fa, iv fa, iv (1 : Int32)] [(.ref el3), (.ref el3)])) X64 hx rfl rfl rfl (pc0 := 210) (pc' := 213) (same := true) rfl (hb hby at_210) rfl (decide_eq_true rfl) (by decide) (by decide) (XS.iconst X64.here hx rfl (hb hby at_213) (XS.goto X64.here hx rfl (pc0 := 214) (pc' := 218) rfl (hb hby at_214) (by decide) (by decide) (XS.istore X64.here hx rfl (hb hby at_218) rfl (l' := #[iv fa, iv p2, iv p3, iv (1 : Int32), rv b1, rv b27, rv b41, iv fa, iv fa, iv (1 : Int32)]) rfl (XS.iload X64.here hx rfl (hb hby at_220) rfl (XS.ifNo X64.here hx rfl (hb hby at_222) rfl ((if0 _ _).trans (feq ((by decide) : ¬ ((1 : Int32) = (0 : Int32)))).1) (XS.aload X64.here hx rfl (hb hby at_225) rfl rfl (XS.iload X64.here hx rfl (hb hby at_227) rfl kq)))))))) ?_
      obtain ⟨vq1, vq2, vq3, vq4⟩ := own_rd fa (1 : Int32) (0 : Int32) fa hbig (by decide) (by decide) (Int32.add_zero fa).symm
      obtain ⟨_, T69, L69, X69, ⟨rfl, Nq69, hh69⟩, st69⟩ := own_cV X64 hx hZ46 hown46 (own_W295 hw) (own_W296 hw) (own_W298 hw) (own_W297 hw) (own_W69 hw) (own_W299 hw) (rmrod10 l Z a0 hw [] b41 fa r57 we el3 fa T57.heap n0 O60 f61 Fg57 Fr57 La57 Lb57 Lc_57 Sem Eem D3.1 vq1 vq2 vq3 vq4) hh64 f61 (lenOf pd_I_Ljava_math_BigDecimal_194 rfl) (g := (mkF m 229 #[iv fa, iv p2, iv p3, iv (1 : Int32), rv b1, rv b27, rv b41, iv fa, iv fa, iv (1 : Int32)] [(.int fa), (.ref b41)])) (argsL := [(.int fa)]) (rest := []) (W := 0) rfl rfl (hb hby at_229) (by rw [hml]; rfl) (by show 2 * 0 + _ ≤ _; exact Nat.le_of_eq rfl) rfl (by decide) (by decide) (by decide) (by decide) (by decide)
      have N70 := Fr.app N65 Nq69
      refine own_t T69 (mkF m 232 #[iv fa, iv p2, iv p3, iv (1 : Int32), rv b1, rv b27, rv b41, iv fa, iv fa, iv (1 : Int32)] [(.ref el3)]) st69 ?_
      refine own_g T69 (mkF m 237 #[iv fa, iv p2, iv p3, iv (1 : Int32), rv b1, rv b27, rv b41, iv fa, iv fa, iv (1 : Int32)] [(.int (0 : Int32)), (.ref b1), (.ref el3)]) (fun _ kq => XS.aload X69.here hx rfl (hb hby at_232) rfl rfl (XS.iloadN X69.here hx rfl (hb hby at_234) rfl (XS.iconst X69.here hx rfl (hb hby at_235) (XS.isub X69.here hx rfl (hb hby at_236) rfl kq)))) ?_
      obtain ⟨cl71, Ar71, q71, S71, Nn71, H71, G71⟩ := id f66
      have hin72 : ¬ ((0 : Int32) < 0 ∨ cl71.slots.size ≤ ((0 : Int32)).toNatClampNeg) := inb_of S71 ⟨by decide, by decide⟩
      have hat72 : cl71.slots[((0 : Int32)).toNatClampNeg]? = some (.ref el3) := Has.at H71 hin72 rfl
      refine own_g T69 (mkF m 238 #[iv fa, iv p2, iv p3, iv (1 : Int32), rv b1, rv b27, rv b41, iv fa, iv fa, iv (1 : Int32)] [(.ref el3), (.ref el3)]) (X69.aaload hx (j := (0 : Int32)) (v := (.ref el3)) (by rw [hh69]; exact Ar71.1) (State.isArrayOf_alike hZ46.alike Ar71.2.1) rfl Ar71.2.2 hin72 hat72 (g := (mkF m 237 #[iv fa, iv p2, iv p3, iv (1 : Int32), rv b1, rv b27, rv b41, iv fa, iv fa, iv (1 : Int32)] [(.int (0 : Int32)), (.ref b1), (.ref el3)])) rfl rfl (hb hby at_237)) ?_
      refine own_g T69 (mkF m 257 #[iv fa, iv p2, iv p3, iv (1 : Int32), rv b1, rv b27, rv b41, iv fa, iv fa, iv (1 : Int32)] [(.int fa), (.ref b41)]) (fun _ kq => Jvm.RoadKit.acmp (g := (mkF m 238 #[iv fa, iv p2, iv p3, iv (1 : Int32), rv b1, rv b27, rv b41, iv fa, iv fa, iv (1 : Int32)] [(.ref el3), (.ref el3)])) X69 hx rfl rfl rfl (pc0 := 238) (pc' := 241) (same := true) rfl (hb hby at_238) rfl (decide_eq_true rfl) (by decide) (by decide) (XS.iconst X69.here hx rfl (hb hby at_241) (XS.goto X69.here hx rfl (pc0 := 242) (pc' := 246) rfl (hb hby at_242) (by decide) (by decide) (XS.istore X69.here hx rfl (hb hby at_246) rfl (l' := #[iv fa, iv p2, iv p3, iv (1 : Int32), rv b1, rv b27, rv b41, iv fa, iv fa, iv (1 : Int32)]) rfl (XS.iload X69.here hx rfl (hb hby at_248) rfl (XS.ifNo X69.here hx rfl (hb hby at_250) rfl ((if0 _ _).trans (feq ((by decide) : ¬ ((1 : Int32) = (0 : Int32)))).1) (XS.aload X69.here hx rfl (hb hby at_253) rfl rfl (XS.iload X69.here hx rfl (hb hby at_255) rfl kq)))))))) ?_
      refine own_g T69 (mkF m 259 #[iv fa, iv p2, iv p3, iv (1 : Int32), rv b1, rv b27, rv b41, iv fa, iv fa, iv (1 : Int32)] [(.int (fa + (1 : Int32))), (.ref b41)]) (fun _ kq => XS.iconst X69.here hx rfl (hb hby at_257) (XS.iadd X69.here hx rfl (hb hby at_258) rfl kq)) ?_
      have wq : (fa + (1 : Int32)) = (((fa + (1 : Int32)) - (1 : Int32)) + (1 : Int32)) := by rw [own_last1 fa]
      obtain ⟨_, T73, L73, X73, ⟨rfl, Nq73, hh73⟩, st73⟩ := own_cV X69 hx hZ46 hown46 (own_W295 hw) (own_W296 hw) (own_W298 hw) (own_W297 hw) (own_W69 hw) (own_W299 hw) (rmrode1 l Z a0 hw [] b41 fa r57 we el3 (fa + (1 : Int32)) w1 T57.heap n0 O60 f61 Fg57 Fr57 La57 Lb57 Lc_57 Sem Eem D3.1 S1 wq) hh69 f61 (lenOf pd_I_Ljava_math_BigDecimal_194 rfl) (g := (mkF m 259 #[iv fa, iv p2, iv p3, iv (1 : Int32), rv b1, rv b27, rv b41, iv fa, iv fa, iv (1 : Int32)] [(.int (fa + (1 : Int32))), (.ref b41)])) (argsL := [(.int (fa + (1 : Int32)))]) (rest := []) (W := 0) rfl rfl (hb hby at_259) (by rw [hml]; rfl) (by show 2 * 0 + _ ≤ _; exact Nat.le_of_eq rfl) rfl (by decide) (by decide) (by decide) (by decide) (by decide)
      have N74 := Fr.app N70 Nq73
      refine own_t T73 (mkF m 262 #[iv fa, iv p2, iv p3, iv (1 : Int32), rv b1, rv b27, rv b41, iv fa, iv fa, iv (1 : Int32)] [(.ref w1)]) st73 ?_
      obtain ⟨T75, X75, e75, st75⟩ := getS2 X73 hx hZ46 hown46 (host := "") (Or.inl (own_W9 hw)) Via.refl hh73 (S1.ext O60.2) (g := (mkF m 262 #[iv fa, iv p2, iv p3, iv (1 : Int32), rv b1, rv b27, rv b41, iv fa, iv fa, iv (1 : Int32)] [(.ref w1)])) rfl (hb hby at_262)
      refine own_g T75 (mkF m 265 #[iv fa, iv p2, iv p3, iv (1 : Int32), rv b1, rv b27, rv b41, iv fa, iv fa, iv (1 : Int32)] [(.ref w1), (.ref w1)]) st75 ?_
      refine own_g T75 (mkF m 277 #[iv fa, iv p2, iv p3, iv (1 : Int32), rv b1, rv b27, rv b41, iv fa, iv fa, iv (1 : Int32)] [(.int (1 : Int32))]) (fun _ kq => Jvm.RoadKit.acmp (g := (mkF m 265 #[iv fa, iv p2, iv p3, iv (1 : Int32), rv b1, rv b27, rv b41, iv fa, iv fa, iv (1 : Int32)] [(.ref w1), (.ref w1)])) X75 hx rfl rfl rfl (pc0 := 265) (pc' := 268) (same := true) rfl (hb hby at_265) rfl (decide_eq_true rfl) (by decide) (by decide) (XS.iconst X75.here hx rfl (hb hby at_268) (XS.goto X75.here hx rfl (pc0 := 269) (pc' := 273) rfl (hb hby at_269) (by decide) (by decide) (XS.istore X75.here hx rfl (hb hby at_273) rfl (l' := #[iv fa, iv p2, iv p3, iv (1 : Int32), rv b1, rv b27, rv b41, iv fa, iv fa, iv (1 : Int32)]) rfl (XS.iload X75.here hx rfl (hb hby at_275) rfl kq))))) ?_
      refine own_outW X75 hS46 (by rw [e75]; exact (Nat.le_trans hk46 Kc57.1)) Bd.notSynchronized (v := (some (.int (1 : Int32)))) (fun h => by rw [Bd.returns] at h; cases h) (fun fs hr => retN X75 hx (t := .boolean) Bd.returns (by simp) (hb hby at_277) hr) ?_ (by decide) (by decide)
      rw [e75]
      exact ⟨rfl, N74⟩
  · refine own_g T38 (mkF m 77 #[iv fa, iv p2, iv p3, iv (2 : Int32), rv b1, rv b27, .unset, .unset, .unset, .unset] [(.int (1 : Int32)), (.ref b1), (.ref b27)]) (fun _ kq => XS.iloadN X38.here hx rfl (hb hby at_67) rfl (XS.iconst X38.here hx rfl (hb hby at_68) (XS.icmpNo X38.here hx rfl (hb hby at_69) rfl (flt ((by decide) : ¬ ((2 : Int32) < (2 : Int32)))).1 (XS.aload X38.here hx rfl (hb hby at_72) rfl rfl (XS.aload X38.here hx rfl (hb hby at_74) rfl rfl (XS.iconst X38.here hx rfl (hb hby at_76) kq)))))) ?_
    have f76 := (f33.keep Kc38 (ninS ne_b1_b27 nin0))
    obtain ⟨cl77, Ar77, q77, S77, Nn77, H77, G77⟩ := id f76
    have hin78 : ¬ ((1 : Int32) < 0 ∨ cl77.slots.size ≤ ((1 : Int32)).toNatClampNeg) := inb_of S77 ⟨by decide, by decide⟩
    have hat78 : cl77.slots[((1 : Int32)).toNatClampNeg]? = some (.ref el9) := Has.at H77 hin78 rfl
    refine own_g T38 (mkF m 78 #[iv fa, iv p2, iv p3, iv (2 : Int32), rv b1, rv b27, .unset, .unset, .unset, .unset] [(.ref el9), (.ref b27)]) (X38.aaload hx (j := (1 : Int32)) (v := (.ref el9)) (Ar77.1) (State.isArrayOf_alike hZ.alike Ar77.2.1) rfl Ar77.2.2 hin78 hat78 (g := (mkF m 77 #[iv fa, iv p2, iv p3, iv (2 : Int32), rv b1, rv b27, .unset, .unset, .unset, .unset] [(.int (1 : Int32)), (.ref b1), (.ref b27)])) rfl rfl (hb hby at_77)) ?_
    have O79 := (O36.keep Kc38 (allS g_b27 all0))
    have f80 := (f37.keep Kc38)
    obtain ⟨_, T81, L81, X81, ⟨rfl, Nq81, Kc81, Fa81, Fb81, Fc81, Ar81, Er81⟩, st81⟩ := own_cV X38 hx hZ hown (own_W36 hw) (own_W37 hw) (own_W39 hw) (own_W38 hw) (own_W12 hw) (own_W40 hw) (rmadda1 l Z a0 hw [] b27 r38 kr38 el3 el9 T38.heap n0 O79 f80 Fa38 Fb38 Fc38 g_b27 Ar38 Er38 Or38 gr38 ne_b27_r38 D9.1) rfl f80 (lenOf pd_Ljava_lang_Object__Z_838 rfl) (g := (mkF m 78 #[iv fa, iv p2, iv p3, iv (2 : Int32), rv b1, rv b27, .unset, .unset, .unset, .unset] [(.ref el9), (.ref b27)])) (argsL := [(.ref el9)]) (rest := []) (W := 0) rfl rfl (hb hby at_78) (by rw [hml]; rfl) (by show 2 * 0 + _ ≤ _; exact Nat.le_of_eq rfl) rfl (by decide) (by decide) (by decide) (by decide) (by decide)
    have N82 := Fr.app N40 Nq81
    refine own_t T81 (mkF m 81 #[iv fa, iv p2, iv p3, iv (2 : Int32), rv b1, rv b27, .unset, .unset, .unset, .unset] [(.int (1 : Int32))]) st81 ?_
    obtain ⟨LL83, Xp83, Np83⟩ : ∃ LL, Stand p l e room_1 (s.setVm s.vm) m #[(.int fa), (.int p2), (.int p3)] below meth c T81 LL 3 17 ∧ Fr n0 LL := ⟨_, X81, N82⟩
    refine own_g T81 (mkF m 112 #[iv fa, iv p2, iv p3, iv (2 : Int32), rv b1, rv b27, .unset, .unset, .unset, .unset] []) (fun _ kq => XS.pop X81.here hx rfl (hb hby at_81) rfl rfl (XS.iloadN Xp83.here hx rfl (hb hby at_82) rfl (XS.iconst Xp83.here hx rfl (hb hby at_83) (XS.icmpYes Xp83.here hx rfl (pc0 := 84) (pc' := 97) rfl (hb hby at_84) rfl (tlt ((by decide) : (2 : Int32) < (3 : Int32))).1 (by decide) (by decide) (XS.iloadN Xp83.here hx rfl (hb hby at_97) rfl (XS.iconst Xp83.here hx rfl (hb hby at_98) (XS.icmpYes Xp83.here hx rfl (pc0 := 99) (pc' := 112) rfl (hb hby at_99) rfl (tlt ((by decide) : (2 : Int32) < (4 : Int32))).1 (by decide) (by decide) kq))))))) ?_
    obtain ⟨T84, h84, X84, e84, E84, A84, D84, -, st84⟩ := newO Xp83 hx hZ hown (own_W67 hw) (own_W68 hw) (own_W69 hw) rfl (g := (mkF m 112 #[iv fa, iv p2, iv p3, iv (2 : Int32), rv b1, rv b27, .unset, .unset, .unset, .unset] [])) rfl (hb hby at_112) (by decide) (by decide)
    obtain ⟨b84, g84⟩ : ∃ z, z = T81.heap.size := ⟨_, rfl⟩
    rw [← g84] at A84 D84 st84
    have f85 := (f76.keep Kc81 (ninS ne_b1_b27 (ninS ne_b1_r38 nin0)))
    have ne_b1_b84 : b1 ≠ b84 := Nat.ne_of_lt (Nat.lt_of_lt_of_le f85.lt (Nat.le_of_eq g84.symm))
    have O86 := (O79.keep Kc81 (allS g_b27 (allS gr38 all0)))
    have ne_el3_b84 : el3 ≠ b84 := Nat.ne_of_lt (Nat.lt_of_lt_of_le (D3.1.ext O86.2).lt (Nat.le_of_eq g84.symm))
    have ne_el9_b84 : el9 ≠ b84 := Nat.ne_of_lt (Nat.lt_of_lt_of_le (D9.1.ext O86.2).lt (Nat.le_of_eq g84.symm))
    have ne_el15_b84 : el15 ≠ b84 := Nat.ne_of_lt (Nat.lt_of_lt_of_le (D15.1.ext O86.2).lt (Nat.le_of_eq g84.symm))
    have ne_el22_b84 : el22 ≠ b84 := Nat.ne_of_lt (Nat.lt_of_lt_of_le (D22.1.ext O86.2).lt (Nat.le_of_eq g84.symm))
    have f87 := (f80.keep Kc81)
    have ne_b27_b84 : b27 ≠ b84 := Nat.ne_of_lt (Nat.lt_of_lt_of_le f87.lt (Nat.le_of_eq g84.symm))
    have ne_r38_b84 : r38 ≠ b84 := Nat.ne_of_lt (Nat.lt_of_lt_of_le Ar81.lt (Nat.le_of_eq g84.symm))
    have g_b84 : n0 ≤ b84 := Nat.le_trans (own_old O86) (Nat.le_of_eq g84.symm)
    have K88 : Keep h0 _ [] := ((K39.trans Kc38 (allS (Or.inr sz_b27) all0)).trans Kc81 (allS (Or.inr sz_b27) (allS (Or.inr sz_r38) all0)))
    have sz_b84 : h0.size ≤ b84 := Nat.le_trans K88.1 (Nat.le_of_eq g84.symm)
    have F_name_b84 : Fld Z h84 b84 "com/example/restoria/restoria/mortality/MortalityTable" "name" "Ljava/lang/String;" .null := D84 (Or.inr (own_W278 hw)) (ty := (.object "java/lang/String")) (by decide)
    have F_firstAge_b84 : Fld Z h84 b84 "com/example/restoria/restoria/mortality/MortalityTable" "firstAge" "I" (.int (0 : Int32)) := D84 (Or.inr (own_W280 hw)) (ty := .int) (by decide)
    have F_rates_b84 : Fld Z h84 b84 "com/example/restoria/restoria/mortality/MortalityTable" "rates" "Ljava/util/List;" .null := D84 (Or.inr (own_W282 hw)) (ty := (.object "java/util/List")) (by decide)
    refine own_g T84 (mkF m 115 #[iv fa, iv p2, iv p3, iv (2 : Int32), rv b1, rv b27, .unset, .unset, .unset, .unset] [(.ref b84)]) st84 ?_
    refine own_g T84 (mkF m 116 #[iv fa, iv p2, iv p3, iv (2 : Int32), rv b1, rv b27, .unset, .unset, .unset, .unset] [(.ref b84), (.ref b84)]) (fun _ kq => XS.dup X84.here hx rfl (hb hby at_115) rfl rfl kq) ?_
    obtain ⟨sa, T89, h89, kk89, bv, kb, X89, e89, E89, hS89, hk89, hZ89, hown89, Es, Fc, Fv, Av, -, -, -, -, -, st89⟩ := ldcSVd (vs := [.int (84 : Int32)]) (z := (1 : Int32)) (Ts := []) X84 hx hZ hown (own_W70 hw) (own_strs hw) e84 hS0 (Nat.le_trans (Nat.le_trans (Nat.le_trans (Nat.le_trans (Nat.le_trans (Nat.le_trans (Nat.le_trans (Nat.le_trans (Nat.le_trans (Nat.le_trans (Nat.le_refl _) E1.1) (Nat.le_of_eq W6.size.symm)) (Nat.le_of_eq W12.size.symm)) (Nat.le_of_eq W18.size.symm)) (Nat.le_of_eq W25.size.symm)) E27.1) Kc31.1) Kc38.1) Kc81.1) E84.1) (by rw [hh, hsz]; exact Np83) (fun b cl q => by rw [hh]; exact O0.2.2 b cl q) (hvm ▸ IB.start) (by decide) hcon hcw ⟨by decide, by decide⟩ (by decide) rfl (g := (mkF m 116 #[iv fa, iv p2, iv p3, iv (2 : Int32), rv b1, rv b27, .unset, .unset, .unset, .unset] [(.ref b84), (.ref b84)])) rfl (hb hby at_116) (n := 4) (by decide) (by decide) (by decide) (by decide)
    refine own_g T89 (mkF m 118 #[iv fa, iv p2, iv p3, iv (2 : Int32), rv b1, rv b27, .unset, .unset, .unset, .unset] [(.ref sa), (.ref b84), (.ref b84)]) st89 ?_
    refine own_g T89 (mkF m 121 #[iv fa, iv p2, iv p3, iv (2 : Int32), rv b1, rv b27, .unset, .unset, .unset, .unset] [(.ref b27), (.int fa), (.ref sa), (.ref b84), (.ref b84)]) (fun _ kq => XS.iloadN X89.here hx rfl (hb hby at_118) rfl (XS.aload X89.here hx rfl (hb hby at_119) rfl rfl kq)) ?_
    have O90 := ((O86.ext E84).ext E89)
    have f91 := (A84.ext E89)
    have f92 := (F_name_b84.ext E89)
    have f93 := (F_firstAge_b84.ext E89)
    have f94 := (F_rates_b84.ext E89)
    have f95 := ((f87.ext E84).ext E89)
    have f96 := ((Fb81.ext E84).ext E89)
    have f97 := ((Fc81.ext E84).ext E89)
    have f98 := ((Ar81.ext E84).ext E89)
    have f99 := ((Er81.ext E84).ext E89)
    obtain ⟨_, T100, L100, X100, ⟨r100, rfl, Nq100, Kc100, gr100, szr100, Fg100, Fr100, La100, Lb100, Lc_100⟩, st100⟩ := own_cI X89 hx hZ89 hown89 (own_W78 hw) (own_W79 hw) (own_W69 hw) (own_W80 hw) (rmmti2 l Z a0 hw [] b84 b27 r38 mr we w1 kr38 fa sa bv kb cs wi wa cla el3 el9 h89 n0 O90 f91 f92 f93 f94 g_b84 Es Fc Fv Av Scs hcs Sin Ein Sa Ara hina hata f95 f96 f97 f98 f99 Mr Sem S1 Fi1 Fz1 D3 D9) e89 (lenOf pd_Ljava_lang_String_ILjava_util_List__V_450 rfl) (g := (mkF m 121 #[iv fa, iv p2, iv p3, iv (2 : Int32), rv b1, rv b27, .unset, .unset, .unset, .unset] [(.ref b27), (.int fa), (.ref sa), (.ref b84), (.ref b84)])) (argsL := [(.ref sa), (.int fa), (.ref b27)]) (rest := [(.ref b84)]) (W := 1) rfl rfl (hb hby at_121) (by rw [hml]; rfl) (by show 2 * 0 + _ ≤ _; exact Nat.le_of_eq rfl) rfl rfl (by decide) (by decide) (by decide) (by decide) (by decide)
    have N101 := Fr.app Np83 Nq100
    refine own_t T100 (mkF m 124 #[iv fa, iv p2, iv p3, iv (2 : Int32), rv b1, rv b27, .unset, .unset, .unset, .unset] [(.ref b84)]) st100 ?_
    refine own_g T100 (mkF m 128 #[iv fa, iv p2, iv p3, iv (2 : Int32), rv b1, rv b27, rv b84, .unset, .unset, .unset] [(.ref b84)]) (fun _ kq => XS.astore X100.here hx rfl (hb hby at_124) rfl rfl (l' := #[iv fa, iv p2, iv p3, iv (2 : Int32), rv b1, rv b27, rv b84, .unset, .unset, .unset]) rfl (XS.aload X100.here hx rfl (hb hby at_126) rfl rfl kq)) ?_
    have O102 := (O90.keep Kc100 (allS g_b84 all0))
    have f103 := (f91.keep Kc100)
    obtain ⟨_, T104, L104, X104, ⟨rfl, Nq104, hh104⟩, st104⟩ := own_cV X100 hx hZ89 hown89 (own_W283 hw) (own_W284 hw) (own_W286 hw) (own_W285 hw) (own_W69 hw) (own_W287 hw) (rmlast2 l Z a0 hw [] b84 fa r100 we el3 el9 T100.heap n0 O102 f103 Fg100 Fr100 La100 Lb100 Lc_100 Sem Eem D3.1 D9.1) rfl f103 (lenOf pd_I_154 rfl) (g := (mkF m 128 #[iv fa, iv p2, iv p3, iv (2 : Int32), rv b1, rv b27, rv b84, .unset, .unset, .unset] [(.ref b84)])) (argsL := []) (rest := []) (W := 0) rfl rfl (hb hby at_128) (by rw [hml]; rfl) (by show 2 * 0 + _ ≤ _; exact Nat.le_of_eq rfl) rfl (by decide) (by decide) (by decide) (by decide) (by decide)
    have N105 := Fr.app N101 Nq104
    refine own_t T104 (mkF m 131 #[iv fa, iv p2, iv p3, iv (2 : Int32), rv b1, rv b27, rv b84, .unset, .unset, .unset] [(.int ((fa + (2 : Int32)) - (1 : Int32)))]) st104 ?_
    rw [own_last2 fa]
    refine own_g T104 (mkF m 150 #[iv fa, iv p2, iv p3, iv (2 : Int32), rv b1, rv b27, rv b84, iv (fa + (1 : Int32)), .unset, .unset] [(.int fa)]) (fun _ kq => XS.istore X104.here hx rfl (hb hby at_131) rfl (l' := #[iv fa, iv p2, iv p3, iv (2 : Int32), rv b1, rv b27, rv b84, iv (fa + (1 : Int32)), .unset, .unset]) rfl (XS.iloadN X104.here hx rfl (hb hby at_133) rfl (XS.iconst X104.here hx rfl (hb hby at_134) (XS.icmpYes X104.here hx rfl (pc0 := 135) (pc' := 144) rfl (hb hby at_135) rfl (feq ((by decide) : ¬ ((2 : Int32) = (1 : Int32)))).2 (by decide) (by decide) (XS.iloadN X104.here hx rfl (hb hby at_144) rfl (XS.iconst X104.here hx rfl (hb hby at_145) (XS.icmpNo X104.here hx rfl (hb hby at_146) rfl (teq ((by decide) : (2 : Int32) = (2 : Int32))).2 (XS.iloadN X104.here hx rfl (hb hby at_149) rfl kq)))))))) ?_
    refine own_g T104 (mkF m 183 #[iv fa, iv p2, iv p3, iv (2 : Int32), rv b1, rv b27, rv b84, iv (fa + (1 : Int32)), iv (fa + (1 : Int32)), .unset] [(.int (1 : Int32))]) (fun _ kq => XS.iconst X104.here hx rfl (hb hby at_150) (XS.iadd X104.here hx rfl (hb hby at_151) rfl (XS.istore X104.here hx rfl (hb hby at_152) rfl (l' := #[iv fa, iv p2, iv p3, iv (2 : Int32), rv b1, rv b27, rv b84, iv (fa + (1 : Int32)), iv (fa + (1 : Int32)), .unset]) rfl (XS.goto X104.here hx rfl (pc0 := 154) (pc' := 175) rfl (hb hby at_154) (by decide) (by decide) (XS.iload X104.here hx rfl (hb hby at_175) rfl (XS.iload X104.here hx rfl (hb hby at_177) rfl (XS.icmpNo X104.here hx rfl (hb hby at_179) rfl (teq (rfl : (fa + (1 : Int32)) = (fa + (1 : Int32)))).2 (XS.iconst X104.here hx rfl (hb hby at_182) kq)))))))) ?_
    refine own_g T104 (mkF m 195 #[iv fa, iv p2, iv p3, iv (2 : Int32), rv b1, rv b27, rv b84, iv (fa + (1 : Int32)), iv (fa + (1 : Int32)), iv (1 : Int32)] [(.int fa)]) (fun _ kq => XS.goto X104.here hx rfl (pc0 := 183) (pc' := 187) rfl (hb hby at_183) (by decide) (by decide) (XS.istore X104.here hx rfl (hb hby at_187) rfl (l' := #[iv fa, iv p2, iv p3, iv (2 : Int32), rv b1, rv b27, rv b84, iv (fa + (1 : Int32)), iv (fa + (1 : Int32)), iv (1 : Int32)]) rfl (XS.iload X104.here hx rfl (hb hby at_189) rfl (XS.ifNo X104.here hx rfl (hb hby at_191) rfl ((if0 _ _).trans (feq ((by decide) : ¬ ((1 : Int32) = (0 : Int32)))).1) (XS.iloadN X104.here hx rfl (hb hby at_194) rfl kq))))) ?_
    refine own_g T104 (mkF m 197 #[iv fa, iv p2, iv p3, iv (2 : Int32), rv b1, rv b27, rv b84, iv (fa + (1 : Int32)), iv (fa + (1 : Int32)), iv (1 : Int32)] [(.int (2147483643 : Int32)), (.int fa)]) (X104.ldcInt hx hown89 (mvT hZ89 (own_W294 hw)) (g := (mkF m 195 #[iv fa, iv p2, iv p3, iv (2 : Int32), rv b1, rv b27, rv b84, iv (fa + (1 : Int32)), iv (fa + (1 : Int32)), iv (1 : Int32)] [(.int fa)])) rfl (hb hby at_195)) ?_
    by_cases hbig : (2147483643 : Int32) < fa
    · refine own_g T104 (mkF m 277 #[iv fa, iv p2, iv p3, iv (2 : Int32), rv b1, rv b27, rv b84, iv (fa + (1 : Int32)), iv (fa + (1 : Int32)), iv (1 : Int32)] [(.int (1 : Int32))]) (fun _ kq => XS.icmpYes X104.here hx rfl (pc0 := 197) (pc' := 275) rfl (hb hby at_197) rfl (tlt (hbig : (2147483643 : Int32) < fa)).2.2.1 (by decide) (by decide) (XS.iload X104.here hx rfl (hb hby at_275) rfl kq)) ?_
      refine own_outW X104 hS89 (by rw [hh104]; exact (Nat.le_trans hk89 Kc100.1)) Bd.notSynchronized (v := (some (.int (1 : Int32)))) (fun h => by rw [Bd.returns] at h; cases h) (fun fs hr => retN X104 hx (t := .boolean) Bd.returns (by simp) (hb hby at_277) hr) ?_ (by decide) (by decide)
      rw [hh104]
      exact ⟨rfl, N105⟩
    · refine own_g T104 (mkF m 203 #[iv fa, iv p2, iv p3, iv (2 : Int32), rv b1, rv b27, rv b84, iv (fa + (1 : Int32)), iv (fa + (1 : Int32)), iv (1 : Int32)] [(.int fa), (.ref b84)]) (fun _ kq => XS.icmpNo X104.here hx rfl (hb hby at_197) rfl (flt (hbig : ¬ ((2147483643 : Int32) < fa))).2.2.1 (XS.aload X104.here hx rfl (hb hby at_200) rfl rfl (XS.iloadN X104.here hx rfl (hb hby at_202) rfl kq))) ?_
      obtain ⟨uq1, uq2, uq3, uq4⟩ := own_rd fa (2 : Int32) (0 : Int32) fa hbig (by decide) (by decide) (Int32.add_zero fa).symm
      obtain ⟨_, T106, L106, X106, ⟨rfl, Nq106, hh106⟩, st106⟩ := own_cV X104 hx hZ89 hown89 (own_W295 hw) (own_W296 hw) (own_W298 hw) (own_W297 hw) (own_W69 hw) (own_W299 hw) (rmrod20 l Z a0 hw [] b84 fa r100 we el3 el9 fa T100.heap n0 O102 f103 Fg100 Fr100 La100 Lb100 Lc_100 Sem Eem D3.1 D9.1 uq1 uq2 uq3 uq4) hh104 f103 (lenOf pd_I_Ljava_math_BigDecimal_194 rfl) (g := (mkF m 203 #[iv fa, iv p2, iv p3, iv (2 : Int32), rv b1, rv b27, rv b84, iv (fa + (1 : Int32)), iv (fa + (1 : Int32)), iv (1 : Int32)] [(.int fa), (.ref b84)])) (argsL := [(.int fa)]) (rest := []) (W := 0) rfl rfl (hb hby at_203) (by rw [hml]; rfl) (by show 2 * 0 + _ ≤ _; exact Nat.le_of_eq rfl) rfl (by decide) (by decide) (by decide) (by decide) (by decide)
      have N107 := Fr.app N105 Nq106
      refine own_t T106 (mkF m 206 #[iv fa, iv p2, iv p3, iv (2 : Int32), rv b1, rv b27, rv b84, iv (fa + (1 : Int32)), iv (fa + (1 : Int32)), iv (1 : Int32)] [(.ref el3)]) st106 ?_
      refine own_g T106 (mkF m 209 #[iv fa, iv p2, iv p3, iv (2 : Int32), rv b1, rv b27, rv b84, iv (fa + (1 : Int32)), iv (fa + (1 : Int32)), iv (1 : Int32)] [(.int (0 : Int32)), (.ref b1), (.ref el3)]) (fun _ kq => XS.aload X106.here hx rfl (hb hby at_206) rfl rfl (XS.iconst X106.here hx rfl (hb hby at_208) kq)) ?_
      have f108 := (((f85.ext E84).ext E89).keep Kc100 (ninS ne_b1_b84 nin0))
      obtain ⟨cl109, Ar109, q109, S109, Nn109, H109, G109⟩ := id f108
      have hin110 : ¬ ((0 : Int32) < 0 ∨ cl109.slots.size ≤ ((0 : Int32)).toNatClampNeg) := inb_of S109 ⟨by decide, by decide⟩
      have hat110 : cl109.slots[((0 : Int32)).toNatClampNeg]? = some (.ref el3) := Has.at H109 hin110 rfl
      refine own_g T106 (mkF m 210 #[iv fa, iv p2, iv p3, iv (2 : Int32), rv b1, rv b27, rv b84, iv (fa + (1 : Int32)), iv (fa + (1 : Int32)), iv (1 : Int32)] [(.ref el3), (.ref el3)]) (X106.aaload hx (j := (0 : Int32)) (v := (.ref el3)) (by rw [hh106]; exact Ar109.1) (State.isArrayOf_alike hZ89.alike Ar109.2.1) rfl Ar109.2.2 hin110 hat110 (g := (mkF m 209 #[iv fa, iv p2, iv p3, iv (2 : Int32), rv b1, rv b27, rv b84, iv (fa + (1 : Int32)), iv (fa + (1 : Int32)), iv (1 : Int32)] [(.int (0 : Int32)), (.ref b1), (.ref el3)])) rfl rfl (hb hby at_209)) ?_
      refine own_g T106 (mkF m 229 #[iv fa, iv p2, iv p3, iv (2 : Int32), rv b1, rv b27, rv b84, iv (fa + (1 : Int32)), iv (fa + (1 : Int32)), iv (1 : Int32)] [(.int (fa + (1 : Int32))), (.ref b84)]) (fun _ kq => Jvm.RoadKit.acmp (g := (mkF m 210 #[iv fa, iv p2, iv p3, iv (2 : Int32), rv b1, rv b27, rv b84, iv (fa + (1 : Int32)), iv (fa + (1 : Int32)), iv (1 : Int32)] [(.ref el3), (.ref el3)])) X106 hx rfl rfl rfl (pc0 := 210) (pc' := 213) (same := true) rfl (hb hby at_210) rfl (decide_eq_true rfl) (by decide) (by decide) (XS.iconst X106.here hx rfl (hb hby at_213) (XS.goto X106.here hx rfl (pc0 := 214) (pc' := 218) rfl (hb hby at_214) (by decide) (by decide) (XS.istore X106.here hx rfl (hb hby at_218) rfl (l' := #[iv fa, iv p2, iv p3, iv (2 : Int32), rv b1, rv b27, rv b84, iv (fa + (1 : Int32)), iv (fa + (1 : Int32)), iv (1 : Int32)]) rfl (XS.iload X106.here hx rfl (hb hby at_220) rfl (XS.ifNo X106.here hx rfl (hb hby at_222) rfl ((if0 _ _).trans (feq ((by decide) : ¬ ((1 : Int32) = (0 : Int32)))).1) (XS.aload X106.here hx rfl (hb hby at_225) rfl rfl (XS.iload X106.here hx rfl (hb hby at_227) rfl kq)))))))) ?_
      obtain ⟨vq1, vq2, vq3, vq4⟩ := own_rd fa (2 : Int32) (1 : Int32) (fa + (1 : Int32)) hbig (by decide) (by decide) rfl
      obtain ⟨_, T111, L111, X111, ⟨rfl, Nq111, hh111⟩, st111⟩ := own_cV X106 hx hZ89 hown89 (own_W295 hw) (own_W296 hw) (own_W298 hw) (own_W297 hw) (own_W69 hw) (own_W299 hw) (rmrod21 l Z a0 hw [] b84 fa r100 we el3 el9 (fa + (1 : Int32)) T100.heap n0 O102 f103 Fg100 Fr100 La100 Lb100 Lc_100 Sem Eem D3.1 D9.1 vq1 vq2 vq3 vq4) hh106 f103 (lenOf pd_I_Ljava_math_BigDecimal_194 rfl) (g := (mkF m 229 #[iv fa, iv p2, iv p3, iv (2 : Int32), rv b1, rv b27, rv b84, iv (fa + (1 : Int32)), iv (fa + (1 : Int32)), iv (1 : Int32)] [(.int (fa + (1 : Int32))), (.ref b84)])) (argsL := [(.int (fa + (1 : Int32)))]) (rest := []) (W := 0) rfl rfl (hb hby at_229) (by rw [hml]; rfl) (by show 2 * 0 + _ ≤ _; exact Nat.le_of_eq rfl) rfl (by decide) (by decide) (by decide) (by decide) (by decide)
      have N112 := Fr.app N107 Nq111
      refine own_t T111 (mkF m 232 #[iv fa, iv p2, iv p3, iv (2 : Int32), rv b1, rv b27, rv b84, iv (fa + (1 : Int32)), iv (fa + (1 : Int32)), iv (1 : Int32)] [(.ref el9)]) st111 ?_
      refine own_g T111 (mkF m 237 #[iv fa, iv p2, iv p3, iv (2 : Int32), rv b1, rv b27, rv b84, iv (fa + (1 : Int32)), iv (fa + (1 : Int32)), iv (1 : Int32)] [(.int (1 : Int32)), (.ref b1), (.ref el9)]) (fun _ kq => XS.aload X111.here hx rfl (hb hby at_232) rfl rfl (XS.iloadN X111.here hx rfl (hb hby at_234) rfl (XS.iconst X111.here hx rfl (hb hby at_235) (XS.isub X111.here hx rfl (hb hby at_236) rfl kq)))) ?_
      obtain ⟨cl113, Ar113, q113, S113, Nn113, H113, G113⟩ := id f108
      have hin114 : ¬ ((1 : Int32) < 0 ∨ cl113.slots.size ≤ ((1 : Int32)).toNatClampNeg) := inb_of S113 ⟨by decide, by decide⟩
      have hat114 : cl113.slots[((1 : Int32)).toNatClampNeg]? = some (.ref el9) := Has.at H113 hin114 rfl
      refine own_g T111 (mkF m 238 #[iv fa, iv p2, iv p3, iv (2 : Int32), rv b1, rv b27, rv b84, iv (fa + (1 : Int32)), iv (fa + (1 : Int32)), iv (1 : Int32)] [(.ref el9), (.ref el9)]) (X111.aaload hx (j := (1 : Int32)) (v := (.ref el9)) (by rw [hh111]; exact Ar113.1) (State.isArrayOf_alike hZ89.alike Ar113.2.1) rfl Ar113.2.2 hin114 hat114 (g := (mkF m 237 #[iv fa, iv p2, iv p3, iv (2 : Int32), rv b1, rv b27, rv b84, iv (fa + (1 : Int32)), iv (fa + (1 : Int32)), iv (1 : Int32)] [(.int (1 : Int32)), (.ref b1), (.ref el9)])) rfl rfl (hb hby at_237)) ?_
      refine own_g T111 (mkF m 257 #[iv fa, iv p2, iv p3, iv (2 : Int32), rv b1, rv b27, rv b84, iv (fa + (1 : Int32)), iv (fa + (1 : Int32)), iv (1 : Int32)] [(.int (fa + (1 : Int32))), (.ref b84)]) (fun _ kq => Jvm.RoadKit.acmp (g := (mkF m 238 #[iv fa, iv p2, iv p3, iv (2 : Int32), rv b1, rv b27, rv b84, iv (fa + (1 : Int32)), iv (fa + (1 : Int32)), iv (1 : Int32)] [(.ref el9), (.ref el9)])) X111 hx rfl rfl rfl (pc0 := 238) (pc' := 241) (same := true) rfl (hb hby at_238) rfl (decide_eq_true rfl) (by decide) (by decide) (XS.iconst X111.here hx rfl (hb hby at_241) (XS.goto X111.here hx rfl (pc0 := 242) (pc' := 246) rfl (hb hby at_242) (by decide) (by decide) (XS.istore X111.here hx rfl (hb hby at_246) rfl (l' := #[iv fa, iv p2, iv p3, iv (2 : Int32), rv b1, rv b27, rv b84, iv (fa + (1 : Int32)), iv (fa + (1 : Int32)), iv (1 : Int32)]) rfl (XS.iload X111.here hx rfl (hb hby at_248) rfl (XS.ifNo X111.here hx rfl (hb hby at_250) rfl ((if0 _ _).trans (feq ((by decide) : ¬ ((1 : Int32) = (0 : Int32)))).1) (XS.aload X111.here hx rfl (hb hby at_253) rfl rfl (XS.iload X111.here hx rfl (hb hby at_255) rfl kq)))))))) ?_
      refine own_g T111 (mkF m 259 #[iv fa, iv p2, iv p3, iv (2 : Int32), rv b1, rv b27, rv b84, iv (fa + (1 : Int32)), iv (fa + (1 : Int32)), iv (1 : Int32)] [(.int ((fa + (1 : Int32)) + (1 : Int32))), (.ref b84)]) (fun _ kq => XS.iconst X111.here hx rfl (hb hby at_257) (XS.iadd X111.here hx rfl (hb hby at_258) rfl kq)) ?_
      have wq : ((fa + (1 : Int32)) + (1 : Int32)) = (((fa + (2 : Int32)) - (1 : Int32)) + (1 : Int32)) := by rw [own_last2 fa]
      obtain ⟨_, T115, L115, X115, ⟨rfl, Nq115, hh115⟩, st115⟩ := own_cV X111 hx hZ89 hown89 (own_W295 hw) (own_W296 hw) (own_W298 hw) (own_W297 hw) (own_W69 hw) (own_W299 hw) (rmrode2 l Z a0 hw [] b84 fa r100 we el3 el9 ((fa + (1 : Int32)) + (1 : Int32)) w1 T100.heap n0 O102 f103 Fg100 Fr100 La100 Lb100 Lc_100 Sem Eem D3.1 D9.1 S1 wq) hh111 f103 (lenOf pd_I_Ljava_math_BigDecimal_194 rfl) (g := (mkF m 259 #[iv fa, iv p2, iv p3, iv (2 : Int32), rv b1, rv b27, rv b84, iv (fa + (1 : Int32)), iv (fa + (1 : Int32)), iv (1 : Int32)] [(.int ((fa + (1 : Int32)) + (1 : Int32))), (.ref b84)])) (argsL := [(.int ((fa + (1 : Int32)) + (1 : Int32)))]) (rest := []) (W := 0) rfl rfl (hb hby at_259) (by rw [hml]; rfl) (by show 2 * 0 + _ ≤ _; exact Nat.le_of_eq rfl) rfl (by decide) (by decide) (by decide) (by decide) (by decide)
      have N116 := Fr.app N112 Nq115
      refine own_t T115 (mkF m 262 #[iv fa, iv p2, iv p3, iv (2 : Int32), rv b1, rv b27, rv b84, iv (fa + (1 : Int32)), iv (fa + (1 : Int32)), iv (1 : Int32)] [(.ref w1)]) st115 ?_
      obtain ⟨T117, X117, e117, st117⟩ := getS2 X115 hx hZ89 hown89 (host := "") (Or.inl (own_W9 hw)) Via.refl hh115 (S1.ext O102.2) (g := (mkF m 262 #[iv fa, iv p2, iv p3, iv (2 : Int32), rv b1, rv b27, rv b84, iv (fa + (1 : Int32)), iv (fa + (1 : Int32)), iv (1 : Int32)] [(.ref w1)])) rfl (hb hby at_262)
      obtain ⟨LL118, Xp118, Np118⟩ : ∃ LL, Stand p l e room_1 (s.setVm T89.vm) m #[(.int fa), (.int p2), (.int p3)] below meth c T117 LL 8 32 ∧ Fr n0 LL := ⟨_, X117, N116⟩
      refine own_g T117 (mkF m 265 #[iv fa, iv p2, iv p3, iv (2 : Int32), rv b1, rv b27, rv b84, iv (fa + (1 : Int32)), iv (fa + (1 : Int32)), iv (1 : Int32)] [(.ref w1), (.ref w1)]) st117 ?_
      refine own_g T117 (mkF m 277 #[iv fa, iv p2, iv p3, iv (2 : Int32), rv b1, rv b27, rv b84, iv (fa + (1 : Int32)), iv (fa + (1 : Int32)), iv (1 : Int32)] [(.int (1 : Int32))]) (fun _ kq => Jvm.RoadKit.acmp (g := (mkF m 265 #[iv fa, iv p2, iv p3, iv (2 : Int32), rv b1, rv b27, rv b84, iv (fa + (1 : Int32)), iv (fa + (1 : Int32)), iv (1 : Int32)] [(.ref w1), (.ref w1)])) Xp118 hx rfl rfl rfl (pc0 := 265) (pc' := 268) (same := true) rfl (hb hby at_265) rfl (decide_eq_true rfl) (by decide) (by decide) (XS.iconst Xp118.here hx rfl (hb hby at_268) (XS.goto Xp118.here hx rfl (pc0 := 269) (pc' := 273) rfl (hb hby at_269) (by decide) (by decide) (XS.istore Xp118.here hx rfl (hb hby at_273) rfl (l' := #[iv fa, iv p2, iv p3, iv (2 : Int32), rv b1, rv b27, rv b84, iv (fa + (1 : Int32)), iv (fa + (1 : Int32)), iv (1 : Int32)]) rfl (XS.iload Xp118.here hx rfl (hb hby at_275) rfl kq))))) ?_
      refine own_outW Xp118 hS89 (by rw [e117]; exact (Nat.le_trans hk89 Kc100.1)) Bd.notSynchronized (v := (some (.int (1 : Int32)))) (fun h => by rw [Bd.returns] at h; cases h) (fun fs hr => retN Xp118 hx (t := .boolean) Bd.returns (by simp) (hb hby at_277) hr) ?_ (by decide) (by decide)
      rw [e117]
      exact ⟨rfl, Np118⟩
  · refine own_g T38 (mkF m 77 #[iv fa, iv p2, iv p3, iv (3 : Int32), rv b1, rv b27, .unset, .unset, .unset, .unset] [(.int (1 : Int32)), (.ref b1), (.ref b27)]) (fun _ kq => XS.iloadN X38.here hx rfl (hb hby at_67) rfl (XS.iconst X38.here hx rfl (hb hby at_68) (XS.icmpNo X38.here hx rfl (hb hby at_69) rfl (flt ((by decide) : ¬ ((3 : Int32) < (2 : Int32)))).1 (XS.aload X38.here hx rfl (hb hby at_72) rfl rfl (XS.aload X38.here hx rfl (hb hby at_74) rfl rfl (XS.iconst X38.here hx rfl (hb hby at_76) kq)))))) ?_
    have f119 := (f33.keep Kc38 (ninS ne_b1_b27 nin0))
    obtain ⟨cl120, Ar120, q120, S120, Nn120, H120, G120⟩ := id f119
    have hin121 : ¬ ((1 : Int32) < 0 ∨ cl120.slots.size ≤ ((1 : Int32)).toNatClampNeg) := inb_of S120 ⟨by decide, by decide⟩
    have hat121 : cl120.slots[((1 : Int32)).toNatClampNeg]? = some (.ref el9) := Has.at H120 hin121 rfl
    refine own_g T38 (mkF m 78 #[iv fa, iv p2, iv p3, iv (3 : Int32), rv b1, rv b27, .unset, .unset, .unset, .unset] [(.ref el9), (.ref b27)]) (X38.aaload hx (j := (1 : Int32)) (v := (.ref el9)) (Ar120.1) (State.isArrayOf_alike hZ.alike Ar120.2.1) rfl Ar120.2.2 hin121 hat121 (g := (mkF m 77 #[iv fa, iv p2, iv p3, iv (3 : Int32), rv b1, rv b27, .unset, .unset, .unset, .unset] [(.int (1 : Int32)), (.ref b1), (.ref b27)])) rfl rfl (hb hby at_77)) ?_
    have O122 := (O36.keep Kc38 (allS g_b27 all0))
    have f123 := (f37.keep Kc38)
    obtain ⟨_, T124, L124, X124, ⟨rfl, Nq124, Kc124, Fa124, Fb124, Fc124, Ar124, Er124⟩, st124⟩ := own_cV X38 hx hZ hown (own_W36 hw) (own_W37 hw) (own_W39 hw) (own_W38 hw) (own_W12 hw) (own_W40 hw) (rmadda1 l Z a0 hw [] b27 r38 kr38 el3 el9 T38.heap n0 O122 f123 Fa38 Fb38 Fc38 g_b27 Ar38 Er38 Or38 gr38 ne_b27_r38 D9.1) rfl f123 (lenOf pd_Ljava_lang_Object__Z_838 rfl) (g := (mkF m 78 #[iv fa, iv p2, iv p3, iv (3 : Int32), rv b1, rv b27, .unset, .unset, .unset, .unset] [(.ref el9), (.ref b27)])) (argsL := [(.ref el9)]) (rest := []) (W := 0) rfl rfl (hb hby at_78) (by rw [hml]; rfl) (by show 2 * 0 + _ ≤ _; exact Nat.le_of_eq rfl) rfl (by decide) (by decide) (by decide) (by decide) (by decide)
    have N125 := Fr.app N40 Nq124
    refine own_t T124 (mkF m 81 #[iv fa, iv p2, iv p3, iv (3 : Int32), rv b1, rv b27, .unset, .unset, .unset, .unset] [(.int (1 : Int32))]) st124 ?_
    obtain ⟨LL126, Xp126, Np126⟩ : ∃ LL, Stand p l e room_1 (s.setVm s.vm) m #[(.int fa), (.int p2), (.int p3)] below meth c T124 LL 3 17 ∧ Fr n0 LL := ⟨_, X124, N125⟩
    refine own_g T124 (mkF m 92 #[iv fa, iv p2, iv p3, iv (3 : Int32), rv b1, rv b27, .unset, .unset, .unset, .unset] [(.int (2 : Int32)), (.ref b1), (.ref b27)]) (fun _ kq => XS.pop X124.here hx rfl (hb hby at_81) rfl rfl (XS.iloadN Xp126.here hx rfl (hb hby at_82) rfl (XS.iconst Xp126.here hx rfl (hb hby at_83) (XS.icmpNo Xp126.here hx rfl (hb hby at_84) rfl (flt ((by decide) : ¬ ((3 : Int32) < (3 : Int32)))).1 (XS.aload Xp126.here hx rfl (hb hby at_87) rfl rfl (XS.aload Xp126.here hx rfl (hb hby at_89) rfl rfl (XS.iconst Xp126.here hx rfl (hb hby at_91) kq))))))) ?_
    have f127 := (f119.keep Kc124 (ninS ne_b1_b27 (ninS ne_b1_r38 nin0)))
    obtain ⟨cl128, Ar128, q128, S128, Nn128, H128, G128⟩ := id f127
    have hin129 : ¬ ((2 : Int32) < 0 ∨ cl128.slots.size ≤ ((2 : Int32)).toNatClampNeg) := inb_of S128 ⟨by decide, by decide⟩
    have hat129 : cl128.slots[((2 : Int32)).toNatClampNeg]? = some (.ref el15) := Has.at H128 hin129 rfl
    refine own_g T124 (mkF m 93 #[iv fa, iv p2, iv p3, iv (3 : Int32), rv b1, rv b27, .unset, .unset, .unset, .unset] [(.ref el15), (.ref b27)]) (Xp126.aaload hx (j := (2 : Int32)) (v := (.ref el15)) (Ar128.1) (State.isArrayOf_alike hZ.alike Ar128.2.1) rfl Ar128.2.2 hin129 hat129 (g := (mkF m 92 #[iv fa, iv p2, iv p3, iv (3 : Int32), rv b1, rv b27, .unset, .unset, .unset, .unset] [(.int (2 : Int32)), (.ref b1), (.ref b27)])) rfl rfl (hb hby at_92)) ?_
    have O130 := (O122.keep Kc124 (allS g_b27 (allS gr38 all0)))
    have f131 := (f123.keep Kc124)
    obtain ⟨_, T132, L132, X132, ⟨rfl, Nq132, Kc132, Fa132, Fb132, Fc132, Ar132, Er132⟩, st132⟩ := own_cV Xp126 hx hZ hown (own_W36 hw) (own_W37 hw) (own_W39 hw) (own_W38 hw) (own_W12 hw) (own_W40 hw) (rmadda2 l Z a0 hw [] b27 r38 kr38 el3 el9 el15 T124.heap n0 O130 f131 Fa124 Fb124 Fc124 g_b27 Ar124 Er124 Or38 gr38 ne_b27_r38 D15.1) rfl f131 (lenOf pd_Ljava_lang_Object__Z_838 rfl) (g := (mkF m 93 #[iv fa, iv p2, iv p3, iv (3 : Int32), rv b1, rv b27, .unset, .unset, .unset, .unset] [(.ref el15), (.ref b27)])) (argsL := [(.ref el15)]) (rest := []) (W := 0) rfl rfl (hb hby at_93) (by rw [hml]; rfl) (by show 2 * 0 + _ ≤ _; exact Nat.le_of_eq rfl) rfl (by decide) (by decide) (by decide) (by decide) (by decide)
    have N133 := Fr.app Np126 Nq132
    refine own_t T132 (mkF m 96 #[iv fa, iv p2, iv p3, iv (3 : Int32), rv b1, rv b27, .unset, .unset, .unset, .unset] [(.int (1 : Int32))]) st132 ?_
    refine own_g T132 (mkF m 112 #[iv fa, iv p2, iv p3, iv (3 : Int32), rv b1, rv b27, .unset, .unset, .unset, .unset] []) (fun _ kq => XS.pop X132.here hx rfl (hb hby at_96) rfl rfl (XS.iloadN X132.here hx rfl (hb hby at_97) rfl (XS.iconst X132.here hx rfl (hb hby at_98) (XS.icmpYes X132.here hx rfl (pc0 := 99) (pc' := 112) rfl (hb hby at_99) rfl (tlt ((by decide) : (3 : Int32) < (4 : Int32))).1 (by decide) (by decide) kq)))) ?_
    obtain ⟨T134, h134, X134, e134, E134, A134, D134, -, st134⟩ := newO X132 hx hZ hown (own_W67 hw) (own_W68 hw) (own_W69 hw) rfl (g := (mkF m 112 #[iv fa, iv p2, iv p3, iv (3 : Int32), rv b1, rv b27, .unset, .unset, .unset, .unset] [])) rfl (hb hby at_112) (by decide) (by decide)
    obtain ⟨b134, g134⟩ : ∃ z, z = T132.heap.size := ⟨_, rfl⟩
    rw [← g134] at A134 D134 st134
    have f135 := (f127.keep Kc132 (ninS ne_b1_b27 (ninS ne_b1_r38 nin0)))
    have ne_b1_b134 : b1 ≠ b134 := Nat.ne_of_lt (Nat.lt_of_lt_of_le f135.lt (Nat.le_of_eq g134.symm))
    have O136 := (O130.keep Kc132 (allS g_b27 (allS gr38 all0)))
    have ne_el3_b134 : el3 ≠ b134 := Nat.ne_of_lt (Nat.lt_of_lt_of_le (D3.1.ext O136.2).lt (Nat.le_of_eq g134.symm))
    have ne_el9_b134 : el9 ≠ b134 := Nat.ne_of_lt (Nat.lt_of_lt_of_le (D9.1.ext O136.2).lt (Nat.le_of_eq g134.symm))
    have ne_el15_b134 : el15 ≠ b134 := Nat.ne_of_lt (Nat.lt_of_lt_of_le (D15.1.ext O136.2).lt (Nat.le_of_eq g134.symm))
    have ne_el22_b134 : el22 ≠ b134 := Nat.ne_of_lt (Nat.lt_of_lt_of_le (D22.1.ext O136.2).lt (Nat.le_of_eq g134.symm))
    have f137 := (f131.keep Kc132)
    have ne_b27_b134 : b27 ≠ b134 := Nat.ne_of_lt (Nat.lt_of_lt_of_le f137.lt (Nat.le_of_eq g134.symm))
    have ne_r38_b134 : r38 ≠ b134 := Nat.ne_of_lt (Nat.lt_of_lt_of_le Ar132.lt (Nat.le_of_eq g134.symm))
    have g_b134 : n0 ≤ b134 := Nat.le_trans (own_old O136) (Nat.le_of_eq g134.symm)
    have K138 : Keep h0 _ [] := (((K39.trans Kc38 (allS (Or.inr sz_b27) all0)).trans Kc124 (allS (Or.inr sz_b27) (allS (Or.inr sz_r38) all0))).trans Kc132 (allS (Or.inr sz_b27) (allS (Or.inr sz_r38) all0)))
    have sz_b134 : h0.size ≤ b134 := Nat.le_trans K138.1 (Nat.le_of_eq g134.symm)
    have F_name_b134 : Fld Z h134 b134 "com/example/restoria/restoria/mortality/MortalityTable" "name" "Ljava/lang/String;" .null := D134 (Or.inr (own_W278 hw)) (ty := (.object "java/lang/String")) (by decide)
    have F_firstAge_b134 : Fld Z h134 b134 "com/example/restoria/restoria/mortality/MortalityTable" "firstAge" "I" (.int (0 : Int32)) := D134 (Or.inr (own_W280 hw)) (ty := .int) (by decide)
    have F_rates_b134 : Fld Z h134 b134 "com/example/restoria/restoria/mortality/MortalityTable" "rates" "Ljava/util/List;" .null := D134 (Or.inr (own_W282 hw)) (ty := (.object "java/util/List")) (by decide)
    refine own_g T134 (mkF m 115 #[iv fa, iv p2, iv p3, iv (3 : Int32), rv b1, rv b27, .unset, .unset, .unset, .unset] [(.ref b134)]) st134 ?_
    refine own_g T134 (mkF m 116 #[iv fa, iv p2, iv p3, iv (3 : Int32), rv b1, rv b27, .unset, .unset, .unset, .unset] [(.ref b134), (.ref b134)]) (fun _ kq => XS.dup X134.here hx rfl (hb hby at_115) rfl rfl kq) ?_
    obtain ⟨sa, T139, h139, kk139, bv, kb, X139, e139, E139, hS139, hk139, hZ139, hown139, Es, Fc, Fv, Av, -, -, -, -, -, st139⟩ := ldcSVd (vs := [.int (84 : Int32)]) (z := (1 : Int32)) (Ts := []) X134 hx hZ hown (own_W70 hw) (own_strs hw) e134 hS0 (Nat.le_trans (Nat.le_trans (Nat.le_trans (Nat.le_trans (Nat.le_trans (Nat.le_trans (Nat.le_trans (Nat.le_trans (Nat.le_trans (Nat.le_trans (Nat.le_trans (Nat.le_refl _) E1.1) (Nat.le_of_eq W6.size.symm)) (Nat.le_of_eq W12.size.symm)) (Nat.le_of_eq W18.size.symm)) (Nat.le_of_eq W25.size.symm)) E27.1) Kc31.1) Kc38.1) Kc124.1) Kc132.1) E134.1) (by rw [hh, hsz]; exact N133) (fun b cl q => by rw [hh]; exact O0.2.2 b cl q) (hvm ▸ IB.start) (by decide) hcon hcw ⟨by decide, by decide⟩ (by decide) rfl (g := (mkF m 116 #[iv fa, iv p2, iv p3, iv (3 : Int32), rv b1, rv b27, .unset, .unset, .unset, .unset] [(.ref b134), (.ref b134)])) rfl (hb hby at_116) (n := 4) (by decide) (by decide) (by decide) (by decide)
    refine own_g T139 (mkF m 118 #[iv fa, iv p2, iv p3, iv (3 : Int32), rv b1, rv b27, .unset, .unset, .unset, .unset] [(.ref sa), (.ref b134), (.ref b134)]) st139 ?_
    refine own_g T139 (mkF m 121 #[iv fa, iv p2, iv p3, iv (3 : Int32), rv b1, rv b27, .unset, .unset, .unset, .unset] [(.ref b27), (.int fa), (.ref sa), (.ref b134), (.ref b134)]) (fun _ kq => XS.iloadN X139.here hx rfl (hb hby at_118) rfl (XS.aload X139.here hx rfl (hb hby at_119) rfl rfl kq)) ?_
    have O140 := ((O136.ext E134).ext E139)
    have f141 := (A134.ext E139)
    have f142 := (F_name_b134.ext E139)
    have f143 := (F_firstAge_b134.ext E139)
    have f144 := (F_rates_b134.ext E139)
    have f145 := ((f137.ext E134).ext E139)
    have f146 := ((Fb132.ext E134).ext E139)
    have f147 := ((Fc132.ext E134).ext E139)
    have f148 := ((Ar132.ext E134).ext E139)
    have f149 := ((Er132.ext E134).ext E139)
    obtain ⟨_, T150, L150, X150, ⟨r150, ar150, ka150, rfl, Nq150, Kc150, gr150, szr150, Fg150, Fr150, La150, Lb150, Lc_150⟩, st150⟩ := own_cI X139 hx hZ139 hown139 (own_W78 hw) (own_W79 hw) (own_W69 hw) (own_W80 hw) (rmmti3 l Z a0 hw [] b134 b27 r38 mr we w1 kr38 fa sa bv kb cs wi wa cla el3 el9 el15 h139 n0 O140 f141 f142 f143 f144 g_b134 Es Fc Fv Av Scs hcs Sin Ein Sa Ara hina hata f145 f146 f147 f148 f149 Mr Sem S1 Fi1 Fz1 D3 D9 D15) e139 (lenOf pd_Ljava_lang_String_ILjava_util_List__V_450 rfl) (g := (mkF m 121 #[iv fa, iv p2, iv p3, iv (3 : Int32), rv b1, rv b27, .unset, .unset, .unset, .unset] [(.ref b27), (.int fa), (.ref sa), (.ref b134), (.ref b134)])) (argsL := [(.ref sa), (.int fa), (.ref b27)]) (rest := [(.ref b134)]) (W := 1) rfl rfl (hb hby at_121) (by rw [hml]; rfl) (by show 2 * 0 + _ ≤ _; exact Nat.le_of_eq rfl) rfl rfl (by decide) (by decide) (by decide) (by decide) (by decide)
    have N151 := Fr.app N133 Nq150
    refine own_t T150 (mkF m 124 #[iv fa, iv p2, iv p3, iv (3 : Int32), rv b1, rv b27, .unset, .unset, .unset, .unset] [(.ref b134)]) st150 ?_
    refine own_g T150 (mkF m 128 #[iv fa, iv p2, iv p3, iv (3 : Int32), rv b1, rv b27, rv b134, .unset, .unset, .unset] [(.ref b134)]) (fun _ kq => XS.astore X150.here hx rfl (hb hby at_124) rfl rfl (l' := #[iv fa, iv p2, iv p3, iv (3 : Int32), rv b1, rv b27, rv b134, .unset, .unset, .unset]) rfl (XS.aload X150.here hx rfl (hb hby at_126) rfl rfl kq)) ?_
    have O152 := (O140.keep Kc150 (allS g_b134 all0))
    have f153 := (f141.keep Kc150)
    obtain ⟨_, T154, L154, X154, ⟨rfl, Nq154, hh154⟩, st154⟩ := own_cV X150 hx hZ139 hown139 (own_W283 hw) (own_W284 hw) (own_W286 hw) (own_W285 hw) (own_W69 hw) (own_W287 hw) (rmlast3 l Z a0 hw [] b134 fa r150 ar150 we ka150 el3 el9 el15 T150.heap n0 O152 f153 Fg150 Fr150 La150 Lb150 Lc_150 Sem Eem D3.1 D9.1 D15.1) rfl f153 (lenOf pd_I_154 rfl) (g := (mkF m 128 #[iv fa, iv p2, iv p3, iv (3 : Int32), rv b1, rv b27, rv b134, .unset, .unset, .unset] [(.ref b134)])) (argsL := []) (rest := []) (W := 0) rfl rfl (hb hby at_128) (by rw [hml]; rfl) (by show 2 * 0 + _ ≤ _; exact Nat.le_of_eq rfl) rfl (by decide) (by decide) (by decide) (by decide) (by decide)
    have N155 := Fr.app N151 Nq154
    refine own_t T154 (mkF m 131 #[iv fa, iv p2, iv p3, iv (3 : Int32), rv b1, rv b27, rv b134, .unset, .unset, .unset] [(.int ((fa + (3 : Int32)) - (1 : Int32)))]) st154 ?_
    rw [own_last3 fa]
    refine own_g T154 (mkF m 158 #[iv fa, iv p2, iv p3, iv (3 : Int32), rv b1, rv b27, rv b134, iv (fa + (2 : Int32)), .unset, .unset] [(.int (3 : Int32))]) (fun _ kq => XS.istore X154.here hx rfl (hb hby at_131) rfl (l' := #[iv fa, iv p2, iv p3, iv (3 : Int32), rv b1, rv b27, rv b134, iv (fa + (2 : Int32)), .unset, .unset]) rfl (XS.iloadN X154.here hx rfl (hb hby at_133) rfl (XS.iconst X154.here hx rfl (hb hby at_134) (XS.icmpYes X154.here hx rfl (pc0 := 135) (pc' := 144) rfl (hb hby at_135) rfl (feq ((by decide) : ¬ ((3 : Int32) = (1 : Int32)))).2 (by decide) (by decide) (XS.iloadN X154.here hx rfl (hb hby at_144) rfl (XS.iconst X154.here hx rfl (hb hby at_145) (XS.icmpYes X154.here hx rfl (pc0 := 146) (pc' := 157) rfl (hb hby at_146) rfl (feq ((by decide) : ¬ ((3 : Int32) = (2 : Int32)))).2 (by decide) (by decide) (XS.iloadN X154.here hx rfl (hb hby at_157) rfl kq)))))))) ?_
    refine own_g T154 (mkF m 177 #[iv fa, iv p2, iv p3, iv (3 : Int32), rv b1, rv b27, rv b134, iv (fa + (2 : Int32)), iv (fa + (2 : Int32)), .unset] [(.int (fa + (2 : Int32)))]) (fun _ kq => XS.iconst X154.here hx rfl (hb hby at_158) (XS.icmpNo X154.here hx rfl (hb hby at_159) rfl (teq ((by decide) : (3 : Int32) = (3 : Int32))).2 (XS.iloadN X154.here hx rfl (hb hby at_162) rfl (XS.iconst X154.here hx rfl (hb hby at_163) (XS.iadd X154.here hx rfl (hb hby at_164) rfl (XS.istore X154.here hx rfl (hb hby at_165) rfl (l' := #[iv fa, iv p2, iv p3, iv (3 : Int32), rv b1, rv b27, rv b134, iv (fa + (2 : Int32)), iv (fa + (2 : Int32)), .unset]) rfl (XS.goto X154.here hx rfl (pc0 := 167) (pc' := 175) rfl (hb hby at_167) (by decide) (by decide) (XS.iload X154.here hx rfl (hb hby at_175) rfl kq)))))))) ?_
    refine own_g T154 (mkF m 195 #[iv fa, iv p2, iv p3, iv (3 : Int32), rv b1, rv b27, rv b134, iv (fa + (2 : Int32)), iv (fa + (2 : Int32)), iv (1 : Int32)] [(.int fa)]) (fun _ kq => XS.iload X154.here hx rfl (hb hby at_177) rfl (XS.icmpNo X154.here hx rfl (hb hby at_179) rfl (teq (rfl : (fa + (2 : Int32)) = (fa + (2 : Int32)))).2 (XS.iconst X154.here hx rfl (hb hby at_182) (XS.goto X154.here hx rfl (pc0 := 183) (pc' := 187) rfl (hb hby at_183) (by decide) (by decide) (XS.istore X154.here hx rfl (hb hby at_187) rfl (l' := #[iv fa, iv p2, iv p3, iv (3 : Int32), rv b1, rv b27, rv b134, iv (fa + (2 : Int32)), iv (fa + (2 : Int32)), iv (1 : Int32)]) rfl (XS.iload X154.here hx rfl (hb hby at_189) rfl (XS.ifNo X154.here hx rfl (hb hby at_191) rfl ((if0 _ _).trans (feq ((by decide) : ¬ ((1 : Int32) = (0 : Int32)))).1) (XS.iloadN X154.here hx rfl (hb hby at_194) rfl kq)))))))) ?_
    refine own_g T154 (mkF m 197 #[iv fa, iv p2, iv p3, iv (3 : Int32), rv b1, rv b27, rv b134, iv (fa + (2 : Int32)), iv (fa + (2 : Int32)), iv (1 : Int32)] [(.int (2147483643 : Int32)), (.int fa)]) (X154.ldcInt hx hown139 (mvT hZ139 (own_W294 hw)) (g := (mkF m 195 #[iv fa, iv p2, iv p3, iv (3 : Int32), rv b1, rv b27, rv b134, iv (fa + (2 : Int32)), iv (fa + (2 : Int32)), iv (1 : Int32)] [(.int fa)])) rfl (hb hby at_195)) ?_
    by_cases hbig : (2147483643 : Int32) < fa
    · refine own_g T154 (mkF m 277 #[iv fa, iv p2, iv p3, iv (3 : Int32), rv b1, rv b27, rv b134, iv (fa + (2 : Int32)), iv (fa + (2 : Int32)), iv (1 : Int32)] [(.int (1 : Int32))]) (fun _ kq => XS.icmpYes X154.here hx rfl (pc0 := 197) (pc' := 275) rfl (hb hby at_197) rfl (tlt (hbig : (2147483643 : Int32) < fa)).2.2.1 (by decide) (by decide) (XS.iload X154.here hx rfl (hb hby at_275) rfl kq)) ?_
      refine own_outW X154 hS139 (by rw [hh154]; exact (Nat.le_trans hk139 Kc150.1)) Bd.notSynchronized (v := (some (.int (1 : Int32)))) (fun h => by rw [Bd.returns] at h; cases h) (fun fs hr => retN X154 hx (t := .boolean) Bd.returns (by simp) (hb hby at_277) hr) ?_ (by decide) (by decide)
      rw [hh154]
      exact ⟨rfl, N155⟩
    · refine own_g T154 (mkF m 203 #[iv fa, iv p2, iv p3, iv (3 : Int32), rv b1, rv b27, rv b134, iv (fa + (2 : Int32)), iv (fa + (2 : Int32)), iv (1 : Int32)] [(.int fa), (.ref b134)]) (fun _ kq => XS.icmpNo X154.here hx rfl (hb hby at_197) rfl (flt (hbig : ¬ ((2147483643 : Int32) < fa))).2.2.1 (XS.aload X154.here hx rfl (hb hby at_200) rfl rfl (XS.iloadN X154.here hx rfl (hb hby at_202) rfl kq))) ?_
      obtain ⟨uq1, uq2, uq3, uq4⟩ := own_rd fa (3 : Int32) (0 : Int32) fa hbig (by decide) (by decide) (Int32.add_zero fa).symm
      obtain ⟨_, T156, L156, X156, ⟨rfl, Nq156, hh156⟩, st156⟩ := own_cV X154 hx hZ139 hown139 (own_W295 hw) (own_W296 hw) (own_W298 hw) (own_W297 hw) (own_W69 hw) (own_W299 hw) (rmrod30 l Z a0 hw [] b134 fa r150 ar150 we ka150 el3 el9 el15 fa T150.heap n0 O152 f153 Fg150 Fr150 La150 Lb150 Lc_150 Sem Eem D3.1 D9.1 D15.1 uq1 uq2 uq3 uq4) hh154 f153 (lenOf pd_I_Ljava_math_BigDecimal_194 rfl) (g := (mkF m 203 #[iv fa, iv p2, iv p3, iv (3 : Int32), rv b1, rv b27, rv b134, iv (fa + (2 : Int32)), iv (fa + (2 : Int32)), iv (1 : Int32)] [(.int fa), (.ref b134)])) (argsL := [(.int fa)]) (rest := []) (W := 0) rfl rfl (hb hby at_203) (by rw [hml]; rfl) (by show 2 * 0 + _ ≤ _; exact Nat.le_of_eq rfl) rfl (by decide) (by decide) (by decide) (by decide) (by decide)
      have N157 := Fr.app N155 Nq156
      refine own_t T156 (mkF m 206 #[iv fa, iv p2, iv p3, iv (3 : Int32), rv b1, rv b27, rv b134, iv (fa + (2 : Int32)), iv (fa + (2 : Int32)), iv (1 : Int32)] [(.ref el3)]) st156 ?_
      refine own_g T156 (mkF m 209 #[iv fa, iv p2, iv p3, iv (3 : Int32), rv b1, rv b27, rv b134, iv (fa + (2 : Int32)), iv (fa + (2 : Int32)), iv (1 : Int32)] [(.int (0 : Int32)), (.ref b1), (.ref el3)]) (fun _ kq => XS.aload X156.here hx rfl (hb hby at_206) rfl rfl (XS.iconst X156.here hx rfl (hb hby at_208) kq)) ?_
      have f158 := (((f135.ext E134).ext E139).keep Kc150 (ninS ne_b1_b134 nin0))
      obtain ⟨cl159, Ar159, q159, S159, Nn159, H159, G159⟩ := id f158
      have hin160 : ¬ ((0 : Int32) < 0 ∨ cl159.slots.size ≤ ((0 : Int32)).toNatClampNeg) := inb_of S159 ⟨by decide, by decide⟩
      have hat160 : cl159.slots[((0 : Int32)).toNatClampNeg]? = some (.ref el3) := Has.at H159 hin160 rfl
      refine own_g T156 (mkF m 210 #[iv fa, iv p2, iv p3, iv (3 : Int32), rv b1, rv b27, rv b134, iv (fa + (2 : Int32)), iv (fa + (2 : Int32)), iv (1 : Int32)] [(.ref el3), (.ref el3)]) (X156.aaload hx (j := (0 : Int32)) (v := (.ref el3)) (by rw [hh156]; exact Ar159.1) (State.isArrayOf_alike hZ139.alike Ar159.2.1) rfl Ar159.2.2 hin160 hat160 (g := (mkF m 209 #[iv fa, iv p2, iv p3, iv (3 : Int32), rv b1, rv b27, rv b134, iv (fa + (2 : Int32)), iv (fa + (2 : Int32)), iv (1 : Int32)] [(.int (0 : Int32)), (.ref b1), (.ref el3)])) rfl rfl (hb hby at_209)) ?_
      refine own_g T156 (mkF m 229 #[iv fa, iv p2, iv p3, iv (3 : Int32), rv b1, rv b27, rv b134, iv (fa + (2 : Int32)), iv (fa + (2 : Int32)), iv (1 : Int32)] [(.int (fa + (2 : Int32))), (.ref b134)]) (fun _ kq => Jvm.RoadKit.acmp (g := (mkF m 210 #[iv fa, iv p2, iv p3, iv (3 : Int32), rv b1, rv b27, rv b134, iv (fa + (2 : Int32)), iv (fa + (2 : Int32)), iv (1 : Int32)] [(.ref el3), (.ref el3)])) X156 hx rfl rfl rfl (pc0 := 210) (pc' := 213) (same := true) rfl (hb hby at_210) rfl (decide_eq_true rfl) (by decide) (by decide) (XS.iconst X156.here hx rfl (hb hby at_213) (XS.goto X156.here hx rfl (pc0 := 214) (pc' := 218) rfl (hb hby at_214) (by decide) (by decide) (XS.istore X156.here hx rfl (hb hby at_218) rfl (l' := #[iv fa, iv p2, iv p3, iv (3 : Int32), rv b1, rv b27, rv b134, iv (fa + (2 : Int32)), iv (fa + (2 : Int32)), iv (1 : Int32)]) rfl (XS.iload X156.here hx rfl (hb hby at_220) rfl (XS.ifNo X156.here hx rfl (hb hby at_222) rfl ((if0 _ _).trans (feq ((by decide) : ¬ ((1 : Int32) = (0 : Int32)))).1) (XS.aload X156.here hx rfl (hb hby at_225) rfl rfl (XS.iload X156.here hx rfl (hb hby at_227) rfl kq)))))))) ?_
      obtain ⟨vq1, vq2, vq3, vq4⟩ := own_rd fa (3 : Int32) (2 : Int32) (fa + (2 : Int32)) hbig (by decide) (by decide) rfl
      obtain ⟨_, T161, L161, X161, ⟨rfl, Nq161, hh161⟩, st161⟩ := own_cV X156 hx hZ139 hown139 (own_W295 hw) (own_W296 hw) (own_W298 hw) (own_W297 hw) (own_W69 hw) (own_W299 hw) (rmrod32 l Z a0 hw [] b134 fa r150 ar150 we ka150 el3 el9 el15 (fa + (2 : Int32)) T150.heap n0 O152 f153 Fg150 Fr150 La150 Lb150 Lc_150 Sem Eem D3.1 D9.1 D15.1 vq1 vq2 vq3 vq4) hh156 f153 (lenOf pd_I_Ljava_math_BigDecimal_194 rfl) (g := (mkF m 229 #[iv fa, iv p2, iv p3, iv (3 : Int32), rv b1, rv b27, rv b134, iv (fa + (2 : Int32)), iv (fa + (2 : Int32)), iv (1 : Int32)] [(.int (fa + (2 : Int32))), (.ref b134)])) (argsL := [(.int (fa + (2 : Int32)))]) (rest := []) (W := 0) rfl rfl (hb hby at_229) (by rw [hml]; rfl) (by show 2 * 0 + _ ≤ _; exact Nat.le_of_eq rfl) rfl (by decide) (by decide) (by decide) (by decide) (by decide)
      have N162 := Fr.app N157 Nq161
      refine own_t T161 (mkF m 232 #[iv fa, iv p2, iv p3, iv (3 : Int32), rv b1, rv b27, rv b134, iv (fa + (2 : Int32)), iv (fa + (2 : Int32)), iv (1 : Int32)] [(.ref el15)]) st161 ?_
      obtain ⟨LL163, Xp163, Np163⟩ : ∃ LL, Stand p l e room_1 (s.setVm T139.vm) m #[(.int fa), (.int p2), (.int p3)] below meth c T161 LL 9 36 ∧ Fr n0 LL := ⟨_, X161, N162⟩
      refine own_g T161 (mkF m 237 #[iv fa, iv p2, iv p3, iv (3 : Int32), rv b1, rv b27, rv b134, iv (fa + (2 : Int32)), iv (fa + (2 : Int32)), iv (1 : Int32)] [(.int (2 : Int32)), (.ref b1), (.ref el15)]) (fun _ kq => XS.aload X161.here hx rfl (hb hby at_232) rfl rfl (XS.iloadN Xp163.here hx rfl (hb hby at_234) rfl (XS.iconst Xp163.here hx rfl (hb hby at_235) (XS.isub Xp163.here hx rfl (hb hby at_236) rfl kq)))) ?_
      obtain ⟨cl164, Ar164, q164, S164, Nn164, H164, G164⟩ := id f158
      have hin165 : ¬ ((2 : Int32) < 0 ∨ cl164.slots.size ≤ ((2 : Int32)).toNatClampNeg) := inb_of S164 ⟨by decide, by decide⟩
      have hat165 : cl164.slots[((2 : Int32)).toNatClampNeg]? = some (.ref el15) := Has.at H164 hin165 rfl
      refine own_g T161 (mkF m 238 #[iv fa, iv p2, iv p3, iv (3 : Int32), rv b1, rv b27, rv b134, iv (fa + (2 : Int32)), iv (fa + (2 : Int32)), iv (1 : Int32)] [(.ref el15), (.ref el15)]) (Xp163.aaload hx (j := (2 : Int32)) (v := (.ref el15)) (by rw [hh161]; exact Ar164.1) (State.isArrayOf_alike hZ139.alike Ar164.2.1) rfl Ar164.2.2 hin165 hat165 (g := (mkF m 237 #[iv fa, iv p2, iv p3, iv (3 : Int32), rv b1, rv b27, rv b134, iv (fa + (2 : Int32)), iv (fa + (2 : Int32)), iv (1 : Int32)] [(.int (2 : Int32)), (.ref b1), (.ref el15)])) rfl rfl (hb hby at_237)) ?_
      refine own_g T161 (mkF m 257 #[iv fa, iv p2, iv p3, iv (3 : Int32), rv b1, rv b27, rv b134, iv (fa + (2 : Int32)), iv (fa + (2 : Int32)), iv (1 : Int32)] [(.int (fa + (2 : Int32))), (.ref b134)]) (fun _ kq => Jvm.RoadKit.acmp (g := (mkF m 238 #[iv fa, iv p2, iv p3, iv (3 : Int32), rv b1, rv b27, rv b134, iv (fa + (2 : Int32)), iv (fa + (2 : Int32)), iv (1 : Int32)] [(.ref el15), (.ref el15)])) Xp163 hx rfl rfl rfl (pc0 := 238) (pc' := 241) (same := true) rfl (hb hby at_238) rfl (decide_eq_true rfl) (by decide) (by decide) (XS.iconst Xp163.here hx rfl (hb hby at_241) (XS.goto Xp163.here hx rfl (pc0 := 242) (pc' := 246) rfl (hb hby at_242) (by decide) (by decide) (XS.istore Xp163.here hx rfl (hb hby at_246) rfl (l' := #[iv fa, iv p2, iv p3, iv (3 : Int32), rv b1, rv b27, rv b134, iv (fa + (2 : Int32)), iv (fa + (2 : Int32)), iv (1 : Int32)]) rfl (XS.iload Xp163.here hx rfl (hb hby at_248) rfl (XS.ifNo Xp163.here hx rfl (hb hby at_250) rfl ((if0 _ _).trans (feq ((by decide) : ¬ ((1 : Int32) = (0 : Int32)))).1) (XS.aload Xp163.here hx rfl (hb hby at_253) rfl rfl (XS.iload Xp163.here hx rfl (hb hby at_255) rfl kq)))))))) ?_
      refine own_g T161 (mkF m 259 #[iv fa, iv p2, iv p3, iv (3 : Int32), rv b1, rv b27, rv b134, iv (fa + (2 : Int32)), iv (fa + (2 : Int32)), iv (1 : Int32)] [(.int ((fa + (2 : Int32)) + (1 : Int32))), (.ref b134)]) (fun _ kq => XS.iconst Xp163.here hx rfl (hb hby at_257) (XS.iadd Xp163.here hx rfl (hb hby at_258) rfl kq)) ?_
      have wq : ((fa + (2 : Int32)) + (1 : Int32)) = (((fa + (3 : Int32)) - (1 : Int32)) + (1 : Int32)) := by rw [own_last3 fa]
      obtain ⟨_, T166, L166, X166, ⟨rfl, Nq166, hh166⟩, st166⟩ := own_cV Xp163 hx hZ139 hown139 (own_W295 hw) (own_W296 hw) (own_W298 hw) (own_W297 hw) (own_W69 hw) (own_W299 hw) (rmrode3 l Z a0 hw [] b134 fa r150 ar150 we ka150 el3 el9 el15 ((fa + (2 : Int32)) + (1 : Int32)) w1 T150.heap n0 O152 f153 Fg150 Fr150 La150 Lb150 Lc_150 Sem Eem D3.1 D9.1 D15.1 S1 wq) hh161 f153 (lenOf pd_I_Ljava_math_BigDecimal_194 rfl) (g := (mkF m 259 #[iv fa, iv p2, iv p3, iv (3 : Int32), rv b1, rv b27, rv b134, iv (fa + (2 : Int32)), iv (fa + (2 : Int32)), iv (1 : Int32)] [(.int ((fa + (2 : Int32)) + (1 : Int32))), (.ref b134)])) (argsL := [(.int ((fa + (2 : Int32)) + (1 : Int32)))]) (rest := []) (W := 0) rfl rfl (hb hby at_259) (by rw [hml]; rfl) (by show 2 * 0 + _ ≤ _; exact Nat.le_of_eq rfl) rfl (by decide) (by decide) (by decide) (by decide) (by decide)
      have N167 := Fr.app Np163 Nq166
      refine own_t T166 (mkF m 262 #[iv fa, iv p2, iv p3, iv (3 : Int32), rv b1, rv b27, rv b134, iv (fa + (2 : Int32)), iv (fa + (2 : Int32)), iv (1 : Int32)] [(.ref w1)]) st166 ?_
      obtain ⟨T168, X168, e168, st168⟩ := getS2 X166 hx hZ139 hown139 (host := "") (Or.inl (own_W9 hw)) Via.refl hh166 (S1.ext O152.2) (g := (mkF m 262 #[iv fa, iv p2, iv p3, iv (3 : Int32), rv b1, rv b27, rv b134, iv (fa + (2 : Int32)), iv (fa + (2 : Int32)), iv (1 : Int32)] [(.ref w1)])) rfl (hb hby at_262)
      refine own_g T168 (mkF m 265 #[iv fa, iv p2, iv p3, iv (3 : Int32), rv b1, rv b27, rv b134, iv (fa + (2 : Int32)), iv (fa + (2 : Int32)), iv (1 : Int32)] [(.ref w1), (.ref w1)]) st168 ?_
      refine own_g T168 (mkF m 277 #[iv fa, iv p2, iv p3, iv (3 : Int32), rv b1, rv b27, rv b134, iv (fa + (2 : Int32)), iv (fa + (2 : Int32)), iv (1 : Int32)] [(.int (1 : Int32))]) (fun _ kq => Jvm.RoadKit.acmp (g := (mkF m 265 #[iv fa, iv p2, iv p3, iv (3 : Int32), rv b1, rv b27, rv b134, iv (fa + (2 : Int32)), iv (fa + (2 : Int32)), iv (1 : Int32)] [(.ref w1), (.ref w1)])) X168 hx rfl rfl rfl (pc0 := 265) (pc' := 268) (same := true) rfl (hb hby at_265) rfl (decide_eq_true rfl) (by decide) (by decide) (XS.iconst X168.here hx rfl (hb hby at_268) (XS.goto X168.here hx rfl (pc0 := 269) (pc' := 273) rfl (hb hby at_269) (by decide) (by decide) (XS.istore X168.here hx rfl (hb hby at_273) rfl (l' := #[iv fa, iv p2, iv p3, iv (3 : Int32), rv b1, rv b27, rv b134, iv (fa + (2 : Int32)), iv (fa + (2 : Int32)), iv (1 : Int32)]) rfl (XS.iload X168.here hx rfl (hb hby at_275) rfl kq))))) ?_
      refine own_outW X168 hS139 (by rw [e168]; exact (Nat.le_trans hk139 Kc150.1)) Bd.notSynchronized (v := (some (.int (1 : Int32)))) (fun h => by rw [Bd.returns] at h; cases h) (fun fs hr => retN X168 hx (t := .boolean) Bd.returns (by simp) (hb hby at_277) hr) ?_ (by decide) (by decide)
      rw [e168]
      exact ⟨rfl, N167⟩
  · refine own_g T38 (mkF m 77 #[iv fa, iv p2, iv p3, iv (4 : Int32), rv b1, rv b27, .unset, .unset, .unset, .unset] [(.int (1 : Int32)), (.ref b1), (.ref b27)]) (fun _ kq => XS.iloadN X38.here hx rfl (hb hby at_67) rfl (XS.iconst X38.here hx rfl (hb hby at_68) (XS.icmpNo X38.here hx rfl (hb hby at_69) rfl (flt ((by decide) : ¬ ((4 : Int32) < (2 : Int32)))).1 (XS.aload X38.here hx rfl (hb hby at_72) rfl rfl (XS.aload X38.here hx rfl (hb hby at_74) rfl rfl (XS.iconst X38.here hx rfl (hb hby at_76) kq)))))) ?_
    have f169 := (f33.keep Kc38 (ninS ne_b1_b27 nin0))
    obtain ⟨cl170, Ar170, q170, S170, Nn170, H170, G170⟩ := id f169
    have hin171 : ¬ ((1 : Int32) < 0 ∨ cl170.slots.size ≤ ((1 : Int32)).toNatClampNeg) := inb_of S170 ⟨by decide, by decide⟩
    have hat171 : cl170.slots[((1 : Int32)).toNatClampNeg]? = some (.ref el9) := Has.at H170 hin171 rfl
    refine own_g T38 (mkF m 78 #[iv fa, iv p2, iv p3, iv (4 : Int32), rv b1, rv b27, .unset, .unset, .unset, .unset] [(.ref el9), (.ref b27)]) (X38.aaload hx (j := (1 : Int32)) (v := (.ref el9)) (Ar170.1) (State.isArrayOf_alike hZ.alike Ar170.2.1) rfl Ar170.2.2 hin171 hat171 (g := (mkF m 77 #[iv fa, iv p2, iv p3, iv (4 : Int32), rv b1, rv b27, .unset, .unset, .unset, .unset] [(.int (1 : Int32)), (.ref b1), (.ref b27)])) rfl rfl (hb hby at_77)) ?_
    have O172 := (O36.keep Kc38 (allS g_b27 all0))
    have f173 := (f37.keep Kc38)
    obtain ⟨_, T174, L174, X174, ⟨rfl, Nq174, Kc174, Fa174, Fb174, Fc174, Ar174, Er174⟩, st174⟩ := own_cV X38 hx hZ hown (own_W36 hw) (own_W37 hw) (own_W39 hw) (own_W38 hw) (own_W12 hw) (own_W40 hw) (rmadda1 l Z a0 hw [] b27 r38 kr38 el3 el9 T38.heap n0 O172 f173 Fa38 Fb38 Fc38 g_b27 Ar38 Er38 Or38 gr38 ne_b27_r38 D9.1) rfl f173 (lenOf pd_Ljava_lang_Object__Z_838 rfl) (g := (mkF m 78 #[iv fa, iv p2, iv p3, iv (4 : Int32), rv b1, rv b27, .unset, .unset, .unset, .unset] [(.ref el9), (.ref b27)])) (argsL := [(.ref el9)]) (rest := []) (W := 0) rfl rfl (hb hby at_78) (by rw [hml]; rfl) (by show 2 * 0 + _ ≤ _; exact Nat.le_of_eq rfl) rfl (by decide) (by decide) (by decide) (by decide) (by decide)
    have N175 := Fr.app N40 Nq174
    refine own_t T174 (mkF m 81 #[iv fa, iv p2, iv p3, iv (4 : Int32), rv b1, rv b27, .unset, .unset, .unset, .unset] [(.int (1 : Int32))]) st174 ?_
    obtain ⟨LL176, Xp176, Np176⟩ : ∃ LL, Stand p l e room_1 (s.setVm s.vm) m #[(.int fa), (.int p2), (.int p3)] below meth c T174 LL 3 17 ∧ Fr n0 LL := ⟨_, X174, N175⟩
    refine own_g T174 (mkF m 92 #[iv fa, iv p2, iv p3, iv (4 : Int32), rv b1, rv b27, .unset, .unset, .unset, .unset] [(.int (2 : Int32)), (.ref b1), (.ref b27)]) (fun _ kq => XS.pop X174.here hx rfl (hb hby at_81) rfl rfl (XS.iloadN Xp176.here hx rfl (hb hby at_82) rfl (XS.iconst Xp176.here hx rfl (hb hby at_83) (XS.icmpNo Xp176.here hx rfl (hb hby at_84) rfl (flt ((by decide) : ¬ ((4 : Int32) < (3 : Int32)))).1 (XS.aload Xp176.here hx rfl (hb hby at_87) rfl rfl (XS.aload Xp176.here hx rfl (hb hby at_89) rfl rfl (XS.iconst Xp176.here hx rfl (hb hby at_91) kq))))))) ?_
    have f177 := (f169.keep Kc174 (ninS ne_b1_b27 (ninS ne_b1_r38 nin0)))
    obtain ⟨cl178, Ar178, q178, S178, Nn178, H178, G178⟩ := id f177
    have hin179 : ¬ ((2 : Int32) < 0 ∨ cl178.slots.size ≤ ((2 : Int32)).toNatClampNeg) := inb_of S178 ⟨by decide, by decide⟩
    have hat179 : cl178.slots[((2 : Int32)).toNatClampNeg]? = some (.ref el15) := Has.at H178 hin179 rfl
    refine own_g T174 (mkF m 93 #[iv fa, iv p2, iv p3, iv (4 : Int32), rv b1, rv b27, .unset, .unset, .unset, .unset] [(.ref el15), (.ref b27)]) (Xp176.aaload hx (j := (2 : Int32)) (v := (.ref el15)) (Ar178.1) (State.isArrayOf_alike hZ.alike Ar178.2.1) rfl Ar178.2.2 hin179 hat179 (g := (mkF m 92 #[iv fa, iv p2, iv p3, iv (4 : Int32), rv b1, rv b27, .unset, .unset, .unset, .unset] [(.int (2 : Int32)), (.ref b1), (.ref b27)])) rfl rfl (hb hby at_92)) ?_
    have O180 := (O172.keep Kc174 (allS g_b27 (allS gr38 all0)))
    have f181 := (f173.keep Kc174)
    obtain ⟨_, T182, L182, X182, ⟨rfl, Nq182, Kc182, Fa182, Fb182, Fc182, Ar182, Er182⟩, st182⟩ := own_cV Xp176 hx hZ hown (own_W36 hw) (own_W37 hw) (own_W39 hw) (own_W38 hw) (own_W12 hw) (own_W40 hw) (rmadda2 l Z a0 hw [] b27 r38 kr38 el3 el9 el15 T174.heap n0 O180 f181 Fa174 Fb174 Fc174 g_b27 Ar174 Er174 Or38 gr38 ne_b27_r38 D15.1) rfl f181 (lenOf pd_Ljava_lang_Object__Z_838 rfl) (g := (mkF m 93 #[iv fa, iv p2, iv p3, iv (4 : Int32), rv b1, rv b27, .unset, .unset, .unset, .unset] [(.ref el15), (.ref b27)])) (argsL := [(.ref el15)]) (rest := []) (W := 0) rfl rfl (hb hby at_93) (by rw [hml]; rfl) (by show 2 * 0 + _ ≤ _; exact Nat.le_of_eq rfl) rfl (by decide) (by decide) (by decide) (by decide) (by decide)
    have N183 := Fr.app Np176 Nq182
    refine own_t T182 (mkF m 96 #[iv fa, iv p2, iv p3, iv (4 : Int32), rv b1, rv b27, .unset, .unset, .unset, .unset] [(.int (1 : Int32))]) st182 ?_
    refine own_g T182 (mkF m 107 #[iv fa, iv p2, iv p3, iv (4 : Int32), rv b1, rv b27, .unset, .unset, .unset, .unset] [(.int (3 : Int32)), (.ref b1), (.ref b27)]) (fun _ kq => XS.pop X182.here hx rfl (hb hby at_96) rfl rfl (XS.iloadN X182.here hx rfl (hb hby at_97) rfl (XS.iconst X182.here hx rfl (hb hby at_98) (XS.icmpNo X182.here hx rfl (hb hby at_99) rfl (flt ((by decide) : ¬ ((4 : Int32) < (4 : Int32)))).1 (XS.aload X182.here hx rfl (hb hby at_102) rfl rfl (XS.aload X182.here hx rfl (hb hby at_104) rfl rfl (XS.iconst X182.here hx rfl (hb hby at_106) kq))))))) ?_
    have f184 := (f177.keep Kc182 (ninS ne_b1_b27 (ninS ne_b1_r38 nin0)))
    obtain ⟨cl185, Ar185, q185, S185, Nn185, H185, G185⟩ := id f184
    have hin186 : ¬ ((3 : Int32) < 0 ∨ cl185.slots.size ≤ ((3 : Int32)).toNatClampNeg) := inb_of S185 ⟨by decide, by decide⟩
    have hat186 : cl185.slots[((3 : Int32)).toNatClampNeg]? = some (.ref el22) := Has.at H185 hin186 rfl
    refine own_g T182 (mkF m 108 #[iv fa, iv p2, iv p3, iv (4 : Int32), rv b1, rv b27, .unset, .unset, .unset, .unset] [(.ref el22), (.ref b27)]) (X182.aaload hx (j := (3 : Int32)) (v := (.ref el22)) (Ar185.1) (State.isArrayOf_alike hZ.alike Ar185.2.1) rfl Ar185.2.2 hin186 hat186 (g := (mkF m 107 #[iv fa, iv p2, iv p3, iv (4 : Int32), rv b1, rv b27, .unset, .unset, .unset, .unset] [(.int (3 : Int32)), (.ref b1), (.ref b27)])) rfl rfl (hb hby at_107)) ?_
    have O187 := (O180.keep Kc182 (allS g_b27 (allS gr38 all0)))
    have f188 := (f181.keep Kc182)
    obtain ⟨_, T189, L189, X189, ⟨rfl, Nq189, Kc189, Fa189, Fb189, Fc189, Ar189, Er189⟩, st189⟩ := own_cV X182 hx hZ hown (own_W36 hw) (own_W37 hw) (own_W39 hw) (own_W38 hw) (own_W12 hw) (own_W40 hw) (rmadda3 l Z a0 hw [] b27 r38 kr38 el3 el9 el15 el22 T182.heap n0 O187 f188 Fa182 Fb182 Fc182 g_b27 Ar182 Er182 Or38 gr38 ne_b27_r38 D22.1) rfl f188 (lenOf pd_Ljava_lang_Object__Z_838 rfl) (g := (mkF m 108 #[iv fa, iv p2, iv p3, iv (4 : Int32), rv b1, rv b27, .unset, .unset, .unset, .unset] [(.ref el22), (.ref b27)])) (argsL := [(.ref el22)]) (rest := []) (W := 0) rfl rfl (hb hby at_108) (by rw [hml]; rfl) (by show 2 * 0 + _ ≤ _; exact Nat.le_of_eq rfl) rfl (by decide) (by decide) (by decide) (by decide) (by decide)
    have N190 := Fr.app N183 Nq189
    refine own_t T189 (mkF m 111 #[iv fa, iv p2, iv p3, iv (4 : Int32), rv b1, rv b27, .unset, .unset, .unset, .unset] [(.int (1 : Int32))]) st189 ?_
    refine own_g T189 (mkF m 112 #[iv fa, iv p2, iv p3, iv (4 : Int32), rv b1, rv b27, .unset, .unset, .unset, .unset] []) (fun _ kq => XS.pop X189.here hx rfl (hb hby at_111) rfl rfl kq) ?_
    obtain ⟨T191, h191, X191, e191, E191, A191, D191, -, st191⟩ := newO X189 hx hZ hown (own_W67 hw) (own_W68 hw) (own_W69 hw) rfl (g := (mkF m 112 #[iv fa, iv p2, iv p3, iv (4 : Int32), rv b1, rv b27, .unset, .unset, .unset, .unset] [])) rfl (hb hby at_112) (by decide) (by decide)
    obtain ⟨b191, g191⟩ : ∃ z, z = T189.heap.size := ⟨_, rfl⟩
    rw [← g191] at A191 D191 st191
    have f192 := (f184.keep Kc189 (ninS ne_b1_b27 (ninS ne_b1_r38 nin0)))
    have ne_b1_b191 : b1 ≠ b191 := Nat.ne_of_lt (Nat.lt_of_lt_of_le f192.lt (Nat.le_of_eq g191.symm))
    have O193 := (O187.keep Kc189 (allS g_b27 (allS gr38 all0)))
    have ne_el3_b191 : el3 ≠ b191 := Nat.ne_of_lt (Nat.lt_of_lt_of_le (D3.1.ext O193.2).lt (Nat.le_of_eq g191.symm))
    have ne_el9_b191 : el9 ≠ b191 := Nat.ne_of_lt (Nat.lt_of_lt_of_le (D9.1.ext O193.2).lt (Nat.le_of_eq g191.symm))
    have ne_el15_b191 : el15 ≠ b191 := Nat.ne_of_lt (Nat.lt_of_lt_of_le (D15.1.ext O193.2).lt (Nat.le_of_eq g191.symm))
    have ne_el22_b191 : el22 ≠ b191 := Nat.ne_of_lt (Nat.lt_of_lt_of_le (D22.1.ext O193.2).lt (Nat.le_of_eq g191.symm))
    have f194 := (f188.keep Kc189)
    have ne_b27_b191 : b27 ≠ b191 := Nat.ne_of_lt (Nat.lt_of_lt_of_le f194.lt (Nat.le_of_eq g191.symm))
    have ne_r38_b191 : r38 ≠ b191 := Nat.ne_of_lt (Nat.lt_of_lt_of_le Ar189.lt (Nat.le_of_eq g191.symm))
    have g_b191 : n0 ≤ b191 := Nat.le_trans (own_old O193) (Nat.le_of_eq g191.symm)
    have K195 : Keep h0 _ [] := ((((K39.trans Kc38 (allS (Or.inr sz_b27) all0)).trans Kc174 (allS (Or.inr sz_b27) (allS (Or.inr sz_r38) all0))).trans Kc182 (allS (Or.inr sz_b27) (allS (Or.inr sz_r38) all0))).trans Kc189 (allS (Or.inr sz_b27) (allS (Or.inr sz_r38) all0)))
    have sz_b191 : h0.size ≤ b191 := Nat.le_trans K195.1 (Nat.le_of_eq g191.symm)
    have F_name_b191 : Fld Z h191 b191 "com/example/restoria/restoria/mortality/MortalityTable" "name" "Ljava/lang/String;" .null := D191 (Or.inr (own_W278 hw)) (ty := (.object "java/lang/String")) (by decide)
    have F_firstAge_b191 : Fld Z h191 b191 "com/example/restoria/restoria/mortality/MortalityTable" "firstAge" "I" (.int (0 : Int32)) := D191 (Or.inr (own_W280 hw)) (ty := .int) (by decide)
    have F_rates_b191 : Fld Z h191 b191 "com/example/restoria/restoria/mortality/MortalityTable" "rates" "Ljava/util/List;" .null := D191 (Or.inr (own_W282 hw)) (ty := (.object "java/util/List")) (by decide)
    refine own_g T191 (mkF m 115 #[iv fa, iv p2, iv p3, iv (4 : Int32), rv b1, rv b27, .unset, .unset, .unset, .unset] [(.ref b191)]) st191 ?_
    refine own_g T191 (mkF m 116 #[iv fa, iv p2, iv p3, iv (4 : Int32), rv b1, rv b27, .unset, .unset, .unset, .unset] [(.ref b191), (.ref b191)]) (fun _ kq => XS.dup X191.here hx rfl (hb hby at_115) rfl rfl kq) ?_
    obtain ⟨sa, T196, h196, kk196, bv, kb, X196, e196, E196, hS196, hk196, hZ196, hown196, Es, Fc, Fv, Av, -, -, -, -, -, st196⟩ := ldcSVd (vs := [.int (84 : Int32)]) (z := (1 : Int32)) (Ts := []) X191 hx hZ hown (own_W70 hw) (own_strs hw) e191 hS0 (Nat.le_trans (Nat.le_trans (Nat.le_trans (Nat.le_trans (Nat.le_trans (Nat.le_trans (Nat.le_trans (Nat.le_trans (Nat.le_trans (Nat.le_trans (Nat.le_trans (Nat.le_trans (Nat.le_refl _) E1.1) (Nat.le_of_eq W6.size.symm)) (Nat.le_of_eq W12.size.symm)) (Nat.le_of_eq W18.size.symm)) (Nat.le_of_eq W25.size.symm)) E27.1) Kc31.1) Kc38.1) Kc174.1) Kc182.1) Kc189.1) E191.1) (by rw [hh, hsz]; exact N190) (fun b cl q => by rw [hh]; exact O0.2.2 b cl q) (hvm ▸ IB.start) (by decide) hcon hcw ⟨by decide, by decide⟩ (by decide) rfl (g := (mkF m 116 #[iv fa, iv p2, iv p3, iv (4 : Int32), rv b1, rv b27, .unset, .unset, .unset, .unset] [(.ref b191), (.ref b191)])) rfl (hb hby at_116) (n := 4) (by decide) (by decide) (by decide) (by decide)
    refine own_g T196 (mkF m 118 #[iv fa, iv p2, iv p3, iv (4 : Int32), rv b1, rv b27, .unset, .unset, .unset, .unset] [(.ref sa), (.ref b191), (.ref b191)]) st196 ?_
    refine own_g T196 (mkF m 121 #[iv fa, iv p2, iv p3, iv (4 : Int32), rv b1, rv b27, .unset, .unset, .unset, .unset] [(.ref b27), (.int fa), (.ref sa), (.ref b191), (.ref b191)]) (fun _ kq => XS.iloadN X196.here hx rfl (hb hby at_118) rfl (XS.aload X196.here hx rfl (hb hby at_119) rfl rfl kq)) ?_
    have O197 := ((O193.ext E191).ext E196)
    have f198 := (A191.ext E196)
    have f199 := (F_name_b191.ext E196)
    have f200 := (F_firstAge_b191.ext E196)
    have f201 := (F_rates_b191.ext E196)
    have f202 := ((f194.ext E191).ext E196)
    have f203 := ((Fb189.ext E191).ext E196)
    have f204 := ((Fc189.ext E191).ext E196)
    have f205 := ((Ar189.ext E191).ext E196)
    have f206 := ((Er189.ext E191).ext E196)
    obtain ⟨_, T207, L207, X207, ⟨r207, ar207, ka207, rfl, Nq207, Kc207, gr207, szr207, Fg207, Fr207, La207, Lb207, Lc_207⟩, st207⟩ := own_cI X196 hx hZ196 hown196 (own_W78 hw) (own_W79 hw) (own_W69 hw) (own_W80 hw) (rmmti4 l Z a0 hw [] b191 b27 r38 mr we w1 kr38 fa sa bv kb cs wi wa cla el3 el9 el15 el22 h196 n0 O197 f198 f199 f200 f201 g_b191 Es Fc Fv Av Scs hcs Sin Ein Sa Ara hina hata f202 f203 f204 f205 f206 Mr Sem S1 Fi1 Fz1 D3 D9 D15 D22) e196 (lenOf pd_Ljava_lang_String_ILjava_util_List__V_450 rfl) (g := (mkF m 121 #[iv fa, iv p2, iv p3, iv (4 : Int32), rv b1, rv b27, .unset, .unset, .unset, .unset] [(.ref b27), (.int fa), (.ref sa), (.ref b191), (.ref b191)])) (argsL := [(.ref sa), (.int fa), (.ref b27)]) (rest := [(.ref b191)]) (W := 1) rfl rfl (hb hby at_121) (by rw [hml]; rfl) (by show 2 * 0 + _ ≤ _; exact Nat.le_of_eq rfl) rfl rfl (by decide) (by decide) (by decide) (by decide) (by decide)
    have N208 := Fr.app N190 Nq207
    refine own_t T207 (mkF m 124 #[iv fa, iv p2, iv p3, iv (4 : Int32), rv b1, rv b27, .unset, .unset, .unset, .unset] [(.ref b191)]) st207 ?_
    refine own_g T207 (mkF m 128 #[iv fa, iv p2, iv p3, iv (4 : Int32), rv b1, rv b27, rv b191, .unset, .unset, .unset] [(.ref b191)]) (fun _ kq => XS.astore X207.here hx rfl (hb hby at_124) rfl rfl (l' := #[iv fa, iv p2, iv p3, iv (4 : Int32), rv b1, rv b27, rv b191, .unset, .unset, .unset]) rfl (XS.aload X207.here hx rfl (hb hby at_126) rfl rfl kq)) ?_
    have O209 := (O197.keep Kc207 (allS g_b191 all0))
    have f210 := (f198.keep Kc207)
    obtain ⟨_, T211, L211, X211, ⟨rfl, Nq211, hh211⟩, st211⟩ := own_cV X207 hx hZ196 hown196 (own_W283 hw) (own_W284 hw) (own_W286 hw) (own_W285 hw) (own_W69 hw) (own_W287 hw) (rmlast4 l Z a0 hw [] b191 fa r207 ar207 we ka207 el3 el9 el15 el22 T207.heap n0 O209 f210 Fg207 Fr207 La207 Lb207 Lc_207 Sem Eem D3.1 D9.1 D15.1 D22.1) rfl f210 (lenOf pd_I_154 rfl) (g := (mkF m 128 #[iv fa, iv p2, iv p3, iv (4 : Int32), rv b1, rv b27, rv b191, .unset, .unset, .unset] [(.ref b191)])) (argsL := []) (rest := []) (W := 0) rfl rfl (hb hby at_128) (by rw [hml]; rfl) (by show 2 * 0 + _ ≤ _; exact Nat.le_of_eq rfl) rfl (by decide) (by decide) (by decide) (by decide) (by decide)
    have N212 := Fr.app N208 Nq211
    refine own_t T211 (mkF m 131 #[iv fa, iv p2, iv p3, iv (4 : Int32), rv b1, rv b27, rv b191, .unset, .unset, .unset] [(.int ((fa + (4 : Int32)) - (1 : Int32)))]) st211 ?_
    rw [own_last4 fa]
    refine own_g T211 (mkF m 158 #[iv fa, iv p2, iv p3, iv (4 : Int32), rv b1, rv b27, rv b191, iv (fa + (3 : Int32)), .unset, .unset] [(.int (4 : Int32))]) (fun _ kq => XS.istore X211.here hx rfl (hb hby at_131) rfl (l' := #[iv fa, iv p2, iv p3, iv (4 : Int32), rv b1, rv b27, rv b191, iv (fa + (3 : Int32)), .unset, .unset]) rfl (XS.iloadN X211.here hx rfl (hb hby at_133) rfl (XS.iconst X211.here hx rfl (hb hby at_134) (XS.icmpYes X211.here hx rfl (pc0 := 135) (pc' := 144) rfl (hb hby at_135) rfl (feq ((by decide) : ¬ ((4 : Int32) = (1 : Int32)))).2 (by decide) (by decide) (XS.iloadN X211.here hx rfl (hb hby at_144) rfl (XS.iconst X211.here hx rfl (hb hby at_145) (XS.icmpYes X211.here hx rfl (pc0 := 146) (pc' := 157) rfl (hb hby at_146) rfl (feq ((by decide) : ¬ ((4 : Int32) = (2 : Int32)))).2 (by decide) (by decide) (XS.iloadN X211.here hx rfl (hb hby at_157) rfl kq)))))))) ?_
    refine own_g T211 (mkF m 179 #[iv fa, iv p2, iv p3, iv (4 : Int32), rv b1, rv b27, rv b191, iv (fa + (3 : Int32)), iv (fa + (3 : Int32)), .unset] [(.int (fa + (3 : Int32))), (.int (fa + (3 : Int32)))]) (fun _ kq => XS.iconst X211.here hx rfl (hb hby at_158) (XS.icmpYes X211.here hx rfl (pc0 := 159) (pc' := 170) rfl (hb hby at_159) rfl (feq ((by decide) : ¬ ((4 : Int32) = (3 : Int32)))).2 (by decide) (by decide) (XS.iloadN X211.here hx rfl (hb hby at_170) rfl (XS.iconst X211.here hx rfl (hb hby at_171) (XS.iadd X211.here hx rfl (hb hby at_172) rfl (XS.istore X211.here hx rfl (hb hby at_173) rfl (l' := #[iv fa, iv p2, iv p3, iv (4 : Int32), rv b1, rv b27, rv b191, iv (fa + (3 : Int32)), iv (fa + (3 : Int32)), .unset]) rfl (XS.iload X211.here hx rfl (hb hby at_175) rfl (XS.iload X211.here hx rfl (hb hby at_177) rfl kq)))))))) ?_
    refine own_g T211 (mkF m 195 #[iv fa, iv p2, iv p3, iv (4 : Int32), rv b1, rv b27, rv b191, iv (fa + (3 : Int32)), iv (fa + (3 : Int32)), iv (1 : Int32)] [(.int fa)]) (fun _ kq => XS.icmpNo X211.here hx rfl (hb hby at_179) rfl (teq (rfl : (fa + (3 : Int32)) = (fa + (3 : Int32)))).2 (XS.iconst X211.here hx rfl (hb hby at_182) (XS.goto X211.here hx rfl (pc0 := 183) (pc' := 187) rfl (hb hby at_183) (by decide) (by decide) (XS.istore X211.here hx rfl (hb hby at_187) rfl (l' := #[iv fa, iv p2, iv p3, iv (4 : Int32), rv b1, rv b27, rv b191, iv (fa + (3 : Int32)), iv (fa + (3 : Int32)), iv (1 : Int32)]) rfl (XS.iload X211.here hx rfl (hb hby at_189) rfl (XS.ifNo X211.here hx rfl (hb hby at_191) rfl ((if0 _ _).trans (feq ((by decide) : ¬ ((1 : Int32) = (0 : Int32)))).1) (XS.iloadN X211.here hx rfl (hb hby at_194) rfl kq))))))) ?_
    refine own_g T211 (mkF m 197 #[iv fa, iv p2, iv p3, iv (4 : Int32), rv b1, rv b27, rv b191, iv (fa + (3 : Int32)), iv (fa + (3 : Int32)), iv (1 : Int32)] [(.int (2147483643 : Int32)), (.int fa)]) (X211.ldcInt hx hown196 (mvT hZ196 (own_W294 hw)) (g := (mkF m 195 #[iv fa, iv p2, iv p3, iv (4 : Int32), rv b1, rv b27, rv b191, iv (fa + (3 : Int32)), iv (fa + (3 : Int32)), iv (1 : Int32)] [(.int fa)])) rfl (hb hby at_195)) ?_
    by_cases hbig : (2147483643 : Int32) < fa
    · refine own_g T211 (mkF m 277 #[iv fa, iv p2, iv p3, iv (4 : Int32), rv b1, rv b27, rv b191, iv (fa + (3 : Int32)), iv (fa + (3 : Int32)), iv (1 : Int32)] [(.int (1 : Int32))]) (fun _ kq => XS.icmpYes X211.here hx rfl (pc0 := 197) (pc' := 275) rfl (hb hby at_197) rfl (tlt (hbig : (2147483643 : Int32) < fa)).2.2.1 (by decide) (by decide) (XS.iload X211.here hx rfl (hb hby at_275) rfl kq)) ?_
      refine own_outW X211 hS196 (by rw [hh211]; exact (Nat.le_trans hk196 Kc207.1)) Bd.notSynchronized (v := (some (.int (1 : Int32)))) (fun h => by rw [Bd.returns] at h; cases h) (fun fs hr => retN X211 hx (t := .boolean) Bd.returns (by simp) (hb hby at_277) hr) ?_ (by decide) (by decide)
      rw [hh211]
      exact ⟨rfl, N212⟩
    · refine own_g T211 (mkF m 203 #[iv fa, iv p2, iv p3, iv (4 : Int32), rv b1, rv b27, rv b191, iv (fa + (3 : Int32)), iv (fa + (3 : Int32)), iv (1 : Int32)] [(.int fa), (.ref b191)]) (fun _ kq => XS.icmpNo X211.here hx rfl (hb hby at_197) rfl (flt (hbig : ¬ ((2147483643 : Int32) < fa))).2.2.1 (XS.aload X211.here hx rfl (hb hby at_200) rfl rfl (XS.iloadN X211.here hx rfl (hb hby at_202) rfl kq))) ?_
      obtain ⟨uq1, uq2, uq3, uq4⟩ := own_rd fa (4 : Int32) (0 : Int32) fa hbig (by decide) (by decide) (Int32.add_zero fa).symm
      obtain ⟨_, T213, L213, X213, ⟨rfl, Nq213, hh213⟩, st213⟩ := own_cV X211 hx hZ196 hown196 (own_W295 hw) (own_W296 hw) (own_W298 hw) (own_W297 hw) (own_W69 hw) (own_W299 hw) (rmrod40 l Z a0 hw [] b191 fa r207 ar207 we ka207 el3 el9 el15 el22 fa T207.heap n0 O209 f210 Fg207 Fr207 La207 Lb207 Lc_207 Sem Eem D3.1 D9.1 D15.1 D22.1 uq1 uq2 uq3 uq4) hh211 f210 (lenOf pd_I_Ljava_math_BigDecimal_194 rfl) (g := (mkF m 203 #[iv fa, iv p2, iv p3, iv (4 : Int32), rv b1, rv b27, rv b191, iv (fa + (3 : Int32)), iv (fa + (3 : Int32)), iv (1 : Int32)] [(.int fa), (.ref b191)])) (argsL := [(.int fa)]) (rest := []) (W := 0) rfl rfl (hb hby at_203) (by rw [hml]; rfl) (by show 2 * 0 + _ ≤ _; exact Nat.le_of_eq rfl) rfl (by decide) (by decide) (by decide) (by decide) (by decide)
      have N214 := Fr.app N212 Nq213
      refine own_t T213 (mkF m 206 #[iv fa, iv p2, iv p3, iv (4 : Int32), rv b1, rv b27, rv b191, iv (fa + (3 : Int32)), iv (fa + (3 : Int32)), iv (1 : Int32)] [(.ref el3)]) st213 ?_
      obtain ⟨LL215, Xp215, Np215⟩ : ∃ LL, Stand p l e room_1 (s.setVm T196.vm) m #[(.int fa), (.int p2), (.int p3)] below meth c T213 LL 9 38 ∧ Fr n0 LL := ⟨_, X213, N214⟩
      refine own_g T213 (mkF m 209 #[iv fa, iv p2, iv p3, iv (4 : Int32), rv b1, rv b27, rv b191, iv (fa + (3 : Int32)), iv (fa + (3 : Int32)), iv (1 : Int32)] [(.int (0 : Int32)), (.ref b1), (.ref el3)]) (fun _ kq => XS.aload X213.here hx rfl (hb hby at_206) rfl rfl (XS.iconst Xp215.here hx rfl (hb hby at_208) kq)) ?_
      have f216 := (((f192.ext E191).ext E196).keep Kc207 (ninS ne_b1_b191 nin0))
      obtain ⟨cl217, Ar217, q217, S217, Nn217, H217, G217⟩ := id f216
      have hin218 : ¬ ((0 : Int32) < 0 ∨ cl217.slots.size ≤ ((0 : Int32)).toNatClampNeg) := inb_of S217 ⟨by decide, by decide⟩
      have hat218 : cl217.slots[((0 : Int32)).toNatClampNeg]? = some (.ref el3) := Has.at H217 hin218 rfl
      refine own_g T213 (mkF m 210 #[iv fa, iv p2, iv p3, iv (4 : Int32), rv b1, rv b27, rv b191, iv (fa + (3 : Int32)), iv (fa + (3 : Int32)), iv (1 : Int32)] [(.ref el3), (.ref el3)]) (Xp215.aaload hx (j := (0 : Int32)) (v := (.ref el3)) (by rw [hh213]; exact Ar217.1) (State.isArrayOf_alike hZ196.alike Ar217.2.1) rfl Ar217.2.2 hin218 hat218 (g := (mkF m 209 #[iv fa, iv p2, iv p3, iv (4 : Int32), rv b1, rv b27, rv b191, iv (fa + (3 : Int32)), iv (fa + (3 : Int32)), iv (1 : Int32)] [(.int (0 : Int32)), (.ref b1), (.ref el3)])) rfl rfl (hb hby at_209)) ?_
      refine own_g T213 (mkF m 229 #[iv fa, iv p2, iv p3, iv (4 : Int32), rv b1, rv b27, rv b191, iv (fa + (3 : Int32)), iv (fa + (3 : Int32)), iv (1 : Int32)] [(.int (fa + (3 : Int32))), (.ref b191)]) (fun _ kq => Jvm.RoadKit.acmp (g := (mkF m 210 #[iv fa, iv p2, iv p3, iv (4 : Int32), rv b1, rv b27, rv b191, iv (fa + (3 : Int32)), iv (fa + (3 : Int32)), iv (1 : Int32)] [(.ref el3), (.ref el3)])) Xp215 hx rfl rfl rfl (pc0 := 210) (pc' := 213) (same := true) rfl (hb hby at_210) rfl (decide_eq_true rfl) (by decide) (by decide) (XS.iconst Xp215.here hx rfl (hb hby at_213) (XS.goto Xp215.here hx rfl (pc0 := 214) (pc' := 218) rfl (hb hby at_214) (by decide) (by decide) (XS.istore Xp215.here hx rfl (hb hby at_218) rfl (l' := #[iv fa, iv p2, iv p3, iv (4 : Int32), rv b1, rv b27, rv b191, iv (fa + (3 : Int32)), iv (fa + (3 : Int32)), iv (1 : Int32)]) rfl (XS.iload Xp215.here hx rfl (hb hby at_220) rfl (XS.ifNo Xp215.here hx rfl (hb hby at_222) rfl ((if0 _ _).trans (feq ((by decide) : ¬ ((1 : Int32) = (0 : Int32)))).1) (XS.aload Xp215.here hx rfl (hb hby at_225) rfl rfl (XS.iload Xp215.here hx rfl (hb hby at_227) rfl kq)))))))) ?_
      obtain ⟨vq1, vq2, vq3, vq4⟩ := own_rd fa (4 : Int32) (3 : Int32) (fa + (3 : Int32)) hbig (by decide) (by decide) rfl
      obtain ⟨_, T219, L219, X219, ⟨rfl, Nq219, hh219⟩, st219⟩ := own_cV Xp215 hx hZ196 hown196 (own_W295 hw) (own_W296 hw) (own_W298 hw) (own_W297 hw) (own_W69 hw) (own_W299 hw) (rmrod43 l Z a0 hw [] b191 fa r207 ar207 we ka207 el3 el9 el15 el22 (fa + (3 : Int32)) T207.heap n0 O209 f210 Fg207 Fr207 La207 Lb207 Lc_207 Sem Eem D3.1 D9.1 D15.1 D22.1 vq1 vq2 vq3 vq4) hh213 f210 (lenOf pd_I_Ljava_math_BigDecimal_194 rfl) (g := (mkF m 229 #[iv fa, iv p2, iv p3, iv (4 : Int32), rv b1, rv b27, rv b191, iv (fa + (3 : Int32)), iv (fa + (3 : Int32)), iv (1 : Int32)] [(.int (fa + (3 : Int32))), (.ref b191)])) (argsL := [(.int (fa + (3 : Int32)))]) (rest := []) (W := 0) rfl rfl (hb hby at_229) (by rw [hml]; rfl) (by show 2 * 0 + _ ≤ _; exact Nat.le_of_eq rfl) rfl (by decide) (by decide) (by decide) (by decide) (by decide)
      have N220 := Fr.app Np215 Nq219
      refine own_t T219 (mkF m 232 #[iv fa, iv p2, iv p3, iv (4 : Int32), rv b1, rv b27, rv b191, iv (fa + (3 : Int32)), iv (fa + (3 : Int32)), iv (1 : Int32)] [(.ref el22)]) st219 ?_
      refine own_g T219 (mkF m 237 #[iv fa, iv p2, iv p3, iv (4 : Int32), rv b1, rv b27, rv b191, iv (fa + (3 : Int32)), iv (fa + (3 : Int32)), iv (1 : Int32)] [(.int (3 : Int32)), (.ref b1), (.ref el22)]) (fun _ kq => XS.aload X219.here hx rfl (hb hby at_232) rfl rfl (XS.iloadN X219.here hx rfl (hb hby at_234) rfl (XS.iconst X219.here hx rfl (hb hby at_235) (XS.isub X219.here hx rfl (hb hby at_236) rfl kq)))) ?_
      obtain ⟨cl221, Ar221, q221, S221, Nn221, H221, G221⟩ := id f216
      have hin222 : ¬ ((3 : Int32) < 0 ∨ cl221.slots.size ≤ ((3 : Int32)).toNatClampNeg) := inb_of S221 ⟨by decide, by decide⟩
      have hat222 : cl221.slots[((3 : Int32)).toNatClampNeg]? = some (.ref el22) := Has.at H221 hin222 rfl
      refine own_g T219 (mkF m 238 #[iv fa, iv p2, iv p3, iv (4 : Int32), rv b1, rv b27, rv b191, iv (fa + (3 : Int32)), iv (fa + (3 : Int32)), iv (1 : Int32)] [(.ref el22), (.ref el22)]) (X219.aaload hx (j := (3 : Int32)) (v := (.ref el22)) (by rw [hh219]; exact Ar221.1) (State.isArrayOf_alike hZ196.alike Ar221.2.1) rfl Ar221.2.2 hin222 hat222 (g := (mkF m 237 #[iv fa, iv p2, iv p3, iv (4 : Int32), rv b1, rv b27, rv b191, iv (fa + (3 : Int32)), iv (fa + (3 : Int32)), iv (1 : Int32)] [(.int (3 : Int32)), (.ref b1), (.ref el22)])) rfl rfl (hb hby at_237)) ?_
      refine own_g T219 (mkF m 257 #[iv fa, iv p2, iv p3, iv (4 : Int32), rv b1, rv b27, rv b191, iv (fa + (3 : Int32)), iv (fa + (3 : Int32)), iv (1 : Int32)] [(.int (fa + (3 : Int32))), (.ref b191)]) (fun _ kq => Jvm.RoadKit.acmp (g := (mkF m 238 #[iv fa, iv p2, iv p3, iv (4 : Int32), rv b1, rv b27, rv b191, iv (fa + (3 : Int32)), iv (fa + (3 : Int32)), iv (1 : Int32)] [(.ref el22), (.ref el22)])) X219 hx rfl rfl rfl (pc0 := 238) (pc' := 241) (same := true) rfl (hb hby at_238) rfl (decide_eq_true rfl) (by decide) (by decide) (XS.iconst X219.here hx rfl (hb hby at_241) (XS.goto X219.here hx rfl (pc0 := 242) (pc' := 246) rfl (hb hby at_242) (by decide) (by decide) (XS.istore X219.here hx rfl (hb hby at_246) rfl (l' := #[iv fa, iv p2, iv p3, iv (4 : Int32), rv b1, rv b27, rv b191, iv (fa + (3 : Int32)), iv (fa + (3 : Int32)), iv (1 : Int32)]) rfl (XS.iload X219.here hx rfl (hb hby at_248) rfl (XS.ifNo X219.here hx rfl (hb hby at_250) rfl ((if0 _ _).trans (feq ((by decide) : ¬ ((1 : Int32) = (0 : Int32)))).1) (XS.aload X219.here hx rfl (hb hby at_253) rfl rfl (XS.iload X219.here hx rfl (hb hby at_255) rfl kq)))))))) ?_
      refine own_g T219 (mkF m 259 #[iv fa, iv p2, iv p3, iv (4 : Int32), rv b1, rv b27, rv b191, iv (fa + (3 : Int32)), iv (fa + (3 : Int32)), iv (1 : Int32)] [(.int ((fa + (3 : Int32)) + (1 : Int32))), (.ref b191)]) (fun _ kq => XS.iconst X219.here hx rfl (hb hby at_257) (XS.iadd X219.here hx rfl (hb hby at_258) rfl kq)) ?_
      have wq : ((fa + (3 : Int32)) + (1 : Int32)) = (((fa + (4 : Int32)) - (1 : Int32)) + (1 : Int32)) := by rw [own_last4 fa]
      obtain ⟨_, T223, L223, X223, ⟨rfl, Nq223, hh223⟩, st223⟩ := own_cV X219 hx hZ196 hown196 (own_W295 hw) (own_W296 hw) (own_W298 hw) (own_W297 hw) (own_W69 hw) (own_W299 hw) (rmrode4 l Z a0 hw [] b191 fa r207 ar207 we ka207 el3 el9 el15 el22 ((fa + (3 : Int32)) + (1 : Int32)) w1 T207.heap n0 O209 f210 Fg207 Fr207 La207 Lb207 Lc_207 Sem Eem D3.1 D9.1 D15.1 D22.1 S1 wq) hh219 f210 (lenOf pd_I_Ljava_math_BigDecimal_194 rfl) (g := (mkF m 259 #[iv fa, iv p2, iv p3, iv (4 : Int32), rv b1, rv b27, rv b191, iv (fa + (3 : Int32)), iv (fa + (3 : Int32)), iv (1 : Int32)] [(.int ((fa + (3 : Int32)) + (1 : Int32))), (.ref b191)])) (argsL := [(.int ((fa + (3 : Int32)) + (1 : Int32)))]) (rest := []) (W := 0) rfl rfl (hb hby at_259) (by rw [hml]; rfl) (by show 2 * 0 + _ ≤ _; exact Nat.le_of_eq rfl) rfl (by decide) (by decide) (by decide) (by decide) (by decide)
      have N224 := Fr.app N220 Nq223
      refine own_t T223 (mkF m 262 #[iv fa, iv p2, iv p3, iv (4 : Int32), rv b1, rv b27, rv b191, iv (fa + (3 : Int32)), iv (fa + (3 : Int32)), iv (1 : Int32)] [(.ref w1)]) st223 ?_
      obtain ⟨T225, X225, e225, st225⟩ := getS2 X223 hx hZ196 hown196 (host := "") (Or.inl (own_W9 hw)) Via.refl hh223 (S1.ext O209.2) (g := (mkF m 262 #[iv fa, iv p2, iv p3, iv (4 : Int32), rv b1, rv b27, rv b191, iv (fa + (3 : Int32)), iv (fa + (3 : Int32)), iv (1 : Int32)] [(.ref w1)])) rfl (hb hby at_262)
      refine own_g T225 (mkF m 265 #[iv fa, iv p2, iv p3, iv (4 : Int32), rv b1, rv b27, rv b191, iv (fa + (3 : Int32)), iv (fa + (3 : Int32)), iv (1 : Int32)] [(.ref w1), (.ref w1)]) st225 ?_
      refine own_g T225 (mkF m 277 #[iv fa, iv p2, iv p3, iv (4 : Int32), rv b1, rv b27, rv b191, iv (fa + (3 : Int32)), iv (fa + (3 : Int32)), iv (1 : Int32)] [(.int (1 : Int32))]) (fun _ kq => Jvm.RoadKit.acmp (g := (mkF m 265 #[iv fa, iv p2, iv p3, iv (4 : Int32), rv b1, rv b27, rv b191, iv (fa + (3 : Int32)), iv (fa + (3 : Int32)), iv (1 : Int32)] [(.ref w1), (.ref w1)])) X225 hx rfl rfl rfl (pc0 := 265) (pc' := 268) (same := true) rfl (hb hby at_265) rfl (decide_eq_true rfl) (by decide) (by decide) (XS.iconst X225.here hx rfl (hb hby at_268) (XS.goto X225.here hx rfl (pc0 := 269) (pc' := 273) rfl (hb hby at_269) (by decide) (by decide) (XS.istore X225.here hx rfl (hb hby at_273) rfl (l' := #[iv fa, iv p2, iv p3, iv (4 : Int32), rv b1, rv b27, rv b191, iv (fa + (3 : Int32)), iv (fa + (3 : Int32)), iv (1 : Int32)]) rfl (XS.iload X225.here hx rfl (hb hby at_275) rfl kq))))) ?_
      refine own_outW X225 hS196 (by rw [e225]; exact (Nat.le_trans hk196 Kc207.1)) Bd.notSynchronized (v := (some (.int (1 : Int32)))) (fun h => by rw [Bd.returns] at h; cases h) (fun fs hr => retN X225 hx (t := .boolean) Bd.returns (by simp) (hb hby at_277) hr) ?_ (by decide) (by decide)
      rw [e225]
      exact ⟨rfl, N224⟩
theorem own_arv0 {s : State} {args : Array Value} {t : Term} {a : Addr} {cl : Cell} {ty : FieldType} (hf : Fit s) (ev : t.eval args s none [] s = some (.ref a)) (A : Jvm.RoadKit.Arr s s.heap a cl ty) (hl : (Term.length t).eval args s none [] s = some (.int (0 : Int32))) : Arv s s.heap a cl.cls ty (0 : Int32) [] .null := by
  have ha := Arr.fin (Vm.Alike.refl _) A
  by_cases hlt : cl.slots.size < 2 ^ 31
  · have e := len_f (o := none) (first := s) (idx := []) (args := args) ev ha hlt
    rw [hl] at e
    have e2 : (0 : Int32) = cl.slots.size.toInt32 := by simpa using e
    exact Arv.start hf A hlt e2.symm (by decide) rfl trivial
  · simp [Term.eval, ev, ha, hlt] at hl
set_option maxRecDepth 65536 in
set_option maxHeartbeats 40000000 in
theorem comes_1 {Post : Tables → Env → Array Value → State → Outcome → State → Prop} (hpost : ∀ tb e args s v u, (limb_1_1.after args s (.returned v) u = true ∧ limb_1_2.after args s (.returned v) u = true ∧ True) → ReturnedEndW s (.returned v) u (Jvm.fieldLocs frame_1_writes args s ++ Jvm.arrayLocs frame_1_arrays args s ++ Jvm.staticLocs frame_1_statics s) 24 1152 → Post tb e args s (.returned v) u) :
    ArmFor flags0 classFile x code maxLocals ret World_1 tables_1 room_1 Calls_1 rest_1 Pre_1 Post := by
  intro l hfl _ _ p e ha hc hk s m args below hf hA hF happ hP
  obtain ⟨hcalls, hrest, hpre⟩ := hP
  obtain ⟨-, -, -, hnamed, -, -, -, hat⟩ := (Spec.applies_iff hf).mp happ
  obtain ⟨hg, hn⟩ := and_e (Cond.before_iff.mp (show (Jvm.Cond.and given_1 narrow_1).before args s = true from hpre))
  obtain ⟨hcnt, hg0⟩ := and_e hg
  obtain ⟨ha0, hg1⟩ := and_e hg0
  obtain ⟨ha1, hg2⟩ := and_e hg1
  have ha2 := hg2
  obtain ⟨w0, w1, w2, rfl⟩ : ∃ w0 w1 w2 : Value, args = #[w0, w1, w2] := by
    have hs : args.size = 3 := by simpa [Cond.value, given_1] using hcnt
    obtain ⟨L⟩ := args
    match L, hs with
    | [w0, w1, w2], _ => exact ⟨w0, w1, w2, rfl⟩
  have hw := fun d (hd : d ∈ tables_1) => atoms_spec (ws := Jvm.Cond.code x code maxLocals ret :: tables_1) hat d (List.mem_cons_of_mem _ hd)
  have hfit : Fit s := fun {y c} hc i hi => by
    obtain ⟨ha, rfl⟩ := Array.getElem?_eq_some_iff.mp hc
    have q := List.all_eq_true.mp ((Array.all_eq_true_iff_forall_mem.mp hF) _ (Array.getElem_mem ha)) i (List.mem_range.mpr hi)
    simpa [Array.getElem?_eq_getElem hi] using q
  obtain ⟨hsets, hown0⟩ := atoms_of _ (rest_1_c_eq ▸ (show rest_1_c.before _ s = true from hrest))
  obtain ⟨i0, ei0⟩ := is_v ha0
  obtain rfl : w0 = (.int i0) := Option.some.inj ei0
  obtain ⟨i1, ei1⟩ := is_v ha1
  obtain rfl : w1 = (.int i1) := Option.some.inj ei1
  obtain ⟨i2, ei2⟩ := is_v ha2
  obtain rfl : w2 = (.int i2) := Option.some.inj ei2
  obtain ⟨w1, ev1⟩ := exa_v (Cond.before_iff.mp (hsets _ (List.mem_of_getElem? (i := 17) rfl)))
  have E1 := Exa.start ev1 (Cond.before_iff.mp (hsets _ (List.mem_of_getElem? (i := 17) rfl)))
  have S1 := Sta.start ev1 (Or.inl (hsets _ (List.mem_of_getElem? (i := 14) rfl)))
  have Fz1 := Fld.start ((fld_at ev1).symm.trans (own_eqInt (Cond.before_iff.mp (hsets _ (List.mem_of_getElem? (i := 18) rfl)))))
  have Fi1 := Fld.start ((fld_at ev1).symm.trans (own_eqLong (Cond.before_iff.mp (hsets _ (List.mem_of_getElem? (i := 19) rfl)))))
  obtain ⟨w0, ev0⟩ := exa_v (Cond.before_iff.mp (hsets _ (List.mem_of_getElem? (i := 4) rfl)))
  have E0 := Exa.start ev0 (Cond.before_iff.mp (hsets _ (List.mem_of_getElem? (i := 4) rfl)))
  have S0 := Sta.start ev0 (Or.inl (hsets _ (List.mem_of_getElem? (i := 1) rfl)))
  have Fz0 := Fld.start ((fld_at ev0).symm.trans (own_eqInt (Cond.before_iff.mp (hsets _ (List.mem_of_getElem? (i := 5) rfl)))))
  have Fi0 := Fld.start ((fld_at ev0).symm.trans (own_eqLong (Cond.before_iff.mp (hsets _ (List.mem_of_getElem? (i := 6) rfl)))))
  obtain ⟨wd, evd⟩ := exa_v (Cond.before_iff.mp (hsets _ (List.mem_of_getElem? (i := 34) rfl)))
  have Sd := Sta.start evd (Or.inr ⟨hw _ (List.mem_of_getElem? (i := 12) rfl), (hsets _ (List.mem_of_getElem? (i := 29) rfl))⟩)
  obtain ⟨cd, Ard⟩ := Arr.start evd (Cond.before_iff.mp (hsets _ (List.mem_of_getElem? (i := 33) rfl)))
  have Ad := own_arv0 hfit evd Ard (own_eqInt (Cond.before_iff.mp (hsets _ (List.mem_of_getElem? (i := 35) rfl))))
  obtain ⟨cs, ecs⟩ := is_v (Cond.before_iff.mp (hsets _ (List.mem_of_getElem? (i := 37) rfl)))
  have Scs := Sta.start ecs (Or.inl (hsets _ (List.mem_of_getElem? (i := 36) rfl)))
  have hcs := own_neInt (Cond.before_iff.mp (hsets _ (List.mem_of_getElem? (i := 38) rfl))) ecs
  obtain ⟨wi, evi⟩ := exa_v (Cond.before_iff.mp (hsets _ (List.mem_of_getElem? (i := 47) rfl)))
  have Ein := Exa.start evi (Cond.before_iff.mp (hsets _ (List.mem_of_getElem? (i := 47) rfl)))
  have Sin := Sta.start evi (Or.inl (hsets _ (List.mem_of_getElem? (i := 46) rfl)))
  obtain ⟨wa, eva⟩ := exa_v (Cond.before_iff.mp (hsets _ (List.mem_of_getElem? (i := 51) rfl)))
  have Sa := Sta.start eva (Or.inl (hsets _ (List.mem_of_getElem? (i := 49) rfl)))
  obtain ⟨cla, Ara⟩ := Arr.start eva (Cond.before_iff.mp (hsets _ (List.mem_of_getElem? (i := 50) rfl)))
  obtain ⟨hina, hata⟩ := elem_in (own_eqInt (Cond.before_iff.mp (hsets _ (List.mem_of_getElem? (i := 137) rfl)))) eva (Term.int_eval (84)) Ara.1
  obtain ⟨we, eve⟩ := exa_v (Cond.before_iff.mp (hsets _ (List.mem_of_getElem? (i := 311) rfl)))
  have Eem := Exa.start eve (Cond.before_iff.mp (hsets _ (List.mem_of_getElem? (i := 311) rfl)))
  have Sem := Sta.start eve (Or.inl (hsets _ (List.mem_of_getElem? (i := 310) rfl)))
  obtain ⟨cM, kM, mr, m1, m2, m3⟩ := hcalls.1
  obtain ⟨n, o, h1, h2, h3, _, L, rfl, ⟨rfl, N⟩, hq⟩ := rm0 l s _ hw tables_1 i0 i1 i2 w1 w0 wd wi wa we mr cd.cls cs cla s.heap s.heap.size (Old.start s) S1 S0 ⟨E1, Fz1, 1, Or.inr rfl, Fi1⟩ ⟨E0, Fz0, 0, Or.inl rfl, Fi0⟩ Fi1 Fz1 Sd Ad Scs hcs Sin Ein Sa Ara hina hata Sem Eem ⟨cM, kM, m1, m2, m3.1⟩ (hcalls.2.1 _ (List.mem_cons_self ..)) (hsets _ (List.mem_of_getElem? (i := 38) rfl)) rfl p e ha hc hk s m _ below hf ((Spec.applies_iff_loose hf).mp happ).1 ⟨rfl, State.Warmed39.refl s, rfl, rfl⟩ trivial
  refine ⟨n, _, h1, h2, h3, hpost _ _ _ _ _ _ ⟨Cond.after_iff.mpr rfl, Cond.after_iff.mpr (eq_i res_at (Term.int_eval (1)) rfl), trivial⟩ ⟨hq.1, hq.2.1, hq.2.2.1, (hq.2.2.2.sift fun y hy => Or.inr (N y hy)).mono (by decide) (by decide)⟩⟩
theorem main_1_1 : Claimed_1_1 := comes_1 fun _ _ _ _ _ _ h hF => ⟨h.1, hF⟩
theorem main_1_2 : Claimed_1_2 := comes_1 fun _ _ _ _ _ _ h hF => ⟨h.2.1, hF⟩
end Jvm.Pilot.@@N@@
namespace Jvm.Pilot.@@N@@
open Jvm Jvm.ClassFile Sem Op Lib Jvm.Free Jvm.Stand Jvm.Pilot.@@N@@.Jvm.D
/-! MADE BY PROGRAM (witnessworld.py) out of the Statement's table words and the real class files: 44 classes; the members and pool entries that the words name. The judged class is class 1, her method 2. -/
namespace start1
open Jvm.ClassFile
def u (s : String) : CpInfo := .utf8 (stringToUtf16 s)
/-- a pool by its gaps: so many unusable entries, then the entry; so many at the end -/
def gap : Nat → List CpInfo → List CpInfo
  | 0, r => r
  | n + 1, r => .unusable :: gap n r
def poolList (es : List (Nat × CpInfo)) (last : Nat) : List CpInfo := es.foldr (fun e r => gap e.1 (e.2 :: r)) (gap last [])
def pool (es : List (Nat × CpInfo)) (last : Nat) : Array CpInfo := ⟨poolList es last⟩
def fileOf (pool : Array CpInfo) (this : Nat) (attrs : Array Attribute := #[]) (ms : Array MethodInfo := #[]) (fl : Nat := 33) (sup : Nat := 0) (ifs : Array Nat := #[]) (fds : Array FieldInfo := #[]) : ClassFile where
  minorVersion := 0
  majorVersion := 65
  constantPool := pool
  accessFlags := fl
  thisClass := this
  superClass := sup
  interfaces := ifs
  fields := fds
  methods := ms
  attributes := attrs
def plain (name : String) (sup : Option ClassId) : Class where
  name := name
  kind := .ordinary
  loader := none
  accessFlags := 33
  super := sup
  interfaces := #[]
  cf := none
  fields := #[]
  methods := #[]
  instanceTypes := #[]
  staticTypes := #[]
  resolved := #[]
  callSites := []
  init := .initialized
  statics := none
  mirror := none

def pool0 : Array CpInfo := pool [(5, u "<init>"), (0, u "()V"), (1, .class_ 10), (1, u "java/lang/Object"), (0, u "getClass"), (0, u "()Ljava/lang/Class;")] 111

def k0c0 : Code := { maxStack := 0, maxLocals := 1, code := object_method_1_code, exceptionTable := #[], attributes := #[] }
def k0m0 : Method := { name := "<init>", desc := "()V", sig := { parameters := [], returnType := none }, accessFlags := 1, code := some k0c0 }
def k0m1 : Method := { name := "getClass", desc := "()Ljava/lang/Class;", sig := { parameters := [], returnType := some (.object "java/lang/Class") }, accessFlags := 273, code := none }
/-- java/lang/Object -/
def k0 : Class := { plain "java/lang/Object" none with
  accessFlags := 33
  interfaces := #[]
  cf := some (fileOf pool0 8 #[] #[{ accessFlags := 1, nameIndex := 5, descriptorIndex := 6, attributes := #[] }, { accessFlags := 273, nameIndex := 11, descriptorIndex := 12, attributes := #[] }] 33 0 #[] #[])
  fields := #[]
  methods := #[k0m0, k0m1]
  instanceTypes := #[]
  staticTypes := #[]
  resolved := Array.replicate 124 none
  statics := none }

def pool1 : Array CpInfo := pool [(2, .class_ 4), (0, .nameAndType 5 6), (0, u "java/lang/Object"), (0, u "<init>"), (0, u "()V"), (0, .fieldref 8 9), (0, .class_ 10), (0, .nameAndType 11 12), (0, u "java/math/BigDecimal"), (0, u "ONE"), (0, u "Ljava/math/BigDecimal;"), (0, .fieldref 8 14), (0, .nameAndType 15 12), (0, u "ZERO"), (0, .methodref 17 18), (0, .class_ 19), (0, .nameAndType 20 21), (0, u "com/example/restoria/restoria/mortality/MortalityTableLastAgePinLaw"), (0, u "pick"), (0, u "(II)Ljava/math/BigDecimal;"), (0, .class_ 23), (0, u "java/util/ArrayList"), (0, .methodref 22 3), (0, .methodref 22 26), (0, .nameAndType 27 28), (0, u "add"), (0, u "(Ljava/lang/Object;)Z"), (0, .class_ 30), (0, u "com/example/restoria/restoria/mortality/MortalityTable"), (0, .string 32), (0, u "T"), (0, .methodref 29 34), (0, .nameAndType 5 35), (0, u "(Ljava/lang/String;ILjava/util/List;)V"), (0, .methodref 29 37), (0, .nameAndType 38 39), (0, u "lastAge"), (0, u "()I"), (2, .integer 2147483643), (0, .methodref 29 44), (0, .nameAndType 45 46), (0, u "rateOfDeath"), (0, u "(I)Ljava/math/BigDecimal;"), (3, u "law"), (0, u "(III)Z")] 4

def k1m0 : Method := { name := "<init>", desc := "()V", sig := { parameters := [], returnType := none }, accessFlags := 1, code := none }
def k1c1 : Code := { maxStack := 2, maxLocals := 2, code := method_2_code, exceptionTable := #[], attributes := #[] }
def k1m1 : Method := { name := "pick", desc := "(II)Ljava/math/BigDecimal;", sig := { parameters := [.int, .int], returnType := some (.object "java/math/BigDecimal") }, accessFlags := 10, code := some k1c1 }
def k1c2 : Code := { maxStack := 5, maxLocals := 10, code := code, exceptionTable := #[], attributes := #[] }
def k1m2 : Method := { name := "law", desc := "(III)Z", sig := { parameters := [.int, .int, .int], returnType := some .boolean }, accessFlags := 9, code := some k1c2 }
/-- com/example/restoria/restoria/mortality/MortalityTableLastAgePinLaw -/
def k1 : Class := { plain "com/example/restoria/restoria/mortality/MortalityTableLastAgePinLaw" (some 0) with
  accessFlags := 49
  interfaces := #[]
  cf := some (fileOf pool1 17 #[] #[{ accessFlags := 1, nameIndex := 5, descriptorIndex := 6, attributes := #[] }, { accessFlags := 10, nameIndex := 20, descriptorIndex := 21, attributes := #[] }, { accessFlags := 9, nameIndex := 50, descriptorIndex := 51, attributes := #[] }] 49 2 #[] #[])
  fields := #[]
  methods := #[k1m0, k1m1, k1m2]
  instanceTypes := #[]
  staticTypes := #[]
  resolved := Array.replicate 56 none
  statics := none }

def pool2 : Array CpInfo := pool [(1, .class_ 2), (0, u "java/io/Serializable"), (0, .class_ 4), (0, u "java/lang/Object")] 2

/-- java/io/Serializable -/
def k2 : Class := { plain "java/io/Serializable" (some 0) with
  accessFlags := 1537
  interfaces := #[]
  cf := some (fileOf pool2 1 #[] #[] 1537 3 #[] #[])
  fields := #[]
  methods := #[]
  instanceTypes := #[]
  staticTypes := #[]
  resolved := Array.replicate 7 none
  statics := none }

def pool3 : Array CpInfo := pool [(2, .class_ 4), (1, u "java/lang/Object"), (0, u "<init>"), (0, u "()V"), (1, .class_ 10), (1, u "java/lang/Number"), (2, .class_ 14), (0, u "java/io/Serializable"), (0, u "serialVersionUID"), (0, u "J")] 20

def k3m0 : Method := { name := "<init>", desc := "()V", sig := { parameters := [], returnType := none }, accessFlags := 1, code := none }
/-- java/lang/Number -/
def k3 : Class := { plain "java/lang/Number" (some 0) with
  accessFlags := 1057
  interfaces := #[2]
  cf := some (fileOf pool3 8 #[] #[{ accessFlags := 1, nameIndex := 5, descriptorIndex := 6, attributes := #[] }] 1057 2 #[13] #[{ accessFlags := 26, nameIndex := 15, descriptorIndex := 16, attributes := #[] }])
  fields := #[{ name := "serialVersionUID", type := .long, accessFlags := 26, slot := 0, constantValue := 0 }]
  methods := #[k3m0]
  instanceTypes := #[]
  staticTypes := #[.long]
  resolved := Array.replicate 37 none
  statics := none }

def pool4 : Array CpInfo := pool [(1, .class_ 2), (0, u "java/lang/Comparable"), (0, .class_ 4), (0, u "java/lang/Object")] 7

/-- java/lang/Comparable -/
def k4 : Class := { plain "java/lang/Comparable" (some 0) with
  accessFlags := 1537
  interfaces := #[]
  cf := some (fileOf pool4 1 #[] #[] 1537 3 #[] #[])
  fields := #[]
  methods := #[]
  instanceTypes := #[]
  staticTypes := #[]
  resolved := Array.replicate 12 none
  statics := none }

def pool5 : Array CpInfo := pool [(3, .class_ 4), (0, u "java/math/BigDecimal"), (2, .class_ 8), (0, u "java/lang/Long"), (3, .class_ 14), (1, u "java/lang/Number"), (2, .fieldref 3 18), (0, .nameAndType 19 20), (0, u "scale"), (0, u "I"), (2, u "precision"), (0, .fieldref 3 25), (0, .nameAndType 26 27), (0, u "intCompact"), (0, u "J"), (2, u "intVal"), (0, u "Ljava/math/BigInteger;"), (65, u "LONG_TEN_POWERS_TABLE"), (0, u "[J"), (16, u "(J)I"), (9, .long 9223372036854775808), (36, u "()I"), (24, u "ZERO"), (2, u "INFLATED_BIGINT"), (15, u "TWO"), (41, u "ZERO_THROUGH_TEN"), (0, u "[Ljava/math/BigDecimal;"), (2, u "ZERO_SCALED_BY"), (19, u "signum"), (40, u "$assertionsDisabled"), (0, u "Z"), (124, u "(Ljava/math/BigDecimal;)I"), (38, u "ONE_TENTH"), (0, u "Ljava/math/BigDecimal;"), (2, u "compareTo"), (2, u "TEN"), (14, .class_ 502), (1, u "java/math/BigDecimal$1"), (15, u "ONE_HALF"), (16, u "ONE"), (60, .methodref 7 597), (0, .nameAndType 272 115), (45, u "stringCache"), (0, u "Ljava/lang/String;"), (52, .class_ 699), (1, u "java/math/BigDecimal$LongOverflow"), (8, u "FLOAT_10_POW"), (0, u "[F"), (39, u "DOUBLE_10_POW"), (0, u "[D"), (19, .class_ 772), (1, u "java/math/BigDecimal$StringBuilderHelper"), (35, u "BIG_TEN_POWERS_TABLE_MAX"), (2, u "BIG_TEN_POWERS_TABLE"), (0, u "[Ljava/math/BigInteger;"), (14, u "THRESHOLDS_TABLE"), (23, .class_ 853), (1, u "java/math/BigDecimal$UnsafeHolder"), (214, u "LONGLONG_TEN_POWERS_TABLE"), (0, u "[[J"), (112, u "BIG_TEN_POWERS_TABLE_INITLEN"), (113, .class_ 1297), (0, u "java/lang/Comparable"), (0, u "L"), (0, u "D"), (1, u "P_F"), (1, u "Q_MIN_F"), (1, u "Q_MAX_F"), (1, u "P_D"), (1, u "Q_MIN_D"), (1, u "Q_MAX_D"), (1, u "INFLATED"), (0, u "MAX_COMPACT_DIGITS"), (1, u "serialVersionUID"), (2, u "HALF_LONG_MAX_VALUE"), (0, u "HALF_LONG_MIN_VALUE"), (0, u "ROUND_UP"), (6, u "ROUND_DOWN"), (1, u "ROUND_CEILING"), (1, u "ROUND_FLOOR"), (1, u "ROUND_HALF_UP"), (1, u "ROUND_HALF_DOWN"), (1, u "ROUND_HALF_EVEN"), (1, u "ROUND_UNNECESSARY"), (1, u "DIV_NUM_BASE")] 294

def k5c0 : Code := { maxStack := 4, maxLocals := 1, code := jdk_17_method_58_code, exceptionTable := #[], attributes := #[] }
def k5m0 : Method := { name := "signum", desc := "()I", sig := { parameters := [], returnType := some .int }, accessFlags := 1, code := some k5c0 }
def k5c1 : Code := { maxStack := 4, maxLocals := 6, code := jdk_17_method_70_code, exceptionTable := #[], attributes := #[] }
def k5m1 : Method := { name := "compareTo", desc := "(Ljava/math/BigDecimal;)I", sig := { parameters := [(.object "java/math/BigDecimal")], returnType := some .int }, accessFlags := 1, code := some k5c1 }
/-- java/math/BigDecimal -/
def k5 : Class := { plain "java/math/BigDecimal" (some 3) with
  accessFlags := 33
  interfaces := #[4]
  cf := some (fileOf pool5 3 #[.nestMembers #[500, 851, 770, 697]] #[{ accessFlags := 1, nameIndex := 272, descriptorIndex := 162, attributes := #[] }, { accessFlags := 1, nameIndex := 482, descriptorIndex := 439, attributes := #[] }] 33 12 #[1296] #[{ accessFlags := 26, nameIndex := 1298, descriptorIndex := 1299, attributes := #[] }, { accessFlags := 26, nameIndex := 1301, descriptorIndex := 20, attributes := #[] }, { accessFlags := 26, nameIndex := 1303, descriptorIndex := 20, attributes := #[] }, { accessFlags := 26, nameIndex := 1305, descriptorIndex := 20, attributes := #[] }, { accessFlags := 26, nameIndex := 1307, descriptorIndex := 20, attributes := #[] }, { accessFlags := 26, nameIndex := 1309, descriptorIndex := 20, attributes := #[] }, { accessFlags := 26, nameIndex := 1311, descriptorIndex := 20, attributes := #[] }, { accessFlags := 18, nameIndex := 30, descriptorIndex := 31, attributes := #[] }, { accessFlags := 18, nameIndex := 19, descriptorIndex := 20, attributes := #[] }, { accessFlags := 130, nameIndex := 23, descriptorIndex := 20, attributes := #[] }, { accessFlags := 130, nameIndex := 643, descriptorIndex := 644, attributes := #[] }, { accessFlags := 24, nameIndex := 1313, descriptorIndex := 27, attributes := #[] }, { accessFlags := 26, nameIndex := 190, descriptorIndex := 31, attributes := #[] }, { accessFlags := 146, nameIndex := 26, descriptorIndex := 27, attributes := #[] }, { accessFlags := 26, nameIndex := 1314, descriptorIndex := 20, attributes := #[] }, { accessFlags := 26, nameIndex := 1316, descriptorIndex := 27, attributes := #[] }, { accessFlags := 26, nameIndex := 248, descriptorIndex := 249, attributes := #[] }, { accessFlags := 26, nameIndex := 252, descriptorIndex := 249, attributes := #[] }, { accessFlags := 26, nameIndex := 1319, descriptorIndex := 27, attributes := #[] }, { accessFlags := 26, nameIndex := 1320, descriptorIndex := 27, attributes := #[] }, { accessFlags := 25, nameIndex := 187, descriptorIndex := 479, attributes := #[] }, { accessFlags := 25, nameIndex := 535, descriptorIndex := 479, attributes := #[] }, { accessFlags := 25, nameIndex := 206, descriptorIndex := 479, attributes := #[] }, { accessFlags := 25, nameIndex := 485, descriptorIndex := 479, attributes := #[] }, { accessFlags := 26, nameIndex := 478, descriptorIndex := 479, attributes := #[] }, { accessFlags := 26, nameIndex := 518, descriptorIndex := 479, attributes := #[] }, { accessFlags := 25, nameIndex := 1321, descriptorIndex := 20, attributes := #[] }, { accessFlags := 25, nameIndex := 1328, descriptorIndex := 20, attributes := #[] }, { accessFlags := 25, nameIndex := 1330, descriptorIndex := 20, attributes := #[] }, { accessFlags := 25, nameIndex := 1332, descriptorIndex := 20, attributes := #[] }, { accessFlags := 25, nameIndex := 1334, descriptorIndex := 20, attributes := #[] }, { accessFlags := 25, nameIndex := 1336, descriptorIndex := 20, attributes := #[] }, { accessFlags := 25, nameIndex := 1338, descriptorIndex := 20, attributes := #[] }, { accessFlags := 25, nameIndex := 1340, descriptorIndex := 20, attributes := #[] }, { accessFlags := 26, nameIndex := 749, descriptorIndex := 750, attributes := #[] }, { accessFlags := 26, nameIndex := 708, descriptorIndex := 709, attributes := #[] }, { accessFlags := 26, nameIndex := 97, descriptorIndex := 98, attributes := #[] }, { accessFlags := 74, nameIndex := 811, descriptorIndex := 812, attributes := #[] }, { accessFlags := 26, nameIndex := 1182, descriptorIndex := 20, attributes := #[] }, { accessFlags := 26, nameIndex := 808, descriptorIndex := 20, attributes := #[] }, { accessFlags := 26, nameIndex := 827, descriptorIndex := 98, attributes := #[] }, { accessFlags := 26, nameIndex := 1342, descriptorIndex := 27, attributes := #[] }, { accessFlags := 26, nameIndex := 1068, descriptorIndex := 1069, attributes := #[] }, { accessFlags := 4120, nameIndex := 313, descriptorIndex := 314, attributes := #[] }])
  fields := #[{ name := "L", type := .double, accessFlags := 26, slot := 0, constantValue := 0 }, { name := "P_F", type := .int, accessFlags := 26, slot := 1, constantValue := 0 }, { name := "Q_MIN_F", type := .int, accessFlags := 26, slot := 2, constantValue := 0 }, { name := "Q_MAX_F", type := .int, accessFlags := 26, slot := 3, constantValue := 0 }, { name := "P_D", type := .int, accessFlags := 26, slot := 4, constantValue := 0 }, { name := "Q_MIN_D", type := .int, accessFlags := 26, slot := 5, constantValue := 0 }, { name := "Q_MAX_D", type := .int, accessFlags := 26, slot := 6, constantValue := 0 }, { name := "intVal", type := (.object "java/math/BigInteger"), accessFlags := 18, slot := 0, constantValue := 0 }, { name := "scale", type := .int, accessFlags := 18, slot := 1, constantValue := 0 }, { name := "precision", type := .int, accessFlags := 130, slot := 2, constantValue := 0 }, { name := "stringCache", type := (.object "java/lang/String"), accessFlags := 130, slot := 3, constantValue := 0 }, { name := "INFLATED", type := .long, accessFlags := 24, slot := 7, constantValue := 0 }, { name := "INFLATED_BIGINT", type := (.object "java/math/BigInteger"), accessFlags := 26, slot := 8, constantValue := 0 }, { name := "intCompact", type := .long, accessFlags := 146, slot := 4, constantValue := 0 }, { name := "MAX_COMPACT_DIGITS", type := .int, accessFlags := 26, slot := 9, constantValue := 0 }, { name := "serialVersionUID", type := .long, accessFlags := 26, slot := 10, constantValue := 0 }, { name := "ZERO_THROUGH_TEN", type := (.array (.object "java/math/BigDecimal")), accessFlags := 26, slot := 11, constantValue := 0 }, { name := "ZERO_SCALED_BY", type := (.array (.object "java/math/BigDecimal")), accessFlags := 26, slot := 12, constantValue := 0 }, { name := "HALF_LONG_MAX_VALUE", type := .long, accessFlags := 26, slot := 13, constantValue := 0 }, { name := "HALF_LONG_MIN_VALUE", type := .long, accessFlags := 26, slot := 14, constantValue := 0 }, { name := "ZERO", type := (.object "java/math/BigDecimal"), accessFlags := 25, slot := 15, constantValue := 0 }, { name := "ONE", type := (.object "java/math/BigDecimal"), accessFlags := 25, slot := 16, constantValue := 0 }, { name := "TWO", type := (.object "java/math/BigDecimal"), accessFlags := 25, slot := 17, constantValue := 0 }, { name := "TEN", type := (.object "java/math/BigDecimal"), accessFlags := 25, slot := 18, constantValue := 0 }, { name := "ONE_TENTH", type := (.object "java/math/BigDecimal"), accessFlags := 26, slot := 19, constantValue := 0 }, { name := "ONE_HALF", type := (.object "java/math/BigDecimal"), accessFlags := 26, slot := 20, constantValue := 0 }, { name := "ROUND_UP", type := .int, accessFlags := 25, slot := 21, constantValue := 0 }, { name := "ROUND_DOWN", type := .int, accessFlags := 25, slot := 22, constantValue := 0 }, { name := "ROUND_CEILING", type := .int, accessFlags := 25, slot := 23, constantValue := 0 }, { name := "ROUND_FLOOR", type := .int, accessFlags := 25, slot := 24, constantValue := 0 }, { name := "ROUND_HALF_UP", type := .int, accessFlags := 25, slot := 25, constantValue := 0 }, { name := "ROUND_HALF_DOWN", type := .int, accessFlags := 25, slot := 26, constantValue := 0 }, { name := "ROUND_HALF_EVEN", type := .int, accessFlags := 25, slot := 27, constantValue := 0 }, { name := "ROUND_UNNECESSARY", type := .int, accessFlags := 25, slot := 28, constantValue := 0 }, { name := "DOUBLE_10_POW", type := (.array .double), accessFlags := 26, slot := 29, constantValue := 0 }, { name := "FLOAT_10_POW", type := (.array .float), accessFlags := 26, slot := 30, constantValue := 0 }, { name := "LONG_TEN_POWERS_TABLE", type := (.array .long), accessFlags := 26, slot := 31, constantValue := 0 }, { name := "BIG_TEN_POWERS_TABLE", type := (.array (.object "java/math/BigInteger")), accessFlags := 74, slot := 32, constantValue := 0 }, { name := "BIG_TEN_POWERS_TABLE_INITLEN", type := .int, accessFlags := 26, slot := 33, constantValue := 0 }, { name := "BIG_TEN_POWERS_TABLE_MAX", type := .int, accessFlags := 26, slot := 34, constantValue := 0 }, { name := "THRESHOLDS_TABLE", type := (.array .long), accessFlags := 26, slot := 35, constantValue := 0 }, { name := "DIV_NUM_BASE", type := .long, accessFlags := 26, slot := 36, constantValue := 0 }, { name := "LONGLONG_TEN_POWERS_TABLE", type := (.array (.array .long)), accessFlags := 26, slot := 37, constantValue := 0 }, { name := "$assertionsDisabled", type := .boolean, accessFlags := 4120, slot := 38, constantValue := 0 }]
  methods := #[k5m0, k5m1]
  instanceTypes := #[(.object "java/math/BigInteger"), .int, .int, (.object "java/lang/String"), .long]
  staticTypes := #[.double, .int, .int, .int, .int, .int, .int, .long, (.object "java/math/BigInteger"), .int, .long, (.array (.object "java/math/BigDecimal")), (.array (.object "java/math/BigDecimal")), .long, .long, (.object "java/math/BigDecimal"), (.object "java/math/BigDecimal"), (.object "java/math/BigDecimal"), (.object "java/math/BigDecimal"), (.object "java/math/BigDecimal"), (.object "java/math/BigDecimal"), .int, .int, .int, .int, .int, .int, .int, .int, (.array .double), (.array .float), (.array .long), (.array (.object "java/math/BigInteger")), .int, .int, (.array .long), .long, (.array (.array .long)), .boolean]
  resolved := Array.replicate 1637 none
  statics := some 0 }

def pool6 : Array CpInfo := pool [(8, .class_ 10), (1, u "java/lang/Iterable"), (24, .class_ 36), (0, u "java/lang/Object")] 25

/-- java/lang/Iterable -/
def k6 : Class := { plain "java/lang/Iterable" (some 0) with
  accessFlags := 1537
  interfaces := #[]
  cf := some (fileOf pool6 8 #[] #[] 1537 35 #[] #[])
  fields := #[]
  methods := #[]
  instanceTypes := #[]
  staticTypes := #[]
  resolved := Array.replicate 62 none
  statics := none }

def pool7 : Array CpInfo := pool [(10, .class_ 12), (1, u "java/util/Collection"), (0, u "toArray"), (16, u "()Z"), (29, .class_ 61), (0, u "java/lang/Object"), (0, .class_ 63), (0, u "java/lang/Iterable"), (2, u "isEmpty"), (3, u "()[Ljava/lang/Object;")] 44

def k7m0 : Method := { name := "isEmpty", desc := "()Z", sig := { parameters := [], returnType := some .boolean }, accessFlags := 1025, code := none }
def k7m1 : Method := { name := "toArray", desc := "()[Ljava/lang/Object;", sig := { parameters := [], returnType := some (.array (.object "java/lang/Object")) }, accessFlags := 1025, code := none }
/-- java/util/Collection -/
def k7 : Class := { plain "java/util/Collection" (some 0) with
  accessFlags := 1537
  interfaces := #[6]
  cf := some (fileOf pool7 10 #[] #[{ accessFlags := 1025, nameIndex := 66, descriptorIndex := 30, attributes := #[] }, { accessFlags := 1025, nameIndex := 13, descriptorIndex := 70, attributes := #[] }] 1537 60 #[62] #[])
  fields := #[]
  methods := #[k7m0, k7m1]
  instanceTypes := #[]
  staticTypes := #[]
  resolved := Array.replicate 115 none
  statics := none }

def pool8 : Array CpInfo := pool [(1, .methodref 2 3), (0, .class_ 4), (0, .nameAndType 5 6), (0, u "java/lang/Object"), (0, u "<init>"), (0, u "()V"), (1, .class_ 10), (1, u "java/util/AbstractCollection"), (66, .class_ 78), (0, u "java/util/Collection")] 81

def k8c0 : Code := { maxStack := 1, maxLocals := 1, code := jdk_22_method_1_code, exceptionTable := #[], attributes := #[] }
def k8m0 : Method := { name := "<init>", desc := "()V", sig := { parameters := [], returnType := none }, accessFlags := 4, code := some k8c0 }
/-- java/util/AbstractCollection -/
def k8 : Class := { plain "java/util/AbstractCollection" (some 0) with
  accessFlags := 1057
  interfaces := #[7]
  cf := some (fileOf pool8 8 #[] #[{ accessFlags := 4, nameIndex := 5, descriptorIndex := 6, attributes := #[] }] 1057 2 #[77] #[])
  fields := #[]
  methods := #[k8m0]
  instanceTypes := #[]
  staticTypes := #[]
  resolved := Array.replicate 160 none
  statics := none }

def pool9 : Array CpInfo := pool [(8, .class_ 10), (1, u "java/util/SequencedCollection"), (15, .class_ 27), (0, u "java/lang/Object"), (0, .class_ 29), (0, u "java/util/Collection")] 27

/-- java/util/SequencedCollection -/
def k9 : Class := { plain "java/util/SequencedCollection" (some 0) with
  accessFlags := 1537
  interfaces := #[7]
  cf := some (fileOf pool9 8 #[] #[] 1537 26 #[28] #[])
  fields := #[]
  methods := #[]
  instanceTypes := #[]
  staticTypes := #[]
  resolved := Array.replicate 57 none
  statics := none }

def pool10 : Array CpInfo := pool [(8, .class_ 10), (1, u "java/util/List"), (7, u "()Z"), (12, u "(Ljava/lang/Object;)V"), (16, u "<init>"), (18, u "isEmpty"), (7, u "get"), (0, u "(I)Ljava/lang/Object;"), (2, u "size"), (0, u "()I"), (7, u "of"), (2, .class_ 93), (1, u "java/util/ImmutableCollections"), (2, .class_ 97), (0, u "java/util/ImmutableCollections$List12"), (0, .methodref 96 99), (0, .nameAndType 48 31), (0, .methodref 96 101), (0, .nameAndType 48 102), (0, u "(Ljava/lang/Object;Ljava/lang/Object;)V"), (0, .class_ 104), (0, u "java/lang/Object"), (3, u "([Ljava/lang/Object;)Ljava/util/List;"), (0, .methodref 91 110), (0, .nameAndType 111 108), (0, u "listFromArray"), (0, .methodref 91 113), (0, .nameAndType 114 115), (0, u "listCopy"), (0, u "(Ljava/util/Collection;)Ljava/util/List;"), (4, .class_ 121), (0, u "java/util/SequencedCollection"), (112, u "copyOf")] 16

def k10m0 : Method := { name := "size", desc := "()I", sig := { parameters := [], returnType := some .int }, accessFlags := 1025, code := none }
def k10m1 : Method := { name := "isEmpty", desc := "()Z", sig := { parameters := [], returnType := some .boolean }, accessFlags := 1025, code := none }
def k10m2 : Method := { name := "get", desc := "(I)Ljava/lang/Object;", sig := { parameters := [.int], returnType := some (.object "java/lang/Object") }, accessFlags := 1025, code := none }
def k10c3 : Code := { maxStack := 5, maxLocals := 2, code := jdk_40_method_47_code, exceptionTable := #[], attributes := #[] }
def k10m3 : Method := { name := "of", desc := "([Ljava/lang/Object;)Ljava/util/List;", sig := { parameters := [(.array (.object "java/lang/Object"))], returnType := some (.object "java/util/List") }, accessFlags := 137, code := some k10c3 }
def k10c4 : Code := { maxStack := 1, maxLocals := 1, code := jdk_40_method_48_code, exceptionTable := #[], attributes := #[] }
def k10m4 : Method := { name := "copyOf", desc := "(Ljava/util/Collection;)Ljava/util/List;", sig := { parameters := [(.object "java/util/Collection")], returnType := some (.object "java/util/List") }, accessFlags := 9, code := some k10c4 }
/-- java/util/List -/
def k10 : Class := { plain "java/util/List" (some 0) with
  accessFlags := 1537
  interfaces := #[9]
  cf := some (fileOf pool10 8 #[] #[{ accessFlags := 1025, nameIndex := 79, descriptorIndex := 80, attributes := #[] }, { accessFlags := 1025, nameIndex := 67, descriptorIndex := 18, attributes := #[] }, { accessFlags := 1025, nameIndex := 75, descriptorIndex := 76, attributes := #[] }, { accessFlags := 137, nameIndex := 88, descriptorIndex := 108, attributes := #[] }, { accessFlags := 9, nameIndex := 234, descriptorIndex := 115, attributes := #[] }] 1537 103 #[120] #[])
  fields := #[]
  methods := #[k10m0, k10m1, k10m2, k10m3, k10m4]
  instanceTypes := #[]
  staticTypes := #[]
  resolved := Array.replicate 251 none
  statics := none }

def pool11 : Array CpInfo := pool [(1, .methodref 2 3), (0, .class_ 4), (0, .nameAndType 5 6), (0, u "java/util/AbstractCollection"), (0, u "<init>"), (0, u "()V"), (0, .fieldref 8 9), (0, .class_ 10), (0, .nameAndType 11 12), (0, u "java/util/AbstractList"), (0, u "modCount"), (0, u "I"), (64, .class_ 78), (0, u "java/util/AbstractList$Itr"), (3, .class_ 83), (0, u "java/util/AbstractList$ListItr"), (9, .class_ 94), (0, u "java/util/AbstractList$RandomAccessSubList"), (3, .class_ 99), (0, u "java/util/AbstractList$SubList"), (33, .class_ 134), (0, u "java/util/List"), (73, .class_ 209), (0, u "java/util/AbstractList$SubList$1"), (0, .class_ 211), (0, u "java/util/AbstractList$RandomAccessSpliterator")] 6

def k11c0 : Code := { maxStack := 2, maxLocals := 1, code := jdk_39_method_1_code, exceptionTable := #[], attributes := #[] }
def k11m0 : Method := { name := "<init>", desc := "()V", sig := { parameters := [], returnType := none }, accessFlags := 4, code := some k11c0 }
/-- java/util/AbstractList -/
def k11 : Class := { plain "java/util/AbstractList" (some 8) with
  accessFlags := 1057
  interfaces := #[10]
  cf := some (fileOf pool11 8 #[.nestMembers #[93, 98, 208, 210, 82, 77]] #[{ accessFlags := 4, nameIndex := 5, descriptorIndex := 6, attributes := #[] }] 1057 2 #[133] #[{ accessFlags := 132, nameIndex := 11, descriptorIndex := 12, attributes := #[] }])
  fields := #[{ name := "modCount", type := .int, accessFlags := 132, slot := 0, constantValue := 0 }]
  methods := #[k11m0]
  instanceTypes := #[.int]
  staticTypes := #[]
  resolved := Array.replicate 218 none
  statics := none }

def pool12 : Array CpInfo := pool [(1, .class_ 2), (0, u "java/util/RandomAccess"), (0, .class_ 4), (0, u "java/lang/Object")] 2

/-- java/util/RandomAccess -/
def k12 : Class := { plain "java/util/RandomAccess" (some 0) with
  accessFlags := 1537
  interfaces := #[]
  cf := some (fileOf pool12 1 #[] #[] 1537 3 #[] #[])
  fields := #[]
  methods := #[]
  instanceTypes := #[]
  staticTypes := #[]
  resolved := Array.replicate 7 none
  statics := none }

def pool13 : Array CpInfo := pool [(1, .class_ 2), (0, u "java/lang/Cloneable"), (0, .class_ 4), (0, u "java/lang/Object")] 2

/-- java/lang/Cloneable -/
def k13 : Class := { plain "java/lang/Cloneable" (some 0) with
  accessFlags := 1537
  interfaces := #[]
  cf := some (fileOf pool13 1 #[] #[] 1537 3 #[] #[])
  fields := #[]
  methods := #[]
  instanceTypes := #[]
  staticTypes := #[]
  resolved := Array.replicate 7 none
  statics := none }

def pool14 : Array CpInfo := pool [(1, .methodref 2 3), (0, .class_ 4), (0, .nameAndType 5 6), (0, u "java/util/AbstractList"), (0, u "<init>"), (0, u "()V"), (0, .class_ 8), (0, u "java/lang/Object"), (0, .fieldref 10 11), (0, .class_ 12), (0, .nameAndType 13 14), (0, u "java/util/ArrayList"), (0, u "elementData"), (0, u "[Ljava/lang/Object;"), (2, u "EMPTY_ELEMENTDATA"), (21, .fieldref 10 40), (0, .nameAndType 41 14), (0, u "DEFAULTCAPACITY_EMPTY_ELEMENTDATA"), (4, u "toArray"), (0, u "()[Ljava/lang/Object;"), (0, .fieldref 10 49), (0, .nameAndType 50 51), (0, u "size"), (0, u "I"), (6, .class_ 60), (1, u "java/util/Arrays"), (0, u "copyOf"), (1, .fieldref 10 64), (0, .nameAndType 65 51), (0, u "modCount"), (0, .methodref 58 67), (0, .nameAndType 61 68), (0, u "([Ljava/lang/Object;I)[Ljava/lang/Object;"), (0, .methodref 10 70), (0, .nameAndType 71 72), (0, u "grow"), (0, u "(I)[Ljava/lang/Object;"), (6, .methodref 80 81), (0, .class_ 82), (0, .nameAndType 83 84), (0, u "java/lang/Math"), (0, u "max"), (0, u "(II)I"), (11, u "(Ljava/lang/Object;)Z"), (21, .methodref 119 120), (0, .class_ 121), (0, .nameAndType 122 84), (0, u "java/util/Objects"), (0, u "checkIndex"), (0, .methodref 10 124), (0, .nameAndType 13 125), (0, u "(I)Ljava/lang/Object;"), (3, .methodref 10 130), (0, .nameAndType 71 47), (0, .methodref 10 132), (0, .nameAndType 133 134), (0, u "add"), (0, u "(Ljava/lang/Object;[Ljava/lang/Object;I)V"), (13, .class_ 149), (0, u "java/util/List"), (23, u "()Z"), (12, u "()I"), (75, .class_ 263), (0, u "java/util/ArrayList$ListItr"), (3, .class_ 268), (0, u "java/util/ArrayList$Itr"), (7, .class_ 277), (0, u "java/util/ArrayList$SubList"), (12, .class_ 291), (0, u "java/util/ArrayList$ArrayListSpliterator"), (37, .class_ 330), (0, u "java/util/RandomAccess"), (0, .class_ 332), (0, u "java/lang/Cloneable"), (0, .class_ 334), (0, u "java/io/Serializable"), (0, u "serialVersionUID"), (0, u "J"), (3, u "DEFAULT_CAPACITY"), (22, u "isEmpty"), (17, u "get"), (118, .class_ 501), (0, u "java/util/ArrayList$SubList$2"), (0, .class_ 503), (0, u "java/util/ArrayList$SubList$1")] 5

def k14c0 : Code := { maxStack := 2, maxLocals := 1, code := jdk_38_method_2_code, exceptionTable := #[], attributes := #[] }
def k14m0 : Method := { name := "<init>", desc := "()V", sig := { parameters := [], returnType := none }, accessFlags := 1, code := some k14c0 }
def k14c1 : Code := { maxStack := 4, maxLocals := 4, code := jdk_38_method_6_code, exceptionTable := #[], attributes := #[] }
def k14m1 : Method := { name := "grow", desc := "(I)[Ljava/lang/Object;", sig := { parameters := [.int], returnType := some (.array (.object "java/lang/Object")) }, accessFlags := 2, code := some k14c1 }
def k14c2 : Code := { maxStack := 3, maxLocals := 1, code := jdk_38_method_7_code, exceptionTable := #[], attributes := #[] }
def k14m2 : Method := { name := "grow", desc := "()[Ljava/lang/Object;", sig := { parameters := [], returnType := some (.array (.object "java/lang/Object")) }, accessFlags := 2, code := some k14c2 }
def k14c3 : Code := { maxStack := 1, maxLocals := 1, code := jdk_38_method_8_code, exceptionTable := #[], attributes := #[] }
def k14m3 : Method := { name := "size", desc := "()I", sig := { parameters := [], returnType := some .int }, accessFlags := 1, code := some k14c3 }
def k14c4 : Code := { maxStack := 1, maxLocals := 1, code := jdk_38_method_9_code, exceptionTable := #[], attributes := #[] }
def k14m4 : Method := { name := "isEmpty", desc := "()Z", sig := { parameters := [], returnType := some .boolean }, accessFlags := 1, code := some k14c4 }
def k14c5 : Code := { maxStack := 2, maxLocals := 1, code := jdk_38_method_16_code, exceptionTable := #[], attributes := #[] }
def k14m5 : Method := { name := "toArray", desc := "()[Ljava/lang/Object;", sig := { parameters := [], returnType := some (.array (.object "java/lang/Object")) }, accessFlags := 1, code := some k14c5 }
def k14c6 : Code := { maxStack := 2, maxLocals := 2, code := jdk_38_method_18_code, exceptionTable := #[], attributes := #[] }
def k14m6 : Method := { name := "elementData", desc := "(I)Ljava/lang/Object;", sig := { parameters := [.int], returnType := some (.object "java/lang/Object") }, accessFlags := 0, code := some k14c6 }
def k14c7 : Code := { maxStack := 2, maxLocals := 2, code := jdk_38_method_20_code, exceptionTable := #[], attributes := #[] }
def k14m7 : Method := { name := "get", desc := "(I)Ljava/lang/Object;", sig := { parameters := [.int], returnType := some (.object "java/lang/Object") }, accessFlags := 1, code := some k14c7 }
def k14c8 : Code := { maxStack := 3, maxLocals := 4, code := jdk_38_method_24_code, exceptionTable := #[], attributes := #[] }
def k14m8 : Method := { name := "add", desc := "(Ljava/lang/Object;[Ljava/lang/Object;I)V", sig := { parameters := [(.object "java/lang/Object"), (.array (.object "java/lang/Object")), .int], returnType := none }, accessFlags := 2, code := some k14c8 }
def k14c9 : Code := { maxStack := 4, maxLocals := 2, code := jdk_38_method_25_code, exceptionTable := #[], attributes := #[] }
def k14m9 : Method := { name := "add", desc := "(Ljava/lang/Object;)Z", sig := { parameters := [(.object "java/lang/Object")], returnType := some .boolean }, accessFlags := 1, code := some k14c9 }
/-- java/util/ArrayList -/
def k14 : Class := { plain "java/util/ArrayList" (some 11) with
  accessFlags := 33
  interfaces := #[10, 12, 13, 2]
  cf := some (fileOf pool14 10 #[.nestMembers #[290, 276, 500, 502, 262, 267]] #[{ accessFlags := 1, nameIndex := 5, descriptorIndex := 6, attributes := #[] }, { accessFlags := 2, nameIndex := 71, descriptorIndex := 72, attributes := #[] }, { accessFlags := 2, nameIndex := 71, descriptorIndex := 47, attributes := #[] }, { accessFlags := 1, nameIndex := 50, descriptorIndex := 186, attributes := #[] }, { accessFlags := 1, nameIndex := 363, descriptorIndex := 173, attributes := #[] }, { accessFlags := 1, nameIndex := 46, descriptorIndex := 47, attributes := #[] }, { accessFlags := 0, nameIndex := 13, descriptorIndex := 125, attributes := #[] }, { accessFlags := 1, nameIndex := 381, descriptorIndex := 125, attributes := #[] }, { accessFlags := 2, nameIndex := 133, descriptorIndex := 134, attributes := #[] }, { accessFlags := 1, nameIndex := 133, descriptorIndex := 96, attributes := #[] }] 33 2 #[148, 329, 331, 333] #[{ accessFlags := 26, nameIndex := 335, descriptorIndex := 336, attributes := #[] }, { accessFlags := 26, nameIndex := 340, descriptorIndex := 51, attributes := #[] }, { accessFlags := 26, nameIndex := 17, descriptorIndex := 14, attributes := #[] }, { accessFlags := 26, nameIndex := 41, descriptorIndex := 14, attributes := #[] }, { accessFlags := 128, nameIndex := 13, descriptorIndex := 14, attributes := #[] }, { accessFlags := 2, nameIndex := 50, descriptorIndex := 51, attributes := #[] }])
  fields := #[{ name := "serialVersionUID", type := .long, accessFlags := 26, slot := 0, constantValue := 0 }, { name := "DEFAULT_CAPACITY", type := .int, accessFlags := 26, slot := 1, constantValue := 0 }, { name := "EMPTY_ELEMENTDATA", type := (.array (.object "java/lang/Object")), accessFlags := 26, slot := 2, constantValue := 0 }, { name := "DEFAULTCAPACITY_EMPTY_ELEMENTDATA", type := (.array (.object "java/lang/Object")), accessFlags := 26, slot := 3, constantValue := 0 }, { name := "elementData", type := (.array (.object "java/lang/Object")), accessFlags := 128, slot := 1, constantValue := 0 }, { name := "size", type := .int, accessFlags := 2, slot := 2, constantValue := 0 }]
  methods := #[k14m0, k14m1, k14m2, k14m3, k14m4, k14m5, k14m6, k14m7, k14m8, k14m9]
  instanceTypes := #[.int, (.array (.object "java/lang/Object")), .int]
  staticTypes := #[.long, .int, (.array (.object "java/lang/Object")), (.array (.object "java/lang/Object"))]
  resolved := Array.replicate 509 none
  statics := some 1 }

def pool15 : Array CpInfo := pool [(1, .class_ 2), (0, u "java/lang/Math"), (1, .class_ 6), (1, u "java/lang/Object"), (0, u "<init>"), (0, u "()V"), (89, .class_ 100), (1, u "java/lang/Math$RandomNumberGeneratorHolder"), (71, u "negativeZeroFloatBits"), (0, u "J"), (2, u "negativeZeroDoubleBits"), (21, u "max"), (2, u "min"), (43, u "$assertionsDisabled"), (0, u "Z"), (88, u "(II)I"), (2, u "twoToTheDoubleScaleDown"), (0, u "D"), (4, u "twoToTheDoubleScaleUp"), (9, u "E"), (3, u "PI"), (2, u "TAU"), (2, u "DEGREES_TO_RADIANS"), (0, u "RADIANS_TO_DEGREES")] 94

def k15m0 : Method := { name := "<init>", desc := "()V", sig := { parameters := [], returnType := none }, accessFlags := 2, code := none }
def k15c1 : Code := { maxStack := 2, maxLocals := 2, code := jdk_29_method_65_code, exceptionTable := #[], attributes := #[] }
def k15m1 : Method := { name := "max", desc := "(II)I", sig := { parameters := [.int, .int], returnType := some .int }, accessFlags := 9, code := some k15c1 }
def k15c2 : Code := { maxStack := 2, maxLocals := 2, code := jdk_29_method_69_code, exceptionTable := #[], attributes := #[] }
def k15m2 : Method := { name := "min", desc := "(II)I", sig := { parameters := [.int, .int], returnType := some .int }, accessFlags := 9, code := some k15c2 }
/-- java/lang/Math -/
def k15 : Class := { plain "java/lang/Math" (some 0) with
  accessFlags := 49
  interfaces := #[]
  cf := some (fileOf pool15 1 #[.nestMembers #[98]] #[{ accessFlags := 2, nameIndex := 7, descriptorIndex := 8, attributes := #[] }, { accessFlags := 9, nameIndex := 198, descriptorIndex := 335, attributes := #[] }, { accessFlags := 9, nameIndex := 201, descriptorIndex := 335, attributes := #[] }] 49 4 #[] #[{ accessFlags := 25, nameIndex := 354, descriptorIndex := 339, attributes := #[] }, { accessFlags := 25, nameIndex := 358, descriptorIndex := 339, attributes := #[] }, { accessFlags := 25, nameIndex := 361, descriptorIndex := 339, attributes := #[] }, { accessFlags := 26, nameIndex := 364, descriptorIndex := 339, attributes := #[] }, { accessFlags := 26, nameIndex := 365, descriptorIndex := 339, attributes := #[] }, { accessFlags := 26, nameIndex := 172, descriptorIndex := 173, attributes := #[] }, { accessFlags := 26, nameIndex := 176, descriptorIndex := 173, attributes := #[] }, { accessFlags := 8, nameIndex := 344, descriptorIndex := 339, attributes := #[] }, { accessFlags := 8, nameIndex := 338, descriptorIndex := 339, attributes := #[] }, { accessFlags := 4120, nameIndex := 245, descriptorIndex := 246, attributes := #[] }])
  fields := #[{ name := "E", type := .double, accessFlags := 25, slot := 0, constantValue := 0 }, { name := "PI", type := .double, accessFlags := 25, slot := 1, constantValue := 0 }, { name := "TAU", type := .double, accessFlags := 25, slot := 2, constantValue := 0 }, { name := "DEGREES_TO_RADIANS", type := .double, accessFlags := 26, slot := 3, constantValue := 0 }, { name := "RADIANS_TO_DEGREES", type := .double, accessFlags := 26, slot := 4, constantValue := 0 }, { name := "negativeZeroFloatBits", type := .long, accessFlags := 26, slot := 5, constantValue := 0 }, { name := "negativeZeroDoubleBits", type := .long, accessFlags := 26, slot := 6, constantValue := 0 }, { name := "twoToTheDoubleScaleUp", type := .double, accessFlags := 8, slot := 7, constantValue := 0 }, { name := "twoToTheDoubleScaleDown", type := .double, accessFlags := 8, slot := 8, constantValue := 0 }, { name := "$assertionsDisabled", type := .boolean, accessFlags := 4120, slot := 9, constantValue := 0 }]
  methods := #[k15m0, k15m1, k15m2]
  instanceTypes := #[]
  staticTypes := #[.double, .double, .double, .double, .double, .long, .long, .double, .double, .boolean]
  resolved := Array.replicate 460 none
  statics := none }

def pool16 : Array CpInfo := pool [(1, .methodref 2 3), (0, .class_ 4), (0, .nameAndType 5 6), (0, u "java/lang/Object"), (0, u "<init>"), (0, u "()V"), (0, .class_ 8), (0, u "java/lang/Record")] 13

def k16c0 : Code := { maxStack := 1, maxLocals := 1, code := jdk_30_method_1_code, exceptionTable := #[], attributes := #[] }
def k16m0 : Method := { name := "<init>", desc := "()V", sig := { parameters := [], returnType := none }, accessFlags := 4, code := some k16c0 }
/-- java/lang/Record -/
def k16 : Class := { plain "java/lang/Record" (some 0) with
  accessFlags := 1057
  interfaces := #[]
  cf := some (fileOf pool16 7 #[] #[{ accessFlags := 4, nameIndex := 5, descriptorIndex := 6, attributes := #[] }] 1057 2 #[] #[])
  fields := #[]
  methods := #[k16m0]
  instanceTypes := #[]
  staticTypes := #[]
  resolved := Array.replicate 22 none
  statics := none }

def pool17 : Array CpInfo := pool [(1, .methodref 2 3), (0, .class_ 4), (0, .nameAndType 5 6), (0, u "java/lang/Record"), (0, u "<init>"), (0, u "()V"), (0, .methodref 8 9), (0, .class_ 10), (0, .nameAndType 11 12), (0, u "java/lang/String"), (0, u "isBlank"), (0, u "()Z"), (7, .interfaceMethodref 21 22), (0, .class_ 23), (0, .nameAndType 24 12), (0, u "java/util/List"), (0, u "isEmpty"), (2, .interfaceMethodref 21 28), (0, .nameAndType 29 30), (0, u "size"), (0, u "()I"), (0, .interfaceMethodref 21 32), (0, .nameAndType 33 34), (0, u "get"), (0, u "(I)Ljava/lang/Object;"), (0, .class_ 36), (0, u "java/math/BigDecimal"), (0, .methodref 35 38), (0, .nameAndType 39 30), (0, u "signum"), (0, .fieldref 35 41), (0, .nameAndType 42 43), (0, u "ONE"), (0, u "Ljava/math/BigDecimal;"), (0, .methodref 35 45), (0, .nameAndType 46 47), (0, u "compareTo"), (0, u "(Ljava/math/BigDecimal;)I"), (8, .interfaceMethodref 21 57), (0, .nameAndType 58 59), (0, u "copyOf"), (0, u "(Ljava/util/Collection;)Ljava/util/List;"), (0, .fieldref 61 62), (0, .class_ 63), (0, .nameAndType 64 65), (0, u "com/example/restoria/restoria/mortality/MortalityTable"), (0, u "name"), (0, u "Ljava/lang/String;"), (0, .fieldref 61 67), (0, .nameAndType 68 69), (0, u "firstAge"), (0, u "I"), (0, .fieldref 61 71), (0, .nameAndType 72 73), (0, u "rates"), (0, u "Ljava/util/List;"), (0, .methodref 61 75), (0, .nameAndType 76 30), (0, u "lastAge"), (17, u "(Ljava/lang/String;ILjava/util/List;)V"), (6, u "rateOfDeath"), (0, u "(I)Ljava/math/BigDecimal;")] 35

def k17c0 : Code := { maxStack := 4, maxLocals := 6, code := prog_35_method_1_code, exceptionTable := #[], attributes := #[] }
def k17m0 : Method := { name := "<init>", desc := "(Ljava/lang/String;ILjava/util/List;)V", sig := { parameters := [(.object "java/lang/String"), .int, (.object "java/util/List")], returnType := none }, accessFlags := 1, code := some k17c0 }
def k17c1 : Code := { maxStack := 2, maxLocals := 1, code := prog_35_method_2_code, exceptionTable := #[], attributes := #[] }
def k17m1 : Method := { name := "lastAge", desc := "()I", sig := { parameters := [], returnType := some .int }, accessFlags := 1, code := some k17c1 }
def k17c2 : Code := { maxStack := 6, maxLocals := 2, code := prog_35_method_4_code, exceptionTable := #[], attributes := #[] }
def k17m2 : Method := { name := "rateOfDeath", desc := "(I)Ljava/math/BigDecimal;", sig := { parameters := [.int], returnType := some (.object "java/math/BigDecimal") }, accessFlags := 1, code := some k17c2 }
/-- com/example/restoria/restoria/mortality/MortalityTable -/
def k17 : Class := { plain "com/example/restoria/restoria/mortality/MortalityTable" (some 16) with
  accessFlags := 49
  interfaces := #[]
  cf := some (fileOf pool17 61 #[] #[{ accessFlags := 1, nameIndex := 5, descriptorIndex := 94, attributes := #[] }, { accessFlags := 1, nameIndex := 76, descriptorIndex := 30, attributes := #[] }, { accessFlags := 1, nameIndex := 101, descriptorIndex := 102, attributes := #[] }] 49 2 #[] #[{ accessFlags := 18, nameIndex := 64, descriptorIndex := 65, attributes := #[] }, { accessFlags := 18, nameIndex := 68, descriptorIndex := 69, attributes := #[] }, { accessFlags := 18, nameIndex := 72, descriptorIndex := 73, attributes := #[] }])
  fields := #[{ name := "name", type := (.object "java/lang/String"), accessFlags := 18, slot := 0, constantValue := 0 }, { name := "firstAge", type := .int, accessFlags := 18, slot := 1, constantValue := 0 }, { name := "rates", type := (.object "java/util/List"), accessFlags := 18, slot := 2, constantValue := 0 }]
  methods := #[k17m0, k17m1, k17m2]
  instanceTypes := #[(.object "java/lang/String"), .int, (.object "java/util/List")]
  staticTypes := #[]
  resolved := Array.replicate 138 none
  statics := none }

def pool18 : Array CpInfo := pool [(2, .class_ 4), (1, u "java/lang/CharSequence"), (42, .class_ 48), (0, u "java/lang/CharSequence$1CodePointIterator"), (10, .class_ 60), (0, u "java/lang/CharSequence$1CharIterator"), (5, .class_ 67), (0, u "java/lang/Object")] 63

/-- java/lang/CharSequence -/
def k18 : Class := { plain "java/lang/CharSequence" (some 0) with
  accessFlags := 1537
  interfaces := #[]
  cf := some (fileOf pool18 2 #[.nestMembers #[47, 59]] #[] 1537 66 #[] #[])
  fields := #[]
  methods := #[]
  instanceTypes := #[]
  staticTypes := #[]
  resolved := Array.replicate 131 none
  statics := none }

def pool19 : Array CpInfo := pool [(1, .class_ 2), (0, u "java/lang/constant/Constable"), (0, .class_ 4), (0, u "java/lang/Object")] 6

/-- java/lang/constant/Constable -/
def k19 : Class := { plain "java/lang/constant/Constable" (some 0) with
  accessFlags := 1537
  interfaces := #[]
  cf := some (fileOf pool19 1 #[] #[] 1537 3 #[] #[])
  fields := #[]
  methods := #[]
  instanceTypes := #[]
  staticTypes := #[]
  resolved := Array.replicate 11 none
  statics := none }

def pool20 : Array CpInfo := pool [(1, .class_ 2), (0, u "java/lang/constant/ConstantDesc"), (0, .class_ 4), (0, u "java/lang/Object")] 32

/-- java/lang/constant/ConstantDesc -/
def k20 : Class := { plain "java/lang/constant/ConstantDesc" (some 0) with
  accessFlags := 1537
  interfaces := #[]
  cf := some (fileOf pool20 1 #[] #[] 1537 3 #[] #[])
  fields := #[]
  methods := #[]
  instanceTypes := #[]
  staticTypes := #[]
  resolved := Array.replicate 37 none
  statics := none }

def pool21 : Array CpInfo := pool [(2, .class_ 4), (1, u "java/lang/Object"), (0, u "<init>"), (0, u "()V"), (2, .fieldref 10 11), (0, .class_ 12), (0, .nameAndType 13 14), (0, u "java/lang/String"), (0, u "value"), (0, u "[B"), (0, .fieldref 10 16), (0, .nameAndType 17 18), (0, u "coder"), (0, u "B"), (2, u "hash"), (0, u "I"), (2, u "hashIsZero"), (0, u "Z"), (11, .fieldref 10 39), (0, .nameAndType 40 26), (0, u "COMPACT_STRINGS"), (66, .class_ 109), (1, u "java/lang/StringLatin1"), (32, u "()Z"), (191, u "()I"), (0, .methodref 10 336), (0, .nameAndType 17 337), (0, u "()B"), (154, .methodref 10 493), (0, .nameAndType 494 142), (0, u "isLatin1"), (10, .methodref 10 506), (0, .nameAndType 507 334), (0, u "length"), (67, .class_ 576), (0, u "java/lang/CharSequence"), (22, u "CASE_INSENSITIVE_ORDER"), (0, u "Ljava/util/Comparator;"), (30, u "([B)I"), (244, .methodref 10 877), (0, .nameAndType 878 334), (0, u "indexOfNonWhitespace"), (45, .methodref 107 925), (0, .nameAndType 878 631), (26, u "isBlank"), (148, u "serialPersistentFields"), (0, u "[Ljava/io/ObjectStreamField;"), (0, .class_ 1104), (0, u "java/lang/String$CaseInsensitiveComparator"), (1, .class_ 1107), (0, u "java/io/Serializable"), (0, .class_ 1109), (0, u "java/lang/Comparable"), (0, .class_ 1111), (0, u "java/lang/constant/Constable"), (0, .class_ 1113), (0, u "java/lang/constant/ConstantDesc"), (2, u "serialVersionUID"), (0, u "J"), (3, u "REPL"), (0, u "C"), (2, u "LATIN1"), (1, u "UTF16")] 323

def k21m0 : Method := { name := "<init>", desc := "()V", sig := { parameters := [], returnType := none }, accessFlags := 1, code := none }
def k21c1 : Code := { maxStack := 2, maxLocals := 1, code := jdk_42_method_54_code, exceptionTable := #[], attributes := #[] }
def k21m1 : Method := { name := "length", desc := "()I", sig := { parameters := [], returnType := some .int }, accessFlags := 1, code := some k21c1 }
def k21c2 : Code := { maxStack := 2, maxLocals := 1, code := jdk_42_method_117_code, exceptionTable := #[], attributes := #[] }
def k21m2 : Method := { name := "isBlank", desc := "()Z", sig := { parameters := [], returnType := some .boolean }, accessFlags := 1, code := some k21c2 }
def k21c3 : Code := { maxStack := 1, maxLocals := 1, code := jdk_42_method_120_code, exceptionTable := #[], attributes := #[] }
def k21m3 : Method := { name := "indexOfNonWhitespace", desc := "()I", sig := { parameters := [], returnType := some .int }, accessFlags := 2, code := some k21c3 }
def k21c4 : Code := { maxStack := 1, maxLocals := 1, code := jdk_42_method_152_code, exceptionTable := #[], attributes := #[] }
def k21m4 : Method := { name := "coder", desc := "()B", sig := { parameters := [], returnType := some .byte }, accessFlags := 0, code := some k21c4 }
def k21c5 : Code := { maxStack := 1, maxLocals := 1, code := jdk_42_method_154_code, exceptionTable := #[], attributes := #[] }
def k21m5 : Method := { name := "isLatin1", desc := "()Z", sig := { parameters := [], returnType := some .boolean }, accessFlags := 0, code := some k21c5 }
/-- java/lang/String -/
def k21 : Class := { plain "java/lang/String" (some 0) with
  accessFlags := 49
  interfaces := #[2, 4, 18, 19, 20]
  cf := some (fileOf pool21 10 #[.nestMembers #[1103]] #[{ accessFlags := 1, nameIndex := 5, descriptorIndex := 6, attributes := #[] }, { accessFlags := 1, nameIndex := 507, descriptorIndex := 334, attributes := #[] }, { accessFlags := 1, nameIndex := 952, descriptorIndex := 142, attributes := #[] }, { accessFlags := 2, nameIndex := 878, descriptorIndex := 334, attributes := #[] }, { accessFlags := 0, nameIndex := 17, descriptorIndex := 337, attributes := #[] }, { accessFlags := 0, nameIndex := 494, descriptorIndex := 142, attributes := #[] }] 49 2 #[1106, 1108, 575, 1110, 1112] #[{ accessFlags := 18, nameIndex := 13, descriptorIndex := 14, attributes := #[] }, { accessFlags := 18, nameIndex := 17, descriptorIndex := 18, attributes := #[] }, { accessFlags := 2, nameIndex := 21, descriptorIndex := 22, attributes := #[] }, { accessFlags := 2, nameIndex := 25, descriptorIndex := 26, attributes := #[] }, { accessFlags := 26, nameIndex := 1116, descriptorIndex := 1117, attributes := #[] }, { accessFlags := 24, nameIndex := 40, descriptorIndex := 26, attributes := #[] }, { accessFlags := 26, nameIndex := 1101, descriptorIndex := 1102, attributes := #[] }, { accessFlags := 26, nameIndex := 1121, descriptorIndex := 1122, attributes := #[] }, { accessFlags := 25, nameIndex := 599, descriptorIndex := 600, attributes := #[] }, { accessFlags := 24, nameIndex := 1125, descriptorIndex := 18, attributes := #[] }, { accessFlags := 24, nameIndex := 1127, descriptorIndex := 18, attributes := #[] }])
  fields := #[{ name := "value", type := (.array .byte), accessFlags := 18, slot := 0, constantValue := 0 }, { name := "coder", type := .byte, accessFlags := 18, slot := 1, constantValue := 0 }, { name := "hash", type := .int, accessFlags := 2, slot := 2, constantValue := 0 }, { name := "hashIsZero", type := .boolean, accessFlags := 2, slot := 3, constantValue := 0 }, { name := "serialVersionUID", type := .long, accessFlags := 26, slot := 0, constantValue := 0 }, { name := "COMPACT_STRINGS", type := .boolean, accessFlags := 24, slot := 1, constantValue := 0 }, { name := "serialPersistentFields", type := (.array (.object "java/io/ObjectStreamField")), accessFlags := 26, slot := 2, constantValue := 0 }, { name := "REPL", type := .char, accessFlags := 26, slot := 3, constantValue := 0 }, { name := "CASE_INSENSITIVE_ORDER", type := (.object "java/util/Comparator"), accessFlags := 25, slot := 4, constantValue := 0 }, { name := "LATIN1", type := .byte, accessFlags := 24, slot := 5, constantValue := 0 }, { name := "UTF16", type := .byte, accessFlags := 24, slot := 6, constantValue := 0 }]
  methods := #[k21m0, k21m1, k21m2, k21m3, k21m4, k21m5]
  instanceTypes := #[(.array .byte), .byte, .int, .boolean]
  staticTypes := #[.long, .boolean, (.array (.object "java/io/ObjectStreamField")), .char, (.object "java/util/Comparator"), .byte, .byte]
  resolved := Array.replicate 1451 none
  statics := some 2 }

def pool22 : Array CpInfo := pool [(4, .class_ 6), (1, u "java/lang/Object"), (0, u "<init>"), (0, u "()V"), (5, .class_ 16), (1, u "java/lang/StringLatin1"), (33, .methodref 14 51), (0, .nameAndType 52 53), (0, u "getChar"), (0, u "([BI)C"), (3, u "([B)I"), (8, .fieldref 67 68), (0, .class_ 69), (0, .nameAndType 70 71), (0, u "java/lang/CharacterDataLatin1"), (0, u "instance"), (0, u "Ljava/lang/CharacterDataLatin1;"), (19, u "(I)Z"), (29, u "$assertionsDisabled"), (0, u "Z"), (88, .methodref 67 212), (0, .nameAndType 213 91), (0, u "isWhitespace"), (2, u "indexOfNonWhitespace"), (4, .class_ 223), (1, u "java/lang/StringLatin1$LinesSpliterator"), (166, .class_ 391), (0, u "java/lang/StringLatin1$CharsSpliterator")] 3

def k22m0 : Method := { name := "<init>", desc := "()V", sig := { parameters := [], returnType := none }, accessFlags := 0, code := none }
def k22c1 : Code := { maxStack := 2, maxLocals := 4, code := jdk_43_method_37_code, exceptionTable := #[], attributes := #[] }
def k22m1 : Method := { name := "indexOfNonWhitespace", desc := "([B)I", sig := { parameters := [(.array .byte)], returnType := some .int }, accessFlags := 9, code := some k22c1 }
def k22c2 : Code := { maxStack := 2, maxLocals := 2, code := jdk_43_method_44_code, exceptionTable := #[], attributes := #[] }
def k22m2 : Method := { name := "getChar", desc := "([BI)C", sig := { parameters := [(.array .byte), .int], returnType := some .char }, accessFlags := 9, code := some k22c2 }
/-- java/lang/StringLatin1 -/
def k22 : Class := { plain "java/lang/StringLatin1" (some 0) with
  accessFlags := 48
  interfaces := #[]
  cf := some (fileOf pool22 14 #[.nestMembers #[390, 221]] #[{ accessFlags := 0, nameIndex := 7, descriptorIndex := 8, attributes := #[] }, { accessFlags := 9, nameIndex := 216, descriptorIndex := 57, attributes := #[] }, { accessFlags := 9, nameIndex := 52, descriptorIndex := 53, attributes := #[] }] 48 4 #[] #[{ accessFlags := 4120, nameIndex := 121, descriptorIndex := 122, attributes := #[] }])
  fields := #[{ name := "$assertionsDisabled", type := .boolean, accessFlags := 4120, slot := 0, constantValue := 0 }]
  methods := #[k22m0, k22m1, k22m2]
  instanceTypes := #[]
  staticTypes := #[.boolean]
  resolved := Array.replicate 395 none
  statics := none }

def pool23 : Array CpInfo := pool [(2, .class_ 4), (1, u "java/lang/Object"), (0, u "<init>"), (0, u "()V"), (1, .class_ 10), (1, u "java/lang/CharacterData")] 75

def k23m0 : Method := { name := "<init>", desc := "()V", sig := { parameters := [], returnType := none }, accessFlags := 0, code := none }
/-- java/lang/CharacterData -/
def k23 : Class := { plain "java/lang/CharacterData" (some 0) with
  accessFlags := 1056
  interfaces := #[]
  cf := some (fileOf pool23 8 #[] #[{ accessFlags := 0, nameIndex := 5, descriptorIndex := 6, attributes := #[] }] 1056 2 #[] #[])
  fields := #[]
  methods := #[k23m0]
  instanceTypes := #[]
  staticTypes := #[]
  resolved := Array.replicate 86 none
  statics := none }

def pool24 : Array CpInfo := pool [(1, .fieldref 2 3), (0, .class_ 4), (0, .nameAndType 5 6), (0, u "java/lang/CharacterDataLatin1"), (0, u "A"), (0, u "[I"), (2, u "B"), (0, u "[C"), (3, u "(I)I"), (0, .methodref 2 16), (0, .nameAndType 17 14), (0, u "getProperties"), (3, u "(I)Z"), (5, u "DIGITS"), (0, u "[B"), (8, u "sharpsMap"), (1, .class_ 41), (1, u "java/lang/CharacterData"), (0, u "<init>"), (0, u "()V"), (3, u "instance"), (0, u "Ljava/lang/CharacterDataLatin1;"), (78, u "isWhitespace")] 13

def k24c0 : Code := { maxStack := 2, maxLocals := 4, code := jdk_116_method_1_code, exceptionTable := #[], attributes := #[] }
def k24m0 : Method := { name := "getProperties", desc := "(I)I", sig := { parameters := [.int], returnType := some .int }, accessFlags := 0, code := some k24c0 }
def k24c1 : Code := { maxStack := 2, maxLocals := 3, code := jdk_116_method_26_code, exceptionTable := #[], attributes := #[] }
def k24m1 : Method := { name := "isWhitespace", desc := "(I)Z", sig := { parameters := [.int], returnType := some .boolean }, accessFlags := 0, code := some k24c1 }
def k24m2 : Method := { name := "<init>", desc := "()V", sig := { parameters := [], returnType := none }, accessFlags := 2, code := none }
/-- java/lang/CharacterDataLatin1 -/
def k24 : Class := { plain "java/lang/CharacterDataLatin1" (some 23) with
  accessFlags := 32
  interfaces := #[]
  cf := some (fileOf pool24 2 #[] #[{ accessFlags := 0, nameIndex := 17, descriptorIndex := 14, attributes := #[] }, { accessFlags := 0, nameIndex := 127, descriptorIndex := 21, attributes := #[] }, { accessFlags := 2, nameIndex := 42, descriptorIndex := 43, attributes := #[] }] 32 39 #[] #[{ accessFlags := 26, nameIndex := 27, descriptorIndex := 28, attributes := #[] }, { accessFlags := 8, nameIndex := 37, descriptorIndex := 10, attributes := #[] }, { accessFlags := 24, nameIndex := 47, descriptorIndex := 48, attributes := #[] }, { accessFlags := 24, nameIndex := 5, descriptorIndex := 6, attributes := #[] }, { accessFlags := 24, nameIndex := 9, descriptorIndex := 10, attributes := #[] }])
  fields := #[{ name := "DIGITS", type := (.array .byte), accessFlags := 26, slot := 0, constantValue := 0 }, { name := "sharpsMap", type := (.array .char), accessFlags := 8, slot := 1, constantValue := 0 }, { name := "instance", type := (.object "java/lang/CharacterDataLatin1"), accessFlags := 24, slot := 2, constantValue := 0 }, { name := "A", type := (.array .int), accessFlags := 24, slot := 3, constantValue := 0 }, { name := "B", type := (.array .char), accessFlags := 24, slot := 4, constantValue := 0 }]
  methods := #[k24m0, k24m1, k24m2]
  instanceTypes := #[]
  staticTypes := #[(.array .byte), (.array .char), (.object "java/lang/CharacterDataLatin1"), (.array .int), (.array .char)]
  resolved := Array.replicate 141 none
  statics := some 3 }

def pool25 : Array CpInfo := pool [(2, .class_ 4), (1, u "java/lang/Object"), (0, u "<init>"), (0, u "()V"), (35, .class_ 44), (1, u "java/util/Objects"), (0, u "requireNonNull"), (0, u "(Ljava/lang/Object;)Ljava/lang/Object;"), (58, .methodref 106 107), (0, .class_ 108), (0, .nameAndType 109 110), (0, u "jdk/internal/util/Preconditions"), (0, u "checkIndex"), (0, u "(IILjava/util/function/BiFunction;)I"), (60, u "(II)I")] 12

def k25m0 : Method := { name := "<init>", desc := "()V", sig := { parameters := [], returnType := none }, accessFlags := 2, code := none }
def k25c1 : Code := { maxStack := 2, maxLocals := 1, code := jdk_31_method_10_code, exceptionTable := #[], attributes := #[] }
def k25m1 : Method := { name := "requireNonNull", desc := "(Ljava/lang/Object;)Ljava/lang/Object;", sig := { parameters := [(.object "java/lang/Object")], returnType := some (.object "java/lang/Object") }, accessFlags := 9, code := some k25c1 }
def k25c2 : Code := { maxStack := 3, maxLocals := 2, code := jdk_31_method_17_code, exceptionTable := #[], attributes := #[] }
def k25m2 : Method := { name := "checkIndex", desc := "(II)I", sig := { parameters := [.int, .int], returnType := some .int }, accessFlags := 9, code := some k25c2 }
/-- java/util/Objects -/
def k25 : Class := { plain "java/util/Objects" (some 0) with
  accessFlags := 49
  interfaces := #[]
  cf := some (fileOf pool25 42 #[] #[{ accessFlags := 2, nameIndex := 5, descriptorIndex := 6, attributes := #[] }, { accessFlags := 9, nameIndex := 45, descriptorIndex := 46, attributes := #[] }, { accessFlags := 9, nameIndex := 109, descriptorIndex := 171, attributes := #[] }] 49 2 #[] #[])
  fields := #[]
  methods := #[k25m0, k25m1, k25m2]
  instanceTypes := #[]
  staticTypes := #[]
  resolved := Array.replicate 184 none
  statics := none }

def pool26 : Array CpInfo := pool [(2, .class_ 4), (1, u "java/lang/Object"), (0, u "<init>"), (0, u "()V"), (17, .class_ 26), (1, u "jdk/internal/util/Preconditions"), (6, u "checkIndex"), (21, .class_ 56), (0, u "jdk/internal/util/Preconditions$4"), (57, .class_ 115), (0, u "jdk/internal/util/Preconditions$1"), (7, u "SIOOBE_FORMATTER"), (0, u "Ljava/util/function/BiFunction;"), (0, .class_ 126), (0, u "jdk/internal/util/Preconditions$2"), (3, u "AIOOBE_FORMATTER"), (0, .class_ 132), (0, u "jdk/internal/util/Preconditions$3"), (3, u "IOOBE_FORMATTER"), (41, u "(IILjava/util/function/BiFunction;)I")] 15

def k26m0 : Method := { name := "<init>", desc := "()V", sig := { parameters := [], returnType := none }, accessFlags := 1, code := none }
def k26c1 : Code := { maxStack := 3, maxLocals := 3, code := jdk_41_method_11_code, exceptionTable := #[], attributes := #[] }
def k26m1 : Method := { name := "checkIndex", desc := "(IILjava/util/function/BiFunction;)I", sig := { parameters := [.int, .int, (.object "java/util/function/BiFunction")], returnType := some .int }, accessFlags := 9, code := some k26c1 }
/-- jdk/internal/util/Preconditions -/
def k26 : Class := { plain "jdk/internal/util/Preconditions" (some 0) with
  accessFlags := 33
  interfaces := #[]
  cf := some (fileOf pool26 24 #[.nestMembers #[55, 131, 125, 114]] #[{ accessFlags := 1, nameIndex := 5, descriptorIndex := 6, attributes := #[] }, { accessFlags := 9, nameIndex := 33, descriptorIndex := 178, attributes := #[] }] 33 2 #[] #[{ accessFlags := 25, nameIndex := 123, descriptorIndex := 124, attributes := #[] }, { accessFlags := 25, nameIndex := 130, descriptorIndex := 124, attributes := #[] }, { accessFlags := 25, nameIndex := 136, descriptorIndex := 124, attributes := #[] }])
  fields := #[{ name := "SIOOBE_FORMATTER", type := (.object "java/util/function/BiFunction"), accessFlags := 25, slot := 0, constantValue := 0 }, { name := "AIOOBE_FORMATTER", type := (.object "java/util/function/BiFunction"), accessFlags := 25, slot := 1, constantValue := 0 }, { name := "IOOBE_FORMATTER", type := (.object "java/util/function/BiFunction"), accessFlags := 25, slot := 2, constantValue := 0 }]
  methods := #[k26m0, k26m1]
  instanceTypes := #[]
  staticTypes := #[(.object "java/util/function/BiFunction"), (.object "java/util/function/BiFunction"), (.object "java/util/function/BiFunction")]
  resolved := Array.replicate 194 none
  statics := some 4 }

def pool27 : Array CpInfo := pool [(1, .class_ 2), (0, u "java/lang/Long"), (98, u "(J)I"), (133, .class_ 237), (1, u "java/lang/Long$LongCache"), (33, .class_ 272), (0, u "java/lang/Number"), (2, u "value"), (0, u "J"), (84, u "TYPE"), (0, u "Ljava/lang/Class;"), (0, .class_ 364), (0, u "java/lang/Comparable"), (0, .class_ 366), (0, u "java/lang/constant/Constable"), (0, .class_ 368), (0, u "java/lang/constant/ConstantDesc"), (0, u "MIN_VALUE"), (1, u "MAX_VALUE"), (4, u "SIZE"), (0, u "I"), (1, u "BYTES"), (1, u "serialVersionUID"), (115, u "signum")] 26

def k27c0 : Code := { maxStack := 5, maxLocals := 2, code := jdk_35_method_57_code, exceptionTable := #[], attributes := #[] }
def k27m0 : Method := { name := "signum", desc := "(J)I", sig := { parameters := [.long], returnType := some .int }, accessFlags := 9, code := some k27c0 }
/-- java/lang/Long -/
def k27 : Class := { plain "java/lang/Long" (some 3) with
  accessFlags := 49
  interfaces := #[4, 19, 20]
  cf := some (fileOf pool27 1 #[.nestMembers #[235]] #[{ accessFlags := 9, nameIndex := 497, descriptorIndex := 101, attributes := #[] }] 49 271 #[363, 365, 367] #[{ accessFlags := 25, nameIndex := 369, descriptorIndex := 276, attributes := #[] }, { accessFlags := 25, nameIndex := 371, descriptorIndex := 276, attributes := #[] }, { accessFlags := 25, nameIndex := 361, descriptorIndex := 362, attributes := #[] }, { accessFlags := 18, nameIndex := 275, descriptorIndex := 276, attributes := #[] }, { accessFlags := 25, nameIndex := 376, descriptorIndex := 377, attributes := #[] }, { accessFlags := 25, nameIndex := 379, descriptorIndex := 377, attributes := #[] }, { accessFlags := 26, nameIndex := 381, descriptorIndex := 276, attributes := #[] }])
  fields := #[{ name := "MIN_VALUE", type := .long, accessFlags := 25, slot := 0, constantValue := 0 }, { name := "MAX_VALUE", type := .long, accessFlags := 25, slot := 1, constantValue := 0 }, { name := "TYPE", type := (.object "java/lang/Class"), accessFlags := 25, slot := 2, constantValue := 0 }, { name := "value", type := .long, accessFlags := 18, slot := 0, constantValue := 0 }, { name := "SIZE", type := .int, accessFlags := 25, slot := 3, constantValue := 0 }, { name := "BYTES", type := .int, accessFlags := 25, slot := 4, constantValue := 0 }, { name := "serialVersionUID", type := .long, accessFlags := 26, slot := 5, constantValue := 0 }]
  methods := #[k27m0]
  instanceTypes := #[.long]
  staticTypes := #[.long, .long, (.object "java/lang/Class"), .int, .int, .long]
  resolved := Array.replicate 524 none
  statics := none }

def pool28 : Array CpInfo := pool [(2, .class_ 4), (1, u "java/lang/Object"), (0, u "<init>"), (0, u "()V"), (3, .class_ 11), (0, u "java/util/ImmutableCollections$List12"), (0, .class_ 13), (0, u "java/util/ImmutableCollections$ListN"), (3, u "Z"), (0, .class_ 19), (0, u "java/util/List"), (0, .interfaceMethodref 21 22), (0, .class_ 23), (0, .nameAndType 24 25), (0, u "java/util/Collection"), (0, u "isEmpty"), (0, u "()Z"), (2, u "of"), (1, .interfaceMethodref 21 31), (0, .nameAndType 32 33), (0, u "toArray"), (0, u "()[Ljava/lang/Object;"), (0, .interfaceMethodref 18 35), (0, .nameAndType 28 36), (0, u "([Ljava/lang/Object;)Ljava/util/List;"), (0, .methodref 38 39), (0, .class_ 40), (0, .nameAndType 41 42), (0, u "java/util/Objects"), (0, u "requireNonNull"), (0, u "(Ljava/lang/Object;)Ljava/lang/Object;"), (0, .methodref 12 44), (0, .nameAndType 5 45), (0, u "([Ljava/lang/Object;Z)V"), (1, .class_ 49), (1, u "java/util/ImmutableCollections"), (0, u "$assertionsDisabled"), (5, u "[Ljava/lang/Object;"), (5, u "EMPTY_LIST"), (0, u "Ljava/util/ImmutableCollections$ListN;"), (8, u "EMPTY_LIST_NULLS"), (22, u "SALT32L"), (0, u "J"), (2, u "REVERSE"), (6, u "archivedObjects"), (2, u "EMPTY"), (0, u "Ljava/lang/Object;"), (0, .class_ 112), (0, u "java/util/ImmutableCollections$SetN"), (5, u "EMPTY_SET"), (0, u "Ljava/util/ImmutableCollections$SetN;"), (0, .class_ 121), (0, u "java/util/ImmutableCollections$MapN"), (3, u "EMPTY_MAP"), (0, u "Ljava/util/ImmutableCollections$MapN;"), (4, u "EXPAND_FACTOR"), (0, u "I"), (9, u "listCopy"), (0, u "(Ljava/util/Collection;)Ljava/util/List;"), (7, u "listFromArray"), (17, .class_ 170), (0, u "java/util/ImmutableCollections$MapN$MapNIterator"), (0, .class_ 172), (0, u "java/util/ImmutableCollections$MapN$1"), (0, .class_ 174), (0, u "java/util/ImmutableCollections$Map1"), (0, .class_ 176), (0, u "java/util/ImmutableCollections$AbstractImmutableMap"), (0, .class_ 178), (0, u "java/util/ImmutableCollections$SetN$SetNIterator"), (0, .class_ 180), (0, u "java/util/ImmutableCollections$Set12"), (0, .class_ 182), (0, u "java/util/ImmutableCollections$Set12$1"), (0, .class_ 184), (0, u "java/util/ImmutableCollections$AbstractImmutableSet"), (0, .class_ 186), (0, u "java/util/ImmutableCollections$SubList"), (0, .class_ 188), (0, u "java/util/ImmutableCollections$ListItr"), (0, .class_ 190), (0, u "java/util/ImmutableCollections$AbstractImmutableList"), (0, .class_ 192), (0, u "java/util/ImmutableCollections$AbstractImmutableCollection"), (0, .class_ 194), (0, u "java/util/ImmutableCollections$Access"), (0, .class_ 196), (0, u "java/util/ImmutableCollections$Access$1")] 16

def k28m0 : Method := { name := "<init>", desc := "()V", sig := { parameters := [], returnType := none }, accessFlags := 2, code := none }
def k28c1 : Code := { maxStack := 1, maxLocals := 2, code := jdk_56_method_3_code, exceptionTable := #[], attributes := #[] }
def k28m1 : Method := { name := "listCopy", desc := "(Ljava/util/Collection;)Ljava/util/List;", sig := { parameters := [(.object "java/util/Collection")], returnType := some (.object "java/util/List") }, accessFlags := 8, code := some k28c1 }
def k28c2 : Code := { maxStack := 4, maxLocals := 3, code := jdk_56_method_4_code, exceptionTable := #[], attributes := #[] }
def k28m2 : Method := { name := "listFromArray", desc := "([Ljava/lang/Object;)Ljava/util/List;", sig := { parameters := [(.array (.object "java/lang/Object"))], returnType := some (.object "java/util/List") }, accessFlags := 136, code := some k28c2 }
/-- java/util/ImmutableCollections -/
def k28 : Class := { plain "java/util/ImmutableCollections" (some 0) with
  accessFlags := 32
  interfaces := #[]
  cf := some (fileOf pool28 47 #[.nestMembers #[120, 169, 171, 173, 175, 111, 177, 179, 181, 183, 12, 10, 185, 187, 189, 191, 193, 195]] #[{ accessFlags := 2, nameIndex := 5, descriptorIndex := 6, attributes := #[] }, { accessFlags := 8, nameIndex := 142, descriptorIndex := 143, attributes := #[] }, { accessFlags := 136, nameIndex := 151, descriptorIndex := 36, attributes := #[] }] 32 2 #[] #[{ accessFlags := 26, nameIndex := 95, descriptorIndex := 96, attributes := #[] }, { accessFlags := 26, nameIndex := 99, descriptorIndex := 17, attributes := #[] }, { accessFlags := 10, nameIndex := 106, descriptorIndex := 56, attributes := #[] }, { accessFlags := 26, nameIndex := 109, descriptorIndex := 110, attributes := #[] }, { accessFlags := 24, nameIndex := 62, descriptorIndex := 63, attributes := #[] }, { accessFlags := 24, nameIndex := 72, descriptorIndex := 63, attributes := #[] }, { accessFlags := 24, nameIndex := 118, descriptorIndex := 119, attributes := #[] }, { accessFlags := 24, nameIndex := 125, descriptorIndex := 126, attributes := #[] }, { accessFlags := 24, nameIndex := 131, descriptorIndex := 132, attributes := #[] }, { accessFlags := 4120, nameIndex := 50, descriptorIndex := 17, attributes := #[] }])
  fields := #[{ name := "SALT32L", type := .long, accessFlags := 26, slot := 0, constantValue := 0 }, { name := "REVERSE", type := .boolean, accessFlags := 26, slot := 1, constantValue := 0 }, { name := "archivedObjects", type := (.array (.object "java/lang/Object")), accessFlags := 10, slot := 2, constantValue := 0 }, { name := "EMPTY", type := (.object "java/lang/Object"), accessFlags := 26, slot := 3, constantValue := 0 }, { name := "EMPTY_LIST", type := (.object "java/util/ImmutableCollections$ListN"), accessFlags := 24, slot := 4, constantValue := 0 }, { name := "EMPTY_LIST_NULLS", type := (.object "java/util/ImmutableCollections$ListN"), accessFlags := 24, slot := 5, constantValue := 0 }, { name := "EMPTY_SET", type := (.object "java/util/ImmutableCollections$SetN"), accessFlags := 24, slot := 6, constantValue := 0 }, { name := "EMPTY_MAP", type := (.object "java/util/ImmutableCollections$MapN"), accessFlags := 24, slot := 7, constantValue := 0 }, { name := "EXPAND_FACTOR", type := .int, accessFlags := 24, slot := 8, constantValue := 0 }, { name := "$assertionsDisabled", type := .boolean, accessFlags := 4120, slot := 9, constantValue := 0 }]
  methods := #[k28m0, k28m1, k28m2]
  instanceTypes := #[]
  staticTypes := #[.long, .boolean, (.array (.object "java/lang/Object")), (.object "java/lang/Object"), (.object "java/util/ImmutableCollections$ListN"), (.object "java/util/ImmutableCollections$ListN"), (.object "java/util/ImmutableCollections$SetN"), (.object "java/util/ImmutableCollections$MapN"), .int, .boolean]
  resolved := Array.replicate 213 none
  statics := some 5 }

def pool29 : Array CpInfo := pool [(1, .methodref 2 3), (0, .class_ 4), (0, .nameAndType 5 6), (0, u "java/util/AbstractCollection"), (0, u "<init>"), (0, u "()V"), (1, .class_ 10), (1, u "java/util/ImmutableCollections"), (2, .class_ 14), (0, u "java/util/ImmutableCollections$AbstractImmutableCollection")] 41

def k29c0 : Code := { maxStack := 1, maxLocals := 1, code := jdk_47_method_1_code, exceptionTable := #[], attributes := #[] }
def k29m0 : Method := { name := "<init>", desc := "()V", sig := { parameters := [], returnType := none }, accessFlags := 0, code := some k29c0 }
/-- java/util/ImmutableCollections$AbstractImmutableCollection -/
def k29 : Class := { plain "java/util/ImmutableCollections$AbstractImmutableCollection" (some 8) with
  accessFlags := 1056
  interfaces := #[]
  cf := some (fileOf pool29 13 #[.nestHost 8] #[{ accessFlags := 0, nameIndex := 5, descriptorIndex := 6, attributes := #[] }] 1056 2 #[] #[])
  fields := #[]
  methods := #[k29m0]
  instanceTypes := #[]
  staticTypes := #[]
  resolved := Array.replicate 56 none
  statics := none }

def pool30 : Array CpInfo := pool [(1, .methodref 2 3), (0, .class_ 4), (0, .nameAndType 5 6), (0, u "java/util/ImmutableCollections$AbstractImmutableCollection"), (0, u "<init>"), (0, u "()V"), (1, .class_ 10), (1, u "java/util/ImmutableCollections"), (3, .class_ 16), (1, u "java/util/ImmutableCollections$AbstractImmutableList"), (60, .class_ 78), (0, u "java/util/List"), (45, .class_ 125), (0, u "java/util/RandomAccess")] 70

def k30c0 : Code := { maxStack := 1, maxLocals := 1, code := jdk_46_method_1_code, exceptionTable := #[], attributes := #[] }
def k30m0 : Method := { name := "<init>", desc := "()V", sig := { parameters := [], returnType := none }, accessFlags := 0, code := some k30c0 }
/-- java/util/ImmutableCollections$AbstractImmutableList -/
def k30 : Class := { plain "java/util/ImmutableCollections$AbstractImmutableList" (some 29) with
  accessFlags := 1056
  interfaces := #[10, 12]
  cf := some (fileOf pool30 14 #[.nestHost 8] #[{ accessFlags := 0, nameIndex := 5, descriptorIndex := 6, attributes := #[] }] 1056 2 #[77, 124] #[])
  fields := #[]
  methods := #[k30m0]
  instanceTypes := #[]
  staticTypes := #[]
  resolved := Array.replicate 196 none
  statics := none }

def pool31 : Array CpInfo := pool [(1, .methodref 2 3), (0, .class_ 4), (0, .nameAndType 5 6), (0, u "java/util/ImmutableCollections$AbstractImmutableList"), (0, u "<init>"), (0, u "()V"), (0, .methodref 8 9), (0, .class_ 10), (0, .nameAndType 11 12), (0, u "java/util/Objects"), (0, u "requireNonNull"), (0, u "(Ljava/lang/Object;)Ljava/lang/Object;"), (0, .fieldref 14 15), (0, .class_ 16), (0, .nameAndType 17 18), (0, u "java/util/ImmutableCollections$List12"), (0, u "e0"), (0, u "Ljava/lang/Object;"), (0, .fieldref 20 21), (0, .class_ 22), (0, .nameAndType 23 18), (0, u "java/util/ImmutableCollections"), (0, u "EMPTY"), (0, .fieldref 14 25), (0, .nameAndType 26 18), (0, u "e1"), (24, u "size"), (0, u "()I"), (17, .class_ 71), (0, u "java/io/Serializable"), (4, u "(Ljava/lang/Object;)V"), (8, u "(Ljava/lang/Object;Ljava/lang/Object;)V"), (4, u "get"), (0, u "(I)Ljava/lang/Object;")] 33

def k31c0 : Code := { maxStack := 2, maxLocals := 2, code := jdk_44_method_1_code, exceptionTable := #[], attributes := #[] }
def k31m0 : Method := { name := "<init>", desc := "(Ljava/lang/Object;)V", sig := { parameters := [(.object "java/lang/Object")], returnType := none }, accessFlags := 0, code := some k31c0 }
def k31c1 : Code := { maxStack := 2, maxLocals := 3, code := jdk_44_method_2_code, exceptionTable := #[], attributes := #[] }
def k31m1 : Method := { name := "<init>", desc := "(Ljava/lang/Object;Ljava/lang/Object;)V", sig := { parameters := [(.object "java/lang/Object"), (.object "java/lang/Object")], returnType := none }, accessFlags := 0, code := some k31c1 }
def k31c2 : Code := { maxStack := 2, maxLocals := 1, code := jdk_44_method_3_code, exceptionTable := #[], attributes := #[] }
def k31m2 : Method := { name := "size", desc := "()I", sig := { parameters := [], returnType := some .int }, accessFlags := 1, code := some k31c2 }
def k31c3 : Code := { maxStack := 2, maxLocals := 2, code := jdk_44_method_5_code, exceptionTable := #[], attributes := #[] }
def k31m3 : Method := { name := "get", desc := "(I)Ljava/lang/Object;", sig := { parameters := [.int], returnType := some (.object "java/lang/Object") }, accessFlags := 1, code := some k31c3 }
/-- java/util/ImmutableCollections$List12 -/
def k31 : Class := { plain "java/util/ImmutableCollections$List12" (some 30) with
  accessFlags := 48
  interfaces := #[2]
  cf := some (fileOf pool31 14 #[.nestHost 20] #[{ accessFlags := 0, nameIndex := 5, descriptorIndex := 76, attributes := #[] }, { accessFlags := 0, nameIndex := 5, descriptorIndex := 85, attributes := #[] }, { accessFlags := 1, nameIndex := 51, descriptorIndex := 52, attributes := #[] }, { accessFlags := 1, nameIndex := 90, descriptorIndex := 91, attributes := #[] }] 48 2 #[70] #[{ accessFlags := 18, nameIndex := 17, descriptorIndex := 18, attributes := #[] }, { accessFlags := 18, nameIndex := 26, descriptorIndex := 18, attributes := #[] }])
  fields := #[{ name := "e0", type := (.object "java/lang/Object"), accessFlags := 18, slot := 0, constantValue := 0 }, { name := "e1", type := (.object "java/lang/Object"), accessFlags := 18, slot := 1, constantValue := 0 }]
  methods := #[k31m0, k31m1, k31m2, k31m3]
  instanceTypes := #[(.object "java/lang/Object"), (.object "java/lang/Object")]
  staticTypes := #[]
  resolved := Array.replicate 125 none
  statics := none }

def pool32 : Array CpInfo := pool [(1, .methodref 2 3), (0, .class_ 4), (0, .nameAndType 5 6), (0, u "java/util/ImmutableCollections$AbstractImmutableList"), (0, u "<init>"), (0, u "()V"), (0, .fieldref 8 9), (0, .class_ 10), (0, .nameAndType 11 12), (0, u "java/util/ImmutableCollections$ListN"), (0, u "elements"), (0, u "[Ljava/lang/Object;"), (0, .fieldref 8 14), (0, .nameAndType 15 16), (0, u "allowNulls"), (0, u "Z"), (42, .class_ 60), (0, u "java/io/Serializable"), (4, u "([Ljava/lang/Object;Z)V"), (11, u "size"), (0, u "()I"), (0, u "get"), (0, u "(I)Ljava/lang/Object;"), (33, .class_ 115), (0, u "java/util/ImmutableCollections")] 3

def k32c0 : Code := { maxStack := 2, maxLocals := 3, code := jdk_45_method_1_code, exceptionTable := #[], attributes := #[] }
def k32m0 : Method := { name := "<init>", desc := "([Ljava/lang/Object;Z)V", sig := { parameters := [(.array (.object "java/lang/Object")), .boolean], returnType := none }, accessFlags := 2, code := some k32c0 }
def k32c1 : Code := { maxStack := 1, maxLocals := 1, code := jdk_45_method_3_code, exceptionTable := #[], attributes := #[] }
def k32m1 : Method := { name := "size", desc := "()I", sig := { parameters := [], returnType := some .int }, accessFlags := 1, code := some k32c1 }
def k32c2 : Code := { maxStack := 2, maxLocals := 2, code := jdk_45_method_4_code, exceptionTable := #[], attributes := #[] }
def k32m2 : Method := { name := "get", desc := "(I)Ljava/lang/Object;", sig := { parameters := [.int], returnType := some (.object "java/lang/Object") }, accessFlags := 1, code := some k32c2 }
/-- java/util/ImmutableCollections$ListN -/
def k32 : Class := { plain "java/util/ImmutableCollections$ListN" (some 30) with
  accessFlags := 48
  interfaces := #[2]
  cf := some (fileOf pool32 8 #[.nestHost 114] #[{ accessFlags := 2, nameIndex := 5, descriptorIndex := 65, attributes := #[] }, { accessFlags := 1, nameIndex := 77, descriptorIndex := 78, attributes := #[] }, { accessFlags := 1, nameIndex := 79, descriptorIndex := 80, attributes := #[] }] 48 2 #[59] #[{ accessFlags := 18, nameIndex := 11, descriptorIndex := 12, attributes := #[] }, { accessFlags := 18, nameIndex := 15, descriptorIndex := 16, attributes := #[] }])
  fields := #[{ name := "elements", type := (.array (.object "java/lang/Object")), accessFlags := 18, slot := 0, constantValue := 0 }, { name := "allowNulls", type := .boolean, accessFlags := 18, slot := 1, constantValue := 0 }]
  methods := #[k32m0, k32m1, k32m2]
  instanceTypes := #[(.array (.object "java/lang/Object")), .boolean]
  staticTypes := #[]
  resolved := Array.replicate 119 none
  statics := none }

def pool33 : Array CpInfo := pool [(2, .class_ 4), (1, u "java/lang/Object"), (0, u "<init>"), (0, u "()V"), (7, .class_ 16), (1, u "java/util/Arrays"), (57, .class_ 76), (1, u "java/util/Arrays$NaturalOrder"), (9, .methodref 2 87), (0, .nameAndType 88 89), (0, u "getClass"), (0, u "()Ljava/lang/Class;"), (20, .class_ 111), (0, u "[Ljava/lang/Object;"), (1, .class_ 115), (1, u "java/util/Arrays$LegacyMergeSort"), (1, u "Z"), (32, .methodref 151 152), (0, .class_ 153), (0, .nameAndType 154 155), (0, u "java/lang/System"), (0, u "arraycopy"), (0, u "(Ljava/lang/Object;ILjava/lang/Object;II)V"), (144, .methodref 14 301), (0, .nameAndType 302 303), (0, u "copyOf"), (0, u "([Ljava/lang/Object;ILjava/lang/Class;)[Ljava/lang/Object;"), (0, .methodref 305 306), (0, .class_ 307), (0, .nameAndType 308 309), (0, u "java/lang/Math"), (0, u "min"), (0, u "(II)I"), (65, .class_ 376), (0, u "java/util/Arrays$ArrayList"), (68, u "$assertionsDisabled"), (269, u "MIN_ARRAY_SORT_GRAN"), (0, u "I"), (2, u "INSERTIONSORT_THRESHOLD"), (140, u "([Ljava/lang/Object;I)[Ljava/lang/Object;"), (114, .class_ 976), (0, u "java/util/Arrays$ArrayItr")] 52

def k33m0 : Method := { name := "<init>", desc := "()V", sig := { parameters := [], returnType := none }, accessFlags := 2, code := none }
def k33c1 : Code := { maxStack := 3, maxLocals := 2, code := jdk_65_method_119_code, exceptionTable := #[], attributes := #[] }
def k33m1 : Method := { name := "copyOf", desc := "([Ljava/lang/Object;I)[Ljava/lang/Object;", sig := { parameters := [(.array (.object "java/lang/Object")), .int], returnType := some (.array (.object "java/lang/Object")) }, accessFlags := 9, code := some k33c1 }
def k33c2 : Code := { maxStack := 6, maxLocals := 4, code := jdk_65_method_120_code, exceptionTable := #[], attributes := #[] }
def k33m2 : Method := { name := "copyOf", desc := "([Ljava/lang/Object;ILjava/lang/Class;)[Ljava/lang/Object;", sig := { parameters := [(.array (.object "java/lang/Object")), .int, (.object "java/lang/Class")], returnType := some (.array (.object "java/lang/Object")) }, accessFlags := 9, code := some k33c2 }
/-- java/util/Arrays -/
def k33 : Class := { plain "java/util/Arrays" (some 0) with
  accessFlags := 49
  interfaces := #[]
  cf := some (fileOf pool33 14 #[.nestMembers #[975, 375, 113, 74]] #[{ accessFlags := 2, nameIndex := 5, descriptorIndex := 6, attributes := #[] }, { accessFlags := 9, nameIndex := 302, descriptorIndex := 860, attributes := #[] }, { accessFlags := 9, nameIndex := 302, descriptorIndex := 303, attributes := #[] }] 49 2 #[] #[{ accessFlags := 26, nameIndex := 715, descriptorIndex := 716, attributes := #[] }, { accessFlags := 26, nameIndex := 719, descriptorIndex := 716, attributes := #[] }, { accessFlags := 4120, nameIndex := 445, descriptorIndex := 117, attributes := #[] }])
  fields := #[{ name := "MIN_ARRAY_SORT_GRAN", type := .int, accessFlags := 26, slot := 0, constantValue := 0 }, { name := "INSERTIONSORT_THRESHOLD", type := .int, accessFlags := 26, slot := 1, constantValue := 0 }, { name := "$assertionsDisabled", type := .boolean, accessFlags := 4120, slot := 2, constantValue := 0 }]
  methods := #[k33m0, k33m1, k33m2]
  instanceTypes := #[]
  staticTypes := #[.int, .int, .boolean]
  resolved := Array.replicate 1029 none
  statics := none }

def pool34 : Array CpInfo := pool [(2, .class_ 4), (1, u "java/lang/Object"), (0, u "<init>"), (0, u "()V"), (1, .class_ 10), (1, u "java/lang/System"), (0, u "allowSecurityManager"), (0, u "I"), (16, u "cons"), (0, u "Ljava/io/Console;"), (77, .class_ 110), (1, u "java/lang/System$CallersHolder"), (43, u "initialErrStream"), (0, u "Ljava/io/PrintStream;"), (19, u "security"), (0, u "Ljava/lang/SecurityManager;"), (31, .class_ 209), (0, u "java/lang/System$1"), (7, u "props"), (0, u "Ljava/util/Properties;"), (2, u "lineSeparator"), (0, u "Ljava/lang/String;"), (96, .class_ 321), (1, u "java/lang/System$LoggerFinder"), (5, .class_ 328), (0, u "java/lang/System$Logger"), (67, u "err"), (2, u "out"), (91, u "notSupportedJnuEncoding"), (15, u "in"), (17, u "initialIn"), (0, u "Ljava/io/InputStream;"), (35, u "bootLayer"), (0, u "Ljava/lang/ModuleLayer;"), (99, .class_ 664), (0, u "java/lang/System$2"), (9, u "NEVER"), (2, u "MAYBE"), (49, u "arraycopy"), (0, u "(Ljava/lang/Object;ILjava/lang/Object;II)V"), (72, .class_ 802), (0, u "java/lang/System$Logger$Level")] 31

def k34m0 : Method := { name := "<init>", desc := "()V", sig := { parameters := [], returnType := none }, accessFlags := 2, code := none }
def k34m1 : Method := { name := "arraycopy", desc := "(Ljava/lang/Object;ILjava/lang/Object;II)V", sig := { parameters := [(.object "java/lang/Object"), .int, (.object "java/lang/Object"), .int, .int], returnType := none }, accessFlags := 265, code := none }
/-- java/lang/System -/
def k34 : Class := { plain "java/lang/System" (some 0) with
  accessFlags := 49
  interfaces := #[]
  cf := some (fileOf pool34 8 #[.nestMembers #[319, 327, 801, 108, 663, 208]] #[{ accessFlags := 2, nameIndex := 5, descriptorIndex := 6, attributes := #[] }, { accessFlags := 265, nameIndex := 727, descriptorIndex := 728, attributes := #[] }] 49 2 #[] #[{ accessFlags := 25, nameIndex := 507, descriptorIndex := 526, attributes := #[] }, { accessFlags := 25, nameIndex := 399, descriptorIndex := 155, attributes := #[] }, { accessFlags := 25, nameIndex := 396, descriptorIndex := 155, attributes := #[] }, { accessFlags := 10, nameIndex := 525, descriptorIndex := 526, attributes := #[] }, { accessFlags := 26, nameIndex := 674, descriptorIndex := 12, attributes := #[] }, { accessFlags := 26, nameIndex := 677, descriptorIndex := 12, attributes := #[] }, { accessFlags := 10, nameIndex := 11, descriptorIndex := 12, attributes := #[] }, { accessFlags := 74, nameIndex := 175, descriptorIndex := 176, attributes := #[] }, { accessFlags := 10, nameIndex := 491, descriptorIndex := 222, attributes := #[] }, { accessFlags := 74, nameIndex := 29, descriptorIndex := 30, attributes := #[] }, { accessFlags := 74, nameIndex := 154, descriptorIndex := 155, attributes := #[] }, { accessFlags := 10, nameIndex := 217, descriptorIndex := 218, attributes := #[] }, { accessFlags := 10, nameIndex := 221, descriptorIndex := 222, attributes := #[] }, { accessFlags := 8, nameIndex := 562, descriptorIndex := 563, attributes := #[] }])
  fields := #[{ name := "in", type := (.object "java/io/InputStream"), accessFlags := 25, slot := 0, constantValue := 0 }, { name := "out", type := (.object "java/io/PrintStream"), accessFlags := 25, slot := 1, constantValue := 0 }, { name := "err", type := (.object "java/io/PrintStream"), accessFlags := 25, slot := 2, constantValue := 0 }, { name := "initialIn", type := (.object "java/io/InputStream"), accessFlags := 10, slot := 3, constantValue := 0 }, { name := "NEVER", type := .int, accessFlags := 26, slot := 4, constantValue := 0 }, { name := "MAYBE", type := .int, accessFlags := 26, slot := 5, constantValue := 0 }, { name := "allowSecurityManager", type := .int, accessFlags := 10, slot := 6, constantValue := 0 }, { name := "security", type := (.object "java/lang/SecurityManager"), accessFlags := 74, slot := 7, constantValue := 0 }, { name := "notSupportedJnuEncoding", type := (.object "java/lang/String"), accessFlags := 10, slot := 8, constantValue := 0 }, { name := "cons", type := (.object "java/io/Console"), accessFlags := 74, slot := 9, constantValue := 0 }, { name := "initialErrStream", type := (.object "java/io/PrintStream"), accessFlags := 74, slot := 10, constantValue := 0 }, { name := "props", type := (.object "java/util/Properties"), accessFlags := 10, slot := 11, constantValue := 0 }, { name := "lineSeparator", type := (.object "java/lang/String"), accessFlags := 10, slot := 12, constantValue := 0 }, { name := "bootLayer", type := (.object "java/lang/ModuleLayer"), accessFlags := 8, slot := 13, constantValue := 0 }]
  methods := #[k34m0, k34m1]
  instanceTypes := #[]
  staticTypes := #[(.object "java/io/InputStream"), (.object "java/io/PrintStream"), (.object "java/io/PrintStream"), (.object "java/io/InputStream"), .int, .int, .int, (.object "java/lang/SecurityManager"), (.object "java/lang/String"), (.object "java/io/Console"), (.object "java/io/PrintStream"), (.object "java/util/Properties"), (.object "java/lang/String"), (.object "java/lang/ModuleLayer")]
  resolved := Array.replicate 834 none
  statics := none }

def pool35 : Array CpInfo := pool [(4, .class_ 6), (1, u "java/lang/Number"), (16, .class_ 25), (1, u "java/math/BigInteger"), (0, u "ZERO"), (0, u "Ljava/math/BigInteger;"), (2, u "mag"), (0, u "[I"), (2, u "signum"), (0, u "I"), (59, u "bitsPerDigit"), (0, u "[J"), (9, u "digitsPerInt"), (12, u "intRadix"), (60, u "SMALL_PRIME_PRODUCT"), (79, u "ONE"), (6, u "TWO"), (43, u "$assertionsDisabled"), (0, u "Z"), (36, u "posConst"), (0, u "[Ljava/math/BigInteger;"), (4, u "negConst"), (116, .class_ 474), (1, u "java/math/BigInteger$RecursiveOp"), (106, u "NEGATIVE_ONE"), (91, u "bnExpModThreshTable"), (72, u "lowestSetBitPlusTwo"), (2, u "bitLengthPlusOne"), (2, u "bitCountPlusOne"), (6, u "LOG_TWO"), (0, u "D"), (2, u "logCache"), (0, u "[D"), (13, u "NUM_ZEROS"), (2, u "ZEROS"), (0, u "Ljava/lang/String;"), (9, u "longRadix"), (5, u "digitsPerLong"), (22, u "powerCache"), (0, u "[[Ljava/math/BigInteger;"), (45, u "firstNonzeroIntNumPlusTwo"), (38, .class_ 909), (1, u "java/math/BigInteger$UnsafeHolder"), (141, u "TEN"), (106, u "serialPersistentFields"), (0, u "[Ljava/io/ObjectStreamField;"), (0, .class_ 1161), (0, u "java/lang/Comparable"), (0, u "LONG_MASK"), (0, u "J"), (1, u "MAX_MAG_LENGTH"), (0, u "PRIME_SEARCH_BIT_LENGTH_LIMIT"), (1, u "KARATSUBA_THRESHOLD"), (1, u "TOOM_COOK_THRESHOLD"), (1, u "KARATSUBA_SQUARE_THRESHOLD"), (1, u "TOOM_COOK_SQUARE_THRESHOLD"), (1, u "BURNIKEL_ZIEGLER_THRESHOLD"), (0, u "BURNIKEL_ZIEGLER_OFFSET"), (1, u "SCHOENHAGE_BASE_CONVERSION_THRESHOLD"), (1, u "MULTIPLY_SQUARE_THRESHOLD"), (0, u "MONTGOMERY_INTRINSIC_THRESHOLD"), (1, u "SMALL_PRIME_THRESHOLD"), (1, u "DEFAULT_PRIME_CERTAINTY"), (1, u "MAX_CONSTANT"), (3, u "serialVersionUID"), (338, .class_ 1532), (0, u "java/math/BigInteger$RecursiveOp$RecursiveSquare"), (0, .class_ 1534), (0, u "java/math/BigInteger$RecursiveOp$RecursiveMultiply")] 7

/-- java/math/BigInteger -/
def k35 : Class := { plain "java/math/BigInteger" (some 3) with
  accessFlags := 33
  interfaces := #[4]
  cf := some (fileOf pool35 23 #[.nestMembers #[907, 472, 1531, 1533]] #[] 33 4 #[1160] #[{ accessFlags := 16, nameIndex := 34, descriptorIndex := 35, attributes := #[] }, { accessFlags := 16, nameIndex := 30, descriptorIndex := 31, attributes := #[] }, { accessFlags := 2, nameIndex := 752, descriptorIndex := 35, attributes := #[] }, { accessFlags := 2, nameIndex := 749, descriptorIndex := 35, attributes := #[] }, { accessFlags := 2, nameIndex := 746, descriptorIndex := 35, attributes := #[] }, { accessFlags := 2, nameIndex := 868, descriptorIndex := 35, attributes := #[] }, { accessFlags := 24, nameIndex := 1162, descriptorIndex := 1163, attributes := #[] }, { accessFlags := 26, nameIndex := 1165, descriptorIndex := 35, attributes := #[] }, { accessFlags := 26, nameIndex := 1166, descriptorIndex := 35, attributes := #[] }, { accessFlags := 26, nameIndex := 1168, descriptorIndex := 35, attributes := #[] }, { accessFlags := 26, nameIndex := 1170, descriptorIndex := 35, attributes := #[] }, { accessFlags := 26, nameIndex := 1172, descriptorIndex := 35, attributes := #[] }, { accessFlags := 26, nameIndex := 1174, descriptorIndex := 35, attributes := #[] }, { accessFlags := 24, nameIndex := 1176, descriptorIndex := 35, attributes := #[] }, { accessFlags := 24, nameIndex := 1177, descriptorIndex := 35, attributes := #[] }, { accessFlags := 26, nameIndex := 1179, descriptorIndex := 35, attributes := #[] }, { accessFlags := 26, nameIndex := 1181, descriptorIndex := 35, attributes := #[] }, { accessFlags := 26, nameIndex := 1182, descriptorIndex := 35, attributes := #[] }, { accessFlags := 10, nameIndex := 95, descriptorIndex := 96, attributes := #[] }, { accessFlags := 26, nameIndex := 1184, descriptorIndex := 35, attributes := #[] }, { accessFlags := 26, nameIndex := 1186, descriptorIndex := 35, attributes := #[] }, { accessFlags := 26, nameIndex := 180, descriptorIndex := 27, attributes := #[] }, { accessFlags := 26, nameIndex := 1188, descriptorIndex := 35, attributes := #[] }, { accessFlags := 26, nameIndex := 349, descriptorIndex := 350, attributes := #[] }, { accessFlags := 26, nameIndex := 355, descriptorIndex := 350, attributes := #[] }, { accessFlags := 74, nameIndex := 821, descriptorIndex := 822, attributes := #[] }, { accessFlags := 26, nameIndex := 763, descriptorIndex := 764, attributes := #[] }, { accessFlags := 26, nameIndex := 759, descriptorIndex := 760, attributes := #[] }, { accessFlags := 25, nameIndex := 26, descriptorIndex := 27, attributes := #[] }, { accessFlags := 25, nameIndex := 260, descriptorIndex := 27, attributes := #[] }, { accessFlags := 25, nameIndex := 267, descriptorIndex := 27, attributes := #[] }, { accessFlags := 26, nameIndex := 581, descriptorIndex := 27, attributes := #[] }, { accessFlags := 25, nameIndex := 1051, descriptorIndex := 27, attributes := #[] }, { accessFlags := 8, nameIndex := 673, descriptorIndex := 31, attributes := #[] }, { accessFlags := 10, nameIndex := 778, descriptorIndex := 35, attributes := #[] }, { accessFlags := 26, nameIndex := 781, descriptorIndex := 782, attributes := #[] }, { accessFlags := 10, nameIndex := 798, descriptorIndex := 31, attributes := #[] }, { accessFlags := 10, nameIndex := 792, descriptorIndex := 350, attributes := #[] }, { accessFlags := 10, nameIndex := 106, descriptorIndex := 31, attributes := #[] }, { accessFlags := 10, nameIndex := 119, descriptorIndex := 31, attributes := #[] }, { accessFlags := 26, nameIndex := 1192, descriptorIndex := 1163, attributes := #[] }, { accessFlags := 26, nameIndex := 1158, descriptorIndex := 1159, attributes := #[] }, { accessFlags := 4120, nameIndex := 311, descriptorIndex := 312, attributes := #[] }])
  fields := #[{ name := "signum", type := .int, accessFlags := 16, slot := 0, constantValue := 0 }, { name := "mag", type := (.array .int), accessFlags := 16, slot := 1, constantValue := 0 }, { name := "bitCountPlusOne", type := .int, accessFlags := 2, slot := 2, constantValue := 0 }, { name := "bitLengthPlusOne", type := .int, accessFlags := 2, slot := 3, constantValue := 0 }, { name := "lowestSetBitPlusTwo", type := .int, accessFlags := 2, slot := 4, constantValue := 0 }, { name := "firstNonzeroIntNumPlusTwo", type := .int, accessFlags := 2, slot := 5, constantValue := 0 }, { name := "LONG_MASK", type := .long, accessFlags := 24, slot := 0, constantValue := 0 }, { name := "MAX_MAG_LENGTH", type := .int, accessFlags := 26, slot := 1, constantValue := 0 }, { name := "PRIME_SEARCH_BIT_LENGTH_LIMIT", type := .int, accessFlags := 26, slot := 2, constantValue := 0 }, { name := "KARATSUBA_THRESHOLD", type := .int, accessFlags := 26, slot := 3, constantValue := 0 }, { name := "TOOM_COOK_THRESHOLD", type := .int, accessFlags := 26, slot := 4, constantValue := 0 }, { name := "KARATSUBA_SQUARE_THRESHOLD", type := .int, accessFlags := 26, slot := 5, constantValue := 0 }, { name := "TOOM_COOK_SQUARE_THRESHOLD", type := .int, accessFlags := 26, slot := 6, constantValue := 0 }, { name := "BURNIKEL_ZIEGLER_THRESHOLD", type := .int, accessFlags := 24, slot := 7, constantValue := 0 }, { name := "BURNIKEL_ZIEGLER_OFFSET", type := .int, accessFlags := 24, slot := 8, constantValue := 0 }, { name := "SCHOENHAGE_BASE_CONVERSION_THRESHOLD", type := .int, accessFlags := 26, slot := 9, constantValue := 0 }, { name := "MULTIPLY_SQUARE_THRESHOLD", type := .int, accessFlags := 26, slot := 10, constantValue := 0 }, { name := "MONTGOMERY_INTRINSIC_THRESHOLD", type := .int, accessFlags := 26, slot := 11, constantValue := 0 }, { name := "bitsPerDigit", type := (.array .long), accessFlags := 10, slot := 12, constantValue := 0 }, { name := "SMALL_PRIME_THRESHOLD", type := .int, accessFlags := 26, slot := 13, constantValue := 0 }, { name := "DEFAULT_PRIME_CERTAINTY", type := .int, accessFlags := 26, slot := 14, constantValue := 0 }, { name := "SMALL_PRIME_PRODUCT", type := (.object "java/math/BigInteger"), accessFlags := 26, slot := 15, constantValue := 0 }, { name := "MAX_CONSTANT", type := .int, accessFlags := 26, slot := 16, constantValue := 0 }, { name := "posConst", type := (.array (.object "java/math/BigInteger")), accessFlags := 26, slot := 17, constantValue := 0 }, { name := "negConst", type := (.array (.object "java/math/BigInteger")), accessFlags := 26, slot := 18, constantValue := 0 }, { name := "powerCache", type := (.array (.array (.object "java/math/BigInteger"))), accessFlags := 74, slot := 19, constantValue := 0 }, { name := "logCache", type := (.array .double), accessFlags := 26, slot := 20, constantValue := 0 }, { name := "LOG_TWO", type := .double, accessFlags := 26, slot := 21, constantValue := 0 }, { name := "ZERO", type := (.object "java/math/BigInteger"), accessFlags := 25, slot := 22, constantValue := 0 }, { name := "ONE", type := (.object "java/math/BigInteger"), accessFlags := 25, slot := 23, constantValue := 0 }, { name := "TWO", type := (.object "java/math/BigInteger"), accessFlags := 25, slot := 24, constantValue := 0 }, { name := "NEGATIVE_ONE", type := (.object "java/math/BigInteger"), accessFlags := 26, slot := 25, constantValue := 0 }, { name := "TEN", type := (.object "java/math/BigInteger"), accessFlags := 25, slot := 26, constantValue := 0 }, { name := "bnExpModThreshTable", type := (.array .int), accessFlags := 8, slot := 27, constantValue := 0 }, { name := "NUM_ZEROS", type := .int, accessFlags := 10, slot := 28, constantValue := 0 }, { name := "ZEROS", type := (.object "java/lang/String"), accessFlags := 26, slot := 29, constantValue := 0 }, { name := "digitsPerLong", type := (.array .int), accessFlags := 10, slot := 30, constantValue := 0 }, { name := "longRadix", type := (.array (.object "java/math/BigInteger")), accessFlags := 10, slot := 31, constantValue := 0 }, { name := "digitsPerInt", type := (.array .int), accessFlags := 10, slot := 32, constantValue := 0 }, { name := "intRadix", type := (.array .int), accessFlags := 10, slot := 33, constantValue := 0 }, { name := "serialVersionUID", type := .long, accessFlags := 26, slot := 34, constantValue := 0 }, { name := "serialPersistentFields", type := (.array (.object "java/io/ObjectStreamField")), accessFlags := 26, slot := 35, constantValue := 0 }, { name := "$assertionsDisabled", type := .boolean, accessFlags := 4120, slot := 36, constantValue := 0 }]
  methods := #[]
  instanceTypes := #[.int, (.array .int), .int, .int, .int, .int]
  staticTypes := #[.long, .int, .int, .int, .int, .int, .int, .int, .int, .int, .int, .int, (.array .long), .int, .int, (.object "java/math/BigInteger"), .int, (.array (.object "java/math/BigInteger")), (.array (.object "java/math/BigInteger")), (.array (.array (.object "java/math/BigInteger"))), (.array .double), .double, (.object "java/math/BigInteger"), (.object "java/math/BigInteger"), (.object "java/math/BigInteger"), (.object "java/math/BigInteger"), (.object "java/math/BigInteger"), (.array .int), .int, (.object "java/lang/String"), (.array .int), (.array (.object "java/math/BigInteger")), (.array .int), (.array .int), .long, (.array (.object "java/io/ObjectStreamField")), .boolean]
  resolved := Array.replicate 1542 none
  statics := some 6 }

def pool36 : Array CpInfo := pool [(9, u "<init>"), (6, .class_ 18), (1, u "java/lang/Object"), (0, u "()V"), (1, .class_ 23), (1, u "jdk/internal/util/ArraysSupport"), (0, u "LOG2_ARRAY_LONG_INDEX_SCALE"), (0, u "I"), (2, u "U"), (0, u "Ljdk/internal/misc/Unsafe;"), (8, u "BIG_ENDIAN"), (0, u "Z"), (8, u "LOG2_BYTE_BIT_SIZE"), (4, u "LOG2_ARRAY_INT_INDEX_SCALE"), (54, u "JLA"), (0, u "Ljdk/internal/access/JavaLangAccess;"), (11, u "LOG2_ARRAY_BOOLEAN_INDEX_SCALE"), (9, u "LOG2_ARRAY_BYTE_INDEX_SCALE"), (5, u "LOG2_ARRAY_CHAR_INDEX_SCALE"), (5, u "LOG2_ARRAY_SHORT_INDEX_SCALE"), (18, u "LOG2_ARRAY_FLOAT_INDEX_SCALE"), (24, u "LOG2_ARRAY_DOUBLE_INDEX_SCALE"), (89, u "T_BOOLEAN"), (2, u "T_CHAR"), (1, u "T_FLOAT"), (1, u "T_DOUBLE"), (1, u "T_BYTE"), (1, u "T_SHORT"), (1, u "T_INT"), (1, u "T_LONG"), (1, u "SOFT_MAX_ARRAY_LENGTH")] 83

def k36m0 : Method := { name := "<init>", desc := "()V", sig := { parameters := [], returnType := none }, accessFlags := 2, code := none }
/-- jdk/internal/util/ArraysSupport -/
def k36 : Class := { plain "jdk/internal/util/ArraysSupport" (some 0) with
  accessFlags := 33
  interfaces := #[]
  cf := some (fileOf pool36 21 #[] #[{ accessFlags := 2, nameIndex := 9, descriptorIndex := 19, attributes := #[] }] 33 16 #[] #[{ accessFlags := 24, nameIndex := 28, descriptorIndex := 29, attributes := #[] }, { accessFlags := 26, nameIndex := 38, descriptorIndex := 39, attributes := #[] }, { accessFlags := 25, nameIndex := 121, descriptorIndex := 25, attributes := #[] }, { accessFlags := 25, nameIndex := 131, descriptorIndex := 25, attributes := #[] }, { accessFlags := 25, nameIndex := 137, descriptorIndex := 25, attributes := #[] }, { accessFlags := 25, nameIndex := 143, descriptorIndex := 25, attributes := #[] }, { accessFlags := 25, nameIndex := 53, descriptorIndex := 25, attributes := #[] }, { accessFlags := 25, nameIndex := 24, descriptorIndex := 25, attributes := #[] }, { accessFlags := 25, nameIndex := 162, descriptorIndex := 25, attributes := #[] }, { accessFlags := 25, nameIndex := 187, descriptorIndex := 25, attributes := #[] }, { accessFlags := 26, nameIndex := 48, descriptorIndex := 25, attributes := #[] }, { accessFlags := 25, nameIndex := 277, descriptorIndex := 25, attributes := #[] }, { accessFlags := 25, nameIndex := 280, descriptorIndex := 25, attributes := #[] }, { accessFlags := 25, nameIndex := 282, descriptorIndex := 25, attributes := #[] }, { accessFlags := 25, nameIndex := 284, descriptorIndex := 25, attributes := #[] }, { accessFlags := 25, nameIndex := 286, descriptorIndex := 25, attributes := #[] }, { accessFlags := 25, nameIndex := 288, descriptorIndex := 25, attributes := #[] }, { accessFlags := 25, nameIndex := 290, descriptorIndex := 25, attributes := #[] }, { accessFlags := 25, nameIndex := 292, descriptorIndex := 25, attributes := #[] }, { accessFlags := 26, nameIndex := 108, descriptorIndex := 109, attributes := #[] }, { accessFlags := 25, nameIndex := 294, descriptorIndex := 25, attributes := #[] }])
  fields := #[{ name := "U", type := (.object "jdk/internal/misc/Unsafe"), accessFlags := 24, slot := 0, constantValue := 0 }, { name := "BIG_ENDIAN", type := .boolean, accessFlags := 26, slot := 1, constantValue := 0 }, { name := "LOG2_ARRAY_BOOLEAN_INDEX_SCALE", type := .int, accessFlags := 25, slot := 2, constantValue := 0 }, { name := "LOG2_ARRAY_BYTE_INDEX_SCALE", type := .int, accessFlags := 25, slot := 3, constantValue := 0 }, { name := "LOG2_ARRAY_CHAR_INDEX_SCALE", type := .int, accessFlags := 25, slot := 4, constantValue := 0 }, { name := "LOG2_ARRAY_SHORT_INDEX_SCALE", type := .int, accessFlags := 25, slot := 5, constantValue := 0 }, { name := "LOG2_ARRAY_INT_INDEX_SCALE", type := .int, accessFlags := 25, slot := 6, constantValue := 0 }, { name := "LOG2_ARRAY_LONG_INDEX_SCALE", type := .int, accessFlags := 25, slot := 7, constantValue := 0 }, { name := "LOG2_ARRAY_FLOAT_INDEX_SCALE", type := .int, accessFlags := 25, slot := 8, constantValue := 0 }, { name := "LOG2_ARRAY_DOUBLE_INDEX_SCALE", type := .int, accessFlags := 25, slot := 9, constantValue := 0 }, { name := "LOG2_BYTE_BIT_SIZE", type := .int, accessFlags := 26, slot := 10, constantValue := 0 }, { name := "T_BOOLEAN", type := .int, accessFlags := 25, slot := 11, constantValue := 0 }, { name := "T_CHAR", type := .int, accessFlags := 25, slot := 12, constantValue := 0 }, { name := "T_FLOAT", type := .int, accessFlags := 25, slot := 13, constantValue := 0 }, { name := "T_DOUBLE", type := .int, accessFlags := 25, slot := 14, constantValue := 0 }, { name := "T_BYTE", type := .int, accessFlags := 25, slot := 15, constantValue := 0 }, { name := "T_SHORT", type := .int, accessFlags := 25, slot := 16, constantValue := 0 }, { name := "T_INT", type := .int, accessFlags := 25, slot := 17, constantValue := 0 }, { name := "T_LONG", type := .int, accessFlags := 25, slot := 18, constantValue := 0 }, { name := "JLA", type := (.object "jdk/internal/access/JavaLangAccess"), accessFlags := 26, slot := 19, constantValue := 0 }, { name := "SOFT_MAX_ARRAY_LENGTH", type := .int, accessFlags := 25, slot := 20, constantValue := 0 }]
  methods := #[k36m0]
  instanceTypes := #[]
  staticTypes := #[(.object "jdk/internal/misc/Unsafe"), .boolean, .int, .int, .int, .int, .int, .int, .int, .int, .int, .int, .int, .int, .int, .int, .int, .int, .int, (.object "jdk/internal/access/JavaLangAccess"), .int]
  resolved := Array.replicate 378 none
  statics := none }

def pool37 : Array CpInfo := pool [(1, .class_ 2), (0, u "java/lang/Class"), (0, .class_ 4), (0, u "java/lang/Object")] 0

/-- java/lang/Class -/
def k37 : Class := { plain "java/lang/Class" (some 0) with
  accessFlags := 49
  interfaces := #[]
  cf := some (fileOf pool37 1 #[] #[] 49 3 #[] #[])
  fields := #[]
  methods := #[]
  instanceTypes := #[]
  staticTypes := #[]
  resolved := Array.replicate 5 none
  statics := none }

/-- the primitive byte -/
def k38 : Class := { plain "byte" none with kind := .primitive 'B', accessFlags := 0x411 }
/-- [B -/
def k39 : Class := { plain "[B" (some 0) with kind := .array 38 .byte, interfaces := #[13, 2], accessFlags := 1041 }

/-- the primitive int -/
def k40 : Class := { plain "int" none with kind := .primitive 'I', accessFlags := 0x411 }
/-- [I -/
def k41 : Class := { plain "[I" (some 0) with kind := .array 40 .int, interfaces := #[13, 2], accessFlags := 1041 }

/-- [Ljava/lang/Object; -/
def k42 : Class := { plain "[Ljava/lang/Object;" (some 0) with kind := .array 0 (.object "java/lang/Object"), interfaces := #[13, 2], accessFlags := 1041, mirror := some 7 }

/-- [Ljava/math/BigDecimal; -/
def k43 : Class := { plain "[Ljava/math/BigDecimal;" (some 0) with kind := .array 5 (.object "java/math/BigDecimal"), interfaces := #[13, 2], accessFlags := 1041 }

def heap : Heap := #[{ cls := 5, slots := #[.double 0, .int 0, .int 0, .int 0, .int 0, .int 0, .int 0, .long 0, .null, .int 0, .long 0, .null, .null, .long 0, .long 0, .ref 12, .ref 13, .null, .null, .null, .null, .int 0, .int 0, .int 0, .int 0, .int 0, .int 0, .int 0, .int 0, .null, .null, .null, .null, .int 0, .int 0, .null, .long 0, .null, .int 0], vm := .statics 5 },
  { cls := 14, slots := #[.long 0, .int 0, .ref 15, .ref 16], vm := .statics 14 },
  { cls := 21, slots := #[.long 0, .int 1, .null, .int 0, .null, .int 0, .int 0], vm := .statics 21 },
  { cls := 24, slots := #[.null, .null, .ref 17, .ref 18, .null], vm := .statics 24 },
  { cls := 26, slots := #[.null, .null, .null], vm := .statics 26 },
  { cls := 28, slots := #[.long 0, .int 0, .null, .ref 19, .ref 20, .null, .null, .null, .int 0, .int 1], vm := .statics 28 },
  { cls := 35, slots := #[.long 0, .int 0, .int 0, .int 0, .int 0, .int 0, .int 0, .int 0, .int 0, .int 0, .int 0, .int 0, .null, .int 0, .int 0, .null, .int 0, .null, .null, .null, .null, .double 0, .ref 10, .ref 11, .null, .null, .null, .null, .int 0, .null, .null, .null, .null, .null, .long 0, .null, .int 0], vm := .statics 35 },
  { cls := 37, slots := #[], vm := .mirror 42 },
  { cls := 41, slots := #[], vm := .none },
  { cls := 41, slots := #[.int 1], vm := .none },
  { cls := 35, slots := #[.int 0, .ref 8, .int 0, .int 0, .int 0, .int 0], vm := .none },
  { cls := 35, slots := #[.int 1, .ref 9, .int 0, .int 0, .int 0, .int 0], vm := .none },
  { cls := 5, slots := #[.ref 10, .int 0, .int 0, .null, .long 0], vm := .none },
  { cls := 5, slots := #[.ref 11, .int 0, .int 0, .null, .long 1], vm := .none },
  { cls := 36, slots := #[], vm := .none },
  { cls := 42, slots := #[], vm := .none },
  { cls := 42, slots := #[], vm := .none },
  { cls := 24, slots := #[], vm := .none },
  { cls := 41, slots := #[.int 1207963663, .int 1207963663, .int 1207963663, .int 1207963663, .int 1207963663, .int 1207963663, .int 1207963663, .int 1207963663, .int 1207963663, .int 1476411407, .int 1342193679, .int 1476411407, .int 1610629135, .int 1342193679, .int 1207963663, .int 1207963663, .int 1207963663, .int 1207963663, .int 1207963663, .int 1207963663, .int 1207963663, .int 1207963663, .int 1207963663, .int 1207963663, .int 1207963663, .int 1207963663, .int 1207963663, .int 1207963663, .int 1342193679, .int 1342193679, .int 1342193679, .int 1476411407, .int 1610629132, .int 1744830488, .int 1744830488, .int 671088664, .int 671113242, .int 671088664, .int 1744830488, .int 1744830488, .int (-402653163), .int (-402653162), .int 1744830488, .int 536870937, .int 939524120, .int 536870932, .int 939524120, .int 939524120, .int 402667017, .int 402667017, .int 402667017, .int 402667017, .int 402667017, .int 402667017, .int 402667017, .int 402667017, .int 402667017, .int 402667017, .int 939524120, .int 1744830488, .int (-402653159), .int 1744830489, .int (-402653159), .int 1744830488, .int 1744830488, .int 8552417, .int 8552417, .int 8552417, .int 8552417, .int 8552417, .int 8552417, .int 8552417, .int 8552417, .int 8552417, .int 8552417, .int 8552417, .int 8552417, .int 8552417, .int 8552417, .int 8552417, .int 8552417, .int 8552417, .int 8552417, .int 8552417, .int 8552417, .int 8552417, .int 8552417, .int 8552417, .int 8552417, .int 8552417, .int 8552417, .int (-402653163), .int 1744830488, .int (-402653162), .int 1744830491, .int 1744850967, .int 1744830491, .int 8486882, .int 8486882, .int 8486882, .int 8486882, .int 8486882, .int 8486882, .int 8486882, .int 8486882, .int 8486882, .int 8486882, .int 8486882, .int 8486882, .int 8486882, .int 8486882, .int 8486882, .int 8486882, .int 8486882, .int 8486882, .int 8486882, .int 8486882, .int 8486882, .int 8486882, .int 8486882, .int 8486882, .int 8486882, .int 8486882, .int (-402653163), .int 1744830489, .int (-402653162), .int 1744830489, .int 1207963663, .int 1207963663, .int 1207963663, .int 1207963663, .int 1207963663, .int 1207963663, .int 1342181391, .int 1207963663, .int 1207963663, .int 1207963663, .int 1207963663, .int 1207963663, .int 1207963663, .int 1207963663, .int 1207963663, .int 1207963663, .int 1207963663, .int 1207963663, .int 1207963663, .int 1207963663, .int 1207963663, .int 1207963663, .int 1207963663, .int 1207963663, .int 1207963663, .int 1207963663, .int 1207963663, .int 1207963663, .int 1207963663, .int 1207963663, .int 1207963663, .int 1207963663, .int 1207963663, .int 939524108, .int 1744830488, .int 671113242, .int 671113242, .int 671113242, .int 671113242, .int 1744830492, .int 1744830488, .int 1744830491, .int 1744830492, .int 28677, .int (-402653155), .int 1744830489, .int 1207963664, .int 1744830492, .int 1744830491, .int 671088668, .int 671088665, .int 402654731, .int 402654731, .int 1744830491, .int 134049794, .int 1744830488, .int 1744830488, .int 1744830491, .int 402654475, .int 28677, .int (-402653154), .int 1744832523, .int 1744832523, .int 1744832523, .int 1744830488, .int 8548353, .int 8548353, .int 8548353, .int 8548353, .int 8548353, .int 8548353, .int 8548353, .int 8548353, .int 8548353, .int 8548353, .int 8548353, .int 8548353, .int 8548353, .int 8548353, .int 8548353, .int 8548353, .int 8548353, .int 8548353, .int 8548353, .int 8548353, .int 8548353, .int 8548353, .int 8548353, .int 1744830489, .int 8548353, .int 8548353, .int 8548353, .int 8548353, .int 8548353, .int 8548353, .int 8548353, .int 134049794, .int 8482818, .int 8482818, .int 8482818, .int 8482818, .int 8482818, .int 8482818, .int 8482818, .int 8482818, .int 8482818, .int 8482818, .int 8482818, .int 8482818, .int 8482818, .int 8482818, .int 8482818, .int 8482818, .int 8482818, .int 8482818, .int 8482818, .int 8482818, .int 8482818, .int 8482818, .int 8482818, .int 1744830489, .int 8482818, .int 8482818, .int 8482818, .int 8482818, .int 8482818, .int 8482818, .int 8482818, .int 102592514], vm := .none },
  { cls := 0, slots := #[], vm := .none },
  { cls := 32, slots := #[.null, .int 0], vm := .none }]
def classes : Array Class := #[k0, k1, k2, k3, k4, k5, k6, k7, k8, k9, k10, k11, k12, k13, k14, k15, k16, k17, k18, k19, k20, k21, k22, k23, k24, k25, k26, k27, k28, k29, k30, k31, k32, k33, k34, k35, k36, k37, k38, k39, k40, k41, k42, k43]
def interned : List (Array UInt16 × Addr) := []
def slotsUsed : Nat := 386
def theMethod : MethodId := ⟨1, 2⟩
def args0 : Array Value := #[.int 5, .int 6, .int 7]
def aboutOver (below : List Frame) : State where
  vm := { classes := classes, interned := interned.toArray }
  heap := heap
  slotsUsed := slotsUsed
  threads := #[{ frames := .invoking theMethod args0 :: below }]
def below0 : List Frame := [.native { method := ⟨0, 0⟩, args := #[] }]
def about1 : State := aboutOver below0
def p0 : Program := .bare "" "" ""
def e0 : Env := launch0.env 0 0 0
theorem w_frames : about1.frames = Frame.invoking theMethod args0 :: below0 := rfl
set_option maxRecDepth 65536 in
theorem w_args : argsFit about1.vm theMethod args0 = true := by decide +kernel
set_option maxRecDepth 65536 in
theorem w_heap : heapFits about1 = true := by decide +kernel
set_option maxRecDepth 65536 in
theorem w_runnable : about1.curStatus? = some .runnable := by decide +kernel
set_option maxRecDepth 65536 in
theorem w_alone : about1.alone = true := by decide +kernel
set_option maxRecDepth 65536 in
theorem w_named : about1.methodNamed? x = some theMethod := by decide +kernel
set_option maxRecDepth 65536 in
theorem w_hears : about1.hears theMethod below0 = true := by decide +kernel
set_option maxRecDepth 65536 in
theorem w_ripe : about1.ripe theMethod args0 below0 = true := by decide +kernel
theorem w_running : about1.status = .running := rfl
set_option maxRecDepth 65536 in
theorem w_room : about1.hasRoom e0.platform room_1 = true :=
  launch0.hasRoom_least _ room_1 (by decide +kernel) (by decide +kernel) (by decide +kernel) (by decide +kernel) (by decide +kernel) (by decide +kernel)
theorem allAtoms_all (ts : List Jvm.Cond) (a : Array Jvm.Value) (st : Jvm.State) : (allAtoms ts).before a st = ts.all (fun c => c.before a st) := by
  induction ts with
  | nil => rfl
  | cons c t ih =>
    show (Jvm.Cond.and c (allAtoms t)).before a st = _
    rw [Jvm.Cond.before_and, ih, List.all_cons]
def words1 : List Jvm.Cond := Jvm.Cond.code x code maxLocals ret :: tables_1
/-- a 'code' word, met by the world's own term for the bytes: nothing is compared byte by byte -/
theorem code_word {y : MethodName} {bytes : ByteArray} {mx : Nat} {rt : Option FieldType} {a : Array Value} {s : State} {m : MethodId} {meth : Method} {c : Code} (h1 : s.methodNamed? y = some m) (h2 : s.vm.method? m = some meth) (h3 : meth.code = some c) (h4 : c.code = bytes)
    (h5 : (c.maxLocals == mx && c.exceptionTable.isEmpty && decide (c.maxStack ≤ mostOperands) && decide (meth.sig.returnType = rt) && !meth.locks && decide (parseMethodDescriptor y.desc = some meth.sig)) = true) : (Jvm.Cond.code y bytes mx rt).before a s = true := by
  simp only [Bool.and_eq_true, beq_iff_eq, Bool.not_eq_true', decide_eq_true_eq] at h5
  obtain ⟨⟨⟨⟨⟨g1, g2⟩, g3⟩, g4⟩, g5⟩, g6⟩ := h5
  simp [Cond.before, Cond.holds, Cond.value, h1, h2, h3, h4, g1, g2, g3, g4, g5, g6]
def isCode : Jvm.Cond → Bool
  | .code _ _ _ _ => true
  | _ => false
theorem all_split {L : List Jvm.Cond} {P : Jvm.Cond → Bool} (h1 : L.all (fun c => isCode c || P c) = true) (h2 : ∀ c ∈ L.filter isCode, P c = true) : L.all P = true := by
  refine List.all_eq_true.mpr fun c hc => ?_
  have h := List.all_eq_true.mp h1 c hc
  rcases Bool.eq_false_or_eq_true (isCode c) with hi | hi
  · exact h2 c (List.mem_filter.mpr ⟨hc, hi⟩)
  · simpa [hi] using h
set_option maxRecDepth 65536 in
theorem w_c0 : (Jvm.Cond.code x code maxLocals ret).before args0 about1 = true := code_word (m := ⟨1, 2⟩) (meth := k1m2) (c := k1c2) (by decide +kernel) rfl rfl rfl (by decide +kernel)
set_option maxRecDepth 65536 in
theorem w_c1 : (Jvm.Cond.code ({ cls := "com/example/restoria/restoria/mortality/MortalityTableLastAgePinLaw", name := "pick", desc := "(II)Ljava/math/BigDecimal;" } : Jvm.MethodName) method_2_code (2 : Nat) (Option.some (Jvm.ClassFile.FieldType.object "java/math/BigDecimal"))).before args0 about1 = true := code_word (m := ⟨1, 1⟩) (meth := k1m1) (c := k1c1) (by decide +kernel) rfl rfl rfl (by decide +kernel)
set_option maxRecDepth 65536 in
theorem w_c2 : (Jvm.Cond.code ({ cls := "java/util/ArrayList", name := "<init>", desc := "()V" } : Jvm.MethodName) jdk_38_method_2_code (1 : Nat) (Option.none : Option Jvm.ClassFile.FieldType)).before args0 about1 = true := code_word (m := ⟨14, 0⟩) (meth := k14m0) (c := k14c0) (by decide +kernel) rfl rfl rfl (by decide +kernel)
set_option maxRecDepth 65536 in
theorem w_c3 : (Jvm.Cond.code ({ cls := "java/util/AbstractList", name := "<init>", desc := "()V" } : Jvm.MethodName) jdk_39_method_1_code (1 : Nat) (Option.none : Option Jvm.ClassFile.FieldType)).before args0 about1 = true := code_word (m := ⟨11, 0⟩) (meth := k11m0) (c := k11c0) (by decide +kernel) rfl rfl rfl (by decide +kernel)
set_option maxRecDepth 65536 in
theorem w_c4 : (Jvm.Cond.code ({ cls := "java/util/AbstractCollection", name := "<init>", desc := "()V" } : Jvm.MethodName) jdk_22_method_1_code (1 : Nat) (Option.none : Option Jvm.ClassFile.FieldType)).before args0 about1 = true := code_word (m := ⟨8, 0⟩) (meth := k8m0) (c := k8c0) (by decide +kernel) rfl rfl rfl (by decide +kernel)
set_option maxRecDepth 65536 in
theorem w_c5 : (Jvm.Cond.code ({ cls := "java/lang/Object", name := "<init>", desc := "()V" } : Jvm.MethodName) object_method_1_code (1 : Nat) (Option.none : Option Jvm.ClassFile.FieldType)).before args0 about1 = true := code_word (m := ⟨0, 0⟩) (meth := k0m0) (c := k0c0) (by decide +kernel) rfl rfl rfl (by decide +kernel)
set_option maxRecDepth 65536 in
theorem w_c6 : (Jvm.Cond.code ({ cls := "java/util/ArrayList", name := "add", desc := "(Ljava/lang/Object;)Z" } : Jvm.MethodName) jdk_38_method_25_code (2 : Nat) (Option.some Jvm.ClassFile.FieldType.boolean)).before args0 about1 = true := code_word (m := ⟨14, 9⟩) (meth := k14m9) (c := k14c9) (by decide +kernel) rfl rfl rfl (by decide +kernel)
set_option maxRecDepth 65536 in
theorem w_c7 : (Jvm.Cond.code ({ cls := "java/util/ArrayList", name := "add", desc := "(Ljava/lang/Object;[Ljava/lang/Object;I)V" } : Jvm.MethodName) jdk_38_method_24_code (4 : Nat) (Option.none : Option Jvm.ClassFile.FieldType)).before args0 about1 = true := code_word (m := ⟨14, 8⟩) (meth := k14m8) (c := k14c8) (by decide +kernel) rfl rfl rfl (by decide +kernel)
set_option maxRecDepth 65536 in
theorem w_c8 : (Jvm.Cond.code ({ cls := "java/util/ArrayList", name := "grow", desc := "()[Ljava/lang/Object;" } : Jvm.MethodName) jdk_38_method_7_code (1 : Nat) (Option.some (Jvm.ClassFile.FieldType.array (Jvm.ClassFile.FieldType.object "java/lang/Object")))).before args0 about1 = true := code_word (m := ⟨14, 2⟩) (meth := k14m2) (c := k14c2) (by decide +kernel) rfl rfl rfl (by decide +kernel)
set_option maxRecDepth 65536 in
theorem w_c9 : (Jvm.Cond.code ({ cls := "java/util/ArrayList", name := "grow", desc := "(I)[Ljava/lang/Object;" } : Jvm.MethodName) jdk_38_method_6_code (4 : Nat) (Option.some (Jvm.ClassFile.FieldType.array (Jvm.ClassFile.FieldType.object "java/lang/Object")))).before args0 about1 = true := code_word (m := ⟨14, 1⟩) (meth := k14m1) (c := k14c1) (by decide +kernel) rfl rfl rfl (by decide +kernel)
set_option maxRecDepth 65536 in
theorem w_c10 : (Jvm.Cond.code ({ cls := "java/lang/Math", name := "max", desc := "(II)I" } : Jvm.MethodName) jdk_29_method_65_code (2 : Nat) (Option.some Jvm.ClassFile.FieldType.int)).before args0 about1 = true := code_word (m := ⟨15, 1⟩) (meth := k15m1) (c := k15c1) (by decide +kernel) rfl rfl rfl (by decide +kernel)
set_option maxRecDepth 65536 in
theorem w_c11 : (Jvm.Cond.code ({ cls := "com/example/restoria/restoria/mortality/MortalityTable", name := "<init>", desc := "(Ljava/lang/String;ILjava/util/List;)V" } : Jvm.MethodName) prog_35_method_1_code (6 : Nat) (Option.none : Option Jvm.ClassFile.FieldType)).before args0 about1 = true := code_word (m := ⟨17, 0⟩) (meth := k17m0) (c := k17c0) (by decide +kernel) rfl rfl rfl (by decide +kernel)
set_option maxRecDepth 65536 in
theorem w_c12 : (Jvm.Cond.code ({ cls := "java/lang/Record", name := "<init>", desc := "()V" } : Jvm.MethodName) jdk_30_method_1_code (1 : Nat) (Option.none : Option Jvm.ClassFile.FieldType)).before args0 about1 = true := code_word (m := ⟨16, 0⟩) (meth := k16m0) (c := k16c0) (by decide +kernel) rfl rfl rfl (by decide +kernel)
set_option maxRecDepth 65536 in
theorem w_c13 : (Jvm.Cond.code ({ cls := "java/lang/String", name := "isBlank", desc := "()Z" } : Jvm.MethodName) jdk_42_method_117_code (1 : Nat) (Option.some Jvm.ClassFile.FieldType.boolean)).before args0 about1 = true := code_word (m := ⟨21, 2⟩) (meth := k21m2) (c := k21c2) (by decide +kernel) rfl rfl rfl (by decide +kernel)
set_option maxRecDepth 65536 in
theorem w_c14 : (Jvm.Cond.code ({ cls := "java/lang/String", name := "indexOfNonWhitespace", desc := "()I" } : Jvm.MethodName) jdk_42_method_120_code (1 : Nat) (Option.some Jvm.ClassFile.FieldType.int)).before args0 about1 = true := code_word (m := ⟨21, 3⟩) (meth := k21m3) (c := k21c3) (by decide +kernel) rfl rfl rfl (by decide +kernel)
set_option maxRecDepth 65536 in
theorem w_c15 : (Jvm.Cond.code ({ cls := "java/lang/String", name := "isLatin1", desc := "()Z" } : Jvm.MethodName) jdk_42_method_154_code (1 : Nat) (Option.some Jvm.ClassFile.FieldType.boolean)).before args0 about1 = true := code_word (m := ⟨21, 5⟩) (meth := k21m5) (c := k21c5) (by decide +kernel) rfl rfl rfl (by decide +kernel)
set_option maxRecDepth 65536 in
theorem w_c16 : (Jvm.Cond.code ({ cls := "java/lang/StringLatin1", name := "indexOfNonWhitespace", desc := "([B)I" } : Jvm.MethodName) jdk_43_method_37_code (4 : Nat) (Option.some Jvm.ClassFile.FieldType.int)).before args0 about1 = true := code_word (m := ⟨22, 1⟩) (meth := k22m1) (c := k22c1) (by decide +kernel) rfl rfl rfl (by decide +kernel)
set_option maxRecDepth 65536 in
theorem w_c17 : (Jvm.Cond.code ({ cls := "java/lang/StringLatin1", name := "getChar", desc := "([BI)C" } : Jvm.MethodName) jdk_43_method_44_code (2 : Nat) (Option.some Jvm.ClassFile.FieldType.char)).before args0 about1 = true := code_word (m := ⟨22, 2⟩) (meth := k22m2) (c := k22c2) (by decide +kernel) rfl rfl rfl (by decide +kernel)
set_option maxRecDepth 65536 in
theorem w_c18 : (Jvm.Cond.code ({ cls := "java/lang/CharacterDataLatin1", name := "isWhitespace", desc := "(I)Z" } : Jvm.MethodName) jdk_116_method_26_code (3 : Nat) (Option.some Jvm.ClassFile.FieldType.boolean)).before args0 about1 = true := code_word (m := ⟨24, 1⟩) (meth := k24m1) (c := k24c1) (by decide +kernel) rfl rfl rfl (by decide +kernel)
set_option maxRecDepth 65536 in
theorem w_c19 : (Jvm.Cond.code ({ cls := "java/lang/CharacterDataLatin1", name := "getProperties", desc := "(I)I" } : Jvm.MethodName) jdk_116_method_1_code (4 : Nat) (Option.some Jvm.ClassFile.FieldType.int)).before args0 about1 = true := code_word (m := ⟨24, 0⟩) (meth := k24m0) (c := k24c0) (by decide +kernel) rfl rfl rfl (by decide +kernel)
set_option maxRecDepth 65536 in
theorem w_c20 : (Jvm.Cond.code ({ cls := "java/lang/String", name := "length", desc := "()I" } : Jvm.MethodName) jdk_42_method_54_code (1 : Nat) (Option.some Jvm.ClassFile.FieldType.int)).before args0 about1 = true := code_word (m := ⟨21, 1⟩) (meth := k21m1) (c := k21c1) (by decide +kernel) rfl rfl rfl (by decide +kernel)
set_option maxRecDepth 65536 in
theorem w_c21 : (Jvm.Cond.code ({ cls := "java/lang/String", name := "coder", desc := "()B" } : Jvm.MethodName) jdk_42_method_152_code (1 : Nat) (Option.some Jvm.ClassFile.FieldType.byte)).before args0 about1 = true := code_word (m := ⟨21, 4⟩) (meth := k21m4) (c := k21c4) (by decide +kernel) rfl rfl rfl (by decide +kernel)
set_option maxRecDepth 65536 in
theorem w_c22 : (Jvm.Cond.code ({ cls := "java/util/ArrayList", name := "isEmpty", desc := "()Z" } : Jvm.MethodName) jdk_38_method_9_code (1 : Nat) (Option.some Jvm.ClassFile.FieldType.boolean)).before args0 about1 = true := code_word (m := ⟨14, 4⟩) (meth := k14m4) (c := k14c4) (by decide +kernel) rfl rfl rfl (by decide +kernel)
set_option maxRecDepth 65536 in
theorem w_c23 : (Jvm.Cond.code ({ cls := "java/util/ArrayList", name := "size", desc := "()I" } : Jvm.MethodName) jdk_38_method_8_code (1 : Nat) (Option.some Jvm.ClassFile.FieldType.int)).before args0 about1 = true := code_word (m := ⟨14, 3⟩) (meth := k14m3) (c := k14c3) (by decide +kernel) rfl rfl rfl (by decide +kernel)
set_option maxRecDepth 65536 in
theorem w_c24 : (Jvm.Cond.code ({ cls := "java/util/ArrayList", name := "get", desc := "(I)Ljava/lang/Object;" } : Jvm.MethodName) jdk_38_method_20_code (2 : Nat) (Option.some (Jvm.ClassFile.FieldType.object "java/lang/Object"))).before args0 about1 = true := code_word (m := ⟨14, 7⟩) (meth := k14m7) (c := k14c7) (by decide +kernel) rfl rfl rfl (by decide +kernel)
set_option maxRecDepth 65536 in
theorem w_c25 : (Jvm.Cond.code ({ cls := "java/util/Objects", name := "checkIndex", desc := "(II)I" } : Jvm.MethodName) jdk_31_method_17_code (2 : Nat) (Option.some Jvm.ClassFile.FieldType.int)).before args0 about1 = true := code_word (m := ⟨25, 2⟩) (meth := k25m2) (c := k25c2) (by decide +kernel) rfl rfl rfl (by decide +kernel)
set_option maxRecDepth 65536 in
theorem w_c26 : (Jvm.Cond.code ({ cls := "jdk/internal/util/Preconditions", name := "checkIndex", desc := "(IILjava/util/function/BiFunction;)I" } : Jvm.MethodName) jdk_41_method_11_code (3 : Nat) (Option.some Jvm.ClassFile.FieldType.int)).before args0 about1 = true := code_word (m := ⟨26, 1⟩) (meth := k26m1) (c := k26c1) (by decide +kernel) rfl rfl rfl (by decide +kernel)
set_option maxRecDepth 65536 in
theorem w_c27 : (Jvm.Cond.code ({ cls := "java/util/ArrayList", name := "elementData", desc := "(I)Ljava/lang/Object;" } : Jvm.MethodName) jdk_38_method_18_code (2 : Nat) (Option.some (Jvm.ClassFile.FieldType.object "java/lang/Object"))).before args0 about1 = true := code_word (m := ⟨14, 6⟩) (meth := k14m6) (c := k14c6) (by decide +kernel) rfl rfl rfl (by decide +kernel)
set_option maxRecDepth 65536 in
theorem w_c28 : (Jvm.Cond.code ({ cls := "java/math/BigDecimal", name := "signum", desc := "()I" } : Jvm.MethodName) jdk_17_method_58_code (1 : Nat) (Option.some Jvm.ClassFile.FieldType.int)).before args0 about1 = true := code_word (m := ⟨5, 0⟩) (meth := k5m0) (c := k5c0) (by decide +kernel) rfl rfl rfl (by decide +kernel)
set_option maxRecDepth 65536 in
theorem w_c29 : (Jvm.Cond.code ({ cls := "java/lang/Long", name := "signum", desc := "(J)I" } : Jvm.MethodName) jdk_35_method_57_code (2 : Nat) (Option.some Jvm.ClassFile.FieldType.int)).before args0 about1 = true := code_word (m := ⟨27, 0⟩) (meth := k27m0) (c := k27c0) (by decide +kernel) rfl rfl rfl (by decide +kernel)
set_option maxRecDepth 65536 in
theorem w_c30 : (Jvm.Cond.code ({ cls := "java/math/BigDecimal", name := "compareTo", desc := "(Ljava/math/BigDecimal;)I" } : Jvm.MethodName) jdk_17_method_70_code (6 : Nat) (Option.some Jvm.ClassFile.FieldType.int)).before args0 about1 = true := code_word (m := ⟨5, 1⟩) (meth := k5m1) (c := k5c1) (by decide +kernel) rfl rfl rfl (by decide +kernel)
set_option maxRecDepth 65536 in
theorem w_c31 : (Jvm.Cond.code ({ cls := "java/util/List", name := "copyOf", desc := "(Ljava/util/Collection;)Ljava/util/List;" } : Jvm.MethodName) jdk_40_method_48_code (1 : Nat) (Option.some (Jvm.ClassFile.FieldType.object "java/util/List"))).before args0 about1 = true := code_word (m := ⟨10, 4⟩) (meth := k10m4) (c := k10c4) (by decide +kernel) rfl rfl rfl (by decide +kernel)
set_option maxRecDepth 65536 in
theorem w_c32 : (Jvm.Cond.code ({ cls := "java/util/ImmutableCollections", name := "listCopy", desc := "(Ljava/util/Collection;)Ljava/util/List;" } : Jvm.MethodName) jdk_56_method_3_code (2 : Nat) (Option.some (Jvm.ClassFile.FieldType.object "java/util/List"))).before args0 about1 = true := code_word (m := ⟨28, 1⟩) (meth := k28m1) (c := k28c1) (by decide +kernel) rfl rfl rfl (by decide +kernel)
set_option maxRecDepth 65536 in
theorem w_c33 : (Jvm.Cond.code ({ cls := "java/util/ArrayList", name := "toArray", desc := "()[Ljava/lang/Object;" } : Jvm.MethodName) jdk_38_method_16_code (1 : Nat) (Option.some (Jvm.ClassFile.FieldType.array (Jvm.ClassFile.FieldType.object "java/lang/Object")))).before args0 about1 = true := code_word (m := ⟨14, 5⟩) (meth := k14m5) (c := k14c5) (by decide +kernel) rfl rfl rfl (by decide +kernel)
set_option maxRecDepth 65536 in
theorem w_c34 : (Jvm.Cond.code ({ cls := "java/util/Arrays", name := "copyOf", desc := "([Ljava/lang/Object;I)[Ljava/lang/Object;" } : Jvm.MethodName) jdk_65_method_119_code (2 : Nat) (Option.some (Jvm.ClassFile.FieldType.array (Jvm.ClassFile.FieldType.object "java/lang/Object")))).before args0 about1 = true := code_word (m := ⟨33, 1⟩) (meth := k33m1) (c := k33c1) (by decide +kernel) rfl rfl rfl (by decide +kernel)
set_option maxRecDepth 65536 in
theorem w_c35 : (Jvm.Cond.code ({ cls := "java/util/Arrays", name := "copyOf", desc := "([Ljava/lang/Object;ILjava/lang/Class;)[Ljava/lang/Object;" } : Jvm.MethodName) jdk_65_method_120_code (4 : Nat) (Option.some (Jvm.ClassFile.FieldType.array (Jvm.ClassFile.FieldType.object "java/lang/Object")))).before args0 about1 = true := code_word (m := ⟨33, 2⟩) (meth := k33m2) (c := k33c2) (by decide +kernel) rfl rfl rfl (by decide +kernel)
set_option maxRecDepth 65536 in
theorem w_c36 : (Jvm.Cond.code ({ cls := "java/lang/Math", name := "min", desc := "(II)I" } : Jvm.MethodName) jdk_29_method_69_code (2 : Nat) (Option.some Jvm.ClassFile.FieldType.int)).before args0 about1 = true := code_word (m := ⟨15, 2⟩) (meth := k15m2) (c := k15c2) (by decide +kernel) rfl rfl rfl (by decide +kernel)
set_option maxRecDepth 65536 in
theorem w_c37 : (Jvm.Cond.code ({ cls := "java/util/List", name := "of", desc := "([Ljava/lang/Object;)Ljava/util/List;" } : Jvm.MethodName) jdk_40_method_47_code (2 : Nat) (Option.some (Jvm.ClassFile.FieldType.object "java/util/List"))).before args0 about1 = true := code_word (m := ⟨10, 3⟩) (meth := k10m3) (c := k10c3) (by decide +kernel) rfl rfl rfl (by decide +kernel)
set_option maxRecDepth 65536 in
theorem w_c38 : (Jvm.Cond.code ({ cls := "java/util/ImmutableCollections", name := "listFromArray", desc := "([Ljava/lang/Object;)Ljava/util/List;" } : Jvm.MethodName) jdk_56_method_4_code (3 : Nat) (Option.some (Jvm.ClassFile.FieldType.object "java/util/List"))).before args0 about1 = true := code_word (m := ⟨28, 2⟩) (meth := k28m2) (c := k28c2) (by decide +kernel) rfl rfl rfl (by decide +kernel)
set_option maxRecDepth 65536 in
theorem w_c39 : (Jvm.Cond.code ({ cls := "java/util/Objects", name := "requireNonNull", desc := "(Ljava/lang/Object;)Ljava/lang/Object;" } : Jvm.MethodName) jdk_31_method_10_code (1 : Nat) (Option.some (Jvm.ClassFile.FieldType.object "java/lang/Object"))).before args0 about1 = true := code_word (m := ⟨25, 1⟩) (meth := k25m1) (c := k25c1) (by decide +kernel) rfl rfl rfl (by decide +kernel)
set_option maxRecDepth 65536 in
theorem w_c40 : (Jvm.Cond.code ({ cls := "java/util/ImmutableCollections$ListN", name := "<init>", desc := "([Ljava/lang/Object;Z)V" } : Jvm.MethodName) jdk_45_method_1_code (3 : Nat) (Option.none : Option Jvm.ClassFile.FieldType)).before args0 about1 = true := code_word (m := ⟨32, 0⟩) (meth := k32m0) (c := k32c0) (by decide +kernel) rfl rfl rfl (by decide +kernel)
set_option maxRecDepth 65536 in
theorem w_c41 : (Jvm.Cond.code ({ cls := "java/util/ImmutableCollections$AbstractImmutableList", name := "<init>", desc := "()V" } : Jvm.MethodName) jdk_46_method_1_code (1 : Nat) (Option.none : Option Jvm.ClassFile.FieldType)).before args0 about1 = true := code_word (m := ⟨30, 0⟩) (meth := k30m0) (c := k30c0) (by decide +kernel) rfl rfl rfl (by decide +kernel)
set_option maxRecDepth 65536 in
theorem w_c42 : (Jvm.Cond.code ({ cls := "java/util/ImmutableCollections$AbstractImmutableCollection", name := "<init>", desc := "()V" } : Jvm.MethodName) jdk_47_method_1_code (1 : Nat) (Option.none : Option Jvm.ClassFile.FieldType)).before args0 about1 = true := code_word (m := ⟨29, 0⟩) (meth := k29m0) (c := k29c0) (by decide +kernel) rfl rfl rfl (by decide +kernel)
set_option maxRecDepth 65536 in
theorem w_c43 : (Jvm.Cond.code ({ cls := "com/example/restoria/restoria/mortality/MortalityTable", name := "lastAge", desc := "()I" } : Jvm.MethodName) prog_35_method_2_code (1 : Nat) (Option.some Jvm.ClassFile.FieldType.int)).before args0 about1 = true := code_word (m := ⟨17, 1⟩) (meth := k17m1) (c := k17c1) (by decide +kernel) rfl rfl rfl (by decide +kernel)
set_option maxRecDepth 65536 in
theorem w_c44 : (Jvm.Cond.code ({ cls := "java/util/ImmutableCollections$ListN", name := "size", desc := "()I" } : Jvm.MethodName) jdk_45_method_3_code (1 : Nat) (Option.some Jvm.ClassFile.FieldType.int)).before args0 about1 = true := code_word (m := ⟨32, 1⟩) (meth := k32m1) (c := k32c1) (by decide +kernel) rfl rfl rfl (by decide +kernel)
set_option maxRecDepth 65536 in
theorem w_c45 : (Jvm.Cond.code ({ cls := "com/example/restoria/restoria/mortality/MortalityTable", name := "rateOfDeath", desc := "(I)Ljava/math/BigDecimal;" } : Jvm.MethodName) prog_35_method_4_code (2 : Nat) (Option.some (Jvm.ClassFile.FieldType.object "java/math/BigDecimal"))).before args0 about1 = true := code_word (m := ⟨17, 2⟩) (meth := k17m2) (c := k17c2) (by decide +kernel) rfl rfl rfl (by decide +kernel)
set_option maxRecDepth 65536 in
theorem w_c46 : (Jvm.Cond.code ({ cls := "java/util/ImmutableCollections$ListN", name := "get", desc := "(I)Ljava/lang/Object;" } : Jvm.MethodName) jdk_45_method_4_code (2 : Nat) (Option.some (Jvm.ClassFile.FieldType.object "java/lang/Object"))).before args0 about1 = true := code_word (m := ⟨32, 2⟩) (meth := k32m2) (c := k32c2) (by decide +kernel) rfl rfl rfl (by decide +kernel)
set_option maxRecDepth 65536 in
theorem w_c47 : (Jvm.Cond.code ({ cls := "java/util/ImmutableCollections$List12", name := "<init>", desc := "(Ljava/lang/Object;)V" } : Jvm.MethodName) jdk_44_method_1_code (2 : Nat) (Option.none : Option Jvm.ClassFile.FieldType)).before args0 about1 = true := code_word (m := ⟨31, 0⟩) (meth := k31m0) (c := k31c0) (by decide +kernel) rfl rfl rfl (by decide +kernel)
set_option maxRecDepth 65536 in
theorem w_c48 : (Jvm.Cond.code ({ cls := "java/util/ImmutableCollections$List12", name := "size", desc := "()I" } : Jvm.MethodName) jdk_44_method_3_code (1 : Nat) (Option.some Jvm.ClassFile.FieldType.int)).before args0 about1 = true := code_word (m := ⟨31, 2⟩) (meth := k31m2) (c := k31c2) (by decide +kernel) rfl rfl rfl (by decide +kernel)
set_option maxRecDepth 65536 in
theorem w_c49 : (Jvm.Cond.code ({ cls := "java/util/ImmutableCollections$List12", name := "get", desc := "(I)Ljava/lang/Object;" } : Jvm.MethodName) jdk_44_method_5_code (2 : Nat) (Option.some (Jvm.ClassFile.FieldType.object "java/lang/Object"))).before args0 about1 = true := code_word (m := ⟨31, 3⟩) (meth := k31m3) (c := k31c3) (by decide +kernel) rfl rfl rfl (by decide +kernel)
set_option maxRecDepth 65536 in
theorem w_c50 : (Jvm.Cond.code ({ cls := "java/util/ImmutableCollections$List12", name := "<init>", desc := "(Ljava/lang/Object;Ljava/lang/Object;)V" } : Jvm.MethodName) jdk_44_method_2_code (3 : Nat) (Option.none : Option Jvm.ClassFile.FieldType)).before args0 about1 = true := code_word (m := ⟨31, 1⟩) (meth := k31m1) (c := k31c1) (by decide +kernel) rfl rfl rfl (by decide +kernel)
def codes1 : List Jvm.Cond := [Jvm.Cond.code x code maxLocals ret, Jvm.Cond.code ({ cls := "com/example/restoria/restoria/mortality/MortalityTableLastAgePinLaw", name := "pick", desc := "(II)Ljava/math/BigDecimal;" } : Jvm.MethodName) method_2_code (2 : Nat) (Option.some (Jvm.ClassFile.FieldType.object "java/math/BigDecimal")), Jvm.Cond.code ({ cls := "java/util/ArrayList", name := "<init>", desc := "()V" } : Jvm.MethodName) jdk_38_method_2_code (1 : Nat) (Option.none : Option Jvm.ClassFile.FieldType), Jvm.Cond.code ({ cls := "java/util/AbstractList", name := "<init>", desc := "()V" } : Jvm.MethodName) jdk_39_method_1_code (1 : Nat) (Option.none : Option Jvm.ClassFile.FieldType), Jvm.Cond.code ({ cls := "java/util/AbstractCollection", name := "<init>", desc := "()V" } : Jvm.MethodName) jdk_22_method_1_code (1 : Nat) (Option.none : Option Jvm.ClassFile.FieldType), Jvm.Cond.code ({ cls := "java/lang/Object", name := "<init>", desc := "()V" } : Jvm.MethodName) object_method_1_code (1 : Nat) (Option.none : Option Jvm.ClassFile.FieldType), Jvm.Cond.code ({ cls := "java/util/ArrayList", name := "add", desc := "(Ljava/lang/Object;)Z" } : Jvm.MethodName) jdk_38_method_25_code (2 : Nat) (Option.some Jvm.ClassFile.FieldType.boolean), Jvm.Cond.code ({ cls := "java/util/ArrayList", name := "add", desc := "(Ljava/lang/Object;[Ljava/lang/Object;I)V" } : Jvm.MethodName) jdk_38_method_24_code (4 : Nat) (Option.none : Option Jvm.ClassFile.FieldType), Jvm.Cond.code ({ cls := "java/util/ArrayList", name := "grow", desc := "()[Ljava/lang/Object;" } : Jvm.MethodName) jdk_38_method_7_code (1 : Nat) (Option.some (Jvm.ClassFile.FieldType.array (Jvm.ClassFile.FieldType.object "java/lang/Object"))), Jvm.Cond.code ({ cls := "java/util/ArrayList", name := "grow", desc := "(I)[Ljava/lang/Object;" } : Jvm.MethodName) jdk_38_method_6_code (4 : Nat) (Option.some (Jvm.ClassFile.FieldType.array (Jvm.ClassFile.FieldType.object "java/lang/Object"))), Jvm.Cond.code ({ cls := "java/lang/Math", name := "max", desc := "(II)I" } : Jvm.MethodName) jdk_29_method_65_code (2 : Nat) (Option.some Jvm.ClassFile.FieldType.int), Jvm.Cond.code ({ cls := "com/example/restoria/restoria/mortality/MortalityTable", name := "<init>", desc := "(Ljava/lang/String;ILjava/util/List;)V" } : Jvm.MethodName) prog_35_method_1_code (6 : Nat) (Option.none : Option Jvm.ClassFile.FieldType), Jvm.Cond.code ({ cls := "java/lang/Record", name := "<init>", desc := "()V" } : Jvm.MethodName) jdk_30_method_1_code (1 : Nat) (Option.none : Option Jvm.ClassFile.FieldType), Jvm.Cond.code ({ cls := "java/lang/String", name := "isBlank", desc := "()Z" } : Jvm.MethodName) jdk_42_method_117_code (1 : Nat) (Option.some Jvm.ClassFile.FieldType.boolean), Jvm.Cond.code ({ cls := "java/lang/String", name := "indexOfNonWhitespace", desc := "()I" } : Jvm.MethodName) jdk_42_method_120_code (1 : Nat) (Option.some Jvm.ClassFile.FieldType.int), Jvm.Cond.code ({ cls := "java/lang/String", name := "isLatin1", desc := "()Z" } : Jvm.MethodName) jdk_42_method_154_code (1 : Nat) (Option.some Jvm.ClassFile.FieldType.boolean), Jvm.Cond.code ({ cls := "java/lang/StringLatin1", name := "indexOfNonWhitespace", desc := "([B)I" } : Jvm.MethodName) jdk_43_method_37_code (4 : Nat) (Option.some Jvm.ClassFile.FieldType.int), Jvm.Cond.code ({ cls := "java/lang/StringLatin1", name := "getChar", desc := "([BI)C" } : Jvm.MethodName) jdk_43_method_44_code (2 : Nat) (Option.some Jvm.ClassFile.FieldType.char), Jvm.Cond.code ({ cls := "java/lang/CharacterDataLatin1", name := "isWhitespace", desc := "(I)Z" } : Jvm.MethodName) jdk_116_method_26_code (3 : Nat) (Option.some Jvm.ClassFile.FieldType.boolean), Jvm.Cond.code ({ cls := "java/lang/CharacterDataLatin1", name := "getProperties", desc := "(I)I" } : Jvm.MethodName) jdk_116_method_1_code (4 : Nat) (Option.some Jvm.ClassFile.FieldType.int), Jvm.Cond.code ({ cls := "java/lang/String", name := "length", desc := "()I" } : Jvm.MethodName) jdk_42_method_54_code (1 : Nat) (Option.some Jvm.ClassFile.FieldType.int), Jvm.Cond.code ({ cls := "java/lang/String", name := "coder", desc := "()B" } : Jvm.MethodName) jdk_42_method_152_code (1 : Nat) (Option.some Jvm.ClassFile.FieldType.byte), Jvm.Cond.code ({ cls := "java/util/ArrayList", name := "isEmpty", desc := "()Z" } : Jvm.MethodName) jdk_38_method_9_code (1 : Nat) (Option.some Jvm.ClassFile.FieldType.boolean), Jvm.Cond.code ({ cls := "java/util/ArrayList", name := "size", desc := "()I" } : Jvm.MethodName) jdk_38_method_8_code (1 : Nat) (Option.some Jvm.ClassFile.FieldType.int), Jvm.Cond.code ({ cls := "java/util/ArrayList", name := "get", desc := "(I)Ljava/lang/Object;" } : Jvm.MethodName) jdk_38_method_20_code (2 : Nat) (Option.some (Jvm.ClassFile.FieldType.object "java/lang/Object")), Jvm.Cond.code ({ cls := "java/util/Objects", name := "checkIndex", desc := "(II)I" } : Jvm.MethodName) jdk_31_method_17_code (2 : Nat) (Option.some Jvm.ClassFile.FieldType.int), Jvm.Cond.code ({ cls := "jdk/internal/util/Preconditions", name := "checkIndex", desc := "(IILjava/util/function/BiFunction;)I" } : Jvm.MethodName) jdk_41_method_11_code (3 : Nat) (Option.some Jvm.ClassFile.FieldType.int), Jvm.Cond.code ({ cls := "java/util/ArrayList", name := "elementData", desc := "(I)Ljava/lang/Object;" } : Jvm.MethodName) jdk_38_method_18_code (2 : Nat) (Option.some (Jvm.ClassFile.FieldType.object "java/lang/Object")), Jvm.Cond.code ({ cls := "java/math/BigDecimal", name := "signum", desc := "()I" } : Jvm.MethodName) jdk_17_method_58_code (1 : Nat) (Option.some Jvm.ClassFile.FieldType.int), Jvm.Cond.code ({ cls := "java/lang/Long", name := "signum", desc := "(J)I" } : Jvm.MethodName) jdk_35_method_57_code (2 : Nat) (Option.some Jvm.ClassFile.FieldType.int), Jvm.Cond.code ({ cls := "java/math/BigDecimal", name := "compareTo", desc := "(Ljava/math/BigDecimal;)I" } : Jvm.MethodName) jdk_17_method_70_code (6 : Nat) (Option.some Jvm.ClassFile.FieldType.int), Jvm.Cond.code ({ cls := "java/util/List", name := "copyOf", desc := "(Ljava/util/Collection;)Ljava/util/List;" } : Jvm.MethodName) jdk_40_method_48_code (1 : Nat) (Option.some (Jvm.ClassFile.FieldType.object "java/util/List")), Jvm.Cond.code ({ cls := "java/util/ImmutableCollections", name := "listCopy", desc := "(Ljava/util/Collection;)Ljava/util/List;" } : Jvm.MethodName) jdk_56_method_3_code (2 : Nat) (Option.some (Jvm.ClassFile.FieldType.object "java/util/List")), Jvm.Cond.code ({ cls := "java/util/ArrayList", name := "toArray", desc := "()[Ljava/lang/Object;" } : Jvm.MethodName) jdk_38_method_16_code (1 : Nat) (Option.some (Jvm.ClassFile.FieldType.array (Jvm.ClassFile.FieldType.object "java/lang/Object"))), Jvm.Cond.code ({ cls := "java/util/Arrays", name := "copyOf", desc := "([Ljava/lang/Object;I)[Ljava/lang/Object;" } : Jvm.MethodName) jdk_65_method_119_code (2 : Nat) (Option.some (Jvm.ClassFile.FieldType.array (Jvm.ClassFile.FieldType.object "java/lang/Object"))), Jvm.Cond.code ({ cls := "java/util/Arrays", name := "copyOf", desc := "([Ljava/lang/Object;ILjava/lang/Class;)[Ljava/lang/Object;" } : Jvm.MethodName) jdk_65_method_120_code (4 : Nat) (Option.some (Jvm.ClassFile.FieldType.array (Jvm.ClassFile.FieldType.object "java/lang/Object"))), Jvm.Cond.code ({ cls := "java/lang/Math", name := "min", desc := "(II)I" } : Jvm.MethodName) jdk_29_method_69_code (2 : Nat) (Option.some Jvm.ClassFile.FieldType.int), Jvm.Cond.code ({ cls := "java/util/List", name := "of", desc := "([Ljava/lang/Object;)Ljava/util/List;" } : Jvm.MethodName) jdk_40_method_47_code (2 : Nat) (Option.some (Jvm.ClassFile.FieldType.object "java/util/List")), Jvm.Cond.code ({ cls := "java/util/ImmutableCollections", name := "listFromArray", desc := "([Ljava/lang/Object;)Ljava/util/List;" } : Jvm.MethodName) jdk_56_method_4_code (3 : Nat) (Option.some (Jvm.ClassFile.FieldType.object "java/util/List")), Jvm.Cond.code ({ cls := "java/util/Objects", name := "requireNonNull", desc := "(Ljava/lang/Object;)Ljava/lang/Object;" } : Jvm.MethodName) jdk_31_method_10_code (1 : Nat) (Option.some (Jvm.ClassFile.FieldType.object "java/lang/Object")), Jvm.Cond.code ({ cls := "java/util/ImmutableCollections$ListN", name := "<init>", desc := "([Ljava/lang/Object;Z)V" } : Jvm.MethodName) jdk_45_method_1_code (3 : Nat) (Option.none : Option Jvm.ClassFile.FieldType), Jvm.Cond.code ({ cls := "java/util/ImmutableCollections$AbstractImmutableList", name := "<init>", desc := "()V" } : Jvm.MethodName) jdk_46_method_1_code (1 : Nat) (Option.none : Option Jvm.ClassFile.FieldType), Jvm.Cond.code ({ cls := "java/util/ImmutableCollections$AbstractImmutableCollection", name := "<init>", desc := "()V" } : Jvm.MethodName) jdk_47_method_1_code (1 : Nat) (Option.none : Option Jvm.ClassFile.FieldType), Jvm.Cond.code ({ cls := "com/example/restoria/restoria/mortality/MortalityTable", name := "lastAge", desc := "()I" } : Jvm.MethodName) prog_35_method_2_code (1 : Nat) (Option.some Jvm.ClassFile.FieldType.int), Jvm.Cond.code ({ cls := "java/util/ImmutableCollections$ListN", name := "size", desc := "()I" } : Jvm.MethodName) jdk_45_method_3_code (1 : Nat) (Option.some Jvm.ClassFile.FieldType.int), Jvm.Cond.code ({ cls := "com/example/restoria/restoria/mortality/MortalityTable", name := "rateOfDeath", desc := "(I)Ljava/math/BigDecimal;" } : Jvm.MethodName) prog_35_method_4_code (2 : Nat) (Option.some (Jvm.ClassFile.FieldType.object "java/math/BigDecimal")), Jvm.Cond.code ({ cls := "java/util/ImmutableCollections$ListN", name := "get", desc := "(I)Ljava/lang/Object;" } : Jvm.MethodName) jdk_45_method_4_code (2 : Nat) (Option.some (Jvm.ClassFile.FieldType.object "java/lang/Object")), Jvm.Cond.code ({ cls := "java/util/ImmutableCollections$List12", name := "<init>", desc := "(Ljava/lang/Object;)V" } : Jvm.MethodName) jdk_44_method_1_code (2 : Nat) (Option.none : Option Jvm.ClassFile.FieldType), Jvm.Cond.code ({ cls := "java/util/ImmutableCollections$List12", name := "size", desc := "()I" } : Jvm.MethodName) jdk_44_method_3_code (1 : Nat) (Option.some Jvm.ClassFile.FieldType.int), Jvm.Cond.code ({ cls := "java/util/ImmutableCollections$List12", name := "get", desc := "(I)Ljava/lang/Object;" } : Jvm.MethodName) jdk_44_method_5_code (2 : Nat) (Option.some (Jvm.ClassFile.FieldType.object "java/lang/Object")), Jvm.Cond.code ({ cls := "java/util/ImmutableCollections$List12", name := "<init>", desc := "(Ljava/lang/Object;Ljava/lang/Object;)V" } : Jvm.MethodName) jdk_44_method_2_code (3 : Nat) (Option.none : Option Jvm.ClassFile.FieldType)]
set_option maxRecDepth 65536 in
theorem codes_eq : words1.filter isCode = codes1 := rfl
theorem w_codes : ∀ c ∈ words1.filter isCode, c.before args0 about1 = true := by
  rw [codes_eq]
  intro c hc
  simp only [codes1, List.mem_cons, List.not_mem_nil, or_false] at hc
  rcases hc with rfl | rfl | rfl | rfl | rfl | rfl | rfl | rfl | rfl | rfl | rfl | rfl | rfl | rfl | rfl | rfl | rfl | rfl | rfl | rfl | rfl | rfl | rfl | rfl | rfl | rfl | rfl | rfl | rfl | rfl | rfl | rfl | rfl | rfl | rfl | rfl | rfl | rfl | rfl | rfl | rfl | rfl | rfl | rfl | rfl | rfl | rfl | rfl | rfl | rfl | rfl
  · exact w_c0
  · exact w_c1
  · exact w_c2
  · exact w_c3
  · exact w_c4
  · exact w_c5
  · exact w_c6
  · exact w_c7
  · exact w_c8
  · exact w_c9
  · exact w_c10
  · exact w_c11
  · exact w_c12
  · exact w_c13
  · exact w_c14
  · exact w_c15
  · exact w_c16
  · exact w_c17
  · exact w_c18
  · exact w_c19
  · exact w_c20
  · exact w_c21
  · exact w_c22
  · exact w_c23
  · exact w_c24
  · exact w_c25
  · exact w_c26
  · exact w_c27
  · exact w_c28
  · exact w_c29
  · exact w_c30
  · exact w_c31
  · exact w_c32
  · exact w_c33
  · exact w_c34
  · exact w_c35
  · exact w_c36
  · exact w_c37
  · exact w_c38
  · exact w_c39
  · exact w_c40
  · exact w_c41
  · exact w_c42
  · exact w_c43
  · exact w_c44
  · exact w_c45
  · exact w_c46
  · exact w_c47
  · exact w_c48
  · exact w_c49
  · exact w_c50
set_option maxRecDepth 65536 in
theorem w_t1 : (words1.take 24).all (fun c => isCode c || c.before args0 about1) = true := by decide +kernel
set_option maxRecDepth 65536 in
theorem w_t2 : ((words1.drop 24).take 24).all (fun c => isCode c || c.before args0 about1) = true := by decide +kernel
set_option maxRecDepth 65536 in
theorem w_t3 : (((words1.drop 24).drop 24).take 24).all (fun c => isCode c || c.before args0 about1) = true := by decide +kernel
set_option maxRecDepth 65536 in
theorem w_t4 : ((((words1.drop 24).drop 24).drop 24).take 24).all (fun c => isCode c || c.before args0 about1) = true := by decide +kernel
set_option maxRecDepth 65536 in
theorem w_t5 : (((((words1.drop 24).drop 24).drop 24).drop 24).take 24).all (fun c => isCode c || c.before args0 about1) = true := by decide +kernel
set_option maxRecDepth 65536 in
theorem w_t6 : ((((((words1.drop 24).drop 24).drop 24).drop 24).drop 24).take 24).all (fun c => isCode c || c.before args0 about1) = true := by decide +kernel
set_option maxRecDepth 65536 in
theorem w_t7 : (((((((words1.drop 24).drop 24).drop 24).drop 24).drop 24).drop 24).take 24).all (fun c => isCode c || c.before args0 about1) = true := by decide +kernel
set_option maxRecDepth 65536 in
theorem w_t8 : ((((((((words1.drop 24).drop 24).drop 24).drop 24).drop 24).drop 24).drop 24).take 24).all (fun c => isCode c || c.before args0 about1) = true := by decide +kernel
set_option maxRecDepth 65536 in
theorem w_t9 : (((((((((words1.drop 24).drop 24).drop 24).drop 24).drop 24).drop 24).drop 24).drop 24).take 24).all (fun c => isCode c || c.before args0 about1) = true := by decide +kernel
set_option maxRecDepth 65536 in
theorem w_t10 : ((((((((((words1.drop 24).drop 24).drop 24).drop 24).drop 24).drop 24).drop 24).drop 24).drop 24).take 24).all (fun c => isCode c || c.before args0 about1) = true := by decide +kernel
set_option maxRecDepth 65536 in
theorem w_t11 : (((((((((((words1.drop 24).drop 24).drop 24).drop 24).drop 24).drop 24).drop 24).drop 24).drop 24).drop 24).take 24).all (fun c => isCode c || c.before args0 about1) = true := by decide +kernel
set_option maxRecDepth 65536 in
theorem w_t12 : ((((((((((((words1.drop 24).drop 24).drop 24).drop 24).drop 24).drop 24).drop 24).drop 24).drop 24).drop 24).drop 24).take 24).all (fun c => isCode c || c.before args0 about1) = true := by decide +kernel
set_option maxRecDepth 65536 in
theorem w_t13 : (((((((((((((words1.drop 24).drop 24).drop 24).drop 24).drop 24).drop 24).drop 24).drop 24).drop 24).drop 24).drop 24).drop 24).take 24).all (fun c => isCode c || c.before args0 about1) = true := by decide +kernel
set_option maxRecDepth 65536 in
theorem w_t14 : ((((((((((((((words1.drop 24).drop 24).drop 24).drop 24).drop 24).drop 24).drop 24).drop 24).drop 24).drop 24).drop 24).drop 24).drop 24).take 24).all (fun c => isCode c || c.before args0 about1) = true := by decide +kernel
set_option maxRecDepth 65536 in
theorem w_t15 : ((((((((((((((words1.drop 24).drop 24).drop 24).drop 24).drop 24).drop 24).drop 24).drop 24).drop 24).drop 24).drop 24).drop 24).drop 24).drop 24).all (fun c => isCode c || c.before args0 about1) = true := by decide +kernel
theorem w_tables : (allAtoms (Jvm.Cond.code x code maxLocals ret :: tables_1)).before args0 about1 = true := by
  rw [allAtoms_all]
  show words1.all (fun c => c.before args0 about1) = true
  refine all_split ?_ w_codes
  rw [← List.take_append_drop 24 words1, List.all_append, w_t1, ← List.take_append_drop 24 (words1.drop 24), List.all_append, w_t2, ← List.take_append_drop 24 ((words1.drop 24).drop 24), List.all_append, w_t3, ← List.take_append_drop 24 (((words1.drop 24).drop 24).drop 24), List.all_append, w_t4, ← List.take_append_drop 24 ((((words1.drop 24).drop 24).drop 24).drop 24), List.all_append, w_t5, ← List.take_append_drop 24 (((((words1.drop 24).drop 24).drop 24).drop 24).drop 24), List.all_append, w_t6, ← List.take_append_drop 24 ((((((words1.drop 24).drop 24).drop 24).drop 24).drop 24).drop 24), List.all_append, w_t7, ← List.take_append_drop 24 (((((((words1.drop 24).drop 24).drop 24).drop 24).drop 24).drop 24).drop 24), List.all_append, w_t8, ← List.take_append_drop 24 ((((((((words1.drop 24).drop 24).drop 24).drop 24).drop 24).drop 24).drop 24).drop 24), List.all_append, w_t9, ← List.take_append_drop 24 (((((((((words1.drop 24).drop 24).drop 24).drop 24).drop 24).drop 24).drop 24).drop 24).drop 24), List.all_append, w_t10, ← List.take_append_drop 24 ((((((((((words1.drop 24).drop 24).drop 24).drop 24).drop 24).drop 24).drop 24).drop 24).drop 24).drop 24), List.all_append, w_t11, ← List.take_append_drop 24 (((((((((((words1.drop 24).drop 24).drop 24).drop 24).drop 24).drop 24).drop 24).drop 24).drop 24).drop 24).drop 24), List.all_append, w_t12, ← List.take_append_drop 24 ((((((((((((words1.drop 24).drop 24).drop 24).drop 24).drop 24).drop 24).drop 24).drop 24).drop 24).drop 24).drop 24).drop 24), List.all_append, w_t13, ← List.take_append_drop 24 (((((((((((((words1.drop 24).drop 24).drop 24).drop 24).drop 24).drop 24).drop 24).drop 24).drop 24).drop 24).drop 24).drop 24).drop 24), List.all_append, w_t14, w_t15]
  rfl
set_option maxRecDepth 65536 in
theorem w_rest : rest_1_c.before args0 about1 = true := by decide +kernel
set_option maxRecDepth 65536 in
theorem w_case : (Jvm.Cond.and given_1 narrow_1).before args0 about1 = true := by decide +kernel
set_option maxRecDepth 65536 in
theorem w_consts : constsHeld consts_1 about1 := Jvm.Lit.constsHeldB_iff.mp (by decide +kernel)
theorem w_applies : (headSpec (Jvm.Cond.code x code maxLocals ret :: tables_1) room_1).applies x e0.platform about1 = true :=
  (Spec.applies_iff w_frames).mpr ⟨w_running, w_runnable, w_alone, w_named, w_hears, w_ripe, w_room, w_tables⟩
theorem atStart : AtStart classFile x code maxLocals ret World_1 tables_1 room_1 Calls_1 rest_1 Pre_1 launch0 p0 e0 about1 theMethod args0 below0 :=
  ⟨lists_1, trivial, launch0.admits_env _ _ _, launch0.least_env, fairChoices_fair.cas, fairChoices_fair.clock, w_frames, w_args, w_heap, w_applies, ⟨⟨42, k42, 7, by decide +kernel, rfl, rfl, _, rfl, rfl⟩, ⟨w_consts, trivial⟩⟩, w_rest, w_case⟩
end start1
theorem witness_1 : WitnessClaimed_1 := ⟨start1.p0, start1.e0, start1.about1, start1.theMethod, start1.args0, start1.below0, start1.atStart⟩
end Jvm.Pilot.@@N@@
