import JvmDerived
import JvmDerived.Pilot.@@N@@Statement
import JvmDerived.Pilot.@@N@@Code
set_option linter.unusedVariables false
set_option linter.unusedSimpArgs false
namespace Jvm.Pilot.@@N@@
open Jvm Jvm.ClassFile Sem Op Lib Jvm.Free Jvm.Stand Jvm.LawKit Jvm.RoadKit Bundle Jvm.Pilot.@@N@@.Jvm.D
section Own
variable {p : Program} {l : Launch} {e : Env} {R : Room} {s : State} {m : MethodId} {args : Array Value} {below : List Frame} {meth : Method} {c : Code} {T T' : State} {locs : List Loc} {cells slots : Nat} {g g' : JFrame} {Φ : State → Outcome → Prop}
/-- the run from T, at the frame g, comes to an end of which Φ speaks -/
def own_Go (p : Program) (e : Env) (below : List Frame) (Φ : State → Outcome → Prop) (T : State) (g : JFrame) : Prop :=
  ∃ s₂ o, Steps p.tables e below (T.setTop g) s₂ ∧ s₂.status = .running ∧ Ended s₂ below o ∧ Φ s₂ o
theorem own_st (k : ∀ target, Steps p.tables e below (T'.setTop g') target → Steps p.tables e below (T.setTop g) target) (h : own_Go p e below Φ T' g') : own_Go p e below Φ T g := by
  obtain ⟨s2, o, h1, h2⟩ := h
  exact ⟨s2, o, k _ h1, h2⟩
theorem own_ts (k : Steps p.tables e below (T.setTop g) (T'.setTop g')) (h : own_Go p e below Φ T' g') : own_Go p e below Φ T g := own_st (fun _ q => k.trans q) h
theorem own_in (q : g = g') (h : own_Go p e below Φ T g') : ∃ s₂ o, Steps p.tables e below (T.setTop g) s₂ ∧ s₂.status = .running ∧ Ended s₂ below o ∧ Φ s₂ o := by
  subst q; exact h
theorem own_out {Q : Option Value → Heap → List Loc → Prop} {kC kS : Nat} (X : Stand p l e R s m args below meth c T locs cells slots) (hl : meth.locks = false) {v : Option Value} (hv : meth.sig.returnType = none → v = none)
    (k : ∀ fs, (∀ (f : JFrame) (acts : List Action), f.method = m → f.locked = none → f.entered = [] → (doReturn e (T.setTop f) acts v).1 = T.setFrames fs) → Steps p.tables e below (T.setTop g) (T.setFrames fs)) (q : Q v T.heap locs) (hc : cells ≤ kC) (hs : slots ≤ kS) :
    own_Go p e below (fun s₂ o => ∃ v L, o = .returned v ∧ Q v s₂.heap L ∧ FrameEnd s o s₂ L kC kS) T g := by
  obtain ⟨fs, hr, hrun, hended, hW, hsame⟩ := X.leave (v := v) hv hl
  exact ⟨_, _, k fs hr, hrun, hended, _, _, rfl, q, ⟨_, rfl⟩, hW, hsame.mono hc hs⟩
theorem own_retI (X : Stand p l e R s m args below meth c T locs cells slots) (hx : p.tables.exec = Jvm.exec) {pc : Nat} {Ls : Array Slot} {z : Int32} {rest : List Value} (hret : meth.sig.returnType = some .int) (hd : decode c.code pc = .ok (.ireturn, 1)) {fs : List Frame}
    (hl : ∀ (f : JFrame) (acts : List Action), f.method = m → f.locked = none → f.entered = [] → (doReturn e (T.setTop f) acts (some (.int z))).1 = T.setFrames fs) : Steps p.tables e below (T.setTop (mkF m pc Ls (.int z :: rest))) (T.setFrames fs) :=
  retOut X hx hret rfl (Or.inl ⟨rfl, Or.inl rfl, z, rfl⟩) hd hl
theorem own_retA (X : Stand p l e R s m args below meth c T locs cells slots) (hx : p.tables.exec = Jvm.exec) {pc : Nat} {Ls : Array Slot} {w : Value} {t : FieldType} {rest : List Value} (hret : meth.sig.returnType = some t) (ht : t.isReference = true) (hw : w.isRef = true) (hn : narrow t w = w) (hd : decode c.code pc = .ok (.areturn, 1)) {fs : List Frame}
    (hl : ∀ (f : JFrame) (acts : List Action), f.method = m → f.locked = none → f.entered = [] → (doReturn e (T.setTop f) acts (some w)).1 = T.setFrames fs) : Steps p.tables e below (T.setTop (mkF m pc Ls (w :: rest))) (T.setFrames fs) :=
  retOut X hx hret hn (Or.inr (Or.inr (Or.inr (Or.inr ⟨rfl, ht, hw⟩)))) hd hl
theorem own_reX {a b : Vm} (X : Stand p l e R ((s.setVm a).setVm b) m args below meth c T locs cells slots) : Stand p l e R (s.setVm b) m args below meth c T locs cells slots := X
theorem own_outW {Q : Option Value → Heap → List Loc → Prop} {kC kS : Nat} {vm0 : Vm} (X : Stand p l e R (s.setVm vm0) m args below meth c T locs cells slots) {n : Nat} (hS : s.Since vm0 n) (hn : n ≤ T.heap.size) (hl : meth.locks = false) {v : Option Value} (hv : meth.sig.returnType = none → v = none)
    (k : ∀ fs, (∀ (f : JFrame) (acts : List Action), f.method = m → f.locked = none → f.entered = [] → (doReturn e (T.setTop f) acts v).1 = T.setFrames fs) → Steps p.tables e below (T.setTop g) (T.setFrames fs)) (q : Q v T.heap locs) (hc : cells ≤ kC) (hs : slots ≤ kS) :
    own_Go p e below (fun s₂ o => ∃ v L, o = .returned v ∧ Q v s₂.heap L ∧ ReturnedEndW s o s₂ L kC kS) T g := by
  obtain ⟨fs, hr, hrun, hended, h1, h2, h3, h4⟩ := X.leaveW hS hn (v := v) hv hl
  exact ⟨_, _, k fs hr, hrun, hended, _, _, rfl, q, h1, h2, h3, h4.mono hc hs⟩
theorem own_alen (X : Stand p l e R s m args below meth c T locs cells slots) (hx : p.tables.exec = Jvm.exec) {Z : State} (hZ : Z.Warmed39 s.vm) {h : Heap} (eT : T.heap = h) {a : Addr} {k : ClassId} {ty : FieldType} {z : Int32} {vs : List Value} {dv : Value} (F : Arv Z h a k ty z vs dv) {g : JFrame} (hg : g.method = m) {rest : List Value} (hs : g.stack = .ref a :: rest)
    (hd : decode c.code g.pc = .ok (.arraylength, 1)) : ∀ target, Steps p.tables e below (T.setTop { g with pc := g.pc + 1, stack := .int z :: rest }) target → Steps p.tables e below (T.setTop g) target := by
  obtain ⟨cl, A, q, S, N, H, G⟩ := F
  rw [← len_of S N]
  exact X.arraylength hx (by rw [eT]; exact A.1) (State.isArrayOf_alike hZ.alike A.2.1) hg hs hd
theorem own_old {Z : State} {n0 : Nat} {h : Heap} (O : Old Z n0 h) : n0 ≤ h.size := O.1 ▸ O.2.1
end Own
theorem own_eqInt {args : Array Value} {s : State} {t : Term} {k : Int32} (h : (Jvm.Cond.eq t (Term.int k)).value args s none s [] = some true) : t.eval args s none [] s = some (.int k) := by
  cases ht : t.eval args s none [] s with
  | none => simp [Cond.value, ht] at h
  | some x => cases x <;> simp [Cond.value, ht, Term.eval] at h ⊢ ; exact h
theorem own_rng (x : Int32) : 0 ≤ ((x &&& 2147483647) % 23).toInt ∧ ((x &&& 2147483647) % 23).toInt ≤ 22 := by
  have h0 := (c_and x 2147483647 (by decide)).1
  have h := (c_irem (x &&& 2147483647) 23 23 rfl).1 h0
  omega
theorem own_nlt {x : Int32} (h : 0 ≤ x.toInt) : ¬ (x < (0 : Int32)) := fun q => by
  have := Int32.lt_iff_toInt_lt.mp q
  have k : (0 : Int32).toInt = 0 := rfl
  omega
theorem own_lt23 {x : Int32} (h : x.toInt ≤ 22) : x < (23 : Int32) := by
  apply Int32.lt_iff_toInt_lt.mpr
  have k : (23 : Int32).toInt = 23 := rfl
  omega
def own_takes (n lo hi : Int32) : Int32 := if n < lo then 0 else if hi < n then 0 else 1
def own_LO : List Int32 := [2, 1, 1, 1, 1, 1, 1, 2, 2, 2, 2, 1, 1, 1, 1, 1, 1, 1, 1, 1, 1, 1, 2]
def own_HI : List Int32 := [2, 1, 1, 1, 1, 2, 2, 3, 3, 3, 3, 1, 1, 1, 1, 2, 2, 2147483647, 2147483647, 2, 2, 2, 2]
def own_get (L : List Int32) (q : Int32) : Int32 := L.getD q.toNatClampNeg 0
theorem own_at (L : List Int32) (k : Nat) : (L.map Value.int).getD k (.int 0) = .int (L.getD k 0) := by
  simp only [List.getD_eq_getElem?_getD, List.getElem?_map]
  cases L[k]? <;> rfl
theorem own_cases (q : Int32) (h0 : 0 ≤ q.toInt) (h1 : q.toInt ≤ 22) : q = (0 : Int32) ∨ q = (1 : Int32) ∨ q = (2 : Int32) ∨ q = (3 : Int32) ∨ q = (4 : Int32) ∨ q = (5 : Int32) ∨ q = (6 : Int32) ∨ q = (7 : Int32) ∨ q = (8 : Int32) ∨ q = (9 : Int32) ∨ q = (10 : Int32) ∨ q = (11 : Int32) ∨ q = (12 : Int32) ∨ q = (13 : Int32) ∨ q = (14 : Int32) ∨ q = (15 : Int32) ∨ q = (16 : Int32) ∨ q = (17 : Int32) ∨ q = (18 : Int32) ∨ q = (19 : Int32) ∨ q = (20 : Int32) ∨ q = (21 : Int32) ∨ q = (22 : Int32) := by
  have hq : q.toInt = 0 ∨ q.toInt = 1 ∨ q.toInt = 2 ∨ q.toInt = 3 ∨ q.toInt = 4 ∨ q.toInt = 5 ∨ q.toInt = 6 ∨ q.toInt = 7 ∨ q.toInt = 8 ∨ q.toInt = 9 ∨ q.toInt = 10 ∨ q.toInt = 11 ∨ q.toInt = 12 ∨ q.toInt = 13 ∨ q.toInt = 14 ∨ q.toInt = 15 ∨ q.toInt = 16 ∨ q.toInt = 17 ∨ q.toInt = 18 ∨ q.toInt = 19 ∨ q.toInt = 20 ∨ q.toInt = 21 ∨ q.toInt = 22 := by omega
  have k : ∀ z : Int32, q.toInt = z.toInt → q = z := fun z h => Int32.toInt_inj.mp h
  rcases hq with h | h | h | h | h | h | h | h | h | h | h | h | h | h | h | h | h | h | h | h | h | h | h
  · exact Or.inl (k 0 h)
  · exact Or.inr (Or.inl (k 1 h))
  · exact Or.inr (Or.inr (Or.inl (k 2 h)))
  · exact Or.inr (Or.inr (Or.inr (Or.inl (k 3 h))))
  · exact Or.inr (Or.inr (Or.inr (Or.inr (Or.inl (k 4 h)))))
  · exact Or.inr (Or.inr (Or.inr (Or.inr (Or.inr (Or.inl (k 5 h))))))
  · exact Or.inr (Or.inr (Or.inr (Or.inr (Or.inr (Or.inr (Or.inl (k 6 h)))))))
  · exact Or.inr (Or.inr (Or.inr (Or.inr (Or.inr (Or.inr (Or.inr (Or.inl (k 7 h))))))))
  · exact Or.inr (Or.inr (Or.inr (Or.inr (Or.inr (Or.inr (Or.inr (Or.inr (Or.inl (k 8 h)))))))))
  · exact Or.inr (Or.inr (Or.inr (Or.inr (Or.inr (Or.inr (Or.inr (Or.inr (Or.inr (Or.inl (k 9 h))))))))))
  · exact Or.inr (Or.inr (Or.inr (Or.inr (Or.inr (Or.inr (Or.inr (Or.inr (Or.inr (Or.inr (Or.inl (k 10 h)))))))))))
  · exact Or.inr (Or.inr (Or.inr (Or.inr (Or.inr (Or.inr (Or.inr (Or.inr (Or.inr (Or.inr (Or.inr (Or.inl (k 11 h))))))))))))
  · exact Or.inr (Or.inr (Or.inr (Or.inr (Or.inr (Or.inr (Or.inr (Or.inr (Or.inr (Or.inr (Or.inr (Or.inr (Or.inl (k 12 h)))))))))))))
  · exact Or.inr (Or.inr (Or.inr (Or.inr (Or.inr (Or.inr (Or.inr (Or.inr (Or.inr (Or.inr (Or.inr (Or.inr (Or.inr (Or.inl (k 13 h))))))))))))))
  · exact Or.inr (Or.inr (Or.inr (Or.inr (Or.inr (Or.inr (Or.inr (Or.inr (Or.inr (Or.inr (Or.inr (Or.inr (Or.inr (Or.inr (Or.inl (k 14 h)))))))))))))))
  · exact Or.inr (Or.inr (Or.inr (Or.inr (Or.inr (Or.inr (Or.inr (Or.inr (Or.inr (Or.inr (Or.inr (Or.inr (Or.inr (Or.inr (Or.inr (Or.inl (k 15 h))))))))))))))))
  · exact Or.inr (Or.inr (Or.inr (Or.inr (Or.inr (Or.inr (Or.inr (Or.inr (Or.inr (Or.inr (Or.inr (Or.inr (Or.inr (Or.inr (Or.inr (Or.inr (Or.inl (k 16 h)))))))))))))))))
  · exact Or.inr (Or.inr (Or.inr (Or.inr (Or.inr (Or.inr (Or.inr (Or.inr (Or.inr (Or.inr (Or.inr (Or.inr (Or.inr (Or.inr (Or.inr (Or.inr (Or.inr (Or.inl (k 17 h))))))))))))))))))
  · exact Or.inr (Or.inr (Or.inr (Or.inr (Or.inr (Or.inr (Or.inr (Or.inr (Or.inr (Or.inr (Or.inr (Or.inr (Or.inr (Or.inr (Or.inr (Or.inr (Or.inr (Or.inr (Or.inl (k 18 h)))))))))))))))))))
  · exact Or.inr (Or.inr (Or.inr (Or.inr (Or.inr (Or.inr (Or.inr (Or.inr (Or.inr (Or.inr (Or.inr (Or.inr (Or.inr (Or.inr (Or.inr (Or.inr (Or.inr (Or.inr (Or.inr (Or.inl (k 19 h))))))))))))))))))))
  · exact Or.inr (Or.inr (Or.inr (Or.inr (Or.inr (Or.inr (Or.inr (Or.inr (Or.inr (Or.inr (Or.inr (Or.inr (Or.inr (Or.inr (Or.inr (Or.inr (Or.inr (Or.inr (Or.inr (Or.inr (Or.inl (k 20 h)))))))))))))))))))))
  · exact Or.inr (Or.inr (Or.inr (Or.inr (Or.inr (Or.inr (Or.inr (Or.inr (Or.inr (Or.inr (Or.inr (Or.inr (Or.inr (Or.inr (Or.inr (Or.inr (Or.inr (Or.inr (Or.inr (Or.inr (Or.inr (Or.inl (k 21 h))))))))))))))))))))))
  · exact Or.inr (Or.inr (Or.inr (Or.inr (Or.inr (Or.inr (Or.inr (Or.inr (Or.inr (Or.inr (Or.inr (Or.inr (Or.inr (Or.inr (Or.inr (Or.inr (Or.inr (Or.inr (Or.inr (Or.inr (Or.inr (Or.inr ((k 22 h)))))))))))))))))))))))
theorem d_method_3_0 : decode method_3_code 0 = .ok (.iload_n 0, 1) := by decide +kernel
theorem d_method_3_1 : decode method_3_code 1 = .ok (.tableswitch 235 0 21 #[103, 109, 115, 121, 127, 133, 139, 145, 151, 157, 163, 169, 175, 181, 187, 193, 199, 205, 211, 217, 223, 229], 103) := by decide +kernel
theorem d_method_3_104 : decode method_3_code 104 = .ok (.getstatic 22, 3) := by decide +kernel
theorem d_method_3_107 : decode method_3_code 107 = .ok (.goto 132, 3) := by decide +kernel
theorem d_method_3_239 : decode method_3_code 239 = .ok (.areturn, 1) := by decide +kernel
theorem ef_k0 (m : MethodId) (x0 : Int32) : entryFrame m #[(.int x0)] 1 = mkF m 0 #[.val (.int x0)] [] := by first | (simp [entryFrame, mkF, argsToLocals, Value.category]; done) | rfl
def Qk0 (Z : State) (w : Addr) (h0 : Heap) (n0 : Nat) (v : Option Value) (h : Heap) (L : List Loc) : Prop := v = some (.ref w) ∧ Fr n0 L ∧ h = h0
theorem pn_com_example_table_rules_tablerules_engine_FunctionTakesPinLaw : plainName "com/example/table_rules/tablerules/engine/FunctionTakesPinLaw" = true := by first | (simp [plainName, overriddenIn]; done) | decide +kernel
set_option maxRecDepth 65536 in
set_option maxHeartbeats 40000000 in
theorem rmk0 (l : Launch) (Z : State) (a0 : Array Value) (hw : ∀ d ∈ tables_1, d.before a0 Z = true) (ws : List Jvm.Cond) (w : Addr) (h0 : Heap) (n0 : Nat) (O0 : Old Z n0 h0) (S : Sta Z Z.heap "com/example/table_rules/tablerules/engine/Function" "INSTR" "Lcom/example/table_rules/tablerules/engine/Function;" (.ref w)) :
    MetFree l (⟨"com/example/table_rules/tablerules/engine/FunctionTakesPinLaw", "constant", "(I)Lcom/example/table_rules/tablerules/engine/Function;"⟩ : MethodName) (head1 (Jvm.Cond.code (⟨"com/example/table_rules/tablerules/engine/FunctionTakesPinLaw", "constant", "(I)Lcom/example/table_rules/tablerules/engine/Function;"⟩ : MethodName) method_3_code 1 (some (.object "com/example/table_rules/tablerules/engine/Function")) :: ws) ({ frames := 0, cells := 0, slots := 0, locals := 0 } : Room)) (fun a U => a = #[(.int (0 : Int32))] ∧ Z.Warmed39 U.vm ∧ U.heap = h0) (fun _ _ _ _ _ => True) (fun _ U o U' => ∃ v L, o = .returned v ∧ Qk0 Z w h0 n0 v U'.heap L ∧ FrameEnd U o U' L ({ frames := 0, cells := 0, slots := 0, locals := 0 } : Room).cells ({ frames := 0, cells := 0, slots := 0, locals := 0 } : Room).slots) := by
  refine MetFree.of_bodySF (plainFor_of_name pn_com_example_table_rules_tablerules_engine_FunctionTakesPinLaw) hisR ?_
  intro p e s m args below meth c s₁ Bd hml0 hP hK
  obtain ⟨rfl, hZ, hh⟩ := hP
  have hx := Bd.exec
  have hby := Bd.bytes
  have hml : c.maxLocals = 1 := hml0
  have hown : s.vm.findClass "com/example/table_rules/tablerules/engine/FunctionTakesPinLaw" = some m.cls := findClass_of_methodNamed Bd.named
  have hnm := (name_of_methodNamed Bd.named Bd.method).1
  have X0 : Stand p l e ({ frames := 0, cells := 0, slots := 0, locals := 0 } : Room) s m #[(.int (0 : Int32))] below meth c s₁ [] 0 0 := Stand.of_body Bd
  have e0 : s₁.heap = h0 := by rw [← hh, Bd.state]; rfl
  have N0 := Fr.nil n0
  have hS0 : s.Since s.vm h0.size := State.WarmedH.since (State.WarmedH.refl s) _
  refine own_in (ef_k0 m (0 : Int32)) ?_
  refine own_st (T' := s₁) (g' := (mkF m 1 #[.val (.int (0 : Int32))] [(.int (0 : Int32))])) (fun _ kq => XS.iloadN X0.here hx rfl (hb hby d_method_3_0) rfl kq) ?_
  refine own_st (T' := s₁) (g' := (mkF m 104 #[.val (.int (0 : Int32))] [])) (fun _ kq => XS.tswIn X0.here hx rfl (pc0 := 1) (pc' := 104) rfl (hb hby d_method_3_1) rfl (by decide) (o := 103) rfl (by decide) (by decide) kq) ?_
  obtain ⟨T1, X1, e1, st1⟩ := getS2 X0 hx hZ hown (host := "") (Or.inl (hw _ (List.mem_of_getElem? (i := 6) rfl))) Via.refl e0 (S.ext O0.2) (g := (mkF m 104 #[.val (.int (0 : Int32))] [])) rfl (hb hby d_method_3_104)
  refine own_st (T' := T1) (g' := (mkF m 107 #[.val (.int (0 : Int32))] [(.ref w)])) (st1) ?_
  refine own_st (T' := T1) (g' := (mkF m 239 #[.val (.int (0 : Int32))] [(.ref w)])) (fun _ kq => XS.goto X1.here hx rfl (pc0 := 107) (pc' := 239) rfl (hb hby d_method_3_107) (by decide) (by decide) kq) ?_
  refine own_out X1 Bd.notSynchronized (v := (some (.ref w))) (fun h => by rw [Bd.returns] at h; cases h) (fun fs hr => own_retA X1 hx Bd.returns rfl rfl rfl (hb hby d_method_3_239) hr) ?_ (by decide) (by decide)
  rw [e1]
  exact ⟨rfl, N0, rfl⟩
theorem d_method_3_110 : decode method_3_code 110 = .ok (.getstatic 26, 3) := by decide +kernel
theorem d_method_3_113 : decode method_3_code 113 = .ok (.goto 126, 3) := by decide +kernel
theorem ef_k1 (m : MethodId) (x0 : Int32) : entryFrame m #[(.int x0)] 1 = mkF m 0 #[.val (.int x0)] [] := by first | (simp [entryFrame, mkF, argsToLocals, Value.category]; done) | rfl
def Qk1 (Z : State) (w : Addr) (h0 : Heap) (n0 : Nat) (v : Option Value) (h : Heap) (L : List Loc) : Prop := v = some (.ref w) ∧ Fr n0 L ∧ h = h0
set_option maxRecDepth 65536 in
set_option maxHeartbeats 40000000 in
theorem rmk1 (l : Launch) (Z : State) (a0 : Array Value) (hw : ∀ d ∈ tables_1, d.before a0 Z = true) (ws : List Jvm.Cond) (w : Addr) (h0 : Heap) (n0 : Nat) (O0 : Old Z n0 h0) (S : Sta Z Z.heap "com/example/table_rules/tablerules/engine/Function" "LENGTH" "Lcom/example/table_rules/tablerules/engine/Function;" (.ref w)) :
    MetFree l (⟨"com/example/table_rules/tablerules/engine/FunctionTakesPinLaw", "constant", "(I)Lcom/example/table_rules/tablerules/engine/Function;"⟩ : MethodName) (head1 (Jvm.Cond.code (⟨"com/example/table_rules/tablerules/engine/FunctionTakesPinLaw", "constant", "(I)Lcom/example/table_rules/tablerules/engine/Function;"⟩ : MethodName) method_3_code 1 (some (.object "com/example/table_rules/tablerules/engine/Function")) :: ws) ({ frames := 0, cells := 0, slots := 0, locals := 0 } : Room)) (fun a U => a = #[(.int (1 : Int32))] ∧ Z.Warmed39 U.vm ∧ U.heap = h0) (fun _ _ _ _ _ => True) (fun _ U o U' => ∃ v L, o = .returned v ∧ Qk1 Z w h0 n0 v U'.heap L ∧ FrameEnd U o U' L ({ frames := 0, cells := 0, slots := 0, locals := 0 } : Room).cells ({ frames := 0, cells := 0, slots := 0, locals := 0 } : Room).slots) := by
  refine MetFree.of_bodySF (plainFor_of_name pn_com_example_table_rules_tablerules_engine_FunctionTakesPinLaw) hisR ?_
  intro p e s m args below meth c s₁ Bd hml0 hP hK
  obtain ⟨rfl, hZ, hh⟩ := hP
  have hx := Bd.exec
  have hby := Bd.bytes
  have hml : c.maxLocals = 1 := hml0
  have hown : s.vm.findClass "com/example/table_rules/tablerules/engine/FunctionTakesPinLaw" = some m.cls := findClass_of_methodNamed Bd.named
  have hnm := (name_of_methodNamed Bd.named Bd.method).1
  have X0 : Stand p l e ({ frames := 0, cells := 0, slots := 0, locals := 0 } : Room) s m #[(.int (1 : Int32))] below meth c s₁ [] 0 0 := Stand.of_body Bd
  have e0 : s₁.heap = h0 := by rw [← hh, Bd.state]; rfl
  have N0 := Fr.nil n0
  have hS0 : s.Since s.vm h0.size := State.WarmedH.since (State.WarmedH.refl s) _
  refine own_in (ef_k1 m (1 : Int32)) ?_
  refine own_st (T' := s₁) (g' := (mkF m 1 #[.val (.int (1 : Int32))] [(.int (1 : Int32))])) (fun _ kq => XS.iloadN X0.here hx rfl (hb hby d_method_3_0) rfl kq) ?_
  refine own_st (T' := s₁) (g' := (mkF m 110 #[.val (.int (1 : Int32))] [])) (fun _ kq => XS.tswIn X0.here hx rfl (pc0 := 1) (pc' := 110) rfl (hb hby d_method_3_1) rfl (by decide) (o := 109) rfl (by decide) (by decide) kq) ?_
  obtain ⟨T1, X1, e1, st1⟩ := getS2 X0 hx hZ hown (host := "") (Or.inl (hw _ (List.mem_of_getElem? (i := 16) rfl))) Via.refl e0 (S.ext O0.2) (g := (mkF m 110 #[.val (.int (1 : Int32))] [])) rfl (hb hby d_method_3_110)
  refine own_st (T' := T1) (g' := (mkF m 113 #[.val (.int (1 : Int32))] [(.ref w)])) (st1) ?_
  refine own_st (T' := T1) (g' := (mkF m 239 #[.val (.int (1 : Int32))] [(.ref w)])) (fun _ kq => XS.goto X1.here hx rfl (pc0 := 113) (pc' := 239) rfl (hb hby d_method_3_113) (by decide) (by decide) kq) ?_
  refine own_out X1 Bd.notSynchronized (v := (some (.ref w))) (fun h => by rw [Bd.returns] at h; cases h) (fun fs hr => own_retA X1 hx Bd.returns rfl rfl rfl (hb hby d_method_3_239) hr) ?_ (by decide) (by decide)
  rw [e1]
  exact ⟨rfl, N0, rfl⟩
theorem d_method_3_116 : decode method_3_code 116 = .ok (.getstatic 29, 3) := by decide +kernel
theorem d_method_3_119 : decode method_3_code 119 = .ok (.goto 120, 3) := by decide +kernel
theorem ef_k2 (m : MethodId) (x0 : Int32) : entryFrame m #[(.int x0)] 1 = mkF m 0 #[.val (.int x0)] [] := by first | (simp [entryFrame, mkF, argsToLocals, Value.category]; done) | rfl
def Qk2 (Z : State) (w : Addr) (h0 : Heap) (n0 : Nat) (v : Option Value) (h : Heap) (L : List Loc) : Prop := v = some (.ref w) ∧ Fr n0 L ∧ h = h0
set_option maxRecDepth 65536 in
set_option maxHeartbeats 40000000 in
theorem rmk2 (l : Launch) (Z : State) (a0 : Array Value) (hw : ∀ d ∈ tables_1, d.before a0 Z = true) (ws : List Jvm.Cond) (w : Addr) (h0 : Heap) (n0 : Nat) (O0 : Old Z n0 h0) (S : Sta Z Z.heap "com/example/table_rules/tablerules/engine/Function" "UPPER" "Lcom/example/table_rules/tablerules/engine/Function;" (.ref w)) :
    MetFree l (⟨"com/example/table_rules/tablerules/engine/FunctionTakesPinLaw", "constant", "(I)Lcom/example/table_rules/tablerules/engine/Function;"⟩ : MethodName) (head1 (Jvm.Cond.code (⟨"com/example/table_rules/tablerules/engine/FunctionTakesPinLaw", "constant", "(I)Lcom/example/table_rules/tablerules/engine/Function;"⟩ : MethodName) method_3_code 1 (some (.object "com/example/table_rules/tablerules/engine/Function")) :: ws) ({ frames := 0, cells := 0, slots := 0, locals := 0 } : Room)) (fun a U => a = #[(.int (2 : Int32))] ∧ Z.Warmed39 U.vm ∧ U.heap = h0) (fun _ _ _ _ _ => True) (fun _ U o U' => ∃ v L, o = .returned v ∧ Qk2 Z w h0 n0 v U'.heap L ∧ FrameEnd U o U' L ({ frames := 0, cells := 0, slots := 0, locals := 0 } : Room).cells ({ frames := 0, cells := 0, slots := 0, locals := 0 } : Room).slots) := by
  refine MetFree.of_bodySF (plainFor_of_name pn_com_example_table_rules_tablerules_engine_FunctionTakesPinLaw) hisR ?_
  intro p e s m args below meth c s₁ Bd hml0 hP hK
  obtain ⟨rfl, hZ, hh⟩ := hP
  have hx := Bd.exec
  have hby := Bd.bytes
  have hml : c.maxLocals = 1 := hml0
  have hown : s.vm.findClass "com/example/table_rules/tablerules/engine/FunctionTakesPinLaw" = some m.cls := findClass_of_methodNamed Bd.named
  have hnm := (name_of_methodNamed Bd.named Bd.method).1
  have X0 : Stand p l e ({ frames := 0, cells := 0, slots := 0, locals := 0 } : Room) s m #[(.int (2 : Int32))] below meth c s₁ [] 0 0 := Stand.of_body Bd
  have e0 : s₁.heap = h0 := by rw [← hh, Bd.state]; rfl
  have N0 := Fr.nil n0
  have hS0 : s.Since s.vm h0.size := State.WarmedH.since (State.WarmedH.refl s) _
  refine own_in (ef_k2 m (2 : Int32)) ?_
  refine own_st (T' := s₁) (g' := (mkF m 1 #[.val (.int (2 : Int32))] [(.int (2 : Int32))])) (fun _ kq => XS.iloadN X0.here hx rfl (hb hby d_method_3_0) rfl kq) ?_
  refine own_st (T' := s₁) (g' := (mkF m 116 #[.val (.int (2 : Int32))] [])) (fun _ kq => XS.tswIn X0.here hx rfl (pc0 := 1) (pc' := 116) rfl (hb hby d_method_3_1) rfl (by decide) (o := 115) rfl (by decide) (by decide) kq) ?_
  obtain ⟨T1, X1, e1, st1⟩ := getS2 X0 hx hZ hown (host := "") (Or.inl (hw _ (List.mem_of_getElem? (i := 54) rfl))) Via.refl e0 (S.ext O0.2) (g := (mkF m 116 #[.val (.int (2 : Int32))] [])) rfl (hb hby d_method_3_116)
  refine own_st (T' := T1) (g' := (mkF m 119 #[.val (.int (2 : Int32))] [(.ref w)])) (st1) ?_
  refine own_st (T' := T1) (g' := (mkF m 239 #[.val (.int (2 : Int32))] [(.ref w)])) (fun _ kq => XS.goto X1.here hx rfl (pc0 := 119) (pc' := 239) rfl (hb hby d_method_3_119) (by decide) (by decide) kq) ?_
  refine own_out X1 Bd.notSynchronized (v := (some (.ref w))) (fun h => by rw [Bd.returns] at h; cases h) (fun fs hr => own_retA X1 hx Bd.returns rfl rfl rfl (hb hby d_method_3_239) hr) ?_ (by decide) (by decide)
  rw [e1]
  exact ⟨rfl, N0, rfl⟩
theorem d_method_3_122 : decode method_3_code 122 = .ok (.getstatic 32, 3) := by decide +kernel
theorem d_method_3_125 : decode method_3_code 125 = .ok (.goto 114, 3) := by decide +kernel
theorem ef_k3 (m : MethodId) (x0 : Int32) : entryFrame m #[(.int x0)] 1 = mkF m 0 #[.val (.int x0)] [] := by first | (simp [entryFrame, mkF, argsToLocals, Value.category]; done) | rfl
def Qk3 (Z : State) (w : Addr) (h0 : Heap) (n0 : Nat) (v : Option Value) (h : Heap) (L : List Loc) : Prop := v = some (.ref w) ∧ Fr n0 L ∧ h = h0
set_option maxRecDepth 65536 in
set_option maxHeartbeats 40000000 in
theorem rmk3 (l : Launch) (Z : State) (a0 : Array Value) (hw : ∀ d ∈ tables_1, d.before a0 Z = true) (ws : List Jvm.Cond) (w : Addr) (h0 : Heap) (n0 : Nat) (O0 : Old Z n0 h0) (S : Sta Z Z.heap "com/example/table_rules/tablerules/engine/Function" "LOWER" "Lcom/example/table_rules/tablerules/engine/Function;" (.ref w)) :
    MetFree l (⟨"com/example/table_rules/tablerules/engine/FunctionTakesPinLaw", "constant", "(I)Lcom/example/table_rules/tablerules/engine/Function;"⟩ : MethodName) (head1 (Jvm.Cond.code (⟨"com/example/table_rules/tablerules/engine/FunctionTakesPinLaw", "constant", "(I)Lcom/example/table_rules/tablerules/engine/Function;"⟩ : MethodName) method_3_code 1 (some (.object "com/example/table_rules/tablerules/engine/Function")) :: ws) ({ frames := 0, cells := 0, slots := 0, locals := 0 } : Room)) (fun a U => a = #[(.int (3 : Int32))] ∧ Z.Warmed39 U.vm ∧ U.heap = h0) (fun _ _ _ _ _ => True) (fun _ U o U' => ∃ v L, o = .returned v ∧ Qk3 Z w h0 n0 v U'.heap L ∧ FrameEnd U o U' L ({ frames := 0, cells := 0, slots := 0, locals := 0 } : Room).cells ({ frames := 0, cells := 0, slots := 0, locals := 0 } : Room).slots) := by
  refine MetFree.of_bodySF (plainFor_of_name pn_com_example_table_rules_tablerules_engine_FunctionTakesPinLaw) hisR ?_
  intro p e s m args below meth c s₁ Bd hml0 hP hK
  obtain ⟨rfl, hZ, hh⟩ := hP
  have hx := Bd.exec
  have hby := Bd.bytes
  have hml : c.maxLocals = 1 := hml0
  have hown : s.vm.findClass "com/example/table_rules/tablerules/engine/FunctionTakesPinLaw" = some m.cls := findClass_of_methodNamed Bd.named
  have hnm := (name_of_methodNamed Bd.named Bd.method).1
  have X0 : Stand p l e ({ frames := 0, cells := 0, slots := 0, locals := 0 } : Room) s m #[(.int (3 : Int32))] below meth c s₁ [] 0 0 := Stand.of_body Bd
  have e0 : s₁.heap = h0 := by rw [← hh, Bd.state]; rfl
  have N0 := Fr.nil n0
  have hS0 : s.Since s.vm h0.size := State.WarmedH.since (State.WarmedH.refl s) _
  refine own_in (ef_k3 m (3 : Int32)) ?_
  refine own_st (T' := s₁) (g' := (mkF m 1 #[.val (.int (3 : Int32))] [(.int (3 : Int32))])) (fun _ kq => XS.iloadN X0.here hx rfl (hb hby d_method_3_0) rfl kq) ?_
  refine own_st (T' := s₁) (g' := (mkF m 122 #[.val (.int (3 : Int32))] [])) (fun _ kq => XS.tswIn X0.here hx rfl (pc0 := 1) (pc' := 122) rfl (hb hby d_method_3_1) rfl (by decide) (o := 121) rfl (by decide) (by decide) kq) ?_
  obtain ⟨T1, X1, e1, st1⟩ := getS2 X0 hx hZ hown (host := "") (Or.inl (hw _ (List.mem_of_getElem? (i := 22) rfl))) Via.refl e0 (S.ext O0.2) (g := (mkF m 122 #[.val (.int (3 : Int32))] [])) rfl (hb hby d_method_3_122)
  refine own_st (T' := T1) (g' := (mkF m 125 #[.val (.int (3 : Int32))] [(.ref w)])) (st1) ?_
  refine own_st (T' := T1) (g' := (mkF m 239 #[.val (.int (3 : Int32))] [(.ref w)])) (fun _ kq => XS.goto X1.here hx rfl (pc0 := 125) (pc' := 239) rfl (hb hby d_method_3_125) (by decide) (by decide) kq) ?_
  refine own_out X1 Bd.notSynchronized (v := (some (.ref w))) (fun h => by rw [Bd.returns] at h; cases h) (fun fs hr => own_retA X1 hx Bd.returns rfl rfl rfl (hb hby d_method_3_239) hr) ?_ (by decide) (by decide)
  rw [e1]
  exact ⟨rfl, N0, rfl⟩
theorem d_method_3_128 : decode method_3_code 128 = .ok (.getstatic 35, 3) := by decide +kernel
theorem d_method_3_131 : decode method_3_code 131 = .ok (.goto 108, 3) := by decide +kernel
theorem ef_k4 (m : MethodId) (x0 : Int32) : entryFrame m #[(.int x0)] 1 = mkF m 0 #[.val (.int x0)] [] := by first | (simp [entryFrame, mkF, argsToLocals, Value.category]; done) | rfl
def Qk4 (Z : State) (w : Addr) (h0 : Heap) (n0 : Nat) (v : Option Value) (h : Heap) (L : List Loc) : Prop := v = some (.ref w) ∧ Fr n0 L ∧ h = h0
set_option maxRecDepth 65536 in
set_option maxHeartbeats 40000000 in
theorem rmk4 (l : Launch) (Z : State) (a0 : Array Value) (hw : ∀ d ∈ tables_1, d.before a0 Z = true) (ws : List Jvm.Cond) (w : Addr) (h0 : Heap) (n0 : Nat) (O0 : Old Z n0 h0) (S : Sta Z Z.heap "com/example/table_rules/tablerules/engine/Function" "TRIM" "Lcom/example/table_rules/tablerules/engine/Function;" (.ref w)) :
    MetFree l (⟨"com/example/table_rules/tablerules/engine/FunctionTakesPinLaw", "constant", "(I)Lcom/example/table_rules/tablerules/engine/Function;"⟩ : MethodName) (head1 (Jvm.Cond.code (⟨"com/example/table_rules/tablerules/engine/FunctionTakesPinLaw", "constant", "(I)Lcom/example/table_rules/tablerules/engine/Function;"⟩ : MethodName) method_3_code 1 (some (.object "com/example/table_rules/tablerules/engine/Function")) :: ws) ({ frames := 0, cells := 0, slots := 0, locals := 0 } : Room)) (fun a U => a = #[(.int (4 : Int32))] ∧ Z.Warmed39 U.vm ∧ U.heap = h0) (fun _ _ _ _ _ => True) (fun _ U o U' => ∃ v L, o = .returned v ∧ Qk4 Z w h0 n0 v U'.heap L ∧ FrameEnd U o U' L ({ frames := 0, cells := 0, slots := 0, locals := 0 } : Room).cells ({ frames := 0, cells := 0, slots := 0, locals := 0 } : Room).slots) := by
  refine MetFree.of_bodySF (plainFor_of_name pn_com_example_table_rules_tablerules_engine_FunctionTakesPinLaw) hisR ?_
  intro p e s m args below meth c s₁ Bd hml0 hP hK
  obtain ⟨rfl, hZ, hh⟩ := hP
  have hx := Bd.exec
  have hby := Bd.bytes
  have hml : c.maxLocals = 1 := hml0
  have hown : s.vm.findClass "com/example/table_rules/tablerules/engine/FunctionTakesPinLaw" = some m.cls := findClass_of_methodNamed Bd.named
  have hnm := (name_of_methodNamed Bd.named Bd.method).1
  have X0 : Stand p l e ({ frames := 0, cells := 0, slots := 0, locals := 0 } : Room) s m #[(.int (4 : Int32))] below meth c s₁ [] 0 0 := Stand.of_body Bd
  have e0 : s₁.heap = h0 := by rw [← hh, Bd.state]; rfl
  have N0 := Fr.nil n0
  have hS0 : s.Since s.vm h0.size := State.WarmedH.since (State.WarmedH.refl s) _
  refine own_in (ef_k4 m (4 : Int32)) ?_
  refine own_st (T' := s₁) (g' := (mkF m 1 #[.val (.int (4 : Int32))] [(.int (4 : Int32))])) (fun _ kq => XS.iloadN X0.here hx rfl (hb hby d_method_3_0) rfl kq) ?_
  refine own_st (T' := s₁) (g' := (mkF m 128 #[.val (.int (4 : Int32))] [])) (fun _ kq => XS.tswIn X0.here hx rfl (pc0 := 1) (pc' := 128) rfl (hb hby d_method_3_1) rfl (by decide) (o := 127) rfl (by decide) (by decide) kq) ?_
  obtain ⟨T1, X1, e1, st1⟩ := getS2 X0 hx hZ hown (host := "") (Or.inl (hw _ (List.mem_of_getElem? (i := 99) rfl))) Via.refl e0 (S.ext O0.2) (g := (mkF m 128 #[.val (.int (4 : Int32))] [])) rfl (hb hby d_method_3_128)
  refine own_st (T' := T1) (g' := (mkF m 131 #[.val (.int (4 : Int32))] [(.ref w)])) (st1) ?_
  refine own_st (T' := T1) (g' := (mkF m 239 #[.val (.int (4 : Int32))] [(.ref w)])) (fun _ kq => XS.goto X1.here hx rfl (pc0 := 131) (pc' := 239) rfl (hb hby d_method_3_131) (by decide) (by decide) kq) ?_
  refine own_out X1 Bd.notSynchronized (v := (some (.ref w))) (fun h => by rw [Bd.returns] at h; cases h) (fun fs hr => own_retA X1 hx Bd.returns rfl rfl rfl (hb hby d_method_3_239) hr) ?_ (by decide) (by decide)
  rw [e1]
  exact ⟨rfl, N0, rfl⟩
theorem d_method_3_134 : decode method_3_code 134 = .ok (.getstatic 38, 3) := by decide +kernel
theorem d_method_3_137 : decode method_3_code 137 = .ok (.goto 102, 3) := by decide +kernel
theorem ef_k5 (m : MethodId) (x0 : Int32) : entryFrame m #[(.int x0)] 1 = mkF m 0 #[.val (.int x0)] [] := by first | (simp [entryFrame, mkF, argsToLocals, Value.category]; done) | rfl
def Qk5 (Z : State) (w : Addr) (h0 : Heap) (n0 : Nat) (v : Option Value) (h : Heap) (L : List Loc) : Prop := v = some (.ref w) ∧ Fr n0 L ∧ h = h0
set_option maxRecDepth 65536 in
set_option maxHeartbeats 40000000 in
theorem rmk5 (l : Launch) (Z : State) (a0 : Array Value) (hw : ∀ d ∈ tables_1, d.before a0 Z = true) (ws : List Jvm.Cond) (w : Addr) (h0 : Heap) (n0 : Nat) (O0 : Old Z n0 h0) (S : Sta Z Z.heap "com/example/table_rules/tablerules/engine/Function" "LTRIM" "Lcom/example/table_rules/tablerules/engine/Function;" (.ref w)) :
    MetFree l (⟨"com/example/table_rules/tablerules/engine/FunctionTakesPinLaw", "constant", "(I)Lcom/example/table_rules/tablerules/engine/Function;"⟩ : MethodName) (head1 (Jvm.Cond.code (⟨"com/example/table_rules/tablerules/engine/FunctionTakesPinLaw", "constant", "(I)Lcom/example/table_rules/tablerules/engine/Function;"⟩ : MethodName) method_3_code 1 (some (.object "com/example/table_rules/tablerules/engine/Function")) :: ws) ({ frames := 0, cells := 0, slots := 0, locals := 0 } : Room)) (fun a U => a = #[(.int (5 : Int32))] ∧ Z.Warmed39 U.vm ∧ U.heap = h0) (fun _ _ _ _ _ => True) (fun _ U o U' => ∃ v L, o = .returned v ∧ Qk5 Z w h0 n0 v U'.heap L ∧ FrameEnd U o U' L ({ frames := 0, cells := 0, slots := 0, locals := 0 } : Room).cells ({ frames := 0, cells := 0, slots := 0, locals := 0 } : Room).slots) := by
  refine MetFree.of_bodySF (plainFor_of_name pn_com_example_table_rules_tablerules_engine_FunctionTakesPinLaw) hisR ?_
  intro p e s m args below meth c s₁ Bd hml0 hP hK
  obtain ⟨rfl, hZ, hh⟩ := hP
  have hx := Bd.exec
  have hby := Bd.bytes
  have hml : c.maxLocals = 1 := hml0
  have hown : s.vm.findClass "com/example/table_rules/tablerules/engine/FunctionTakesPinLaw" = some m.cls := findClass_of_methodNamed Bd.named
  have hnm := (name_of_methodNamed Bd.named Bd.method).1
  have X0 : Stand p l e ({ frames := 0, cells := 0, slots := 0, locals := 0 } : Room) s m #[(.int (5 : Int32))] below meth c s₁ [] 0 0 := Stand.of_body Bd
  have e0 : s₁.heap = h0 := by rw [← hh, Bd.state]; rfl
  have N0 := Fr.nil n0
  have hS0 : s.Since s.vm h0.size := State.WarmedH.since (State.WarmedH.refl s) _
  refine own_in (ef_k5 m (5 : Int32)) ?_
  refine own_st (T' := s₁) (g' := (mkF m 1 #[.val (.int (5 : Int32))] [(.int (5 : Int32))])) (fun _ kq => XS.iloadN X0.here hx rfl (hb hby d_method_3_0) rfl kq) ?_
  refine own_st (T' := s₁) (g' := (mkF m 134 #[.val (.int (5 : Int32))] [])) (fun _ kq => XS.tswIn X0.here hx rfl (pc0 := 1) (pc' := 134) rfl (hb hby d_method_3_1) rfl (by decide) (o := 133) rfl (by decide) (by decide) kq) ?_
  obtain ⟨T1, X1, e1, st1⟩ := getS2 X0 hx hZ hown (host := "") (Or.inl (hw _ (List.mem_of_getElem? (i := 79) rfl))) Via.refl e0 (S.ext O0.2) (g := (mkF m 134 #[.val (.int (5 : Int32))] [])) rfl (hb hby d_method_3_134)
  refine own_st (T' := T1) (g' := (mkF m 137 #[.val (.int (5 : Int32))] [(.ref w)])) (st1) ?_
  refine own_st (T' := T1) (g' := (mkF m 239 #[.val (.int (5 : Int32))] [(.ref w)])) (fun _ kq => XS.goto X1.here hx rfl (pc0 := 137) (pc' := 239) rfl (hb hby d_method_3_137) (by decide) (by decide) kq) ?_
  refine own_out X1 Bd.notSynchronized (v := (some (.ref w))) (fun h => by rw [Bd.returns] at h; cases h) (fun fs hr => own_retA X1 hx Bd.returns rfl rfl rfl (hb hby d_method_3_239) hr) ?_ (by decide) (by decide)
  rw [e1]
  exact ⟨rfl, N0, rfl⟩
theorem d_method_3_140 : decode method_3_code 140 = .ok (.getstatic 41, 3) := by decide +kernel
theorem d_method_3_143 : decode method_3_code 143 = .ok (.goto 96, 3) := by decide +kernel
theorem ef_k6 (m : MethodId) (x0 : Int32) : entryFrame m #[(.int x0)] 1 = mkF m 0 #[.val (.int x0)] [] := by first | (simp [entryFrame, mkF, argsToLocals, Value.category]; done) | rfl
def Qk6 (Z : State) (w : Addr) (h0 : Heap) (n0 : Nat) (v : Option Value) (h : Heap) (L : List Loc) : Prop := v = some (.ref w) ∧ Fr n0 L ∧ h = h0
set_option maxRecDepth 65536 in
set_option maxHeartbeats 40000000 in
theorem rmk6 (l : Launch) (Z : State) (a0 : Array Value) (hw : ∀ d ∈ tables_1, d.before a0 Z = true) (ws : List Jvm.Cond) (w : Addr) (h0 : Heap) (n0 : Nat) (O0 : Old Z n0 h0) (S : Sta Z Z.heap "com/example/table_rules/tablerules/engine/Function" "RTRIM" "Lcom/example/table_rules/tablerules/engine/Function;" (.ref w)) :
    MetFree l (⟨"com/example/table_rules/tablerules/engine/FunctionTakesPinLaw", "constant", "(I)Lcom/example/table_rules/tablerules/engine/Function;"⟩ : MethodName) (head1 (Jvm.Cond.code (⟨"com/example/table_rules/tablerules/engine/FunctionTakesPinLaw", "constant", "(I)Lcom/example/table_rules/tablerules/engine/Function;"⟩ : MethodName) method_3_code 1 (some (.object "com/example/table_rules/tablerules/engine/Function")) :: ws) ({ frames := 0, cells := 0, slots := 0, locals := 0 } : Room)) (fun a U => a = #[(.int (6 : Int32))] ∧ Z.Warmed39 U.vm ∧ U.heap = h0) (fun _ _ _ _ _ => True) (fun _ U o U' => ∃ v L, o = .returned v ∧ Qk6 Z w h0 n0 v U'.heap L ∧ FrameEnd U o U' L ({ frames := 0, cells := 0, slots := 0, locals := 0 } : Room).cells ({ frames := 0, cells := 0, slots := 0, locals := 0 } : Room).slots) := by
  refine MetFree.of_bodySF (plainFor_of_name pn_com_example_table_rules_tablerules_engine_FunctionTakesPinLaw) hisR ?_
  intro p e s m args below meth c s₁ Bd hml0 hP hK
  obtain ⟨rfl, hZ, hh⟩ := hP
  have hx := Bd.exec
  have hby := Bd.bytes
  have hml : c.maxLocals = 1 := hml0
  have hown : s.vm.findClass "com/example/table_rules/tablerules/engine/FunctionTakesPinLaw" = some m.cls := findClass_of_methodNamed Bd.named
  have hnm := (name_of_methodNamed Bd.named Bd.method).1
  have X0 : Stand p l e ({ frames := 0, cells := 0, slots := 0, locals := 0 } : Room) s m #[(.int (6 : Int32))] below meth c s₁ [] 0 0 := Stand.of_body Bd
  have e0 : s₁.heap = h0 := by rw [← hh, Bd.state]; rfl
  have N0 := Fr.nil n0
  have hS0 : s.Since s.vm h0.size := State.WarmedH.since (State.WarmedH.refl s) _
  refine own_in (ef_k6 m (6 : Int32)) ?_
  refine own_st (T' := s₁) (g' := (mkF m 1 #[.val (.int (6 : Int32))] [(.int (6 : Int32))])) (fun _ kq => XS.iloadN X0.here hx rfl (hb hby d_method_3_0) rfl kq) ?_
  refine own_st (T' := s₁) (g' := (mkF m 140 #[.val (.int (6 : Int32))] [])) (fun _ kq => XS.tswIn X0.here hx rfl (pc0 := 1) (pc' := 140) rfl (hb hby d_method_3_1) rfl (by decide) (o := 139) rfl (by decide) (by decide) kq) ?_
  obtain ⟨T1, X1, e1, st1⟩ := getS2 X0 hx hZ hown (host := "") (Or.inl (hw _ (List.mem_of_getElem? (i := 95) rfl))) Via.refl e0 (S.ext O0.2) (g := (mkF m 140 #[.val (.int (6 : Int32))] [])) rfl (hb hby d_method_3_140)
  refine own_st (T' := T1) (g' := (mkF m 143 #[.val (.int (6 : Int32))] [(.ref w)])) (st1) ?_
  refine own_st (T' := T1) (g' := (mkF m 239 #[.val (.int (6 : Int32))] [(.ref w)])) (fun _ kq => XS.goto X1.here hx rfl (pc0 := 143) (pc' := 239) rfl (hb hby d_method_3_143) (by decide) (by decide) kq) ?_
  refine own_out X1 Bd.notSynchronized (v := (some (.ref w))) (fun h => by rw [Bd.returns] at h; cases h) (fun fs hr => own_retA X1 hx Bd.returns rfl rfl rfl (hb hby d_method_3_239) hr) ?_ (by decide) (by decide)
  rw [e1]
  exact ⟨rfl, N0, rfl⟩
theorem d_method_3_146 : decode method_3_code 146 = .ok (.getstatic 44, 3) := by decide +kernel
theorem d_method_3_149 : decode method_3_code 149 = .ok (.goto 90, 3) := by decide +kernel
theorem ef_k7 (m : MethodId) (x0 : Int32) : entryFrame m #[(.int x0)] 1 = mkF m 0 #[.val (.int x0)] [] := by first | (simp [entryFrame, mkF, argsToLocals, Value.category]; done) | rfl
def Qk7 (Z : State) (w : Addr) (h0 : Heap) (n0 : Nat) (v : Option Value) (h : Heap) (L : List Loc) : Prop := v = some (.ref w) ∧ Fr n0 L ∧ h = h0
set_option maxRecDepth 65536 in
set_option maxHeartbeats 40000000 in
theorem rmk7 (l : Launch) (Z : State) (a0 : Array Value) (hw : ∀ d ∈ tables_1, d.before a0 Z = true) (ws : List Jvm.Cond) (w : Addr) (h0 : Heap) (n0 : Nat) (O0 : Old Z n0 h0) (S : Sta Z Z.heap "com/example/table_rules/tablerules/engine/Function" "REPLACE" "Lcom/example/table_rules/tablerules/engine/Function;" (.ref w)) :
    MetFree l (⟨"com/example/table_rules/tablerules/engine/FunctionTakesPinLaw", "constant", "(I)Lcom/example/table_rules/tablerules/engine/Function;"⟩ : MethodName) (head1 (Jvm.Cond.code (⟨"com/example/table_rules/tablerules/engine/FunctionTakesPinLaw", "constant", "(I)Lcom/example/table_rules/tablerules/engine/Function;"⟩ : MethodName) method_3_code 1 (some (.object "com/example/table_rules/tablerules/engine/Function")) :: ws) ({ frames := 0, cells := 0, slots := 0, locals := 0 } : Room)) (fun a U => a = #[(.int (7 : Int32))] ∧ Z.Warmed39 U.vm ∧ U.heap = h0) (fun _ _ _ _ _ => True) (fun _ U o U' => ∃ v L, o = .returned v ∧ Qk7 Z w h0 n0 v U'.heap L ∧ FrameEnd U o U' L ({ frames := 0, cells := 0, slots := 0, locals := 0 } : Room).cells ({ frames := 0, cells := 0, slots := 0, locals := 0 } : Room).slots) := by
  refine MetFree.of_bodySF (plainFor_of_name pn_com_example_table_rules_tablerules_engine_FunctionTakesPinLaw) hisR ?_
  intro p e s m args below meth c s₁ Bd hml0 hP hK
  obtain ⟨rfl, hZ, hh⟩ := hP
  have hx := Bd.exec
  have hby := Bd.bytes
  have hml : c.maxLocals = 1 := hml0
  have hown : s.vm.findClass "com/example/table_rules/tablerules/engine/FunctionTakesPinLaw" = some m.cls := findClass_of_methodNamed Bd.named
  have hnm := (name_of_methodNamed Bd.named Bd.method).1
  have X0 : Stand p l e ({ frames := 0, cells := 0, slots := 0, locals := 0 } : Room) s m #[(.int (7 : Int32))] below meth c s₁ [] 0 0 := Stand.of_body Bd
  have e0 : s₁.heap = h0 := by rw [← hh, Bd.state]; rfl
  have N0 := Fr.nil n0
  have hS0 : s.Since s.vm h0.size := State.WarmedH.since (State.WarmedH.refl s) _
  refine own_in (ef_k7 m (7 : Int32)) ?_
  refine own_st (T' := s₁) (g' := (mkF m 1 #[.val (.int (7 : Int32))] [(.int (7 : Int32))])) (fun _ kq => XS.iloadN X0.here hx rfl (hb hby d_method_3_0) rfl kq) ?_
  refine own_st (T' := s₁) (g' := (mkF m 146 #[.val (.int (7 : Int32))] [])) (fun _ kq => XS.tswIn X0.here hx rfl (pc0 := 1) (pc' := 146) rfl (hb hby d_method_3_1) rfl (by decide) (o := 145) rfl (by decide) (by decide) kq) ?_
  obtain ⟨T1, X1, e1, st1⟩ := getS2 X0 hx hZ hown (host := "") (Or.inl (hw _ (List.mem_of_getElem? (i := 103) rfl))) Via.refl e0 (S.ext O0.2) (g := (mkF m 146 #[.val (.int (7 : Int32))] [])) rfl (hb hby d_method_3_146)
  refine own_st (T' := T1) (g' := (mkF m 149 #[.val (.int (7 : Int32))] [(.ref w)])) (st1) ?_
  refine own_st (T' := T1) (g' := (mkF m 239 #[.val (.int (7 : Int32))] [(.ref w)])) (fun _ kq => XS.goto X1.here hx rfl (pc0 := 149) (pc' := 239) rfl (hb hby d_method_3_149) (by decide) (by decide) kq) ?_
  refine own_out X1 Bd.notSynchronized (v := (some (.ref w))) (fun h => by rw [Bd.returns] at h; cases h) (fun fs hr => own_retA X1 hx Bd.returns rfl rfl rfl (hb hby d_method_3_239) hr) ?_ (by decide) (by decide)
  rw [e1]
  exact ⟨rfl, N0, rfl⟩
theorem d_method_3_152 : decode method_3_code 152 = .ok (.getstatic 47, 3) := by decide +kernel
theorem d_method_3_155 : decode method_3_code 155 = .ok (.goto 84, 3) := by decide +kernel
theorem ef_k8 (m : MethodId) (x0 : Int32) : entryFrame m #[(.int x0)] 1 = mkF m 0 #[.val (.int x0)] [] := by first | (simp [entryFrame, mkF, argsToLocals, Value.category]; done) | rfl
def Qk8 (Z : State) (w : Addr) (h0 : Heap) (n0 : Nat) (v : Option Value) (h : Heap) (L : List Loc) : Prop := v = some (.ref w) ∧ Fr n0 L ∧ h = h0
set_option maxRecDepth 65536 in
set_option maxHeartbeats 40000000 in
theorem rmk8 (l : Launch) (Z : State) (a0 : Array Value) (hw : ∀ d ∈ tables_1, d.before a0 Z = true) (ws : List Jvm.Cond) (w : Addr) (h0 : Heap) (n0 : Nat) (O0 : Old Z n0 h0) (S : Sta Z Z.heap "com/example/table_rules/tablerules/engine/Function" "LPAD" "Lcom/example/table_rules/tablerules/engine/Function;" (.ref w)) :
    MetFree l (⟨"com/example/table_rules/tablerules/engine/FunctionTakesPinLaw", "constant", "(I)Lcom/example/table_rules/tablerules/engine/Function;"⟩ : MethodName) (head1 (Jvm.Cond.code (⟨"com/example/table_rules/tablerules/engine/FunctionTakesPinLaw", "constant", "(I)Lcom/example/table_rules/tablerules/engine/Function;"⟩ : MethodName) method_3_code 1 (some (.object "com/example/table_rules/tablerules/engine/Function")) :: ws) ({ frames := 0, cells := 0, slots := 0, locals := 0 } : Room)) (fun a U => a = #[(.int (8 : Int32))] ∧ Z.Warmed39 U.vm ∧ U.heap = h0) (fun _ _ _ _ _ => True) (fun _ U o U' => ∃ v L, o = .returned v ∧ Qk8 Z w h0 n0 v U'.heap L ∧ FrameEnd U o U' L ({ frames := 0, cells := 0, slots := 0, locals := 0 } : Room).cells ({ frames := 0, cells := 0, slots := 0, locals := 0 } : Room).slots) := by
  refine MetFree.of_bodySF (plainFor_of_name pn_com_example_table_rules_tablerules_engine_FunctionTakesPinLaw) hisR ?_
  intro p e s m args below meth c s₁ Bd hml0 hP hK
  obtain ⟨rfl, hZ, hh⟩ := hP
  have hx := Bd.exec
  have hby := Bd.bytes
  have hml : c.maxLocals = 1 := hml0
  have hown : s.vm.findClass "com/example/table_rules/tablerules/engine/FunctionTakesPinLaw" = some m.cls := findClass_of_methodNamed Bd.named
  have hnm := (name_of_methodNamed Bd.named Bd.method).1
  have X0 : Stand p l e ({ frames := 0, cells := 0, slots := 0, locals := 0 } : Room) s m #[(.int (8 : Int32))] below meth c s₁ [] 0 0 := Stand.of_body Bd
  have e0 : s₁.heap = h0 := by rw [← hh, Bd.state]; rfl
  have N0 := Fr.nil n0
  have hS0 : s.Since s.vm h0.size := State.WarmedH.since (State.WarmedH.refl s) _
  refine own_in (ef_k8 m (8 : Int32)) ?_
  refine own_st (T' := s₁) (g' := (mkF m 1 #[.val (.int (8 : Int32))] [(.int (8 : Int32))])) (fun _ kq => XS.iloadN X0.here hx rfl (hb hby d_method_3_0) rfl kq) ?_
  refine own_st (T' := s₁) (g' := (mkF m 152 #[.val (.int (8 : Int32))] [])) (fun _ kq => XS.tswIn X0.here hx rfl (pc0 := 1) (pc' := 152) rfl (hb hby d_method_3_1) rfl (by decide) (o := 151) rfl (by decide) (by decide) kq) ?_
  obtain ⟨T1, X1, e1, st1⟩ := getS2 X0 hx hZ hown (host := "") (Or.inl (hw _ (List.mem_of_getElem? (i := 31) rfl))) Via.refl e0 (S.ext O0.2) (g := (mkF m 152 #[.val (.int (8 : Int32))] [])) rfl (hb hby d_method_3_152)
  refine own_st (T' := T1) (g' := (mkF m 155 #[.val (.int (8 : Int32))] [(.ref w)])) (st1) ?_
  refine own_st (T' := T1) (g' := (mkF m 239 #[.val (.int (8 : Int32))] [(.ref w)])) (fun _ kq => XS.goto X1.here hx rfl (pc0 := 155) (pc' := 239) rfl (hb hby d_method_3_155) (by decide) (by decide) kq) ?_
  refine own_out X1 Bd.notSynchronized (v := (some (.ref w))) (fun h => by rw [Bd.returns] at h; cases h) (fun fs hr => own_retA X1 hx Bd.returns rfl rfl rfl (hb hby d_method_3_239) hr) ?_ (by decide) (by decide)
  rw [e1]
  exact ⟨rfl, N0, rfl⟩
theorem d_method_3_158 : decode method_3_code 158 = .ok (.getstatic 50, 3) := by decide +kernel
theorem d_method_3_161 : decode method_3_code 161 = .ok (.goto 78, 3) := by decide +kernel
theorem ef_k9 (m : MethodId) (x0 : Int32) : entryFrame m #[(.int x0)] 1 = mkF m 0 #[.val (.int x0)] [] := by first | (simp [entryFrame, mkF, argsToLocals, Value.category]; done) | rfl
def Qk9 (Z : State) (w : Addr) (h0 : Heap) (n0 : Nat) (v : Option Value) (h : Heap) (L : List Loc) : Prop := v = some (.ref w) ∧ Fr n0 L ∧ h = h0
set_option maxRecDepth 65536 in
set_option maxHeartbeats 40000000 in
theorem rmk9 (l : Launch) (Z : State) (a0 : Array Value) (hw : ∀ d ∈ tables_1, d.before a0 Z = true) (ws : List Jvm.Cond) (w : Addr) (h0 : Heap) (n0 : Nat) (O0 : Old Z n0 h0) (S : Sta Z Z.heap "com/example/table_rules/tablerules/engine/Function" "RPAD" "Lcom/example/table_rules/tablerules/engine/Function;" (.ref w)) :
    MetFree l (⟨"com/example/table_rules/tablerules/engine/FunctionTakesPinLaw", "constant", "(I)Lcom/example/table_rules/tablerules/engine/Function;"⟩ : MethodName) (head1 (Jvm.Cond.code (⟨"com/example/table_rules/tablerules/engine/FunctionTakesPinLaw", "constant", "(I)Lcom/example/table_rules/tablerules/engine/Function;"⟩ : MethodName) method_3_code 1 (some (.object "com/example/table_rules/tablerules/engine/Function")) :: ws) ({ frames := 0, cells := 0, slots := 0, locals := 0 } : Room)) (fun a U => a = #[(.int (9 : Int32))] ∧ Z.Warmed39 U.vm ∧ U.heap = h0) (fun _ _ _ _ _ => True) (fun _ U o U' => ∃ v L, o = .returned v ∧ Qk9 Z w h0 n0 v U'.heap L ∧ FrameEnd U o U' L ({ frames := 0, cells := 0, slots := 0, locals := 0 } : Room).cells ({ frames := 0, cells := 0, slots := 0, locals := 0 } : Room).slots) := by
  refine MetFree.of_bodySF (plainFor_of_name pn_com_example_table_rules_tablerules_engine_FunctionTakesPinLaw) hisR ?_
  intro p e s m args below meth c s₁ Bd hml0 hP hK
  obtain ⟨rfl, hZ, hh⟩ := hP
  have hx := Bd.exec
  have hby := Bd.bytes
  have hml : c.maxLocals = 1 := hml0
  have hown : s.vm.findClass "com/example/table_rules/tablerules/engine/FunctionTakesPinLaw" = some m.cls := findClass_of_methodNamed Bd.named
  have hnm := (name_of_methodNamed Bd.named Bd.method).1
  have X0 : Stand p l e ({ frames := 0, cells := 0, slots := 0, locals := 0 } : Room) s m #[(.int (9 : Int32))] below meth c s₁ [] 0 0 := Stand.of_body Bd
  have e0 : s₁.heap = h0 := by rw [← hh, Bd.state]; rfl
  have N0 := Fr.nil n0
  have hS0 : s.Since s.vm h0.size := State.WarmedH.since (State.WarmedH.refl s) _
  refine own_in (ef_k9 m (9 : Int32)) ?_
  refine own_st (T' := s₁) (g' := (mkF m 1 #[.val (.int (9 : Int32))] [(.int (9 : Int32))])) (fun _ kq => XS.iloadN X0.here hx rfl (hb hby d_method_3_0) rfl kq) ?_
  refine own_st (T' := s₁) (g' := (mkF m 158 #[.val (.int (9 : Int32))] [])) (fun _ kq => XS.tswIn X0.here hx rfl (pc0 := 1) (pc' := 158) rfl (hb hby d_method_3_1) rfl (by decide) (o := 157) rfl (by decide) (by decide) kq) ?_
  obtain ⟨T1, X1, e1, st1⟩ := getS2 X0 hx hZ hown (host := "") (Or.inl (hw _ (List.mem_of_getElem? (i := 88) rfl))) Via.refl e0 (S.ext O0.2) (g := (mkF m 158 #[.val (.int (9 : Int32))] [])) rfl (hb hby d_method_3_158)
  refine own_st (T' := T1) (g' := (mkF m 161 #[.val (.int (9 : Int32))] [(.ref w)])) (st1) ?_
  refine own_st (T' := T1) (g' := (mkF m 239 #[.val (.int (9 : Int32))] [(.ref w)])) (fun _ kq => XS.goto X1.here hx rfl (pc0 := 161) (pc' := 239) rfl (hb hby d_method_3_161) (by decide) (by decide) kq) ?_
  refine own_out X1 Bd.notSynchronized (v := (some (.ref w))) (fun h => by rw [Bd.returns] at h; cases h) (fun fs hr => own_retA X1 hx Bd.returns rfl rfl rfl (hb hby d_method_3_239) hr) ?_ (by decide) (by decide)
  rw [e1]
  exact ⟨rfl, N0, rfl⟩
theorem d_method_3_164 : decode method_3_code 164 = .ok (.getstatic 53, 3) := by decide +kernel
theorem d_method_3_167 : decode method_3_code 167 = .ok (.goto 72, 3) := by decide +kernel
theorem ef_k10 (m : MethodId) (x0 : Int32) : entryFrame m #[(.int x0)] 1 = mkF m 0 #[.val (.int x0)] [] := by first | (simp [entryFrame, mkF, argsToLocals, Value.category]; done) | rfl
def Qk10 (Z : State) (w : Addr) (h0 : Heap) (n0 : Nat) (v : Option Value) (h : Heap) (L : List Loc) : Prop := v = some (.ref w) ∧ Fr n0 L ∧ h = h0
set_option maxRecDepth 65536 in
set_option maxHeartbeats 40000000 in
theorem rmk10 (l : Launch) (Z : State) (a0 : Array Value) (hw : ∀ d ∈ tables_1, d.before a0 Z = true) (ws : List Jvm.Cond) (w : Addr) (h0 : Heap) (n0 : Nat) (O0 : Old Z n0 h0) (S : Sta Z Z.heap "com/example/table_rules/tablerules/engine/Function" "SUBSTR" "Lcom/example/table_rules/tablerules/engine/Function;" (.ref w)) :
    MetFree l (⟨"com/example/table_rules/tablerules/engine/FunctionTakesPinLaw", "constant", "(I)Lcom/example/table_rules/tablerules/engine/Function;"⟩ : MethodName) (head1 (Jvm.Cond.code (⟨"com/example/table_rules/tablerules/engine/FunctionTakesPinLaw", "constant", "(I)Lcom/example/table_rules/tablerules/engine/Function;"⟩ : MethodName) method_3_code 1 (some (.object "com/example/table_rules/tablerules/engine/Function")) :: ws) ({ frames := 0, cells := 0, slots := 0, locals := 0 } : Room)) (fun a U => a = #[(.int (10 : Int32))] ∧ Z.Warmed39 U.vm ∧ U.heap = h0) (fun _ _ _ _ _ => True) (fun _ U o U' => ∃ v L, o = .returned v ∧ Qk10 Z w h0 n0 v U'.heap L ∧ FrameEnd U o U' L ({ frames := 0, cells := 0, slots := 0, locals := 0 } : Room).cells ({ frames := 0, cells := 0, slots := 0, locals := 0 } : Room).slots) := by
  refine MetFree.of_bodySF (plainFor_of_name pn_com_example_table_rules_tablerules_engine_FunctionTakesPinLaw) hisR ?_
  intro p e s m args below meth c s₁ Bd hml0 hP hK
  obtain ⟨rfl, hZ, hh⟩ := hP
  have hx := Bd.exec
  have hby := Bd.bytes
  have hml : c.maxLocals = 1 := hml0
  have hown : s.vm.findClass "com/example/table_rules/tablerules/engine/FunctionTakesPinLaw" = some m.cls := findClass_of_methodNamed Bd.named
  have hnm := (name_of_methodNamed Bd.named Bd.method).1
  have X0 : Stand p l e ({ frames := 0, cells := 0, slots := 0, locals := 0 } : Room) s m #[(.int (10 : Int32))] below meth c s₁ [] 0 0 := Stand.of_body Bd
  have e0 : s₁.heap = h0 := by rw [← hh, Bd.state]; rfl
  have N0 := Fr.nil n0
  have hS0 : s.Since s.vm h0.size := State.WarmedH.since (State.WarmedH.refl s) _
  refine own_in (ef_k10 m (10 : Int32)) ?_
  refine own_st (T' := s₁) (g' := (mkF m 1 #[.val (.int (10 : Int32))] [(.int (10 : Int32))])) (fun _ kq => XS.iloadN X0.here hx rfl (hb hby d_method_3_0) rfl kq) ?_
  refine own_st (T' := s₁) (g' := (mkF m 164 #[.val (.int (10 : Int32))] [])) (fun _ kq => XS.tswIn X0.here hx rfl (pc0 := 1) (pc' := 164) rfl (hb hby d_method_3_1) rfl (by decide) (o := 163) rfl (by decide) (by decide) kq) ?_
  obtain ⟨T1, X1, e1, st1⟩ := getS2 X0 hx hZ hown (host := "") (Or.inl (hw _ (List.mem_of_getElem? (i := 27) rfl))) Via.refl e0 (S.ext O0.2) (g := (mkF m 164 #[.val (.int (10 : Int32))] [])) rfl (hb hby d_method_3_164)
  refine own_st (T' := T1) (g' := (mkF m 167 #[.val (.int (10 : Int32))] [(.ref w)])) (st1) ?_
  refine own_st (T' := T1) (g' := (mkF m 239 #[.val (.int (10 : Int32))] [(.ref w)])) (fun _ kq => XS.goto X1.here hx rfl (pc0 := 167) (pc' := 239) rfl (hb hby d_method_3_167) (by decide) (by decide) kq) ?_
  refine own_out X1 Bd.notSynchronized (v := (some (.ref w))) (fun h => by rw [Bd.returns] at h; cases h) (fun fs hr => own_retA X1 hx Bd.returns rfl rfl rfl (hb hby d_method_3_239) hr) ?_ (by decide) (by decide)
  rw [e1]
  exact ⟨rfl, N0, rfl⟩
theorem d_method_3_170 : decode method_3_code 170 = .ok (.getstatic 56, 3) := by decide +kernel
theorem d_method_3_173 : decode method_3_code 173 = .ok (.goto 66, 3) := by decide +kernel
theorem ef_k11 (m : MethodId) (x0 : Int32) : entryFrame m #[(.int x0)] 1 = mkF m 0 #[.val (.int x0)] [] := by first | (simp [entryFrame, mkF, argsToLocals, Value.category]; done) | rfl
def Qk11 (Z : State) (w : Addr) (h0 : Heap) (n0 : Nat) (v : Option Value) (h : Heap) (L : List Loc) : Prop := v = some (.ref w) ∧ Fr n0 L ∧ h = h0
set_option maxRecDepth 65536 in
set_option maxHeartbeats 40000000 in
theorem rmk11 (l : Launch) (Z : State) (a0 : Array Value) (hw : ∀ d ∈ tables_1, d.before a0 Z = true) (ws : List Jvm.Cond) (w : Addr) (h0 : Heap) (n0 : Nat) (O0 : Old Z n0 h0) (S : Sta Z Z.heap "com/example/table_rules/tablerules/engine/Function" "ABS" "Lcom/example/table_rules/tablerules/engine/Function;" (.ref w)) :
    MetFree l (⟨"com/example/table_rules/tablerules/engine/FunctionTakesPinLaw", "constant", "(I)Lcom/example/table_rules/tablerules/engine/Function;"⟩ : MethodName) (head1 (Jvm.Cond.code (⟨"com/example/table_rules/tablerules/engine/FunctionTakesPinLaw", "constant", "(I)Lcom/example/table_rules/tablerules/engine/Function;"⟩ : MethodName) method_3_code 1 (some (.object "com/example/table_rules/tablerules/engine/Function")) :: ws) ({ frames := 0, cells := 0, slots := 0, locals := 0 } : Room)) (fun a U => a = #[(.int (11 : Int32))] ∧ Z.Warmed39 U.vm ∧ U.heap = h0) (fun _ _ _ _ _ => True) (fun _ U o U' => ∃ v L, o = .returned v ∧ Qk11 Z w h0 n0 v U'.heap L ∧ FrameEnd U o U' L ({ frames := 0, cells := 0, slots := 0, locals := 0 } : Room).cells ({ frames := 0, cells := 0, slots := 0, locals := 0 } : Room).slots) := by
  refine MetFree.of_bodySF (plainFor_of_name pn_com_example_table_rules_tablerules_engine_FunctionTakesPinLaw) hisR ?_
  intro p e s m args below meth c s₁ Bd hml0 hP hK
  obtain ⟨rfl, hZ, hh⟩ := hP
  have hx := Bd.exec
  have hby := Bd.bytes
  have hml : c.maxLocals = 1 := hml0
  have hown : s.vm.findClass "com/example/table_rules/tablerules/engine/FunctionTakesPinLaw" = some m.cls := findClass_of_methodNamed Bd.named
  have hnm := (name_of_methodNamed Bd.named Bd.method).1
  have X0 : Stand p l e ({ frames := 0, cells := 0, slots := 0, locals := 0 } : Room) s m #[(.int (11 : Int32))] below meth c s₁ [] 0 0 := Stand.of_body Bd
  have e0 : s₁.heap = h0 := by rw [← hh, Bd.state]; rfl
  have N0 := Fr.nil n0
  have hS0 : s.Since s.vm h0.size := State.WarmedH.since (State.WarmedH.refl s) _
  refine own_in (ef_k11 m (11 : Int32)) ?_
  refine own_st (T' := s₁) (g' := (mkF m 1 #[.val (.int (11 : Int32))] [(.int (11 : Int32))])) (fun _ kq => XS.iloadN X0.here hx rfl (hb hby d_method_3_0) rfl kq) ?_
  refine own_st (T' := s₁) (g' := (mkF m 170 #[.val (.int (11 : Int32))] [])) (fun _ kq => XS.tswIn X0.here hx rfl (pc0 := 1) (pc' := 170) rfl (hb hby d_method_3_1) rfl (by decide) (o := 169) rfl (by decide) (by decide) kq) ?_
  obtain ⟨T1, X1, e1, st1⟩ := getS2 X0 hx hZ hown (host := "") (Or.inl (hw _ (List.mem_of_getElem? (i := 64) rfl))) Via.refl e0 (S.ext O0.2) (g := (mkF m 170 #[.val (.int (11 : Int32))] [])) rfl (hb hby d_method_3_170)
  refine own_st (T' := T1) (g' := (mkF m 173 #[.val (.int (11 : Int32))] [(.ref w)])) (st1) ?_
  refine own_st (T' := T1) (g' := (mkF m 239 #[.val (.int (11 : Int32))] [(.ref w)])) (fun _ kq => XS.goto X1.here hx rfl (pc0 := 173) (pc' := 239) rfl (hb hby d_method_3_173) (by decide) (by decide) kq) ?_
  refine own_out X1 Bd.notSynchronized (v := (some (.ref w))) (fun h => by rw [Bd.returns] at h; cases h) (fun fs hr => own_retA X1 hx Bd.returns rfl rfl rfl (hb hby d_method_3_239) hr) ?_ (by decide) (by decide)
  rw [e1]
  exact ⟨rfl, N0, rfl⟩
theorem d_method_3_176 : decode method_3_code 176 = .ok (.getstatic 59, 3) := by decide +kernel
theorem d_method_3_179 : decode method_3_code 179 = .ok (.goto 60, 3) := by decide +kernel
theorem ef_k12 (m : MethodId) (x0 : Int32) : entryFrame m #[(.int x0)] 1 = mkF m 0 #[.val (.int x0)] [] := by first | (simp [entryFrame, mkF, argsToLocals, Value.category]; done) | rfl
def Qk12 (Z : State) (w : Addr) (h0 : Heap) (n0 : Nat) (v : Option Value) (h : Heap) (L : List Loc) : Prop := v = some (.ref w) ∧ Fr n0 L ∧ h = h0
set_option maxRecDepth 65536 in
set_option maxHeartbeats 40000000 in
theorem rmk12 (l : Launch) (Z : State) (a0 : Array Value) (hw : ∀ d ∈ tables_1, d.before a0 Z = true) (ws : List Jvm.Cond) (w : Addr) (h0 : Heap) (n0 : Nat) (O0 : Old Z n0 h0) (S : Sta Z Z.heap "com/example/table_rules/tablerules/engine/Function" "CEIL" "Lcom/example/table_rules/tablerules/engine/Function;" (.ref w)) :
    MetFree l (⟨"com/example/table_rules/tablerules/engine/FunctionTakesPinLaw", "constant", "(I)Lcom/example/table_rules/tablerules/engine/Function;"⟩ : MethodName) (head1 (Jvm.Cond.code (⟨"com/example/table_rules/tablerules/engine/FunctionTakesPinLaw", "constant", "(I)Lcom/example/table_rules/tablerules/engine/Function;"⟩ : MethodName) method_3_code 1 (some (.object "com/example/table_rules/tablerules/engine/Function")) :: ws) ({ frames := 0, cells := 0, slots := 0, locals := 0 } : Room)) (fun a U => a = #[(.int (12 : Int32))] ∧ Z.Warmed39 U.vm ∧ U.heap = h0) (fun _ _ _ _ _ => True) (fun _ U o U' => ∃ v L, o = .returned v ∧ Qk12 Z w h0 n0 v U'.heap L ∧ FrameEnd U o U' L ({ frames := 0, cells := 0, slots := 0, locals := 0 } : Room).cells ({ frames := 0, cells := 0, slots := 0, locals := 0 } : Room).slots) := by
  refine MetFree.of_bodySF (plainFor_of_name pn_com_example_table_rules_tablerules_engine_FunctionTakesPinLaw) hisR ?_
  intro p e s m args below meth c s₁ Bd hml0 hP hK
  obtain ⟨rfl, hZ, hh⟩ := hP
  have hx := Bd.exec
  have hby := Bd.bytes
  have hml : c.maxLocals = 1 := hml0
  have hown : s.vm.findClass "com/example/table_rules/tablerules/engine/FunctionTakesPinLaw" = some m.cls := findClass_of_methodNamed Bd.named
  have hnm := (name_of_methodNamed Bd.named Bd.method).1
  have X0 : Stand p l e ({ frames := 0, cells := 0, slots := 0, locals := 0 } : Room) s m #[(.int (12 : Int32))] below meth c s₁ [] 0 0 := Stand.of_body Bd
  have e0 : s₁.heap = h0 := by rw [← hh, Bd.state]; rfl
  have N0 := Fr.nil n0
  have hS0 : s.Since s.vm h0.size := State.WarmedH.since (State.WarmedH.refl s) _
  refine own_in (ef_k12 m (12 : Int32)) ?_
  refine own_st (T' := s₁) (g' := (mkF m 1 #[.val (.int (12 : Int32))] [(.int (12 : Int32))])) (fun _ kq => XS.iloadN X0.here hx rfl (hb hby d_method_3_0) rfl kq) ?_
  refine own_st (T' := s₁) (g' := (mkF m 176 #[.val (.int (12 : Int32))] [])) (fun _ kq => XS.tswIn X0.here hx rfl (pc0 := 1) (pc' := 176) rfl (hb hby d_method_3_1) rfl (by decide) (o := 175) rfl (by decide) (by decide) kq) ?_
  obtain ⟨T1, X1, e1, st1⟩ := getS2 X0 hx hZ hown (host := "") (Or.inl (hw _ (List.mem_of_getElem? (i := 45) rfl))) Via.refl e0 (S.ext O0.2) (g := (mkF m 176 #[.val (.int (12 : Int32))] [])) rfl (hb hby d_method_3_176)
  refine own_st (T' := T1) (g' := (mkF m 179 #[.val (.int (12 : Int32))] [(.ref w)])) (st1) ?_
  refine own_st (T' := T1) (g' := (mkF m 239 #[.val (.int (12 : Int32))] [(.ref w)])) (fun _ kq => XS.goto X1.here hx rfl (pc0 := 179) (pc' := 239) rfl (hb hby d_method_3_179) (by decide) (by decide) kq) ?_
  refine own_out X1 Bd.notSynchronized (v := (some (.ref w))) (fun h => by rw [Bd.returns] at h; cases h) (fun fs hr => own_retA X1 hx Bd.returns rfl rfl rfl (hb hby d_method_3_239) hr) ?_ (by decide) (by decide)
  rw [e1]
  exact ⟨rfl, N0, rfl⟩
theorem d_method_3_182 : decode method_3_code 182 = .ok (.getstatic 62, 3) := by decide +kernel
theorem d_method_3_185 : decode method_3_code 185 = .ok (.goto 54, 3) := by decide +kernel
theorem ef_k13 (m : MethodId) (x0 : Int32) : entryFrame m #[(.int x0)] 1 = mkF m 0 #[.val (.int x0)] [] := by first | (simp [entryFrame, mkF, argsToLocals, Value.category]; done) | rfl
def Qk13 (Z : State) (w : Addr) (h0 : Heap) (n0 : Nat) (v : Option Value) (h : Heap) (L : List Loc) : Prop := v = some (.ref w) ∧ Fr n0 L ∧ h = h0
set_option maxRecDepth 65536 in
set_option maxHeartbeats 40000000 in
theorem rmk13 (l : Launch) (Z : State) (a0 : Array Value) (hw : ∀ d ∈ tables_1, d.before a0 Z = true) (ws : List Jvm.Cond) (w : Addr) (h0 : Heap) (n0 : Nat) (O0 : Old Z n0 h0) (S : Sta Z Z.heap "com/example/table_rules/tablerules/engine/Function" "FLOOR" "Lcom/example/table_rules/tablerules/engine/Function;" (.ref w)) :
    MetFree l (⟨"com/example/table_rules/tablerules/engine/FunctionTakesPinLaw", "constant", "(I)Lcom/example/table_rules/tablerules/engine/Function;"⟩ : MethodName) (head1 (Jvm.Cond.code (⟨"com/example/table_rules/tablerules/engine/FunctionTakesPinLaw", "constant", "(I)Lcom/example/table_rules/tablerules/engine/Function;"⟩ : MethodName) method_3_code 1 (some (.object "com/example/table_rules/tablerules/engine/Function")) :: ws) ({ frames := 0, cells := 0, slots := 0, locals := 0 } : Room)) (fun a U => a = #[(.int (13 : Int32))] ∧ Z.Warmed39 U.vm ∧ U.heap = h0) (fun _ _ _ _ _ => True) (fun _ U o U' => ∃ v L, o = .returned v ∧ Qk13 Z w h0 n0 v U'.heap L ∧ FrameEnd U o U' L ({ frames := 0, cells := 0, slots := 0, locals := 0 } : Room).cells ({ frames := 0, cells := 0, slots := 0, locals := 0 } : Room).slots) := by
  refine MetFree.of_bodySF (plainFor_of_name pn_com_example_table_rules_tablerules_engine_FunctionTakesPinLaw) hisR ?_
  intro p e s m args below meth c s₁ Bd hml0 hP hK
  obtain ⟨rfl, hZ, hh⟩ := hP
  have hx := Bd.exec
  have hby := Bd.bytes
  have hml : c.maxLocals = 1 := hml0
  have hown : s.vm.findClass "com/example/table_rules/tablerules/engine/FunctionTakesPinLaw" = some m.cls := findClass_of_methodNamed Bd.named
  have hnm := (name_of_methodNamed Bd.named Bd.method).1
  have X0 : Stand p l e ({ frames := 0, cells := 0, slots := 0, locals := 0 } : Room) s m #[(.int (13 : Int32))] below meth c s₁ [] 0 0 := Stand.of_body Bd
  have e0 : s₁.heap = h0 := by rw [← hh, Bd.state]; rfl
  have N0 := Fr.nil n0
  have hS0 : s.Since s.vm h0.size := State.WarmedH.since (State.WarmedH.refl s) _
  refine own_in (ef_k13 m (13 : Int32)) ?_
  refine own_st (T' := s₁) (g' := (mkF m 1 #[.val (.int (13 : Int32))] [(.int (13 : Int32))])) (fun _ kq => XS.iloadN X0.here hx rfl (hb hby d_method_3_0) rfl kq) ?_
  refine own_st (T' := s₁) (g' := (mkF m 182 #[.val (.int (13 : Int32))] [])) (fun _ kq => XS.tswIn X0.here hx rfl (pc0 := 1) (pc' := 182) rfl (hb hby d_method_3_1) rfl (by decide) (o := 181) rfl (by decide) (by decide) kq) ?_
  obtain ⟨T1, X1, e1, st1⟩ := getS2 X0 hx hZ hown (host := "") (Or.inl (hw _ (List.mem_of_getElem? (i := 74) rfl))) Via.refl e0 (S.ext O0.2) (g := (mkF m 182 #[.val (.int (13 : Int32))] [])) rfl (hb hby d_method_3_182)
  refine own_st (T' := T1) (g' := (mkF m 185 #[.val (.int (13 : Int32))] [(.ref w)])) (st1) ?_
  refine own_st (T' := T1) (g' := (mkF m 239 #[.val (.int (13 : Int32))] [(.ref w)])) (fun _ kq => XS.goto X1.here hx rfl (pc0 := 185) (pc' := 239) rfl (hb hby d_method_3_185) (by decide) (by decide) kq) ?_
  refine own_out X1 Bd.notSynchronized (v := (some (.ref w))) (fun h => by rw [Bd.returns] at h; cases h) (fun fs hr => own_retA X1 hx Bd.returns rfl rfl rfl (hb hby d_method_3_239) hr) ?_ (by decide) (by decide)
  rw [e1]
  exact ⟨rfl, N0, rfl⟩
theorem d_method_3_188 : decode method_3_code 188 = .ok (.getstatic 65, 3) := by decide +kernel
theorem d_method_3_191 : decode method_3_code 191 = .ok (.goto 48, 3) := by decide +kernel
theorem ef_k14 (m : MethodId) (x0 : Int32) : entryFrame m #[(.int x0)] 1 = mkF m 0 #[.val (.int x0)] [] := by first | (simp [entryFrame, mkF, argsToLocals, Value.category]; done) | rfl
def Qk14 (Z : State) (w : Addr) (h0 : Heap) (n0 : Nat) (v : Option Value) (h : Heap) (L : List Loc) : Prop := v = some (.ref w) ∧ Fr n0 L ∧ h = h0
set_option maxRecDepth 65536 in
set_option maxHeartbeats 40000000 in
theorem rmk14 (l : Launch) (Z : State) (a0 : Array Value) (hw : ∀ d ∈ tables_1, d.before a0 Z = true) (ws : List Jvm.Cond) (w : Addr) (h0 : Heap) (n0 : Nat) (O0 : Old Z n0 h0) (S : Sta Z Z.heap "com/example/table_rules/tablerules/engine/Function" "SIGN" "Lcom/example/table_rules/tablerules/engine/Function;" (.ref w)) :
    MetFree l (⟨"com/example/table_rules/tablerules/engine/FunctionTakesPinLaw", "constant", "(I)Lcom/example/table_rules/tablerules/engine/Function;"⟩ : MethodName) (head1 (Jvm.Cond.code (⟨"com/example/table_rules/tablerules/engine/FunctionTakesPinLaw", "constant", "(I)Lcom/example/table_rules/tablerules/engine/Function;"⟩ : MethodName) method_3_code 1 (some (.object "com/example/table_rules/tablerules/engine/Function")) :: ws) ({ frames := 0, cells := 0, slots := 0, locals := 0 } : Room)) (fun a U => a = #[(.int (14 : Int32))] ∧ Z.Warmed39 U.vm ∧ U.heap = h0) (fun _ _ _ _ _ => True) (fun _ U o U' => ∃ v L, o = .returned v ∧ Qk14 Z w h0 n0 v U'.heap L ∧ FrameEnd U o U' L ({ frames := 0, cells := 0, slots := 0, locals := 0 } : Room).cells ({ frames := 0, cells := 0, slots := 0, locals := 0 } : Room).slots) := by
  refine MetFree.of_bodySF (plainFor_of_name pn_com_example_table_rules_tablerules_engine_FunctionTakesPinLaw) hisR ?_
  intro p e s m args below meth c s₁ Bd hml0 hP hK
  obtain ⟨rfl, hZ, hh⟩ := hP
  have hx := Bd.exec
  have hby := Bd.bytes
  have hml : c.maxLocals = 1 := hml0
  have hown : s.vm.findClass "com/example/table_rules/tablerules/engine/FunctionTakesPinLaw" = some m.cls := findClass_of_methodNamed Bd.named
  have hnm := (name_of_methodNamed Bd.named Bd.method).1
  have X0 : Stand p l e ({ frames := 0, cells := 0, slots := 0, locals := 0 } : Room) s m #[(.int (14 : Int32))] below meth c s₁ [] 0 0 := Stand.of_body Bd
  have e0 : s₁.heap = h0 := by rw [← hh, Bd.state]; rfl
  have N0 := Fr.nil n0
  have hS0 : s.Since s.vm h0.size := State.WarmedH.since (State.WarmedH.refl s) _
  refine own_in (ef_k14 m (14 : Int32)) ?_
  refine own_st (T' := s₁) (g' := (mkF m 1 #[.val (.int (14 : Int32))] [(.int (14 : Int32))])) (fun _ kq => XS.iloadN X0.here hx rfl (hb hby d_method_3_0) rfl kq) ?_
  refine own_st (T' := s₁) (g' := (mkF m 188 #[.val (.int (14 : Int32))] [])) (fun _ kq => XS.tswIn X0.here hx rfl (pc0 := 1) (pc' := 188) rfl (hb hby d_method_3_1) rfl (by decide) (o := 187) rfl (by decide) (by decide) kq) ?_
  obtain ⟨T1, X1, e1, st1⟩ := getS2 X0 hx hZ hown (host := "") (Or.inl (hw _ (List.mem_of_getElem? (i := 69) rfl))) Via.refl e0 (S.ext O0.2) (g := (mkF m 188 #[.val (.int (14 : Int32))] [])) rfl (hb hby d_method_3_188)
  refine own_st (T' := T1) (g' := (mkF m 191 #[.val (.int (14 : Int32))] [(.ref w)])) (st1) ?_
  refine own_st (T' := T1) (g' := (mkF m 239 #[.val (.int (14 : Int32))] [(.ref w)])) (fun _ kq => XS.goto X1.here hx rfl (pc0 := 191) (pc' := 239) rfl (hb hby d_method_3_191) (by decide) (by decide) kq) ?_
  refine own_out X1 Bd.notSynchronized (v := (some (.ref w))) (fun h => by rw [Bd.returns] at h; cases h) (fun fs hr => own_retA X1 hx Bd.returns rfl rfl rfl (hb hby d_method_3_239) hr) ?_ (by decide) (by decide)
  rw [e1]
  exact ⟨rfl, N0, rfl⟩
theorem d_method_3_194 : decode method_3_code 194 = .ok (.getstatic 68, 3) := by decide +kernel
theorem d_method_3_197 : decode method_3_code 197 = .ok (.goto 42, 3) := by decide +kernel
theorem ef_k15 (m : MethodId) (x0 : Int32) : entryFrame m #[(.int x0)] 1 = mkF m 0 #[.val (.int x0)] [] := by first | (simp [entryFrame, mkF, argsToLocals, Value.category]; done) | rfl
def Qk15 (Z : State) (w : Addr) (h0 : Heap) (n0 : Nat) (v : Option Value) (h : Heap) (L : List Loc) : Prop := v = some (.ref w) ∧ Fr n0 L ∧ h = h0
set_option maxRecDepth 65536 in
set_option maxHeartbeats 40000000 in
theorem rmk15 (l : Launch) (Z : State) (a0 : Array Value) (hw : ∀ d ∈ tables_1, d.before a0 Z = true) (ws : List Jvm.Cond) (w : Addr) (h0 : Heap) (n0 : Nat) (O0 : Old Z n0 h0) (S : Sta Z Z.heap "com/example/table_rules/tablerules/engine/Function" "ROUND" "Lcom/example/table_rules/tablerules/engine/Function;" (.ref w)) :
    MetFree l (⟨"com/example/table_rules/tablerules/engine/FunctionTakesPinLaw", "constant", "(I)Lcom/example/table_rules/tablerules/engine/Function;"⟩ : MethodName) (head1 (Jvm.Cond.code (⟨"com/example/table_rules/tablerules/engine/FunctionTakesPinLaw", "constant", "(I)Lcom/example/table_rules/tablerules/engine/Function;"⟩ : MethodName) method_3_code 1 (some (.object "com/example/table_rules/tablerules/engine/Function")) :: ws) ({ frames := 0, cells := 0, slots := 0, locals := 0 } : Room)) (fun a U => a = #[(.int (15 : Int32))] ∧ Z.Warmed39 U.vm ∧ U.heap = h0) (fun _ _ _ _ _ => True) (fun _ U o U' => ∃ v L, o = .returned v ∧ Qk15 Z w h0 n0 v U'.heap L ∧ FrameEnd U o U' L ({ frames := 0, cells := 0, slots := 0, locals := 0 } : Room).cells ({ frames := 0, cells := 0, slots := 0, locals := 0 } : Room).slots) := by
  refine MetFree.of_bodySF (plainFor_of_name pn_com_example_table_rules_tablerules_engine_FunctionTakesPinLaw) hisR ?_
  intro p e s m args below meth c s₁ Bd hml0 hP hK
  obtain ⟨rfl, hZ, hh⟩ := hP
  have hx := Bd.exec
  have hby := Bd.bytes
  have hml : c.maxLocals = 1 := hml0
  have hown : s.vm.findClass "com/example/table_rules/tablerules/engine/FunctionTakesPinLaw" = some m.cls := findClass_of_methodNamed Bd.named
  have hnm := (name_of_methodNamed Bd.named Bd.method).1
  have X0 : Stand p l e ({ frames := 0, cells := 0, slots := 0, locals := 0 } : Room) s m #[(.int (15 : Int32))] below meth c s₁ [] 0 0 := Stand.of_body Bd
  have e0 : s₁.heap = h0 := by rw [← hh, Bd.state]; rfl
  have N0 := Fr.nil n0
  have hS0 : s.Since s.vm h0.size := State.WarmedH.since (State.WarmedH.refl s) _
  refine own_in (ef_k15 m (15 : Int32)) ?_
  refine own_st (T' := s₁) (g' := (mkF m 1 #[.val (.int (15 : Int32))] [(.int (15 : Int32))])) (fun _ kq => XS.iloadN X0.here hx rfl (hb hby d_method_3_0) rfl kq) ?_
  refine own_st (T' := s₁) (g' := (mkF m 194 #[.val (.int (15 : Int32))] [])) (fun _ kq => XS.tswIn X0.here hx rfl (pc0 := 1) (pc' := 194) rfl (hb hby d_method_3_1) rfl (by decide) (o := 193) rfl (by decide) (by decide) kq) ?_
  obtain ⟨T1, X1, e1, st1⟩ := getS2 X0 hx hZ hown (host := "") (Or.inl (hw _ (List.mem_of_getElem? (i := 35) rfl))) Via.refl e0 (S.ext O0.2) (g := (mkF m 194 #[.val (.int (15 : Int32))] [])) rfl (hb hby d_method_3_194)
  refine own_st (T' := T1) (g' := (mkF m 197 #[.val (.int (15 : Int32))] [(.ref w)])) (st1) ?_
  refine own_st (T' := T1) (g' := (mkF m 239 #[.val (.int (15 : Int32))] [(.ref w)])) (fun _ kq => XS.goto X1.here hx rfl (pc0 := 197) (pc' := 239) rfl (hb hby d_method_3_197) (by decide) (by decide) kq) ?_
  refine own_out X1 Bd.notSynchronized (v := (some (.ref w))) (fun h => by rw [Bd.returns] at h; cases h) (fun fs hr => own_retA X1 hx Bd.returns rfl rfl rfl (hb hby d_method_3_239) hr) ?_ (by decide) (by decide)
  rw [e1]
  exact ⟨rfl, N0, rfl⟩
theorem d_method_3_200 : decode method_3_code 200 = .ok (.getstatic 71, 3) := by decide +kernel
theorem d_method_3_203 : decode method_3_code 203 = .ok (.goto 36, 3) := by decide +kernel
theorem ef_k16 (m : MethodId) (x0 : Int32) : entryFrame m #[(.int x0)] 1 = mkF m 0 #[.val (.int x0)] [] := by first | (simp [entryFrame, mkF, argsToLocals, Value.category]; done) | rfl
def Qk16 (Z : State) (w : Addr) (h0 : Heap) (n0 : Nat) (v : Option Value) (h : Heap) (L : List Loc) : Prop := v = some (.ref w) ∧ Fr n0 L ∧ h = h0
set_option maxRecDepth 65536 in
set_option maxHeartbeats 40000000 in
theorem rmk16 (l : Launch) (Z : State) (a0 : Array Value) (hw : ∀ d ∈ tables_1, d.before a0 Z = true) (ws : List Jvm.Cond) (w : Addr) (h0 : Heap) (n0 : Nat) (O0 : Old Z n0 h0) (S : Sta Z Z.heap "com/example/table_rules/tablerules/engine/Function" "TRUNC" "Lcom/example/table_rules/tablerules/engine/Function;" (.ref w)) :
    MetFree l (⟨"com/example/table_rules/tablerules/engine/FunctionTakesPinLaw", "constant", "(I)Lcom/example/table_rules/tablerules/engine/Function;"⟩ : MethodName) (head1 (Jvm.Cond.code (⟨"com/example/table_rules/tablerules/engine/FunctionTakesPinLaw", "constant", "(I)Lcom/example/table_rules/tablerules/engine/Function;"⟩ : MethodName) method_3_code 1 (some (.object "com/example/table_rules/tablerules/engine/Function")) :: ws) ({ frames := 0, cells := 0, slots := 0, locals := 0 } : Room)) (fun a U => a = #[(.int (16 : Int32))] ∧ Z.Warmed39 U.vm ∧ U.heap = h0) (fun _ _ _ _ _ => True) (fun _ U o U' => ∃ v L, o = .returned v ∧ Qk16 Z w h0 n0 v U'.heap L ∧ FrameEnd U o U' L ({ frames := 0, cells := 0, slots := 0, locals := 0 } : Room).cells ({ frames := 0, cells := 0, slots := 0, locals := 0 } : Room).slots) := by
  refine MetFree.of_bodySF (plainFor_of_name pn_com_example_table_rules_tablerules_engine_FunctionTakesPinLaw) hisR ?_
  intro p e s m args below meth c s₁ Bd hml0 hP hK
  obtain ⟨rfl, hZ, hh⟩ := hP
  have hx := Bd.exec
  have hby := Bd.bytes
  have hml : c.maxLocals = 1 := hml0
  have hown : s.vm.findClass "com/example/table_rules/tablerules/engine/FunctionTakesPinLaw" = some m.cls := findClass_of_methodNamed Bd.named
  have hnm := (name_of_methodNamed Bd.named Bd.method).1
  have X0 : Stand p l e ({ frames := 0, cells := 0, slots := 0, locals := 0 } : Room) s m #[(.int (16 : Int32))] below meth c s₁ [] 0 0 := Stand.of_body Bd
  have e0 : s₁.heap = h0 := by rw [← hh, Bd.state]; rfl
  have N0 := Fr.nil n0
  have hS0 : s.Since s.vm h0.size := State.WarmedH.since (State.WarmedH.refl s) _
  refine own_in (ef_k16 m (16 : Int32)) ?_
  refine own_st (T' := s₁) (g' := (mkF m 1 #[.val (.int (16 : Int32))] [(.int (16 : Int32))])) (fun _ kq => XS.iloadN X0.here hx rfl (hb hby d_method_3_0) rfl kq) ?_
  refine own_st (T' := s₁) (g' := (mkF m 200 #[.val (.int (16 : Int32))] [])) (fun _ kq => XS.tswIn X0.here hx rfl (pc0 := 1) (pc' := 200) rfl (hb hby d_method_3_1) rfl (by decide) (o := 199) rfl (by decide) (by decide) kq) ?_
  obtain ⟨T1, X1, e1, st1⟩ := getS2 X0 hx hZ hown (host := "") (Or.inl (hw _ (List.mem_of_getElem? (i := 40) rfl))) Via.refl e0 (S.ext O0.2) (g := (mkF m 200 #[.val (.int (16 : Int32))] [])) rfl (hb hby d_method_3_200)
  refine own_st (T' := T1) (g' := (mkF m 203 #[.val (.int (16 : Int32))] [(.ref w)])) (st1) ?_
  refine own_st (T' := T1) (g' := (mkF m 239 #[.val (.int (16 : Int32))] [(.ref w)])) (fun _ kq => XS.goto X1.here hx rfl (pc0 := 203) (pc' := 239) rfl (hb hby d_method_3_203) (by decide) (by decide) kq) ?_
  refine own_out X1 Bd.notSynchronized (v := (some (.ref w))) (fun h => by rw [Bd.returns] at h; cases h) (fun fs hr => own_retA X1 hx Bd.returns rfl rfl rfl (hb hby d_method_3_239) hr) ?_ (by decide) (by decide)
  rw [e1]
  exact ⟨rfl, N0, rfl⟩
theorem d_method_3_206 : decode method_3_code 206 = .ok (.getstatic 74, 3) := by decide +kernel
theorem d_method_3_209 : decode method_3_code 209 = .ok (.goto 30, 3) := by decide +kernel
theorem ef_k17 (m : MethodId) (x0 : Int32) : entryFrame m #[(.int x0)] 1 = mkF m 0 #[.val (.int x0)] [] := by first | (simp [entryFrame, mkF, argsToLocals, Value.category]; done) | rfl
def Qk17 (Z : State) (w : Addr) (h0 : Heap) (n0 : Nat) (v : Option Value) (h : Heap) (L : List Loc) : Prop := v = some (.ref w) ∧ Fr n0 L ∧ h = h0
set_option maxRecDepth 65536 in
set_option maxHeartbeats 40000000 in
theorem rmk17 (l : Launch) (Z : State) (a0 : Array Value) (hw : ∀ d ∈ tables_1, d.before a0 Z = true) (ws : List Jvm.Cond) (w : Addr) (h0 : Heap) (n0 : Nat) (O0 : Old Z n0 h0) (S : Sta Z Z.heap "com/example/table_rules/tablerules/engine/Function" "GREATEST" "Lcom/example/table_rules/tablerules/engine/Function;" (.ref w)) :
    MetFree l (⟨"com/example/table_rules/tablerules/engine/FunctionTakesPinLaw", "constant", "(I)Lcom/example/table_rules/tablerules/engine/Function;"⟩ : MethodName) (head1 (Jvm.Cond.code (⟨"com/example/table_rules/tablerules/engine/FunctionTakesPinLaw", "constant", "(I)Lcom/example/table_rules/tablerules/engine/Function;"⟩ : MethodName) method_3_code 1 (some (.object "com/example/table_rules/tablerules/engine/Function")) :: ws) ({ frames := 0, cells := 0, slots := 0, locals := 0 } : Room)) (fun a U => a = #[(.int (17 : Int32))] ∧ Z.Warmed39 U.vm ∧ U.heap = h0) (fun _ _ _ _ _ => True) (fun _ U o U' => ∃ v L, o = .returned v ∧ Qk17 Z w h0 n0 v U'.heap L ∧ FrameEnd U o U' L ({ frames := 0, cells := 0, slots := 0, locals := 0 } : Room).cells ({ frames := 0, cells := 0, slots := 0, locals := 0 } : Room).slots) := by
  refine MetFree.of_bodySF (plainFor_of_name pn_com_example_table_rules_tablerules_engine_FunctionTakesPinLaw) hisR ?_
  intro p e s m args below meth c s₁ Bd hml0 hP hK
  obtain ⟨rfl, hZ, hh⟩ := hP
  have hx := Bd.exec
  have hby := Bd.bytes
  have hml : c.maxLocals = 1 := hml0
  have hown : s.vm.findClass "com/example/table_rules/tablerules/engine/FunctionTakesPinLaw" = some m.cls := findClass_of_methodNamed Bd.named
  have hnm := (name_of_methodNamed Bd.named Bd.method).1
  have X0 : Stand p l e ({ frames := 0, cells := 0, slots := 0, locals := 0 } : Room) s m #[(.int (17 : Int32))] below meth c s₁ [] 0 0 := Stand.of_body Bd
  have e0 : s₁.heap = h0 := by rw [← hh, Bd.state]; rfl
  have N0 := Fr.nil n0
  have hS0 : s.Since s.vm h0.size := State.WarmedH.since (State.WarmedH.refl s) _
  refine own_in (ef_k17 m (17 : Int32)) ?_
  refine own_st (T' := s₁) (g' := (mkF m 1 #[.val (.int (17 : Int32))] [(.int (17 : Int32))])) (fun _ kq => XS.iloadN X0.here hx rfl (hb hby d_method_3_0) rfl kq) ?_
  refine own_st (T' := s₁) (g' := (mkF m 206 #[.val (.int (17 : Int32))] [])) (fun _ kq => XS.tswIn X0.here hx rfl (pc0 := 1) (pc' := 206) rfl (hb hby d_method_3_1) rfl (by decide) (o := 205) rfl (by decide) (by decide) kq) ?_
  obtain ⟨T1, X1, e1, st1⟩ := getS2 X0 hx hZ hown (host := "") (Or.inl (hw _ (List.mem_of_getElem? (i := 49) rfl))) Via.refl e0 (S.ext O0.2) (g := (mkF m 206 #[.val (.int (17 : Int32))] [])) rfl (hb hby d_method_3_206)
  refine own_st (T' := T1) (g' := (mkF m 209 #[.val (.int (17 : Int32))] [(.ref w)])) (st1) ?_
  refine own_st (T' := T1) (g' := (mkF m 239 #[.val (.int (17 : Int32))] [(.ref w)])) (fun _ kq => XS.goto X1.here hx rfl (pc0 := 209) (pc' := 239) rfl (hb hby d_method_3_209) (by decide) (by decide) kq) ?_
  refine own_out X1 Bd.notSynchronized (v := (some (.ref w))) (fun h => by rw [Bd.returns] at h; cases h) (fun fs hr => own_retA X1 hx Bd.returns rfl rfl rfl (hb hby d_method_3_239) hr) ?_ (by decide) (by decide)
  rw [e1]
  exact ⟨rfl, N0, rfl⟩
theorem d_method_3_212 : decode method_3_code 212 = .ok (.getstatic 77, 3) := by decide +kernel
theorem d_method_3_215 : decode method_3_code 215 = .ok (.goto 24, 3) := by decide +kernel
theorem ef_k18 (m : MethodId) (x0 : Int32) : entryFrame m #[(.int x0)] 1 = mkF m 0 #[.val (.int x0)] [] := by first | (simp [entryFrame, mkF, argsToLocals, Value.category]; done) | rfl
def Qk18 (Z : State) (w : Addr) (h0 : Heap) (n0 : Nat) (v : Option Value) (h : Heap) (L : List Loc) : Prop := v = some (.ref w) ∧ Fr n0 L ∧ h = h0
set_option maxRecDepth 65536 in
set_option maxHeartbeats 40000000 in
theorem rmk18 (l : Launch) (Z : State) (a0 : Array Value) (hw : ∀ d ∈ tables_1, d.before a0 Z = true) (ws : List Jvm.Cond) (w : Addr) (h0 : Heap) (n0 : Nat) (O0 : Old Z n0 h0) (S : Sta Z Z.heap "com/example/table_rules/tablerules/engine/Function" "LEAST" "Lcom/example/table_rules/tablerules/engine/Function;" (.ref w)) :
    MetFree l (⟨"com/example/table_rules/tablerules/engine/FunctionTakesPinLaw", "constant", "(I)Lcom/example/table_rules/tablerules/engine/Function;"⟩ : MethodName) (head1 (Jvm.Cond.code (⟨"com/example/table_rules/tablerules/engine/FunctionTakesPinLaw", "constant", "(I)Lcom/example/table_rules/tablerules/engine/Function;"⟩ : MethodName) method_3_code 1 (some (.object "com/example/table_rules/tablerules/engine/Function")) :: ws) ({ frames := 0, cells := 0, slots := 0, locals := 0 } : Room)) (fun a U => a = #[(.int (18 : Int32))] ∧ Z.Warmed39 U.vm ∧ U.heap = h0) (fun _ _ _ _ _ => True) (fun _ U o U' => ∃ v L, o = .returned v ∧ Qk18 Z w h0 n0 v U'.heap L ∧ FrameEnd U o U' L ({ frames := 0, cells := 0, slots := 0, locals := 0 } : Room).cells ({ frames := 0, cells := 0, slots := 0, locals := 0 } : Room).slots) := by
  refine MetFree.of_bodySF (plainFor_of_name pn_com_example_table_rules_tablerules_engine_FunctionTakesPinLaw) hisR ?_
  intro p e s m args below meth c s₁ Bd hml0 hP hK
  obtain ⟨rfl, hZ, hh⟩ := hP
  have hx := Bd.exec
  have hby := Bd.bytes
  have hml : c.maxLocals = 1 := hml0
  have hown : s.vm.findClass "com/example/table_rules/tablerules/engine/FunctionTakesPinLaw" = some m.cls := findClass_of_methodNamed Bd.named
  have hnm := (name_of_methodNamed Bd.named Bd.method).1
  have X0 : Stand p l e ({ frames := 0, cells := 0, slots := 0, locals := 0 } : Room) s m #[(.int (18 : Int32))] below meth c s₁ [] 0 0 := Stand.of_body Bd
  have e0 : s₁.heap = h0 := by rw [← hh, Bd.state]; rfl
  have N0 := Fr.nil n0
  have hS0 : s.Since s.vm h0.size := State.WarmedH.since (State.WarmedH.refl s) _
  refine own_in (ef_k18 m (18 : Int32)) ?_
  refine own_st (T' := s₁) (g' := (mkF m 1 #[.val (.int (18 : Int32))] [(.int (18 : Int32))])) (fun _ kq => XS.iloadN X0.here hx rfl (hb hby d_method_3_0) rfl kq) ?_
  refine own_st (T' := s₁) (g' := (mkF m 212 #[.val (.int (18 : Int32))] [])) (fun _ kq => XS.tswIn X0.here hx rfl (pc0 := 1) (pc' := 212) rfl (hb hby d_method_3_1) rfl (by decide) (o := 211) rfl (by decide) (by decide) kq) ?_
  obtain ⟨T1, X1, e1, st1⟩ := getS2 X0 hx hZ hown (host := "") (Or.inl (hw _ (List.mem_of_getElem? (i := 116) rfl))) Via.refl e0 (S.ext O0.2) (g := (mkF m 212 #[.val (.int (18 : Int32))] [])) rfl (hb hby d_method_3_212)
  refine own_st (T' := T1) (g' := (mkF m 215 #[.val (.int (18 : Int32))] [(.ref w)])) (st1) ?_
  refine own_st (T' := T1) (g' := (mkF m 239 #[.val (.int (18 : Int32))] [(.ref w)])) (fun _ kq => XS.goto X1.here hx rfl (pc0 := 215) (pc' := 239) rfl (hb hby d_method_3_215) (by decide) (by decide) kq) ?_
  refine own_out X1 Bd.notSynchronized (v := (some (.ref w))) (fun h => by rw [Bd.returns] at h; cases h) (fun fs hr => own_retA X1 hx Bd.returns rfl rfl rfl (hb hby d_method_3_239) hr) ?_ (by decide) (by decide)
  rw [e1]
  exact ⟨rfl, N0, rfl⟩
theorem d_method_3_218 : decode method_3_code 218 = .ok (.getstatic 80, 3) := by decide +kernel
theorem d_method_3_221 : decode method_3_code 221 = .ok (.goto 18, 3) := by decide +kernel
theorem ef_k19 (m : MethodId) (x0 : Int32) : entryFrame m #[(.int x0)] 1 = mkF m 0 #[.val (.int x0)] [] := by first | (simp [entryFrame, mkF, argsToLocals, Value.category]; done) | rfl
def Qk19 (Z : State) (w : Addr) (h0 : Heap) (n0 : Nat) (v : Option Value) (h : Heap) (L : List Loc) : Prop := v = some (.ref w) ∧ Fr n0 L ∧ h = h0
set_option maxRecDepth 65536 in
set_option maxHeartbeats 40000000 in
theorem rmk19 (l : Launch) (Z : State) (a0 : Array Value) (hw : ∀ d ∈ tables_1, d.before a0 Z = true) (ws : List Jvm.Cond) (w : Addr) (h0 : Heap) (n0 : Nat) (O0 : Old Z n0 h0) (S : Sta Z Z.heap "com/example/table_rules/tablerules/engine/Function" "TO_CHAR" "Lcom/example/table_rules/tablerules/engine/Function;" (.ref w)) :
    MetFree l (⟨"com/example/table_rules/tablerules/engine/FunctionTakesPinLaw", "constant", "(I)Lcom/example/table_rules/tablerules/engine/Function;"⟩ : MethodName) (head1 (Jvm.Cond.code (⟨"com/example/table_rules/tablerules/engine/FunctionTakesPinLaw", "constant", "(I)Lcom/example/table_rules/tablerules/engine/Function;"⟩ : MethodName) method_3_code 1 (some (.object "com/example/table_rules/tablerules/engine/Function")) :: ws) ({ frames := 0, cells := 0, slots := 0, locals := 0 } : Room)) (fun a U => a = #[(.int (19 : Int32))] ∧ Z.Warmed39 U.vm ∧ U.heap = h0) (fun _ _ _ _ _ => True) (fun _ U o U' => ∃ v L, o = .returned v ∧ Qk19 Z w h0 n0 v U'.heap L ∧ FrameEnd U o U' L ({ frames := 0, cells := 0, slots := 0, locals := 0 } : Room).cells ({ frames := 0, cells := 0, slots := 0, locals := 0 } : Room).slots) := by
  refine MetFree.of_bodySF (plainFor_of_name pn_com_example_table_rules_tablerules_engine_FunctionTakesPinLaw) hisR ?_
  intro p e s m args below meth c s₁ Bd hml0 hP hK
  obtain ⟨rfl, hZ, hh⟩ := hP
  have hx := Bd.exec
  have hby := Bd.bytes
  have hml : c.maxLocals = 1 := hml0
  have hown : s.vm.findClass "com/example/table_rules/tablerules/engine/FunctionTakesPinLaw" = some m.cls := findClass_of_methodNamed Bd.named
  have hnm := (name_of_methodNamed Bd.named Bd.method).1
  have X0 : Stand p l e ({ frames := 0, cells := 0, slots := 0, locals := 0 } : Room) s m #[(.int (19 : Int32))] below meth c s₁ [] 0 0 := Stand.of_body Bd
  have e0 : s₁.heap = h0 := by rw [← hh, Bd.state]; rfl
  have N0 := Fr.nil n0
  have hS0 : s.Since s.vm h0.size := State.WarmedH.since (State.WarmedH.refl s) _
  refine own_in (ef_k19 m (19 : Int32)) ?_
  refine own_st (T' := s₁) (g' := (mkF m 1 #[.val (.int (19 : Int32))] [(.int (19 : Int32))])) (fun _ kq => XS.iloadN X0.here hx rfl (hb hby d_method_3_0) rfl kq) ?_
  refine own_st (T' := s₁) (g' := (mkF m 218 #[.val (.int (19 : Int32))] [])) (fun _ kq => XS.tswIn X0.here hx rfl (pc0 := 1) (pc' := 218) rfl (hb hby d_method_3_1) rfl (by decide) (o := 217) rfl (by decide) (by decide) kq) ?_
  obtain ⟨T1, X1, e1, st1⟩ := getS2 X0 hx hZ hown (host := "") (Or.inl (hw _ (List.mem_of_getElem? (i := 121) rfl))) Via.refl e0 (S.ext O0.2) (g := (mkF m 218 #[.val (.int (19 : Int32))] [])) rfl (hb hby d_method_3_218)
  refine own_st (T' := T1) (g' := (mkF m 221 #[.val (.int (19 : Int32))] [(.ref w)])) (st1) ?_
  refine own_st (T' := T1) (g' := (mkF m 239 #[.val (.int (19 : Int32))] [(.ref w)])) (fun _ kq => XS.goto X1.here hx rfl (pc0 := 221) (pc' := 239) rfl (hb hby d_method_3_221) (by decide) (by decide) kq) ?_
  refine own_out X1 Bd.notSynchronized (v := (some (.ref w))) (fun h => by rw [Bd.returns] at h; cases h) (fun fs hr => own_retA X1 hx Bd.returns rfl rfl rfl (hb hby d_method_3_239) hr) ?_ (by decide) (by decide)
  rw [e1]
  exact ⟨rfl, N0, rfl⟩
theorem d_method_3_224 : decode method_3_code 224 = .ok (.getstatic 83, 3) := by decide +kernel
theorem d_method_3_227 : decode method_3_code 227 = .ok (.goto 12, 3) := by decide +kernel
theorem ef_k20 (m : MethodId) (x0 : Int32) : entryFrame m #[(.int x0)] 1 = mkF m 0 #[.val (.int x0)] [] := by first | (simp [entryFrame, mkF, argsToLocals, Value.category]; done) | rfl
def Qk20 (Z : State) (w : Addr) (h0 : Heap) (n0 : Nat) (v : Option Value) (h : Heap) (L : List Loc) : Prop := v = some (.ref w) ∧ Fr n0 L ∧ h = h0
set_option maxRecDepth 65536 in
set_option maxHeartbeats 40000000 in
theorem rmk20 (l : Launch) (Z : State) (a0 : Array Value) (hw : ∀ d ∈ tables_1, d.before a0 Z = true) (ws : List Jvm.Cond) (w : Addr) (h0 : Heap) (n0 : Nat) (O0 : Old Z n0 h0) (S : Sta Z Z.heap "com/example/table_rules/tablerules/engine/Function" "TO_DATE" "Lcom/example/table_rules/tablerules/engine/Function;" (.ref w)) :
    MetFree l (⟨"com/example/table_rules/tablerules/engine/FunctionTakesPinLaw", "constant", "(I)Lcom/example/table_rules/tablerules/engine/Function;"⟩ : MethodName) (head1 (Jvm.Cond.code (⟨"com/example/table_rules/tablerules/engine/FunctionTakesPinLaw", "constant", "(I)Lcom/example/table_rules/tablerules/engine/Function;"⟩ : MethodName) method_3_code 1 (some (.object "com/example/table_rules/tablerules/engine/Function")) :: ws) ({ frames := 0, cells := 0, slots := 0, locals := 0 } : Room)) (fun a U => a = #[(.int (20 : Int32))] ∧ Z.Warmed39 U.vm ∧ U.heap = h0) (fun _ _ _ _ _ => True) (fun _ U o U' => ∃ v L, o = .returned v ∧ Qk20 Z w h0 n0 v U'.heap L ∧ FrameEnd U o U' L ({ frames := 0, cells := 0, slots := 0, locals := 0 } : Room).cells ({ frames := 0, cells := 0, slots := 0, locals := 0 } : Room).slots) := by
  refine MetFree.of_bodySF (plainFor_of_name pn_com_example_table_rules_tablerules_engine_FunctionTakesPinLaw) hisR ?_
  intro p e s m args below meth c s₁ Bd hml0 hP hK
  obtain ⟨rfl, hZ, hh⟩ := hP
  have hx := Bd.exec
  have hby := Bd.bytes
  have hml : c.maxLocals = 1 := hml0
  have hown : s.vm.findClass "com/example/table_rules/tablerules/engine/FunctionTakesPinLaw" = some m.cls := findClass_of_methodNamed Bd.named
  have hnm := (name_of_methodNamed Bd.named Bd.method).1
  have X0 : Stand p l e ({ frames := 0, cells := 0, slots := 0, locals := 0 } : Room) s m #[(.int (20 : Int32))] below meth c s₁ [] 0 0 := Stand.of_body Bd
  have e0 : s₁.heap = h0 := by rw [← hh, Bd.state]; rfl
  have N0 := Fr.nil n0
  have hS0 : s.Since s.vm h0.size := State.WarmedH.since (State.WarmedH.refl s) _
  refine own_in (ef_k20 m (20 : Int32)) ?_
  refine own_st (T' := s₁) (g' := (mkF m 1 #[.val (.int (20 : Int32))] [(.int (20 : Int32))])) (fun _ kq => XS.iloadN X0.here hx rfl (hb hby d_method_3_0) rfl kq) ?_
  refine own_st (T' := s₁) (g' := (mkF m 224 #[.val (.int (20 : Int32))] [])) (fun _ kq => XS.tswIn X0.here hx rfl (pc0 := 1) (pc' := 224) rfl (hb hby d_method_3_1) rfl (by decide) (o := 223) rfl (by decide) (by decide) kq) ?_
  obtain ⟨T1, X1, e1, st1⟩ := getS2 X0 hx hZ hown (host := "") (Or.inl (hw _ (List.mem_of_getElem? (i := 108) rfl))) Via.refl e0 (S.ext O0.2) (g := (mkF m 224 #[.val (.int (20 : Int32))] [])) rfl (hb hby d_method_3_224)
  refine own_st (T' := T1) (g' := (mkF m 227 #[.val (.int (20 : Int32))] [(.ref w)])) (st1) ?_
  refine own_st (T' := T1) (g' := (mkF m 239 #[.val (.int (20 : Int32))] [(.ref w)])) (fun _ kq => XS.goto X1.here hx rfl (pc0 := 227) (pc' := 239) rfl (hb hby d_method_3_227) (by decide) (by decide) kq) ?_
  refine own_out X1 Bd.notSynchronized (v := (some (.ref w))) (fun h => by rw [Bd.returns] at h; cases h) (fun fs hr => own_retA X1 hx Bd.returns rfl rfl rfl (hb hby d_method_3_239) hr) ?_ (by decide) (by decide)
  rw [e1]
  exact ⟨rfl, N0, rfl⟩
theorem d_method_3_230 : decode method_3_code 230 = .ok (.getstatic 86, 3) := by decide +kernel
theorem d_method_3_233 : decode method_3_code 233 = .ok (.goto 6, 3) := by decide +kernel
theorem ef_k21 (m : MethodId) (x0 : Int32) : entryFrame m #[(.int x0)] 1 = mkF m 0 #[.val (.int x0)] [] := by first | (simp [entryFrame, mkF, argsToLocals, Value.category]; done) | rfl
def Qk21 (Z : State) (w : Addr) (h0 : Heap) (n0 : Nat) (v : Option Value) (h : Heap) (L : List Loc) : Prop := v = some (.ref w) ∧ Fr n0 L ∧ h = h0
set_option maxRecDepth 65536 in
set_option maxHeartbeats 40000000 in
theorem rmk21 (l : Launch) (Z : State) (a0 : Array Value) (hw : ∀ d ∈ tables_1, d.before a0 Z = true) (ws : List Jvm.Cond) (w : Addr) (h0 : Heap) (n0 : Nat) (O0 : Old Z n0 h0) (S : Sta Z Z.heap "com/example/table_rules/tablerules/engine/Function" "TO_NUMBER" "Lcom/example/table_rules/tablerules/engine/Function;" (.ref w)) :
    MetFree l (⟨"com/example/table_rules/tablerules/engine/FunctionTakesPinLaw", "constant", "(I)Lcom/example/table_rules/tablerules/engine/Function;"⟩ : MethodName) (head1 (Jvm.Cond.code (⟨"com/example/table_rules/tablerules/engine/FunctionTakesPinLaw", "constant", "(I)Lcom/example/table_rules/tablerules/engine/Function;"⟩ : MethodName) method_3_code 1 (some (.object "com/example/table_rules/tablerules/engine/Function")) :: ws) ({ frames := 0, cells := 0, slots := 0, locals := 0 } : Room)) (fun a U => a = #[(.int (21 : Int32))] ∧ Z.Warmed39 U.vm ∧ U.heap = h0) (fun _ _ _ _ _ => True) (fun _ U o U' => ∃ v L, o = .returned v ∧ Qk21 Z w h0 n0 v U'.heap L ∧ FrameEnd U o U' L ({ frames := 0, cells := 0, slots := 0, locals := 0 } : Room).cells ({ frames := 0, cells := 0, slots := 0, locals := 0 } : Room).slots) := by
  refine MetFree.of_bodySF (plainFor_of_name pn_com_example_table_rules_tablerules_engine_FunctionTakesPinLaw) hisR ?_
  intro p e s m args below meth c s₁ Bd hml0 hP hK
  obtain ⟨rfl, hZ, hh⟩ := hP
  have hx := Bd.exec
  have hby := Bd.bytes
  have hml : c.maxLocals = 1 := hml0
  have hown : s.vm.findClass "com/example/table_rules/tablerules/engine/FunctionTakesPinLaw" = some m.cls := findClass_of_methodNamed Bd.named
  have hnm := (name_of_methodNamed Bd.named Bd.method).1
  have X0 : Stand p l e ({ frames := 0, cells := 0, slots := 0, locals := 0 } : Room) s m #[(.int (21 : Int32))] below meth c s₁ [] 0 0 := Stand.of_body Bd
  have e0 : s₁.heap = h0 := by rw [← hh, Bd.state]; rfl
  have N0 := Fr.nil n0
  have hS0 : s.Since s.vm h0.size := State.WarmedH.since (State.WarmedH.refl s) _
  refine own_in (ef_k21 m (21 : Int32)) ?_
  refine own_st (T' := s₁) (g' := (mkF m 1 #[.val (.int (21 : Int32))] [(.int (21 : Int32))])) (fun _ kq => XS.iloadN X0.here hx rfl (hb hby d_method_3_0) rfl kq) ?_
  refine own_st (T' := s₁) (g' := (mkF m 230 #[.val (.int (21 : Int32))] [])) (fun _ kq => XS.tswIn X0.here hx rfl (pc0 := 1) (pc' := 230) rfl (hb hby d_method_3_1) rfl (by decide) (o := 229) rfl (by decide) (by decide) kq) ?_
  obtain ⟨T1, X1, e1, st1⟩ := getS2 X0 hx hZ hown (host := "") (Or.inl (hw _ (List.mem_of_getElem? (i := 59) rfl))) Via.refl e0 (S.ext O0.2) (g := (mkF m 230 #[.val (.int (21 : Int32))] [])) rfl (hb hby d_method_3_230)
  refine own_st (T' := T1) (g' := (mkF m 233 #[.val (.int (21 : Int32))] [(.ref w)])) (st1) ?_
  refine own_st (T' := T1) (g' := (mkF m 239 #[.val (.int (21 : Int32))] [(.ref w)])) (fun _ kq => XS.goto X1.here hx rfl (pc0 := 233) (pc' := 239) rfl (hb hby d_method_3_233) (by decide) (by decide) kq) ?_
  refine own_out X1 Bd.notSynchronized (v := (some (.ref w))) (fun h => by rw [Bd.returns] at h; cases h) (fun fs hr => own_retA X1 hx Bd.returns rfl rfl rfl (hb hby d_method_3_239) hr) ?_ (by decide) (by decide)
  rw [e1]
  exact ⟨rfl, N0, rfl⟩
theorem d_method_3_236 : decode method_3_code 236 = .ok (.getstatic 89, 3) := by decide +kernel
theorem ef_k22 (m : MethodId) (x0 : Int32) : entryFrame m #[(.int x0)] 1 = mkF m 0 #[.val (.int x0)] [] := by first | (simp [entryFrame, mkF, argsToLocals, Value.category]; done) | rfl
def Qk22 (Z : State) (w : Addr) (h0 : Heap) (n0 : Nat) (v : Option Value) (h : Heap) (L : List Loc) : Prop := v = some (.ref w) ∧ Fr n0 L ∧ h = h0
set_option maxRecDepth 65536 in
set_option maxHeartbeats 40000000 in
theorem rmk22 (l : Launch) (Z : State) (a0 : Array Value) (hw : ∀ d ∈ tables_1, d.before a0 Z = true) (ws : List Jvm.Cond) (w : Addr) (h0 : Heap) (n0 : Nat) (O0 : Old Z n0 h0) (S : Sta Z Z.heap "com/example/table_rules/tablerules/engine/Function" "MOD" "Lcom/example/table_rules/tablerules/engine/Function;" (.ref w)) :
    MetFree l (⟨"com/example/table_rules/tablerules/engine/FunctionTakesPinLaw", "constant", "(I)Lcom/example/table_rules/tablerules/engine/Function;"⟩ : MethodName) (head1 (Jvm.Cond.code (⟨"com/example/table_rules/tablerules/engine/FunctionTakesPinLaw", "constant", "(I)Lcom/example/table_rules/tablerules/engine/Function;"⟩ : MethodName) method_3_code 1 (some (.object "com/example/table_rules/tablerules/engine/Function")) :: ws) ({ frames := 0, cells := 0, slots := 0, locals := 0 } : Room)) (fun a U => a = #[(.int (22 : Int32))] ∧ Z.Warmed39 U.vm ∧ U.heap = h0) (fun _ _ _ _ _ => True) (fun _ U o U' => ∃ v L, o = .returned v ∧ Qk22 Z w h0 n0 v U'.heap L ∧ FrameEnd U o U' L ({ frames := 0, cells := 0, slots := 0, locals := 0 } : Room).cells ({ frames := 0, cells := 0, slots := 0, locals := 0 } : Room).slots) := by
  refine MetFree.of_bodySF (plainFor_of_name pn_com_example_table_rules_tablerules_engine_FunctionTakesPinLaw) hisR ?_
  intro p e s m args below meth c s₁ Bd hml0 hP hK
  obtain ⟨rfl, hZ, hh⟩ := hP
  have hx := Bd.exec
  have hby := Bd.bytes
  have hml : c.maxLocals = 1 := hml0
  have hown : s.vm.findClass "com/example/table_rules/tablerules/engine/FunctionTakesPinLaw" = some m.cls := findClass_of_methodNamed Bd.named
  have hnm := (name_of_methodNamed Bd.named Bd.method).1
  have X0 : Stand p l e ({ frames := 0, cells := 0, slots := 0, locals := 0 } : Room) s m #[(.int (22 : Int32))] below meth c s₁ [] 0 0 := Stand.of_body Bd
  have e0 : s₁.heap = h0 := by rw [← hh, Bd.state]; rfl
  have N0 := Fr.nil n0
  have hS0 : s.Since s.vm h0.size := State.WarmedH.since (State.WarmedH.refl s) _
  refine own_in (ef_k22 m (22 : Int32)) ?_
  refine own_st (T' := s₁) (g' := (mkF m 1 #[.val (.int (22 : Int32))] [(.int (22 : Int32))])) (fun _ kq => XS.iloadN X0.here hx rfl (hb hby d_method_3_0) rfl kq) ?_
  refine own_st (T' := s₁) (g' := (mkF m 236 #[.val (.int (22 : Int32))] [])) (fun _ kq => XS.tswOut X0.here hx rfl (pc0 := 1) (pc' := 236) rfl (hb hby d_method_3_1) rfl (by decide) (by decide) (by decide) kq) ?_
  obtain ⟨T1, X1, e1, st1⟩ := getS2 X0 hx hZ hown (host := "") (Or.inl (hw _ (List.mem_of_getElem? (i := 84) rfl))) Via.refl e0 (S.ext O0.2) (g := (mkF m 236 #[.val (.int (22 : Int32))] [])) rfl (hb hby d_method_3_236)
  refine own_st (T' := T1) (g' := (mkF m 239 #[.val (.int (22 : Int32))] [(.ref w)])) (st1) ?_
  refine own_out X1 Bd.notSynchronized (v := (some (.ref w))) (fun h => by rw [Bd.returns] at h; cases h) (fun fs hr => own_retA X1 hx Bd.returns rfl rfl rfl (hb hby d_method_3_239) hr) ?_ (by decide) (by decide)
  rw [e1]
  exact ⟨rfl, N0, rfl⟩
theorem d_prog_78_method_6_0 : decode prog_78_method_6_code 0 = .ok (.iload_n 1, 1) := by decide +kernel
theorem d_prog_78_method_6_1 : decode prog_78_method_6_code 1 = .ok (.aload_n 0, 1) := by decide +kernel
theorem d_prog_78_method_6_2 : decode prog_78_method_6_code 2 = .ok (.getfield 95, 3) := by decide +kernel
theorem d_prog_78_method_6_5 : decode prog_78_method_6_code 5 = .ok (.if_icmp .lt 15, 3) := by decide +kernel
theorem d_prog_78_method_6_20 : decode prog_78_method_6_code 20 = .ok (.iconst 0, 1) := by decide +kernel
theorem d_prog_78_method_6_21 : decode prog_78_method_6_code 21 = .ok (.ireturn, 1) := by decide +kernel
theorem d_prog_78_method_6_8 : decode prog_78_method_6_code 8 = .ok (.iload_n 1, 1) := by decide +kernel
theorem d_prog_78_method_6_9 : decode prog_78_method_6_code 9 = .ok (.aload_n 0, 1) := by decide +kernel
theorem d_prog_78_method_6_10 : decode prog_78_method_6_code 10 = .ok (.getfield 99, 3) := by decide +kernel
theorem d_prog_78_method_6_13 : decode prog_78_method_6_code 13 = .ok (.if_icmp .gt 7, 3) := by decide +kernel
theorem d_prog_78_method_6_16 : decode prog_78_method_6_code 16 = .ok (.iconst 1, 1) := by decide +kernel
theorem d_prog_78_method_6_17 : decode prog_78_method_6_code 17 = .ok (.goto 4, 3) := by decide +kernel
theorem ef_takes (m : MethodId) (x0 : Addr) (x1 : Int32) : entryFrame m #[(.ref x0), (.int x1)] 2 = mkF m 0 #[.val (.ref x0), .val (.int x1)] [] := by first | (simp [entryFrame, mkF, argsToLocals, Value.category]; done) | rfl
def Qtakes (Z : State) (a1 : Addr) (n lo hi : Int32) (h0 : Heap) (n0 : Nat) (v : Option Value) (h : Heap) (L : List Loc) : Prop := v = some (.int (own_takes n lo hi)) ∧ Fr n0 L ∧ h = h0
theorem pn_com_example_table_rules_tablerules_engine_Function : plainName "com/example/table_rules/tablerules/engine/Function" = true := by first | (simp [plainName, overriddenIn]; done) | decide +kernel
set_option maxRecDepth 65536 in
set_option maxHeartbeats 40000000 in
theorem rmtakes (l : Launch) (Z : State) (a0 : Array Value) (hw : ∀ d ∈ tables_1, d.before a0 Z = true) (ws : List Jvm.Cond) (a1 : Addr) (n lo hi : Int32) (h0 : Heap) (n0 : Nat) (O0 : Old Z n0 h0) (Fl : Fld Z h0 a1 "com/example/table_rules/tablerules/engine/Function" "minArguments" "I" (.int lo)) (Fh : Fld Z h0 a1 "com/example/table_rules/tablerules/engine/Function" "maxArguments" "I" (.int hi)) :
    MetFree l (⟨"com/example/table_rules/tablerules/engine/Function", "takes", "(I)Z"⟩ : MethodName) (head1 (Jvm.Cond.code (⟨"com/example/table_rules/tablerules/engine/Function", "takes", "(I)Z"⟩ : MethodName) prog_78_method_6_code 2 (some .boolean) :: ws) ({ frames := 0, cells := 0, slots := 0, locals := 0 } : Room)) (fun a U => a = #[(.ref a1), (.int n)] ∧ Z.Warmed39 U.vm ∧ U.heap = h0) (fun _ _ _ _ _ => True) (fun _ U o U' => ∃ v L, o = .returned v ∧ Qtakes Z a1 n lo hi h0 n0 v U'.heap L ∧ FrameEnd U o U' L ({ frames := 0, cells := 0, slots := 0, locals := 0 } : Room).cells ({ frames := 0, cells := 0, slots := 0, locals := 0 } : Room).slots) := by
  refine MetFree.of_bodySF (plainFor_of_name pn_com_example_table_rules_tablerules_engine_Function) hisR ?_
  intro p e s m args below meth c s₁ Bd hml0 hP hK
  obtain ⟨rfl, hZ, hh⟩ := hP
  have hx := Bd.exec
  have hby := Bd.bytes
  have hml : c.maxLocals = 2 := hml0
  have hown : s.vm.findClass "com/example/table_rules/tablerules/engine/Function" = some m.cls := findClass_of_methodNamed Bd.named
  have hnm := (name_of_methodNamed Bd.named Bd.method).1
  have X0 : Stand p l e ({ frames := 0, cells := 0, slots := 0, locals := 0 } : Room) s m #[(.ref a1), (.int n)] below meth c s₁ [] 0 0 := Stand.of_body Bd
  have e0 : s₁.heap = h0 := by rw [← hh, Bd.state]; rfl
  have N0 := Fr.nil n0
  have hS0 : s.Since s.vm h0.size := State.WarmedH.since (State.WarmedH.refl s) _
  refine own_in (ef_takes m a1 n) ?_
  refine own_st (T' := s₁) (g' := (mkF m 1 #[.val (.ref a1), .val (.int n)] [(.int n)])) (fun _ kq => XS.iloadN X0.here hx rfl (hb hby d_prog_78_method_6_0) rfl kq) ?_
  refine own_st (T' := s₁) (g' := (mkF m 2 #[.val (.ref a1), .val (.int n)] [(.ref a1), (.int n)])) (fun _ kq => XS.aloadN X0.here hx rfl (hb hby d_prog_78_method_6_1) rfl rfl kq) ?_
  obtain ⟨T1, X1, e1, st1⟩ := getF X0 hx hZ hown (host := "") (Or.inl (hw _ (List.mem_of_getElem? (i := 14) rfl))) Via.refl e0 Fl (g := (mkF m 2 #[.val (.ref a1), .val (.int n)] [(.ref a1), (.int n)])) rfl rfl (hb hby d_prog_78_method_6_2)
  refine own_st (T' := T1) (g' := (mkF m 5 #[.val (.ref a1), .val (.int n)] [(.int lo), (.int n)])) (st1) ?_
  by_cases h1 : n < lo
  · refine own_st (T' := T1) (g' := (mkF m 20 #[.val (.ref a1), .val (.int n)] [])) (fun _ kq => XS.icmpYes X1.here hx rfl (pc0 := 5) (pc' := 20) rfl (hb hby d_prog_78_method_6_5) rfl (tlt (h1 : n < lo)).1 (by decide) (by decide) kq) ?_
    refine own_st (T' := T1) (g' := (mkF m 21 #[.val (.ref a1), .val (.int n)] [(.int (0 : Int32))])) (fun _ kq => XS.iconst X1.here hx rfl (hb hby d_prog_78_method_6_20) kq) ?_
    refine own_out X1 Bd.notSynchronized (v := (some (.int (0 : Int32)))) (fun h => by rw [Bd.returns] at h; cases h) (fun fs hr => retN X1 hx (t := .boolean) Bd.returns (by simp) (hb hby d_prog_78_method_6_21) hr) ?_ (by decide) (by decide)
    rw [e1]
    exact ⟨by unfold own_takes; rw [if_pos h1], N0, rfl⟩
  · refine own_st (T' := T1) (g' := (mkF m 8 #[.val (.ref a1), .val (.int n)] [])) (fun _ kq => XS.icmpNo X1.here hx rfl (hb hby d_prog_78_method_6_5) rfl (flt (h1 : ¬ (n < lo))).1 kq) ?_
    refine own_st (T' := T1) (g' := (mkF m 9 #[.val (.ref a1), .val (.int n)] [(.int n)])) (fun _ kq => XS.iloadN X1.here hx rfl (hb hby d_prog_78_method_6_8) rfl kq) ?_
    refine own_st (T' := T1) (g' := (mkF m 10 #[.val (.ref a1), .val (.int n)] [(.ref a1), (.int n)])) (fun _ kq => XS.aloadN X1.here hx rfl (hb hby d_prog_78_method_6_9) rfl rfl kq) ?_
    obtain ⟨T2, X2, e2, st2⟩ := getF X1 hx hZ hown (host := "") (Or.inl (hw _ (List.mem_of_getElem? (i := 20) rfl))) Via.refl e1 Fh (g := (mkF m 10 #[.val (.ref a1), .val (.int n)] [(.ref a1), (.int n)])) rfl rfl (hb hby d_prog_78_method_6_10)
    refine own_st (T' := T2) (g' := (mkF m 13 #[.val (.ref a1), .val (.int n)] [(.int hi), (.int n)])) (st2) ?_
    by_cases h2 : hi < n
    · refine own_st (T' := T2) (g' := (mkF m 20 #[.val (.ref a1), .val (.int n)] [])) (fun _ kq => XS.icmpYes X2.here hx rfl (pc0 := 13) (pc' := 20) rfl (hb hby d_prog_78_method_6_13) rfl (tlt (h2 : hi < n)).2.2.1 (by decide) (by decide) kq) ?_
      refine own_st (T' := T2) (g' := (mkF m 21 #[.val (.ref a1), .val (.int n)] [(.int (0 : Int32))])) (fun _ kq => XS.iconst X2.here hx rfl (hb hby d_prog_78_method_6_20) kq) ?_
      refine own_out X2 Bd.notSynchronized (v := (some (.int (0 : Int32)))) (fun h => by rw [Bd.returns] at h; cases h) (fun fs hr => retN X2 hx (t := .boolean) Bd.returns (by simp) (hb hby d_prog_78_method_6_21) hr) ?_ (by decide) (by decide)
      rw [e2]
      exact ⟨by unfold own_takes; rw [if_neg h1, if_pos h2], N0, rfl⟩
    · refine own_st (T' := T2) (g' := (mkF m 16 #[.val (.ref a1), .val (.int n)] [])) (fun _ kq => XS.icmpNo X2.here hx rfl (hb hby d_prog_78_method_6_13) rfl (flt (h2 : ¬ (hi < n))).2.2.1 kq) ?_
      refine own_st (T' := T2) (g' := (mkF m 17 #[.val (.ref a1), .val (.int n)] [(.int (1 : Int32))])) (fun _ kq => XS.iconst X2.here hx rfl (hb hby d_prog_78_method_6_16) kq) ?_
      refine own_st (T' := T2) (g' := (mkF m 21 #[.val (.ref a1), .val (.int n)] [(.int (1 : Int32))])) (fun _ kq => XS.goto X2.here hx rfl (pc0 := 17) (pc' := 21) rfl (hb hby d_prog_78_method_6_17) (by decide) (by decide) kq) ?_
      refine own_out X2 Bd.notSynchronized (v := (some (.int (1 : Int32)))) (fun h => by rw [Bd.returns] at h; cases h) (fun fs hr => retN X2 hx (t := .boolean) Bd.returns (by simp) (hb hby d_prog_78_method_6_21) hr) ?_ (by decide) (by decide)
      rw [e2]
      exact ⟨by unfold own_takes; rw [if_neg h1, if_neg h2], N0, rfl⟩
theorem pd_I_Lcom_example_table_rules_tablerules_engine_Function_319 : parseMethodDescriptor "(I)Lcom/example/table_rules/tablerules/engine/Function;" = some ⟨[.int], some (.object "com/example/table_rules/tablerules/engine/Function")⟩ := by decide +kernel
theorem pd_I_Z_244 : parseMethodDescriptor "(I)Z" = some ⟨[.int], some .boolean⟩ := by decide +kernel
theorem ef_0 (m : MethodId) (x0 : Int32) (x1 : Int32) (x2 : Int32) : entryFrame m #[(.int x0), (.int x1), (.int x2)] maxLocals = mkF m 0 #[.val (.int x0), .val (.int x1), .val (.int x2), .unset, .unset, .unset, .unset, .unset, .unset] [] := by first | (simp [entryFrame, mkF, argsToLocals, Value.category, maxLocals]; done) | rfl
def Q0 (Z : State) (p1 p2 p3 : Int32) (w_INSTR w_LENGTH w_UPPER w_LOWER w_TRIM w_LTRIM w_RTRIM w_REPLACE w_LPAD w_RPAD w_SUBSTR w_ABS w_CEIL w_FLOOR w_SIGN w_ROUND w_TRUNC w_GREATEST w_LEAST w_TO_CHAR w_TO_DATE w_TO_NUMBER w_MOD : Addr) (h0 : Heap) (n0 : Nat) (v : Option Value) (h : Heap) (L : List Loc) : Prop := v = some (.int 1) ∧ Fr n0 L
set_option maxRecDepth 65536 in
set_option maxHeartbeats 40000000 in
theorem rm0 (l : Launch) (Z : State) (a0 : Array Value) (hw : ∀ d ∈ tables_1, d.before a0 Z = true) (ws : List Jvm.Cond) (p1 p2 p3 : Int32) (w_INSTR w_LENGTH w_UPPER w_LOWER w_TRIM w_LTRIM w_RTRIM w_REPLACE w_LPAD w_RPAD w_SUBSTR w_ABS w_CEIL w_FLOOR w_SIGN w_ROUND w_TRUNC w_GREATEST w_LEAST w_TO_CHAR w_TO_DATE w_TO_NUMBER w_MOD : Addr) (h0 : Heap) (n0 : Nat) (O0 : Old Z n0 h0) (S_INSTR : Sta Z Z.heap "com/example/table_rules/tablerules/engine/Function" "INSTR" "Lcom/example/table_rules/tablerules/engine/Function;" (.ref w_INSTR)) (E_INSTR : Exa Z Z.heap w_INSTR "com/example/table_rules/tablerules/engine/Function$1") (L_INSTR : Fld Z Z.heap w_INSTR "com/example/table_rules/tablerules/engine/Function" "minArguments" "I" (.int (2 : Int32))) (H_INSTR : Fld Z Z.heap w_INSTR "com/example/table_rules/tablerules/engine/Function" "maxArguments" "I" (.int (2 : Int32))) (S_LENGTH : Sta Z Z.heap "com/example/table_rules/tablerules/engine/Function" "LENGTH" "Lcom/example/table_rules/tablerules/engine/Function;" (.ref w_LENGTH)) (E_LENGTH : Exa Z Z.heap w_LENGTH "com/example/table_rules/tablerules/engine/Function$2") (L_LENGTH : Fld Z Z.heap w_LENGTH "com/example/table_rules/tablerules/engine/Function" "minArguments" "I" (.int (1 : Int32))) (H_LENGTH : Fld Z Z.heap w_LENGTH "com/example/table_rules/tablerules/engine/Function" "maxArguments" "I" (.int (1 : Int32))) (S_UPPER : Sta Z Z.heap "com/example/table_rules/tablerules/engine/Function" "UPPER" "Lcom/example/table_rules/tablerules/engine/Function;" (.ref w_UPPER)) (E_UPPER : Exa Z Z.heap w_UPPER "com/example/table_rules/tablerules/engine/Function$3") (L_UPPER : Fld Z Z.heap w_UPPER "com/example/table_rules/tablerules/engine/Function" "minArguments" "I" (.int (1 : Int32))) (H_UPPER : Fld Z Z.heap w_UPPER "com/example/table_rules/tablerules/engine/Function" "maxArguments" "I" (.int (1 : Int32))) (S_LOWER : Sta Z Z.heap "com/example/table_rules/tablerules/engine/Function" "LOWER" "Lcom/example/table_rules/tablerules/engine/Function;" (.ref w_LOWER)) (E_LOWER : Exa Z Z.heap w_LOWER "com/example/table_rules/tablerules/engine/Function$4") (L_LOWER : Fld Z Z.heap w_LOWER "com/example/table_rules/tablerules/engine/Function" "minArguments" "I" (.int (1 : Int32))) (H_LOWER : Fld Z Z.heap w_LOWER "com/example/table_rules/tablerules/engine/Function" "maxArguments" "I" (.int (1 : Int32))) (S_TRIM : Sta Z Z.heap "com/example/table_rules/tablerules/engine/Function" "TRIM" "Lcom/example/table_rules/tablerules/engine/Function;" (.ref w_TRIM)) (E_TRIM : Exa Z Z.heap w_TRIM "com/example/table_rules/tablerules/engine/Function$5") (L_TRIM : Fld Z Z.heap w_TRIM "com/example/table_rules/tablerules/engine/Function" "minArguments" "I" (.int (1 : Int32))) (H_TRIM : Fld Z Z.heap w_TRIM "com/example/table_rules/tablerules/engine/Function" "maxArguments" "I" (.int (1 : Int32))) (S_LTRIM : Sta Z Z.heap "com/example/table_rules/tablerules/engine/Function" "LTRIM" "Lcom/example/table_rules/tablerules/engine/Function;" (.ref w_LTRIM)) (E_LTRIM : Exa Z Z.heap w_LTRIM "com/example/table_rules/tablerules/engine/Function$6") (L_LTRIM : Fld Z Z.heap w_LTRIM "com/example/table_rules/tablerules/engine/Function" "minArguments" "I" (.int (1 : Int32))) (H_LTRIM : Fld Z Z.heap w_LTRIM "com/example/table_rules/tablerules/engine/Function" "maxArguments" "I" (.int (2 : Int32))) (S_RTRIM : Sta Z Z.heap "com/example/table_rules/tablerules/engine/Function" "RTRIM" "Lcom/example/table_rules/tablerules/engine/Function;" (.ref w_RTRIM)) (E_RTRIM : Exa Z Z.heap w_RTRIM "com/example/table_rules/tablerules/engine/Function$7") (L_RTRIM : Fld Z Z.heap w_RTRIM "com/example/table_rules/tablerules/engine/Function" "minArguments" "I" (.int (1 : Int32))) (H_RTRIM : Fld Z Z.heap w_RTRIM "com/example/table_rules/tablerules/engine/Function" "maxArguments" "I" (.int (2 : Int32))) (S_REPLACE : Sta Z Z.heap "com/example/table_rules/tablerules/engine/Function" "REPLACE" "Lcom/example/table_rules/tablerules/engine/Function;" (.ref w_REPLACE)) (E_REPLACE : Exa Z Z.heap w_REPLACE "com/example/table_rules/tablerules/engine/Function$8") (L_REPLACE : Fld Z Z.heap w_REPLACE "com/example/table_rules/tablerules/engine/Function" "minArguments" "I" (.int (2 : Int32))) (H_REPLACE : Fld Z Z.heap w_REPLACE "com/example/table_rules/tablerules/engine/Function" "maxArguments" "I" (.int (3 : Int32))) (S_LPAD : Sta Z Z.heap "com/example/table_rules/tablerules/engine/Function" "LPAD" "Lcom/example/table_rules/tablerules/engine/Function;" (.ref w_LPAD)) (E_LPAD : Exa Z Z.heap w_LPAD "com/example/table_rules/tablerules/engine/Function$9") (L_LPAD : Fld Z Z.heap w_LPAD "com/example/table_rules/tablerules/engine/Function" "minArguments" "I" (.int (2 : Int32))) (H_LPAD : Fld Z Z.heap w_LPAD "com/example/table_rules/tablerules/engine/Function" "maxArguments" "I" (.int (3 : Int32))) (S_RPAD : Sta Z Z.heap "com/example/table_rules/tablerules/engine/Function" "RPAD" "Lcom/example/table_rules/tablerules/engine/Function;" (.ref w_RPAD)) (E_RPAD : Exa Z Z.heap w_RPAD "com/example/table_rules/tablerules/engine/Function$10") (L_RPAD : Fld Z Z.heap w_RPAD "com/example/table_rules/tablerules/engine/Function" "minArguments" "I" (.int (2 : Int32))) (H_RPAD : Fld Z Z.heap w_RPAD "com/example/table_rules/tablerules/engine/Function" "maxArguments" "I" (.int (3 : Int32))) (S_SUBSTR : Sta Z Z.heap "com/example/table_rules/tablerules/engine/Function" "SUBSTR" "Lcom/example/table_rules/tablerules/engine/Function;" (.ref w_SUBSTR)) (E_SUBSTR : Exa Z Z.heap w_SUBSTR "com/example/table_rules/tablerules/engine/Function$11") (L_SUBSTR : Fld Z Z.heap w_SUBSTR "com/example/table_rules/tablerules/engine/Function" "minArguments" "I" (.int (2 : Int32))) (H_SUBSTR : Fld Z Z.heap w_SUBSTR "com/example/table_rules/tablerules/engine/Function" "maxArguments" "I" (.int (3 : Int32))) (S_ABS : Sta Z Z.heap "com/example/table_rules/tablerules/engine/Function" "ABS" "Lcom/example/table_rules/tablerules/engine/Function;" (.ref w_ABS)) (E_ABS : Exa Z Z.heap w_ABS "com/example/table_rules/tablerules/engine/Function$12") (L_ABS : Fld Z Z.heap w_ABS "com/example/table_rules/tablerules/engine/Function" "minArguments" "I" (.int (1 : Int32))) (H_ABS : Fld Z Z.heap w_ABS "com/example/table_rules/tablerules/engine/Function" "maxArguments" "I" (.int (1 : Int32))) (S_CEIL : Sta Z Z.heap "com/example/table_rules/tablerules/engine/Function" "CEIL" "Lcom/example/table_rules/tablerules/engine/Function;" (.ref w_CEIL)) (E_CEIL : Exa Z Z.heap w_CEIL "com/example/table_rules/tablerules/engine/Function$13") (L_CEIL : Fld Z Z.heap w_CEIL "com/example/table_rules/tablerules/engine/Function" "minArguments" "I" (.int (1 : Int32))) (H_CEIL : Fld Z Z.heap w_CEIL "com/example/table_rules/tablerules/engine/Function" "maxArguments" "I" (.int (1 : Int32))) (S_FLOOR : Sta Z Z.heap "com/example/table_rules/tablerules/engine/Function" "FLOOR" "Lcom/example/table_rules/tablerules/engine/Function;" (.ref w_FLOOR)) (E_FLOOR : Exa Z Z.heap w_FLOOR "com/example/table_rules/tablerules/engine/Function$14") (L_FLOOR : Fld Z Z.heap w_FLOOR "com/example/table_rules/tablerules/engine/Function" "minArguments" "I" (.int (1 : Int32))) (H_FLOOR : Fld Z Z.heap w_FLOOR "com/example/table_rules/tablerules/engine/Function" "maxArguments" "I" (.int (1 : Int32))) (S_SIGN : Sta Z Z.heap "com/example/table_rules/tablerules/engine/Function" "SIGN" "Lcom/example/table_rules/tablerules/engine/Function;" (.ref w_SIGN)) (E_SIGN : Exa Z Z.heap w_SIGN "com/example/table_rules/tablerules/engine/Function$15") (L_SIGN : Fld Z Z.heap w_SIGN "com/example/table_rules/tablerules/engine/Function" "minArguments" "I" (.int (1 : Int32))) (H_SIGN : Fld Z Z.heap w_SIGN "com/example/table_rules/tablerules/engine/Function" "maxArguments" "I" (.int (1 : Int32))) (S_ROUND : Sta Z Z.heap "com/example/table_rules/tablerules/engine/Function" "ROUND" "Lcom/example/table_rules/tablerules/engine/Function;" (.ref w_ROUND)) (E_ROUND : Exa Z Z.heap w_ROUND "com/example/table_rules/tablerules/engine/Function$16") (L_ROUND : Fld Z Z.heap w_ROUND "com/example/table_rules/tablerules/engine/Function" "minArguments" "I" (.int (1 : Int32))) (H_ROUND : Fld Z Z.heap w_ROUND "com/example/table_rules/tablerules/engine/Function" "maxArguments" "I" (.int (2 : Int32))) (S_TRUNC : Sta Z Z.heap "com/example/table_rules/tablerules/engine/Function" "TRUNC" "Lcom/example/table_rules/tablerules/engine/Function;" (.ref w_TRUNC)) (E_TRUNC : Exa Z Z.heap w_TRUNC "com/example/table_rules/tablerules/engine/Function$17") (L_TRUNC : Fld Z Z.heap w_TRUNC "com/example/table_rules/tablerules/engine/Function" "minArguments" "I" (.int (1 : Int32))) (H_TRUNC : Fld Z Z.heap w_TRUNC "com/example/table_rules/tablerules/engine/Function" "maxArguments" "I" (.int (2 : Int32))) (S_GREATEST : Sta Z Z.heap "com/example/table_rules/tablerules/engine/Function" "GREATEST" "Lcom/example/table_rules/tablerules/engine/Function;" (.ref w_GREATEST)) (E_GREATEST : Exa Z Z.heap w_GREATEST "com/example/table_rules/tablerules/engine/Function$18") (L_GREATEST : Fld Z Z.heap w_GREATEST "com/example/table_rules/tablerules/engine/Function" "minArguments" "I" (.int (1 : Int32))) (H_GREATEST : Fld Z Z.heap w_GREATEST "com/example/table_rules/tablerules/engine/Function" "maxArguments" "I" (.int (2147483647 : Int32))) (S_LEAST : Sta Z Z.heap "com/example/table_rules/tablerules/engine/Function" "LEAST" "Lcom/example/table_rules/tablerules/engine/Function;" (.ref w_LEAST)) (E_LEAST : Exa Z Z.heap w_LEAST "com/example/table_rules/tablerules/engine/Function$19") (L_LEAST : Fld Z Z.heap w_LEAST "com/example/table_rules/tablerules/engine/Function" "minArguments" "I" (.int (1 : Int32))) (H_LEAST : Fld Z Z.heap w_LEAST "com/example/table_rules/tablerules/engine/Function" "maxArguments" "I" (.int (2147483647 : Int32))) (S_TO_CHAR : Sta Z Z.heap "com/example/table_rules/tablerules/engine/Function" "TO_CHAR" "Lcom/example/table_rules/tablerules/engine/Function;" (.ref w_TO_CHAR)) (E_TO_CHAR : Exa Z Z.heap w_TO_CHAR "com/example/table_rules/tablerules/engine/Function$20") (L_TO_CHAR : Fld Z Z.heap w_TO_CHAR "com/example/table_rules/tablerules/engine/Function" "minArguments" "I" (.int (1 : Int32))) (H_TO_CHAR : Fld Z Z.heap w_TO_CHAR "com/example/table_rules/tablerules/engine/Function" "maxArguments" "I" (.int (2 : Int32))) (S_TO_DATE : Sta Z Z.heap "com/example/table_rules/tablerules/engine/Function" "TO_DATE" "Lcom/example/table_rules/tablerules/engine/Function;" (.ref w_TO_DATE)) (E_TO_DATE : Exa Z Z.heap w_TO_DATE "com/example/table_rules/tablerules/engine/Function$21") (L_TO_DATE : Fld Z Z.heap w_TO_DATE "com/example/table_rules/tablerules/engine/Function" "minArguments" "I" (.int (1 : Int32))) (H_TO_DATE : Fld Z Z.heap w_TO_DATE "com/example/table_rules/tablerules/engine/Function" "maxArguments" "I" (.int (2 : Int32))) (S_TO_NUMBER : Sta Z Z.heap "com/example/table_rules/tablerules/engine/Function" "TO_NUMBER" "Lcom/example/table_rules/tablerules/engine/Function;" (.ref w_TO_NUMBER)) (E_TO_NUMBER : Exa Z Z.heap w_TO_NUMBER "com/example/table_rules/tablerules/engine/Function$22") (L_TO_NUMBER : Fld Z Z.heap w_TO_NUMBER "com/example/table_rules/tablerules/engine/Function" "minArguments" "I" (.int (1 : Int32))) (H_TO_NUMBER : Fld Z Z.heap w_TO_NUMBER "com/example/table_rules/tablerules/engine/Function" "maxArguments" "I" (.int (2 : Int32))) (S_MOD : Sta Z Z.heap "com/example/table_rules/tablerules/engine/Function" "MOD" "Lcom/example/table_rules/tablerules/engine/Function;" (.ref w_MOD)) (E_MOD : Exa Z Z.heap w_MOD "com/example/table_rules/tablerules/engine/Function$23") (L_MOD : Fld Z Z.heap w_MOD "com/example/table_rules/tablerules/engine/Function" "minArguments" "I" (.int (2 : Int32))) (H_MOD : Fld Z Z.heap w_MOD "com/example/table_rules/tablerules/engine/Function" "maxArguments" "I" (.int (2 : Int32))) :
    MetFree l x (head1 (Jvm.Cond.code x code maxLocals ret :: ws) room_1) (fun a U => a = #[(.int p1), (.int p2), (.int p3)] ∧ Z.Warmed39 U.vm ∧ U.heap = h0) (fun _ _ _ _ _ => True) (fun _ U o U' => ∃ v L, o = .returned v ∧ Q0 Z p1 p2 p3 w_INSTR w_LENGTH w_UPPER w_LOWER w_TRIM w_LTRIM w_RTRIM w_REPLACE w_LPAD w_RPAD w_SUBSTR w_ABS w_CEIL w_FLOOR w_SIGN w_ROUND w_TRUNC w_GREATEST w_LEAST w_TO_CHAR w_TO_DATE w_TO_NUMBER w_MOD h0 n0 v U'.heap L ∧ FrameEnd U o U' L room_1.cells room_1.slots) := by
  refine MetFree.of_bodySF (plainFor_of_name pn_com_example_table_rules_tablerules_engine_FunctionTakesPinLaw) hisR ?_
  intro p e s m args below meth c s₁ Bd hml0 hP hK
  obtain ⟨rfl, hZ, hh⟩ := hP
  have hx := Bd.exec
  have hby := Bd.bytes
  have hml : c.maxLocals = 9 := hml0
  have hown : s.vm.findClass "com/example/table_rules/tablerules/engine/FunctionTakesPinLaw" = some m.cls := findClass_of_methodNamed Bd.named
  have hnm := (name_of_methodNamed Bd.named Bd.method).1
  have X0 : Stand p l e room_1 s m #[(.int p1), (.int p2), (.int p3)] below meth c s₁ [] 0 0 := Stand.of_body Bd
  have e0 : s₁.heap = h0 := by rw [← hh, Bd.state]; rfl
  have N0 := Fr.nil n0
  have hS0 : s.Since s.vm h0.size := State.WarmedH.since (State.WarmedH.refl s) _
  refine own_in (ef_0 m p1 p2 p3) ?_
  have hq := own_rng p1
  refine own_st (T' := s₁) (g' := (mkF m 1 #[.val (.int p1), .val (.int p2), .val (.int p3), .unset, .unset, .unset, .unset, .unset, .unset] [(.int p1)])) (fun _ kq => XS.iloadN X0.here hx rfl (hb hby at_0) rfl kq) ?_
  refine own_st (T' := s₁) (g' := (mkF m 3 #[.val (.int p1), .val (.int p2), .val (.int p3), .unset, .unset, .unset, .unset, .unset, .unset] [(.int (2147483647 : Int32)), (.int p1)])) (X0.ldcInt hx hown (mvT hZ (hw _ (List.mem_of_getElem? (i := 0) rfl))) (g := (mkF m 1 #[.val (.int p1), .val (.int p2), .val (.int p3), .unset, .unset, .unset, .unset, .unset, .unset] [(.int p1)])) rfl (hb hby at_1)) ?_
  refine own_st (T' := s₁) (g' := (mkF m 4 #[.val (.int p1), .val (.int p2), .val (.int p3), .unset, .unset, .unset, .unset, .unset, .unset] [(.int (p1 &&& (2147483647 : Int32)))])) (fun _ kq => XS.iand X0.here hx rfl (hb hby at_3) rfl kq) ?_
  refine own_st (T' := s₁) (g' := (mkF m 6 #[.val (.int p1), .val (.int p2), .val (.int p3), .unset, .unset, .unset, .unset, .unset, .unset] [(.int (23 : Int32)), (.int (p1 &&& (2147483647 : Int32)))])) (fun _ kq => XS.bipush X0.here hx rfl (hb hby at_4) kq) ?_
  refine own_st (T' := s₁) (g' := (mkF m 7 #[.val (.int p1), .val (.int p2), .val (.int p3), .unset, .unset, .unset, .unset, .unset, .unset] [(.int ((p1 &&& (2147483647 : Int32)) % (23 : Int32)))])) (fun _ kq => iremM X0 hx rfl (hb hby at_6) rfl (by decide) kq) ?_
  refine own_st (T' := s₁) (g' := (mkF m 8 #[.val (.int p1), .val (.int p2), .val (.int p3), .val (.int ((p1 &&& (2147483647 : Int32)) % (23 : Int32))), .unset, .unset, .unset, .unset, .unset] [])) (fun _ kq => XS.istoreN X0.here hx rfl (hb hby at_7) rfl (l' := #[.val (.int p1), .val (.int p2), .val (.int p3), .val (.int ((p1 &&& (2147483647 : Int32)) % (23 : Int32))), .unset, .unset, .unset, .unset, .unset]) rfl kq) ?_
  generalize ((p1 &&& (2147483647 : Int32)) % (23 : Int32)) = q at hq ⊢
  obtain ⟨h0', h1'⟩ := hq
  refine own_st (T' := s₁) (g' := (mkF m 9 #[.val (.int p1), .val (.int p2), .val (.int p3), .val (.int q), .unset, .unset, .unset, .unset, .unset] [(.int p3)])) (fun _ kq => XS.iloadN X0.here hx rfl (hb hby at_8) rfl kq) ?_
  refine own_st (T' := s₁) (g' := (mkF m 10 #[.val (.int p1), .val (.int p2), .val (.int p3), .val (.int q), .unset, .unset, .unset, .unset, .unset] [(.int (1 : Int32)), (.int p3)])) (fun _ kq => XS.iconst X0.here hx rfl (hb hby at_9) kq) ?_
  refine own_st (T' := s₁) (g' := (mkF m 11 #[.val (.int p1), .val (.int p2), .val (.int p3), .val (.int q), .unset, .unset, .unset, .unset, .unset] [(.int (p3 &&& (1 : Int32)))])) (fun _ kq => XS.iand X0.here hx rfl (hb hby at_10) rfl kq) ?_
  suffices hj : own_Go p e below (fun s₂ o => ∃ v L, o = .returned v ∧ Q0 Z p1 p2 p3 w_INSTR w_LENGTH w_UPPER w_LOWER w_TRIM w_LTRIM w_RTRIM w_REPLACE w_LPAD w_RPAD w_SUBSTR w_ABS w_CEIL w_FLOOR w_SIGN w_ROUND w_TRUNC w_GREATEST w_LEAST w_TO_CHAR w_TO_DATE w_TO_NUMBER w_MOD h0 n0 v s₂.heap L ∧ FrameEnd s o s₂ L room_1.cells room_1.slots) s₁ (mkF m 24 #[.val (.int p1), .val (.int p2), .val (.int p3), .val (.int q), .unset, .unset, .unset, .unset, .unset] [(.int (if (p3 &&& (1 : Int32)) = (0 : Int32) then ((p2 &&& (7 : Int32)) - (2 : Int32)) else p2))]) by
    by_cases hc11_1 : (p3 &&& (1 : Int32)) = (0 : Int32)
    · simp only [if_pos hc11_1] at hj
      refine own_st (T' := s₁) (g' := (mkF m 18 #[.val (.int p1), .val (.int p2), .val (.int p3), .val (.int q), .unset, .unset, .unset, .unset, .unset] [])) (fun _ kq => XS.ifYes X0.here hx rfl (pc0 := 11) (pc' := 18) rfl (hb hby at_11) rfl ((if0 _ _).trans (teq (hc11_1 : (p3 &&& (1 : Int32)) = (0 : Int32))).1) (by decide) (by decide) kq) ?_
      refine own_st (T' := s₁) (g' := (mkF m 19 #[.val (.int p1), .val (.int p2), .val (.int p3), .val (.int q), .unset, .unset, .unset, .unset, .unset] [(.int p2)])) (fun _ kq => XS.iloadN X0.here hx rfl (hb hby at_18) rfl kq) ?_
      refine own_st (T' := s₁) (g' := (mkF m 21 #[.val (.int p1), .val (.int p2), .val (.int p3), .val (.int q), .unset, .unset, .unset, .unset, .unset] [(.int (7 : Int32)), (.int p2)])) (fun _ kq => XS.bipush X0.here hx rfl (hb hby at_19) kq) ?_
      refine own_st (T' := s₁) (g' := (mkF m 22 #[.val (.int p1), .val (.int p2), .val (.int p3), .val (.int q), .unset, .unset, .unset, .unset, .unset] [(.int (p2 &&& (7 : Int32)))])) (fun _ kq => XS.iand X0.here hx rfl (hb hby at_21) rfl kq) ?_
      refine own_st (T' := s₁) (g' := (mkF m 23 #[.val (.int p1), .val (.int p2), .val (.int p3), .val (.int q), .unset, .unset, .unset, .unset, .unset] [(.int (2 : Int32)), (.int (p2 &&& (7 : Int32)))])) (fun _ kq => XS.iconst X0.here hx rfl (hb hby at_22) kq) ?_
      refine own_st (T' := s₁) (g' := (mkF m 24 #[.val (.int p1), .val (.int p2), .val (.int p3), .val (.int q), .unset, .unset, .unset, .unset, .unset] [(.int ((p2 &&& (7 : Int32)) - (2 : Int32)))])) (fun _ kq => XS.isub X0.here hx rfl (hb hby at_23) rfl kq) ?_
      exact hj
    · simp only [if_neg hc11_1] at hj
      refine own_st (T' := s₁) (g' := (mkF m 14 #[.val (.int p1), .val (.int p2), .val (.int p3), .val (.int q), .unset, .unset, .unset, .unset, .unset] [])) (fun _ kq => XS.ifNo X0.here hx rfl (hb hby at_11) rfl ((if0 _ _).trans (feq (hc11_1 : ¬ ((p3 &&& (1 : Int32)) = (0 : Int32)))).1) kq) ?_
      refine own_st (T' := s₁) (g' := (mkF m 15 #[.val (.int p1), .val (.int p2), .val (.int p3), .val (.int q), .unset, .unset, .unset, .unset, .unset] [(.int p2)])) (fun _ kq => XS.iloadN X0.here hx rfl (hb hby at_14) rfl kq) ?_
      refine own_st (T' := s₁) (g' := (mkF m 24 #[.val (.int p1), .val (.int p2), .val (.int p3), .val (.int q), .unset, .unset, .unset, .unset, .unset] [(.int p2)])) (fun _ kq => XS.goto X0.here hx rfl (pc0 := 15) (pc' := 24) rfl (hb hby at_15) (by decide) (by decide) kq) ?_
      exact hj
  generalize (if (p3 &&& (1 : Int32)) = (0 : Int32) then ((p2 &&& (7 : Int32)) - (2 : Int32)) else p2) = nn
  refine own_st (T' := s₁) (g' := (mkF m 26 #[.val (.int p1), .val (.int p2), .val (.int p3), .val (.int q), .val (.int nn), .unset, .unset, .unset, .unset] [])) (fun _ kq => XS.istore X0.here hx rfl (hb hby at_24) rfl (l' := #[.val (.int p1), .val (.int p2), .val (.int p3), .val (.int q), .val (.int nn), .unset, .unset, .unset, .unset]) rfl kq) ?_
  refine own_st (T' := s₁) (g' := (mkF m 28 #[.val (.int p1), .val (.int p2), .val (.int p3), .val (.int q), .val (.int nn), .unset, .unset, .unset, .unset] [(.int (2147483647 : Int32))])) (X0.ldcInt hx hown (mvT hZ (hw _ (List.mem_of_getElem? (i := 0) rfl))) (g := (mkF m 26 #[.val (.int p1), .val (.int p2), .val (.int p3), .val (.int q), .val (.int nn), .unset, .unset, .unset, .unset] [])) rfl (hb hby at_26)) ?_
  refine own_st (T' := s₁) (g' := (mkF m 30 #[.val (.int p1), .val (.int p2), .val (.int p3), .val (.int q), .val (.int nn), .val (.int (2147483647 : Int32)), .unset, .unset, .unset] [])) (fun _ kq => XS.istore X0.here hx rfl (hb hby at_28) rfl (l' := #[.val (.int p1), .val (.int p2), .val (.int p3), .val (.int q), .val (.int nn), .val (.int (2147483647 : Int32)), .unset, .unset, .unset]) rfl kq) ?_
  refine own_st (T' := s₁) (g' := (mkF m 32 #[.val (.int p1), .val (.int p2), .val (.int p3), .val (.int q), .val (.int nn), .val (.int (2147483647 : Int32)), .unset, .unset, .unset] [(.int (23 : Int32))])) (fun _ kq => XS.bipush X0.here hx rfl (hb hby at_30) kq) ?_
  obtain ⟨T2, h2, k2, X2, e2, E2, A2, Ax2, st2⟩ := newPE X0 hx hZ (hw _ (List.mem_of_getElem? (i := 1) rfl)) e0 (g := (mkF m 32 #[.val (.int p1), .val (.int p2), .val (.int p3), .val (.int q), .val (.int nn), .val (.int (2147483647 : Int32)), .unset, .unset, .unset] [(.int (23 : Int32))])) rfl (hb hby at_32) rfl (by decide) (cap := 23) (by decide) (by decide) (by decide) (by decide) (ad := "[I") rfl
  obtain ⟨b2, g2⟩ : ∃ z, z = h0.size := ⟨_, rfl⟩
  rw [← g2] at A2 Ax2 st2
  have g_b2 : n0 ≤ b2 := Nat.le_trans (own_old O0) (Nat.le_of_eq g2.symm)
  have sz_b2 : h0.size ≤ b2 := Nat.le_trans (Keep.refl h0 []).1 (Nat.le_of_eq g2.symm)
  have V2 : Arv Z h2 b2 k2 .int (23 : Int32) [(.int (0 : Int32)), (.int (0 : Int32)), (.int (0 : Int32)), (.int (0 : Int32)), (.int (0 : Int32)), (.int (0 : Int32)), (.int (0 : Int32)), (.int (0 : Int32)), (.int (0 : Int32)), (.int (0 : Int32)), (.int (0 : Int32)), (.int (0 : Int32)), (.int (0 : Int32)), (.int (0 : Int32)), (.int (0 : Int32)), (.int (0 : Int32)), (.int (0 : Int32)), (.int (0 : Int32)), (.int (0 : Int32)), (.int (0 : Int32)), (.int (0 : Int32)), (.int (0 : Int32)), (.int (0 : Int32))] (.int (0 : Int32)) := (Arv.new A2 (by decide)).pad (pad_rep [] (.int (0 : Int32)) 23)
  refine own_st (T' := T2) (g' := (mkF m 34 #[.val (.int p1), .val (.int p2), .val (.int p3), .val (.int q), .val (.int nn), .val (.int (2147483647 : Int32)), .unset, .unset, .unset] [(.ref b2)])) (st2) ?_
  refine own_st (T' := T2) (g' := (mkF m 35 #[.val (.int p1), .val (.int p2), .val (.int p3), .val (.int q), .val (.int nn), .val (.int (2147483647 : Int32)), .unset, .unset, .unset] [(.ref b2), (.ref b2)])) (fun _ kq => XS.dup X2.here hx rfl (hb hby at_34) rfl rfl kq) ?_
  refine own_st (T' := T2) (g' := (mkF m 36 #[.val (.int p1), .val (.int p2), .val (.int p3), .val (.int q), .val (.int nn), .val (.int (2147483647 : Int32)), .unset, .unset, .unset] [(.int (0 : Int32)), (.ref b2), (.ref b2)])) (fun _ kq => XS.iconst X2.here hx rfl (hb hby at_35) kq) ?_
  refine own_st (T' := T2) (g' := (mkF m 37 #[.val (.int p1), .val (.int p2), .val (.int p3), .val (.int q), .val (.int nn), .val (.int (2147483647 : Int32)), .unset, .unset, .unset] [(.int (2 : Int32)), (.int (0 : Int32)), (.ref b2), (.ref b2)])) (fun _ kq => XS.iconst X2.here hx rfl (hb hby at_36) kq) ?_
  obtain ⟨cl3, Ar3, q3, S3, Nn3, H3, G3⟩ := id V2
  have hin4 : ¬ ((0 : Int32) < 0 ∨ cl3.slots.size ≤ ((0 : Int32)).toNatClampNeg) := inb_of S3 ⟨by decide, by decide⟩
  obtain ⟨T4, h4, X4, e4, W4, st4⟩ := stI X2 hx hZ e2 Ar3 (j := (0 : Int32)) hin4 (g := (mkF m 37 #[.val (.int p1), .val (.int p2), .val (.int p3), .val (.int q), .val (.int nn), .val (.int (2147483647 : Int32)), .unset, .unset, .unset] [(.int (2 : Int32)), (.int (0 : Int32)), (.ref b2), (.ref b2)])) rfl rfl (hb hby at_37)
  have V4 : Arv Z h4 b2 k2 .int (23 : Int32) [(.int (2 : Int32)), (.int (0 : Int32)), (.int (0 : Int32)), (.int (0 : Int32)), (.int (0 : Int32)), (.int (0 : Int32)), (.int (0 : Int32)), (.int (0 : Int32)), (.int (0 : Int32)), (.int (0 : Int32)), (.int (0 : Int32)), (.int (0 : Int32)), (.int (0 : Int32)), (.int (0 : Int32)), (.int (0 : Int32)), (.int (0 : Int32)), (.int (0 : Int32)), (.int (0 : Int32)), (.int (0 : Int32)), (.int (0 : Int32)), (.int (0 : Int32)), (.int (0 : Int32)), (.int (0 : Int32))] (.int (0 : Int32)) := Arv.set Ar3 q3 S3 Nn3 H3 G3 rfl W4 0 rfl (Nat.le_of_ble_eq_true rfl)
  have N5 := Fr.snoc X4 N0 g_b2
  refine own_st (T' := T4) (g' := (mkF m 38 #[.val (.int p1), .val (.int p2), .val (.int p3), .val (.int q), .val (.int nn), .val (.int (2147483647 : Int32)), .unset, .unset, .unset] [(.ref b2)])) (st4) ?_
  refine own_st (T' := T4) (g' := (mkF m 39 #[.val (.int p1), .val (.int p2), .val (.int p3), .val (.int q), .val (.int nn), .val (.int (2147483647 : Int32)), .unset, .unset, .unset] [(.ref b2), (.ref b2)])) (fun _ kq => XS.dup X4.here hx rfl (hb hby at_38) rfl rfl kq) ?_
  refine own_st (T' := T4) (g' := (mkF m 40 #[.val (.int p1), .val (.int p2), .val (.int p3), .val (.int q), .val (.int nn), .val (.int (2147483647 : Int32)), .unset, .unset, .unset] [(.int (1 : Int32)), (.ref b2), (.ref b2)])) (fun _ kq => XS.iconst X4.here hx rfl (hb hby at_39) kq) ?_
  refine own_st (T' := T4) (g' := (mkF m 41 #[.val (.int p1), .val (.int p2), .val (.int p3), .val (.int q), .val (.int nn), .val (.int (2147483647 : Int32)), .unset, .unset, .unset] [(.int (1 : Int32)), (.int (1 : Int32)), (.ref b2), (.ref b2)])) (fun _ kq => XS.iconst X4.here hx rfl (hb hby at_40) kq) ?_
  obtain ⟨cl6, Ar6, q6, S6, Nn6, H6, G6⟩ := id V4
  have hin7 : ¬ ((1 : Int32) < 0 ∨ cl6.slots.size ≤ ((1 : Int32)).toNatClampNeg) := inb_of S6 ⟨by decide, by decide⟩
  obtain ⟨T7, h7, X7, e7, W7, st7⟩ := stI X4 hx hZ e4 Ar6 (j := (1 : Int32)) hin7 (g := (mkF m 41 #[.val (.int p1), .val (.int p2), .val (.int p3), .val (.int q), .val (.int nn), .val (.int (2147483647 : Int32)), .unset, .unset, .unset] [(.int (1 : Int32)), (.int (1 : Int32)), (.ref b2), (.ref b2)])) rfl rfl (hb hby at_41)
  have V7 : Arv Z h7 b2 k2 .int (23 : Int32) [(.int (2 : Int32)), (.int (1 : Int32)), (.int (0 : Int32)), (.int (0 : Int32)), (.int (0 : Int32)), (.int (0 : Int32)), (.int (0 : Int32)), (.int (0 : Int32)), (.int (0 : Int32)), (.int (0 : Int32)), (.int (0 : Int32)), (.int (0 : Int32)), (.int (0 : Int32)), (.int (0 : Int32)), (.int (0 : Int32)), (.int (0 : Int32)), (.int (0 : Int32)), (.int (0 : Int32)), (.int (0 : Int32)), (.int (0 : Int32)), (.int (0 : Int32)), (.int (0 : Int32)), (.int (0 : Int32))] (.int (0 : Int32)) := Arv.set Ar6 q6 S6 Nn6 H6 G6 rfl W7 1 rfl (Nat.le_of_ble_eq_true rfl)
  have N8 := Fr.snoc X7 N5 g_b2
  refine own_st (T' := T7) (g' := (mkF m 42 #[.val (.int p1), .val (.int p2), .val (.int p3), .val (.int q), .val (.int nn), .val (.int (2147483647 : Int32)), .unset, .unset, .unset] [(.ref b2)])) (st7) ?_
  refine own_st (T' := T7) (g' := (mkF m 43 #[.val (.int p1), .val (.int p2), .val (.int p3), .val (.int q), .val (.int nn), .val (.int (2147483647 : Int32)), .unset, .unset, .unset] [(.ref b2), (.ref b2)])) (fun _ kq => XS.dup X7.here hx rfl (hb hby at_42) rfl rfl kq) ?_
  refine own_st (T' := T7) (g' := (mkF m 44 #[.val (.int p1), .val (.int p2), .val (.int p3), .val (.int q), .val (.int nn), .val (.int (2147483647 : Int32)), .unset, .unset, .unset] [(.int (2 : Int32)), (.ref b2), (.ref b2)])) (fun _ kq => XS.iconst X7.here hx rfl (hb hby at_43) kq) ?_
  refine own_st (T' := T7) (g' := (mkF m 45 #[.val (.int p1), .val (.int p2), .val (.int p3), .val (.int q), .val (.int nn), .val (.int (2147483647 : Int32)), .unset, .unset, .unset] [(.int (1 : Int32)), (.int (2 : Int32)), (.ref b2), (.ref b2)])) (fun _ kq => XS.iconst X7.here hx rfl (hb hby at_44) kq) ?_
  obtain ⟨cl9, Ar9, q9, S9, Nn9, H9, G9⟩ := id V7
  have hin10 : ¬ ((2 : Int32) < 0 ∨ cl9.slots.size ≤ ((2 : Int32)).toNatClampNeg) := inb_of S9 ⟨by decide, by decide⟩
  obtain ⟨T10, h10, X10, e10, W10, st10⟩ := stI X7 hx hZ e7 Ar9 (j := (2 : Int32)) hin10 (g := (mkF m 45 #[.val (.int p1), .val (.int p2), .val (.int p3), .val (.int q), .val (.int nn), .val (.int (2147483647 : Int32)), .unset, .unset, .unset] [(.int (1 : Int32)), (.int (2 : Int32)), (.ref b2), (.ref b2)])) rfl rfl (hb hby at_45)
  have V10 : Arv Z h10 b2 k2 .int (23 : Int32) [(.int (2 : Int32)), (.int (1 : Int32)), (.int (1 : Int32)), (.int (0 : Int32)), (.int (0 : Int32)), (.int (0 : Int32)), (.int (0 : Int32)), (.int (0 : Int32)), (.int (0 : Int32)), (.int (0 : Int32)), (.int (0 : Int32)), (.int (0 : Int32)), (.int (0 : Int32)), (.int (0 : Int32)), (.int (0 : Int32)), (.int (0 : Int32)), (.int (0 : Int32)), (.int (0 : Int32)), (.int (0 : Int32)), (.int (0 : Int32)), (.int (0 : Int32)), (.int (0 : Int32)), (.int (0 : Int32))] (.int (0 : Int32)) := Arv.set Ar9 q9 S9 Nn9 H9 G9 rfl W10 2 rfl (Nat.le_of_ble_eq_true rfl)
  have N11 := Fr.snoc X10 N8 g_b2
  refine own_st (T' := T10) (g' := (mkF m 46 #[.val (.int p1), .val (.int p2), .val (.int p3), .val (.int q), .val (.int nn), .val (.int (2147483647 : Int32)), .unset, .unset, .unset] [(.ref b2)])) (st10) ?_
  refine own_st (T' := T10) (g' := (mkF m 47 #[.val (.int p1), .val (.int p2), .val (.int p3), .val (.int q), .val (.int nn), .val (.int (2147483647 : Int32)), .unset, .unset, .unset] [(.ref b2), (.ref b2)])) (fun _ kq => XS.dup X10.here hx rfl (hb hby at_46) rfl rfl kq) ?_
  refine own_st (T' := T10) (g' := (mkF m 48 #[.val (.int p1), .val (.int p2), .val (.int p3), .val (.int q), .val (.int nn), .val (.int (2147483647 : Int32)), .unset, .unset, .unset] [(.int (3 : Int32)), (.ref b2), (.ref b2)])) (fun _ kq => XS.iconst X10.here hx rfl (hb hby at_47) kq) ?_
  refine own_st (T' := T10) (g' := (mkF m 49 #[.val (.int p1), .val (.int p2), .val (.int p3), .val (.int q), .val (.int nn), .val (.int (2147483647 : Int32)), .unset, .unset, .unset] [(.int (1 : Int32)), (.int (3 : Int32)), (.ref b2), (.ref b2)])) (fun _ kq => XS.iconst X10.here hx rfl (hb hby at_48) kq) ?_
  obtain ⟨cl12, Ar12, q12, S12, Nn12, H12, G12⟩ := id V10
  have hin13 : ¬ ((3 : Int32) < 0 ∨ cl12.slots.size ≤ ((3 : Int32)).toNatClampNeg) := inb_of S12 ⟨by decide, by decide⟩
  obtain ⟨T13, h13, X13, e13, W13, st13⟩ := stI X10 hx hZ e10 Ar12 (j := (3 : Int32)) hin13 (g := (mkF m 49 #[.val (.int p1), .val (.int p2), .val (.int p3), .val (.int q), .val (.int nn), .val (.int (2147483647 : Int32)), .unset, .unset, .unset] [(.int (1 : Int32)), (.int (3 : Int32)), (.ref b2), (.ref b2)])) rfl rfl (hb hby at_49)
  have V13 : Arv Z h13 b2 k2 .int (23 : Int32) [(.int (2 : Int32)), (.int (1 : Int32)), (.int (1 : Int32)), (.int (1 : Int32)), (.int (0 : Int32)), (.int (0 : Int32)), (.int (0 : Int32)), (.int (0 : Int32)), (.int (0 : Int32)), (.int (0 : Int32)), (.int (0 : Int32)), (.int (0 : Int32)), (.int (0 : Int32)), (.int (0 : Int32)), (.int (0 : Int32)), (.int (0 : Int32)), (.int (0 : Int32)), (.int (0 : Int32)), (.int (0 : Int32)), (.int (0 : Int32)), (.int (0 : Int32)), (.int (0 : Int32)), (.int (0 : Int32))] (.int (0 : Int32)) := Arv.set Ar12 q12 S12 Nn12 H12 G12 rfl W13 3 rfl (Nat.le_of_ble_eq_true rfl)
  have N14 := Fr.snoc X13 N11 g_b2
  refine own_st (T' := T13) (g' := (mkF m 50 #[.val (.int p1), .val (.int p2), .val (.int p3), .val (.int q), .val (.int nn), .val (.int (2147483647 : Int32)), .unset, .unset, .unset] [(.ref b2)])) (st13) ?_
  refine own_st (T' := T13) (g' := (mkF m 51 #[.val (.int p1), .val (.int p2), .val (.int p3), .val (.int q), .val (.int nn), .val (.int (2147483647 : Int32)), .unset, .unset, .unset] [(.ref b2), (.ref b2)])) (fun _ kq => XS.dup X13.here hx rfl (hb hby at_50) rfl rfl kq) ?_
  refine own_st (T' := T13) (g' := (mkF m 52 #[.val (.int p1), .val (.int p2), .val (.int p3), .val (.int q), .val (.int nn), .val (.int (2147483647 : Int32)), .unset, .unset, .unset] [(.int (4 : Int32)), (.ref b2), (.ref b2)])) (fun _ kq => XS.iconst X13.here hx rfl (hb hby at_51) kq) ?_
  refine own_st (T' := T13) (g' := (mkF m 53 #[.val (.int p1), .val (.int p2), .val (.int p3), .val (.int q), .val (.int nn), .val (.int (2147483647 : Int32)), .unset, .unset, .unset] [(.int (1 : Int32)), (.int (4 : Int32)), (.ref b2), (.ref b2)])) (fun _ kq => XS.iconst X13.here hx rfl (hb hby at_52) kq) ?_
  obtain ⟨cl15, Ar15, q15, S15, Nn15, H15, G15⟩ := id V13
  have hin16 : ¬ ((4 : Int32) < 0 ∨ cl15.slots.size ≤ ((4 : Int32)).toNatClampNeg) := inb_of S15 ⟨by decide, by decide⟩
  obtain ⟨T16, h16, X16, e16, W16, st16⟩ := stI X13 hx hZ e13 Ar15 (j := (4 : Int32)) hin16 (g := (mkF m 53 #[.val (.int p1), .val (.int p2), .val (.int p3), .val (.int q), .val (.int nn), .val (.int (2147483647 : Int32)), .unset, .unset, .unset] [(.int (1 : Int32)), (.int (4 : Int32)), (.ref b2), (.ref b2)])) rfl rfl (hb hby at_53)
  have V16 : Arv Z h16 b2 k2 .int (23 : Int32) [(.int (2 : Int32)), (.int (1 : Int32)), (.int (1 : Int32)), (.int (1 : Int32)), (.int (1 : Int32)), (.int (0 : Int32)), (.int (0 : Int32)), (.int (0 : Int32)), (.int (0 : Int32)), (.int (0 : Int32)), (.int (0 : Int32)), (.int (0 : Int32)), (.int (0 : Int32)), (.int (0 : Int32)), (.int (0 : Int32)), (.int (0 : Int32)), (.int (0 : Int32)), (.int (0 : Int32)), (.int (0 : Int32)), (.int (0 : Int32)), (.int (0 : Int32)), (.int (0 : Int32)), (.int (0 : Int32))] (.int (0 : Int32)) := Arv.set Ar15 q15 S15 Nn15 H15 G15 rfl W16 4 rfl (Nat.le_of_ble_eq_true rfl)
  have N17 := Fr.snoc X16 N14 g_b2
  obtain ⟨LL18, Xp18, Np18⟩ : ∃ LL, Stand p l e room_1 s m #[(.int p1), (.int p2), (.int p3)] below meth c T16 LL 1 23 ∧ Fr n0 LL := ⟨_, X16, N17⟩
  refine own_st (T' := T16) (g' := (mkF m 54 #[.val (.int p1), .val (.int p2), .val (.int p3), .val (.int q), .val (.int nn), .val (.int (2147483647 : Int32)), .unset, .unset, .unset] [(.ref b2)])) (st16) ?_
  refine own_st (T' := T16) (g' := (mkF m 55 #[.val (.int p1), .val (.int p2), .val (.int p3), .val (.int q), .val (.int nn), .val (.int (2147483647 : Int32)), .unset, .unset, .unset] [(.ref b2), (.ref b2)])) (fun _ kq => XS.dup Xp18.here hx rfl (hb hby at_54) rfl rfl kq) ?_
  refine own_st (T' := T16) (g' := (mkF m 56 #[.val (.int p1), .val (.int p2), .val (.int p3), .val (.int q), .val (.int nn), .val (.int (2147483647 : Int32)), .unset, .unset, .unset] [(.int (5 : Int32)), (.ref b2), (.ref b2)])) (fun _ kq => XS.iconst Xp18.here hx rfl (hb hby at_55) kq) ?_
  refine own_st (T' := T16) (g' := (mkF m 57 #[.val (.int p1), .val (.int p2), .val (.int p3), .val (.int q), .val (.int nn), .val (.int (2147483647 : Int32)), .unset, .unset, .unset] [(.int (1 : Int32)), (.int (5 : Int32)), (.ref b2), (.ref b2)])) (fun _ kq => XS.iconst Xp18.here hx rfl (hb hby at_56) kq) ?_
  obtain ⟨cl19, Ar19, q19, S19, Nn19, H19, G19⟩ := id V16
  have hin20 : ¬ ((5 : Int32) < 0 ∨ cl19.slots.size ≤ ((5 : Int32)).toNatClampNeg) := inb_of S19 ⟨by decide, by decide⟩
  obtain ⟨T20, h20, X20, e20, W20, st20⟩ := stI Xp18 hx hZ e16 Ar19 (j := (5 : Int32)) hin20 (g := (mkF m 57 #[.val (.int p1), .val (.int p2), .val (.int p3), .val (.int q), .val (.int nn), .val (.int (2147483647 : Int32)), .unset, .unset, .unset] [(.int (1 : Int32)), (.int (5 : Int32)), (.ref b2), (.ref b2)])) rfl rfl (hb hby at_57)
  have V20 : Arv Z h20 b2 k2 .int (23 : Int32) [(.int (2 : Int32)), (.int (1 : Int32)), (.int (1 : Int32)), (.int (1 : Int32)), (.int (1 : Int32)), (.int (1 : Int32)), (.int (0 : Int32)), (.int (0 : Int32)), (.int (0 : Int32)), (.int (0 : Int32)), (.int (0 : Int32)), (.int (0 : Int32)), (.int (0 : Int32)), (.int (0 : Int32)), (.int (0 : Int32)), (.int (0 : Int32)), (.int (0 : Int32)), (.int (0 : Int32)), (.int (0 : Int32)), (.int (0 : Int32)), (.int (0 : Int32)), (.int (0 : Int32)), (.int (0 : Int32))] (.int (0 : Int32)) := Arv.set Ar19 q19 S19 Nn19 H19 G19 rfl W20 5 rfl (Nat.le_of_ble_eq_true rfl)
  have N21 := Fr.snoc X20 Np18 g_b2
  refine own_st (T' := T20) (g' := (mkF m 58 #[.val (.int p1), .val (.int p2), .val (.int p3), .val (.int q), .val (.int nn), .val (.int (2147483647 : Int32)), .unset, .unset, .unset] [(.ref b2)])) (st20) ?_
  refine own_st (T' := T20) (g' := (mkF m 59 #[.val (.int p1), .val (.int p2), .val (.int p3), .val (.int q), .val (.int nn), .val (.int (2147483647 : Int32)), .unset, .unset, .unset] [(.ref b2), (.ref b2)])) (fun _ kq => XS.dup X20.here hx rfl (hb hby at_58) rfl rfl kq) ?_
  refine own_st (T' := T20) (g' := (mkF m 61 #[.val (.int p1), .val (.int p2), .val (.int p3), .val (.int q), .val (.int nn), .val (.int (2147483647 : Int32)), .unset, .unset, .unset] [(.int (6 : Int32)), (.ref b2), (.ref b2)])) (fun _ kq => XS.bipush X20.here hx rfl (hb hby at_59) kq) ?_
  refine own_st (T' := T20) (g' := (mkF m 62 #[.val (.int p1), .val (.int p2), .val (.int p3), .val (.int q), .val (.int nn), .val (.int (2147483647 : Int32)), .unset, .unset, .unset] [(.int (1 : Int32)), (.int (6 : Int32)), (.ref b2), (.ref b2)])) (fun _ kq => XS.iconst X20.here hx rfl (hb hby at_61) kq) ?_
  obtain ⟨cl22, Ar22, q22, S22, Nn22, H22, G22⟩ := id V20
  have hin23 : ¬ ((6 : Int32) < 0 ∨ cl22.slots.size ≤ ((6 : Int32)).toNatClampNeg) := inb_of S22 ⟨by decide, by decide⟩
  obtain ⟨T23, h23, X23, e23, W23, st23⟩ := stI X20 hx hZ e20 Ar22 (j := (6 : Int32)) hin23 (g := (mkF m 62 #[.val (.int p1), .val (.int p2), .val (.int p3), .val (.int q), .val (.int nn), .val (.int (2147483647 : Int32)), .unset, .unset, .unset] [(.int (1 : Int32)), (.int (6 : Int32)), (.ref b2), (.ref b2)])) rfl rfl (hb hby at_62)
  have V23 : Arv Z h23 b2 k2 .int (23 : Int32) [(.int (2 : Int32)), (.int (1 : Int32)), (.int (1 : Int32)), (.int (1 : Int32)), (.int (1 : Int32)), (.int (1 : Int32)), (.int (1 : Int32)), (.int (0 : Int32)), (.int (0 : Int32)), (.int (0 : Int32)), (.int (0 : Int32)), (.int (0 : Int32)), (.int (0 : Int32)), (.int (0 : Int32)), (.int (0 : Int32)), (.int (0 : Int32)), (.int (0 : Int32)), (.int (0 : Int32)), (.int (0 : Int32)), (.int (0 : Int32)), (.int (0 : Int32)), (.int (0 : Int32)), (.int (0 : Int32))] (.int (0 : Int32)) := Arv.set Ar22 q22 S22 Nn22 H22 G22 rfl W23 6 rfl (Nat.le_of_ble_eq_true rfl)
  have N24 := Fr.snoc X23 N21 g_b2
  refine own_st (T' := T23) (g' := (mkF m 63 #[.val (.int p1), .val (.int p2), .val (.int p3), .val (.int q), .val (.int nn), .val (.int (2147483647 : Int32)), .unset, .unset, .unset] [(.ref b2)])) (st23) ?_
  refine own_st (T' := T23) (g' := (mkF m 64 #[.val (.int p1), .val (.int p2), .val (.int p3), .val (.int q), .val (.int nn), .val (.int (2147483647 : Int32)), .unset, .unset, .unset] [(.ref b2), (.ref b2)])) (fun _ kq => XS.dup X23.here hx rfl (hb hby at_63) rfl rfl kq) ?_
  refine own_st (T' := T23) (g' := (mkF m 66 #[.val (.int p1), .val (.int p2), .val (.int p3), .val (.int q), .val (.int nn), .val (.int (2147483647 : Int32)), .unset, .unset, .unset] [(.int (7 : Int32)), (.ref b2), (.ref b2)])) (fun _ kq => XS.bipush X23.here hx rfl (hb hby at_64) kq) ?_
  refine own_st (T' := T23) (g' := (mkF m 67 #[.val (.int p1), .val (.int p2), .val (.int p3), .val (.int q), .val (.int nn), .val (.int (2147483647 : Int32)), .unset, .unset, .unset] [(.int (2 : Int32)), (.int (7 : Int32)), (.ref b2), (.ref b2)])) (fun _ kq => XS.iconst X23.here hx rfl (hb hby at_66) kq) ?_
  obtain ⟨cl25, Ar25, q25, S25, Nn25, H25, G25⟩ := id V23
  have hin26 : ¬ ((7 : Int32) < 0 ∨ cl25.slots.size ≤ ((7 : Int32)).toNatClampNeg) := inb_of S25 ⟨by decide, by decide⟩
  obtain ⟨T26, h26, X26, e26, W26, st26⟩ := stI X23 hx hZ e23 Ar25 (j := (7 : Int32)) hin26 (g := (mkF m 67 #[.val (.int p1), .val (.int p2), .val (.int p3), .val (.int q), .val (.int nn), .val (.int (2147483647 : Int32)), .unset, .unset, .unset] [(.int (2 : Int32)), (.int (7 : Int32)), (.ref b2), (.ref b2)])) rfl rfl (hb hby at_67)
  have V26 : Arv Z h26 b2 k2 .int (23 : Int32) [(.int (2 : Int32)), (.int (1 : Int32)), (.int (1 : Int32)), (.int (1 : Int32)), (.int (1 : Int32)), (.int (1 : Int32)), (.int (1 : Int32)), (.int (2 : Int32)), (.int (0 : Int32)), (.int (0 : Int32)), (.int (0 : Int32)), (.int (0 : Int32)), (.int (0 : Int32)), (.int (0 : Int32)), (.int (0 : Int32)), (.int (0 : Int32)), (.int (0 : Int32)), (.int (0 : Int32)), (.int (0 : Int32)), (.int (0 : Int32)), (.int (0 : Int32)), (.int (0 : Int32)), (.int (0 : Int32))] (.int (0 : Int32)) := Arv.set Ar25 q25 S25 Nn25 H25 G25 rfl W26 7 rfl (Nat.le_of_ble_eq_true rfl)
  have N27 := Fr.snoc X26 N24 g_b2
  refine own_st (T' := T26) (g' := (mkF m 68 #[.val (.int p1), .val (.int p2), .val (.int p3), .val (.int q), .val (.int nn), .val (.int (2147483647 : Int32)), .unset, .unset, .unset] [(.ref b2)])) (st26) ?_
  refine own_st (T' := T26) (g' := (mkF m 69 #[.val (.int p1), .val (.int p2), .val (.int p3), .val (.int q), .val (.int nn), .val (.int (2147483647 : Int32)), .unset, .unset, .unset] [(.ref b2), (.ref b2)])) (fun _ kq => XS.dup X26.here hx rfl (hb hby at_68) rfl rfl kq) ?_
  refine own_st (T' := T26) (g' := (mkF m 71 #[.val (.int p1), .val (.int p2), .val (.int p3), .val (.int q), .val (.int nn), .val (.int (2147483647 : Int32)), .unset, .unset, .unset] [(.int (8 : Int32)), (.ref b2), (.ref b2)])) (fun _ kq => XS.bipush X26.here hx rfl (hb hby at_69) kq) ?_
  refine own_st (T' := T26) (g' := (mkF m 72 #[.val (.int p1), .val (.int p2), .val (.int p3), .val (.int q), .val (.int nn), .val (.int (2147483647 : Int32)), .unset, .unset, .unset] [(.int (2 : Int32)), (.int (8 : Int32)), (.ref b2), (.ref b2)])) (fun _ kq => XS.iconst X26.here hx rfl (hb hby at_71) kq) ?_
  obtain ⟨cl28, Ar28, q28, S28, Nn28, H28, G28⟩ := id V26
  have hin29 : ¬ ((8 : Int32) < 0 ∨ cl28.slots.size ≤ ((8 : Int32)).toNatClampNeg) := inb_of S28 ⟨by decide, by decide⟩
  obtain ⟨T29, h29, X29, e29, W29, st29⟩ := stI X26 hx hZ e26 Ar28 (j := (8 : Int32)) hin29 (g := (mkF m 72 #[.val (.int p1), .val (.int p2), .val (.int p3), .val (.int q), .val (.int nn), .val (.int (2147483647 : Int32)), .unset, .unset, .unset] [(.int (2 : Int32)), (.int (8 : Int32)), (.ref b2), (.ref b2)])) rfl rfl (hb hby at_72)
  have V29 : Arv Z h29 b2 k2 .int (23 : Int32) [(.int (2 : Int32)), (.int (1 : Int32)), (.int (1 : Int32)), (.int (1 : Int32)), (.int (1 : Int32)), (.int (1 : Int32)), (.int (1 : Int32)), (.int (2 : Int32)), (.int (2 : Int32)), (.int (0 : Int32)), (.int (0 : Int32)), (.int (0 : Int32)), (.int (0 : Int32)), (.int (0 : Int32)), (.int (0 : Int32)), (.int (0 : Int32)), (.int (0 : Int32)), (.int (0 : Int32)), (.int (0 : Int32)), (.int (0 : Int32)), (.int (0 : Int32)), (.int (0 : Int32)), (.int (0 : Int32))] (.int (0 : Int32)) := Arv.set Ar28 q28 S28 Nn28 H28 G28 rfl W29 8 rfl (Nat.le_of_ble_eq_true rfl)
  have N30 := Fr.snoc X29 N27 g_b2
  refine own_st (T' := T29) (g' := (mkF m 73 #[.val (.int p1), .val (.int p2), .val (.int p3), .val (.int q), .val (.int nn), .val (.int (2147483647 : Int32)), .unset, .unset, .unset] [(.ref b2)])) (st29) ?_
  refine own_st (T' := T29) (g' := (mkF m 74 #[.val (.int p1), .val (.int p2), .val (.int p3), .val (.int q), .val (.int nn), .val (.int (2147483647 : Int32)), .unset, .unset, .unset] [(.ref b2), (.ref b2)])) (fun _ kq => XS.dup X29.here hx rfl (hb hby at_73) rfl rfl kq) ?_
  refine own_st (T' := T29) (g' := (mkF m 76 #[.val (.int p1), .val (.int p2), .val (.int p3), .val (.int q), .val (.int nn), .val (.int (2147483647 : Int32)), .unset, .unset, .unset] [(.int (9 : Int32)), (.ref b2), (.ref b2)])) (fun _ kq => XS.bipush X29.here hx rfl (hb hby at_74) kq) ?_
  refine own_st (T' := T29) (g' := (mkF m 77 #[.val (.int p1), .val (.int p2), .val (.int p3), .val (.int q), .val (.int nn), .val (.int (2147483647 : Int32)), .unset, .unset, .unset] [(.int (2 : Int32)), (.int (9 : Int32)), (.ref b2), (.ref b2)])) (fun _ kq => XS.iconst X29.here hx rfl (hb hby at_76) kq) ?_
  obtain ⟨cl31, Ar31, q31, S31, Nn31, H31, G31⟩ := id V29
  have hin32 : ¬ ((9 : Int32) < 0 ∨ cl31.slots.size ≤ ((9 : Int32)).toNatClampNeg) := inb_of S31 ⟨by decide, by decide⟩
  obtain ⟨T32, h32, X32, e32, W32, st32⟩ := stI X29 hx hZ e29 Ar31 (j := (9 : Int32)) hin32 (g := (mkF m 77 #[.val (.int p1), .val (.int p2), .val (.int p3), .val (.int q), .val (.int nn), .val (.int (2147483647 : Int32)), .unset, .unset, .unset] [(.int (2 : Int32)), (.int (9 : Int32)), (.ref b2), (.ref b2)])) rfl rfl (hb hby at_77)
  have V32 : Arv Z h32 b2 k2 .int (23 : Int32) [(.int (2 : Int32)), (.int (1 : Int32)), (.int (1 : Int32)), (.int (1 : Int32)), (.int (1 : Int32)), (.int (1 : Int32)), (.int (1 : Int32)), (.int (2 : Int32)), (.int (2 : Int32)), (.int (2 : Int32)), (.int (0 : Int32)), (.int (0 : Int32)), (.int (0 : Int32)), (.int (0 : Int32)), (.int (0 : Int32)), (.int (0 : Int32)), (.int (0 : Int32)), (.int (0 : Int32)), (.int (0 : Int32)), (.int (0 : Int32)), (.int (0 : Int32)), (.int (0 : Int32)), (.int (0 : Int32))] (.int (0 : Int32)) := Arv.set Ar31 q31 S31 Nn31 H31 G31 rfl W32 9 rfl (Nat.le_of_ble_eq_true rfl)
  have N33 := Fr.snoc X32 N30 g_b2
  obtain ⟨LL34, Xp34, Np34⟩ : ∃ LL, Stand p l e room_1 s m #[(.int p1), (.int p2), (.int p3)] below meth c T32 LL 1 23 ∧ Fr n0 LL := ⟨_, X32, N33⟩
  refine own_st (T' := T32) (g' := (mkF m 78 #[.val (.int p1), .val (.int p2), .val (.int p3), .val (.int q), .val (.int nn), .val (.int (2147483647 : Int32)), .unset, .unset, .unset] [(.ref b2)])) (st32) ?_
  refine own_st (T' := T32) (g' := (mkF m 79 #[.val (.int p1), .val (.int p2), .val (.int p3), .val (.int q), .val (.int nn), .val (.int (2147483647 : Int32)), .unset, .unset, .unset] [(.ref b2), (.ref b2)])) (fun _ kq => XS.dup Xp34.here hx rfl (hb hby at_78) rfl rfl kq) ?_
  refine own_st (T' := T32) (g' := (mkF m 81 #[.val (.int p1), .val (.int p2), .val (.int p3), .val (.int q), .val (.int nn), .val (.int (2147483647 : Int32)), .unset, .unset, .unset] [(.int (10 : Int32)), (.ref b2), (.ref b2)])) (fun _ kq => XS.bipush Xp34.here hx rfl (hb hby at_79) kq) ?_
  refine own_st (T' := T32) (g' := (mkF m 82 #[.val (.int p1), .val (.int p2), .val (.int p3), .val (.int q), .val (.int nn), .val (.int (2147483647 : Int32)), .unset, .unset, .unset] [(.int (2 : Int32)), (.int (10 : Int32)), (.ref b2), (.ref b2)])) (fun _ kq => XS.iconst Xp34.here hx rfl (hb hby at_81) kq) ?_
  obtain ⟨cl35, Ar35, q35, S35, Nn35, H35, G35⟩ := id V32
  have hin36 : ¬ ((10 : Int32) < 0 ∨ cl35.slots.size ≤ ((10 : Int32)).toNatClampNeg) := inb_of S35 ⟨by decide, by decide⟩
  obtain ⟨T36, h36, X36, e36, W36, st36⟩ := stI Xp34 hx hZ e32 Ar35 (j := (10 : Int32)) hin36 (g := (mkF m 82 #[.val (.int p1), .val (.int p2), .val (.int p3), .val (.int q), .val (.int nn), .val (.int (2147483647 : Int32)), .unset, .unset, .unset] [(.int (2 : Int32)), (.int (10 : Int32)), (.ref b2), (.ref b2)])) rfl rfl (hb hby at_82)
  have V36 : Arv Z h36 b2 k2 .int (23 : Int32) [(.int (2 : Int32)), (.int (1 : Int32)), (.int (1 : Int32)), (.int (1 : Int32)), (.int (1 : Int32)), (.int (1 : Int32)), (.int (1 : Int32)), (.int (2 : Int32)), (.int (2 : Int32)), (.int (2 : Int32)), (.int (2 : Int32)), (.int (0 : Int32)), (.int (0 : Int32)), (.int (0 : Int32)), (.int (0 : Int32)), (.int (0 : Int32)), (.int (0 : Int32)), (.int (0 : Int32)), (.int (0 : Int32)), (.int (0 : Int32)), (.int (0 : Int32)), (.int (0 : Int32)), (.int (0 : Int32))] (.int (0 : Int32)) := Arv.set Ar35 q35 S35 Nn35 H35 G35 rfl W36 10 rfl (Nat.le_of_ble_eq_true rfl)
  have N37 := Fr.snoc X36 Np34 g_b2
  refine own_st (T' := T36) (g' := (mkF m 83 #[.val (.int p1), .val (.int p2), .val (.int p3), .val (.int q), .val (.int nn), .val (.int (2147483647 : Int32)), .unset, .unset, .unset] [(.ref b2)])) (st36) ?_
  refine own_st (T' := T36) (g' := (mkF m 84 #[.val (.int p1), .val (.int p2), .val (.int p3), .val (.int q), .val (.int nn), .val (.int (2147483647 : Int32)), .unset, .unset, .unset] [(.ref b2), (.ref b2)])) (fun _ kq => XS.dup X36.here hx rfl (hb hby at_83) rfl rfl kq) ?_
  refine own_st (T' := T36) (g' := (mkF m 86 #[.val (.int p1), .val (.int p2), .val (.int p3), .val (.int q), .val (.int nn), .val (.int (2147483647 : Int32)), .unset, .unset, .unset] [(.int (11 : Int32)), (.ref b2), (.ref b2)])) (fun _ kq => XS.bipush X36.here hx rfl (hb hby at_84) kq) ?_
  refine own_st (T' := T36) (g' := (mkF m 87 #[.val (.int p1), .val (.int p2), .val (.int p3), .val (.int q), .val (.int nn), .val (.int (2147483647 : Int32)), .unset, .unset, .unset] [(.int (1 : Int32)), (.int (11 : Int32)), (.ref b2), (.ref b2)])) (fun _ kq => XS.iconst X36.here hx rfl (hb hby at_86) kq) ?_
  obtain ⟨cl38, Ar38, q38, S38, Nn38, H38, G38⟩ := id V36
  have hin39 : ¬ ((11 : Int32) < 0 ∨ cl38.slots.size ≤ ((11 : Int32)).toNatClampNeg) := inb_of S38 ⟨by decide, by decide⟩
  obtain ⟨T39, h39, X39, e39, W39, st39⟩ := stI X36 hx hZ e36 Ar38 (j := (11 : Int32)) hin39 (g := (mkF m 87 #[.val (.int p1), .val (.int p2), .val (.int p3), .val (.int q), .val (.int nn), .val (.int (2147483647 : Int32)), .unset, .unset, .unset] [(.int (1 : Int32)), (.int (11 : Int32)), (.ref b2), (.ref b2)])) rfl rfl (hb hby at_87)
  have V39 : Arv Z h39 b2 k2 .int (23 : Int32) [(.int (2 : Int32)), (.int (1 : Int32)), (.int (1 : Int32)), (.int (1 : Int32)), (.int (1 : Int32)), (.int (1 : Int32)), (.int (1 : Int32)), (.int (2 : Int32)), (.int (2 : Int32)), (.int (2 : Int32)), (.int (2 : Int32)), (.int (1 : Int32)), (.int (0 : Int32)), (.int (0 : Int32)), (.int (0 : Int32)), (.int (0 : Int32)), (.int (0 : Int32)), (.int (0 : Int32)), (.int (0 : Int32)), (.int (0 : Int32)), (.int (0 : Int32)), (.int (0 : Int32)), (.int (0 : Int32))] (.int (0 : Int32)) := Arv.set Ar38 q38 S38 Nn38 H38 G38 rfl W39 11 rfl (Nat.le_of_ble_eq_true rfl)
  have N40 := Fr.snoc X39 N37 g_b2
  refine own_st (T' := T39) (g' := (mkF m 88 #[.val (.int p1), .val (.int p2), .val (.int p3), .val (.int q), .val (.int nn), .val (.int (2147483647 : Int32)), .unset, .unset, .unset] [(.ref b2)])) (st39) ?_
  refine own_st (T' := T39) (g' := (mkF m 89 #[.val (.int p1), .val (.int p2), .val (.int p3), .val (.int q), .val (.int nn), .val (.int (2147483647 : Int32)), .unset, .unset, .unset] [(.ref b2), (.ref b2)])) (fun _ kq => XS.dup X39.here hx rfl (hb hby at_88) rfl rfl kq) ?_
  refine own_st (T' := T39) (g' := (mkF m 91 #[.val (.int p1), .val (.int p2), .val (.int p3), .val (.int q), .val (.int nn), .val (.int (2147483647 : Int32)), .unset, .unset, .unset] [(.int (12 : Int32)), (.ref b2), (.ref b2)])) (fun _ kq => XS.bipush X39.here hx rfl (hb hby at_89) kq) ?_
  refine own_st (T' := T39) (g' := (mkF m 92 #[.val (.int p1), .val (.int p2), .val (.int p3), .val (.int q), .val (.int nn), .val (.int (2147483647 : Int32)), .unset, .unset, .unset] [(.int (1 : Int32)), (.int (12 : Int32)), (.ref b2), (.ref b2)])) (fun _ kq => XS.iconst X39.here hx rfl (hb hby at_91) kq) ?_
  obtain ⟨cl41, Ar41, q41, S41, Nn41, H41, G41⟩ := id V39
  have hin42 : ¬ ((12 : Int32) < 0 ∨ cl41.slots.size ≤ ((12 : Int32)).toNatClampNeg) := inb_of S41 ⟨by decide, by decide⟩
  obtain ⟨T42, h42, X42, e42, W42, st42⟩ := stI X39 hx hZ e39 Ar41 (j := (12 : Int32)) hin42 (g := (mkF m 92 #[.val (.int p1), .val (.int p2), .val (.int p3), .val (.int q), .val (.int nn), .val (.int (2147483647 : Int32)), .unset, .unset, .unset] [(.int (1 : Int32)), (.int (12 : Int32)), (.ref b2), (.ref b2)])) rfl rfl (hb hby at_92)
  have V42 : Arv Z h42 b2 k2 .int (23 : Int32) [(.int (2 : Int32)), (.int (1 : Int32)), (.int (1 : Int32)), (.int (1 : Int32)), (.int (1 : Int32)), (.int (1 : Int32)), (.int (1 : Int32)), (.int (2 : Int32)), (.int (2 : Int32)), (.int (2 : Int32)), (.int (2 : Int32)), (.int (1 : Int32)), (.int (1 : Int32)), (.int (0 : Int32)), (.int (0 : Int32)), (.int (0 : Int32)), (.int (0 : Int32)), (.int (0 : Int32)), (.int (0 : Int32)), (.int (0 : Int32)), (.int (0 : Int32)), (.int (0 : Int32)), (.int (0 : Int32))] (.int (0 : Int32)) := Arv.set Ar41 q41 S41 Nn41 H41 G41 rfl W42 12 rfl (Nat.le_of_ble_eq_true rfl)
  have N43 := Fr.snoc X42 N40 g_b2
  refine own_st (T' := T42) (g' := (mkF m 93 #[.val (.int p1), .val (.int p2), .val (.int p3), .val (.int q), .val (.int nn), .val (.int (2147483647 : Int32)), .unset, .unset, .unset] [(.ref b2)])) (st42) ?_
  refine own_st (T' := T42) (g' := (mkF m 94 #[.val (.int p1), .val (.int p2), .val (.int p3), .val (.int q), .val (.int nn), .val (.int (2147483647 : Int32)), .unset, .unset, .unset] [(.ref b2), (.ref b2)])) (fun _ kq => XS.dup X42.here hx rfl (hb hby at_93) rfl rfl kq) ?_
  refine own_st (T' := T42) (g' := (mkF m 96 #[.val (.int p1), .val (.int p2), .val (.int p3), .val (.int q), .val (.int nn), .val (.int (2147483647 : Int32)), .unset, .unset, .unset] [(.int (13 : Int32)), (.ref b2), (.ref b2)])) (fun _ kq => XS.bipush X42.here hx rfl (hb hby at_94) kq) ?_
  refine own_st (T' := T42) (g' := (mkF m 97 #[.val (.int p1), .val (.int p2), .val (.int p3), .val (.int q), .val (.int nn), .val (.int (2147483647 : Int32)), .unset, .unset, .unset] [(.int (1 : Int32)), (.int (13 : Int32)), (.ref b2), (.ref b2)])) (fun _ kq => XS.iconst X42.here hx rfl (hb hby at_96) kq) ?_
  obtain ⟨cl44, Ar44, q44, S44, Nn44, H44, G44⟩ := id V42
  have hin45 : ¬ ((13 : Int32) < 0 ∨ cl44.slots.size ≤ ((13 : Int32)).toNatClampNeg) := inb_of S44 ⟨by decide, by decide⟩
  obtain ⟨T45, h45, X45, e45, W45, st45⟩ := stI X42 hx hZ e42 Ar44 (j := (13 : Int32)) hin45 (g := (mkF m 97 #[.val (.int p1), .val (.int p2), .val (.int p3), .val (.int q), .val (.int nn), .val (.int (2147483647 : Int32)), .unset, .unset, .unset] [(.int (1 : Int32)), (.int (13 : Int32)), (.ref b2), (.ref b2)])) rfl rfl (hb hby at_97)
  have V45 : Arv Z h45 b2 k2 .int (23 : Int32) [(.int (2 : Int32)), (.int (1 : Int32)), (.int (1 : Int32)), (.int (1 : Int32)), (.int (1 : Int32)), (.int (1 : Int32)), (.int (1 : Int32)), (.int (2 : Int32)), (.int (2 : Int32)), (.int (2 : Int32)), (.int (2 : Int32)), (.int (1 : Int32)), (.int (1 : Int32)), (.int (1 : Int32)), (.int (0 : Int32)), (.int (0 : Int32)), (.int (0 : Int32)), (.int (0 : Int32)), (.int (0 : Int32)), (.int (0 : Int32)), (.int (0 : Int32)), (.int (0 : Int32)), (.int (0 : Int32))] (.int (0 : Int32)) := Arv.set Ar44 q44 S44 Nn44 H44 G44 rfl W45 13 rfl (Nat.le_of_ble_eq_true rfl)
  have N46 := Fr.snoc X45 N43 g_b2
  refine own_st (T' := T45) (g' := (mkF m 98 #[.val (.int p1), .val (.int p2), .val (.int p3), .val (.int q), .val (.int nn), .val (.int (2147483647 : Int32)), .unset, .unset, .unset] [(.ref b2)])) (st45) ?_
  refine own_st (T' := T45) (g' := (mkF m 99 #[.val (.int p1), .val (.int p2), .val (.int p3), .val (.int q), .val (.int nn), .val (.int (2147483647 : Int32)), .unset, .unset, .unset] [(.ref b2), (.ref b2)])) (fun _ kq => XS.dup X45.here hx rfl (hb hby at_98) rfl rfl kq) ?_
  refine own_st (T' := T45) (g' := (mkF m 101 #[.val (.int p1), .val (.int p2), .val (.int p3), .val (.int q), .val (.int nn), .val (.int (2147483647 : Int32)), .unset, .unset, .unset] [(.int (14 : Int32)), (.ref b2), (.ref b2)])) (fun _ kq => XS.bipush X45.here hx rfl (hb hby at_99) kq) ?_
  refine own_st (T' := T45) (g' := (mkF m 102 #[.val (.int p1), .val (.int p2), .val (.int p3), .val (.int q), .val (.int nn), .val (.int (2147483647 : Int32)), .unset, .unset, .unset] [(.int (1 : Int32)), (.int (14 : Int32)), (.ref b2), (.ref b2)])) (fun _ kq => XS.iconst X45.here hx rfl (hb hby at_101) kq) ?_
  obtain ⟨cl47, Ar47, q47, S47, Nn47, H47, G47⟩ := id V45
  have hin48 : ¬ ((14 : Int32) < 0 ∨ cl47.slots.size ≤ ((14 : Int32)).toNatClampNeg) := inb_of S47 ⟨by decide, by decide⟩
  obtain ⟨T48, h48, X48, e48, W48, st48⟩ := stI X45 hx hZ e45 Ar47 (j := (14 : Int32)) hin48 (g := (mkF m 102 #[.val (.int p1), .val (.int p2), .val (.int p3), .val (.int q), .val (.int nn), .val (.int (2147483647 : Int32)), .unset, .unset, .unset] [(.int (1 : Int32)), (.int (14 : Int32)), (.ref b2), (.ref b2)])) rfl rfl (hb hby at_102)
  have V48 : Arv Z h48 b2 k2 .int (23 : Int32) [(.int (2 : Int32)), (.int (1 : Int32)), (.int (1 : Int32)), (.int (1 : Int32)), (.int (1 : Int32)), (.int (1 : Int32)), (.int (1 : Int32)), (.int (2 : Int32)), (.int (2 : Int32)), (.int (2 : Int32)), (.int (2 : Int32)), (.int (1 : Int32)), (.int (1 : Int32)), (.int (1 : Int32)), (.int (1 : Int32)), (.int (0 : Int32)), (.int (0 : Int32)), (.int (0 : Int32)), (.int (0 : Int32)), (.int (0 : Int32)), (.int (0 : Int32)), (.int (0 : Int32)), (.int (0 : Int32))] (.int (0 : Int32)) := Arv.set Ar47 q47 S47 Nn47 H47 G47 rfl W48 14 rfl (Nat.le_of_ble_eq_true rfl)
  have N49 := Fr.snoc X48 N46 g_b2
  obtain ⟨LL50, Xp50, Np50⟩ : ∃ LL, Stand p l e room_1 s m #[(.int p1), (.int p2), (.int p3)] below meth c T48 LL 1 23 ∧ Fr n0 LL := ⟨_, X48, N49⟩
  refine own_st (T' := T48) (g' := (mkF m 103 #[.val (.int p1), .val (.int p2), .val (.int p3), .val (.int q), .val (.int nn), .val (.int (2147483647 : Int32)), .unset, .unset, .unset] [(.ref b2)])) (st48) ?_
  refine own_st (T' := T48) (g' := (mkF m 104 #[.val (.int p1), .val (.int p2), .val (.int p3), .val (.int q), .val (.int nn), .val (.int (2147483647 : Int32)), .unset, .unset, .unset] [(.ref b2), (.ref b2)])) (fun _ kq => XS.dup Xp50.here hx rfl (hb hby at_103) rfl rfl kq) ?_
  refine own_st (T' := T48) (g' := (mkF m 106 #[.val (.int p1), .val (.int p2), .val (.int p3), .val (.int q), .val (.int nn), .val (.int (2147483647 : Int32)), .unset, .unset, .unset] [(.int (15 : Int32)), (.ref b2), (.ref b2)])) (fun _ kq => XS.bipush Xp50.here hx rfl (hb hby at_104) kq) ?_
  refine own_st (T' := T48) (g' := (mkF m 107 #[.val (.int p1), .val (.int p2), .val (.int p3), .val (.int q), .val (.int nn), .val (.int (2147483647 : Int32)), .unset, .unset, .unset] [(.int (1 : Int32)), (.int (15 : Int32)), (.ref b2), (.ref b2)])) (fun _ kq => XS.iconst Xp50.here hx rfl (hb hby at_106) kq) ?_
  obtain ⟨cl51, Ar51, q51, S51, Nn51, H51, G51⟩ := id V48
  have hin52 : ¬ ((15 : Int32) < 0 ∨ cl51.slots.size ≤ ((15 : Int32)).toNatClampNeg) := inb_of S51 ⟨by decide, by decide⟩
  obtain ⟨T52, h52, X52, e52, W52, st52⟩ := stI Xp50 hx hZ e48 Ar51 (j := (15 : Int32)) hin52 (g := (mkF m 107 #[.val (.int p1), .val (.int p2), .val (.int p3), .val (.int q), .val (.int nn), .val (.int (2147483647 : Int32)), .unset, .unset, .unset] [(.int (1 : Int32)), (.int (15 : Int32)), (.ref b2), (.ref b2)])) rfl rfl (hb hby at_107)
  have V52 : Arv Z h52 b2 k2 .int (23 : Int32) [(.int (2 : Int32)), (.int (1 : Int32)), (.int (1 : Int32)), (.int (1 : Int32)), (.int (1 : Int32)), (.int (1 : Int32)), (.int (1 : Int32)), (.int (2 : Int32)), (.int (2 : Int32)), (.int (2 : Int32)), (.int (2 : Int32)), (.int (1 : Int32)), (.int (1 : Int32)), (.int (1 : Int32)), (.int (1 : Int32)), (.int (1 : Int32)), (.int (0 : Int32)), (.int (0 : Int32)), (.int (0 : Int32)), (.int (0 : Int32)), (.int (0 : Int32)), (.int (0 : Int32)), (.int (0 : Int32))] (.int (0 : Int32)) := Arv.set Ar51 q51 S51 Nn51 H51 G51 rfl W52 15 rfl (Nat.le_of_ble_eq_true rfl)
  have N53 := Fr.snoc X52 Np50 g_b2
  refine own_st (T' := T52) (g' := (mkF m 108 #[.val (.int p1), .val (.int p2), .val (.int p3), .val (.int q), .val (.int nn), .val (.int (2147483647 : Int32)), .unset, .unset, .unset] [(.ref b2)])) (st52) ?_
  refine own_st (T' := T52) (g' := (mkF m 109 #[.val (.int p1), .val (.int p2), .val (.int p3), .val (.int q), .val (.int nn), .val (.int (2147483647 : Int32)), .unset, .unset, .unset] [(.ref b2), (.ref b2)])) (fun _ kq => XS.dup X52.here hx rfl (hb hby at_108) rfl rfl kq) ?_
  refine own_st (T' := T52) (g' := (mkF m 111 #[.val (.int p1), .val (.int p2), .val (.int p3), .val (.int q), .val (.int nn), .val (.int (2147483647 : Int32)), .unset, .unset, .unset] [(.int (16 : Int32)), (.ref b2), (.ref b2)])) (fun _ kq => XS.bipush X52.here hx rfl (hb hby at_109) kq) ?_
  refine own_st (T' := T52) (g' := (mkF m 112 #[.val (.int p1), .val (.int p2), .val (.int p3), .val (.int q), .val (.int nn), .val (.int (2147483647 : Int32)), .unset, .unset, .unset] [(.int (1 : Int32)), (.int (16 : Int32)), (.ref b2), (.ref b2)])) (fun _ kq => XS.iconst X52.here hx rfl (hb hby at_111) kq) ?_
  obtain ⟨cl54, Ar54, q54, S54, Nn54, H54, G54⟩ := id V52
  have hin55 : ¬ ((16 : Int32) < 0 ∨ cl54.slots.size ≤ ((16 : Int32)).toNatClampNeg) := inb_of S54 ⟨by decide, by decide⟩
  obtain ⟨T55, h55, X55, e55, W55, st55⟩ := stI X52 hx hZ e52 Ar54 (j := (16 : Int32)) hin55 (g := (mkF m 112 #[.val (.int p1), .val (.int p2), .val (.int p3), .val (.int q), .val (.int nn), .val (.int (2147483647 : Int32)), .unset, .unset, .unset] [(.int (1 : Int32)), (.int (16 : Int32)), (.ref b2), (.ref b2)])) rfl rfl (hb hby at_112)
  have V55 : Arv Z h55 b2 k2 .int (23 : Int32) [(.int (2 : Int32)), (.int (1 : Int32)), (.int (1 : Int32)), (.int (1 : Int32)), (.int (1 : Int32)), (.int (1 : Int32)), (.int (1 : Int32)), (.int (2 : Int32)), (.int (2 : Int32)), (.int (2 : Int32)), (.int (2 : Int32)), (.int (1 : Int32)), (.int (1 : Int32)), (.int (1 : Int32)), (.int (1 : Int32)), (.int (1 : Int32)), (.int (1 : Int32)), (.int (0 : Int32)), (.int (0 : Int32)), (.int (0 : Int32)), (.int (0 : Int32)), (.int (0 : Int32)), (.int (0 : Int32))] (.int (0 : Int32)) := Arv.set Ar54 q54 S54 Nn54 H54 G54 rfl W55 16 rfl (Nat.le_of_ble_eq_true rfl)
  have N56 := Fr.snoc X55 N53 g_b2
  refine own_st (T' := T55) (g' := (mkF m 113 #[.val (.int p1), .val (.int p2), .val (.int p3), .val (.int q), .val (.int nn), .val (.int (2147483647 : Int32)), .unset, .unset, .unset] [(.ref b2)])) (st55) ?_
  refine own_st (T' := T55) (g' := (mkF m 114 #[.val (.int p1), .val (.int p2), .val (.int p3), .val (.int q), .val (.int nn), .val (.int (2147483647 : Int32)), .unset, .unset, .unset] [(.ref b2), (.ref b2)])) (fun _ kq => XS.dup X55.here hx rfl (hb hby at_113) rfl rfl kq) ?_
  refine own_st (T' := T55) (g' := (mkF m 116 #[.val (.int p1), .val (.int p2), .val (.int p3), .val (.int q), .val (.int nn), .val (.int (2147483647 : Int32)), .unset, .unset, .unset] [(.int (17 : Int32)), (.ref b2), (.ref b2)])) (fun _ kq => XS.bipush X55.here hx rfl (hb hby at_114) kq) ?_
  refine own_st (T' := T55) (g' := (mkF m 117 #[.val (.int p1), .val (.int p2), .val (.int p3), .val (.int q), .val (.int nn), .val (.int (2147483647 : Int32)), .unset, .unset, .unset] [(.int (1 : Int32)), (.int (17 : Int32)), (.ref b2), (.ref b2)])) (fun _ kq => XS.iconst X55.here hx rfl (hb hby at_116) kq) ?_
  obtain ⟨cl57, Ar57, q57, S57, Nn57, H57, G57⟩ := id V55
  have hin58 : ¬ ((17 : Int32) < 0 ∨ cl57.slots.size ≤ ((17 : Int32)).toNatClampNeg) := inb_of S57 ⟨by decide, by decide⟩
  obtain ⟨T58, h58, X58, e58, W58, st58⟩ := stI X55 hx hZ e55 Ar57 (j := (17 : Int32)) hin58 (g := (mkF m 117 #[.val (.int p1), .val (.int p2), .val (.int p3), .val (.int q), .val (.int nn), .val (.int (2147483647 : Int32)), .unset, .unset, .unset] [(.int (1 : Int32)), (.int (17 : Int32)), (.ref b2), (.ref b2)])) rfl rfl (hb hby at_117)
  have V58 : Arv Z h58 b2 k2 .int (23 : Int32) [(.int (2 : Int32)), (.int (1 : Int32)), (.int (1 : Int32)), (.int (1 : Int32)), (.int (1 : Int32)), (.int (1 : Int32)), (.int (1 : Int32)), (.int (2 : Int32)), (.int (2 : Int32)), (.int (2 : Int32)), (.int (2 : Int32)), (.int (1 : Int32)), (.int (1 : Int32)), (.int (1 : Int32)), (.int (1 : Int32)), (.int (1 : Int32)), (.int (1 : Int32)), (.int (1 : Int32)), (.int (0 : Int32)), (.int (0 : Int32)), (.int (0 : Int32)), (.int (0 : Int32)), (.int (0 : Int32))] (.int (0 : Int32)) := Arv.set Ar57 q57 S57 Nn57 H57 G57 rfl W58 17 rfl (Nat.le_of_ble_eq_true rfl)
  have N59 := Fr.snoc X58 N56 g_b2
  refine own_st (T' := T58) (g' := (mkF m 118 #[.val (.int p1), .val (.int p2), .val (.int p3), .val (.int q), .val (.int nn), .val (.int (2147483647 : Int32)), .unset, .unset, .unset] [(.ref b2)])) (st58) ?_
  refine own_st (T' := T58) (g' := (mkF m 119 #[.val (.int p1), .val (.int p2), .val (.int p3), .val (.int q), .val (.int nn), .val (.int (2147483647 : Int32)), .unset, .unset, .unset] [(.ref b2), (.ref b2)])) (fun _ kq => XS.dup X58.here hx rfl (hb hby at_118) rfl rfl kq) ?_
  refine own_st (T' := T58) (g' := (mkF m 121 #[.val (.int p1), .val (.int p2), .val (.int p3), .val (.int q), .val (.int nn), .val (.int (2147483647 : Int32)), .unset, .unset, .unset] [(.int (18 : Int32)), (.ref b2), (.ref b2)])) (fun _ kq => XS.bipush X58.here hx rfl (hb hby at_119) kq) ?_
  refine own_st (T' := T58) (g' := (mkF m 122 #[.val (.int p1), .val (.int p2), .val (.int p3), .val (.int q), .val (.int nn), .val (.int (2147483647 : Int32)), .unset, .unset, .unset] [(.int (1 : Int32)), (.int (18 : Int32)), (.ref b2), (.ref b2)])) (fun _ kq => XS.iconst X58.here hx rfl (hb hby at_121) kq) ?_
  obtain ⟨cl60, Ar60, q60, S60, Nn60, H60, G60⟩ := id V58
  have hin61 : ¬ ((18 : Int32) < 0 ∨ cl60.slots.size ≤ ((18 : Int32)).toNatClampNeg) := inb_of S60 ⟨by decide, by decide⟩
  obtain ⟨T61, h61, X61, e61, W61, st61⟩ := stI X58 hx hZ e58 Ar60 (j := (18 : Int32)) hin61 (g := (mkF m 122 #[.val (.int p1), .val (.int p2), .val (.int p3), .val (.int q), .val (.int nn), .val (.int (2147483647 : Int32)), .unset, .unset, .unset] [(.int (1 : Int32)), (.int (18 : Int32)), (.ref b2), (.ref b2)])) rfl rfl (hb hby at_122)
  have V61 : Arv Z h61 b2 k2 .int (23 : Int32) [(.int (2 : Int32)), (.int (1 : Int32)), (.int (1 : Int32)), (.int (1 : Int32)), (.int (1 : Int32)), (.int (1 : Int32)), (.int (1 : Int32)), (.int (2 : Int32)), (.int (2 : Int32)), (.int (2 : Int32)), (.int (2 : Int32)), (.int (1 : Int32)), (.int (1 : Int32)), (.int (1 : Int32)), (.int (1 : Int32)), (.int (1 : Int32)), (.int (1 : Int32)), (.int (1 : Int32)), (.int (1 : Int32)), (.int (0 : Int32)), (.int (0 : Int32)), (.int (0 : Int32)), (.int (0 : Int32))] (.int (0 : Int32)) := Arv.set Ar60 q60 S60 Nn60 H60 G60 rfl W61 18 rfl (Nat.le_of_ble_eq_true rfl)
  have N62 := Fr.snoc X61 N59 g_b2
  refine own_st (T' := T61) (g' := (mkF m 123 #[.val (.int p1), .val (.int p2), .val (.int p3), .val (.int q), .val (.int nn), .val (.int (2147483647 : Int32)), .unset, .unset, .unset] [(.ref b2)])) (st61) ?_
  refine own_st (T' := T61) (g' := (mkF m 124 #[.val (.int p1), .val (.int p2), .val (.int p3), .val (.int q), .val (.int nn), .val (.int (2147483647 : Int32)), .unset, .unset, .unset] [(.ref b2), (.ref b2)])) (fun _ kq => XS.dup X61.here hx rfl (hb hby at_123) rfl rfl kq) ?_
  refine own_st (T' := T61) (g' := (mkF m 126 #[.val (.int p1), .val (.int p2), .val (.int p3), .val (.int q), .val (.int nn), .val (.int (2147483647 : Int32)), .unset, .unset, .unset] [(.int (19 : Int32)), (.ref b2), (.ref b2)])) (fun _ kq => XS.bipush X61.here hx rfl (hb hby at_124) kq) ?_
  refine own_st (T' := T61) (g' := (mkF m 127 #[.val (.int p1), .val (.int p2), .val (.int p3), .val (.int q), .val (.int nn), .val (.int (2147483647 : Int32)), .unset, .unset, .unset] [(.int (1 : Int32)), (.int (19 : Int32)), (.ref b2), (.ref b2)])) (fun _ kq => XS.iconst X61.here hx rfl (hb hby at_126) kq) ?_
  obtain ⟨cl63, Ar63, q63, S63, Nn63, H63, G63⟩ := id V61
  have hin64 : ¬ ((19 : Int32) < 0 ∨ cl63.slots.size ≤ ((19 : Int32)).toNatClampNeg) := inb_of S63 ⟨by decide, by decide⟩
  obtain ⟨T64, h64, X64, e64, W64, st64⟩ := stI X61 hx hZ e61 Ar63 (j := (19 : Int32)) hin64 (g := (mkF m 127 #[.val (.int p1), .val (.int p2), .val (.int p3), .val (.int q), .val (.int nn), .val (.int (2147483647 : Int32)), .unset, .unset, .unset] [(.int (1 : Int32)), (.int (19 : Int32)), (.ref b2), (.ref b2)])) rfl rfl (hb hby at_127)
  have V64 : Arv Z h64 b2 k2 .int (23 : Int32) [(.int (2 : Int32)), (.int (1 : Int32)), (.int (1 : Int32)), (.int (1 : Int32)), (.int (1 : Int32)), (.int (1 : Int32)), (.int (1 : Int32)), (.int (2 : Int32)), (.int (2 : Int32)), (.int (2 : Int32)), (.int (2 : Int32)), (.int (1 : Int32)), (.int (1 : Int32)), (.int (1 : Int32)), (.int (1 : Int32)), (.int (1 : Int32)), (.int (1 : Int32)), (.int (1 : Int32)), (.int (1 : Int32)), (.int (1 : Int32)), (.int (0 : Int32)), (.int (0 : Int32)), (.int (0 : Int32))] (.int (0 : Int32)) := Arv.set Ar63 q63 S63 Nn63 H63 G63 rfl W64 19 rfl (Nat.le_of_ble_eq_true rfl)
  have N65 := Fr.snoc X64 N62 g_b2
  obtain ⟨LL66, Xp66, Np66⟩ : ∃ LL, Stand p l e room_1 s m #[(.int p1), (.int p2), (.int p3)] below meth c T64 LL 1 23 ∧ Fr n0 LL := ⟨_, X64, N65⟩
  refine own_st (T' := T64) (g' := (mkF m 128 #[.val (.int p1), .val (.int p2), .val (.int p3), .val (.int q), .val (.int nn), .val (.int (2147483647 : Int32)), .unset, .unset, .unset] [(.ref b2)])) (st64) ?_
  refine own_st (T' := T64) (g' := (mkF m 129 #[.val (.int p1), .val (.int p2), .val (.int p3), .val (.int q), .val (.int nn), .val (.int (2147483647 : Int32)), .unset, .unset, .unset] [(.ref b2), (.ref b2)])) (fun _ kq => XS.dup Xp66.here hx rfl (hb hby at_128) rfl rfl kq) ?_
  refine own_st (T' := T64) (g' := (mkF m 131 #[.val (.int p1), .val (.int p2), .val (.int p3), .val (.int q), .val (.int nn), .val (.int (2147483647 : Int32)), .unset, .unset, .unset] [(.int (20 : Int32)), (.ref b2), (.ref b2)])) (fun _ kq => XS.bipush Xp66.here hx rfl (hb hby at_129) kq) ?_
  refine own_st (T' := T64) (g' := (mkF m 132 #[.val (.int p1), .val (.int p2), .val (.int p3), .val (.int q), .val (.int nn), .val (.int (2147483647 : Int32)), .unset, .unset, .unset] [(.int (1 : Int32)), (.int (20 : Int32)), (.ref b2), (.ref b2)])) (fun _ kq => XS.iconst Xp66.here hx rfl (hb hby at_131) kq) ?_
  obtain ⟨cl67, Ar67, q67, S67, Nn67, H67, G67⟩ := id V64
  have hin68 : ¬ ((20 : Int32) < 0 ∨ cl67.slots.size ≤ ((20 : Int32)).toNatClampNeg) := inb_of S67 ⟨by decide, by decide⟩
  obtain ⟨T68, h68, X68, e68, W68, st68⟩ := stI Xp66 hx hZ e64 Ar67 (j := (20 : Int32)) hin68 (g := (mkF m 132 #[.val (.int p1), .val (.int p2), .val (.int p3), .val (.int q), .val (.int nn), .val (.int (2147483647 : Int32)), .unset, .unset, .unset] [(.int (1 : Int32)), (.int (20 : Int32)), (.ref b2), (.ref b2)])) rfl rfl (hb hby at_132)
  have V68 : Arv Z h68 b2 k2 .int (23 : Int32) [(.int (2 : Int32)), (.int (1 : Int32)), (.int (1 : Int32)), (.int (1 : Int32)), (.int (1 : Int32)), (.int (1 : Int32)), (.int (1 : Int32)), (.int (2 : Int32)), (.int (2 : Int32)), (.int (2 : Int32)), (.int (2 : Int32)), (.int (1 : Int32)), (.int (1 : Int32)), (.int (1 : Int32)), (.int (1 : Int32)), (.int (1 : Int32)), (.int (1 : Int32)), (.int (1 : Int32)), (.int (1 : Int32)), (.int (1 : Int32)), (.int (1 : Int32)), (.int (0 : Int32)), (.int (0 : Int32))] (.int (0 : Int32)) := Arv.set Ar67 q67 S67 Nn67 H67 G67 rfl W68 20 rfl (Nat.le_of_ble_eq_true rfl)
  have N69 := Fr.snoc X68 Np66 g_b2
  refine own_st (T' := T68) (g' := (mkF m 133 #[.val (.int p1), .val (.int p2), .val (.int p3), .val (.int q), .val (.int nn), .val (.int (2147483647 : Int32)), .unset, .unset, .unset] [(.ref b2)])) (st68) ?_
  refine own_st (T' := T68) (g' := (mkF m 134 #[.val (.int p1), .val (.int p2), .val (.int p3), .val (.int q), .val (.int nn), .val (.int (2147483647 : Int32)), .unset, .unset, .unset] [(.ref b2), (.ref b2)])) (fun _ kq => XS.dup X68.here hx rfl (hb hby at_133) rfl rfl kq) ?_
  refine own_st (T' := T68) (g' := (mkF m 136 #[.val (.int p1), .val (.int p2), .val (.int p3), .val (.int q), .val (.int nn), .val (.int (2147483647 : Int32)), .unset, .unset, .unset] [(.int (21 : Int32)), (.ref b2), (.ref b2)])) (fun _ kq => XS.bipush X68.here hx rfl (hb hby at_134) kq) ?_
  refine own_st (T' := T68) (g' := (mkF m 137 #[.val (.int p1), .val (.int p2), .val (.int p3), .val (.int q), .val (.int nn), .val (.int (2147483647 : Int32)), .unset, .unset, .unset] [(.int (1 : Int32)), (.int (21 : Int32)), (.ref b2), (.ref b2)])) (fun _ kq => XS.iconst X68.here hx rfl (hb hby at_136) kq) ?_
  obtain ⟨cl70, Ar70, q70, S70, Nn70, H70, G70⟩ := id V68
  have hin71 : ¬ ((21 : Int32) < 0 ∨ cl70.slots.size ≤ ((21 : Int32)).toNatClampNeg) := inb_of S70 ⟨by decide, by decide⟩
  obtain ⟨T71, h71, X71, e71, W71, st71⟩ := stI X68 hx hZ e68 Ar70 (j := (21 : Int32)) hin71 (g := (mkF m 137 #[.val (.int p1), .val (.int p2), .val (.int p3), .val (.int q), .val (.int nn), .val (.int (2147483647 : Int32)), .unset, .unset, .unset] [(.int (1 : Int32)), (.int (21 : Int32)), (.ref b2), (.ref b2)])) rfl rfl (hb hby at_137)
  have V71 : Arv Z h71 b2 k2 .int (23 : Int32) [(.int (2 : Int32)), (.int (1 : Int32)), (.int (1 : Int32)), (.int (1 : Int32)), (.int (1 : Int32)), (.int (1 : Int32)), (.int (1 : Int32)), (.int (2 : Int32)), (.int (2 : Int32)), (.int (2 : Int32)), (.int (2 : Int32)), (.int (1 : Int32)), (.int (1 : Int32)), (.int (1 : Int32)), (.int (1 : Int32)), (.int (1 : Int32)), (.int (1 : Int32)), (.int (1 : Int32)), (.int (1 : Int32)), (.int (1 : Int32)), (.int (1 : Int32)), (.int (1 : Int32)), (.int (0 : Int32))] (.int (0 : Int32)) := Arv.set Ar70 q70 S70 Nn70 H70 G70 rfl W71 21 rfl (Nat.le_of_ble_eq_true rfl)
  have N72 := Fr.snoc X71 N69 g_b2
  refine own_st (T' := T71) (g' := (mkF m 138 #[.val (.int p1), .val (.int p2), .val (.int p3), .val (.int q), .val (.int nn), .val (.int (2147483647 : Int32)), .unset, .unset, .unset] [(.ref b2)])) (st71) ?_
  refine own_st (T' := T71) (g' := (mkF m 139 #[.val (.int p1), .val (.int p2), .val (.int p3), .val (.int q), .val (.int nn), .val (.int (2147483647 : Int32)), .unset, .unset, .unset] [(.ref b2), (.ref b2)])) (fun _ kq => XS.dup X71.here hx rfl (hb hby at_138) rfl rfl kq) ?_
  refine own_st (T' := T71) (g' := (mkF m 141 #[.val (.int p1), .val (.int p2), .val (.int p3), .val (.int q), .val (.int nn), .val (.int (2147483647 : Int32)), .unset, .unset, .unset] [(.int (22 : Int32)), (.ref b2), (.ref b2)])) (fun _ kq => XS.bipush X71.here hx rfl (hb hby at_139) kq) ?_
  refine own_st (T' := T71) (g' := (mkF m 142 #[.val (.int p1), .val (.int p2), .val (.int p3), .val (.int q), .val (.int nn), .val (.int (2147483647 : Int32)), .unset, .unset, .unset] [(.int (2 : Int32)), (.int (22 : Int32)), (.ref b2), (.ref b2)])) (fun _ kq => XS.iconst X71.here hx rfl (hb hby at_141) kq) ?_
  obtain ⟨cl73, Ar73, q73, S73, Nn73, H73, G73⟩ := id V71
  have hin74 : ¬ ((22 : Int32) < 0 ∨ cl73.slots.size ≤ ((22 : Int32)).toNatClampNeg) := inb_of S73 ⟨by decide, by decide⟩
  obtain ⟨T74, h74, X74, e74, W74, st74⟩ := stI X71 hx hZ e71 Ar73 (j := (22 : Int32)) hin74 (g := (mkF m 142 #[.val (.int p1), .val (.int p2), .val (.int p3), .val (.int q), .val (.int nn), .val (.int (2147483647 : Int32)), .unset, .unset, .unset] [(.int (2 : Int32)), (.int (22 : Int32)), (.ref b2), (.ref b2)])) rfl rfl (hb hby at_142)
  have V74 : Arv Z h74 b2 k2 .int (23 : Int32) [(.int (2 : Int32)), (.int (1 : Int32)), (.int (1 : Int32)), (.int (1 : Int32)), (.int (1 : Int32)), (.int (1 : Int32)), (.int (1 : Int32)), (.int (2 : Int32)), (.int (2 : Int32)), (.int (2 : Int32)), (.int (2 : Int32)), (.int (1 : Int32)), (.int (1 : Int32)), (.int (1 : Int32)), (.int (1 : Int32)), (.int (1 : Int32)), (.int (1 : Int32)), (.int (1 : Int32)), (.int (1 : Int32)), (.int (1 : Int32)), (.int (1 : Int32)), (.int (1 : Int32)), (.int (2 : Int32))] (.int (0 : Int32)) := Arv.set Ar73 q73 S73 Nn73 H73 G73 rfl W74 22 rfl (Nat.le_of_ble_eq_true rfl)
  have N75 := Fr.snoc X74 N72 g_b2
  refine own_st (T' := T74) (g' := (mkF m 143 #[.val (.int p1), .val (.int p2), .val (.int p3), .val (.int q), .val (.int nn), .val (.int (2147483647 : Int32)), .unset, .unset, .unset] [(.ref b2)])) (st74) ?_
  refine own_st (T' := T74) (g' := (mkF m 145 #[.val (.int p1), .val (.int p2), .val (.int p3), .val (.int q), .val (.int nn), .val (.int (2147483647 : Int32)), .val (.ref b2), .unset, .unset] [])) (fun _ kq => XS.astore X74.here hx rfl (hb hby at_143) rfl rfl (l' := #[.val (.int p1), .val (.int p2), .val (.int p3), .val (.int q), .val (.int nn), .val (.int (2147483647 : Int32)), .val (.ref b2), .unset, .unset]) rfl kq) ?_
  refine own_st (T' := T74) (g' := (mkF m 147 #[.val (.int p1), .val (.int p2), .val (.int p3), .val (.int q), .val (.int nn), .val (.int (2147483647 : Int32)), .val (.ref b2), .unset, .unset] [(.int (23 : Int32))])) (fun _ kq => XS.bipush X74.here hx rfl (hb hby at_145) kq) ?_
  obtain ⟨T76, h76, k76, X76, e76, E76, A76, Ax76, st76⟩ := newPE X74 hx hZ (hw _ (List.mem_of_getElem? (i := 1) rfl)) e74 (g := (mkF m 147 #[.val (.int p1), .val (.int p2), .val (.int p3), .val (.int q), .val (.int nn), .val (.int (2147483647 : Int32)), .val (.ref b2), .unset, .unset] [(.int (23 : Int32))])) rfl (hb hby at_147) rfl (by decide) (cap := 23) (by decide) (by decide) (by decide) (by decide) (ad := "[I") rfl
  obtain ⟨b76, g76⟩ : ∃ z, z = h74.size := ⟨_, rfl⟩
  rw [← g76] at A76 Ax76 st76
  have ne_b2_b76 : b2 ≠ b76 := Nat.ne_of_lt (Nat.lt_of_lt_of_le V74.lt (Nat.le_of_eq g76.symm))
  have O77 : Old Z n0 h74 := ((((((((((((((((((((((((O0.ext E2).wr W4 g_b2).wr W7 g_b2).wr W10 g_b2).wr W13 g_b2).wr W16 g_b2).wr W20 g_b2).wr W23 g_b2).wr W26 g_b2).wr W29 g_b2).wr W32 g_b2).wr W36 g_b2).wr W39 g_b2).wr W42 g_b2).wr W45 g_b2).wr W48 g_b2).wr W52 g_b2).wr W55 g_b2).wr W58 g_b2).wr W61 g_b2).wr W64 g_b2).wr W68 g_b2).wr W71 g_b2).wr W74 g_b2)
  have g_b76 : n0 ≤ b76 := Nat.le_trans (own_old O77) (Nat.le_of_eq g76.symm)
  have K78 : Keep h0 h74 [] := (((((((((((((((((((((((((Keep.refl h0 []).ext E2).wr W4 (Or.inr sz_b2)).wr W7 (Or.inr sz_b2)).wr W10 (Or.inr sz_b2)).wr W13 (Or.inr sz_b2)).wr W16 (Or.inr sz_b2)).wr W20 (Or.inr sz_b2)).wr W23 (Or.inr sz_b2)).wr W26 (Or.inr sz_b2)).wr W29 (Or.inr sz_b2)).wr W32 (Or.inr sz_b2)).wr W36 (Or.inr sz_b2)).wr W39 (Or.inr sz_b2)).wr W42 (Or.inr sz_b2)).wr W45 (Or.inr sz_b2)).wr W48 (Or.inr sz_b2)).wr W52 (Or.inr sz_b2)).wr W55 (Or.inr sz_b2)).wr W58 (Or.inr sz_b2)).wr W61 (Or.inr sz_b2)).wr W64 (Or.inr sz_b2)).wr W68 (Or.inr sz_b2)).wr W71 (Or.inr sz_b2)).wr W74 (Or.inr sz_b2))
  have sz_b76 : h0.size ≤ b76 := Nat.le_trans K78.1 (Nat.le_of_eq g76.symm)
  have V76 : Arv Z h76 b76 k76 .int (23 : Int32) [(.int (0 : Int32)), (.int (0 : Int32)), (.int (0 : Int32)), (.int (0 : Int32)), (.int (0 : Int32)), (.int (0 : Int32)), (.int (0 : Int32)), (.int (0 : Int32)), (.int (0 : Int32)), (.int (0 : Int32)), (.int (0 : Int32)), (.int (0 : Int32)), (.int (0 : Int32)), (.int (0 : Int32)), (.int (0 : Int32)), (.int (0 : Int32)), (.int (0 : Int32)), (.int (0 : Int32)), (.int (0 : Int32)), (.int (0 : Int32)), (.int (0 : Int32)), (.int (0 : Int32)), (.int (0 : Int32))] (.int (0 : Int32)) := (Arv.new A76 (by decide)).pad (pad_rep [] (.int (0 : Int32)) 23)
  refine own_st (T' := T76) (g' := (mkF m 149 #[.val (.int p1), .val (.int p2), .val (.int p3), .val (.int q), .val (.int nn), .val (.int (2147483647 : Int32)), .val (.ref b2), .unset, .unset] [(.ref b76)])) (st76) ?_
  refine own_st (T' := T76) (g' := (mkF m 150 #[.val (.int p1), .val (.int p2), .val (.int p3), .val (.int q), .val (.int nn), .val (.int (2147483647 : Int32)), .val (.ref b2), .unset, .unset] [(.ref b76), (.ref b76)])) (fun _ kq => XS.dup X76.here hx rfl (hb hby at_149) rfl rfl kq) ?_
  refine own_st (T' := T76) (g' := (mkF m 151 #[.val (.int p1), .val (.int p2), .val (.int p3), .val (.int q), .val (.int nn), .val (.int (2147483647 : Int32)), .val (.ref b2), .unset, .unset] [(.int (0 : Int32)), (.ref b76), (.ref b76)])) (fun _ kq => XS.iconst X76.here hx rfl (hb hby at_150) kq) ?_
  refine own_st (T' := T76) (g' := (mkF m 152 #[.val (.int p1), .val (.int p2), .val (.int p3), .val (.int q), .val (.int nn), .val (.int (2147483647 : Int32)), .val (.ref b2), .unset, .unset] [(.int (2 : Int32)), (.int (0 : Int32)), (.ref b76), (.ref b76)])) (fun _ kq => XS.iconst X76.here hx rfl (hb hby at_151) kq) ?_
  obtain ⟨cl79, Ar79, q79, S79, Nn79, H79, G79⟩ := id V76
  have hin80 : ¬ ((0 : Int32) < 0 ∨ cl79.slots.size ≤ ((0 : Int32)).toNatClampNeg) := inb_of S79 ⟨by decide, by decide⟩
  obtain ⟨T80, h80, X80, e80, W80, st80⟩ := stI X76 hx hZ e76 Ar79 (j := (0 : Int32)) hin80 (g := (mkF m 152 #[.val (.int p1), .val (.int p2), .val (.int p3), .val (.int q), .val (.int nn), .val (.int (2147483647 : Int32)), .val (.ref b2), .unset, .unset] [(.int (2 : Int32)), (.int (0 : Int32)), (.ref b76), (.ref b76)])) rfl rfl (hb hby at_152)
  have V80 : Arv Z h80 b76 k76 .int (23 : Int32) [(.int (2 : Int32)), (.int (0 : Int32)), (.int (0 : Int32)), (.int (0 : Int32)), (.int (0 : Int32)), (.int (0 : Int32)), (.int (0 : Int32)), (.int (0 : Int32)), (.int (0 : Int32)), (.int (0 : Int32)), (.int (0 : Int32)), (.int (0 : Int32)), (.int (0 : Int32)), (.int (0 : Int32)), (.int (0 : Int32)), (.int (0 : Int32)), (.int (0 : Int32)), (.int (0 : Int32)), (.int (0 : Int32)), (.int (0 : Int32)), (.int (0 : Int32)), (.int (0 : Int32)), (.int (0 : Int32))] (.int (0 : Int32)) := Arv.set Ar79 q79 S79 Nn79 H79 G79 rfl W80 0 rfl (Nat.le_of_ble_eq_true rfl)
  have N81 := Fr.snoc X80 N75 g_b76
  refine own_st (T' := T80) (g' := (mkF m 153 #[.val (.int p1), .val (.int p2), .val (.int p3), .val (.int q), .val (.int nn), .val (.int (2147483647 : Int32)), .val (.ref b2), .unset, .unset] [(.ref b76)])) (st80) ?_
  refine own_st (T' := T80) (g' := (mkF m 154 #[.val (.int p1), .val (.int p2), .val (.int p3), .val (.int q), .val (.int nn), .val (.int (2147483647 : Int32)), .val (.ref b2), .unset, .unset] [(.ref b76), (.ref b76)])) (fun _ kq => XS.dup X80.here hx rfl (hb hby at_153) rfl rfl kq) ?_
  refine own_st (T' := T80) (g' := (mkF m 155 #[.val (.int p1), .val (.int p2), .val (.int p3), .val (.int q), .val (.int nn), .val (.int (2147483647 : Int32)), .val (.ref b2), .unset, .unset] [(.int (1 : Int32)), (.ref b76), (.ref b76)])) (fun _ kq => XS.iconst X80.here hx rfl (hb hby at_154) kq) ?_
  refine own_st (T' := T80) (g' := (mkF m 156 #[.val (.int p1), .val (.int p2), .val (.int p3), .val (.int q), .val (.int nn), .val (.int (2147483647 : Int32)), .val (.ref b2), .unset, .unset] [(.int (1 : Int32)), (.int (1 : Int32)), (.ref b76), (.ref b76)])) (fun _ kq => XS.iconst X80.here hx rfl (hb hby at_155) kq) ?_
  obtain ⟨cl82, Ar82, q82, S82, Nn82, H82, G82⟩ := id V80
  have hin83 : ¬ ((1 : Int32) < 0 ∨ cl82.slots.size ≤ ((1 : Int32)).toNatClampNeg) := inb_of S82 ⟨by decide, by decide⟩
  obtain ⟨T83, h83, X83, e83, W83, st83⟩ := stI X80 hx hZ e80 Ar82 (j := (1 : Int32)) hin83 (g := (mkF m 156 #[.val (.int p1), .val (.int p2), .val (.int p3), .val (.int q), .val (.int nn), .val (.int (2147483647 : Int32)), .val (.ref b2), .unset, .unset] [(.int (1 : Int32)), (.int (1 : Int32)), (.ref b76), (.ref b76)])) rfl rfl (hb hby at_156)
  have V83 : Arv Z h83 b76 k76 .int (23 : Int32) [(.int (2 : Int32)), (.int (1 : Int32)), (.int (0 : Int32)), (.int (0 : Int32)), (.int (0 : Int32)), (.int (0 : Int32)), (.int (0 : Int32)), (.int (0 : Int32)), (.int (0 : Int32)), (.int (0 : Int32)), (.int (0 : Int32)), (.int (0 : Int32)), (.int (0 : Int32)), (.int (0 : Int32)), (.int (0 : Int32)), (.int (0 : Int32)), (.int (0 : Int32)), (.int (0 : Int32)), (.int (0 : Int32)), (.int (0 : Int32)), (.int (0 : Int32)), (.int (0 : Int32)), (.int (0 : Int32))] (.int (0 : Int32)) := Arv.set Ar82 q82 S82 Nn82 H82 G82 rfl W83 1 rfl (Nat.le_of_ble_eq_true rfl)
  have N84 := Fr.snoc X83 N81 g_b76
  obtain ⟨LL85, Xp85, Np85⟩ : ∃ LL, Stand p l e room_1 s m #[(.int p1), (.int p2), (.int p3)] below meth c T83 LL 2 46 ∧ Fr n0 LL := ⟨_, X83, N84⟩
  refine own_st (T' := T83) (g' := (mkF m 157 #[.val (.int p1), .val (.int p2), .val (.int p3), .val (.int q), .val (.int nn), .val (.int (2147483647 : Int32)), .val (.ref b2), .unset, .unset] [(.ref b76)])) (st83) ?_
  refine own_st (T' := T83) (g' := (mkF m 158 #[.val (.int p1), .val (.int p2), .val (.int p3), .val (.int q), .val (.int nn), .val (.int (2147483647 : Int32)), .val (.ref b2), .unset, .unset] [(.ref b76), (.ref b76)])) (fun _ kq => XS.dup Xp85.here hx rfl (hb hby at_157) rfl rfl kq) ?_
  refine own_st (T' := T83) (g' := (mkF m 159 #[.val (.int p1), .val (.int p2), .val (.int p3), .val (.int q), .val (.int nn), .val (.int (2147483647 : Int32)), .val (.ref b2), .unset, .unset] [(.int (2 : Int32)), (.ref b76), (.ref b76)])) (fun _ kq => XS.iconst Xp85.here hx rfl (hb hby at_158) kq) ?_
  refine own_st (T' := T83) (g' := (mkF m 160 #[.val (.int p1), .val (.int p2), .val (.int p3), .val (.int q), .val (.int nn), .val (.int (2147483647 : Int32)), .val (.ref b2), .unset, .unset] [(.int (1 : Int32)), (.int (2 : Int32)), (.ref b76), (.ref b76)])) (fun _ kq => XS.iconst Xp85.here hx rfl (hb hby at_159) kq) ?_
  obtain ⟨cl86, Ar86, q86, S86, Nn86, H86, G86⟩ := id V83
  have hin87 : ¬ ((2 : Int32) < 0 ∨ cl86.slots.size ≤ ((2 : Int32)).toNatClampNeg) := inb_of S86 ⟨by decide, by decide⟩
  obtain ⟨T87, h87, X87, e87, W87, st87⟩ := stI Xp85 hx hZ e83 Ar86 (j := (2 : Int32)) hin87 (g := (mkF m 160 #[.val (.int p1), .val (.int p2), .val (.int p3), .val (.int q), .val (.int nn), .val (.int (2147483647 : Int32)), .val (.ref b2), .unset, .unset] [(.int (1 : Int32)), (.int (2 : Int32)), (.ref b76), (.ref b76)])) rfl rfl (hb hby at_160)
  have V87 : Arv Z h87 b76 k76 .int (23 : Int32) [(.int (2 : Int32)), (.int (1 : Int32)), (.int (1 : Int32)), (.int (0 : Int32)), (.int (0 : Int32)), (.int (0 : Int32)), (.int (0 : Int32)), (.int (0 : Int32)), (.int (0 : Int32)), (.int (0 : Int32)), (.int (0 : Int32)), (.int (0 : Int32)), (.int (0 : Int32)), (.int (0 : Int32)), (.int (0 : Int32)), (.int (0 : Int32)), (.int (0 : Int32)), (.int (0 : Int32)), (.int (0 : Int32)), (.int (0 : Int32)), (.int (0 : Int32)), (.int (0 : Int32)), (.int (0 : Int32))] (.int (0 : Int32)) := Arv.set Ar86 q86 S86 Nn86 H86 G86 rfl W87 2 rfl (Nat.le_of_ble_eq_true rfl)
  have N88 := Fr.snoc X87 Np85 g_b76
  refine own_st (T' := T87) (g' := (mkF m 161 #[.val (.int p1), .val (.int p2), .val (.int p3), .val (.int q), .val (.int nn), .val (.int (2147483647 : Int32)), .val (.ref b2), .unset, .unset] [(.ref b76)])) (st87) ?_
  refine own_st (T' := T87) (g' := (mkF m 162 #[.val (.int p1), .val (.int p2), .val (.int p3), .val (.int q), .val (.int nn), .val (.int (2147483647 : Int32)), .val (.ref b2), .unset, .unset] [(.ref b76), (.ref b76)])) (fun _ kq => XS.dup X87.here hx rfl (hb hby at_161) rfl rfl kq) ?_
  refine own_st (T' := T87) (g' := (mkF m 163 #[.val (.int p1), .val (.int p2), .val (.int p3), .val (.int q), .val (.int nn), .val (.int (2147483647 : Int32)), .val (.ref b2), .unset, .unset] [(.int (3 : Int32)), (.ref b76), (.ref b76)])) (fun _ kq => XS.iconst X87.here hx rfl (hb hby at_162) kq) ?_
  refine own_st (T' := T87) (g' := (mkF m 164 #[.val (.int p1), .val (.int p2), .val (.int p3), .val (.int q), .val (.int nn), .val (.int (2147483647 : Int32)), .val (.ref b2), .unset, .unset] [(.int (1 : Int32)), (.int (3 : Int32)), (.ref b76), (.ref b76)])) (fun _ kq => XS.iconst X87.here hx rfl (hb hby at_163) kq) ?_
  obtain ⟨cl89, Ar89, q89, S89, Nn89, H89, G89⟩ := id V87
  have hin90 : ¬ ((3 : Int32) < 0 ∨ cl89.slots.size ≤ ((3 : Int32)).toNatClampNeg) := inb_of S89 ⟨by decide, by decide⟩
  obtain ⟨T90, h90, X90, e90, W90, st90⟩ := stI X87 hx hZ e87 Ar89 (j := (3 : Int32)) hin90 (g := (mkF m 164 #[.val (.int p1), .val (.int p2), .val (.int p3), .val (.int q), .val (.int nn), .val (.int (2147483647 : Int32)), .val (.ref b2), .unset, .unset] [(.int (1 : Int32)), (.int (3 : Int32)), (.ref b76), (.ref b76)])) rfl rfl (hb hby at_164)
  have V90 : Arv Z h90 b76 k76 .int (23 : Int32) [(.int (2 : Int32)), (.int (1 : Int32)), (.int (1 : Int32)), (.int (1 : Int32)), (.int (0 : Int32)), (.int (0 : Int32)), (.int (0 : Int32)), (.int (0 : Int32)), (.int (0 : Int32)), (.int (0 : Int32)), (.int (0 : Int32)), (.int (0 : Int32)), (.int (0 : Int32)), (.int (0 : Int32)), (.int (0 : Int32)), (.int (0 : Int32)), (.int (0 : Int32)), (.int (0 : Int32)), (.int (0 : Int32)), (.int (0 : Int32)), (.int (0 : Int32)), (.int (0 : Int32)), (.int (0 : Int32))] (.int (0 : Int32)) := Arv.set Ar89 q89 S89 Nn89 H89 G89 rfl W90 3 rfl (Nat.le_of_ble_eq_true rfl)
  have N91 := Fr.snoc X90 N88 g_b76
  refine own_st (T' := T90) (g' := (mkF m 165 #[.val (.int p1), .val (.int p2), .val (.int p3), .val (.int q), .val (.int nn), .val (.int (2147483647 : Int32)), .val (.ref b2), .unset, .unset] [(.ref b76)])) (st90) ?_
  refine own_st (T' := T90) (g' := (mkF m 166 #[.val (.int p1), .val (.int p2), .val (.int p3), .val (.int q), .val (.int nn), .val (.int (2147483647 : Int32)), .val (.ref b2), .unset, .unset] [(.ref b76), (.ref b76)])) (fun _ kq => XS.dup X90.here hx rfl (hb hby at_165) rfl rfl kq) ?_
  refine own_st (T' := T90) (g' := (mkF m 167 #[.val (.int p1), .val (.int p2), .val (.int p3), .val (.int q), .val (.int nn), .val (.int (2147483647 : Int32)), .val (.ref b2), .unset, .unset] [(.int (4 : Int32)), (.ref b76), (.ref b76)])) (fun _ kq => XS.iconst X90.here hx rfl (hb hby at_166) kq) ?_
  refine own_st (T' := T90) (g' := (mkF m 168 #[.val (.int p1), .val (.int p2), .val (.int p3), .val (.int q), .val (.int nn), .val (.int (2147483647 : Int32)), .val (.ref b2), .unset, .unset] [(.int (1 : Int32)), (.int (4 : Int32)), (.ref b76), (.ref b76)])) (fun _ kq => XS.iconst X90.here hx rfl (hb hby at_167) kq) ?_
  obtain ⟨cl92, Ar92, q92, S92, Nn92, H92, G92⟩ := id V90
  have hin93 : ¬ ((4 : Int32) < 0 ∨ cl92.slots.size ≤ ((4 : Int32)).toNatClampNeg) := inb_of S92 ⟨by decide, by decide⟩
  obtain ⟨T93, h93, X93, e93, W93, st93⟩ := stI X90 hx hZ e90 Ar92 (j := (4 : Int32)) hin93 (g := (mkF m 168 #[.val (.int p1), .val (.int p2), .val (.int p3), .val (.int q), .val (.int nn), .val (.int (2147483647 : Int32)), .val (.ref b2), .unset, .unset] [(.int (1 : Int32)), (.int (4 : Int32)), (.ref b76), (.ref b76)])) rfl rfl (hb hby at_168)
  have V93 : Arv Z h93 b76 k76 .int (23 : Int32) [(.int (2 : Int32)), (.int (1 : Int32)), (.int (1 : Int32)), (.int (1 : Int32)), (.int (1 : Int32)), (.int (0 : Int32)), (.int (0 : Int32)), (.int (0 : Int32)), (.int (0 : Int32)), (.int (0 : Int32)), (.int (0 : Int32)), (.int (0 : Int32)), (.int (0 : Int32)), (.int (0 : Int32)), (.int (0 : Int32)), (.int (0 : Int32)), (.int (0 : Int32)), (.int (0 : Int32)), (.int (0 : Int32)), (.int (0 : Int32)), (.int (0 : Int32)), (.int (0 : Int32)), (.int (0 : Int32))] (.int (0 : Int32)) := Arv.set Ar92 q92 S92 Nn92 H92 G92 rfl W93 4 rfl (Nat.le_of_ble_eq_true rfl)
  have N94 := Fr.snoc X93 N91 g_b76
  refine own_st (T' := T93) (g' := (mkF m 169 #[.val (.int p1), .val (.int p2), .val (.int p3), .val (.int q), .val (.int nn), .val (.int (2147483647 : Int32)), .val (.ref b2), .unset, .unset] [(.ref b76)])) (st93) ?_
  refine own_st (T' := T93) (g' := (mkF m 170 #[.val (.int p1), .val (.int p2), .val (.int p3), .val (.int q), .val (.int nn), .val (.int (2147483647 : Int32)), .val (.ref b2), .unset, .unset] [(.ref b76), (.ref b76)])) (fun _ kq => XS.dup X93.here hx rfl (hb hby at_169) rfl rfl kq) ?_
  refine own_st (T' := T93) (g' := (mkF m 171 #[.val (.int p1), .val (.int p2), .val (.int p3), .val (.int q), .val (.int nn), .val (.int (2147483647 : Int32)), .val (.ref b2), .unset, .unset] [(.int (5 : Int32)), (.ref b76), (.ref b76)])) (fun _ kq => XS.iconst X93.here hx rfl (hb hby at_170) kq) ?_
  refine own_st (T' := T93) (g' := (mkF m 172 #[.val (.int p1), .val (.int p2), .val (.int p3), .val (.int q), .val (.int nn), .val (.int (2147483647 : Int32)), .val (.ref b2), .unset, .unset] [(.int (2 : Int32)), (.int (5 : Int32)), (.ref b76), (.ref b76)])) (fun _ kq => XS.iconst X93.here hx rfl (hb hby at_171) kq) ?_
  obtain ⟨cl95, Ar95, q95, S95, Nn95, H95, G95⟩ := id V93
  have hin96 : ¬ ((5 : Int32) < 0 ∨ cl95.slots.size ≤ ((5 : Int32)).toNatClampNeg) := inb_of S95 ⟨by decide, by decide⟩
  obtain ⟨T96, h96, X96, e96, W96, st96⟩ := stI X93 hx hZ e93 Ar95 (j := (5 : Int32)) hin96 (g := (mkF m 172 #[.val (.int p1), .val (.int p2), .val (.int p3), .val (.int q), .val (.int nn), .val (.int (2147483647 : Int32)), .val (.ref b2), .unset, .unset] [(.int (2 : Int32)), (.int (5 : Int32)), (.ref b76), (.ref b76)])) rfl rfl (hb hby at_172)
  have V96 : Arv Z h96 b76 k76 .int (23 : Int32) [(.int (2 : Int32)), (.int (1 : Int32)), (.int (1 : Int32)), (.int (1 : Int32)), (.int (1 : Int32)), (.int (2 : Int32)), (.int (0 : Int32)), (.int (0 : Int32)), (.int (0 : Int32)), (.int (0 : Int32)), (.int (0 : Int32)), (.int (0 : Int32)), (.int (0 : Int32)), (.int (0 : Int32)), (.int (0 : Int32)), (.int (0 : Int32)), (.int (0 : Int32)), (.int (0 : Int32)), (.int (0 : Int32)), (.int (0 : Int32)), (.int (0 : Int32)), (.int (0 : Int32)), (.int (0 : Int32))] (.int (0 : Int32)) := Arv.set Ar95 q95 S95 Nn95 H95 G95 rfl W96 5 rfl (Nat.le_of_ble_eq_true rfl)
  have N97 := Fr.snoc X96 N94 g_b76
  refine own_st (T' := T96) (g' := (mkF m 173 #[.val (.int p1), .val (.int p2), .val (.int p3), .val (.int q), .val (.int nn), .val (.int (2147483647 : Int32)), .val (.ref b2), .unset, .unset] [(.ref b76)])) (st96) ?_
  refine own_st (T' := T96) (g' := (mkF m 174 #[.val (.int p1), .val (.int p2), .val (.int p3), .val (.int q), .val (.int nn), .val (.int (2147483647 : Int32)), .val (.ref b2), .unset, .unset] [(.ref b76), (.ref b76)])) (fun _ kq => XS.dup X96.here hx rfl (hb hby at_173) rfl rfl kq) ?_
  refine own_st (T' := T96) (g' := (mkF m 176 #[.val (.int p1), .val (.int p2), .val (.int p3), .val (.int q), .val (.int nn), .val (.int (2147483647 : Int32)), .val (.ref b2), .unset, .unset] [(.int (6 : Int32)), (.ref b76), (.ref b76)])) (fun _ kq => XS.bipush X96.here hx rfl (hb hby at_174) kq) ?_
  refine own_st (T' := T96) (g' := (mkF m 177 #[.val (.int p1), .val (.int p2), .val (.int p3), .val (.int q), .val (.int nn), .val (.int (2147483647 : Int32)), .val (.ref b2), .unset, .unset] [(.int (2 : Int32)), (.int (6 : Int32)), (.ref b76), (.ref b76)])) (fun _ kq => XS.iconst X96.here hx rfl (hb hby at_176) kq) ?_
  obtain ⟨cl98, Ar98, q98, S98, Nn98, H98, G98⟩ := id V96
  have hin99 : ¬ ((6 : Int32) < 0 ∨ cl98.slots.size ≤ ((6 : Int32)).toNatClampNeg) := inb_of S98 ⟨by decide, by decide⟩
  obtain ⟨T99, h99, X99, e99, W99, st99⟩ := stI X96 hx hZ e96 Ar98 (j := (6 : Int32)) hin99 (g := (mkF m 177 #[.val (.int p1), .val (.int p2), .val (.int p3), .val (.int q), .val (.int nn), .val (.int (2147483647 : Int32)), .val (.ref b2), .unset, .unset] [(.int (2 : Int32)), (.int (6 : Int32)), (.ref b76), (.ref b76)])) rfl rfl (hb hby at_177)
  have V99 : Arv Z h99 b76 k76 .int (23 : Int32) [(.int (2 : Int32)), (.int (1 : Int32)), (.int (1 : Int32)), (.int (1 : Int32)), (.int (1 : Int32)), (.int (2 : Int32)), (.int (2 : Int32)), (.int (0 : Int32)), (.int (0 : Int32)), (.int (0 : Int32)), (.int (0 : Int32)), (.int (0 : Int32)), (.int (0 : Int32)), (.int (0 : Int32)), (.int (0 : Int32)), (.int (0 : Int32)), (.int (0 : Int32)), (.int (0 : Int32)), (.int (0 : Int32)), (.int (0 : Int32)), (.int (0 : Int32)), (.int (0 : Int32)), (.int (0 : Int32))] (.int (0 : Int32)) := Arv.set Ar98 q98 S98 Nn98 H98 G98 rfl W99 6 rfl (Nat.le_of_ble_eq_true rfl)
  have N100 := Fr.snoc X99 N97 g_b76
  obtain ⟨LL101, Xp101, Np101⟩ : ∃ LL, Stand p l e room_1 s m #[(.int p1), (.int p2), (.int p3)] below meth c T99 LL 2 46 ∧ Fr n0 LL := ⟨_, X99, N100⟩
  refine own_st (T' := T99) (g' := (mkF m 178 #[.val (.int p1), .val (.int p2), .val (.int p3), .val (.int q), .val (.int nn), .val (.int (2147483647 : Int32)), .val (.ref b2), .unset, .unset] [(.ref b76)])) (st99) ?_
  refine own_st (T' := T99) (g' := (mkF m 179 #[.val (.int p1), .val (.int p2), .val (.int p3), .val (.int q), .val (.int nn), .val (.int (2147483647 : Int32)), .val (.ref b2), .unset, .unset] [(.ref b76), (.ref b76)])) (fun _ kq => XS.dup Xp101.here hx rfl (hb hby at_178) rfl rfl kq) ?_
  refine own_st (T' := T99) (g' := (mkF m 181 #[.val (.int p1), .val (.int p2), .val (.int p3), .val (.int q), .val (.int nn), .val (.int (2147483647 : Int32)), .val (.ref b2), .unset, .unset] [(.int (7 : Int32)), (.ref b76), (.ref b76)])) (fun _ kq => XS.bipush Xp101.here hx rfl (hb hby at_179) kq) ?_
  refine own_st (T' := T99) (g' := (mkF m 182 #[.val (.int p1), .val (.int p2), .val (.int p3), .val (.int q), .val (.int nn), .val (.int (2147483647 : Int32)), .val (.ref b2), .unset, .unset] [(.int (3 : Int32)), (.int (7 : Int32)), (.ref b76), (.ref b76)])) (fun _ kq => XS.iconst Xp101.here hx rfl (hb hby at_181) kq) ?_
  obtain ⟨cl102, Ar102, q102, S102, Nn102, H102, G102⟩ := id V99
  have hin103 : ¬ ((7 : Int32) < 0 ∨ cl102.slots.size ≤ ((7 : Int32)).toNatClampNeg) := inb_of S102 ⟨by decide, by decide⟩
  obtain ⟨T103, h103, X103, e103, W103, st103⟩ := stI Xp101 hx hZ e99 Ar102 (j := (7 : Int32)) hin103 (g := (mkF m 182 #[.val (.int p1), .val (.int p2), .val (.int p3), .val (.int q), .val (.int nn), .val (.int (2147483647 : Int32)), .val (.ref b2), .unset, .unset] [(.int (3 : Int32)), (.int (7 : Int32)), (.ref b76), (.ref b76)])) rfl rfl (hb hby at_182)
  have V103 : Arv Z h103 b76 k76 .int (23 : Int32) [(.int (2 : Int32)), (.int (1 : Int32)), (.int (1 : Int32)), (.int (1 : Int32)), (.int (1 : Int32)), (.int (2 : Int32)), (.int (2 : Int32)), (.int (3 : Int32)), (.int (0 : Int32)), (.int (0 : Int32)), (.int (0 : Int32)), (.int (0 : Int32)), (.int (0 : Int32)), (.int (0 : Int32)), (.int (0 : Int32)), (.int (0 : Int32)), (.int (0 : Int32)), (.int (0 : Int32)), (.int (0 : Int32)), (.int (0 : Int32)), (.int (0 : Int32)), (.int (0 : Int32)), (.int (0 : Int32))] (.int (0 : Int32)) := Arv.set Ar102 q102 S102 Nn102 H102 G102 rfl W103 7 rfl (Nat.le_of_ble_eq_true rfl)
  have N104 := Fr.snoc X103 Np101 g_b76
  refine own_st (T' := T103) (g' := (mkF m 183 #[.val (.int p1), .val (.int p2), .val (.int p3), .val (.int q), .val (.int nn), .val (.int (2147483647 : Int32)), .val (.ref b2), .unset, .unset] [(.ref b76)])) (st103) ?_
  refine own_st (T' := T103) (g' := (mkF m 184 #[.val (.int p1), .val (.int p2), .val (.int p3), .val (.int q), .val (.int nn), .val (.int (2147483647 : Int32)), .val (.ref b2), .unset, .unset] [(.ref b76), (.ref b76)])) (fun _ kq => XS.dup X103.here hx rfl (hb hby at_183) rfl rfl kq) ?_
  refine own_st (T' := T103) (g' := (mkF m 186 #[.val (.int p1), .val (.int p2), .val (.int p3), .val (.int q), .val (.int nn), .val (.int (2147483647 : Int32)), .val (.ref b2), .unset, .unset] [(.int (8 : Int32)), (.ref b76), (.ref b76)])) (fun _ kq => XS.bipush X103.here hx rfl (hb hby at_184) kq) ?_
  refine own_st (T' := T103) (g' := (mkF m 187 #[.val (.int p1), .val (.int p2), .val (.int p3), .val (.int q), .val (.int nn), .val (.int (2147483647 : Int32)), .val (.ref b2), .unset, .unset] [(.int (3 : Int32)), (.int (8 : Int32)), (.ref b76), (.ref b76)])) (fun _ kq => XS.iconst X103.here hx rfl (hb hby at_186) kq) ?_
  obtain ⟨cl105, Ar105, q105, S105, Nn105, H105, G105⟩ := id V103
  have hin106 : ¬ ((8 : Int32) < 0 ∨ cl105.slots.size ≤ ((8 : Int32)).toNatClampNeg) := inb_of S105 ⟨by decide, by decide⟩
  obtain ⟨T106, h106, X106, e106, W106, st106⟩ := stI X103 hx hZ e103 Ar105 (j := (8 : Int32)) hin106 (g := (mkF m 187 #[.val (.int p1), .val (.int p2), .val (.int p3), .val (.int q), .val (.int nn), .val (.int (2147483647 : Int32)), .val (.ref b2), .unset, .unset] [(.int (3 : Int32)), (.int (8 : Int32)), (.ref b76), (.ref b76)])) rfl rfl (hb hby at_187)
  have V106 : Arv Z h106 b76 k76 .int (23 : Int32) [(.int (2 : Int32)), (.int (1 : Int32)), (.int (1 : Int32)), (.int (1 : Int32)), (.int (1 : Int32)), (.int (2 : Int32)), (.int (2 : Int32)), (.int (3 : Int32)), (.int (3 : Int32)), (.int (0 : Int32)), (.int (0 : Int32)), (.int (0 : Int32)), (.int (0 : Int32)), (.int (0 : Int32)), (.int (0 : Int32)), (.int (0 : Int32)), (.int (0 : Int32)), (.int (0 : Int32)), (.int (0 : Int32)), (.int (0 : Int32)), (.int (0 : Int32)), (.int (0 : Int32)), (.int (0 : Int32))] (.int (0 : Int32)) := Arv.set Ar105 q105 S105 Nn105 H105 G105 rfl W106 8 rfl (Nat.le_of_ble_eq_true rfl)
  have N107 := Fr.snoc X106 N104 g_b76
  refine own_st (T' := T106) (g' := (mkF m 188 #[.val (.int p1), .val (.int p2), .val (.int p3), .val (.int q), .val (.int nn), .val (.int (2147483647 : Int32)), .val (.ref b2), .unset, .unset] [(.ref b76)])) (st106) ?_
  refine own_st (T' := T106) (g' := (mkF m 189 #[.val (.int p1), .val (.int p2), .val (.int p3), .val (.int q), .val (.int nn), .val (.int (2147483647 : Int32)), .val (.ref b2), .unset, .unset] [(.ref b76), (.ref b76)])) (fun _ kq => XS.dup X106.here hx rfl (hb hby at_188) rfl rfl kq) ?_
  refine own_st (T' := T106) (g' := (mkF m 191 #[.val (.int p1), .val (.int p2), .val (.int p3), .val (.int q), .val (.int nn), .val (.int (2147483647 : Int32)), .val (.ref b2), .unset, .unset] [(.int (9 : Int32)), (.ref b76), (.ref b76)])) (fun _ kq => XS.bipush X106.here hx rfl (hb hby at_189) kq) ?_
  refine own_st (T' := T106) (g' := (mkF m 192 #[.val (.int p1), .val (.int p2), .val (.int p3), .val (.int q), .val (.int nn), .val (.int (2147483647 : Int32)), .val (.ref b2), .unset, .unset] [(.int (3 : Int32)), (.int (9 : Int32)), (.ref b76), (.ref b76)])) (fun _ kq => XS.iconst X106.here hx rfl (hb hby at_191) kq) ?_
  obtain ⟨cl108, Ar108, q108, S108, Nn108, H108, G108⟩ := id V106
  have hin109 : ¬ ((9 : Int32) < 0 ∨ cl108.slots.size ≤ ((9 : Int32)).toNatClampNeg) := inb_of S108 ⟨by decide, by decide⟩
  obtain ⟨T109, h109, X109, e109, W109, st109⟩ := stI X106 hx hZ e106 Ar108 (j := (9 : Int32)) hin109 (g := (mkF m 192 #[.val (.int p1), .val (.int p2), .val (.int p3), .val (.int q), .val (.int nn), .val (.int (2147483647 : Int32)), .val (.ref b2), .unset, .unset] [(.int (3 : Int32)), (.int (9 : Int32)), (.ref b76), (.ref b76)])) rfl rfl (hb hby at_192)
  have V109 : Arv Z h109 b76 k76 .int (23 : Int32) [(.int (2 : Int32)), (.int (1 : Int32)), (.int (1 : Int32)), (.int (1 : Int32)), (.int (1 : Int32)), (.int (2 : Int32)), (.int (2 : Int32)), (.int (3 : Int32)), (.int (3 : Int32)), (.int (3 : Int32)), (.int (0 : Int32)), (.int (0 : Int32)), (.int (0 : Int32)), (.int (0 : Int32)), (.int (0 : Int32)), (.int (0 : Int32)), (.int (0 : Int32)), (.int (0 : Int32)), (.int (0 : Int32)), (.int (0 : Int32)), (.int (0 : Int32)), (.int (0 : Int32)), (.int (0 : Int32))] (.int (0 : Int32)) := Arv.set Ar108 q108 S108 Nn108 H108 G108 rfl W109 9 rfl (Nat.le_of_ble_eq_true rfl)
  have N110 := Fr.snoc X109 N107 g_b76
  refine own_st (T' := T109) (g' := (mkF m 193 #[.val (.int p1), .val (.int p2), .val (.int p3), .val (.int q), .val (.int nn), .val (.int (2147483647 : Int32)), .val (.ref b2), .unset, .unset] [(.ref b76)])) (st109) ?_
  refine own_st (T' := T109) (g' := (mkF m 194 #[.val (.int p1), .val (.int p2), .val (.int p3), .val (.int q), .val (.int nn), .val (.int (2147483647 : Int32)), .val (.ref b2), .unset, .unset] [(.ref b76), (.ref b76)])) (fun _ kq => XS.dup X109.here hx rfl (hb hby at_193) rfl rfl kq) ?_
  refine own_st (T' := T109) (g' := (mkF m 196 #[.val (.int p1), .val (.int p2), .val (.int p3), .val (.int q), .val (.int nn), .val (.int (2147483647 : Int32)), .val (.ref b2), .unset, .unset] [(.int (10 : Int32)), (.ref b76), (.ref b76)])) (fun _ kq => XS.bipush X109.here hx rfl (hb hby at_194) kq) ?_
  refine own_st (T' := T109) (g' := (mkF m 197 #[.val (.int p1), .val (.int p2), .val (.int p3), .val (.int q), .val (.int nn), .val (.int (2147483647 : Int32)), .val (.ref b2), .unset, .unset] [(.int (3 : Int32)), (.int (10 : Int32)), (.ref b76), (.ref b76)])) (fun _ kq => XS.iconst X109.here hx rfl (hb hby at_196) kq) ?_
  obtain ⟨cl111, Ar111, q111, S111, Nn111, H111, G111⟩ := id V109
  have hin112 : ¬ ((10 : Int32) < 0 ∨ cl111.slots.size ≤ ((10 : Int32)).toNatClampNeg) := inb_of S111 ⟨by decide, by decide⟩
  obtain ⟨T112, h112, X112, e112, W112, st112⟩ := stI X109 hx hZ e109 Ar111 (j := (10 : Int32)) hin112 (g := (mkF m 197 #[.val (.int p1), .val (.int p2), .val (.int p3), .val (.int q), .val (.int nn), .val (.int (2147483647 : Int32)), .val (.ref b2), .unset, .unset] [(.int (3 : Int32)), (.int (10 : Int32)), (.ref b76), (.ref b76)])) rfl rfl (hb hby at_197)
  have V112 : Arv Z h112 b76 k76 .int (23 : Int32) [(.int (2 : Int32)), (.int (1 : Int32)), (.int (1 : Int32)), (.int (1 : Int32)), (.int (1 : Int32)), (.int (2 : Int32)), (.int (2 : Int32)), (.int (3 : Int32)), (.int (3 : Int32)), (.int (3 : Int32)), (.int (3 : Int32)), (.int (0 : Int32)), (.int (0 : Int32)), (.int (0 : Int32)), (.int (0 : Int32)), (.int (0 : Int32)), (.int (0 : Int32)), (.int (0 : Int32)), (.int (0 : Int32)), (.int (0 : Int32)), (.int (0 : Int32)), (.int (0 : Int32)), (.int (0 : Int32))] (.int (0 : Int32)) := Arv.set Ar111 q111 S111 Nn111 H111 G111 rfl W112 10 rfl (Nat.le_of_ble_eq_true rfl)
  have N113 := Fr.snoc X112 N110 g_b76
  refine own_st (T' := T112) (g' := (mkF m 198 #[.val (.int p1), .val (.int p2), .val (.int p3), .val (.int q), .val (.int nn), .val (.int (2147483647 : Int32)), .val (.ref b2), .unset, .unset] [(.ref b76)])) (st112) ?_
  refine own_st (T' := T112) (g' := (mkF m 199 #[.val (.int p1), .val (.int p2), .val (.int p3), .val (.int q), .val (.int nn), .val (.int (2147483647 : Int32)), .val (.ref b2), .unset, .unset] [(.ref b76), (.ref b76)])) (fun _ kq => XS.dup X112.here hx rfl (hb hby at_198) rfl rfl kq) ?_
  refine own_st (T' := T112) (g' := (mkF m 201 #[.val (.int p1), .val (.int p2), .val (.int p3), .val (.int q), .val (.int nn), .val (.int (2147483647 : Int32)), .val (.ref b2), .unset, .unset] [(.int (11 : Int32)), (.ref b76), (.ref b76)])) (fun _ kq => XS.bipush X112.here hx rfl (hb hby at_199) kq) ?_
  refine own_st (T' := T112) (g' := (mkF m 202 #[.val (.int p1), .val (.int p2), .val (.int p3), .val (.int q), .val (.int nn), .val (.int (2147483647 : Int32)), .val (.ref b2), .unset, .unset] [(.int (1 : Int32)), (.int (11 : Int32)), (.ref b76), (.ref b76)])) (fun _ kq => XS.iconst X112.here hx rfl (hb hby at_201) kq) ?_
  obtain ⟨cl114, Ar114, q114, S114, Nn114, H114, G114⟩ := id V112
  have hin115 : ¬ ((11 : Int32) < 0 ∨ cl114.slots.size ≤ ((11 : Int32)).toNatClampNeg) := inb_of S114 ⟨by decide, by decide⟩
  obtain ⟨T115, h115, X115, e115, W115, st115⟩ := stI X112 hx hZ e112 Ar114 (j := (11 : Int32)) hin115 (g := (mkF m 202 #[.val (.int p1), .val (.int p2), .val (.int p3), .val (.int q), .val (.int nn), .val (.int (2147483647 : Int32)), .val (.ref b2), .unset, .unset] [(.int (1 : Int32)), (.int (11 : Int32)), (.ref b76), (.ref b76)])) rfl rfl (hb hby at_202)
  have V115 : Arv Z h115 b76 k76 .int (23 : Int32) [(.int (2 : Int32)), (.int (1 : Int32)), (.int (1 : Int32)), (.int (1 : Int32)), (.int (1 : Int32)), (.int (2 : Int32)), (.int (2 : Int32)), (.int (3 : Int32)), (.int (3 : Int32)), (.int (3 : Int32)), (.int (3 : Int32)), (.int (1 : Int32)), (.int (0 : Int32)), (.int (0 : Int32)), (.int (0 : Int32)), (.int (0 : Int32)), (.int (0 : Int32)), (.int (0 : Int32)), (.int (0 : Int32)), (.int (0 : Int32)), (.int (0 : Int32)), (.int (0 : Int32)), (.int (0 : Int32))] (.int (0 : Int32)) := Arv.set Ar114 q114 S114 Nn114 H114 G114 rfl W115 11 rfl (Nat.le_of_ble_eq_true rfl)
  have N116 := Fr.snoc X115 N113 g_b76
  obtain ⟨LL117, Xp117, Np117⟩ : ∃ LL, Stand p l e room_1 s m #[(.int p1), (.int p2), (.int p3)] below meth c T115 LL 2 46 ∧ Fr n0 LL := ⟨_, X115, N116⟩
  refine own_st (T' := T115) (g' := (mkF m 203 #[.val (.int p1), .val (.int p2), .val (.int p3), .val (.int q), .val (.int nn), .val (.int (2147483647 : Int32)), .val (.ref b2), .unset, .unset] [(.ref b76)])) (st115) ?_
  refine own_st (T' := T115) (g' := (mkF m 204 #[.val (.int p1), .val (.int p2), .val (.int p3), .val (.int q), .val (.int nn), .val (.int (2147483647 : Int32)), .val (.ref b2), .unset, .unset] [(.ref b76), (.ref b76)])) (fun _ kq => XS.dup Xp117.here hx rfl (hb hby at_203) rfl rfl kq) ?_
  refine own_st (T' := T115) (g' := (mkF m 206 #[.val (.int p1), .val (.int p2), .val (.int p3), .val (.int q), .val (.int nn), .val (.int (2147483647 : Int32)), .val (.ref b2), .unset, .unset] [(.int (12 : Int32)), (.ref b76), (.ref b76)])) (fun _ kq => XS.bipush Xp117.here hx rfl (hb hby at_204) kq) ?_
  refine own_st (T' := T115) (g' := (mkF m 207 #[.val (.int p1), .val (.int p2), .val (.int p3), .val (.int q), .val (.int nn), .val (.int (2147483647 : Int32)), .val (.ref b2), .unset, .unset] [(.int (1 : Int32)), (.int (12 : Int32)), (.ref b76), (.ref b76)])) (fun _ kq => XS.iconst Xp117.here hx rfl (hb hby at_206) kq) ?_
  obtain ⟨cl118, Ar118, q118, S118, Nn118, H118, G118⟩ := id V115
  have hin119 : ¬ ((12 : Int32) < 0 ∨ cl118.slots.size ≤ ((12 : Int32)).toNatClampNeg) := inb_of S118 ⟨by decide, by decide⟩
  obtain ⟨T119, h119, X119, e119, W119, st119⟩ := stI Xp117 hx hZ e115 Ar118 (j := (12 : Int32)) hin119 (g := (mkF m 207 #[.val (.int p1), .val (.int p2), .val (.int p3), .val (.int q), .val (.int nn), .val (.int (2147483647 : Int32)), .val (.ref b2), .unset, .unset] [(.int (1 : Int32)), (.int (12 : Int32)), (.ref b76), (.ref b76)])) rfl rfl (hb hby at_207)
  have V119 : Arv Z h119 b76 k76 .int (23 : Int32) [(.int (2 : Int32)), (.int (1 : Int32)), (.int (1 : Int32)), (.int (1 : Int32)), (.int (1 : Int32)), (.int (2 : Int32)), (.int (2 : Int32)), (.int (3 : Int32)), (.int (3 : Int32)), (.int (3 : Int32)), (.int (3 : Int32)), (.int (1 : Int32)), (.int (1 : Int32)), (.int (0 : Int32)), (.int (0 : Int32)), (.int (0 : Int32)), (.int (0 : Int32)), (.int (0 : Int32)), (.int (0 : Int32)), (.int (0 : Int32)), (.int (0 : Int32)), (.int (0 : Int32)), (.int (0 : Int32))] (.int (0 : Int32)) := Arv.set Ar118 q118 S118 Nn118 H118 G118 rfl W119 12 rfl (Nat.le_of_ble_eq_true rfl)
  have N120 := Fr.snoc X119 Np117 g_b76
  refine own_st (T' := T119) (g' := (mkF m 208 #[.val (.int p1), .val (.int p2), .val (.int p3), .val (.int q), .val (.int nn), .val (.int (2147483647 : Int32)), .val (.ref b2), .unset, .unset] [(.ref b76)])) (st119) ?_
  refine own_st (T' := T119) (g' := (mkF m 209 #[.val (.int p1), .val (.int p2), .val (.int p3), .val (.int q), .val (.int nn), .val (.int (2147483647 : Int32)), .val (.ref b2), .unset, .unset] [(.ref b76), (.ref b76)])) (fun _ kq => XS.dup X119.here hx rfl (hb hby at_208) rfl rfl kq) ?_
  refine own_st (T' := T119) (g' := (mkF m 211 #[.val (.int p1), .val (.int p2), .val (.int p3), .val (.int q), .val (.int nn), .val (.int (2147483647 : Int32)), .val (.ref b2), .unset, .unset] [(.int (13 : Int32)), (.ref b76), (.ref b76)])) (fun _ kq => XS.bipush X119.here hx rfl (hb hby at_209) kq) ?_
  refine own_st (T' := T119) (g' := (mkF m 212 #[.val (.int p1), .val (.int p2), .val (.int p3), .val (.int q), .val (.int nn), .val (.int (2147483647 : Int32)), .val (.ref b2), .unset, .unset] [(.int (1 : Int32)), (.int (13 : Int32)), (.ref b76), (.ref b76)])) (fun _ kq => XS.iconst X119.here hx rfl (hb hby at_211) kq) ?_
  obtain ⟨cl121, Ar121, q121, S121, Nn121, H121, G121⟩ := id V119
  have hin122 : ¬ ((13 : Int32) < 0 ∨ cl121.slots.size ≤ ((13 : Int32)).toNatClampNeg) := inb_of S121 ⟨by decide, by decide⟩
  obtain ⟨T122, h122, X122, e122, W122, st122⟩ := stI X119 hx hZ e119 Ar121 (j := (13 : Int32)) hin122 (g := (mkF m 212 #[.val (.int p1), .val (.int p2), .val (.int p3), .val (.int q), .val (.int nn), .val (.int (2147483647 : Int32)), .val (.ref b2), .unset, .unset] [(.int (1 : Int32)), (.int (13 : Int32)), (.ref b76), (.ref b76)])) rfl rfl (hb hby at_212)
  have V122 : Arv Z h122 b76 k76 .int (23 : Int32) [(.int (2 : Int32)), (.int (1 : Int32)), (.int (1 : Int32)), (.int (1 : Int32)), (.int (1 : Int32)), (.int (2 : Int32)), (.int (2 : Int32)), (.int (3 : Int32)), (.int (3 : Int32)), (.int (3 : Int32)), (.int (3 : Int32)), (.int (1 : Int32)), (.int (1 : Int32)), (.int (1 : Int32)), (.int (0 : Int32)), (.int (0 : Int32)), (.int (0 : Int32)), (.int (0 : Int32)), (.int (0 : Int32)), (.int (0 : Int32)), (.int (0 : Int32)), (.int (0 : Int32)), (.int (0 : Int32))] (.int (0 : Int32)) := Arv.set Ar121 q121 S121 Nn121 H121 G121 rfl W122 13 rfl (Nat.le_of_ble_eq_true rfl)
  have N123 := Fr.snoc X122 N120 g_b76
  refine own_st (T' := T122) (g' := (mkF m 213 #[.val (.int p1), .val (.int p2), .val (.int p3), .val (.int q), .val (.int nn), .val (.int (2147483647 : Int32)), .val (.ref b2), .unset, .unset] [(.ref b76)])) (st122) ?_
  refine own_st (T' := T122) (g' := (mkF m 214 #[.val (.int p1), .val (.int p2), .val (.int p3), .val (.int q), .val (.int nn), .val (.int (2147483647 : Int32)), .val (.ref b2), .unset, .unset] [(.ref b76), (.ref b76)])) (fun _ kq => XS.dup X122.here hx rfl (hb hby at_213) rfl rfl kq) ?_
  refine own_st (T' := T122) (g' := (mkF m 216 #[.val (.int p1), .val (.int p2), .val (.int p3), .val (.int q), .val (.int nn), .val (.int (2147483647 : Int32)), .val (.ref b2), .unset, .unset] [(.int (14 : Int32)), (.ref b76), (.ref b76)])) (fun _ kq => XS.bipush X122.here hx rfl (hb hby at_214) kq) ?_
  refine own_st (T' := T122) (g' := (mkF m 217 #[.val (.int p1), .val (.int p2), .val (.int p3), .val (.int q), .val (.int nn), .val (.int (2147483647 : Int32)), .val (.ref b2), .unset, .unset] [(.int (1 : Int32)), (.int (14 : Int32)), (.ref b76), (.ref b76)])) (fun _ kq => XS.iconst X122.here hx rfl (hb hby at_216) kq) ?_
  obtain ⟨cl124, Ar124, q124, S124, Nn124, H124, G124⟩ := id V122
  have hin125 : ¬ ((14 : Int32) < 0 ∨ cl124.slots.size ≤ ((14 : Int32)).toNatClampNeg) := inb_of S124 ⟨by decide, by decide⟩
  obtain ⟨T125, h125, X125, e125, W125, st125⟩ := stI X122 hx hZ e122 Ar124 (j := (14 : Int32)) hin125 (g := (mkF m 217 #[.val (.int p1), .val (.int p2), .val (.int p3), .val (.int q), .val (.int nn), .val (.int (2147483647 : Int32)), .val (.ref b2), .unset, .unset] [(.int (1 : Int32)), (.int (14 : Int32)), (.ref b76), (.ref b76)])) rfl rfl (hb hby at_217)
  have V125 : Arv Z h125 b76 k76 .int (23 : Int32) [(.int (2 : Int32)), (.int (1 : Int32)), (.int (1 : Int32)), (.int (1 : Int32)), (.int (1 : Int32)), (.int (2 : Int32)), (.int (2 : Int32)), (.int (3 : Int32)), (.int (3 : Int32)), (.int (3 : Int32)), (.int (3 : Int32)), (.int (1 : Int32)), (.int (1 : Int32)), (.int (1 : Int32)), (.int (1 : Int32)), (.int (0 : Int32)), (.int (0 : Int32)), (.int (0 : Int32)), (.int (0 : Int32)), (.int (0 : Int32)), (.int (0 : Int32)), (.int (0 : Int32)), (.int (0 : Int32))] (.int (0 : Int32)) := Arv.set Ar124 q124 S124 Nn124 H124 G124 rfl W125 14 rfl (Nat.le_of_ble_eq_true rfl)
  have N126 := Fr.snoc X125 N123 g_b76
  refine own_st (T' := T125) (g' := (mkF m 218 #[.val (.int p1), .val (.int p2), .val (.int p3), .val (.int q), .val (.int nn), .val (.int (2147483647 : Int32)), .val (.ref b2), .unset, .unset] [(.ref b76)])) (st125) ?_
  refine own_st (T' := T125) (g' := (mkF m 219 #[.val (.int p1), .val (.int p2), .val (.int p3), .val (.int q), .val (.int nn), .val (.int (2147483647 : Int32)), .val (.ref b2), .unset, .unset] [(.ref b76), (.ref b76)])) (fun _ kq => XS.dup X125.here hx rfl (hb hby at_218) rfl rfl kq) ?_
  refine own_st (T' := T125) (g' := (mkF m 221 #[.val (.int p1), .val (.int p2), .val (.int p3), .val (.int q), .val (.int nn), .val (.int (2147483647 : Int32)), .val (.ref b2), .unset, .unset] [(.int (15 : Int32)), (.ref b76), (.ref b76)])) (fun _ kq => XS.bipush X125.here hx rfl (hb hby at_219) kq) ?_
  refine own_st (T' := T125) (g' := (mkF m 222 #[.val (.int p1), .val (.int p2), .val (.int p3), .val (.int q), .val (.int nn), .val (.int (2147483647 : Int32)), .val (.ref b2), .unset, .unset] [(.int (2 : Int32)), (.int (15 : Int32)), (.ref b76), (.ref b76)])) (fun _ kq => XS.iconst X125.here hx rfl (hb hby at_221) kq) ?_
  obtain ⟨cl127, Ar127, q127, S127, Nn127, H127, G127⟩ := id V125
  have hin128 : ¬ ((15 : Int32) < 0 ∨ cl127.slots.size ≤ ((15 : Int32)).toNatClampNeg) := inb_of S127 ⟨by decide, by decide⟩
  obtain ⟨T128, h128, X128, e128, W128, st128⟩ := stI X125 hx hZ e125 Ar127 (j := (15 : Int32)) hin128 (g := (mkF m 222 #[.val (.int p1), .val (.int p2), .val (.int p3), .val (.int q), .val (.int nn), .val (.int (2147483647 : Int32)), .val (.ref b2), .unset, .unset] [(.int (2 : Int32)), (.int (15 : Int32)), (.ref b76), (.ref b76)])) rfl rfl (hb hby at_222)
  have V128 : Arv Z h128 b76 k76 .int (23 : Int32) [(.int (2 : Int32)), (.int (1 : Int32)), (.int (1 : Int32)), (.int (1 : Int32)), (.int (1 : Int32)), (.int (2 : Int32)), (.int (2 : Int32)), (.int (3 : Int32)), (.int (3 : Int32)), (.int (3 : Int32)), (.int (3 : Int32)), (.int (1 : Int32)), (.int (1 : Int32)), (.int (1 : Int32)), (.int (1 : Int32)), (.int (2 : Int32)), (.int (0 : Int32)), (.int (0 : Int32)), (.int (0 : Int32)), (.int (0 : Int32)), (.int (0 : Int32)), (.int (0 : Int32)), (.int (0 : Int32))] (.int (0 : Int32)) := Arv.set Ar127 q127 S127 Nn127 H127 G127 rfl W128 15 rfl (Nat.le_of_ble_eq_true rfl)
  have N129 := Fr.snoc X128 N126 g_b76
  refine own_st (T' := T128) (g' := (mkF m 223 #[.val (.int p1), .val (.int p2), .val (.int p3), .val (.int q), .val (.int nn), .val (.int (2147483647 : Int32)), .val (.ref b2), .unset, .unset] [(.ref b76)])) (st128) ?_
  refine own_st (T' := T128) (g' := (mkF m 224 #[.val (.int p1), .val (.int p2), .val (.int p3), .val (.int q), .val (.int nn), .val (.int (2147483647 : Int32)), .val (.ref b2), .unset, .unset] [(.ref b76), (.ref b76)])) (fun _ kq => XS.dup X128.here hx rfl (hb hby at_223) rfl rfl kq) ?_
  refine own_st (T' := T128) (g' := (mkF m 226 #[.val (.int p1), .val (.int p2), .val (.int p3), .val (.int q), .val (.int nn), .val (.int (2147483647 : Int32)), .val (.ref b2), .unset, .unset] [(.int (16 : Int32)), (.ref b76), (.ref b76)])) (fun _ kq => XS.bipush X128.here hx rfl (hb hby at_224) kq) ?_
  refine own_st (T' := T128) (g' := (mkF m 227 #[.val (.int p1), .val (.int p2), .val (.int p3), .val (.int q), .val (.int nn), .val (.int (2147483647 : Int32)), .val (.ref b2), .unset, .unset] [(.int (2 : Int32)), (.int (16 : Int32)), (.ref b76), (.ref b76)])) (fun _ kq => XS.iconst X128.here hx rfl (hb hby at_226) kq) ?_
  obtain ⟨cl130, Ar130, q130, S130, Nn130, H130, G130⟩ := id V128
  have hin131 : ¬ ((16 : Int32) < 0 ∨ cl130.slots.size ≤ ((16 : Int32)).toNatClampNeg) := inb_of S130 ⟨by decide, by decide⟩
  obtain ⟨T131, h131, X131, e131, W131, st131⟩ := stI X128 hx hZ e128 Ar130 (j := (16 : Int32)) hin131 (g := (mkF m 227 #[.val (.int p1), .val (.int p2), .val (.int p3), .val (.int q), .val (.int nn), .val (.int (2147483647 : Int32)), .val (.ref b2), .unset, .unset] [(.int (2 : Int32)), (.int (16 : Int32)), (.ref b76), (.ref b76)])) rfl rfl (hb hby at_227)
  have V131 : Arv Z h131 b76 k76 .int (23 : Int32) [(.int (2 : Int32)), (.int (1 : Int32)), (.int (1 : Int32)), (.int (1 : Int32)), (.int (1 : Int32)), (.int (2 : Int32)), (.int (2 : Int32)), (.int (3 : Int32)), (.int (3 : Int32)), (.int (3 : Int32)), (.int (3 : Int32)), (.int (1 : Int32)), (.int (1 : Int32)), (.int (1 : Int32)), (.int (1 : Int32)), (.int (2 : Int32)), (.int (2 : Int32)), (.int (0 : Int32)), (.int (0 : Int32)), (.int (0 : Int32)), (.int (0 : Int32)), (.int (0 : Int32)), (.int (0 : Int32))] (.int (0 : Int32)) := Arv.set Ar130 q130 S130 Nn130 H130 G130 rfl W131 16 rfl (Nat.le_of_ble_eq_true rfl)
  have N132 := Fr.snoc X131 N129 g_b76
  obtain ⟨LL133, Xp133, Np133⟩ : ∃ LL, Stand p l e room_1 s m #[(.int p1), (.int p2), (.int p3)] below meth c T131 LL 2 46 ∧ Fr n0 LL := ⟨_, X131, N132⟩
  refine own_st (T' := T131) (g' := (mkF m 228 #[.val (.int p1), .val (.int p2), .val (.int p3), .val (.int q), .val (.int nn), .val (.int (2147483647 : Int32)), .val (.ref b2), .unset, .unset] [(.ref b76)])) (st131) ?_
  refine own_st (T' := T131) (g' := (mkF m 229 #[.val (.int p1), .val (.int p2), .val (.int p3), .val (.int q), .val (.int nn), .val (.int (2147483647 : Int32)), .val (.ref b2), .unset, .unset] [(.ref b76), (.ref b76)])) (fun _ kq => XS.dup Xp133.here hx rfl (hb hby at_228) rfl rfl kq) ?_
  refine own_st (T' := T131) (g' := (mkF m 231 #[.val (.int p1), .val (.int p2), .val (.int p3), .val (.int q), .val (.int nn), .val (.int (2147483647 : Int32)), .val (.ref b2), .unset, .unset] [(.int (17 : Int32)), (.ref b76), (.ref b76)])) (fun _ kq => XS.bipush Xp133.here hx rfl (hb hby at_229) kq) ?_
  refine own_st (T' := T131) (g' := (mkF m 233 #[.val (.int p1), .val (.int p2), .val (.int p3), .val (.int q), .val (.int nn), .val (.int (2147483647 : Int32)), .val (.ref b2), .unset, .unset] [(.int (2147483647 : Int32)), (.int (17 : Int32)), (.ref b76), (.ref b76)])) (fun _ kq => XS.iload Xp133.here hx rfl (hb hby at_231) rfl kq) ?_
  obtain ⟨cl134, Ar134, q134, S134, Nn134, H134, G134⟩ := id V131
  have hin135 : ¬ ((17 : Int32) < 0 ∨ cl134.slots.size ≤ ((17 : Int32)).toNatClampNeg) := inb_of S134 ⟨by decide, by decide⟩
  obtain ⟨T135, h135, X135, e135, W135, st135⟩ := stI Xp133 hx hZ e131 Ar134 (j := (17 : Int32)) hin135 (g := (mkF m 233 #[.val (.int p1), .val (.int p2), .val (.int p3), .val (.int q), .val (.int nn), .val (.int (2147483647 : Int32)), .val (.ref b2), .unset, .unset] [(.int (2147483647 : Int32)), (.int (17 : Int32)), (.ref b76), (.ref b76)])) rfl rfl (hb hby at_233)
  have V135 : Arv Z h135 b76 k76 .int (23 : Int32) [(.int (2 : Int32)), (.int (1 : Int32)), (.int (1 : Int32)), (.int (1 : Int32)), (.int (1 : Int32)), (.int (2 : Int32)), (.int (2 : Int32)), (.int (3 : Int32)), (.int (3 : Int32)), (.int (3 : Int32)), (.int (3 : Int32)), (.int (1 : Int32)), (.int (1 : Int32)), (.int (1 : Int32)), (.int (1 : Int32)), (.int (2 : Int32)), (.int (2 : Int32)), (.int (2147483647 : Int32)), (.int (0 : Int32)), (.int (0 : Int32)), (.int (0 : Int32)), (.int (0 : Int32)), (.int (0 : Int32))] (.int (0 : Int32)) := Arv.set Ar134 q134 S134 Nn134 H134 G134 rfl W135 17 rfl (Nat.le_of_ble_eq_true rfl)
  have N136 := Fr.snoc X135 Np133 g_b76
  refine own_st (T' := T135) (g' := (mkF m 234 #[.val (.int p1), .val (.int p2), .val (.int p3), .val (.int q), .val (.int nn), .val (.int (2147483647 : Int32)), .val (.ref b2), .unset, .unset] [(.ref b76)])) (st135) ?_
  refine own_st (T' := T135) (g' := (mkF m 235 #[.val (.int p1), .val (.int p2), .val (.int p3), .val (.int q), .val (.int nn), .val (.int (2147483647 : Int32)), .val (.ref b2), .unset, .unset] [(.ref b76), (.ref b76)])) (fun _ kq => XS.dup X135.here hx rfl (hb hby at_234) rfl rfl kq) ?_
  refine own_st (T' := T135) (g' := (mkF m 237 #[.val (.int p1), .val (.int p2), .val (.int p3), .val (.int q), .val (.int nn), .val (.int (2147483647 : Int32)), .val (.ref b2), .unset, .unset] [(.int (18 : Int32)), (.ref b76), (.ref b76)])) (fun _ kq => XS.bipush X135.here hx rfl (hb hby at_235) kq) ?_
  refine own_st (T' := T135) (g' := (mkF m 239 #[.val (.int p1), .val (.int p2), .val (.int p3), .val (.int q), .val (.int nn), .val (.int (2147483647 : Int32)), .val (.ref b2), .unset, .unset] [(.int (2147483647 : Int32)), (.int (18 : Int32)), (.ref b76), (.ref b76)])) (fun _ kq => XS.iload X135.here hx rfl (hb hby at_237) rfl kq) ?_
  obtain ⟨cl137, Ar137, q137, S137, Nn137, H137, G137⟩ := id V135
  have hin138 : ¬ ((18 : Int32) < 0 ∨ cl137.slots.size ≤ ((18 : Int32)).toNatClampNeg) := inb_of S137 ⟨by decide, by decide⟩
  obtain ⟨T138, h138, X138, e138, W138, st138⟩ := stI X135 hx hZ e135 Ar137 (j := (18 : Int32)) hin138 (g := (mkF m 239 #[.val (.int p1), .val (.int p2), .val (.int p3), .val (.int q), .val (.int nn), .val (.int (2147483647 : Int32)), .val (.ref b2), .unset, .unset] [(.int (2147483647 : Int32)), (.int (18 : Int32)), (.ref b76), (.ref b76)])) rfl rfl (hb hby at_239)
  have V138 : Arv Z h138 b76 k76 .int (23 : Int32) [(.int (2 : Int32)), (.int (1 : Int32)), (.int (1 : Int32)), (.int (1 : Int32)), (.int (1 : Int32)), (.int (2 : Int32)), (.int (2 : Int32)), (.int (3 : Int32)), (.int (3 : Int32)), (.int (3 : Int32)), (.int (3 : Int32)), (.int (1 : Int32)), (.int (1 : Int32)), (.int (1 : Int32)), (.int (1 : Int32)), (.int (2 : Int32)), (.int (2 : Int32)), (.int (2147483647 : Int32)), (.int (2147483647 : Int32)), (.int (0 : Int32)), (.int (0 : Int32)), (.int (0 : Int32)), (.int (0 : Int32))] (.int (0 : Int32)) := Arv.set Ar137 q137 S137 Nn137 H137 G137 rfl W138 18 rfl (Nat.le_of_ble_eq_true rfl)
  have N139 := Fr.snoc X138 N136 g_b76
  refine own_st (T' := T138) (g' := (mkF m 240 #[.val (.int p1), .val (.int p2), .val (.int p3), .val (.int q), .val (.int nn), .val (.int (2147483647 : Int32)), .val (.ref b2), .unset, .unset] [(.ref b76)])) (st138) ?_
  refine own_st (T' := T138) (g' := (mkF m 241 #[.val (.int p1), .val (.int p2), .val (.int p3), .val (.int q), .val (.int nn), .val (.int (2147483647 : Int32)), .val (.ref b2), .unset, .unset] [(.ref b76), (.ref b76)])) (fun _ kq => XS.dup X138.here hx rfl (hb hby at_240) rfl rfl kq) ?_
  refine own_st (T' := T138) (g' := (mkF m 243 #[.val (.int p1), .val (.int p2), .val (.int p3), .val (.int q), .val (.int nn), .val (.int (2147483647 : Int32)), .val (.ref b2), .unset, .unset] [(.int (19 : Int32)), (.ref b76), (.ref b76)])) (fun _ kq => XS.bipush X138.here hx rfl (hb hby at_241) kq) ?_
  refine own_st (T' := T138) (g' := (mkF m 244 #[.val (.int p1), .val (.int p2), .val (.int p3), .val (.int q), .val (.int nn), .val (.int (2147483647 : Int32)), .val (.ref b2), .unset, .unset] [(.int (2 : Int32)), (.int (19 : Int32)), (.ref b76), (.ref b76)])) (fun _ kq => XS.iconst X138.here hx rfl (hb hby at_243) kq) ?_
  obtain ⟨cl140, Ar140, q140, S140, Nn140, H140, G140⟩ := id V138
  have hin141 : ¬ ((19 : Int32) < 0 ∨ cl140.slots.size ≤ ((19 : Int32)).toNatClampNeg) := inb_of S140 ⟨by decide, by decide⟩
  obtain ⟨T141, h141, X141, e141, W141, st141⟩ := stI X138 hx hZ e138 Ar140 (j := (19 : Int32)) hin141 (g := (mkF m 244 #[.val (.int p1), .val (.int p2), .val (.int p3), .val (.int q), .val (.int nn), .val (.int (2147483647 : Int32)), .val (.ref b2), .unset, .unset] [(.int (2 : Int32)), (.int (19 : Int32)), (.ref b76), (.ref b76)])) rfl rfl (hb hby at_244)
  have V141 : Arv Z h141 b76 k76 .int (23 : Int32) [(.int (2 : Int32)), (.int (1 : Int32)), (.int (1 : Int32)), (.int (1 : Int32)), (.int (1 : Int32)), (.int (2 : Int32)), (.int (2 : Int32)), (.int (3 : Int32)), (.int (3 : Int32)), (.int (3 : Int32)), (.int (3 : Int32)), (.int (1 : Int32)), (.int (1 : Int32)), (.int (1 : Int32)), (.int (1 : Int32)), (.int (2 : Int32)), (.int (2 : Int32)), (.int (2147483647 : Int32)), (.int (2147483647 : Int32)), (.int (2 : Int32)), (.int (0 : Int32)), (.int (0 : Int32)), (.int (0 : Int32))] (.int (0 : Int32)) := Arv.set Ar140 q140 S140 Nn140 H140 G140 rfl W141 19 rfl (Nat.le_of_ble_eq_true rfl)
  have N142 := Fr.snoc X141 N139 g_b76
  refine own_st (T' := T141) (g' := (mkF m 245 #[.val (.int p1), .val (.int p2), .val (.int p3), .val (.int q), .val (.int nn), .val (.int (2147483647 : Int32)), .val (.ref b2), .unset, .unset] [(.ref b76)])) (st141) ?_
  refine own_st (T' := T141) (g' := (mkF m 246 #[.val (.int p1), .val (.int p2), .val (.int p3), .val (.int q), .val (.int nn), .val (.int (2147483647 : Int32)), .val (.ref b2), .unset, .unset] [(.ref b76), (.ref b76)])) (fun _ kq => XS.dup X141.here hx rfl (hb hby at_245) rfl rfl kq) ?_
  refine own_st (T' := T141) (g' := (mkF m 248 #[.val (.int p1), .val (.int p2), .val (.int p3), .val (.int q), .val (.int nn), .val (.int (2147483647 : Int32)), .val (.ref b2), .unset, .unset] [(.int (20 : Int32)), (.ref b76), (.ref b76)])) (fun _ kq => XS.bipush X141.here hx rfl (hb hby at_246) kq) ?_
  refine own_st (T' := T141) (g' := (mkF m 249 #[.val (.int p1), .val (.int p2), .val (.int p3), .val (.int q), .val (.int nn), .val (.int (2147483647 : Int32)), .val (.ref b2), .unset, .unset] [(.int (2 : Int32)), (.int (20 : Int32)), (.ref b76), (.ref b76)])) (fun _ kq => XS.iconst X141.here hx rfl (hb hby at_248) kq) ?_
  obtain ⟨cl143, Ar143, q143, S143, Nn143, H143, G143⟩ := id V141
  have hin144 : ¬ ((20 : Int32) < 0 ∨ cl143.slots.size ≤ ((20 : Int32)).toNatClampNeg) := inb_of S143 ⟨by decide, by decide⟩
  obtain ⟨T144, h144, X144, e144, W144, st144⟩ := stI X141 hx hZ e141 Ar143 (j := (20 : Int32)) hin144 (g := (mkF m 249 #[.val (.int p1), .val (.int p2), .val (.int p3), .val (.int q), .val (.int nn), .val (.int (2147483647 : Int32)), .val (.ref b2), .unset, .unset] [(.int (2 : Int32)), (.int (20 : Int32)), (.ref b76), (.ref b76)])) rfl rfl (hb hby at_249)
  have V144 : Arv Z h144 b76 k76 .int (23 : Int32) [(.int (2 : Int32)), (.int (1 : Int32)), (.int (1 : Int32)), (.int (1 : Int32)), (.int (1 : Int32)), (.int (2 : Int32)), (.int (2 : Int32)), (.int (3 : Int32)), (.int (3 : Int32)), (.int (3 : Int32)), (.int (3 : Int32)), (.int (1 : Int32)), (.int (1 : Int32)), (.int (1 : Int32)), (.int (1 : Int32)), (.int (2 : Int32)), (.int (2 : Int32)), (.int (2147483647 : Int32)), (.int (2147483647 : Int32)), (.int (2 : Int32)), (.int (2 : Int32)), (.int (0 : Int32)), (.int (0 : Int32))] (.int (0 : Int32)) := Arv.set Ar143 q143 S143 Nn143 H143 G143 rfl W144 20 rfl (Nat.le_of_ble_eq_true rfl)
  have N145 := Fr.snoc X144 N142 g_b76
  refine own_st (T' := T144) (g' := (mkF m 250 #[.val (.int p1), .val (.int p2), .val (.int p3), .val (.int q), .val (.int nn), .val (.int (2147483647 : Int32)), .val (.ref b2), .unset, .unset] [(.ref b76)])) (st144) ?_
  refine own_st (T' := T144) (g' := (mkF m 251 #[.val (.int p1), .val (.int p2), .val (.int p3), .val (.int q), .val (.int nn), .val (.int (2147483647 : Int32)), .val (.ref b2), .unset, .unset] [(.ref b76), (.ref b76)])) (fun _ kq => XS.dup X144.here hx rfl (hb hby at_250) rfl rfl kq) ?_
  refine own_st (T' := T144) (g' := (mkF m 253 #[.val (.int p1), .val (.int p2), .val (.int p3), .val (.int q), .val (.int nn), .val (.int (2147483647 : Int32)), .val (.ref b2), .unset, .unset] [(.int (21 : Int32)), (.ref b76), (.ref b76)])) (fun _ kq => XS.bipush X144.here hx rfl (hb hby at_251) kq) ?_
  refine own_st (T' := T144) (g' := (mkF m 254 #[.val (.int p1), .val (.int p2), .val (.int p3), .val (.int q), .val (.int nn), .val (.int (2147483647 : Int32)), .val (.ref b2), .unset, .unset] [(.int (2 : Int32)), (.int (21 : Int32)), (.ref b76), (.ref b76)])) (fun _ kq => XS.iconst X144.here hx rfl (hb hby at_253) kq) ?_
  obtain ⟨cl146, Ar146, q146, S146, Nn146, H146, G146⟩ := id V144
  have hin147 : ¬ ((21 : Int32) < 0 ∨ cl146.slots.size ≤ ((21 : Int32)).toNatClampNeg) := inb_of S146 ⟨by decide, by decide⟩
  obtain ⟨T147, h147, X147, e147, W147, st147⟩ := stI X144 hx hZ e144 Ar146 (j := (21 : Int32)) hin147 (g := (mkF m 254 #[.val (.int p1), .val (.int p2), .val (.int p3), .val (.int q), .val (.int nn), .val (.int (2147483647 : Int32)), .val (.ref b2), .unset, .unset] [(.int (2 : Int32)), (.int (21 : Int32)), (.ref b76), (.ref b76)])) rfl rfl (hb hby at_254)
  have V147 : Arv Z h147 b76 k76 .int (23 : Int32) [(.int (2 : Int32)), (.int (1 : Int32)), (.int (1 : Int32)), (.int (1 : Int32)), (.int (1 : Int32)), (.int (2 : Int32)), (.int (2 : Int32)), (.int (3 : Int32)), (.int (3 : Int32)), (.int (3 : Int32)), (.int (3 : Int32)), (.int (1 : Int32)), (.int (1 : Int32)), (.int (1 : Int32)), (.int (1 : Int32)), (.int (2 : Int32)), (.int (2 : Int32)), (.int (2147483647 : Int32)), (.int (2147483647 : Int32)), (.int (2 : Int32)), (.int (2 : Int32)), (.int (2 : Int32)), (.int (0 : Int32))] (.int (0 : Int32)) := Arv.set Ar146 q146 S146 Nn146 H146 G146 rfl W147 21 rfl (Nat.le_of_ble_eq_true rfl)
  have N148 := Fr.snoc X147 N145 g_b76
  obtain ⟨LL149, Xp149, Np149⟩ : ∃ LL, Stand p l e room_1 s m #[(.int p1), (.int p2), (.int p3)] below meth c T147 LL 2 46 ∧ Fr n0 LL := ⟨_, X147, N148⟩
  refine own_st (T' := T147) (g' := (mkF m 255 #[.val (.int p1), .val (.int p2), .val (.int p3), .val (.int q), .val (.int nn), .val (.int (2147483647 : Int32)), .val (.ref b2), .unset, .unset] [(.ref b76)])) (st147) ?_
  refine own_st (T' := T147) (g' := (mkF m 256 #[.val (.int p1), .val (.int p2), .val (.int p3), .val (.int q), .val (.int nn), .val (.int (2147483647 : Int32)), .val (.ref b2), .unset, .unset] [(.ref b76), (.ref b76)])) (fun _ kq => XS.dup Xp149.here hx rfl (hb hby at_255) rfl rfl kq) ?_
  refine own_st (T' := T147) (g' := (mkF m 258 #[.val (.int p1), .val (.int p2), .val (.int p3), .val (.int q), .val (.int nn), .val (.int (2147483647 : Int32)), .val (.ref b2), .unset, .unset] [(.int (22 : Int32)), (.ref b76), (.ref b76)])) (fun _ kq => XS.bipush Xp149.here hx rfl (hb hby at_256) kq) ?_
  refine own_st (T' := T147) (g' := (mkF m 259 #[.val (.int p1), .val (.int p2), .val (.int p3), .val (.int q), .val (.int nn), .val (.int (2147483647 : Int32)), .val (.ref b2), .unset, .unset] [(.int (2 : Int32)), (.int (22 : Int32)), (.ref b76), (.ref b76)])) (fun _ kq => XS.iconst Xp149.here hx rfl (hb hby at_258) kq) ?_
  obtain ⟨cl150, Ar150, q150, S150, Nn150, H150, G150⟩ := id V147
  have hin151 : ¬ ((22 : Int32) < 0 ∨ cl150.slots.size ≤ ((22 : Int32)).toNatClampNeg) := inb_of S150 ⟨by decide, by decide⟩
  obtain ⟨T151, h151, X151, e151, W151, st151⟩ := stI Xp149 hx hZ e147 Ar150 (j := (22 : Int32)) hin151 (g := (mkF m 259 #[.val (.int p1), .val (.int p2), .val (.int p3), .val (.int q), .val (.int nn), .val (.int (2147483647 : Int32)), .val (.ref b2), .unset, .unset] [(.int (2 : Int32)), (.int (22 : Int32)), (.ref b76), (.ref b76)])) rfl rfl (hb hby at_259)
  have V151 : Arv Z h151 b76 k76 .int (23 : Int32) [(.int (2 : Int32)), (.int (1 : Int32)), (.int (1 : Int32)), (.int (1 : Int32)), (.int (1 : Int32)), (.int (2 : Int32)), (.int (2 : Int32)), (.int (3 : Int32)), (.int (3 : Int32)), (.int (3 : Int32)), (.int (3 : Int32)), (.int (1 : Int32)), (.int (1 : Int32)), (.int (1 : Int32)), (.int (1 : Int32)), (.int (2 : Int32)), (.int (2 : Int32)), (.int (2147483647 : Int32)), (.int (2147483647 : Int32)), (.int (2 : Int32)), (.int (2 : Int32)), (.int (2 : Int32)), (.int (2 : Int32))] (.int (0 : Int32)) := Arv.set Ar150 q150 S150 Nn150 H150 G150 rfl W151 22 rfl (Nat.le_of_ble_eq_true rfl)
  have N152 := Fr.snoc X151 Np149 g_b76
  refine own_st (T' := T151) (g' := (mkF m 260 #[.val (.int p1), .val (.int p2), .val (.int p3), .val (.int q), .val (.int nn), .val (.int (2147483647 : Int32)), .val (.ref b2), .unset, .unset] [(.ref b76)])) (st151) ?_
  refine own_st (T' := T151) (g' := (mkF m 262 #[.val (.int p1), .val (.int p2), .val (.int p3), .val (.int q), .val (.int nn), .val (.int (2147483647 : Int32)), .val (.ref b2), .val (.ref b76), .unset] [])) (fun _ kq => XS.astore X151.here hx rfl (hb hby at_260) rfl rfl (l' := #[.val (.int p1), .val (.int p2), .val (.int p3), .val (.int q), .val (.int nn), .val (.int (2147483647 : Int32)), .val (.ref b2), .val (.ref b76), .unset]) rfl kq) ?_
  refine own_st (T' := T151) (g' := (mkF m 264 #[.val (.int p1), .val (.int p2), .val (.int p3), .val (.int q), .val (.int nn), .val (.int (2147483647 : Int32)), .val (.ref b2), .val (.ref b76), .unset] [(.int nn)])) (fun _ kq => XS.iload X151.here hx rfl (hb hby at_262) rfl kq) ?_
  refine own_st (T' := T151) (g' := (mkF m 266 #[.val (.int p1), .val (.int p2), .val (.int p3), .val (.int q), .val (.int nn), .val (.int (2147483647 : Int32)), .val (.ref b2), .val (.ref b76), .unset] [(.ref b2), (.int nn)])) (fun _ kq => XS.aload X151.here hx rfl (hb hby at_264) rfl rfl kq) ?_
  refine own_st (T' := T151) (g' := (mkF m 267 #[.val (.int p1), .val (.int p2), .val (.int p3), .val (.int q), .val (.int nn), .val (.int (2147483647 : Int32)), .val (.ref b2), .val (.ref b76), .unset] [(.int q), (.ref b2), (.int nn)])) (fun _ kq => XS.iloadN X151.here hx rfl (hb hby at_266) rfl kq) ?_
  have A_b2_153 : Arv Z h151 b2 k2 .int (23 : Int32) [(.int (2 : Int32)), (.int (1 : Int32)), (.int (1 : Int32)), (.int (1 : Int32)), (.int (1 : Int32)), (.int (1 : Int32)), (.int (1 : Int32)), (.int (2 : Int32)), (.int (2 : Int32)), (.int (2 : Int32)), (.int (2 : Int32)), (.int (1 : Int32)), (.int (1 : Int32)), (.int (1 : Int32)), (.int (1 : Int32)), (.int (1 : Int32)), (.int (1 : Int32)), (.int (1 : Int32)), (.int (1 : Int32)), (.int (1 : Int32)), (.int (1 : Int32)), (.int (1 : Int32)), (.int (2 : Int32))] (.int (0 : Int32)) := ((((((((((((((((((((((((V74.ext E76).other W80 ne_b2_b76).other W83 ne_b2_b76).other W87 ne_b2_b76).other W90 ne_b2_b76).other W93 ne_b2_b76).other W96 ne_b2_b76).other W99 ne_b2_b76).other W103 ne_b2_b76).other W106 ne_b2_b76).other W109 ne_b2_b76).other W112 ne_b2_b76).other W115 ne_b2_b76).other W119 ne_b2_b76).other W122 ne_b2_b76).other W125 ne_b2_b76).other W128 ne_b2_b76).other W131 ne_b2_b76).other W135 ne_b2_b76).other W138 ne_b2_b76).other W141 ne_b2_b76).other W144 ne_b2_b76).other W147 ne_b2_b76).other W151 ne_b2_b76)
  obtain ⟨cl154, Ar154, q154, S154, Nn154, H154, G154⟩ := id A_b2_153
  have hin155 : ¬ (q < 0 ∨ cl154.slots.size ≤ (q).toNatClampNeg) := inb_of S154 ⟨own_nlt h0', own_lt23 h1'⟩
  have hat155 : cl154.slots[(q).toNatClampNeg]? = some (.int (own_get own_LO q)) := Has.at H154 hin155 (own_at own_LO q.toNatClampNeg)
  refine own_st (T' := T151) (g' := (mkF m 268 #[.val (.int p1), .val (.int p2), .val (.int p3), .val (.int q), .val (.int nn), .val (.int (2147483647 : Int32)), .val (.ref b2), .val (.ref b76), .unset] [(.int (own_get own_LO q)), (.int nn)])) (X151.iaload hx (j := q) (v := (.int (own_get own_LO q))) (by rw [e151]; exact Ar154.1) (State.isArrayOf_alike hZ.alike Ar154.2.1) Ar154.2.2 hin155 hat155 (g := (mkF m 267 #[.val (.int p1), .val (.int p2), .val (.int p3), .val (.int q), .val (.int nn), .val (.int (2147483647 : Int32)), .val (.ref b2), .val (.ref b76), .unset] [(.int q), (.ref b2), (.int nn)])) rfl rfl (hb hby at_267)) ?_
  suffices hj : own_Go p e below (fun s₂ o => ∃ v L, o = .returned v ∧ Q0 Z p1 p2 p3 w_INSTR w_LENGTH w_UPPER w_LOWER w_TRIM w_LTRIM w_RTRIM w_REPLACE w_LPAD w_RPAD w_SUBSTR w_ABS w_CEIL w_FLOOR w_SIGN w_ROUND w_TRUNC w_GREATEST w_LEAST w_TO_CHAR w_TO_DATE w_TO_NUMBER w_MOD h0 n0 v s₂.heap L ∧ FrameEnd s o s₂ L room_1.cells room_1.slots) T151 (mkF m 285 #[.val (.int p1), .val (.int p2), .val (.int p3), .val (.int q), .val (.int nn), .val (.int (2147483647 : Int32)), .val (.ref b2), .val (.ref b76), .unset] [(.int (if nn < (own_get own_LO q) then (0 : Int32) else (if (own_get own_HI q) < nn then (0 : Int32) else (1 : Int32))))]) by
    by_cases hl : nn < (own_get own_LO q)
    · simp only [if_pos hl] at hj
      refine own_st (T' := T151) (g' := (mkF m 284 #[.val (.int p1), .val (.int p2), .val (.int p3), .val (.int q), .val (.int nn), .val (.int (2147483647 : Int32)), .val (.ref b2), .val (.ref b76), .unset] [])) (fun _ kq => XS.icmpYes X151.here hx rfl (pc0 := 268) (pc' := 284) rfl (hb hby at_268) rfl (tlt (hl : nn < (own_get own_LO q))).1 (by decide) (by decide) kq) ?_
      refine own_st (T' := T151) (g' := (mkF m 285 #[.val (.int p1), .val (.int p2), .val (.int p3), .val (.int q), .val (.int nn), .val (.int (2147483647 : Int32)), .val (.ref b2), .val (.ref b76), .unset] [(.int (0 : Int32))])) (fun _ kq => XS.iconst X151.here hx rfl (hb hby at_284) kq) ?_
      exact hj
    · simp only [if_neg hl] at hj
      refine own_st (T' := T151) (g' := (mkF m 271 #[.val (.int p1), .val (.int p2), .val (.int p3), .val (.int q), .val (.int nn), .val (.int (2147483647 : Int32)), .val (.ref b2), .val (.ref b76), .unset] [])) (fun _ kq => XS.icmpNo X151.here hx rfl (hb hby at_268) rfl (flt (hl : ¬ (nn < (own_get own_LO q)))).1 kq) ?_
      refine own_st (T' := T151) (g' := (mkF m 273 #[.val (.int p1), .val (.int p2), .val (.int p3), .val (.int q), .val (.int nn), .val (.int (2147483647 : Int32)), .val (.ref b2), .val (.ref b76), .unset] [(.int nn)])) (fun _ kq => XS.iload X151.here hx rfl (hb hby at_271) rfl kq) ?_
      refine own_st (T' := T151) (g' := (mkF m 275 #[.val (.int p1), .val (.int p2), .val (.int p3), .val (.int q), .val (.int nn), .val (.int (2147483647 : Int32)), .val (.ref b2), .val (.ref b76), .unset] [(.ref b76), (.int nn)])) (fun _ kq => XS.aload X151.here hx rfl (hb hby at_273) rfl rfl kq) ?_
      refine own_st (T' := T151) (g' := (mkF m 276 #[.val (.int p1), .val (.int p2), .val (.int p3), .val (.int q), .val (.int nn), .val (.int (2147483647 : Int32)), .val (.ref b2), .val (.ref b76), .unset] [(.int q), (.ref b76), (.int nn)])) (fun _ kq => XS.iloadN X151.here hx rfl (hb hby at_275) rfl kq) ?_
      obtain ⟨cl156, Ar156, q156, S156, Nn156, H156, G156⟩ := id V151
      have hin157 : ¬ (q < 0 ∨ cl156.slots.size ≤ (q).toNatClampNeg) := inb_of S156 ⟨own_nlt h0', own_lt23 h1'⟩
      have hat157 : cl156.slots[(q).toNatClampNeg]? = some (.int (own_get own_HI q)) := Has.at H156 hin157 (own_at own_HI q.toNatClampNeg)
      refine own_st (T' := T151) (g' := (mkF m 277 #[.val (.int p1), .val (.int p2), .val (.int p3), .val (.int q), .val (.int nn), .val (.int (2147483647 : Int32)), .val (.ref b2), .val (.ref b76), .unset] [(.int (own_get own_HI q)), (.int nn)])) (X151.iaload hx (j := q) (v := (.int (own_get own_HI q))) (by rw [e151]; exact Ar156.1) (State.isArrayOf_alike hZ.alike Ar156.2.1) Ar156.2.2 hin157 hat157 (g := (mkF m 276 #[.val (.int p1), .val (.int p2), .val (.int p3), .val (.int q), .val (.int nn), .val (.int (2147483647 : Int32)), .val (.ref b2), .val (.ref b76), .unset] [(.int q), (.ref b76), (.int nn)])) rfl rfl (hb hby at_276)) ?_
      suffices hj : own_Go p e below (fun s₂ o => ∃ v L, o = .returned v ∧ Q0 Z p1 p2 p3 w_INSTR w_LENGTH w_UPPER w_LOWER w_TRIM w_LTRIM w_RTRIM w_REPLACE w_LPAD w_RPAD w_SUBSTR w_ABS w_CEIL w_FLOOR w_SIGN w_ROUND w_TRUNC w_GREATEST w_LEAST w_TO_CHAR w_TO_DATE w_TO_NUMBER w_MOD h0 n0 v s₂.heap L ∧ FrameEnd s o s₂ L room_1.cells room_1.slots) T151 (mkF m 285 #[.val (.int p1), .val (.int p2), .val (.int p3), .val (.int q), .val (.int nn), .val (.int (2147483647 : Int32)), .val (.ref b2), .val (.ref b76), .unset] [(.int (if (own_get own_HI q) < nn then (0 : Int32) else (1 : Int32)))]) by
        by_cases hh : (own_get own_HI q) < nn
        · simp only [if_pos hh] at hj
          refine own_st (T' := T151) (g' := (mkF m 284 #[.val (.int p1), .val (.int p2), .val (.int p3), .val (.int q), .val (.int nn), .val (.int (2147483647 : Int32)), .val (.ref b2), .val (.ref b76), .unset] [])) (fun _ kq => XS.icmpYes X151.here hx rfl (pc0 := 277) (pc' := 284) rfl (hb hby at_277) rfl (tlt (hh : (own_get own_HI q) < nn)).2.2.1 (by decide) (by decide) kq) ?_
          refine own_st (T' := T151) (g' := (mkF m 285 #[.val (.int p1), .val (.int p2), .val (.int p3), .val (.int q), .val (.int nn), .val (.int (2147483647 : Int32)), .val (.ref b2), .val (.ref b76), .unset] [(.int (0 : Int32))])) (fun _ kq => XS.iconst X151.here hx rfl (hb hby at_284) kq) ?_
          exact hj
        · simp only [if_neg hh] at hj
          refine own_st (T' := T151) (g' := (mkF m 280 #[.val (.int p1), .val (.int p2), .val (.int p3), .val (.int q), .val (.int nn), .val (.int (2147483647 : Int32)), .val (.ref b2), .val (.ref b76), .unset] [])) (fun _ kq => XS.icmpNo X151.here hx rfl (hb hby at_277) rfl (flt (hh : ¬ ((own_get own_HI q) < nn))).2.2.1 kq) ?_
          refine own_st (T' := T151) (g' := (mkF m 281 #[.val (.int p1), .val (.int p2), .val (.int p3), .val (.int q), .val (.int nn), .val (.int (2147483647 : Int32)), .val (.ref b2), .val (.ref b76), .unset] [(.int (1 : Int32))])) (fun _ kq => XS.iconst X151.here hx rfl (hb hby at_280) kq) ?_
          refine own_st (T' := T151) (g' := (mkF m 285 #[.val (.int p1), .val (.int p2), .val (.int p3), .val (.int q), .val (.int nn), .val (.int (2147483647 : Int32)), .val (.ref b2), .val (.ref b76), .unset] [(.int (1 : Int32))])) (fun _ kq => XS.goto X151.here hx rfl (pc0 := 281) (pc' := 285) rfl (hb hby at_281) (by decide) (by decide) kq) ?_
          exact hj
      exact hj
  obtain ⟨ex, hex⟩ : ∃ z, z = own_takes nn (own_get own_LO q) (own_get own_HI q) := ⟨_, rfl⟩
  suffices hj : own_Go p e below (fun s₂ o => ∃ v L, o = .returned v ∧ Q0 Z p1 p2 p3 w_INSTR w_LENGTH w_UPPER w_LOWER w_TRIM w_LTRIM w_RTRIM w_REPLACE w_LPAD w_RPAD w_SUBSTR w_ABS w_CEIL w_FLOOR w_SIGN w_ROUND w_TRUNC w_GREATEST w_LEAST w_TO_CHAR w_TO_DATE w_TO_NUMBER w_MOD h0 n0 v s₂.heap L ∧ FrameEnd s o s₂ L room_1.cells room_1.slots) T151 (mkF m 285 #[.val (.int p1), .val (.int p2), .val (.int p3), .val (.int q), .val (.int nn), .val (.int (2147483647 : Int32)), .val (.ref b2), .val (.ref b76), .unset] [(.int ex)]) by
    subst hex
    exact hj
  refine own_st (T' := T151) (g' := (mkF m 287 #[.val (.int p1), .val (.int p2), .val (.int p3), .val (.int q), .val (.int nn), .val (.int (2147483647 : Int32)), .val (.ref b2), .val (.ref b76), .val (.int ex)] [])) (fun _ kq => XS.istore X151.here hx rfl (hb hby at_285) rfl (l' := #[.val (.int p1), .val (.int p2), .val (.int p3), .val (.int q), .val (.int nn), .val (.int (2147483647 : Int32)), .val (.ref b2), .val (.ref b76), .val (.int ex)]) rfl kq) ?_
  rcases own_cases q h0' h1' with rfl | rfl | rfl | rfl | rfl | rfl | rfl | rfl | rfl | rfl | rfl | rfl | rfl | rfl | rfl | rfl | rfl | rfl | rfl | rfl | rfl | rfl | rfl
  · have hex : ex = own_takes nn (2 : Int32) (2 : Int32) := hex
    refine own_st (T' := T151) (g' := (mkF m 288 #[.val (.int p1), .val (.int p2), .val (.int p3), .val (.int (0 : Int32)), .val (.int nn), .val (.int (2147483647 : Int32)), .val (.ref b2), .val (.ref b76), .val (.int ex)] [(.int (0 : Int32))])) (fun _ kq => XS.iloadN X151.here hx rfl (hb hby at_287) rfl kq) ?_
    have O158 : Old Z n0 h151 := ((((((((((((((((((((((((O77.ext E76).wr W80 g_b76).wr W83 g_b76).wr W87 g_b76).wr W90 g_b76).wr W93 g_b76).wr W96 g_b76).wr W99 g_b76).wr W103 g_b76).wr W106 g_b76).wr W109 g_b76).wr W112 g_b76).wr W115 g_b76).wr W119 g_b76).wr W122 g_b76).wr W125 g_b76).wr W128 g_b76).wr W131 g_b76).wr W135 g_b76).wr W138 g_b76).wr W141 g_b76).wr W144 g_b76).wr W147 g_b76).wr W151 g_b76)
    obtain ⟨_, _, ⟨T159, L159, k159, n159⟩, -, X159, ⟨Lc159, hQ159, l159, y159, z159⟩, st159⟩ := Jvm.LawKit.callS X151 hx (y := (⟨"com/example/table_rules/tablerules/engine/FunctionTakesPinLaw", "constant", "(I)Lcom/example/table_rules/tablerules/engine/Function;"⟩ : MethodName)) hown (mvT hZ (hw _ (List.mem_of_getElem? (i := 2) rfl))) (mvT hZ (hw _ (List.mem_of_getElem? (i := 3) rfl))) (mvT hZ (hw _ (List.mem_of_getElem? (i := 4) rfl))) (mvT hZ (hw _ (List.mem_of_getElem? (i := 5) rfl))) (by decide) (backOf (W := 0) (rmk0 l Z a0 hw [] w_INSTR h151 n0 O158 S_INSTR) hZ (hw _ (List.mem_of_getElem? (i := 5) rfl)) (hw _ (List.mem_of_getElem? (i := 4) rfl)) (by decide) (by decide)) (g := (mkF m 288 #[.val (.int p1), .val (.int p2), .val (.int p3), .val (.int (0 : Int32)), .val (.int nn), .val (.int (2147483647 : Int32)), .val (.ref b2), .val (.ref b76), .val (.int ex)] [(.int (0 : Int32))])) rfl (by rw [hml]; rfl) (argsL := [(.int (0 : Int32))]) (rest := []) (lenOf pd_I_Lcom_example_table_rules_tablerules_engine_Function_319 rfl) rfl (by show 2 * 0 + _ ≤ _; exact Nat.le_of_eq rfl) (hb hby at_288) (fun _ _ => ⟨rfl, e151, (by decide : 2 + 0 ≤ _), (by decide : 46 + 0 ≤ _)⟩)
    dsimp only [Pt.U, Pt.locs, Pt.cells, Pt.slots] at X159 l159 y159 z159 st159 hQ159
    subst l159 y159 z159
    obtain ⟨rfl, Nq159, hh159⟩ := hQ159
    have N160 := Fr.app N152 Nq159
    refine own_st (T' := T159) (g' := (mkF m 291 #[.val (.int p1), .val (.int p2), .val (.int p3), .val (.int (0 : Int32)), .val (.int nn), .val (.int (2147483647 : Int32)), .val (.ref b2), .val (.ref b76), .val (.int ex)] [(.ref w_INSTR)])) st159 ?_
    refine own_st (T' := T159) (g' := (mkF m 293 #[.val (.int p1), .val (.int p2), .val (.int p3), .val (.int (0 : Int32)), .val (.int nn), .val (.int (2147483647 : Int32)), .val (.ref b2), .val (.ref b76), .val (.int ex)] [(.int nn), (.ref w_INSTR)])) (fun _ kq => XS.iload X159.here hx rfl (hb hby at_291) rfl kq) ?_
    obtain ⟨cq161, kq161, q161a, q161b, q161c⟩ := isOf hZ hh159 (E_INSTR.ext O158.2)
    obtain ⟨_, _, ⟨T161, L161, k161, n161⟩, -, X161, ⟨Lc161, hQ161, l161, y161, z161⟩, st161⟩ := X159.virtualBack hx (y := (⟨"com/example/table_rules/tablerules/engine/Function", "takes", "(I)Z"⟩ : MethodName)) (z := (⟨"com/example/table_rules/tablerules/engine/Function", "takes", "(I)Z"⟩ : MethodName)) hown (mvT hZ (hw _ (List.mem_of_getElem? (i := 9) rfl))) (mvT hZ (hw _ (List.mem_of_getElem? (i := 10) rfl))) (notFace_of_selects (args := #[]) (mvT hZ (hw _ (List.mem_of_getElem? (i := 12) rfl)))) (mvT hZ (hw _ (List.mem_of_getElem? (i := 12) rfl))) (mvT hZ (hw _ (List.mem_of_getElem? (i := 11) rfl))) (by decide) (backOf (W := 0) (rmtakes l Z a0 hw [] w_INSTR nn (2 : Int32) (2 : Int32) h151 n0 O158 (L_INSTR.ext O158.2) (H_INSTR.ext O158.2)) hZ (hw _ (List.mem_of_getElem? (i := 13) rfl)) (hw _ (List.mem_of_getElem? (i := 7) rfl)) (by decide) (by decide)) q161a q161c (g := (mkF m 293 #[.val (.int p1), .val (.int p2), .val (.int p3), .val (.int (0 : Int32)), .val (.int nn), .val (.int (2147483647 : Int32)), .val (.ref b2), .val (.ref b76), .val (.int ex)] [(.int nn), (.ref w_INSTR)])) rfl (by rw [hml]; rfl) (Steps.refl _) (argsL := [(.int nn)]) (rest := []) (lenOf pd_I_Z_244 rfl) rfl (by show 2 * 0 + _ ≤ _; exact Nat.le_of_eq rfl) (hb hby at_293) (fun _ _ => ⟨rfl, hh159, (by decide : 2 + 0 ≤ _), (by decide : 46 + 0 ≤ _)⟩)
    dsimp only [Pt.U, Pt.locs, Pt.cells, Pt.slots] at X161 l161 y161 z161 st161 hQ161
    subst l161 y161 z161
    obtain ⟨rfl, Nq161, hh161⟩ := hQ161
    have N162 := Fr.app N160 Nq161
    refine own_ts (T' := T161) (g' := (mkF m 296 #[.val (.int p1), .val (.int p2), .val (.int p3), .val (.int (0 : Int32)), .val (.int nn), .val (.int (2147483647 : Int32)), .val (.ref b2), .val (.ref b76), .val (.int ex)] [(.int (own_takes nn (2 : Int32) (2 : Int32)))])) st161 ?_
    refine own_st (T' := T161) (g' := (mkF m 298 #[.val (.int p1), .val (.int p2), .val (.int p3), .val (.int (0 : Int32)), .val (.int nn), .val (.int (2147483647 : Int32)), .val (.ref b2), .val (.ref b76), .val (.int ex)] [(.int ex), (.int (own_takes nn (2 : Int32) (2 : Int32)))])) (fun _ kq => XS.iload X161.here hx rfl (hb hby at_296) rfl kq) ?_
    refine own_st (T' := T161) (g' := (mkF m 301 #[.val (.int p1), .val (.int p2), .val (.int p3), .val (.int (0 : Int32)), .val (.int nn), .val (.int (2147483647 : Int32)), .val (.ref b2), .val (.ref b76), .val (.int ex)] [])) (fun _ kq => XS.icmpNo X161.here hx rfl (hb hby at_298) rfl (teq (hex.symm : (own_takes nn (2 : Int32) (2 : Int32)) = ex)).2 kq) ?_
    refine own_st (T' := T161) (g' := (mkF m 302 #[.val (.int p1), .val (.int p2), .val (.int p3), .val (.int (0 : Int32)), .val (.int nn), .val (.int (2147483647 : Int32)), .val (.ref b2), .val (.ref b76), .val (.int ex)] [(.int (1 : Int32))])) (fun _ kq => XS.iconst X161.here hx rfl (hb hby at_301) kq) ?_
    refine own_st (T' := T161) (g' := (mkF m 306 #[.val (.int p1), .val (.int p2), .val (.int p3), .val (.int (0 : Int32)), .val (.int nn), .val (.int (2147483647 : Int32)), .val (.ref b2), .val (.ref b76), .val (.int ex)] [(.int (1 : Int32))])) (fun _ kq => XS.goto X161.here hx rfl (pc0 := 302) (pc' := 306) rfl (hb hby at_302) (by decide) (by decide) kq) ?_
    refine own_out X161 Bd.notSynchronized (v := (some (.int (1 : Int32)))) (fun h => by rw [Bd.returns] at h; cases h) (fun fs hr => retN X161 hx (t := .boolean) Bd.returns (by simp) (hb hby at_306) hr) ?_ (by decide) (by decide)
    rw [hh161]
    exact ⟨rfl, N162⟩
  · have hex : ex = own_takes nn (1 : Int32) (1 : Int32) := hex
    refine own_st (T' := T151) (g' := (mkF m 288 #[.val (.int p1), .val (.int p2), .val (.int p3), .val (.int (1 : Int32)), .val (.int nn), .val (.int (2147483647 : Int32)), .val (.ref b2), .val (.ref b76), .val (.int ex)] [(.int (1 : Int32))])) (fun _ kq => XS.iloadN X151.here hx rfl (hb hby at_287) rfl kq) ?_
    have O163 : Old Z n0 h151 := ((((((((((((((((((((((((O77.ext E76).wr W80 g_b76).wr W83 g_b76).wr W87 g_b76).wr W90 g_b76).wr W93 g_b76).wr W96 g_b76).wr W99 g_b76).wr W103 g_b76).wr W106 g_b76).wr W109 g_b76).wr W112 g_b76).wr W115 g_b76).wr W119 g_b76).wr W122 g_b76).wr W125 g_b76).wr W128 g_b76).wr W131 g_b76).wr W135 g_b76).wr W138 g_b76).wr W141 g_b76).wr W144 g_b76).wr W147 g_b76).wr W151 g_b76)
    obtain ⟨_, _, ⟨T164, L164, k164, n164⟩, -, X164, ⟨Lc164, hQ164, l164, y164, z164⟩, st164⟩ := Jvm.LawKit.callS X151 hx (y := (⟨"com/example/table_rules/tablerules/engine/FunctionTakesPinLaw", "constant", "(I)Lcom/example/table_rules/tablerules/engine/Function;"⟩ : MethodName)) hown (mvT hZ (hw _ (List.mem_of_getElem? (i := 2) rfl))) (mvT hZ (hw _ (List.mem_of_getElem? (i := 3) rfl))) (mvT hZ (hw _ (List.mem_of_getElem? (i := 4) rfl))) (mvT hZ (hw _ (List.mem_of_getElem? (i := 5) rfl))) (by decide) (backOf (W := 0) (rmk1 l Z a0 hw [] w_LENGTH h151 n0 O163 S_LENGTH) hZ (hw _ (List.mem_of_getElem? (i := 5) rfl)) (hw _ (List.mem_of_getElem? (i := 4) rfl)) (by decide) (by decide)) (g := (mkF m 288 #[.val (.int p1), .val (.int p2), .val (.int p3), .val (.int (1 : Int32)), .val (.int nn), .val (.int (2147483647 : Int32)), .val (.ref b2), .val (.ref b76), .val (.int ex)] [(.int (1 : Int32))])) rfl (by rw [hml]; rfl) (argsL := [(.int (1 : Int32))]) (rest := []) (lenOf pd_I_Lcom_example_table_rules_tablerules_engine_Function_319 rfl) rfl (by show 2 * 0 + _ ≤ _; exact Nat.le_of_eq rfl) (hb hby at_288) (fun _ _ => ⟨rfl, e151, (by decide : 2 + 0 ≤ _), (by decide : 46 + 0 ≤ _)⟩)
    dsimp only [Pt.U, Pt.locs, Pt.cells, Pt.slots] at X164 l164 y164 z164 st164 hQ164
    subst l164 y164 z164
    obtain ⟨rfl, Nq164, hh164⟩ := hQ164
    have N165 := Fr.app N152 Nq164
    refine own_st (T' := T164) (g' := (mkF m 291 #[.val (.int p1), .val (.int p2), .val (.int p3), .val (.int (1 : Int32)), .val (.int nn), .val (.int (2147483647 : Int32)), .val (.ref b2), .val (.ref b76), .val (.int ex)] [(.ref w_LENGTH)])) st164 ?_
    refine own_st (T' := T164) (g' := (mkF m 293 #[.val (.int p1), .val (.int p2), .val (.int p3), .val (.int (1 : Int32)), .val (.int nn), .val (.int (2147483647 : Int32)), .val (.ref b2), .val (.ref b76), .val (.int ex)] [(.int nn), (.ref w_LENGTH)])) (fun _ kq => XS.iload X164.here hx rfl (hb hby at_291) rfl kq) ?_
    obtain ⟨cq166, kq166, q166a, q166b, q166c⟩ := isOf hZ hh164 (E_LENGTH.ext O163.2)
    obtain ⟨_, _, ⟨T166, L166, k166, n166⟩, -, X166, ⟨Lc166, hQ166, l166, y166, z166⟩, st166⟩ := X164.virtualBack hx (y := (⟨"com/example/table_rules/tablerules/engine/Function", "takes", "(I)Z"⟩ : MethodName)) (z := (⟨"com/example/table_rules/tablerules/engine/Function", "takes", "(I)Z"⟩ : MethodName)) hown (mvT hZ (hw _ (List.mem_of_getElem? (i := 9) rfl))) (mvT hZ (hw _ (List.mem_of_getElem? (i := 10) rfl))) (notFace_of_selects (args := #[]) (mvT hZ (hw _ (List.mem_of_getElem? (i := 18) rfl)))) (mvT hZ (hw _ (List.mem_of_getElem? (i := 18) rfl))) (mvT hZ (hw _ (List.mem_of_getElem? (i := 11) rfl))) (by decide) (backOf (W := 0) (rmtakes l Z a0 hw [] w_LENGTH nn (1 : Int32) (1 : Int32) h151 n0 O163 (L_LENGTH.ext O163.2) (H_LENGTH.ext O163.2)) hZ (hw _ (List.mem_of_getElem? (i := 13) rfl)) (hw _ (List.mem_of_getElem? (i := 7) rfl)) (by decide) (by decide)) q166a q166c (g := (mkF m 293 #[.val (.int p1), .val (.int p2), .val (.int p3), .val (.int (1 : Int32)), .val (.int nn), .val (.int (2147483647 : Int32)), .val (.ref b2), .val (.ref b76), .val (.int ex)] [(.int nn), (.ref w_LENGTH)])) rfl (by rw [hml]; rfl) (Steps.refl _) (argsL := [(.int nn)]) (rest := []) (lenOf pd_I_Z_244 rfl) rfl (by show 2 * 0 + _ ≤ _; exact Nat.le_of_eq rfl) (hb hby at_293) (fun _ _ => ⟨rfl, hh164, (by decide : 2 + 0 ≤ _), (by decide : 46 + 0 ≤ _)⟩)
    dsimp only [Pt.U, Pt.locs, Pt.cells, Pt.slots] at X166 l166 y166 z166 st166 hQ166
    subst l166 y166 z166
    obtain ⟨rfl, Nq166, hh166⟩ := hQ166
    have N167 := Fr.app N165 Nq166
    refine own_ts (T' := T166) (g' := (mkF m 296 #[.val (.int p1), .val (.int p2), .val (.int p3), .val (.int (1 : Int32)), .val (.int nn), .val (.int (2147483647 : Int32)), .val (.ref b2), .val (.ref b76), .val (.int ex)] [(.int (own_takes nn (1 : Int32) (1 : Int32)))])) st166 ?_
    refine own_st (T' := T166) (g' := (mkF m 298 #[.val (.int p1), .val (.int p2), .val (.int p3), .val (.int (1 : Int32)), .val (.int nn), .val (.int (2147483647 : Int32)), .val (.ref b2), .val (.ref b76), .val (.int ex)] [(.int ex), (.int (own_takes nn (1 : Int32) (1 : Int32)))])) (fun _ kq => XS.iload X166.here hx rfl (hb hby at_296) rfl kq) ?_
    refine own_st (T' := T166) (g' := (mkF m 301 #[.val (.int p1), .val (.int p2), .val (.int p3), .val (.int (1 : Int32)), .val (.int nn), .val (.int (2147483647 : Int32)), .val (.ref b2), .val (.ref b76), .val (.int ex)] [])) (fun _ kq => XS.icmpNo X166.here hx rfl (hb hby at_298) rfl (teq (hex.symm : (own_takes nn (1 : Int32) (1 : Int32)) = ex)).2 kq) ?_
    refine own_st (T' := T166) (g' := (mkF m 302 #[.val (.int p1), .val (.int p2), .val (.int p3), .val (.int (1 : Int32)), .val (.int nn), .val (.int (2147483647 : Int32)), .val (.ref b2), .val (.ref b76), .val (.int ex)] [(.int (1 : Int32))])) (fun _ kq => XS.iconst X166.here hx rfl (hb hby at_301) kq) ?_
    refine own_st (T' := T166) (g' := (mkF m 306 #[.val (.int p1), .val (.int p2), .val (.int p3), .val (.int (1 : Int32)), .val (.int nn), .val (.int (2147483647 : Int32)), .val (.ref b2), .val (.ref b76), .val (.int ex)] [(.int (1 : Int32))])) (fun _ kq => XS.goto X166.here hx rfl (pc0 := 302) (pc' := 306) rfl (hb hby at_302) (by decide) (by decide) kq) ?_
    refine own_out X166 Bd.notSynchronized (v := (some (.int (1 : Int32)))) (fun h => by rw [Bd.returns] at h; cases h) (fun fs hr => retN X166 hx (t := .boolean) Bd.returns (by simp) (hb hby at_306) hr) ?_ (by decide) (by decide)
    rw [hh166]
    exact ⟨rfl, N167⟩
  · have hex : ex = own_takes nn (1 : Int32) (1 : Int32) := hex
    refine own_st (T' := T151) (g' := (mkF m 288 #[.val (.int p1), .val (.int p2), .val (.int p3), .val (.int (2 : Int32)), .val (.int nn), .val (.int (2147483647 : Int32)), .val (.ref b2), .val (.ref b76), .val (.int ex)] [(.int (2 : Int32))])) (fun _ kq => XS.iloadN X151.here hx rfl (hb hby at_287) rfl kq) ?_
    have O168 : Old Z n0 h151 := ((((((((((((((((((((((((O77.ext E76).wr W80 g_b76).wr W83 g_b76).wr W87 g_b76).wr W90 g_b76).wr W93 g_b76).wr W96 g_b76).wr W99 g_b76).wr W103 g_b76).wr W106 g_b76).wr W109 g_b76).wr W112 g_b76).wr W115 g_b76).wr W119 g_b76).wr W122 g_b76).wr W125 g_b76).wr W128 g_b76).wr W131 g_b76).wr W135 g_b76).wr W138 g_b76).wr W141 g_b76).wr W144 g_b76).wr W147 g_b76).wr W151 g_b76)
    obtain ⟨_, _, ⟨T169, L169, k169, n169⟩, -, X169, ⟨Lc169, hQ169, l169, y169, z169⟩, st169⟩ := Jvm.LawKit.callS X151 hx (y := (⟨"com/example/table_rules/tablerules/engine/FunctionTakesPinLaw", "constant", "(I)Lcom/example/table_rules/tablerules/engine/Function;"⟩ : MethodName)) hown (mvT hZ (hw _ (List.mem_of_getElem? (i := 2) rfl))) (mvT hZ (hw _ (List.mem_of_getElem? (i := 3) rfl))) (mvT hZ (hw _ (List.mem_of_getElem? (i := 4) rfl))) (mvT hZ (hw _ (List.mem_of_getElem? (i := 5) rfl))) (by decide) (backOf (W := 0) (rmk2 l Z a0 hw [] w_UPPER h151 n0 O168 S_UPPER) hZ (hw _ (List.mem_of_getElem? (i := 5) rfl)) (hw _ (List.mem_of_getElem? (i := 4) rfl)) (by decide) (by decide)) (g := (mkF m 288 #[.val (.int p1), .val (.int p2), .val (.int p3), .val (.int (2 : Int32)), .val (.int nn), .val (.int (2147483647 : Int32)), .val (.ref b2), .val (.ref b76), .val (.int ex)] [(.int (2 : Int32))])) rfl (by rw [hml]; rfl) (argsL := [(.int (2 : Int32))]) (rest := []) (lenOf pd_I_Lcom_example_table_rules_tablerules_engine_Function_319 rfl) rfl (by show 2 * 0 + _ ≤ _; exact Nat.le_of_eq rfl) (hb hby at_288) (fun _ _ => ⟨rfl, e151, (by decide : 2 + 0 ≤ _), (by decide : 46 + 0 ≤ _)⟩)
    dsimp only [Pt.U, Pt.locs, Pt.cells, Pt.slots] at X169 l169 y169 z169 st169 hQ169
    subst l169 y169 z169
    obtain ⟨rfl, Nq169, hh169⟩ := hQ169
    have N170 := Fr.app N152 Nq169
    refine own_st (T' := T169) (g' := (mkF m 291 #[.val (.int p1), .val (.int p2), .val (.int p3), .val (.int (2 : Int32)), .val (.int nn), .val (.int (2147483647 : Int32)), .val (.ref b2), .val (.ref b76), .val (.int ex)] [(.ref w_UPPER)])) st169 ?_
    refine own_st (T' := T169) (g' := (mkF m 293 #[.val (.int p1), .val (.int p2), .val (.int p3), .val (.int (2 : Int32)), .val (.int nn), .val (.int (2147483647 : Int32)), .val (.ref b2), .val (.ref b76), .val (.int ex)] [(.int nn), (.ref w_UPPER)])) (fun _ kq => XS.iload X169.here hx rfl (hb hby at_291) rfl kq) ?_
    obtain ⟨cq171, kq171, q171a, q171b, q171c⟩ := isOf hZ hh169 (E_UPPER.ext O168.2)
    obtain ⟨_, _, ⟨T171, L171, k171, n171⟩, -, X171, ⟨Lc171, hQ171, l171, y171, z171⟩, st171⟩ := X169.virtualBack hx (y := (⟨"com/example/table_rules/tablerules/engine/Function", "takes", "(I)Z"⟩ : MethodName)) (z := (⟨"com/example/table_rules/tablerules/engine/Function", "takes", "(I)Z"⟩ : MethodName)) hown (mvT hZ (hw _ (List.mem_of_getElem? (i := 9) rfl))) (mvT hZ (hw _ (List.mem_of_getElem? (i := 10) rfl))) (notFace_of_selects (args := #[]) (mvT hZ (hw _ (List.mem_of_getElem? (i := 56) rfl)))) (mvT hZ (hw _ (List.mem_of_getElem? (i := 56) rfl))) (mvT hZ (hw _ (List.mem_of_getElem? (i := 11) rfl))) (by decide) (backOf (W := 0) (rmtakes l Z a0 hw [] w_UPPER nn (1 : Int32) (1 : Int32) h151 n0 O168 (L_UPPER.ext O168.2) (H_UPPER.ext O168.2)) hZ (hw _ (List.mem_of_getElem? (i := 13) rfl)) (hw _ (List.mem_of_getElem? (i := 7) rfl)) (by decide) (by decide)) q171a q171c (g := (mkF m 293 #[.val (.int p1), .val (.int p2), .val (.int p3), .val (.int (2 : Int32)), .val (.int nn), .val (.int (2147483647 : Int32)), .val (.ref b2), .val (.ref b76), .val (.int ex)] [(.int nn), (.ref w_UPPER)])) rfl (by rw [hml]; rfl) (Steps.refl _) (argsL := [(.int nn)]) (rest := []) (lenOf pd_I_Z_244 rfl) rfl (by show 2 * 0 + _ ≤ _; exact Nat.le_of_eq rfl) (hb hby at_293) (fun _ _ => ⟨rfl, hh169, (by decide : 2 + 0 ≤ _), (by decide : 46 + 0 ≤ _)⟩)
    dsimp only [Pt.U, Pt.locs, Pt.cells, Pt.slots] at X171 l171 y171 z171 st171 hQ171
    subst l171 y171 z171
    obtain ⟨rfl, Nq171, hh171⟩ := hQ171
    have N172 := Fr.app N170 Nq171
    refine own_ts (T' := T171) (g' := (mkF m 296 #[.val (.int p1), .val (.int p2), .val (.int p3), .val (.int (2 : Int32)), .val (.int nn), .val (.int (2147483647 : Int32)), .val (.ref b2), .val (.ref b76), .val (.int ex)] [(.int (own_takes nn (1 : Int32) (1 : Int32)))])) st171 ?_
    refine own_st (T' := T171) (g' := (mkF m 298 #[.val (.int p1), .val (.int p2), .val (.int p3), .val (.int (2 : Int32)), .val (.int nn), .val (.int (2147483647 : Int32)), .val (.ref b2), .val (.ref b76), .val (.int ex)] [(.int ex), (.int (own_takes nn (1 : Int32) (1 : Int32)))])) (fun _ kq => XS.iload X171.here hx rfl (hb hby at_296) rfl kq) ?_
    refine own_st (T' := T171) (g' := (mkF m 301 #[.val (.int p1), .val (.int p2), .val (.int p3), .val (.int (2 : Int32)), .val (.int nn), .val (.int (2147483647 : Int32)), .val (.ref b2), .val (.ref b76), .val (.int ex)] [])) (fun _ kq => XS.icmpNo X171.here hx rfl (hb hby at_298) rfl (teq (hex.symm : (own_takes nn (1 : Int32) (1 : Int32)) = ex)).2 kq) ?_
    refine own_st (T' := T171) (g' := (mkF m 302 #[.val (.int p1), .val (.int p2), .val (.int p3), .val (.int (2 : Int32)), .val (.int nn), .val (.int (2147483647 : Int32)), .val (.ref b2), .val (.ref b76), .val (.int ex)] [(.int (1 : Int32))])) (fun _ kq => XS.iconst X171.here hx rfl (hb hby at_301) kq) ?_
    refine own_st (T' := T171) (g' := (mkF m 306 #[.val (.int p1), .val (.int p2), .val (.int p3), .val (.int (2 : Int32)), .val (.int nn), .val (.int (2147483647 : Int32)), .val (.ref b2), .val (.ref b76), .val (.int ex)] [(.int (1 : Int32))])) (fun _ kq => XS.goto X171.here hx rfl (pc0 := 302) (pc' := 306) rfl (hb hby at_302) (by decide) (by decide) kq) ?_
    refine own_out X171 Bd.notSynchronized (v := (some (.int (1 : Int32)))) (fun h => by rw [Bd.returns] at h; cases h) (fun fs hr => retN X171 hx (t := .boolean) Bd.returns (by simp) (hb hby at_306) hr) ?_ (by decide) (by decide)
    rw [hh171]
    exact ⟨rfl, N172⟩
  · have hex : ex = own_takes nn (1 : Int32) (1 : Int32) := hex
    refine own_st (T' := T151) (g' := (mkF m 288 #[.val (.int p1), .val (.int p2), .val (.int p3), .val (.int (3 : Int32)), .val (.int nn), .val (.int (2147483647 : Int32)), .val (.ref b2), .val (.ref b76), .val (.int ex)] [(.int (3 : Int32))])) (fun _ kq => XS.iloadN X151.here hx rfl (hb hby at_287) rfl kq) ?_
    have O173 : Old Z n0 h151 := ((((((((((((((((((((((((O77.ext E76).wr W80 g_b76).wr W83 g_b76).wr W87 g_b76).wr W90 g_b76).wr W93 g_b76).wr W96 g_b76).wr W99 g_b76).wr W103 g_b76).wr W106 g_b76).wr W109 g_b76).wr W112 g_b76).wr W115 g_b76).wr W119 g_b76).wr W122 g_b76).wr W125 g_b76).wr W128 g_b76).wr W131 g_b76).wr W135 g_b76).wr W138 g_b76).wr W141 g_b76).wr W144 g_b76).wr W147 g_b76).wr W151 g_b76)
    obtain ⟨_, _, ⟨T174, L174, k174, n174⟩, -, X174, ⟨Lc174, hQ174, l174, y174, z174⟩, st174⟩ := Jvm.LawKit.callS X151 hx (y := (⟨"com/example/table_rules/tablerules/engine/FunctionTakesPinLaw", "constant", "(I)Lcom/example/table_rules/tablerules/engine/Function;"⟩ : MethodName)) hown (mvT hZ (hw _ (List.mem_of_getElem? (i := 2) rfl))) (mvT hZ (hw _ (List.mem_of_getElem? (i := 3) rfl))) (mvT hZ (hw _ (List.mem_of_getElem? (i := 4) rfl))) (mvT hZ (hw _ (List.mem_of_getElem? (i := 5) rfl))) (by decide) (backOf (W := 0) (rmk3 l Z a0 hw [] w_LOWER h151 n0 O173 S_LOWER) hZ (hw _ (List.mem_of_getElem? (i := 5) rfl)) (hw _ (List.mem_of_getElem? (i := 4) rfl)) (by decide) (by decide)) (g := (mkF m 288 #[.val (.int p1), .val (.int p2), .val (.int p3), .val (.int (3 : Int32)), .val (.int nn), .val (.int (2147483647 : Int32)), .val (.ref b2), .val (.ref b76), .val (.int ex)] [(.int (3 : Int32))])) rfl (by rw [hml]; rfl) (argsL := [(.int (3 : Int32))]) (rest := []) (lenOf pd_I_Lcom_example_table_rules_tablerules_engine_Function_319 rfl) rfl (by show 2 * 0 + _ ≤ _; exact Nat.le_of_eq rfl) (hb hby at_288) (fun _ _ => ⟨rfl, e151, (by decide : 2 + 0 ≤ _), (by decide : 46 + 0 ≤ _)⟩)
    dsimp only [Pt.U, Pt.locs, Pt.cells, Pt.slots] at X174 l174 y174 z174 st174 hQ174
    subst l174 y174 z174
    obtain ⟨rfl, Nq174, hh174⟩ := hQ174
    have N175 := Fr.app N152 Nq174
    refine own_st (T' := T174) (g' := (mkF m 291 #[.val (.int p1), .val (.int p2), .val (.int p3), .val (.int (3 : Int32)), .val (.int nn), .val (.int (2147483647 : Int32)), .val (.ref b2), .val (.ref b76), .val (.int ex)] [(.ref w_LOWER)])) st174 ?_
    refine own_st (T' := T174) (g' := (mkF m 293 #[.val (.int p1), .val (.int p2), .val (.int p3), .val (.int (3 : Int32)), .val (.int nn), .val (.int (2147483647 : Int32)), .val (.ref b2), .val (.ref b76), .val (.int ex)] [(.int nn), (.ref w_LOWER)])) (fun _ kq => XS.iload X174.here hx rfl (hb hby at_291) rfl kq) ?_
    obtain ⟨cq176, kq176, q176a, q176b, q176c⟩ := isOf hZ hh174 (E_LOWER.ext O173.2)
    obtain ⟨_, _, ⟨T176, L176, k176, n176⟩, -, X176, ⟨Lc176, hQ176, l176, y176, z176⟩, st176⟩ := X174.virtualBack hx (y := (⟨"com/example/table_rules/tablerules/engine/Function", "takes", "(I)Z"⟩ : MethodName)) (z := (⟨"com/example/table_rules/tablerules/engine/Function", "takes", "(I)Z"⟩ : MethodName)) hown (mvT hZ (hw _ (List.mem_of_getElem? (i := 9) rfl))) (mvT hZ (hw _ (List.mem_of_getElem? (i := 10) rfl))) (notFace_of_selects (args := #[]) (mvT hZ (hw _ (List.mem_of_getElem? (i := 24) rfl)))) (mvT hZ (hw _ (List.mem_of_getElem? (i := 24) rfl))) (mvT hZ (hw _ (List.mem_of_getElem? (i := 11) rfl))) (by decide) (backOf (W := 0) (rmtakes l Z a0 hw [] w_LOWER nn (1 : Int32) (1 : Int32) h151 n0 O173 (L_LOWER.ext O173.2) (H_LOWER.ext O173.2)) hZ (hw _ (List.mem_of_getElem? (i := 13) rfl)) (hw _ (List.mem_of_getElem? (i := 7) rfl)) (by decide) (by decide)) q176a q176c (g := (mkF m 293 #[.val (.int p1), .val (.int p2), .val (.int p3), .val (.int (3 : Int32)), .val (.int nn), .val (.int (2147483647 : Int32)), .val (.ref b2), .val (.ref b76), .val (.int ex)] [(.int nn), (.ref w_LOWER)])) rfl (by rw [hml]; rfl) (Steps.refl _) (argsL := [(.int nn)]) (rest := []) (lenOf pd_I_Z_244 rfl) rfl (by show 2 * 0 + _ ≤ _; exact Nat.le_of_eq rfl) (hb hby at_293) (fun _ _ => ⟨rfl, hh174, (by decide : 2 + 0 ≤ _), (by decide : 46 + 0 ≤ _)⟩)
    dsimp only [Pt.U, Pt.locs, Pt.cells, Pt.slots] at X176 l176 y176 z176 st176 hQ176
    subst l176 y176 z176
    obtain ⟨rfl, Nq176, hh176⟩ := hQ176
    have N177 := Fr.app N175 Nq176
    refine own_ts (T' := T176) (g' := (mkF m 296 #[.val (.int p1), .val (.int p2), .val (.int p3), .val (.int (3 : Int32)), .val (.int nn), .val (.int (2147483647 : Int32)), .val (.ref b2), .val (.ref b76), .val (.int ex)] [(.int (own_takes nn (1 : Int32) (1 : Int32)))])) st176 ?_
    refine own_st (T' := T176) (g' := (mkF m 298 #[.val (.int p1), .val (.int p2), .val (.int p3), .val (.int (3 : Int32)), .val (.int nn), .val (.int (2147483647 : Int32)), .val (.ref b2), .val (.ref b76), .val (.int ex)] [(.int ex), (.int (own_takes nn (1 : Int32) (1 : Int32)))])) (fun _ kq => XS.iload X176.here hx rfl (hb hby at_296) rfl kq) ?_
    refine own_st (T' := T176) (g' := (mkF m 301 #[.val (.int p1), .val (.int p2), .val (.int p3), .val (.int (3 : Int32)), .val (.int nn), .val (.int (2147483647 : Int32)), .val (.ref b2), .val (.ref b76), .val (.int ex)] [])) (fun _ kq => XS.icmpNo X176.here hx rfl (hb hby at_298) rfl (teq (hex.symm : (own_takes nn (1 : Int32) (1 : Int32)) = ex)).2 kq) ?_
    refine own_st (T' := T176) (g' := (mkF m 302 #[.val (.int p1), .val (.int p2), .val (.int p3), .val (.int (3 : Int32)), .val (.int nn), .val (.int (2147483647 : Int32)), .val (.ref b2), .val (.ref b76), .val (.int ex)] [(.int (1 : Int32))])) (fun _ kq => XS.iconst X176.here hx rfl (hb hby at_301) kq) ?_
    refine own_st (T' := T176) (g' := (mkF m 306 #[.val (.int p1), .val (.int p2), .val (.int p3), .val (.int (3 : Int32)), .val (.int nn), .val (.int (2147483647 : Int32)), .val (.ref b2), .val (.ref b76), .val (.int ex)] [(.int (1 : Int32))])) (fun _ kq => XS.goto X176.here hx rfl (pc0 := 302) (pc' := 306) rfl (hb hby at_302) (by decide) (by decide) kq) ?_
    refine own_out X176 Bd.notSynchronized (v := (some (.int (1 : Int32)))) (fun h => by rw [Bd.returns] at h; cases h) (fun fs hr => retN X176 hx (t := .boolean) Bd.returns (by simp) (hb hby at_306) hr) ?_ (by decide) (by decide)
    rw [hh176]
    exact ⟨rfl, N177⟩
  · have hex : ex = own_takes nn (1 : Int32) (1 : Int32) := hex
    refine own_st (T' := T151) (g' := (mkF m 288 #[.val (.int p1), .val (.int p2), .val (.int p3), .val (.int (4 : Int32)), .val (.int nn), .val (.int (2147483647 : Int32)), .val (.ref b2), .val (.ref b76), .val (.int ex)] [(.int (4 : Int32))])) (fun _ kq => XS.iloadN X151.here hx rfl (hb hby at_287) rfl kq) ?_
    have O178 : Old Z n0 h151 := ((((((((((((((((((((((((O77.ext E76).wr W80 g_b76).wr W83 g_b76).wr W87 g_b76).wr W90 g_b76).wr W93 g_b76).wr W96 g_b76).wr W99 g_b76).wr W103 g_b76).wr W106 g_b76).wr W109 g_b76).wr W112 g_b76).wr W115 g_b76).wr W119 g_b76).wr W122 g_b76).wr W125 g_b76).wr W128 g_b76).wr W131 g_b76).wr W135 g_b76).wr W138 g_b76).wr W141 g_b76).wr W144 g_b76).wr W147 g_b76).wr W151 g_b76)
    obtain ⟨_, _, ⟨T179, L179, k179, n179⟩, -, X179, ⟨Lc179, hQ179, l179, y179, z179⟩, st179⟩ := Jvm.LawKit.callS X151 hx (y := (⟨"com/example/table_rules/tablerules/engine/FunctionTakesPinLaw", "constant", "(I)Lcom/example/table_rules/tablerules/engine/Function;"⟩ : MethodName)) hown (mvT hZ (hw _ (List.mem_of_getElem? (i := 2) rfl))) (mvT hZ (hw _ (List.mem_of_getElem? (i := 3) rfl))) (mvT hZ (hw _ (List.mem_of_getElem? (i := 4) rfl))) (mvT hZ (hw _ (List.mem_of_getElem? (i := 5) rfl))) (by decide) (backOf (W := 0) (rmk4 l Z a0 hw [] w_TRIM h151 n0 O178 S_TRIM) hZ (hw _ (List.mem_of_getElem? (i := 5) rfl)) (hw _ (List.mem_of_getElem? (i := 4) rfl)) (by decide) (by decide)) (g := (mkF m 288 #[.val (.int p1), .val (.int p2), .val (.int p3), .val (.int (4 : Int32)), .val (.int nn), .val (.int (2147483647 : Int32)), .val (.ref b2), .val (.ref b76), .val (.int ex)] [(.int (4 : Int32))])) rfl (by rw [hml]; rfl) (argsL := [(.int (4 : Int32))]) (rest := []) (lenOf pd_I_Lcom_example_table_rules_tablerules_engine_Function_319 rfl) rfl (by show 2 * 0 + _ ≤ _; exact Nat.le_of_eq rfl) (hb hby at_288) (fun _ _ => ⟨rfl, e151, (by decide : 2 + 0 ≤ _), (by decide : 46 + 0 ≤ _)⟩)
    dsimp only [Pt.U, Pt.locs, Pt.cells, Pt.slots] at X179 l179 y179 z179 st179 hQ179
    subst l179 y179 z179
    obtain ⟨rfl, Nq179, hh179⟩ := hQ179
    have N180 := Fr.app N152 Nq179
    refine own_st (T' := T179) (g' := (mkF m 291 #[.val (.int p1), .val (.int p2), .val (.int p3), .val (.int (4 : Int32)), .val (.int nn), .val (.int (2147483647 : Int32)), .val (.ref b2), .val (.ref b76), .val (.int ex)] [(.ref w_TRIM)])) st179 ?_
    refine own_st (T' := T179) (g' := (mkF m 293 #[.val (.int p1), .val (.int p2), .val (.int p3), .val (.int (4 : Int32)), .val (.int nn), .val (.int (2147483647 : Int32)), .val (.ref b2), .val (.ref b76), .val (.int ex)] [(.int nn), (.ref w_TRIM)])) (fun _ kq => XS.iload X179.here hx rfl (hb hby at_291) rfl kq) ?_
    obtain ⟨cq181, kq181, q181a, q181b, q181c⟩ := isOf hZ hh179 (E_TRIM.ext O178.2)
    obtain ⟨_, _, ⟨T181, L181, k181, n181⟩, -, X181, ⟨Lc181, hQ181, l181, y181, z181⟩, st181⟩ := X179.virtualBack hx (y := (⟨"com/example/table_rules/tablerules/engine/Function", "takes", "(I)Z"⟩ : MethodName)) (z := (⟨"com/example/table_rules/tablerules/engine/Function", "takes", "(I)Z"⟩ : MethodName)) hown (mvT hZ (hw _ (List.mem_of_getElem? (i := 9) rfl))) (mvT hZ (hw _ (List.mem_of_getElem? (i := 10) rfl))) (notFace_of_selects (args := #[]) (mvT hZ (hw _ (List.mem_of_getElem? (i := 101) rfl)))) (mvT hZ (hw _ (List.mem_of_getElem? (i := 101) rfl))) (mvT hZ (hw _ (List.mem_of_getElem? (i := 11) rfl))) (by decide) (backOf (W := 0) (rmtakes l Z a0 hw [] w_TRIM nn (1 : Int32) (1 : Int32) h151 n0 O178 (L_TRIM.ext O178.2) (H_TRIM.ext O178.2)) hZ (hw _ (List.mem_of_getElem? (i := 13) rfl)) (hw _ (List.mem_of_getElem? (i := 7) rfl)) (by decide) (by decide)) q181a q181c (g := (mkF m 293 #[.val (.int p1), .val (.int p2), .val (.int p3), .val (.int (4 : Int32)), .val (.int nn), .val (.int (2147483647 : Int32)), .val (.ref b2), .val (.ref b76), .val (.int ex)] [(.int nn), (.ref w_TRIM)])) rfl (by rw [hml]; rfl) (Steps.refl _) (argsL := [(.int nn)]) (rest := []) (lenOf pd_I_Z_244 rfl) rfl (by show 2 * 0 + _ ≤ _; exact Nat.le_of_eq rfl) (hb hby at_293) (fun _ _ => ⟨rfl, hh179, (by decide : 2 + 0 ≤ _), (by decide : 46 + 0 ≤ _)⟩)
    dsimp only [Pt.U, Pt.locs, Pt.cells, Pt.slots] at X181 l181 y181 z181 st181 hQ181
    subst l181 y181 z181
    obtain ⟨rfl, Nq181, hh181⟩ := hQ181
    have N182 := Fr.app N180 Nq181
    refine own_ts (T' := T181) (g' := (mkF m 296 #[.val (.int p1), .val (.int p2), .val (.int p3), .val (.int (4 : Int32)), .val (.int nn), .val (.int (2147483647 : Int32)), .val (.ref b2), .val (.ref b76), .val (.int ex)] [(.int (own_takes nn (1 : Int32) (1 : Int32)))])) st181 ?_
    refine own_st (T' := T181) (g' := (mkF m 298 #[.val (.int p1), .val (.int p2), .val (.int p3), .val (.int (4 : Int32)), .val (.int nn), .val (.int (2147483647 : Int32)), .val (.ref b2), .val (.ref b76), .val (.int ex)] [(.int ex), (.int (own_takes nn (1 : Int32) (1 : Int32)))])) (fun _ kq => XS.iload X181.here hx rfl (hb hby at_296) rfl kq) ?_
    refine own_st (T' := T181) (g' := (mkF m 301 #[.val (.int p1), .val (.int p2), .val (.int p3), .val (.int (4 : Int32)), .val (.int nn), .val (.int (2147483647 : Int32)), .val (.ref b2), .val (.ref b76), .val (.int ex)] [])) (fun _ kq => XS.icmpNo X181.here hx rfl (hb hby at_298) rfl (teq (hex.symm : (own_takes nn (1 : Int32) (1 : Int32)) = ex)).2 kq) ?_
    refine own_st (T' := T181) (g' := (mkF m 302 #[.val (.int p1), .val (.int p2), .val (.int p3), .val (.int (4 : Int32)), .val (.int nn), .val (.int (2147483647 : Int32)), .val (.ref b2), .val (.ref b76), .val (.int ex)] [(.int (1 : Int32))])) (fun _ kq => XS.iconst X181.here hx rfl (hb hby at_301) kq) ?_
    refine own_st (T' := T181) (g' := (mkF m 306 #[.val (.int p1), .val (.int p2), .val (.int p3), .val (.int (4 : Int32)), .val (.int nn), .val (.int (2147483647 : Int32)), .val (.ref b2), .val (.ref b76), .val (.int ex)] [(.int (1 : Int32))])) (fun _ kq => XS.goto X181.here hx rfl (pc0 := 302) (pc' := 306) rfl (hb hby at_302) (by decide) (by decide) kq) ?_
    refine own_out X181 Bd.notSynchronized (v := (some (.int (1 : Int32)))) (fun h => by rw [Bd.returns] at h; cases h) (fun fs hr => retN X181 hx (t := .boolean) Bd.returns (by simp) (hb hby at_306) hr) ?_ (by decide) (by decide)
    rw [hh181]
    exact ⟨rfl, N182⟩
  · have hex : ex = own_takes nn (1 : Int32) (2 : Int32) := hex
    refine own_st (T' := T151) (g' := (mkF m 288 #[.val (.int p1), .val (.int p2), .val (.int p3), .val (.int (5 : Int32)), .val (.int nn), .val (.int (2147483647 : Int32)), .val (.ref b2), .val (.ref b76), .val (.int ex)] [(.int (5 : Int32))])) (fun _ kq => XS.iloadN X151.here hx rfl (hb hby at_287) rfl kq) ?_
    have O183 : Old Z n0 h151 := ((((((((((((((((((((((((O77.ext E76).wr W80 g_b76).wr W83 g_b76).wr W87 g_b76).wr W90 g_b76).wr W93 g_b76).wr W96 g_b76).wr W99 g_b76).wr W103 g_b76).wr W106 g_b76).wr W109 g_b76).wr W112 g_b76).wr W115 g_b76).wr W119 g_b76).wr W122 g_b76).wr W125 g_b76).wr W128 g_b76).wr W131 g_b76).wr W135 g_b76).wr W138 g_b76).wr W141 g_b76).wr W144 g_b76).wr W147 g_b76).wr W151 g_b76)
    obtain ⟨_, _, ⟨T184, L184, k184, n184⟩, -, X184, ⟨Lc184, hQ184, l184, y184, z184⟩, st184⟩ := Jvm.LawKit.callS X151 hx (y := (⟨"com/example/table_rules/tablerules/engine/FunctionTakesPinLaw", "constant", "(I)Lcom/example/table_rules/tablerules/engine/Function;"⟩ : MethodName)) hown (mvT hZ (hw _ (List.mem_of_getElem? (i := 2) rfl))) (mvT hZ (hw _ (List.mem_of_getElem? (i := 3) rfl))) (mvT hZ (hw _ (List.mem_of_getElem? (i := 4) rfl))) (mvT hZ (hw _ (List.mem_of_getElem? (i := 5) rfl))) (by decide) (backOf (W := 0) (rmk5 l Z a0 hw [] w_LTRIM h151 n0 O183 S_LTRIM) hZ (hw _ (List.mem_of_getElem? (i := 5) rfl)) (hw _ (List.mem_of_getElem? (i := 4) rfl)) (by decide) (by decide)) (g := (mkF m 288 #[.val (.int p1), .val (.int p2), .val (.int p3), .val (.int (5 : Int32)), .val (.int nn), .val (.int (2147483647 : Int32)), .val (.ref b2), .val (.ref b76), .val (.int ex)] [(.int (5 : Int32))])) rfl (by rw [hml]; rfl) (argsL := [(.int (5 : Int32))]) (rest := []) (lenOf pd_I_Lcom_example_table_rules_tablerules_engine_Function_319 rfl) rfl (by show 2 * 0 + _ ≤ _; exact Nat.le_of_eq rfl) (hb hby at_288) (fun _ _ => ⟨rfl, e151, (by decide : 2 + 0 ≤ _), (by decide : 46 + 0 ≤ _)⟩)
    dsimp only [Pt.U, Pt.locs, Pt.cells, Pt.slots] at X184 l184 y184 z184 st184 hQ184
    subst l184 y184 z184
    obtain ⟨rfl, Nq184, hh184⟩ := hQ184
    have N185 := Fr.app N152 Nq184
    refine own_st (T' := T184) (g' := (mkF m 291 #[.val (.int p1), .val (.int p2), .val (.int p3), .val (.int (5 : Int32)), .val (.int nn), .val (.int (2147483647 : Int32)), .val (.ref b2), .val (.ref b76), .val (.int ex)] [(.ref w_LTRIM)])) st184 ?_
    refine own_st (T' := T184) (g' := (mkF m 293 #[.val (.int p1), .val (.int p2), .val (.int p3), .val (.int (5 : Int32)), .val (.int nn), .val (.int (2147483647 : Int32)), .val (.ref b2), .val (.ref b76), .val (.int ex)] [(.int nn), (.ref w_LTRIM)])) (fun _ kq => XS.iload X184.here hx rfl (hb hby at_291) rfl kq) ?_
    obtain ⟨cq186, kq186, q186a, q186b, q186c⟩ := isOf hZ hh184 (E_LTRIM.ext O183.2)
    obtain ⟨_, _, ⟨T186, L186, k186, n186⟩, -, X186, ⟨Lc186, hQ186, l186, y186, z186⟩, st186⟩ := X184.virtualBack hx (y := (⟨"com/example/table_rules/tablerules/engine/Function", "takes", "(I)Z"⟩ : MethodName)) (z := (⟨"com/example/table_rules/tablerules/engine/Function", "takes", "(I)Z"⟩ : MethodName)) hown (mvT hZ (hw _ (List.mem_of_getElem? (i := 9) rfl))) (mvT hZ (hw _ (List.mem_of_getElem? (i := 10) rfl))) (notFace_of_selects (args := #[]) (mvT hZ (hw _ (List.mem_of_getElem? (i := 81) rfl)))) (mvT hZ (hw _ (List.mem_of_getElem? (i := 81) rfl))) (mvT hZ (hw _ (List.mem_of_getElem? (i := 11) rfl))) (by decide) (backOf (W := 0) (rmtakes l Z a0 hw [] w_LTRIM nn (1 : Int32) (2 : Int32) h151 n0 O183 (L_LTRIM.ext O183.2) (H_LTRIM.ext O183.2)) hZ (hw _ (List.mem_of_getElem? (i := 13) rfl)) (hw _ (List.mem_of_getElem? (i := 7) rfl)) (by decide) (by decide)) q186a q186c (g := (mkF m 293 #[.val (.int p1), .val (.int p2), .val (.int p3), .val (.int (5 : Int32)), .val (.int nn), .val (.int (2147483647 : Int32)), .val (.ref b2), .val (.ref b76), .val (.int ex)] [(.int nn), (.ref w_LTRIM)])) rfl (by rw [hml]; rfl) (Steps.refl _) (argsL := [(.int nn)]) (rest := []) (lenOf pd_I_Z_244 rfl) rfl (by show 2 * 0 + _ ≤ _; exact Nat.le_of_eq rfl) (hb hby at_293) (fun _ _ => ⟨rfl, hh184, (by decide : 2 + 0 ≤ _), (by decide : 46 + 0 ≤ _)⟩)
    dsimp only [Pt.U, Pt.locs, Pt.cells, Pt.slots] at X186 l186 y186 z186 st186 hQ186
    subst l186 y186 z186
    obtain ⟨rfl, Nq186, hh186⟩ := hQ186
    have N187 := Fr.app N185 Nq186
    refine own_ts (T' := T186) (g' := (mkF m 296 #[.val (.int p1), .val (.int p2), .val (.int p3), .val (.int (5 : Int32)), .val (.int nn), .val (.int (2147483647 : Int32)), .val (.ref b2), .val (.ref b76), .val (.int ex)] [(.int (own_takes nn (1 : Int32) (2 : Int32)))])) st186 ?_
    refine own_st (T' := T186) (g' := (mkF m 298 #[.val (.int p1), .val (.int p2), .val (.int p3), .val (.int (5 : Int32)), .val (.int nn), .val (.int (2147483647 : Int32)), .val (.ref b2), .val (.ref b76), .val (.int ex)] [(.int ex), (.int (own_takes nn (1 : Int32) (2 : Int32)))])) (fun _ kq => XS.iload X186.here hx rfl (hb hby at_296) rfl kq) ?_
    refine own_st (T' := T186) (g' := (mkF m 301 #[.val (.int p1), .val (.int p2), .val (.int p3), .val (.int (5 : Int32)), .val (.int nn), .val (.int (2147483647 : Int32)), .val (.ref b2), .val (.ref b76), .val (.int ex)] [])) (fun _ kq => XS.icmpNo X186.here hx rfl (hb hby at_298) rfl (teq (hex.symm : (own_takes nn (1 : Int32) (2 : Int32)) = ex)).2 kq) ?_
    refine own_st (T' := T186) (g' := (mkF m 302 #[.val (.int p1), .val (.int p2), .val (.int p3), .val (.int (5 : Int32)), .val (.int nn), .val (.int (2147483647 : Int32)), .val (.ref b2), .val (.ref b76), .val (.int ex)] [(.int (1 : Int32))])) (fun _ kq => XS.iconst X186.here hx rfl (hb hby at_301) kq) ?_
    refine own_st (T' := T186) (g' := (mkF m 306 #[.val (.int p1), .val (.int p2), .val (.int p3), .val (.int (5 : Int32)), .val (.int nn), .val (.int (2147483647 : Int32)), .val (.ref b2), .val (.ref b76), .val (.int ex)] [(.int (1 : Int32))])) (fun _ kq => XS.goto X186.here hx rfl (pc0 := 302) (pc' := 306) rfl (hb hby at_302) (by decide) (by decide) kq) ?_
    refine own_out X186 Bd.notSynchronized (v := (some (.int (1 : Int32)))) (fun h => by rw [Bd.returns] at h; cases h) (fun fs hr => retN X186 hx (t := .boolean) Bd.returns (by simp) (hb hby at_306) hr) ?_ (by decide) (by decide)
    rw [hh186]
    exact ⟨rfl, N187⟩
  · have hex : ex = own_takes nn (1 : Int32) (2 : Int32) := hex
    refine own_st (T' := T151) (g' := (mkF m 288 #[.val (.int p1), .val (.int p2), .val (.int p3), .val (.int (6 : Int32)), .val (.int nn), .val (.int (2147483647 : Int32)), .val (.ref b2), .val (.ref b76), .val (.int ex)] [(.int (6 : Int32))])) (fun _ kq => XS.iloadN X151.here hx rfl (hb hby at_287) rfl kq) ?_
    have O188 : Old Z n0 h151 := ((((((((((((((((((((((((O77.ext E76).wr W80 g_b76).wr W83 g_b76).wr W87 g_b76).wr W90 g_b76).wr W93 g_b76).wr W96 g_b76).wr W99 g_b76).wr W103 g_b76).wr W106 g_b76).wr W109 g_b76).wr W112 g_b76).wr W115 g_b76).wr W119 g_b76).wr W122 g_b76).wr W125 g_b76).wr W128 g_b76).wr W131 g_b76).wr W135 g_b76).wr W138 g_b76).wr W141 g_b76).wr W144 g_b76).wr W147 g_b76).wr W151 g_b76)
    obtain ⟨_, _, ⟨T189, L189, k189, n189⟩, -, X189, ⟨Lc189, hQ189, l189, y189, z189⟩, st189⟩ := Jvm.LawKit.callS X151 hx (y := (⟨"com/example/table_rules/tablerules/engine/FunctionTakesPinLaw", "constant", "(I)Lcom/example/table_rules/tablerules/engine/Function;"⟩ : MethodName)) hown (mvT hZ (hw _ (List.mem_of_getElem? (i := 2) rfl))) (mvT hZ (hw _ (List.mem_of_getElem? (i := 3) rfl))) (mvT hZ (hw _ (List.mem_of_getElem? (i := 4) rfl))) (mvT hZ (hw _ (List.mem_of_getElem? (i := 5) rfl))) (by decide) (backOf (W := 0) (rmk6 l Z a0 hw [] w_RTRIM h151 n0 O188 S_RTRIM) hZ (hw _ (List.mem_of_getElem? (i := 5) rfl)) (hw _ (List.mem_of_getElem? (i := 4) rfl)) (by decide) (by decide)) (g := (mkF m 288 #[.val (.int p1), .val (.int p2), .val (.int p3), .val (.int (6 : Int32)), .val (.int nn), .val (.int (2147483647 : Int32)), .val (.ref b2), .val (.ref b76), .val (.int ex)] [(.int (6 : Int32))])) rfl (by rw [hml]; rfl) (argsL := [(.int (6 : Int32))]) (rest := []) (lenOf pd_I_Lcom_example_table_rules_tablerules_engine_Function_319 rfl) rfl (by show 2 * 0 + _ ≤ _; exact Nat.le_of_eq rfl) (hb hby at_288) (fun _ _ => ⟨rfl, e151, (by decide : 2 + 0 ≤ _), (by decide : 46 + 0 ≤ _)⟩)
    dsimp only [Pt.U, Pt.locs, Pt.cells, Pt.slots] at X189 l189 y189 z189 st189 hQ189
    subst l189 y189 z189
    obtain ⟨rfl, Nq189, hh189⟩ := hQ189
    have N190 := Fr.app N152 Nq189
    refine own_st (T' := T189) (g' := (mkF m 291 #[.val (.int p1), .val (.int p2), .val (.int p3), .val (.int (6 : Int32)), .val (.int nn), .val (.int (2147483647 : Int32)), .val (.ref b2), .val (.ref b76), .val (.int ex)] [(.ref w_RTRIM)])) st189 ?_
    refine own_st (T' := T189) (g' := (mkF m 293 #[.val (.int p1), .val (.int p2), .val (.int p3), .val (.int (6 : Int32)), .val (.int nn), .val (.int (2147483647 : Int32)), .val (.ref b2), .val (.ref b76), .val (.int ex)] [(.int nn), (.ref w_RTRIM)])) (fun _ kq => XS.iload X189.here hx rfl (hb hby at_291) rfl kq) ?_
    obtain ⟨cq191, kq191, q191a, q191b, q191c⟩ := isOf hZ hh189 (E_RTRIM.ext O188.2)
    obtain ⟨_, _, ⟨T191, L191, k191, n191⟩, -, X191, ⟨Lc191, hQ191, l191, y191, z191⟩, st191⟩ := X189.virtualBack hx (y := (⟨"com/example/table_rules/tablerules/engine/Function", "takes", "(I)Z"⟩ : MethodName)) (z := (⟨"com/example/table_rules/tablerules/engine/Function", "takes", "(I)Z"⟩ : MethodName)) hown (mvT hZ (hw _ (List.mem_of_getElem? (i := 9) rfl))) (mvT hZ (hw _ (List.mem_of_getElem? (i := 10) rfl))) (notFace_of_selects (args := #[]) (mvT hZ (hw _ (List.mem_of_getElem? (i := 97) rfl)))) (mvT hZ (hw _ (List.mem_of_getElem? (i := 97) rfl))) (mvT hZ (hw _ (List.mem_of_getElem? (i := 11) rfl))) (by decide) (backOf (W := 0) (rmtakes l Z a0 hw [] w_RTRIM nn (1 : Int32) (2 : Int32) h151 n0 O188 (L_RTRIM.ext O188.2) (H_RTRIM.ext O188.2)) hZ (hw _ (List.mem_of_getElem? (i := 13) rfl)) (hw _ (List.mem_of_getElem? (i := 7) rfl)) (by decide) (by decide)) q191a q191c (g := (mkF m 293 #[.val (.int p1), .val (.int p2), .val (.int p3), .val (.int (6 : Int32)), .val (.int nn), .val (.int (2147483647 : Int32)), .val (.ref b2), .val (.ref b76), .val (.int ex)] [(.int nn), (.ref w_RTRIM)])) rfl (by rw [hml]; rfl) (Steps.refl _) (argsL := [(.int nn)]) (rest := []) (lenOf pd_I_Z_244 rfl) rfl (by show 2 * 0 + _ ≤ _; exact Nat.le_of_eq rfl) (hb hby at_293) (fun _ _ => ⟨rfl, hh189, (by decide : 2 + 0 ≤ _), (by decide : 46 + 0 ≤ _)⟩)
    dsimp only [Pt.U, Pt.locs, Pt.cells, Pt.slots] at X191 l191 y191 z191 st191 hQ191
    subst l191 y191 z191
    obtain ⟨rfl, Nq191, hh191⟩ := hQ191
    have N192 := Fr.app N190 Nq191
    refine own_ts (T' := T191) (g' := (mkF m 296 #[.val (.int p1), .val (.int p2), .val (.int p3), .val (.int (6 : Int32)), .val (.int nn), .val (.int (2147483647 : Int32)), .val (.ref b2), .val (.ref b76), .val (.int ex)] [(.int (own_takes nn (1 : Int32) (2 : Int32)))])) st191 ?_
    refine own_st (T' := T191) (g' := (mkF m 298 #[.val (.int p1), .val (.int p2), .val (.int p3), .val (.int (6 : Int32)), .val (.int nn), .val (.int (2147483647 : Int32)), .val (.ref b2), .val (.ref b76), .val (.int ex)] [(.int ex), (.int (own_takes nn (1 : Int32) (2 : Int32)))])) (fun _ kq => XS.iload X191.here hx rfl (hb hby at_296) rfl kq) ?_
    refine own_st (T' := T191) (g' := (mkF m 301 #[.val (.int p1), .val (.int p2), .val (.int p3), .val (.int (6 : Int32)), .val (.int nn), .val (.int (2147483647 : Int32)), .val (.ref b2), .val (.ref b76), .val (.int ex)] [])) (fun _ kq => XS.icmpNo X191.here hx rfl (hb hby at_298) rfl (teq (hex.symm : (own_takes nn (1 : Int32) (2 : Int32)) = ex)).2 kq) ?_
    refine own_st (T' := T191) (g' := (mkF m 302 #[.val (.int p1), .val (.int p2), .val (.int p3), .val (.int (6 : Int32)), .val (.int nn), .val (.int (2147483647 : Int32)), .val (.ref b2), .val (.ref b76), .val (.int ex)] [(.int (1 : Int32))])) (fun _ kq => XS.iconst X191.here hx rfl (hb hby at_301) kq) ?_
    refine own_st (T' := T191) (g' := (mkF m 306 #[.val (.int p1), .val (.int p2), .val (.int p3), .val (.int (6 : Int32)), .val (.int nn), .val (.int (2147483647 : Int32)), .val (.ref b2), .val (.ref b76), .val (.int ex)] [(.int (1 : Int32))])) (fun _ kq => XS.goto X191.here hx rfl (pc0 := 302) (pc' := 306) rfl (hb hby at_302) (by decide) (by decide) kq) ?_
    refine own_out X191 Bd.notSynchronized (v := (some (.int (1 : Int32)))) (fun h => by rw [Bd.returns] at h; cases h) (fun fs hr => retN X191 hx (t := .boolean) Bd.returns (by simp) (hb hby at_306) hr) ?_ (by decide) (by decide)
    rw [hh191]
    exact ⟨rfl, N192⟩
  · have hex : ex = own_takes nn (2 : Int32) (3 : Int32) := hex
    refine own_st (T' := T151) (g' := (mkF m 288 #[.val (.int p1), .val (.int p2), .val (.int p3), .val (.int (7 : Int32)), .val (.int nn), .val (.int (2147483647 : Int32)), .val (.ref b2), .val (.ref b76), .val (.int ex)] [(.int (7 : Int32))])) (fun _ kq => XS.iloadN X151.here hx rfl (hb hby at_287) rfl kq) ?_
    have O193 : Old Z n0 h151 := ((((((((((((((((((((((((O77.ext E76).wr W80 g_b76).wr W83 g_b76).wr W87 g_b76).wr W90 g_b76).wr W93 g_b76).wr W96 g_b76).wr W99 g_b76).wr W103 g_b76).wr W106 g_b76).wr W109 g_b76).wr W112 g_b76).wr W115 g_b76).wr W119 g_b76).wr W122 g_b76).wr W125 g_b76).wr W128 g_b76).wr W131 g_b76).wr W135 g_b76).wr W138 g_b76).wr W141 g_b76).wr W144 g_b76).wr W147 g_b76).wr W151 g_b76)
    obtain ⟨_, _, ⟨T194, L194, k194, n194⟩, -, X194, ⟨Lc194, hQ194, l194, y194, z194⟩, st194⟩ := Jvm.LawKit.callS X151 hx (y := (⟨"com/example/table_rules/tablerules/engine/FunctionTakesPinLaw", "constant", "(I)Lcom/example/table_rules/tablerules/engine/Function;"⟩ : MethodName)) hown (mvT hZ (hw _ (List.mem_of_getElem? (i := 2) rfl))) (mvT hZ (hw _ (List.mem_of_getElem? (i := 3) rfl))) (mvT hZ (hw _ (List.mem_of_getElem? (i := 4) rfl))) (mvT hZ (hw _ (List.mem_of_getElem? (i := 5) rfl))) (by decide) (backOf (W := 0) (rmk7 l Z a0 hw [] w_REPLACE h151 n0 O193 S_REPLACE) hZ (hw _ (List.mem_of_getElem? (i := 5) rfl)) (hw _ (List.mem_of_getElem? (i := 4) rfl)) (by decide) (by decide)) (g := (mkF m 288 #[.val (.int p1), .val (.int p2), .val (.int p3), .val (.int (7 : Int32)), .val (.int nn), .val (.int (2147483647 : Int32)), .val (.ref b2), .val (.ref b76), .val (.int ex)] [(.int (7 : Int32))])) rfl (by rw [hml]; rfl) (argsL := [(.int (7 : Int32))]) (rest := []) (lenOf pd_I_Lcom_example_table_rules_tablerules_engine_Function_319 rfl) rfl (by show 2 * 0 + _ ≤ _; exact Nat.le_of_eq rfl) (hb hby at_288) (fun _ _ => ⟨rfl, e151, (by decide : 2 + 0 ≤ _), (by decide : 46 + 0 ≤ _)⟩)
    dsimp only [Pt.U, Pt.locs, Pt.cells, Pt.slots] at X194 l194 y194 z194 st194 hQ194
    subst l194 y194 z194
    obtain ⟨rfl, Nq194, hh194⟩ := hQ194
    have N195 := Fr.app N152 Nq194
    refine own_st (T' := T194) (g' := (mkF m 291 #[.val (.int p1), .val (.int p2), .val (.int p3), .val (.int (7 : Int32)), .val (.int nn), .val (.int (2147483647 : Int32)), .val (.ref b2), .val (.ref b76), .val (.int ex)] [(.ref w_REPLACE)])) st194 ?_
    refine own_st (T' := T194) (g' := (mkF m 293 #[.val (.int p1), .val (.int p2), .val (.int p3), .val (.int (7 : Int32)), .val (.int nn), .val (.int (2147483647 : Int32)), .val (.ref b2), .val (.ref b76), .val (.int ex)] [(.int nn), (.ref w_REPLACE)])) (fun _ kq => XS.iload X194.here hx rfl (hb hby at_291) rfl kq) ?_
    obtain ⟨cq196, kq196, q196a, q196b, q196c⟩ := isOf hZ hh194 (E_REPLACE.ext O193.2)
    obtain ⟨_, _, ⟨T196, L196, k196, n196⟩, -, X196, ⟨Lc196, hQ196, l196, y196, z196⟩, st196⟩ := X194.virtualBack hx (y := (⟨"com/example/table_rules/tablerules/engine/Function", "takes", "(I)Z"⟩ : MethodName)) (z := (⟨"com/example/table_rules/tablerules/engine/Function", "takes", "(I)Z"⟩ : MethodName)) hown (mvT hZ (hw _ (List.mem_of_getElem? (i := 9) rfl))) (mvT hZ (hw _ (List.mem_of_getElem? (i := 10) rfl))) (notFace_of_selects (args := #[]) (mvT hZ (hw _ (List.mem_of_getElem? (i := 105) rfl)))) (mvT hZ (hw _ (List.mem_of_getElem? (i := 105) rfl))) (mvT hZ (hw _ (List.mem_of_getElem? (i := 11) rfl))) (by decide) (backOf (W := 0) (rmtakes l Z a0 hw [] w_REPLACE nn (2 : Int32) (3 : Int32) h151 n0 O193 (L_REPLACE.ext O193.2) (H_REPLACE.ext O193.2)) hZ (hw _ (List.mem_of_getElem? (i := 13) rfl)) (hw _ (List.mem_of_getElem? (i := 7) rfl)) (by decide) (by decide)) q196a q196c (g := (mkF m 293 #[.val (.int p1), .val (.int p2), .val (.int p3), .val (.int (7 : Int32)), .val (.int nn), .val (.int (2147483647 : Int32)), .val (.ref b2), .val (.ref b76), .val (.int ex)] [(.int nn), (.ref w_REPLACE)])) rfl (by rw [hml]; rfl) (Steps.refl _) (argsL := [(.int nn)]) (rest := []) (lenOf pd_I_Z_244 rfl) rfl (by show 2 * 0 + _ ≤ _; exact Nat.le_of_eq rfl) (hb hby at_293) (fun _ _ => ⟨rfl, hh194, (by decide : 2 + 0 ≤ _), (by decide : 46 + 0 ≤ _)⟩)
    dsimp only [Pt.U, Pt.locs, Pt.cells, Pt.slots] at X196 l196 y196 z196 st196 hQ196
    subst l196 y196 z196
    obtain ⟨rfl, Nq196, hh196⟩ := hQ196
    have N197 := Fr.app N195 Nq196
    refine own_ts (T' := T196) (g' := (mkF m 296 #[.val (.int p1), .val (.int p2), .val (.int p3), .val (.int (7 : Int32)), .val (.int nn), .val (.int (2147483647 : Int32)), .val (.ref b2), .val (.ref b76), .val (.int ex)] [(.int (own_takes nn (2 : Int32) (3 : Int32)))])) st196 ?_
    refine own_st (T' := T196) (g' := (mkF m 298 #[.val (.int p1), .val (.int p2), .val (.int p3), .val (.int (7 : Int32)), .val (.int nn), .val (.int (2147483647 : Int32)), .val (.ref b2), .val (.ref b76), .val (.int ex)] [(.int ex), (.int (own_takes nn (2 : Int32) (3 : Int32)))])) (fun _ kq => XS.iload X196.here hx rfl (hb hby at_296) rfl kq) ?_
    refine own_st (T' := T196) (g' := (mkF m 301 #[.val (.int p1), .val (.int p2), .val (.int p3), .val (.int (7 : Int32)), .val (.int nn), .val (.int (2147483647 : Int32)), .val (.ref b2), .val (.ref b76), .val (.int ex)] [])) (fun _ kq => XS.icmpNo X196.here hx rfl (hb hby at_298) rfl (teq (hex.symm : (own_takes nn (2 : Int32) (3 : Int32)) = ex)).2 kq) ?_
    refine own_st (T' := T196) (g' := (mkF m 302 #[.val (.int p1), .val (.int p2), .val (.int p3), .val (.int (7 : Int32)), .val (.int nn), .val (.int (2147483647 : Int32)), .val (.ref b2), .val (.ref b76), .val (.int ex)] [(.int (1 : Int32))])) (fun _ kq => XS.iconst X196.here hx rfl (hb hby at_301) kq) ?_
    refine own_st (T' := T196) (g' := (mkF m 306 #[.val (.int p1), .val (.int p2), .val (.int p3), .val (.int (7 : Int32)), .val (.int nn), .val (.int (2147483647 : Int32)), .val (.ref b2), .val (.ref b76), .val (.int ex)] [(.int (1 : Int32))])) (fun _ kq => XS.goto X196.here hx rfl (pc0 := 302) (pc' := 306) rfl (hb hby at_302) (by decide) (by decide) kq) ?_
    refine own_out X196 Bd.notSynchronized (v := (some (.int (1 : Int32)))) (fun h => by rw [Bd.returns] at h; cases h) (fun fs hr => retN X196 hx (t := .boolean) Bd.returns (by simp) (hb hby at_306) hr) ?_ (by decide) (by decide)
    rw [hh196]
    exact ⟨rfl, N197⟩
  · have hex : ex = own_takes nn (2 : Int32) (3 : Int32) := hex
    refine own_st (T' := T151) (g' := (mkF m 288 #[.val (.int p1), .val (.int p2), .val (.int p3), .val (.int (8 : Int32)), .val (.int nn), .val (.int (2147483647 : Int32)), .val (.ref b2), .val (.ref b76), .val (.int ex)] [(.int (8 : Int32))])) (fun _ kq => XS.iloadN X151.here hx rfl (hb hby at_287) rfl kq) ?_
    have O198 : Old Z n0 h151 := ((((((((((((((((((((((((O77.ext E76).wr W80 g_b76).wr W83 g_b76).wr W87 g_b76).wr W90 g_b76).wr W93 g_b76).wr W96 g_b76).wr W99 g_b76).wr W103 g_b76).wr W106 g_b76).wr W109 g_b76).wr W112 g_b76).wr W115 g_b76).wr W119 g_b76).wr W122 g_b76).wr W125 g_b76).wr W128 g_b76).wr W131 g_b76).wr W135 g_b76).wr W138 g_b76).wr W141 g_b76).wr W144 g_b76).wr W147 g_b76).wr W151 g_b76)
    obtain ⟨_, _, ⟨T199, L199, k199, n199⟩, -, X199, ⟨Lc199, hQ199, l199, y199, z199⟩, st199⟩ := Jvm.LawKit.callS X151 hx (y := (⟨"com/example/table_rules/tablerules/engine/FunctionTakesPinLaw", "constant", "(I)Lcom/example/table_rules/tablerules/engine/Function;"⟩ : MethodName)) hown (mvT hZ (hw _ (List.mem_of_getElem? (i := 2) rfl))) (mvT hZ (hw _ (List.mem_of_getElem? (i := 3) rfl))) (mvT hZ (hw _ (List.mem_of_getElem? (i := 4) rfl))) (mvT hZ (hw _ (List.mem_of_getElem? (i := 5) rfl))) (by decide) (backOf (W := 0) (rmk8 l Z a0 hw [] w_LPAD h151 n0 O198 S_LPAD) hZ (hw _ (List.mem_of_getElem? (i := 5) rfl)) (hw _ (List.mem_of_getElem? (i := 4) rfl)) (by decide) (by decide)) (g := (mkF m 288 #[.val (.int p1), .val (.int p2), .val (.int p3), .val (.int (8 : Int32)), .val (.int nn), .val (.int (2147483647 : Int32)), .val (.ref b2), .val (.ref b76), .val (.int ex)] [(.int (8 : Int32))])) rfl (by rw [hml]; rfl) (argsL := [(.int (8 : Int32))]) (rest := []) (lenOf pd_I_Lcom_example_table_rules_tablerules_engine_Function_319 rfl) rfl (by show 2 * 0 + _ ≤ _; exact Nat.le_of_eq rfl) (hb hby at_288) (fun _ _ => ⟨rfl, e151, (by decide : 2 + 0 ≤ _), (by decide : 46 + 0 ≤ _)⟩)
    dsimp only [Pt.U, Pt.locs, Pt.cells, Pt.slots] at X199 l199 y199 z199 st199 hQ199
    subst l199 y199 z199
    obtain ⟨rfl, Nq199, hh199⟩ := hQ199
    have N200 := Fr.app N152 Nq199
    refine own_st (T' := T199) (g' := (mkF m 291 #[.val (.int p1), .val (.int p2), .val (.int p3), .val (.int (8 : Int32)), .val (.int nn), .val (.int (2147483647 : Int32)), .val (.ref b2), .val (.ref b76), .val (.int ex)] [(.ref w_LPAD)])) st199 ?_
    refine own_st (T' := T199) (g' := (mkF m 293 #[.val (.int p1), .val (.int p2), .val (.int p3), .val (.int (8 : Int32)), .val (.int nn), .val (.int (2147483647 : Int32)), .val (.ref b2), .val (.ref b76), .val (.int ex)] [(.int nn), (.ref w_LPAD)])) (fun _ kq => XS.iload X199.here hx rfl (hb hby at_291) rfl kq) ?_
    obtain ⟨cq201, kq201, q201a, q201b, q201c⟩ := isOf hZ hh199 (E_LPAD.ext O198.2)
    obtain ⟨_, _, ⟨T201, L201, k201, n201⟩, -, X201, ⟨Lc201, hQ201, l201, y201, z201⟩, st201⟩ := X199.virtualBack hx (y := (⟨"com/example/table_rules/tablerules/engine/Function", "takes", "(I)Z"⟩ : MethodName)) (z := (⟨"com/example/table_rules/tablerules/engine/Function", "takes", "(I)Z"⟩ : MethodName)) hown (mvT hZ (hw _ (List.mem_of_getElem? (i := 9) rfl))) (mvT hZ (hw _ (List.mem_of_getElem? (i := 10) rfl))) (notFace_of_selects (args := #[]) (mvT hZ (hw _ (List.mem_of_getElem? (i := 33) rfl)))) (mvT hZ (hw _ (List.mem_of_getElem? (i := 33) rfl))) (mvT hZ (hw _ (List.mem_of_getElem? (i := 11) rfl))) (by decide) (backOf (W := 0) (rmtakes l Z a0 hw [] w_LPAD nn (2 : Int32) (3 : Int32) h151 n0 O198 (L_LPAD.ext O198.2) (H_LPAD.ext O198.2)) hZ (hw _ (List.mem_of_getElem? (i := 13) rfl)) (hw _ (List.mem_of_getElem? (i := 7) rfl)) (by decide) (by decide)) q201a q201c (g := (mkF m 293 #[.val (.int p1), .val (.int p2), .val (.int p3), .val (.int (8 : Int32)), .val (.int nn), .val (.int (2147483647 : Int32)), .val (.ref b2), .val (.ref b76), .val (.int ex)] [(.int nn), (.ref w_LPAD)])) rfl (by rw [hml]; rfl) (Steps.refl _) (argsL := [(.int nn)]) (rest := []) (lenOf pd_I_Z_244 rfl) rfl (by show 2 * 0 + _ ≤ _; exact Nat.le_of_eq rfl) (hb hby at_293) (fun _ _ => ⟨rfl, hh199, (by decide : 2 + 0 ≤ _), (by decide : 46 + 0 ≤ _)⟩)
    dsimp only [Pt.U, Pt.locs, Pt.cells, Pt.slots] at X201 l201 y201 z201 st201 hQ201
    subst l201 y201 z201
    obtain ⟨rfl, Nq201, hh201⟩ := hQ201
    have N202 := Fr.app N200 Nq201
    refine own_ts (T' := T201) (g' := (mkF m 296 #[.val (.int p1), .val (.int p2), .val (.int p3), .val (.int (8 : Int32)), .val (.int nn), .val (.int (2147483647 : Int32)), .val (.ref b2), .val (.ref b76), .val (.int ex)] [(.int (own_takes nn (2 : Int32) (3 : Int32)))])) st201 ?_
    refine own_st (T' := T201) (g' := (mkF m 298 #[.val (.int p1), .val (.int p2), .val (.int p3), .val (.int (8 : Int32)), .val (.int nn), .val (.int (2147483647 : Int32)), .val (.ref b2), .val (.ref b76), .val (.int ex)] [(.int ex), (.int (own_takes nn (2 : Int32) (3 : Int32)))])) (fun _ kq => XS.iload X201.here hx rfl (hb hby at_296) rfl kq) ?_
    refine own_st (T' := T201) (g' := (mkF m 301 #[.val (.int p1), .val (.int p2), .val (.int p3), .val (.int (8 : Int32)), .val (.int nn), .val (.int (2147483647 : Int32)), .val (.ref b2), .val (.ref b76), .val (.int ex)] [])) (fun _ kq => XS.icmpNo X201.here hx rfl (hb hby at_298) rfl (teq (hex.symm : (own_takes nn (2 : Int32) (3 : Int32)) = ex)).2 kq) ?_
    refine own_st (T' := T201) (g' := (mkF m 302 #[.val (.int p1), .val (.int p2), .val (.int p3), .val (.int (8 : Int32)), .val (.int nn), .val (.int (2147483647 : Int32)), .val (.ref b2), .val (.ref b76), .val (.int ex)] [(.int (1 : Int32))])) (fun _ kq => XS.iconst X201.here hx rfl (hb hby at_301) kq) ?_
    refine own_st (T' := T201) (g' := (mkF m 306 #[.val (.int p1), .val (.int p2), .val (.int p3), .val (.int (8 : Int32)), .val (.int nn), .val (.int (2147483647 : Int32)), .val (.ref b2), .val (.ref b76), .val (.int ex)] [(.int (1 : Int32))])) (fun _ kq => XS.goto X201.here hx rfl (pc0 := 302) (pc' := 306) rfl (hb hby at_302) (by decide) (by decide) kq) ?_
    refine own_out X201 Bd.notSynchronized (v := (some (.int (1 : Int32)))) (fun h => by rw [Bd.returns] at h; cases h) (fun fs hr => retN X201 hx (t := .boolean) Bd.returns (by simp) (hb hby at_306) hr) ?_ (by decide) (by decide)
    rw [hh201]
    exact ⟨rfl, N202⟩
  · have hex : ex = own_takes nn (2 : Int32) (3 : Int32) := hex
    refine own_st (T' := T151) (g' := (mkF m 288 #[.val (.int p1), .val (.int p2), .val (.int p3), .val (.int (9 : Int32)), .val (.int nn), .val (.int (2147483647 : Int32)), .val (.ref b2), .val (.ref b76), .val (.int ex)] [(.int (9 : Int32))])) (fun _ kq => XS.iloadN X151.here hx rfl (hb hby at_287) rfl kq) ?_
    have O203 : Old Z n0 h151 := ((((((((((((((((((((((((O77.ext E76).wr W80 g_b76).wr W83 g_b76).wr W87 g_b76).wr W90 g_b76).wr W93 g_b76).wr W96 g_b76).wr W99 g_b76).wr W103 g_b76).wr W106 g_b76).wr W109 g_b76).wr W112 g_b76).wr W115 g_b76).wr W119 g_b76).wr W122 g_b76).wr W125 g_b76).wr W128 g_b76).wr W131 g_b76).wr W135 g_b76).wr W138 g_b76).wr W141 g_b76).wr W144 g_b76).wr W147 g_b76).wr W151 g_b76)
    obtain ⟨_, _, ⟨T204, L204, k204, n204⟩, -, X204, ⟨Lc204, hQ204, l204, y204, z204⟩, st204⟩ := Jvm.LawKit.callS X151 hx (y := (⟨"com/example/table_rules/tablerules/engine/FunctionTakesPinLaw", "constant", "(I)Lcom/example/table_rules/tablerules/engine/Function;"⟩ : MethodName)) hown (mvT hZ (hw _ (List.mem_of_getElem? (i := 2) rfl))) (mvT hZ (hw _ (List.mem_of_getElem? (i := 3) rfl))) (mvT hZ (hw _ (List.mem_of_getElem? (i := 4) rfl))) (mvT hZ (hw _ (List.mem_of_getElem? (i := 5) rfl))) (by decide) (backOf (W := 0) (rmk9 l Z a0 hw [] w_RPAD h151 n0 O203 S_RPAD) hZ (hw _ (List.mem_of_getElem? (i := 5) rfl)) (hw _ (List.mem_of_getElem? (i := 4) rfl)) (by decide) (by decide)) (g := (mkF m 288 #[.val (.int p1), .val (.int p2), .val (.int p3), .val (.int (9 : Int32)), .val (.int nn), .val (.int (2147483647 : Int32)), .val (.ref b2), .val (.ref b76), .val (.int ex)] [(.int (9 : Int32))])) rfl (by rw [hml]; rfl) (argsL := [(.int (9 : Int32))]) (rest := []) (lenOf pd_I_Lcom_example_table_rules_tablerules_engine_Function_319 rfl) rfl (by show 2 * 0 + _ ≤ _; exact Nat.le_of_eq rfl) (hb hby at_288) (fun _ _ => ⟨rfl, e151, (by decide : 2 + 0 ≤ _), (by decide : 46 + 0 ≤ _)⟩)
    dsimp only [Pt.U, Pt.locs, Pt.cells, Pt.slots] at X204 l204 y204 z204 st204 hQ204
    subst l204 y204 z204
    obtain ⟨rfl, Nq204, hh204⟩ := hQ204
    have N205 := Fr.app N152 Nq204
    refine own_st (T' := T204) (g' := (mkF m 291 #[.val (.int p1), .val (.int p2), .val (.int p3), .val (.int (9 : Int32)), .val (.int nn), .val (.int (2147483647 : Int32)), .val (.ref b2), .val (.ref b76), .val (.int ex)] [(.ref w_RPAD)])) st204 ?_
    refine own_st (T' := T204) (g' := (mkF m 293 #[.val (.int p1), .val (.int p2), .val (.int p3), .val (.int (9 : Int32)), .val (.int nn), .val (.int (2147483647 : Int32)), .val (.ref b2), .val (.ref b76), .val (.int ex)] [(.int nn), (.ref w_RPAD)])) (fun _ kq => XS.iload X204.here hx rfl (hb hby at_291) rfl kq) ?_
    obtain ⟨cq206, kq206, q206a, q206b, q206c⟩ := isOf hZ hh204 (E_RPAD.ext O203.2)
    obtain ⟨_, _, ⟨T206, L206, k206, n206⟩, -, X206, ⟨Lc206, hQ206, l206, y206, z206⟩, st206⟩ := X204.virtualBack hx (y := (⟨"com/example/table_rules/tablerules/engine/Function", "takes", "(I)Z"⟩ : MethodName)) (z := (⟨"com/example/table_rules/tablerules/engine/Function", "takes", "(I)Z"⟩ : MethodName)) hown (mvT hZ (hw _ (List.mem_of_getElem? (i := 9) rfl))) (mvT hZ (hw _ (List.mem_of_getElem? (i := 10) rfl))) (notFace_of_selects (args := #[]) (mvT hZ (hw _ (List.mem_of_getElem? (i := 90) rfl)))) (mvT hZ (hw _ (List.mem_of_getElem? (i := 90) rfl))) (mvT hZ (hw _ (List.mem_of_getElem? (i := 11) rfl))) (by decide) (backOf (W := 0) (rmtakes l Z a0 hw [] w_RPAD nn (2 : Int32) (3 : Int32) h151 n0 O203 (L_RPAD.ext O203.2) (H_RPAD.ext O203.2)) hZ (hw _ (List.mem_of_getElem? (i := 13) rfl)) (hw _ (List.mem_of_getElem? (i := 7) rfl)) (by decide) (by decide)) q206a q206c (g := (mkF m 293 #[.val (.int p1), .val (.int p2), .val (.int p3), .val (.int (9 : Int32)), .val (.int nn), .val (.int (2147483647 : Int32)), .val (.ref b2), .val (.ref b76), .val (.int ex)] [(.int nn), (.ref w_RPAD)])) rfl (by rw [hml]; rfl) (Steps.refl _) (argsL := [(.int nn)]) (rest := []) (lenOf pd_I_Z_244 rfl) rfl (by show 2 * 0 + _ ≤ _; exact Nat.le_of_eq rfl) (hb hby at_293) (fun _ _ => ⟨rfl, hh204, (by decide : 2 + 0 ≤ _), (by decide : 46 + 0 ≤ _)⟩)
    dsimp only [Pt.U, Pt.locs, Pt.cells, Pt.slots] at X206 l206 y206 z206 st206 hQ206
    subst l206 y206 z206
    obtain ⟨rfl, Nq206, hh206⟩ := hQ206
    have N207 := Fr.app N205 Nq206
    refine own_ts (T' := T206) (g' := (mkF m 296 #[.val (.int p1), .val (.int p2), .val (.int p3), .val (.int (9 : Int32)), .val (.int nn), .val (.int (2147483647 : Int32)), .val (.ref b2), .val (.ref b76), .val (.int ex)] [(.int (own_takes nn (2 : Int32) (3 : Int32)))])) st206 ?_
    refine own_st (T' := T206) (g' := (mkF m 298 #[.val (.int p1), .val (.int p2), .val (.int p3), .val (.int (9 : Int32)), .val (.int nn), .val (.int (2147483647 : Int32)), .val (.ref b2), .val (.ref b76), .val (.int ex)] [(.int ex), (.int (own_takes nn (2 : Int32) (3 : Int32)))])) (fun _ kq => XS.iload X206.here hx rfl (hb hby at_296) rfl kq) ?_
    refine own_st (T' := T206) (g' := (mkF m 301 #[.val (.int p1), .val (.int p2), .val (.int p3), .val (.int (9 : Int32)), .val (.int nn), .val (.int (2147483647 : Int32)), .val (.ref b2), .val (.ref b76), .val (.int ex)] [])) (fun _ kq => XS.icmpNo X206.here hx rfl (hb hby at_298) rfl (teq (hex.symm : (own_takes nn (2 : Int32) (3 : Int32)) = ex)).2 kq) ?_
    refine own_st (T' := T206) (g' := (mkF m 302 #[.val (.int p1), .val (.int p2), .val (.int p3), .val (.int (9 : Int32)), .val (.int nn), .val (.int (2147483647 : Int32)), .val (.ref b2), .val (.ref b76), .val (.int ex)] [(.int (1 : Int32))])) (fun _ kq => XS.iconst X206.here hx rfl (hb hby at_301) kq) ?_
    refine own_st (T' := T206) (g' := (mkF m 306 #[.val (.int p1), .val (.int p2), .val (.int p3), .val (.int (9 : Int32)), .val (.int nn), .val (.int (2147483647 : Int32)), .val (.ref b2), .val (.ref b76), .val (.int ex)] [(.int (1 : Int32))])) (fun _ kq => XS.goto X206.here hx rfl (pc0 := 302) (pc' := 306) rfl (hb hby at_302) (by decide) (by decide) kq) ?_
    refine own_out X206 Bd.notSynchronized (v := (some (.int (1 : Int32)))) (fun h => by rw [Bd.returns] at h; cases h) (fun fs hr => retN X206 hx (t := .boolean) Bd.returns (by simp) (hb hby at_306) hr) ?_ (by decide) (by decide)
    rw [hh206]
    exact ⟨rfl, N207⟩
  · have hex : ex = own_takes nn (2 : Int32) (3 : Int32) := hex
    refine own_st (T' := T151) (g' := (mkF m 288 #[.val (.int p1), .val (.int p2), .val (.int p3), .val (.int (10 : Int32)), .val (.int nn), .val (.int (2147483647 : Int32)), .val (.ref b2), .val (.ref b76), .val (.int ex)] [(.int (10 : Int32))])) (fun _ kq => XS.iloadN X151.here hx rfl (hb hby at_287) rfl kq) ?_
    have O208 : Old Z n0 h151 := ((((((((((((((((((((((((O77.ext E76).wr W80 g_b76).wr W83 g_b76).wr W87 g_b76).wr W90 g_b76).wr W93 g_b76).wr W96 g_b76).wr W99 g_b76).wr W103 g_b76).wr W106 g_b76).wr W109 g_b76).wr W112 g_b76).wr W115 g_b76).wr W119 g_b76).wr W122 g_b76).wr W125 g_b76).wr W128 g_b76).wr W131 g_b76).wr W135 g_b76).wr W138 g_b76).wr W141 g_b76).wr W144 g_b76).wr W147 g_b76).wr W151 g_b76)
    obtain ⟨_, _, ⟨T209, L209, k209, n209⟩, -, X209, ⟨Lc209, hQ209, l209, y209, z209⟩, st209⟩ := Jvm.LawKit.callS X151 hx (y := (⟨"com/example/table_rules/tablerules/engine/FunctionTakesPinLaw", "constant", "(I)Lcom/example/table_rules/tablerules/engine/Function;"⟩ : MethodName)) hown (mvT hZ (hw _ (List.mem_of_getElem? (i := 2) rfl))) (mvT hZ (hw _ (List.mem_of_getElem? (i := 3) rfl))) (mvT hZ (hw _ (List.mem_of_getElem? (i := 4) rfl))) (mvT hZ (hw _ (List.mem_of_getElem? (i := 5) rfl))) (by decide) (backOf (W := 0) (rmk10 l Z a0 hw [] w_SUBSTR h151 n0 O208 S_SUBSTR) hZ (hw _ (List.mem_of_getElem? (i := 5) rfl)) (hw _ (List.mem_of_getElem? (i := 4) rfl)) (by decide) (by decide)) (g := (mkF m 288 #[.val (.int p1), .val (.int p2), .val (.int p3), .val (.int (10 : Int32)), .val (.int nn), .val (.int (2147483647 : Int32)), .val (.ref b2), .val (.ref b76), .val (.int ex)] [(.int (10 : Int32))])) rfl (by rw [hml]; rfl) (argsL := [(.int (10 : Int32))]) (rest := []) (lenOf pd_I_Lcom_example_table_rules_tablerules_engine_Function_319 rfl) rfl (by show 2 * 0 + _ ≤ _; exact Nat.le_of_eq rfl) (hb hby at_288) (fun _ _ => ⟨rfl, e151, (by decide : 2 + 0 ≤ _), (by decide : 46 + 0 ≤ _)⟩)
    dsimp only [Pt.U, Pt.locs, Pt.cells, Pt.slots] at X209 l209 y209 z209 st209 hQ209
    subst l209 y209 z209
    obtain ⟨rfl, Nq209, hh209⟩ := hQ209
    have N210 := Fr.app N152 Nq209
    refine own_st (T' := T209) (g' := (mkF m 291 #[.val (.int p1), .val (.int p2), .val (.int p3), .val (.int (10 : Int32)), .val (.int nn), .val (.int (2147483647 : Int32)), .val (.ref b2), .val (.ref b76), .val (.int ex)] [(.ref w_SUBSTR)])) st209 ?_
    refine own_st (T' := T209) (g' := (mkF m 293 #[.val (.int p1), .val (.int p2), .val (.int p3), .val (.int (10 : Int32)), .val (.int nn), .val (.int (2147483647 : Int32)), .val (.ref b2), .val (.ref b76), .val (.int ex)] [(.int nn), (.ref w_SUBSTR)])) (fun _ kq => XS.iload X209.here hx rfl (hb hby at_291) rfl kq) ?_
    obtain ⟨cq211, kq211, q211a, q211b, q211c⟩ := isOf hZ hh209 (E_SUBSTR.ext O208.2)
    obtain ⟨_, _, ⟨T211, L211, k211, n211⟩, -, X211, ⟨Lc211, hQ211, l211, y211, z211⟩, st211⟩ := X209.virtualBack hx (y := (⟨"com/example/table_rules/tablerules/engine/Function", "takes", "(I)Z"⟩ : MethodName)) (z := (⟨"com/example/table_rules/tablerules/engine/Function", "takes", "(I)Z"⟩ : MethodName)) hown (mvT hZ (hw _ (List.mem_of_getElem? (i := 9) rfl))) (mvT hZ (hw _ (List.mem_of_getElem? (i := 10) rfl))) (notFace_of_selects (args := #[]) (mvT hZ (hw _ (List.mem_of_getElem? (i := 29) rfl)))) (mvT hZ (hw _ (List.mem_of_getElem? (i := 29) rfl))) (mvT hZ (hw _ (List.mem_of_getElem? (i := 11) rfl))) (by decide) (backOf (W := 0) (rmtakes l Z a0 hw [] w_SUBSTR nn (2 : Int32) (3 : Int32) h151 n0 O208 (L_SUBSTR.ext O208.2) (H_SUBSTR.ext O208.2)) hZ (hw _ (List.mem_of_getElem? (i := 13) rfl)) (hw _ (List.mem_of_getElem? (i := 7) rfl)) (by decide) (by decide)) q211a q211c (g := (mkF m 293 #[.val (.int p1), .val (.int p2), .val (.int p3), .val (.int (10 : Int32)), .val (.int nn), .val (.int (2147483647 : Int32)), .val (.ref b2), .val (.ref b76), .val (.int ex)] [(.int nn), (.ref w_SUBSTR)])) rfl (by rw [hml]; rfl) (Steps.refl _) (argsL := [(.int nn)]) (rest := []) (lenOf pd_I_Z_244 rfl) rfl (by show 2 * 0 + _ ≤ _; exact Nat.le_of_eq rfl) (hb hby at_293) (fun _ _ => ⟨rfl, hh209, (by decide : 2 + 0 ≤ _), (by decide : 46 + 0 ≤ _)⟩)
    dsimp only [Pt.U, Pt.locs, Pt.cells, Pt.slots] at X211 l211 y211 z211 st211 hQ211
    subst l211 y211 z211
    obtain ⟨rfl, Nq211, hh211⟩ := hQ211
    have N212 := Fr.app N210 Nq211
    refine own_ts (T' := T211) (g' := (mkF m 296 #[.val (.int p1), .val (.int p2), .val (.int p3), .val (.int (10 : Int32)), .val (.int nn), .val (.int (2147483647 : Int32)), .val (.ref b2), .val (.ref b76), .val (.int ex)] [(.int (own_takes nn (2 : Int32) (3 : Int32)))])) st211 ?_
    refine own_st (T' := T211) (g' := (mkF m 298 #[.val (.int p1), .val (.int p2), .val (.int p3), .val (.int (10 : Int32)), .val (.int nn), .val (.int (2147483647 : Int32)), .val (.ref b2), .val (.ref b76), .val (.int ex)] [(.int ex), (.int (own_takes nn (2 : Int32) (3 : Int32)))])) (fun _ kq => XS.iload X211.here hx rfl (hb hby at_296) rfl kq) ?_
    refine own_st (T' := T211) (g' := (mkF m 301 #[.val (.int p1), .val (.int p2), .val (.int p3), .val (.int (10 : Int32)), .val (.int nn), .val (.int (2147483647 : Int32)), .val (.ref b2), .val (.ref b76), .val (.int ex)] [])) (fun _ kq => XS.icmpNo X211.here hx rfl (hb hby at_298) rfl (teq (hex.symm : (own_takes nn (2 : Int32) (3 : Int32)) = ex)).2 kq) ?_
    refine own_st (T' := T211) (g' := (mkF m 302 #[.val (.int p1), .val (.int p2), .val (.int p3), .val (.int (10 : Int32)), .val (.int nn), .val (.int (2147483647 : Int32)), .val (.ref b2), .val (.ref b76), .val (.int ex)] [(.int (1 : Int32))])) (fun _ kq => XS.iconst X211.here hx rfl (hb hby at_301) kq) ?_
    refine own_st (T' := T211) (g' := (mkF m 306 #[.val (.int p1), .val (.int p2), .val (.int p3), .val (.int (10 : Int32)), .val (.int nn), .val (.int (2147483647 : Int32)), .val (.ref b2), .val (.ref b76), .val (.int ex)] [(.int (1 : Int32))])) (fun _ kq => XS.goto X211.here hx rfl (pc0 := 302) (pc' := 306) rfl (hb hby at_302) (by decide) (by decide) kq) ?_
    refine own_out X211 Bd.notSynchronized (v := (some (.int (1 : Int32)))) (fun h => by rw [Bd.returns] at h; cases h) (fun fs hr => retN X211 hx (t := .boolean) Bd.returns (by simp) (hb hby at_306) hr) ?_ (by decide) (by decide)
    rw [hh211]
    exact ⟨rfl, N212⟩
  · have hex : ex = own_takes nn (1 : Int32) (1 : Int32) := hex
    refine own_st (T' := T151) (g' := (mkF m 288 #[.val (.int p1), .val (.int p2), .val (.int p3), .val (.int (11 : Int32)), .val (.int nn), .val (.int (2147483647 : Int32)), .val (.ref b2), .val (.ref b76), .val (.int ex)] [(.int (11 : Int32))])) (fun _ kq => XS.iloadN X151.here hx rfl (hb hby at_287) rfl kq) ?_
    have O213 : Old Z n0 h151 := ((((((((((((((((((((((((O77.ext E76).wr W80 g_b76).wr W83 g_b76).wr W87 g_b76).wr W90 g_b76).wr W93 g_b76).wr W96 g_b76).wr W99 g_b76).wr W103 g_b76).wr W106 g_b76).wr W109 g_b76).wr W112 g_b76).wr W115 g_b76).wr W119 g_b76).wr W122 g_b76).wr W125 g_b76).wr W128 g_b76).wr W131 g_b76).wr W135 g_b76).wr W138 g_b76).wr W141 g_b76).wr W144 g_b76).wr W147 g_b76).wr W151 g_b76)
    obtain ⟨_, _, ⟨T214, L214, k214, n214⟩, -, X214, ⟨Lc214, hQ214, l214, y214, z214⟩, st214⟩ := Jvm.LawKit.callS X151 hx (y := (⟨"com/example/table_rules/tablerules/engine/FunctionTakesPinLaw", "constant", "(I)Lcom/example/table_rules/tablerules/engine/Function;"⟩ : MethodName)) hown (mvT hZ (hw _ (List.mem_of_getElem? (i := 2) rfl))) (mvT hZ (hw _ (List.mem_of_getElem? (i := 3) rfl))) (mvT hZ (hw _ (List.mem_of_getElem? (i := 4) rfl))) (mvT hZ (hw _ (List.mem_of_getElem? (i := 5) rfl))) (by decide) (backOf (W := 0) (rmk11 l Z a0 hw [] w_ABS h151 n0 O213 S_ABS) hZ (hw _ (List.mem_of_getElem? (i := 5) rfl)) (hw _ (List.mem_of_getElem? (i := 4) rfl)) (by decide) (by decide)) (g := (mkF m 288 #[.val (.int p1), .val (.int p2), .val (.int p3), .val (.int (11 : Int32)), .val (.int nn), .val (.int (2147483647 : Int32)), .val (.ref b2), .val (.ref b76), .val (.int ex)] [(.int (11 : Int32))])) rfl (by rw [hml]; rfl) (argsL := [(.int (11 : Int32))]) (rest := []) (lenOf pd_I_Lcom_example_table_rules_tablerules_engine_Function_319 rfl) rfl (by show 2 * 0 + _ ≤ _; exact Nat.le_of_eq rfl) (hb hby at_288) (fun _ _ => ⟨rfl, e151, (by decide : 2 + 0 ≤ _), (by decide : 46 + 0 ≤ _)⟩)
    dsimp only [Pt.U, Pt.locs, Pt.cells, Pt.slots] at X214 l214 y214 z214 st214 hQ214
    subst l214 y214 z214
    obtain ⟨rfl, Nq214, hh214⟩ := hQ214
    have N215 := Fr.app N152 Nq214
    refine own_st (T' := T214) (g' := (mkF m 291 #[.val (.int p1), .val (.int p2), .val (.int p3), .val (.int (11 : Int32)), .val (.int nn), .val (.int (2147483647 : Int32)), .val (.ref b2), .val (.ref b76), .val (.int ex)] [(.ref w_ABS)])) st214 ?_
    refine own_st (T' := T214) (g' := (mkF m 293 #[.val (.int p1), .val (.int p2), .val (.int p3), .val (.int (11 : Int32)), .val (.int nn), .val (.int (2147483647 : Int32)), .val (.ref b2), .val (.ref b76), .val (.int ex)] [(.int nn), (.ref w_ABS)])) (fun _ kq => XS.iload X214.here hx rfl (hb hby at_291) rfl kq) ?_
    obtain ⟨cq216, kq216, q216a, q216b, q216c⟩ := isOf hZ hh214 (E_ABS.ext O213.2)
    obtain ⟨_, _, ⟨T216, L216, k216, n216⟩, -, X216, ⟨Lc216, hQ216, l216, y216, z216⟩, st216⟩ := X214.virtualBack hx (y := (⟨"com/example/table_rules/tablerules/engine/Function", "takes", "(I)Z"⟩ : MethodName)) (z := (⟨"com/example/table_rules/tablerules/engine/Function", "takes", "(I)Z"⟩ : MethodName)) hown (mvT hZ (hw _ (List.mem_of_getElem? (i := 9) rfl))) (mvT hZ (hw _ (List.mem_of_getElem? (i := 10) rfl))) (notFace_of_selects (args := #[]) (mvT hZ (hw _ (List.mem_of_getElem? (i := 66) rfl)))) (mvT hZ (hw _ (List.mem_of_getElem? (i := 66) rfl))) (mvT hZ (hw _ (List.mem_of_getElem? (i := 11) rfl))) (by decide) (backOf (W := 0) (rmtakes l Z a0 hw [] w_ABS nn (1 : Int32) (1 : Int32) h151 n0 O213 (L_ABS.ext O213.2) (H_ABS.ext O213.2)) hZ (hw _ (List.mem_of_getElem? (i := 13) rfl)) (hw _ (List.mem_of_getElem? (i := 7) rfl)) (by decide) (by decide)) q216a q216c (g := (mkF m 293 #[.val (.int p1), .val (.int p2), .val (.int p3), .val (.int (11 : Int32)), .val (.int nn), .val (.int (2147483647 : Int32)), .val (.ref b2), .val (.ref b76), .val (.int ex)] [(.int nn), (.ref w_ABS)])) rfl (by rw [hml]; rfl) (Steps.refl _) (argsL := [(.int nn)]) (rest := []) (lenOf pd_I_Z_244 rfl) rfl (by show 2 * 0 + _ ≤ _; exact Nat.le_of_eq rfl) (hb hby at_293) (fun _ _ => ⟨rfl, hh214, (by decide : 2 + 0 ≤ _), (by decide : 46 + 0 ≤ _)⟩)
    dsimp only [Pt.U, Pt.locs, Pt.cells, Pt.slots] at X216 l216 y216 z216 st216 hQ216
    subst l216 y216 z216
    obtain ⟨rfl, Nq216, hh216⟩ := hQ216
    have N217 := Fr.app N215 Nq216
    refine own_ts (T' := T216) (g' := (mkF m 296 #[.val (.int p1), .val (.int p2), .val (.int p3), .val (.int (11 : Int32)), .val (.int nn), .val (.int (2147483647 : Int32)), .val (.ref b2), .val (.ref b76), .val (.int ex)] [(.int (own_takes nn (1 : Int32) (1 : Int32)))])) st216 ?_
    refine own_st (T' := T216) (g' := (mkF m 298 #[.val (.int p1), .val (.int p2), .val (.int p3), .val (.int (11 : Int32)), .val (.int nn), .val (.int (2147483647 : Int32)), .val (.ref b2), .val (.ref b76), .val (.int ex)] [(.int ex), (.int (own_takes nn (1 : Int32) (1 : Int32)))])) (fun _ kq => XS.iload X216.here hx rfl (hb hby at_296) rfl kq) ?_
    refine own_st (T' := T216) (g' := (mkF m 301 #[.val (.int p1), .val (.int p2), .val (.int p3), .val (.int (11 : Int32)), .val (.int nn), .val (.int (2147483647 : Int32)), .val (.ref b2), .val (.ref b76), .val (.int ex)] [])) (fun _ kq => XS.icmpNo X216.here hx rfl (hb hby at_298) rfl (teq (hex.symm : (own_takes nn (1 : Int32) (1 : Int32)) = ex)).2 kq) ?_
    refine own_st (T' := T216) (g' := (mkF m 302 #[.val (.int p1), .val (.int p2), .val (.int p3), .val (.int (11 : Int32)), .val (.int nn), .val (.int (2147483647 : Int32)), .val (.ref b2), .val (.ref b76), .val (.int ex)] [(.int (1 : Int32))])) (fun _ kq => XS.iconst X216.here hx rfl (hb hby at_301) kq) ?_
    refine own_st (T' := T216) (g' := (mkF m 306 #[.val (.int p1), .val (.int p2), .val (.int p3), .val (.int (11 : Int32)), .val (.int nn), .val (.int (2147483647 : Int32)), .val (.ref b2), .val (.ref b76), .val (.int ex)] [(.int (1 : Int32))])) (fun _ kq => XS.goto X216.here hx rfl (pc0 := 302) (pc' := 306) rfl (hb hby at_302) (by decide) (by decide) kq) ?_
    refine own_out X216 Bd.notSynchronized (v := (some (.int (1 : Int32)))) (fun h => by rw [Bd.returns] at h; cases h) (fun fs hr => retN X216 hx (t := .boolean) Bd.returns (by simp) (hb hby at_306) hr) ?_ (by decide) (by decide)
    rw [hh216]
    exact ⟨rfl, N217⟩
  · have hex : ex = own_takes nn (1 : Int32) (1 : Int32) := hex
    refine own_st (T' := T151) (g' := (mkF m 288 #[.val (.int p1), .val (.int p2), .val (.int p3), .val (.int (12 : Int32)), .val (.int nn), .val (.int (2147483647 : Int32)), .val (.ref b2), .val (.ref b76), .val (.int ex)] [(.int (12 : Int32))])) (fun _ kq => XS.iloadN X151.here hx rfl (hb hby at_287) rfl kq) ?_
    have O218 : Old Z n0 h151 := ((((((((((((((((((((((((O77.ext E76).wr W80 g_b76).wr W83 g_b76).wr W87 g_b76).wr W90 g_b76).wr W93 g_b76).wr W96 g_b76).wr W99 g_b76).wr W103 g_b76).wr W106 g_b76).wr W109 g_b76).wr W112 g_b76).wr W115 g_b76).wr W119 g_b76).wr W122 g_b76).wr W125 g_b76).wr W128 g_b76).wr W131 g_b76).wr W135 g_b76).wr W138 g_b76).wr W141 g_b76).wr W144 g_b76).wr W147 g_b76).wr W151 g_b76)
    obtain ⟨_, _, ⟨T219, L219, k219, n219⟩, -, X219, ⟨Lc219, hQ219, l219, y219, z219⟩, st219⟩ := Jvm.LawKit.callS X151 hx (y := (⟨"com/example/table_rules/tablerules/engine/FunctionTakesPinLaw", "constant", "(I)Lcom/example/table_rules/tablerules/engine/Function;"⟩ : MethodName)) hown (mvT hZ (hw _ (List.mem_of_getElem? (i := 2) rfl))) (mvT hZ (hw _ (List.mem_of_getElem? (i := 3) rfl))) (mvT hZ (hw _ (List.mem_of_getElem? (i := 4) rfl))) (mvT hZ (hw _ (List.mem_of_getElem? (i := 5) rfl))) (by decide) (backOf (W := 0) (rmk12 l Z a0 hw [] w_CEIL h151 n0 O218 S_CEIL) hZ (hw _ (List.mem_of_getElem? (i := 5) rfl)) (hw _ (List.mem_of_getElem? (i := 4) rfl)) (by decide) (by decide)) (g := (mkF m 288 #[.val (.int p1), .val (.int p2), .val (.int p3), .val (.int (12 : Int32)), .val (.int nn), .val (.int (2147483647 : Int32)), .val (.ref b2), .val (.ref b76), .val (.int ex)] [(.int (12 : Int32))])) rfl (by rw [hml]; rfl) (argsL := [(.int (12 : Int32))]) (rest := []) (lenOf pd_I_Lcom_example_table_rules_tablerules_engine_Function_319 rfl) rfl (by show 2 * 0 + _ ≤ _; exact Nat.le_of_eq rfl) (hb hby at_288) (fun _ _ => ⟨rfl, e151, (by decide : 2 + 0 ≤ _), (by decide : 46 + 0 ≤ _)⟩)
    dsimp only [Pt.U, Pt.locs, Pt.cells, Pt.slots] at X219 l219 y219 z219 st219 hQ219
    subst l219 y219 z219
    obtain ⟨rfl, Nq219, hh219⟩ := hQ219
    have N220 := Fr.app N152 Nq219
    refine own_st (T' := T219) (g' := (mkF m 291 #[.val (.int p1), .val (.int p2), .val (.int p3), .val (.int (12 : Int32)), .val (.int nn), .val (.int (2147483647 : Int32)), .val (.ref b2), .val (.ref b76), .val (.int ex)] [(.ref w_CEIL)])) st219 ?_
    refine own_st (T' := T219) (g' := (mkF m 293 #[.val (.int p1), .val (.int p2), .val (.int p3), .val (.int (12 : Int32)), .val (.int nn), .val (.int (2147483647 : Int32)), .val (.ref b2), .val (.ref b76), .val (.int ex)] [(.int nn), (.ref w_CEIL)])) (fun _ kq => XS.iload X219.here hx rfl (hb hby at_291) rfl kq) ?_
    obtain ⟨cq221, kq221, q221a, q221b, q221c⟩ := isOf hZ hh219 (E_CEIL.ext O218.2)
    obtain ⟨_, _, ⟨T221, L221, k221, n221⟩, -, X221, ⟨Lc221, hQ221, l221, y221, z221⟩, st221⟩ := X219.virtualBack hx (y := (⟨"com/example/table_rules/tablerules/engine/Function", "takes", "(I)Z"⟩ : MethodName)) (z := (⟨"com/example/table_rules/tablerules/engine/Function", "takes", "(I)Z"⟩ : MethodName)) hown (mvT hZ (hw _ (List.mem_of_getElem? (i := 9) rfl))) (mvT hZ (hw _ (List.mem_of_getElem? (i := 10) rfl))) (notFace_of_selects (args := #[]) (mvT hZ (hw _ (List.mem_of_getElem? (i := 47) rfl)))) (mvT hZ (hw _ (List.mem_of_getElem? (i := 47) rfl))) (mvT hZ (hw _ (List.mem_of_getElem? (i := 11) rfl))) (by decide) (backOf (W := 0) (rmtakes l Z a0 hw [] w_CEIL nn (1 : Int32) (1 : Int32) h151 n0 O218 (L_CEIL.ext O218.2) (H_CEIL.ext O218.2)) hZ (hw _ (List.mem_of_getElem? (i := 13) rfl)) (hw _ (List.mem_of_getElem? (i := 7) rfl)) (by decide) (by decide)) q221a q221c (g := (mkF m 293 #[.val (.int p1), .val (.int p2), .val (.int p3), .val (.int (12 : Int32)), .val (.int nn), .val (.int (2147483647 : Int32)), .val (.ref b2), .val (.ref b76), .val (.int ex)] [(.int nn), (.ref w_CEIL)])) rfl (by rw [hml]; rfl) (Steps.refl _) (argsL := [(.int nn)]) (rest := []) (lenOf pd_I_Z_244 rfl) rfl (by show 2 * 0 + _ ≤ _; exact Nat.le_of_eq rfl) (hb hby at_293) (fun _ _ => ⟨rfl, hh219, (by decide : 2 + 0 ≤ _), (by decide : 46 + 0 ≤ _)⟩)
    dsimp only [Pt.U, Pt.locs, Pt.cells, Pt.slots] at X221 l221 y221 z221 st221 hQ221
    subst l221 y221 z221
    obtain ⟨rfl, Nq221, hh221⟩ := hQ221
    have N222 := Fr.app N220 Nq221
    refine own_ts (T' := T221) (g' := (mkF m 296 #[.val (.int p1), .val (.int p2), .val (.int p3), .val (.int (12 : Int32)), .val (.int nn), .val (.int (2147483647 : Int32)), .val (.ref b2), .val (.ref b76), .val (.int ex)] [(.int (own_takes nn (1 : Int32) (1 : Int32)))])) st221 ?_
    refine own_st (T' := T221) (g' := (mkF m 298 #[.val (.int p1), .val (.int p2), .val (.int p3), .val (.int (12 : Int32)), .val (.int nn), .val (.int (2147483647 : Int32)), .val (.ref b2), .val (.ref b76), .val (.int ex)] [(.int ex), (.int (own_takes nn (1 : Int32) (1 : Int32)))])) (fun _ kq => XS.iload X221.here hx rfl (hb hby at_296) rfl kq) ?_
    refine own_st (T' := T221) (g' := (mkF m 301 #[.val (.int p1), .val (.int p2), .val (.int p3), .val (.int (12 : Int32)), .val (.int nn), .val (.int (2147483647 : Int32)), .val (.ref b2), .val (.ref b76), .val (.int ex)] [])) (fun _ kq => XS.icmpNo X221.here hx rfl (hb hby at_298) rfl (teq (hex.symm : (own_takes nn (1 : Int32) (1 : Int32)) = ex)).2 kq) ?_
    refine own_st (T' := T221) (g' := (mkF m 302 #[.val (.int p1), .val (.int p2), .val (.int p3), .val (.int (12 : Int32)), .val (.int nn), .val (.int (2147483647 : Int32)), .val (.ref b2), .val (.ref b76), .val (.int ex)] [(.int (1 : Int32))])) (fun _ kq => XS.iconst X221.here hx rfl (hb hby at_301) kq) ?_
    refine own_st (T' := T221) (g' := (mkF m 306 #[.val (.int p1), .val (.int p2), .val (.int p3), .val (.int (12 : Int32)), .val (.int nn), .val (.int (2147483647 : Int32)), .val (.ref b2), .val (.ref b76), .val (.int ex)] [(.int (1 : Int32))])) (fun _ kq => XS.goto X221.here hx rfl (pc0 := 302) (pc' := 306) rfl (hb hby at_302) (by decide) (by decide) kq) ?_
    refine own_out X221 Bd.notSynchronized (v := (some (.int (1 : Int32)))) (fun h => by rw [Bd.returns] at h; cases h) (fun fs hr => retN X221 hx (t := .boolean) Bd.returns (by simp) (hb hby at_306) hr) ?_ (by decide) (by decide)
    rw [hh221]
    exact ⟨rfl, N222⟩
  · have hex : ex = own_takes nn (1 : Int32) (1 : Int32) := hex
    refine own_st (T' := T151) (g' := (mkF m 288 #[.val (.int p1), .val (.int p2), .val (.int p3), .val (.int (13 : Int32)), .val (.int nn), .val (.int (2147483647 : Int32)), .val (.ref b2), .val (.ref b76), .val (.int ex)] [(.int (13 : Int32))])) (fun _ kq => XS.iloadN X151.here hx rfl (hb hby at_287) rfl kq) ?_
    have O223 : Old Z n0 h151 := ((((((((((((((((((((((((O77.ext E76).wr W80 g_b76).wr W83 g_b76).wr W87 g_b76).wr W90 g_b76).wr W93 g_b76).wr W96 g_b76).wr W99 g_b76).wr W103 g_b76).wr W106 g_b76).wr W109 g_b76).wr W112 g_b76).wr W115 g_b76).wr W119 g_b76).wr W122 g_b76).wr W125 g_b76).wr W128 g_b76).wr W131 g_b76).wr W135 g_b76).wr W138 g_b76).wr W141 g_b76).wr W144 g_b76).wr W147 g_b76).wr W151 g_b76)
    obtain ⟨_, _, ⟨T224, L224, k224, n224⟩, -, X224, ⟨Lc224, hQ224, l224, y224, z224⟩, st224⟩ := Jvm.LawKit.callS X151 hx (y := (⟨"com/example/table_rules/tablerules/engine/FunctionTakesPinLaw", "constant", "(I)Lcom/example/table_rules/tablerules/engine/Function;"⟩ : MethodName)) hown (mvT hZ (hw _ (List.mem_of_getElem? (i := 2) rfl))) (mvT hZ (hw _ (List.mem_of_getElem? (i := 3) rfl))) (mvT hZ (hw _ (List.mem_of_getElem? (i := 4) rfl))) (mvT hZ (hw _ (List.mem_of_getElem? (i := 5) rfl))) (by decide) (backOf (W := 0) (rmk13 l Z a0 hw [] w_FLOOR h151 n0 O223 S_FLOOR) hZ (hw _ (List.mem_of_getElem? (i := 5) rfl)) (hw _ (List.mem_of_getElem? (i := 4) rfl)) (by decide) (by decide)) (g := (mkF m 288 #[.val (.int p1), .val (.int p2), .val (.int p3), .val (.int (13 : Int32)), .val (.int nn), .val (.int (2147483647 : Int32)), .val (.ref b2), .val (.ref b76), .val (.int ex)] [(.int (13 : Int32))])) rfl (by rw [hml]; rfl) (argsL := [(.int (13 : Int32))]) (rest := []) (lenOf pd_I_Lcom_example_table_rules_tablerules_engine_Function_319 rfl) rfl (by show 2 * 0 + _ ≤ _; exact Nat.le_of_eq rfl) (hb hby at_288) (fun _ _ => ⟨rfl, e151, (by decide : 2 + 0 ≤ _), (by decide : 46 + 0 ≤ _)⟩)
    dsimp only [Pt.U, Pt.locs, Pt.cells, Pt.slots] at X224 l224 y224 z224 st224 hQ224
    subst l224 y224 z224
    obtain ⟨rfl, Nq224, hh224⟩ := hQ224
    have N225 := Fr.app N152 Nq224
    refine own_st (T' := T224) (g' := (mkF m 291 #[.val (.int p1), .val (.int p2), .val (.int p3), .val (.int (13 : Int32)), .val (.int nn), .val (.int (2147483647 : Int32)), .val (.ref b2), .val (.ref b76), .val (.int ex)] [(.ref w_FLOOR)])) st224 ?_
    refine own_st (T' := T224) (g' := (mkF m 293 #[.val (.int p1), .val (.int p2), .val (.int p3), .val (.int (13 : Int32)), .val (.int nn), .val (.int (2147483647 : Int32)), .val (.ref b2), .val (.ref b76), .val (.int ex)] [(.int nn), (.ref w_FLOOR)])) (fun _ kq => XS.iload X224.here hx rfl (hb hby at_291) rfl kq) ?_
    obtain ⟨cq226, kq226, q226a, q226b, q226c⟩ := isOf hZ hh224 (E_FLOOR.ext O223.2)
    obtain ⟨_, _, ⟨T226, L226, k226, n226⟩, -, X226, ⟨Lc226, hQ226, l226, y226, z226⟩, st226⟩ := X224.virtualBack hx (y := (⟨"com/example/table_rules/tablerules/engine/Function", "takes", "(I)Z"⟩ : MethodName)) (z := (⟨"com/example/table_rules/tablerules/engine/Function", "takes", "(I)Z"⟩ : MethodName)) hown (mvT hZ (hw _ (List.mem_of_getElem? (i := 9) rfl))) (mvT hZ (hw _ (List.mem_of_getElem? (i := 10) rfl))) (notFace_of_selects (args := #[]) (mvT hZ (hw _ (List.mem_of_getElem? (i := 76) rfl)))) (mvT hZ (hw _ (List.mem_of_getElem? (i := 76) rfl))) (mvT hZ (hw _ (List.mem_of_getElem? (i := 11) rfl))) (by decide) (backOf (W := 0) (rmtakes l Z a0 hw [] w_FLOOR nn (1 : Int32) (1 : Int32) h151 n0 O223 (L_FLOOR.ext O223.2) (H_FLOOR.ext O223.2)) hZ (hw _ (List.mem_of_getElem? (i := 13) rfl)) (hw _ (List.mem_of_getElem? (i := 7) rfl)) (by decide) (by decide)) q226a q226c (g := (mkF m 293 #[.val (.int p1), .val (.int p2), .val (.int p3), .val (.int (13 : Int32)), .val (.int nn), .val (.int (2147483647 : Int32)), .val (.ref b2), .val (.ref b76), .val (.int ex)] [(.int nn), (.ref w_FLOOR)])) rfl (by rw [hml]; rfl) (Steps.refl _) (argsL := [(.int nn)]) (rest := []) (lenOf pd_I_Z_244 rfl) rfl (by show 2 * 0 + _ ≤ _; exact Nat.le_of_eq rfl) (hb hby at_293) (fun _ _ => ⟨rfl, hh224, (by decide : 2 + 0 ≤ _), (by decide : 46 + 0 ≤ _)⟩)
    dsimp only [Pt.U, Pt.locs, Pt.cells, Pt.slots] at X226 l226 y226 z226 st226 hQ226
    subst l226 y226 z226
    obtain ⟨rfl, Nq226, hh226⟩ := hQ226
    have N227 := Fr.app N225 Nq226
    refine own_ts (T' := T226) (g' := (mkF m 296 #[.val (.int p1), .val (.int p2), .val (.int p3), .val (.int (13 : Int32)), .val (.int nn), .val (.int (2147483647 : Int32)), .val (.ref b2), .val (.ref b76), .val (.int ex)] [(.int (own_takes nn (1 : Int32) (1 : Int32)))])) st226 ?_
    refine own_st (T' := T226) (g' := (mkF m 298 #[.val (.int p1), .val (.int p2), .val (.int p3), .val (.int (13 : Int32)), .val (.int nn), .val (.int (2147483647 : Int32)), .val (.ref b2), .val (.ref b76), .val (.int ex)] [(.int ex), (.int (own_takes nn (1 : Int32) (1 : Int32)))])) (fun _ kq => XS.iload X226.here hx rfl (hb hby at_296) rfl kq) ?_
    refine own_st (T' := T226) (g' := (mkF m 301 #[.val (.int p1), .val (.int p2), .val (.int p3), .val (.int (13 : Int32)), .val (.int nn), .val (.int (2147483647 : Int32)), .val (.ref b2), .val (.ref b76), .val (.int ex)] [])) (fun _ kq => XS.icmpNo X226.here hx rfl (hb hby at_298) rfl (teq (hex.symm : (own_takes nn (1 : Int32) (1 : Int32)) = ex)).2 kq) ?_
    refine own_st (T' := T226) (g' := (mkF m 302 #[.val (.int p1), .val (.int p2), .val (.int p3), .val (.int (13 : Int32)), .val (.int nn), .val (.int (2147483647 : Int32)), .val (.ref b2), .val (.ref b76), .val (.int ex)] [(.int (1 : Int32))])) (fun _ kq => XS.iconst X226.here hx rfl (hb hby at_301) kq) ?_
    refine own_st (T' := T226) (g' := (mkF m 306 #[.val (.int p1), .val (.int p2), .val (.int p3), .val (.int (13 : Int32)), .val (.int nn), .val (.int (2147483647 : Int32)), .val (.ref b2), .val (.ref b76), .val (.int ex)] [(.int (1 : Int32))])) (fun _ kq => XS.goto X226.here hx rfl (pc0 := 302) (pc' := 306) rfl (hb hby at_302) (by decide) (by decide) kq) ?_
    refine own_out X226 Bd.notSynchronized (v := (some (.int (1 : Int32)))) (fun h => by rw [Bd.returns] at h; cases h) (fun fs hr => retN X226 hx (t := .boolean) Bd.returns (by simp) (hb hby at_306) hr) ?_ (by decide) (by decide)
    rw [hh226]
    exact ⟨rfl, N227⟩
  · have hex : ex = own_takes nn (1 : Int32) (1 : Int32) := hex
    refine own_st (T' := T151) (g' := (mkF m 288 #[.val (.int p1), .val (.int p2), .val (.int p3), .val (.int (14 : Int32)), .val (.int nn), .val (.int (2147483647 : Int32)), .val (.ref b2), .val (.ref b76), .val (.int ex)] [(.int (14 : Int32))])) (fun _ kq => XS.iloadN X151.here hx rfl (hb hby at_287) rfl kq) ?_
    have O228 : Old Z n0 h151 := ((((((((((((((((((((((((O77.ext E76).wr W80 g_b76).wr W83 g_b76).wr W87 g_b76).wr W90 g_b76).wr W93 g_b76).wr W96 g_b76).wr W99 g_b76).wr W103 g_b76).wr W106 g_b76).wr W109 g_b76).wr W112 g_b76).wr W115 g_b76).wr W119 g_b76).wr W122 g_b76).wr W125 g_b76).wr W128 g_b76).wr W131 g_b76).wr W135 g_b76).wr W138 g_b76).wr W141 g_b76).wr W144 g_b76).wr W147 g_b76).wr W151 g_b76)
    obtain ⟨_, _, ⟨T229, L229, k229, n229⟩, -, X229, ⟨Lc229, hQ229, l229, y229, z229⟩, st229⟩ := Jvm.LawKit.callS X151 hx (y := (⟨"com/example/table_rules/tablerules/engine/FunctionTakesPinLaw", "constant", "(I)Lcom/example/table_rules/tablerules/engine/Function;"⟩ : MethodName)) hown (mvT hZ (hw _ (List.mem_of_getElem? (i := 2) rfl))) (mvT hZ (hw _ (List.mem_of_getElem? (i := 3) rfl))) (mvT hZ (hw _ (List.mem_of_getElem? (i := 4) rfl))) (mvT hZ (hw _ (List.mem_of_getElem? (i := 5) rfl))) (by decide) (backOf (W := 0) (rmk14 l Z a0 hw [] w_SIGN h151 n0 O228 S_SIGN) hZ (hw _ (List.mem_of_getElem? (i := 5) rfl)) (hw _ (List.mem_of_getElem? (i := 4) rfl)) (by decide) (by decide)) (g := (mkF m 288 #[.val (.int p1), .val (.int p2), .val (.int p3), .val (.int (14 : Int32)), .val (.int nn), .val (.int (2147483647 : Int32)), .val (.ref b2), .val (.ref b76), .val (.int ex)] [(.int (14 : Int32))])) rfl (by rw [hml]; rfl) (argsL := [(.int (14 : Int32))]) (rest := []) (lenOf pd_I_Lcom_example_table_rules_tablerules_engine_Function_319 rfl) rfl (by show 2 * 0 + _ ≤ _; exact Nat.le_of_eq rfl) (hb hby at_288) (fun _ _ => ⟨rfl, e151, (by decide : 2 + 0 ≤ _), (by decide : 46 + 0 ≤ _)⟩)
    dsimp only [Pt.U, Pt.locs, Pt.cells, Pt.slots] at X229 l229 y229 z229 st229 hQ229
    subst l229 y229 z229
    obtain ⟨rfl, Nq229, hh229⟩ := hQ229
    have N230 := Fr.app N152 Nq229
    refine own_st (T' := T229) (g' := (mkF m 291 #[.val (.int p1), .val (.int p2), .val (.int p3), .val (.int (14 : Int32)), .val (.int nn), .val (.int (2147483647 : Int32)), .val (.ref b2), .val (.ref b76), .val (.int ex)] [(.ref w_SIGN)])) st229 ?_
    refine own_st (T' := T229) (g' := (mkF m 293 #[.val (.int p1), .val (.int p2), .val (.int p3), .val (.int (14 : Int32)), .val (.int nn), .val (.int (2147483647 : Int32)), .val (.ref b2), .val (.ref b76), .val (.int ex)] [(.int nn), (.ref w_SIGN)])) (fun _ kq => XS.iload X229.here hx rfl (hb hby at_291) rfl kq) ?_
    obtain ⟨cq231, kq231, q231a, q231b, q231c⟩ := isOf hZ hh229 (E_SIGN.ext O228.2)
    obtain ⟨_, _, ⟨T231, L231, k231, n231⟩, -, X231, ⟨Lc231, hQ231, l231, y231, z231⟩, st231⟩ := X229.virtualBack hx (y := (⟨"com/example/table_rules/tablerules/engine/Function", "takes", "(I)Z"⟩ : MethodName)) (z := (⟨"com/example/table_rules/tablerules/engine/Function", "takes", "(I)Z"⟩ : MethodName)) hown (mvT hZ (hw _ (List.mem_of_getElem? (i := 9) rfl))) (mvT hZ (hw _ (List.mem_of_getElem? (i := 10) rfl))) (notFace_of_selects (args := #[]) (mvT hZ (hw _ (List.mem_of_getElem? (i := 71) rfl)))) (mvT hZ (hw _ (List.mem_of_getElem? (i := 71) rfl))) (mvT hZ (hw _ (List.mem_of_getElem? (i := 11) rfl))) (by decide) (backOf (W := 0) (rmtakes l Z a0 hw [] w_SIGN nn (1 : Int32) (1 : Int32) h151 n0 O228 (L_SIGN.ext O228.2) (H_SIGN.ext O228.2)) hZ (hw _ (List.mem_of_getElem? (i := 13) rfl)) (hw _ (List.mem_of_getElem? (i := 7) rfl)) (by decide) (by decide)) q231a q231c (g := (mkF m 293 #[.val (.int p1), .val (.int p2), .val (.int p3), .val (.int (14 : Int32)), .val (.int nn), .val (.int (2147483647 : Int32)), .val (.ref b2), .val (.ref b76), .val (.int ex)] [(.int nn), (.ref w_SIGN)])) rfl (by rw [hml]; rfl) (Steps.refl _) (argsL := [(.int nn)]) (rest := []) (lenOf pd_I_Z_244 rfl) rfl (by show 2 * 0 + _ ≤ _; exact Nat.le_of_eq rfl) (hb hby at_293) (fun _ _ => ⟨rfl, hh229, (by decide : 2 + 0 ≤ _), (by decide : 46 + 0 ≤ _)⟩)
    dsimp only [Pt.U, Pt.locs, Pt.cells, Pt.slots] at X231 l231 y231 z231 st231 hQ231
    subst l231 y231 z231
    obtain ⟨rfl, Nq231, hh231⟩ := hQ231
    have N232 := Fr.app N230 Nq231
    refine own_ts (T' := T231) (g' := (mkF m 296 #[.val (.int p1), .val (.int p2), .val (.int p3), .val (.int (14 : Int32)), .val (.int nn), .val (.int (2147483647 : Int32)), .val (.ref b2), .val (.ref b76), .val (.int ex)] [(.int (own_takes nn (1 : Int32) (1 : Int32)))])) st231 ?_
    refine own_st (T' := T231) (g' := (mkF m 298 #[.val (.int p1), .val (.int p2), .val (.int p3), .val (.int (14 : Int32)), .val (.int nn), .val (.int (2147483647 : Int32)), .val (.ref b2), .val (.ref b76), .val (.int ex)] [(.int ex), (.int (own_takes nn (1 : Int32) (1 : Int32)))])) (fun _ kq => XS.iload X231.here hx rfl (hb hby at_296) rfl kq) ?_
    refine own_st (T' := T231) (g' := (mkF m 301 #[.val (.int p1), .val (.int p2), .val (.int p3), .val (.int (14 : Int32)), .val (.int nn), .val (.int (2147483647 : Int32)), .val (.ref b2), .val (.ref b76), .val (.int ex)] [])) (fun _ kq => XS.icmpNo X231.here hx rfl (hb hby at_298) rfl (teq (hex.symm : (own_takes nn (1 : Int32) (1 : Int32)) = ex)).2 kq) ?_
    refine own_st (T' := T231) (g' := (mkF m 302 #[.val (.int p1), .val (.int p2), .val (.int p3), .val (.int (14 : Int32)), .val (.int nn), .val (.int (2147483647 : Int32)), .val (.ref b2), .val (.ref b76), .val (.int ex)] [(.int (1 : Int32))])) (fun _ kq => XS.iconst X231.here hx rfl (hb hby at_301) kq) ?_
    refine own_st (T' := T231) (g' := (mkF m 306 #[.val (.int p1), .val (.int p2), .val (.int p3), .val (.int (14 : Int32)), .val (.int nn), .val (.int (2147483647 : Int32)), .val (.ref b2), .val (.ref b76), .val (.int ex)] [(.int (1 : Int32))])) (fun _ kq => XS.goto X231.here hx rfl (pc0 := 302) (pc' := 306) rfl (hb hby at_302) (by decide) (by decide) kq) ?_
    refine own_out X231 Bd.notSynchronized (v := (some (.int (1 : Int32)))) (fun h => by rw [Bd.returns] at h; cases h) (fun fs hr => retN X231 hx (t := .boolean) Bd.returns (by simp) (hb hby at_306) hr) ?_ (by decide) (by decide)
    rw [hh231]
    exact ⟨rfl, N232⟩
  · have hex : ex = own_takes nn (1 : Int32) (2 : Int32) := hex
    refine own_st (T' := T151) (g' := (mkF m 288 #[.val (.int p1), .val (.int p2), .val (.int p3), .val (.int (15 : Int32)), .val (.int nn), .val (.int (2147483647 : Int32)), .val (.ref b2), .val (.ref b76), .val (.int ex)] [(.int (15 : Int32))])) (fun _ kq => XS.iloadN X151.here hx rfl (hb hby at_287) rfl kq) ?_
    have O233 : Old Z n0 h151 := ((((((((((((((((((((((((O77.ext E76).wr W80 g_b76).wr W83 g_b76).wr W87 g_b76).wr W90 g_b76).wr W93 g_b76).wr W96 g_b76).wr W99 g_b76).wr W103 g_b76).wr W106 g_b76).wr W109 g_b76).wr W112 g_b76).wr W115 g_b76).wr W119 g_b76).wr W122 g_b76).wr W125 g_b76).wr W128 g_b76).wr W131 g_b76).wr W135 g_b76).wr W138 g_b76).wr W141 g_b76).wr W144 g_b76).wr W147 g_b76).wr W151 g_b76)
    obtain ⟨_, _, ⟨T234, L234, k234, n234⟩, -, X234, ⟨Lc234, hQ234, l234, y234, z234⟩, st234⟩ := Jvm.LawKit.callS X151 hx (y := (⟨"com/example/table_rules/tablerules/engine/FunctionTakesPinLaw", "constant", "(I)Lcom/example/table_rules/tablerules/engine/Function;"⟩ : MethodName)) hown (mvT hZ (hw _ (List.mem_of_getElem? (i := 2) rfl))) (mvT hZ (hw _ (List.mem_of_getElem? (i := 3) rfl))) (mvT hZ (hw _ (List.mem_of_getElem? (i := 4) rfl))) (mvT hZ (hw _ (List.mem_of_getElem? (i := 5) rfl))) (by decide) (backOf (W := 0) (rmk15 l Z a0 hw [] w_ROUND h151 n0 O233 S_ROUND) hZ (hw _ (List.mem_of_getElem? (i := 5) rfl)) (hw _ (List.mem_of_getElem? (i := 4) rfl)) (by decide) (by decide)) (g := (mkF m 288 #[.val (.int p1), .val (.int p2), .val (.int p3), .val (.int (15 : Int32)), .val (.int nn), .val (.int (2147483647 : Int32)), .val (.ref b2), .val (.ref b76), .val (.int ex)] [(.int (15 : Int32))])) rfl (by rw [hml]; rfl) (argsL := [(.int (15 : Int32))]) (rest := []) (lenOf pd_I_Lcom_example_table_rules_tablerules_engine_Function_319 rfl) rfl (by show 2 * 0 + _ ≤ _; exact Nat.le_of_eq rfl) (hb hby at_288) (fun _ _ => ⟨rfl, e151, (by decide : 2 + 0 ≤ _), (by decide : 46 + 0 ≤ _)⟩)
    dsimp only [Pt.U, Pt.locs, Pt.cells, Pt.slots] at X234 l234 y234 z234 st234 hQ234
    subst l234 y234 z234
    obtain ⟨rfl, Nq234, hh234⟩ := hQ234
    have N235 := Fr.app N152 Nq234
    refine own_st (T' := T234) (g' := (mkF m 291 #[.val (.int p1), .val (.int p2), .val (.int p3), .val (.int (15 : Int32)), .val (.int nn), .val (.int (2147483647 : Int32)), .val (.ref b2), .val (.ref b76), .val (.int ex)] [(.ref w_ROUND)])) st234 ?_
    refine own_st (T' := T234) (g' := (mkF m 293 #[.val (.int p1), .val (.int p2), .val (.int p3), .val (.int (15 : Int32)), .val (.int nn), .val (.int (2147483647 : Int32)), .val (.ref b2), .val (.ref b76), .val (.int ex)] [(.int nn), (.ref w_ROUND)])) (fun _ kq => XS.iload X234.here hx rfl (hb hby at_291) rfl kq) ?_
    obtain ⟨cq236, kq236, q236a, q236b, q236c⟩ := isOf hZ hh234 (E_ROUND.ext O233.2)
    obtain ⟨_, _, ⟨T236, L236, k236, n236⟩, -, X236, ⟨Lc236, hQ236, l236, y236, z236⟩, st236⟩ := X234.virtualBack hx (y := (⟨"com/example/table_rules/tablerules/engine/Function", "takes", "(I)Z"⟩ : MethodName)) (z := (⟨"com/example/table_rules/tablerules/engine/Function", "takes", "(I)Z"⟩ : MethodName)) hown (mvT hZ (hw _ (List.mem_of_getElem? (i := 9) rfl))) (mvT hZ (hw _ (List.mem_of_getElem? (i := 10) rfl))) (notFace_of_selects (args := #[]) (mvT hZ (hw _ (List.mem_of_getElem? (i := 37) rfl)))) (mvT hZ (hw _ (List.mem_of_getElem? (i := 37) rfl))) (mvT hZ (hw _ (List.mem_of_getElem? (i := 11) rfl))) (by decide) (backOf (W := 0) (rmtakes l Z a0 hw [] w_ROUND nn (1 : Int32) (2 : Int32) h151 n0 O233 (L_ROUND.ext O233.2) (H_ROUND.ext O233.2)) hZ (hw _ (List.mem_of_getElem? (i := 13) rfl)) (hw _ (List.mem_of_getElem? (i := 7) rfl)) (by decide) (by decide)) q236a q236c (g := (mkF m 293 #[.val (.int p1), .val (.int p2), .val (.int p3), .val (.int (15 : Int32)), .val (.int nn), .val (.int (2147483647 : Int32)), .val (.ref b2), .val (.ref b76), .val (.int ex)] [(.int nn), (.ref w_ROUND)])) rfl (by rw [hml]; rfl) (Steps.refl _) (argsL := [(.int nn)]) (rest := []) (lenOf pd_I_Z_244 rfl) rfl (by show 2 * 0 + _ ≤ _; exact Nat.le_of_eq rfl) (hb hby at_293) (fun _ _ => ⟨rfl, hh234, (by decide : 2 + 0 ≤ _), (by decide : 46 + 0 ≤ _)⟩)
    dsimp only [Pt.U, Pt.locs, Pt.cells, Pt.slots] at X236 l236 y236 z236 st236 hQ236
    subst l236 y236 z236
    obtain ⟨rfl, Nq236, hh236⟩ := hQ236
    have N237 := Fr.app N235 Nq236
    refine own_ts (T' := T236) (g' := (mkF m 296 #[.val (.int p1), .val (.int p2), .val (.int p3), .val (.int (15 : Int32)), .val (.int nn), .val (.int (2147483647 : Int32)), .val (.ref b2), .val (.ref b76), .val (.int ex)] [(.int (own_takes nn (1 : Int32) (2 : Int32)))])) st236 ?_
    refine own_st (T' := T236) (g' := (mkF m 298 #[.val (.int p1), .val (.int p2), .val (.int p3), .val (.int (15 : Int32)), .val (.int nn), .val (.int (2147483647 : Int32)), .val (.ref b2), .val (.ref b76), .val (.int ex)] [(.int ex), (.int (own_takes nn (1 : Int32) (2 : Int32)))])) (fun _ kq => XS.iload X236.here hx rfl (hb hby at_296) rfl kq) ?_
    refine own_st (T' := T236) (g' := (mkF m 301 #[.val (.int p1), .val (.int p2), .val (.int p3), .val (.int (15 : Int32)), .val (.int nn), .val (.int (2147483647 : Int32)), .val (.ref b2), .val (.ref b76), .val (.int ex)] [])) (fun _ kq => XS.icmpNo X236.here hx rfl (hb hby at_298) rfl (teq (hex.symm : (own_takes nn (1 : Int32) (2 : Int32)) = ex)).2 kq) ?_
    refine own_st (T' := T236) (g' := (mkF m 302 #[.val (.int p1), .val (.int p2), .val (.int p3), .val (.int (15 : Int32)), .val (.int nn), .val (.int (2147483647 : Int32)), .val (.ref b2), .val (.ref b76), .val (.int ex)] [(.int (1 : Int32))])) (fun _ kq => XS.iconst X236.here hx rfl (hb hby at_301) kq) ?_
    refine own_st (T' := T236) (g' := (mkF m 306 #[.val (.int p1), .val (.int p2), .val (.int p3), .val (.int (15 : Int32)), .val (.int nn), .val (.int (2147483647 : Int32)), .val (.ref b2), .val (.ref b76), .val (.int ex)] [(.int (1 : Int32))])) (fun _ kq => XS.goto X236.here hx rfl (pc0 := 302) (pc' := 306) rfl (hb hby at_302) (by decide) (by decide) kq) ?_
    refine own_out X236 Bd.notSynchronized (v := (some (.int (1 : Int32)))) (fun h => by rw [Bd.returns] at h; cases h) (fun fs hr => retN X236 hx (t := .boolean) Bd.returns (by simp) (hb hby at_306) hr) ?_ (by decide) (by decide)
    rw [hh236]
    exact ⟨rfl, N237⟩
  · have hex : ex = own_takes nn (1 : Int32) (2 : Int32) := hex
    refine own_st (T' := T151) (g' := (mkF m 288 #[.val (.int p1), .val (.int p2), .val (.int p3), .val (.int (16 : Int32)), .val (.int nn), .val (.int (2147483647 : Int32)), .val (.ref b2), .val (.ref b76), .val (.int ex)] [(.int (16 : Int32))])) (fun _ kq => XS.iloadN X151.here hx rfl (hb hby at_287) rfl kq) ?_
    have O238 : Old Z n0 h151 := ((((((((((((((((((((((((O77.ext E76).wr W80 g_b76).wr W83 g_b76).wr W87 g_b76).wr W90 g_b76).wr W93 g_b76).wr W96 g_b76).wr W99 g_b76).wr W103 g_b76).wr W106 g_b76).wr W109 g_b76).wr W112 g_b76).wr W115 g_b76).wr W119 g_b76).wr W122 g_b76).wr W125 g_b76).wr W128 g_b76).wr W131 g_b76).wr W135 g_b76).wr W138 g_b76).wr W141 g_b76).wr W144 g_b76).wr W147 g_b76).wr W151 g_b76)
    obtain ⟨_, _, ⟨T239, L239, k239, n239⟩, -, X239, ⟨Lc239, hQ239, l239, y239, z239⟩, st239⟩ := Jvm.LawKit.callS X151 hx (y := (⟨"com/example/table_rules/tablerules/engine/FunctionTakesPinLaw", "constant", "(I)Lcom/example/table_rules/tablerules/engine/Function;"⟩ : MethodName)) hown (mvT hZ (hw _ (List.mem_of_getElem? (i := 2) rfl))) (mvT hZ (hw _ (List.mem_of_getElem? (i := 3) rfl))) (mvT hZ (hw _ (List.mem_of_getElem? (i := 4) rfl))) (mvT hZ (hw _ (List.mem_of_getElem? (i := 5) rfl))) (by decide) (backOf (W := 0) (rmk16 l Z a0 hw [] w_TRUNC h151 n0 O238 S_TRUNC) hZ (hw _ (List.mem_of_getElem? (i := 5) rfl)) (hw _ (List.mem_of_getElem? (i := 4) rfl)) (by decide) (by decide)) (g := (mkF m 288 #[.val (.int p1), .val (.int p2), .val (.int p3), .val (.int (16 : Int32)), .val (.int nn), .val (.int (2147483647 : Int32)), .val (.ref b2), .val (.ref b76), .val (.int ex)] [(.int (16 : Int32))])) rfl (by rw [hml]; rfl) (argsL := [(.int (16 : Int32))]) (rest := []) (lenOf pd_I_Lcom_example_table_rules_tablerules_engine_Function_319 rfl) rfl (by show 2 * 0 + _ ≤ _; exact Nat.le_of_eq rfl) (hb hby at_288) (fun _ _ => ⟨rfl, e151, (by decide : 2 + 0 ≤ _), (by decide : 46 + 0 ≤ _)⟩)
    dsimp only [Pt.U, Pt.locs, Pt.cells, Pt.slots] at X239 l239 y239 z239 st239 hQ239
    subst l239 y239 z239
    obtain ⟨rfl, Nq239, hh239⟩ := hQ239
    have N240 := Fr.app N152 Nq239
    refine own_st (T' := T239) (g' := (mkF m 291 #[.val (.int p1), .val (.int p2), .val (.int p3), .val (.int (16 : Int32)), .val (.int nn), .val (.int (2147483647 : Int32)), .val (.ref b2), .val (.ref b76), .val (.int ex)] [(.ref w_TRUNC)])) st239 ?_
    refine own_st (T' := T239) (g' := (mkF m 293 #[.val (.int p1), .val (.int p2), .val (.int p3), .val (.int (16 : Int32)), .val (.int nn), .val (.int (2147483647 : Int32)), .val (.ref b2), .val (.ref b76), .val (.int ex)] [(.int nn), (.ref w_TRUNC)])) (fun _ kq => XS.iload X239.here hx rfl (hb hby at_291) rfl kq) ?_
    obtain ⟨cq241, kq241, q241a, q241b, q241c⟩ := isOf hZ hh239 (E_TRUNC.ext O238.2)
    obtain ⟨_, _, ⟨T241, L241, k241, n241⟩, -, X241, ⟨Lc241, hQ241, l241, y241, z241⟩, st241⟩ := X239.virtualBack hx (y := (⟨"com/example/table_rules/tablerules/engine/Function", "takes", "(I)Z"⟩ : MethodName)) (z := (⟨"com/example/table_rules/tablerules/engine/Function", "takes", "(I)Z"⟩ : MethodName)) hown (mvT hZ (hw _ (List.mem_of_getElem? (i := 9) rfl))) (mvT hZ (hw _ (List.mem_of_getElem? (i := 10) rfl))) (notFace_of_selects (args := #[]) (mvT hZ (hw _ (List.mem_of_getElem? (i := 42) rfl)))) (mvT hZ (hw _ (List.mem_of_getElem? (i := 42) rfl))) (mvT hZ (hw _ (List.mem_of_getElem? (i := 11) rfl))) (by decide) (backOf (W := 0) (rmtakes l Z a0 hw [] w_TRUNC nn (1 : Int32) (2 : Int32) h151 n0 O238 (L_TRUNC.ext O238.2) (H_TRUNC.ext O238.2)) hZ (hw _ (List.mem_of_getElem? (i := 13) rfl)) (hw _ (List.mem_of_getElem? (i := 7) rfl)) (by decide) (by decide)) q241a q241c (g := (mkF m 293 #[.val (.int p1), .val (.int p2), .val (.int p3), .val (.int (16 : Int32)), .val (.int nn), .val (.int (2147483647 : Int32)), .val (.ref b2), .val (.ref b76), .val (.int ex)] [(.int nn), (.ref w_TRUNC)])) rfl (by rw [hml]; rfl) (Steps.refl _) (argsL := [(.int nn)]) (rest := []) (lenOf pd_I_Z_244 rfl) rfl (by show 2 * 0 + _ ≤ _; exact Nat.le_of_eq rfl) (hb hby at_293) (fun _ _ => ⟨rfl, hh239, (by decide : 2 + 0 ≤ _), (by decide : 46 + 0 ≤ _)⟩)
    dsimp only [Pt.U, Pt.locs, Pt.cells, Pt.slots] at X241 l241 y241 z241 st241 hQ241
    subst l241 y241 z241
    obtain ⟨rfl, Nq241, hh241⟩ := hQ241
    have N242 := Fr.app N240 Nq241
    refine own_ts (T' := T241) (g' := (mkF m 296 #[.val (.int p1), .val (.int p2), .val (.int p3), .val (.int (16 : Int32)), .val (.int nn), .val (.int (2147483647 : Int32)), .val (.ref b2), .val (.ref b76), .val (.int ex)] [(.int (own_takes nn (1 : Int32) (2 : Int32)))])) st241 ?_
    refine own_st (T' := T241) (g' := (mkF m 298 #[.val (.int p1), .val (.int p2), .val (.int p3), .val (.int (16 : Int32)), .val (.int nn), .val (.int (2147483647 : Int32)), .val (.ref b2), .val (.ref b76), .val (.int ex)] [(.int ex), (.int (own_takes nn (1 : Int32) (2 : Int32)))])) (fun _ kq => XS.iload X241.here hx rfl (hb hby at_296) rfl kq) ?_
    refine own_st (T' := T241) (g' := (mkF m 301 #[.val (.int p1), .val (.int p2), .val (.int p3), .val (.int (16 : Int32)), .val (.int nn), .val (.int (2147483647 : Int32)), .val (.ref b2), .val (.ref b76), .val (.int ex)] [])) (fun _ kq => XS.icmpNo X241.here hx rfl (hb hby at_298) rfl (teq (hex.symm : (own_takes nn (1 : Int32) (2 : Int32)) = ex)).2 kq) ?_
    refine own_st (T' := T241) (g' := (mkF m 302 #[.val (.int p1), .val (.int p2), .val (.int p3), .val (.int (16 : Int32)), .val (.int nn), .val (.int (2147483647 : Int32)), .val (.ref b2), .val (.ref b76), .val (.int ex)] [(.int (1 : Int32))])) (fun _ kq => XS.iconst X241.here hx rfl (hb hby at_301) kq) ?_
    refine own_st (T' := T241) (g' := (mkF m 306 #[.val (.int p1), .val (.int p2), .val (.int p3), .val (.int (16 : Int32)), .val (.int nn), .val (.int (2147483647 : Int32)), .val (.ref b2), .val (.ref b76), .val (.int ex)] [(.int (1 : Int32))])) (fun _ kq => XS.goto X241.here hx rfl (pc0 := 302) (pc' := 306) rfl (hb hby at_302) (by decide) (by decide) kq) ?_
    refine own_out X241 Bd.notSynchronized (v := (some (.int (1 : Int32)))) (fun h => by rw [Bd.returns] at h; cases h) (fun fs hr => retN X241 hx (t := .boolean) Bd.returns (by simp) (hb hby at_306) hr) ?_ (by decide) (by decide)
    rw [hh241]
    exact ⟨rfl, N242⟩
  · have hex : ex = own_takes nn (1 : Int32) (2147483647 : Int32) := hex
    refine own_st (T' := T151) (g' := (mkF m 288 #[.val (.int p1), .val (.int p2), .val (.int p3), .val (.int (17 : Int32)), .val (.int nn), .val (.int (2147483647 : Int32)), .val (.ref b2), .val (.ref b76), .val (.int ex)] [(.int (17 : Int32))])) (fun _ kq => XS.iloadN X151.here hx rfl (hb hby at_287) rfl kq) ?_
    have O243 : Old Z n0 h151 := ((((((((((((((((((((((((O77.ext E76).wr W80 g_b76).wr W83 g_b76).wr W87 g_b76).wr W90 g_b76).wr W93 g_b76).wr W96 g_b76).wr W99 g_b76).wr W103 g_b76).wr W106 g_b76).wr W109 g_b76).wr W112 g_b76).wr W115 g_b76).wr W119 g_b76).wr W122 g_b76).wr W125 g_b76).wr W128 g_b76).wr W131 g_b76).wr W135 g_b76).wr W138 g_b76).wr W141 g_b76).wr W144 g_b76).wr W147 g_b76).wr W151 g_b76)
    obtain ⟨_, _, ⟨T244, L244, k244, n244⟩, -, X244, ⟨Lc244, hQ244, l244, y244, z244⟩, st244⟩ := Jvm.LawKit.callS X151 hx (y := (⟨"com/example/table_rules/tablerules/engine/FunctionTakesPinLaw", "constant", "(I)Lcom/example/table_rules/tablerules/engine/Function;"⟩ : MethodName)) hown (mvT hZ (hw _ (List.mem_of_getElem? (i := 2) rfl))) (mvT hZ (hw _ (List.mem_of_getElem? (i := 3) rfl))) (mvT hZ (hw _ (List.mem_of_getElem? (i := 4) rfl))) (mvT hZ (hw _ (List.mem_of_getElem? (i := 5) rfl))) (by decide) (backOf (W := 0) (rmk17 l Z a0 hw [] w_GREATEST h151 n0 O243 S_GREATEST) hZ (hw _ (List.mem_of_getElem? (i := 5) rfl)) (hw _ (List.mem_of_getElem? (i := 4) rfl)) (by decide) (by decide)) (g := (mkF m 288 #[.val (.int p1), .val (.int p2), .val (.int p3), .val (.int (17 : Int32)), .val (.int nn), .val (.int (2147483647 : Int32)), .val (.ref b2), .val (.ref b76), .val (.int ex)] [(.int (17 : Int32))])) rfl (by rw [hml]; rfl) (argsL := [(.int (17 : Int32))]) (rest := []) (lenOf pd_I_Lcom_example_table_rules_tablerules_engine_Function_319 rfl) rfl (by show 2 * 0 + _ ≤ _; exact Nat.le_of_eq rfl) (hb hby at_288) (fun _ _ => ⟨rfl, e151, (by decide : 2 + 0 ≤ _), (by decide : 46 + 0 ≤ _)⟩)
    dsimp only [Pt.U, Pt.locs, Pt.cells, Pt.slots] at X244 l244 y244 z244 st244 hQ244
    subst l244 y244 z244
    obtain ⟨rfl, Nq244, hh244⟩ := hQ244
    have N245 := Fr.app N152 Nq244
    refine own_st (T' := T244) (g' := (mkF m 291 #[.val (.int p1), .val (.int p2), .val (.int p3), .val (.int (17 : Int32)), .val (.int nn), .val (.int (2147483647 : Int32)), .val (.ref b2), .val (.ref b76), .val (.int ex)] [(.ref w_GREATEST)])) st244 ?_
    refine own_st (T' := T244) (g' := (mkF m 293 #[.val (.int p1), .val (.int p2), .val (.int p3), .val (.int (17 : Int32)), .val (.int nn), .val (.int (2147483647 : Int32)), .val (.ref b2), .val (.ref b76), .val (.int ex)] [(.int nn), (.ref w_GREATEST)])) (fun _ kq => XS.iload X244.here hx rfl (hb hby at_291) rfl kq) ?_
    obtain ⟨cq246, kq246, q246a, q246b, q246c⟩ := isOf hZ hh244 (E_GREATEST.ext O243.2)
    obtain ⟨_, _, ⟨T246, L246, k246, n246⟩, -, X246, ⟨Lc246, hQ246, l246, y246, z246⟩, st246⟩ := X244.virtualBack hx (y := (⟨"com/example/table_rules/tablerules/engine/Function", "takes", "(I)Z"⟩ : MethodName)) (z := (⟨"com/example/table_rules/tablerules/engine/Function", "takes", "(I)Z"⟩ : MethodName)) hown (mvT hZ (hw _ (List.mem_of_getElem? (i := 9) rfl))) (mvT hZ (hw _ (List.mem_of_getElem? (i := 10) rfl))) (notFace_of_selects (args := #[]) (mvT hZ (hw _ (List.mem_of_getElem? (i := 51) rfl)))) (mvT hZ (hw _ (List.mem_of_getElem? (i := 51) rfl))) (mvT hZ (hw _ (List.mem_of_getElem? (i := 11) rfl))) (by decide) (backOf (W := 0) (rmtakes l Z a0 hw [] w_GREATEST nn (1 : Int32) (2147483647 : Int32) h151 n0 O243 (L_GREATEST.ext O243.2) (H_GREATEST.ext O243.2)) hZ (hw _ (List.mem_of_getElem? (i := 13) rfl)) (hw _ (List.mem_of_getElem? (i := 7) rfl)) (by decide) (by decide)) q246a q246c (g := (mkF m 293 #[.val (.int p1), .val (.int p2), .val (.int p3), .val (.int (17 : Int32)), .val (.int nn), .val (.int (2147483647 : Int32)), .val (.ref b2), .val (.ref b76), .val (.int ex)] [(.int nn), (.ref w_GREATEST)])) rfl (by rw [hml]; rfl) (Steps.refl _) (argsL := [(.int nn)]) (rest := []) (lenOf pd_I_Z_244 rfl) rfl (by show 2 * 0 + _ ≤ _; exact Nat.le_of_eq rfl) (hb hby at_293) (fun _ _ => ⟨rfl, hh244, (by decide : 2 + 0 ≤ _), (by decide : 46 + 0 ≤ _)⟩)
    dsimp only [Pt.U, Pt.locs, Pt.cells, Pt.slots] at X246 l246 y246 z246 st246 hQ246
    subst l246 y246 z246
    obtain ⟨rfl, Nq246, hh246⟩ := hQ246
    have N247 := Fr.app N245 Nq246
    refine own_ts (T' := T246) (g' := (mkF m 296 #[.val (.int p1), .val (.int p2), .val (.int p3), .val (.int (17 : Int32)), .val (.int nn), .val (.int (2147483647 : Int32)), .val (.ref b2), .val (.ref b76), .val (.int ex)] [(.int (own_takes nn (1 : Int32) (2147483647 : Int32)))])) st246 ?_
    refine own_st (T' := T246) (g' := (mkF m 298 #[.val (.int p1), .val (.int p2), .val (.int p3), .val (.int (17 : Int32)), .val (.int nn), .val (.int (2147483647 : Int32)), .val (.ref b2), .val (.ref b76), .val (.int ex)] [(.int ex), (.int (own_takes nn (1 : Int32) (2147483647 : Int32)))])) (fun _ kq => XS.iload X246.here hx rfl (hb hby at_296) rfl kq) ?_
    refine own_st (T' := T246) (g' := (mkF m 301 #[.val (.int p1), .val (.int p2), .val (.int p3), .val (.int (17 : Int32)), .val (.int nn), .val (.int (2147483647 : Int32)), .val (.ref b2), .val (.ref b76), .val (.int ex)] [])) (fun _ kq => XS.icmpNo X246.here hx rfl (hb hby at_298) rfl (teq (hex.symm : (own_takes nn (1 : Int32) (2147483647 : Int32)) = ex)).2 kq) ?_
    refine own_st (T' := T246) (g' := (mkF m 302 #[.val (.int p1), .val (.int p2), .val (.int p3), .val (.int (17 : Int32)), .val (.int nn), .val (.int (2147483647 : Int32)), .val (.ref b2), .val (.ref b76), .val (.int ex)] [(.int (1 : Int32))])) (fun _ kq => XS.iconst X246.here hx rfl (hb hby at_301) kq) ?_
    refine own_st (T' := T246) (g' := (mkF m 306 #[.val (.int p1), .val (.int p2), .val (.int p3), .val (.int (17 : Int32)), .val (.int nn), .val (.int (2147483647 : Int32)), .val (.ref b2), .val (.ref b76), .val (.int ex)] [(.int (1 : Int32))])) (fun _ kq => XS.goto X246.here hx rfl (pc0 := 302) (pc' := 306) rfl (hb hby at_302) (by decide) (by decide) kq) ?_
    refine own_out X246 Bd.notSynchronized (v := (some (.int (1 : Int32)))) (fun h => by rw [Bd.returns] at h; cases h) (fun fs hr => retN X246 hx (t := .boolean) Bd.returns (by simp) (hb hby at_306) hr) ?_ (by decide) (by decide)
    rw [hh246]
    exact ⟨rfl, N247⟩
  · have hex : ex = own_takes nn (1 : Int32) (2147483647 : Int32) := hex
    refine own_st (T' := T151) (g' := (mkF m 288 #[.val (.int p1), .val (.int p2), .val (.int p3), .val (.int (18 : Int32)), .val (.int nn), .val (.int (2147483647 : Int32)), .val (.ref b2), .val (.ref b76), .val (.int ex)] [(.int (18 : Int32))])) (fun _ kq => XS.iloadN X151.here hx rfl (hb hby at_287) rfl kq) ?_
    have O248 : Old Z n0 h151 := ((((((((((((((((((((((((O77.ext E76).wr W80 g_b76).wr W83 g_b76).wr W87 g_b76).wr W90 g_b76).wr W93 g_b76).wr W96 g_b76).wr W99 g_b76).wr W103 g_b76).wr W106 g_b76).wr W109 g_b76).wr W112 g_b76).wr W115 g_b76).wr W119 g_b76).wr W122 g_b76).wr W125 g_b76).wr W128 g_b76).wr W131 g_b76).wr W135 g_b76).wr W138 g_b76).wr W141 g_b76).wr W144 g_b76).wr W147 g_b76).wr W151 g_b76)
    obtain ⟨_, _, ⟨T249, L249, k249, n249⟩, -, X249, ⟨Lc249, hQ249, l249, y249, z249⟩, st249⟩ := Jvm.LawKit.callS X151 hx (y := (⟨"com/example/table_rules/tablerules/engine/FunctionTakesPinLaw", "constant", "(I)Lcom/example/table_rules/tablerules/engine/Function;"⟩ : MethodName)) hown (mvT hZ (hw _ (List.mem_of_getElem? (i := 2) rfl))) (mvT hZ (hw _ (List.mem_of_getElem? (i := 3) rfl))) (mvT hZ (hw _ (List.mem_of_getElem? (i := 4) rfl))) (mvT hZ (hw _ (List.mem_of_getElem? (i := 5) rfl))) (by decide) (backOf (W := 0) (rmk18 l Z a0 hw [] w_LEAST h151 n0 O248 S_LEAST) hZ (hw _ (List.mem_of_getElem? (i := 5) rfl)) (hw _ (List.mem_of_getElem? (i := 4) rfl)) (by decide) (by decide)) (g := (mkF m 288 #[.val (.int p1), .val (.int p2), .val (.int p3), .val (.int (18 : Int32)), .val (.int nn), .val (.int (2147483647 : Int32)), .val (.ref b2), .val (.ref b76), .val (.int ex)] [(.int (18 : Int32))])) rfl (by rw [hml]; rfl) (argsL := [(.int (18 : Int32))]) (rest := []) (lenOf pd_I_Lcom_example_table_rules_tablerules_engine_Function_319 rfl) rfl (by show 2 * 0 + _ ≤ _; exact Nat.le_of_eq rfl) (hb hby at_288) (fun _ _ => ⟨rfl, e151, (by decide : 2 + 0 ≤ _), (by decide : 46 + 0 ≤ _)⟩)
    dsimp only [Pt.U, Pt.locs, Pt.cells, Pt.slots] at X249 l249 y249 z249 st249 hQ249
    subst l249 y249 z249
    obtain ⟨rfl, Nq249, hh249⟩ := hQ249
    have N250 := Fr.app N152 Nq249
    refine own_st (T' := T249) (g' := (mkF m 291 #[.val (.int p1), .val (.int p2), .val (.int p3), .val (.int (18 : Int32)), .val (.int nn), .val (.int (2147483647 : Int32)), .val (.ref b2), .val (.ref b76), .val (.int ex)] [(.ref w_LEAST)])) st249 ?_
    refine own_st (T' := T249) (g' := (mkF m 293 #[.val (.int p1), .val (.int p2), .val (.int p3), .val (.int (18 : Int32)), .val (.int nn), .val (.int (2147483647 : Int32)), .val (.ref b2), .val (.ref b76), .val (.int ex)] [(.int nn), (.ref w_LEAST)])) (fun _ kq => XS.iload X249.here hx rfl (hb hby at_291) rfl kq) ?_
    obtain ⟨cq251, kq251, q251a, q251b, q251c⟩ := isOf hZ hh249 (E_LEAST.ext O248.2)
    obtain ⟨_, _, ⟨T251, L251, k251, n251⟩, -, X251, ⟨Lc251, hQ251, l251, y251, z251⟩, st251⟩ := X249.virtualBack hx (y := (⟨"com/example/table_rules/tablerules/engine/Function", "takes", "(I)Z"⟩ : MethodName)) (z := (⟨"com/example/table_rules/tablerules/engine/Function", "takes", "(I)Z"⟩ : MethodName)) hown (mvT hZ (hw _ (List.mem_of_getElem? (i := 9) rfl))) (mvT hZ (hw _ (List.mem_of_getElem? (i := 10) rfl))) (notFace_of_selects (args := #[]) (mvT hZ (hw _ (List.mem_of_getElem? (i := 118) rfl)))) (mvT hZ (hw _ (List.mem_of_getElem? (i := 118) rfl))) (mvT hZ (hw _ (List.mem_of_getElem? (i := 11) rfl))) (by decide) (backOf (W := 0) (rmtakes l Z a0 hw [] w_LEAST nn (1 : Int32) (2147483647 : Int32) h151 n0 O248 (L_LEAST.ext O248.2) (H_LEAST.ext O248.2)) hZ (hw _ (List.mem_of_getElem? (i := 13) rfl)) (hw _ (List.mem_of_getElem? (i := 7) rfl)) (by decide) (by decide)) q251a q251c (g := (mkF m 293 #[.val (.int p1), .val (.int p2), .val (.int p3), .val (.int (18 : Int32)), .val (.int nn), .val (.int (2147483647 : Int32)), .val (.ref b2), .val (.ref b76), .val (.int ex)] [(.int nn), (.ref w_LEAST)])) rfl (by rw [hml]; rfl) (Steps.refl _) (argsL := [(.int nn)]) (rest := []) (lenOf pd_I_Z_244 rfl) rfl (by show 2 * 0 + _ ≤ _; exact Nat.le_of_eq rfl) (hb hby at_293) (fun _ _ => ⟨rfl, hh249, (by decide : 2 + 0 ≤ _), (by decide : 46 + 0 ≤ _)⟩)
    dsimp only [Pt.U, Pt.locs, Pt.cells, Pt.slots] at X251 l251 y251 z251 st251 hQ251
    subst l251 y251 z251
    obtain ⟨rfl, Nq251, hh251⟩ := hQ251
    have N252 := Fr.app N250 Nq251
    refine own_ts (T' := T251) (g' := (mkF m 296 #[.val (.int p1), .val (.int p2), .val (.int p3), .val (.int (18 : Int32)), .val (.int nn), .val (.int (2147483647 : Int32)), .val (.ref b2), .val (.ref b76), .val (.int ex)] [(.int (own_takes nn (1 : Int32) (2147483647 : Int32)))])) st251 ?_
    refine own_st (T' := T251) (g' := (mkF m 298 #[.val (.int p1), .val (.int p2), .val (.int p3), .val (.int (18 : Int32)), .val (.int nn), .val (.int (2147483647 : Int32)), .val (.ref b2), .val (.ref b76), .val (.int ex)] [(.int ex), (.int (own_takes nn (1 : Int32) (2147483647 : Int32)))])) (fun _ kq => XS.iload X251.here hx rfl (hb hby at_296) rfl kq) ?_
    refine own_st (T' := T251) (g' := (mkF m 301 #[.val (.int p1), .val (.int p2), .val (.int p3), .val (.int (18 : Int32)), .val (.int nn), .val (.int (2147483647 : Int32)), .val (.ref b2), .val (.ref b76), .val (.int ex)] [])) (fun _ kq => XS.icmpNo X251.here hx rfl (hb hby at_298) rfl (teq (hex.symm : (own_takes nn (1 : Int32) (2147483647 : Int32)) = ex)).2 kq) ?_
    refine own_st (T' := T251) (g' := (mkF m 302 #[.val (.int p1), .val (.int p2), .val (.int p3), .val (.int (18 : Int32)), .val (.int nn), .val (.int (2147483647 : Int32)), .val (.ref b2), .val (.ref b76), .val (.int ex)] [(.int (1 : Int32))])) (fun _ kq => XS.iconst X251.here hx rfl (hb hby at_301) kq) ?_
    refine own_st (T' := T251) (g' := (mkF m 306 #[.val (.int p1), .val (.int p2), .val (.int p3), .val (.int (18 : Int32)), .val (.int nn), .val (.int (2147483647 : Int32)), .val (.ref b2), .val (.ref b76), .val (.int ex)] [(.int (1 : Int32))])) (fun _ kq => XS.goto X251.here hx rfl (pc0 := 302) (pc' := 306) rfl (hb hby at_302) (by decide) (by decide) kq) ?_
    refine own_out X251 Bd.notSynchronized (v := (some (.int (1 : Int32)))) (fun h => by rw [Bd.returns] at h; cases h) (fun fs hr => retN X251 hx (t := .boolean) Bd.returns (by simp) (hb hby at_306) hr) ?_ (by decide) (by decide)
    rw [hh251]
    exact ⟨rfl, N252⟩
  · have hex : ex = own_takes nn (1 : Int32) (2 : Int32) := hex
    refine own_st (T' := T151) (g' := (mkF m 288 #[.val (.int p1), .val (.int p2), .val (.int p3), .val (.int (19 : Int32)), .val (.int nn), .val (.int (2147483647 : Int32)), .val (.ref b2), .val (.ref b76), .val (.int ex)] [(.int (19 : Int32))])) (fun _ kq => XS.iloadN X151.here hx rfl (hb hby at_287) rfl kq) ?_
    have O253 : Old Z n0 h151 := ((((((((((((((((((((((((O77.ext E76).wr W80 g_b76).wr W83 g_b76).wr W87 g_b76).wr W90 g_b76).wr W93 g_b76).wr W96 g_b76).wr W99 g_b76).wr W103 g_b76).wr W106 g_b76).wr W109 g_b76).wr W112 g_b76).wr W115 g_b76).wr W119 g_b76).wr W122 g_b76).wr W125 g_b76).wr W128 g_b76).wr W131 g_b76).wr W135 g_b76).wr W138 g_b76).wr W141 g_b76).wr W144 g_b76).wr W147 g_b76).wr W151 g_b76)
    obtain ⟨_, _, ⟨T254, L254, k254, n254⟩, -, X254, ⟨Lc254, hQ254, l254, y254, z254⟩, st254⟩ := Jvm.LawKit.callS X151 hx (y := (⟨"com/example/table_rules/tablerules/engine/FunctionTakesPinLaw", "constant", "(I)Lcom/example/table_rules/tablerules/engine/Function;"⟩ : MethodName)) hown (mvT hZ (hw _ (List.mem_of_getElem? (i := 2) rfl))) (mvT hZ (hw _ (List.mem_of_getElem? (i := 3) rfl))) (mvT hZ (hw _ (List.mem_of_getElem? (i := 4) rfl))) (mvT hZ (hw _ (List.mem_of_getElem? (i := 5) rfl))) (by decide) (backOf (W := 0) (rmk19 l Z a0 hw [] w_TO_CHAR h151 n0 O253 S_TO_CHAR) hZ (hw _ (List.mem_of_getElem? (i := 5) rfl)) (hw _ (List.mem_of_getElem? (i := 4) rfl)) (by decide) (by decide)) (g := (mkF m 288 #[.val (.int p1), .val (.int p2), .val (.int p3), .val (.int (19 : Int32)), .val (.int nn), .val (.int (2147483647 : Int32)), .val (.ref b2), .val (.ref b76), .val (.int ex)] [(.int (19 : Int32))])) rfl (by rw [hml]; rfl) (argsL := [(.int (19 : Int32))]) (rest := []) (lenOf pd_I_Lcom_example_table_rules_tablerules_engine_Function_319 rfl) rfl (by show 2 * 0 + _ ≤ _; exact Nat.le_of_eq rfl) (hb hby at_288) (fun _ _ => ⟨rfl, e151, (by decide : 2 + 0 ≤ _), (by decide : 46 + 0 ≤ _)⟩)
    dsimp only [Pt.U, Pt.locs, Pt.cells, Pt.slots] at X254 l254 y254 z254 st254 hQ254
    subst l254 y254 z254
    obtain ⟨rfl, Nq254, hh254⟩ := hQ254
    have N255 := Fr.app N152 Nq254
    refine own_st (T' := T254) (g' := (mkF m 291 #[.val (.int p1), .val (.int p2), .val (.int p3), .val (.int (19 : Int32)), .val (.int nn), .val (.int (2147483647 : Int32)), .val (.ref b2), .val (.ref b76), .val (.int ex)] [(.ref w_TO_CHAR)])) st254 ?_
    refine own_st (T' := T254) (g' := (mkF m 293 #[.val (.int p1), .val (.int p2), .val (.int p3), .val (.int (19 : Int32)), .val (.int nn), .val (.int (2147483647 : Int32)), .val (.ref b2), .val (.ref b76), .val (.int ex)] [(.int nn), (.ref w_TO_CHAR)])) (fun _ kq => XS.iload X254.here hx rfl (hb hby at_291) rfl kq) ?_
    obtain ⟨cq256, kq256, q256a, q256b, q256c⟩ := isOf hZ hh254 (E_TO_CHAR.ext O253.2)
    obtain ⟨_, _, ⟨T256, L256, k256, n256⟩, -, X256, ⟨Lc256, hQ256, l256, y256, z256⟩, st256⟩ := X254.virtualBack hx (y := (⟨"com/example/table_rules/tablerules/engine/Function", "takes", "(I)Z"⟩ : MethodName)) (z := (⟨"com/example/table_rules/tablerules/engine/Function", "takes", "(I)Z"⟩ : MethodName)) hown (mvT hZ (hw _ (List.mem_of_getElem? (i := 9) rfl))) (mvT hZ (hw _ (List.mem_of_getElem? (i := 10) rfl))) (notFace_of_selects (args := #[]) (mvT hZ (hw _ (List.mem_of_getElem? (i := 123) rfl)))) (mvT hZ (hw _ (List.mem_of_getElem? (i := 123) rfl))) (mvT hZ (hw _ (List.mem_of_getElem? (i := 11) rfl))) (by decide) (backOf (W := 0) (rmtakes l Z a0 hw [] w_TO_CHAR nn (1 : Int32) (2 : Int32) h151 n0 O253 (L_TO_CHAR.ext O253.2) (H_TO_CHAR.ext O253.2)) hZ (hw _ (List.mem_of_getElem? (i := 13) rfl)) (hw _ (List.mem_of_getElem? (i := 7) rfl)) (by decide) (by decide)) q256a q256c (g := (mkF m 293 #[.val (.int p1), .val (.int p2), .val (.int p3), .val (.int (19 : Int32)), .val (.int nn), .val (.int (2147483647 : Int32)), .val (.ref b2), .val (.ref b76), .val (.int ex)] [(.int nn), (.ref w_TO_CHAR)])) rfl (by rw [hml]; rfl) (Steps.refl _) (argsL := [(.int nn)]) (rest := []) (lenOf pd_I_Z_244 rfl) rfl (by show 2 * 0 + _ ≤ _; exact Nat.le_of_eq rfl) (hb hby at_293) (fun _ _ => ⟨rfl, hh254, (by decide : 2 + 0 ≤ _), (by decide : 46 + 0 ≤ _)⟩)
    dsimp only [Pt.U, Pt.locs, Pt.cells, Pt.slots] at X256 l256 y256 z256 st256 hQ256
    subst l256 y256 z256
    obtain ⟨rfl, Nq256, hh256⟩ := hQ256
    have N257 := Fr.app N255 Nq256
    refine own_ts (T' := T256) (g' := (mkF m 296 #[.val (.int p1), .val (.int p2), .val (.int p3), .val (.int (19 : Int32)), .val (.int nn), .val (.int (2147483647 : Int32)), .val (.ref b2), .val (.ref b76), .val (.int ex)] [(.int (own_takes nn (1 : Int32) (2 : Int32)))])) st256 ?_
    refine own_st (T' := T256) (g' := (mkF m 298 #[.val (.int p1), .val (.int p2), .val (.int p3), .val (.int (19 : Int32)), .val (.int nn), .val (.int (2147483647 : Int32)), .val (.ref b2), .val (.ref b76), .val (.int ex)] [(.int ex), (.int (own_takes nn (1 : Int32) (2 : Int32)))])) (fun _ kq => XS.iload X256.here hx rfl (hb hby at_296) rfl kq) ?_
    refine own_st (T' := T256) (g' := (mkF m 301 #[.val (.int p1), .val (.int p2), .val (.int p3), .val (.int (19 : Int32)), .val (.int nn), .val (.int (2147483647 : Int32)), .val (.ref b2), .val (.ref b76), .val (.int ex)] [])) (fun _ kq => XS.icmpNo X256.here hx rfl (hb hby at_298) rfl (teq (hex.symm : (own_takes nn (1 : Int32) (2 : Int32)) = ex)).2 kq) ?_
    refine own_st (T' := T256) (g' := (mkF m 302 #[.val (.int p1), .val (.int p2), .val (.int p3), .val (.int (19 : Int32)), .val (.int nn), .val (.int (2147483647 : Int32)), .val (.ref b2), .val (.ref b76), .val (.int ex)] [(.int (1 : Int32))])) (fun _ kq => XS.iconst X256.here hx rfl (hb hby at_301) kq) ?_
    refine own_st (T' := T256) (g' := (mkF m 306 #[.val (.int p1), .val (.int p2), .val (.int p3), .val (.int (19 : Int32)), .val (.int nn), .val (.int (2147483647 : Int32)), .val (.ref b2), .val (.ref b76), .val (.int ex)] [(.int (1 : Int32))])) (fun _ kq => XS.goto X256.here hx rfl (pc0 := 302) (pc' := 306) rfl (hb hby at_302) (by decide) (by decide) kq) ?_
    refine own_out X256 Bd.notSynchronized (v := (some (.int (1 : Int32)))) (fun h => by rw [Bd.returns] at h; cases h) (fun fs hr => retN X256 hx (t := .boolean) Bd.returns (by simp) (hb hby at_306) hr) ?_ (by decide) (by decide)
    rw [hh256]
    exact ⟨rfl, N257⟩
  · have hex : ex = own_takes nn (1 : Int32) (2 : Int32) := hex
    refine own_st (T' := T151) (g' := (mkF m 288 #[.val (.int p1), .val (.int p2), .val (.int p3), .val (.int (20 : Int32)), .val (.int nn), .val (.int (2147483647 : Int32)), .val (.ref b2), .val (.ref b76), .val (.int ex)] [(.int (20 : Int32))])) (fun _ kq => XS.iloadN X151.here hx rfl (hb hby at_287) rfl kq) ?_
    have O258 : Old Z n0 h151 := ((((((((((((((((((((((((O77.ext E76).wr W80 g_b76).wr W83 g_b76).wr W87 g_b76).wr W90 g_b76).wr W93 g_b76).wr W96 g_b76).wr W99 g_b76).wr W103 g_b76).wr W106 g_b76).wr W109 g_b76).wr W112 g_b76).wr W115 g_b76).wr W119 g_b76).wr W122 g_b76).wr W125 g_b76).wr W128 g_b76).wr W131 g_b76).wr W135 g_b76).wr W138 g_b76).wr W141 g_b76).wr W144 g_b76).wr W147 g_b76).wr W151 g_b76)
    obtain ⟨_, _, ⟨T259, L259, k259, n259⟩, -, X259, ⟨Lc259, hQ259, l259, y259, z259⟩, st259⟩ := Jvm.LawKit.callS X151 hx (y := (⟨"com/example/table_rules/tablerules/engine/FunctionTakesPinLaw", "constant", "(I)Lcom/example/table_rules/tablerules/engine/Function;"⟩ : MethodName)) hown (mvT hZ (hw _ (List.mem_of_getElem? (i := 2) rfl))) (mvT hZ (hw _ (List.mem_of_getElem? (i := 3) rfl))) (mvT hZ (hw _ (List.mem_of_getElem? (i := 4) rfl))) (mvT hZ (hw _ (List.mem_of_getElem? (i := 5) rfl))) (by decide) (backOf (W := 0) (rmk20 l Z a0 hw [] w_TO_DATE h151 n0 O258 S_TO_DATE) hZ (hw _ (List.mem_of_getElem? (i := 5) rfl)) (hw _ (List.mem_of_getElem? (i := 4) rfl)) (by decide) (by decide)) (g := (mkF m 288 #[.val (.int p1), .val (.int p2), .val (.int p3), .val (.int (20 : Int32)), .val (.int nn), .val (.int (2147483647 : Int32)), .val (.ref b2), .val (.ref b76), .val (.int ex)] [(.int (20 : Int32))])) rfl (by rw [hml]; rfl) (argsL := [(.int (20 : Int32))]) (rest := []) (lenOf pd_I_Lcom_example_table_rules_tablerules_engine_Function_319 rfl) rfl (by show 2 * 0 + _ ≤ _; exact Nat.le_of_eq rfl) (hb hby at_288) (fun _ _ => ⟨rfl, e151, (by decide : 2 + 0 ≤ _), (by decide : 46 + 0 ≤ _)⟩)
    dsimp only [Pt.U, Pt.locs, Pt.cells, Pt.slots] at X259 l259 y259 z259 st259 hQ259
    subst l259 y259 z259
    obtain ⟨rfl, Nq259, hh259⟩ := hQ259
    have N260 := Fr.app N152 Nq259
    refine own_st (T' := T259) (g' := (mkF m 291 #[.val (.int p1), .val (.int p2), .val (.int p3), .val (.int (20 : Int32)), .val (.int nn), .val (.int (2147483647 : Int32)), .val (.ref b2), .val (.ref b76), .val (.int ex)] [(.ref w_TO_DATE)])) st259 ?_
    refine own_st (T' := T259) (g' := (mkF m 293 #[.val (.int p1), .val (.int p2), .val (.int p3), .val (.int (20 : Int32)), .val (.int nn), .val (.int (2147483647 : Int32)), .val (.ref b2), .val (.ref b76), .val (.int ex)] [(.int nn), (.ref w_TO_DATE)])) (fun _ kq => XS.iload X259.here hx rfl (hb hby at_291) rfl kq) ?_
    obtain ⟨cq261, kq261, q261a, q261b, q261c⟩ := isOf hZ hh259 (E_TO_DATE.ext O258.2)
    obtain ⟨_, _, ⟨T261, L261, k261, n261⟩, -, X261, ⟨Lc261, hQ261, l261, y261, z261⟩, st261⟩ := X259.virtualBack hx (y := (⟨"com/example/table_rules/tablerules/engine/Function", "takes", "(I)Z"⟩ : MethodName)) (z := (⟨"com/example/table_rules/tablerules/engine/Function", "takes", "(I)Z"⟩ : MethodName)) hown (mvT hZ (hw _ (List.mem_of_getElem? (i := 9) rfl))) (mvT hZ (hw _ (List.mem_of_getElem? (i := 10) rfl))) (notFace_of_selects (args := #[]) (mvT hZ (hw _ (List.mem_of_getElem? (i := 110) rfl)))) (mvT hZ (hw _ (List.mem_of_getElem? (i := 110) rfl))) (mvT hZ (hw _ (List.mem_of_getElem? (i := 11) rfl))) (by decide) (backOf (W := 0) (rmtakes l Z a0 hw [] w_TO_DATE nn (1 : Int32) (2 : Int32) h151 n0 O258 (L_TO_DATE.ext O258.2) (H_TO_DATE.ext O258.2)) hZ (hw _ (List.mem_of_getElem? (i := 13) rfl)) (hw _ (List.mem_of_getElem? (i := 7) rfl)) (by decide) (by decide)) q261a q261c (g := (mkF m 293 #[.val (.int p1), .val (.int p2), .val (.int p3), .val (.int (20 : Int32)), .val (.int nn), .val (.int (2147483647 : Int32)), .val (.ref b2), .val (.ref b76), .val (.int ex)] [(.int nn), (.ref w_TO_DATE)])) rfl (by rw [hml]; rfl) (Steps.refl _) (argsL := [(.int nn)]) (rest := []) (lenOf pd_I_Z_244 rfl) rfl (by show 2 * 0 + _ ≤ _; exact Nat.le_of_eq rfl) (hb hby at_293) (fun _ _ => ⟨rfl, hh259, (by decide : 2 + 0 ≤ _), (by decide : 46 + 0 ≤ _)⟩)
    dsimp only [Pt.U, Pt.locs, Pt.cells, Pt.slots] at X261 l261 y261 z261 st261 hQ261
    subst l261 y261 z261
    obtain ⟨rfl, Nq261, hh261⟩ := hQ261
    have N262 := Fr.app N260 Nq261
    refine own_ts (T' := T261) (g' := (mkF m 296 #[.val (.int p1), .val (.int p2), .val (.int p3), .val (.int (20 : Int32)), .val (.int nn), .val (.int (2147483647 : Int32)), .val (.ref b2), .val (.ref b76), .val (.int ex)] [(.int (own_takes nn (1 : Int32) (2 : Int32)))])) st261 ?_
    refine own_st (T' := T261) (g' := (mkF m 298 #[.val (.int p1), .val (.int p2), .val (.int p3), .val (.int (20 : Int32)), .val (.int nn), .val (.int (2147483647 : Int32)), .val (.ref b2), .val (.ref b76), .val (.int ex)] [(.int ex), (.int (own_takes nn (1 : Int32) (2 : Int32)))])) (fun _ kq => XS.iload X261.here hx rfl (hb hby at_296) rfl kq) ?_
    refine own_st (T' := T261) (g' := (mkF m 301 #[.val (.int p1), .val (.int p2), .val (.int p3), .val (.int (20 : Int32)), .val (.int nn), .val (.int (2147483647 : Int32)), .val (.ref b2), .val (.ref b76), .val (.int ex)] [])) (fun _ kq => XS.icmpNo X261.here hx rfl (hb hby at_298) rfl (teq (hex.symm : (own_takes nn (1 : Int32) (2 : Int32)) = ex)).2 kq) ?_
    refine own_st (T' := T261) (g' := (mkF m 302 #[.val (.int p1), .val (.int p2), .val (.int p3), .val (.int (20 : Int32)), .val (.int nn), .val (.int (2147483647 : Int32)), .val (.ref b2), .val (.ref b76), .val (.int ex)] [(.int (1 : Int32))])) (fun _ kq => XS.iconst X261.here hx rfl (hb hby at_301) kq) ?_
    refine own_st (T' := T261) (g' := (mkF m 306 #[.val (.int p1), .val (.int p2), .val (.int p3), .val (.int (20 : Int32)), .val (.int nn), .val (.int (2147483647 : Int32)), .val (.ref b2), .val (.ref b76), .val (.int ex)] [(.int (1 : Int32))])) (fun _ kq => XS.goto X261.here hx rfl (pc0 := 302) (pc' := 306) rfl (hb hby at_302) (by decide) (by decide) kq) ?_
    refine own_out X261 Bd.notSynchronized (v := (some (.int (1 : Int32)))) (fun h => by rw [Bd.returns] at h; cases h) (fun fs hr => retN X261 hx (t := .boolean) Bd.returns (by simp) (hb hby at_306) hr) ?_ (by decide) (by decide)
    rw [hh261]
    exact ⟨rfl, N262⟩
  · have hex : ex = own_takes nn (1 : Int32) (2 : Int32) := hex
    refine own_st (T' := T151) (g' := (mkF m 288 #[.val (.int p1), .val (.int p2), .val (.int p3), .val (.int (21 : Int32)), .val (.int nn), .val (.int (2147483647 : Int32)), .val (.ref b2), .val (.ref b76), .val (.int ex)] [(.int (21 : Int32))])) (fun _ kq => XS.iloadN X151.here hx rfl (hb hby at_287) rfl kq) ?_
    have O263 : Old Z n0 h151 := ((((((((((((((((((((((((O77.ext E76).wr W80 g_b76).wr W83 g_b76).wr W87 g_b76).wr W90 g_b76).wr W93 g_b76).wr W96 g_b76).wr W99 g_b76).wr W103 g_b76).wr W106 g_b76).wr W109 g_b76).wr W112 g_b76).wr W115 g_b76).wr W119 g_b76).wr W122 g_b76).wr W125 g_b76).wr W128 g_b76).wr W131 g_b76).wr W135 g_b76).wr W138 g_b76).wr W141 g_b76).wr W144 g_b76).wr W147 g_b76).wr W151 g_b76)
    obtain ⟨_, _, ⟨T264, L264, k264, n264⟩, -, X264, ⟨Lc264, hQ264, l264, y264, z264⟩, st264⟩ := Jvm.LawKit.callS X151 hx (y := (⟨"com/example/table_rules/tablerules/engine/FunctionTakesPinLaw", "constant", "(I)Lcom/example/table_rules/tablerules/engine/Function;"⟩ : MethodName)) hown (mvT hZ (hw _ (List.mem_of_getElem? (i := 2) rfl))) (mvT hZ (hw _ (List.mem_of_getElem? (i := 3) rfl))) (mvT hZ (hw _ (List.mem_of_getElem? (i := 4) rfl))) (mvT hZ (hw _ (List.mem_of_getElem? (i := 5) rfl))) (by decide) (backOf (W := 0) (rmk21 l Z a0 hw [] w_TO_NUMBER h151 n0 O263 S_TO_NUMBER) hZ (hw _ (List.mem_of_getElem? (i := 5) rfl)) (hw _ (List.mem_of_getElem? (i := 4) rfl)) (by decide) (by decide)) (g := (mkF m 288 #[.val (.int p1), .val (.int p2), .val (.int p3), .val (.int (21 : Int32)), .val (.int nn), .val (.int (2147483647 : Int32)), .val (.ref b2), .val (.ref b76), .val (.int ex)] [(.int (21 : Int32))])) rfl (by rw [hml]; rfl) (argsL := [(.int (21 : Int32))]) (rest := []) (lenOf pd_I_Lcom_example_table_rules_tablerules_engine_Function_319 rfl) rfl (by show 2 * 0 + _ ≤ _; exact Nat.le_of_eq rfl) (hb hby at_288) (fun _ _ => ⟨rfl, e151, (by decide : 2 + 0 ≤ _), (by decide : 46 + 0 ≤ _)⟩)
    dsimp only [Pt.U, Pt.locs, Pt.cells, Pt.slots] at X264 l264 y264 z264 st264 hQ264
    subst l264 y264 z264
    obtain ⟨rfl, Nq264, hh264⟩ := hQ264
    have N265 := Fr.app N152 Nq264
    refine own_st (T' := T264) (g' := (mkF m 291 #[.val (.int p1), .val (.int p2), .val (.int p3), .val (.int (21 : Int32)), .val (.int nn), .val (.int (2147483647 : Int32)), .val (.ref b2), .val (.ref b76), .val (.int ex)] [(.ref w_TO_NUMBER)])) st264 ?_
    refine own_st (T' := T264) (g' := (mkF m 293 #[.val (.int p1), .val (.int p2), .val (.int p3), .val (.int (21 : Int32)), .val (.int nn), .val (.int (2147483647 : Int32)), .val (.ref b2), .val (.ref b76), .val (.int ex)] [(.int nn), (.ref w_TO_NUMBER)])) (fun _ kq => XS.iload X264.here hx rfl (hb hby at_291) rfl kq) ?_
    obtain ⟨cq266, kq266, q266a, q266b, q266c⟩ := isOf hZ hh264 (E_TO_NUMBER.ext O263.2)
    obtain ⟨_, _, ⟨T266, L266, k266, n266⟩, -, X266, ⟨Lc266, hQ266, l266, y266, z266⟩, st266⟩ := X264.virtualBack hx (y := (⟨"com/example/table_rules/tablerules/engine/Function", "takes", "(I)Z"⟩ : MethodName)) (z := (⟨"com/example/table_rules/tablerules/engine/Function", "takes", "(I)Z"⟩ : MethodName)) hown (mvT hZ (hw _ (List.mem_of_getElem? (i := 9) rfl))) (mvT hZ (hw _ (List.mem_of_getElem? (i := 10) rfl))) (notFace_of_selects (args := #[]) (mvT hZ (hw _ (List.mem_of_getElem? (i := 61) rfl)))) (mvT hZ (hw _ (List.mem_of_getElem? (i := 61) rfl))) (mvT hZ (hw _ (List.mem_of_getElem? (i := 11) rfl))) (by decide) (backOf (W := 0) (rmtakes l Z a0 hw [] w_TO_NUMBER nn (1 : Int32) (2 : Int32) h151 n0 O263 (L_TO_NUMBER.ext O263.2) (H_TO_NUMBER.ext O263.2)) hZ (hw _ (List.mem_of_getElem? (i := 13) rfl)) (hw _ (List.mem_of_getElem? (i := 7) rfl)) (by decide) (by decide)) q266a q266c (g := (mkF m 293 #[.val (.int p1), .val (.int p2), .val (.int p3), .val (.int (21 : Int32)), .val (.int nn), .val (.int (2147483647 : Int32)), .val (.ref b2), .val (.ref b76), .val (.int ex)] [(.int nn), (.ref w_TO_NUMBER)])) rfl (by rw [hml]; rfl) (Steps.refl _) (argsL := [(.int nn)]) (rest := []) (lenOf pd_I_Z_244 rfl) rfl (by show 2 * 0 + _ ≤ _; exact Nat.le_of_eq rfl) (hb hby at_293) (fun _ _ => ⟨rfl, hh264, (by decide : 2 + 0 ≤ _), (by decide : 46 + 0 ≤ _)⟩)
    dsimp only [Pt.U, Pt.locs, Pt.cells, Pt.slots] at X266 l266 y266 z266 st266 hQ266
    subst l266 y266 z266
    obtain ⟨rfl, Nq266, hh266⟩ := hQ266
    have N267 := Fr.app N265 Nq266
    refine own_ts (T' := T266) (g' := (mkF m 296 #[.val (.int p1), .val (.int p2), .val (.int p3), .val (.int (21 : Int32)), .val (.int nn), .val (.int (2147483647 : Int32)), .val (.ref b2), .val (.ref b76), .val (.int ex)] [(.int (own_takes nn (1 : Int32) (2 : Int32)))])) st266 ?_
    refine own_st (T' := T266) (g' := (mkF m 298 #[.val (.int p1), .val (.int p2), .val (.int p3), .val (.int (21 : Int32)), .val (.int nn), .val (.int (2147483647 : Int32)), .val (.ref b2), .val (.ref b76), .val (.int ex)] [(.int ex), (.int (own_takes nn (1 : Int32) (2 : Int32)))])) (fun _ kq => XS.iload X266.here hx rfl (hb hby at_296) rfl kq) ?_
    refine own_st (T' := T266) (g' := (mkF m 301 #[.val (.int p1), .val (.int p2), .val (.int p3), .val (.int (21 : Int32)), .val (.int nn), .val (.int (2147483647 : Int32)), .val (.ref b2), .val (.ref b76), .val (.int ex)] [])) (fun _ kq => XS.icmpNo X266.here hx rfl (hb hby at_298) rfl (teq (hex.symm : (own_takes nn (1 : Int32) (2 : Int32)) = ex)).2 kq) ?_
    refine own_st (T' := T266) (g' := (mkF m 302 #[.val (.int p1), .val (.int p2), .val (.int p3), .val (.int (21 : Int32)), .val (.int nn), .val (.int (2147483647 : Int32)), .val (.ref b2), .val (.ref b76), .val (.int ex)] [(.int (1 : Int32))])) (fun _ kq => XS.iconst X266.here hx rfl (hb hby at_301) kq) ?_
    refine own_st (T' := T266) (g' := (mkF m 306 #[.val (.int p1), .val (.int p2), .val (.int p3), .val (.int (21 : Int32)), .val (.int nn), .val (.int (2147483647 : Int32)), .val (.ref b2), .val (.ref b76), .val (.int ex)] [(.int (1 : Int32))])) (fun _ kq => XS.goto X266.here hx rfl (pc0 := 302) (pc' := 306) rfl (hb hby at_302) (by decide) (by decide) kq) ?_
    refine own_out X266 Bd.notSynchronized (v := (some (.int (1 : Int32)))) (fun h => by rw [Bd.returns] at h; cases h) (fun fs hr => retN X266 hx (t := .boolean) Bd.returns (by simp) (hb hby at_306) hr) ?_ (by decide) (by decide)
    rw [hh266]
    exact ⟨rfl, N267⟩
  · have hex : ex = own_takes nn (2 : Int32) (2 : Int32) := hex
    refine own_st (T' := T151) (g' := (mkF m 288 #[.val (.int p1), .val (.int p2), .val (.int p3), .val (.int (22 : Int32)), .val (.int nn), .val (.int (2147483647 : Int32)), .val (.ref b2), .val (.ref b76), .val (.int ex)] [(.int (22 : Int32))])) (fun _ kq => XS.iloadN X151.here hx rfl (hb hby at_287) rfl kq) ?_
    have O268 : Old Z n0 h151 := ((((((((((((((((((((((((O77.ext E76).wr W80 g_b76).wr W83 g_b76).wr W87 g_b76).wr W90 g_b76).wr W93 g_b76).wr W96 g_b76).wr W99 g_b76).wr W103 g_b76).wr W106 g_b76).wr W109 g_b76).wr W112 g_b76).wr W115 g_b76).wr W119 g_b76).wr W122 g_b76).wr W125 g_b76).wr W128 g_b76).wr W131 g_b76).wr W135 g_b76).wr W138 g_b76).wr W141 g_b76).wr W144 g_b76).wr W147 g_b76).wr W151 g_b76)
    obtain ⟨_, _, ⟨T269, L269, k269, n269⟩, -, X269, ⟨Lc269, hQ269, l269, y269, z269⟩, st269⟩ := Jvm.LawKit.callS X151 hx (y := (⟨"com/example/table_rules/tablerules/engine/FunctionTakesPinLaw", "constant", "(I)Lcom/example/table_rules/tablerules/engine/Function;"⟩ : MethodName)) hown (mvT hZ (hw _ (List.mem_of_getElem? (i := 2) rfl))) (mvT hZ (hw _ (List.mem_of_getElem? (i := 3) rfl))) (mvT hZ (hw _ (List.mem_of_getElem? (i := 4) rfl))) (mvT hZ (hw _ (List.mem_of_getElem? (i := 5) rfl))) (by decide) (backOf (W := 0) (rmk22 l Z a0 hw [] w_MOD h151 n0 O268 S_MOD) hZ (hw _ (List.mem_of_getElem? (i := 5) rfl)) (hw _ (List.mem_of_getElem? (i := 4) rfl)) (by decide) (by decide)) (g := (mkF m 288 #[.val (.int p1), .val (.int p2), .val (.int p3), .val (.int (22 : Int32)), .val (.int nn), .val (.int (2147483647 : Int32)), .val (.ref b2), .val (.ref b76), .val (.int ex)] [(.int (22 : Int32))])) rfl (by rw [hml]; rfl) (argsL := [(.int (22 : Int32))]) (rest := []) (lenOf pd_I_Lcom_example_table_rules_tablerules_engine_Function_319 rfl) rfl (by show 2 * 0 + _ ≤ _; exact Nat.le_of_eq rfl) (hb hby at_288) (fun _ _ => ⟨rfl, e151, (by decide : 2 + 0 ≤ _), (by decide : 46 + 0 ≤ _)⟩)
    dsimp only [Pt.U, Pt.locs, Pt.cells, Pt.slots] at X269 l269 y269 z269 st269 hQ269
    subst l269 y269 z269
    obtain ⟨rfl, Nq269, hh269⟩ := hQ269
    have N270 := Fr.app N152 Nq269
    refine own_st (T' := T269) (g' := (mkF m 291 #[.val (.int p1), .val (.int p2), .val (.int p3), .val (.int (22 : Int32)), .val (.int nn), .val (.int (2147483647 : Int32)), .val (.ref b2), .val (.ref b76), .val (.int ex)] [(.ref w_MOD)])) st269 ?_
    refine own_st (T' := T269) (g' := (mkF m 293 #[.val (.int p1), .val (.int p2), .val (.int p3), .val (.int (22 : Int32)), .val (.int nn), .val (.int (2147483647 : Int32)), .val (.ref b2), .val (.ref b76), .val (.int ex)] [(.int nn), (.ref w_MOD)])) (fun _ kq => XS.iload X269.here hx rfl (hb hby at_291) rfl kq) ?_
    obtain ⟨cq271, kq271, q271a, q271b, q271c⟩ := isOf hZ hh269 (E_MOD.ext O268.2)
    obtain ⟨_, _, ⟨T271, L271, k271, n271⟩, -, X271, ⟨Lc271, hQ271, l271, y271, z271⟩, st271⟩ := X269.virtualBack hx (y := (⟨"com/example/table_rules/tablerules/engine/Function", "takes", "(I)Z"⟩ : MethodName)) (z := (⟨"com/example/table_rules/tablerules/engine/Function", "takes", "(I)Z"⟩ : MethodName)) hown (mvT hZ (hw _ (List.mem_of_getElem? (i := 9) rfl))) (mvT hZ (hw _ (List.mem_of_getElem? (i := 10) rfl))) (notFace_of_selects (args := #[]) (mvT hZ (hw _ (List.mem_of_getElem? (i := 86) rfl)))) (mvT hZ (hw _ (List.mem_of_getElem? (i := 86) rfl))) (mvT hZ (hw _ (List.mem_of_getElem? (i := 11) rfl))) (by decide) (backOf (W := 0) (rmtakes l Z a0 hw [] w_MOD nn (2 : Int32) (2 : Int32) h151 n0 O268 (L_MOD.ext O268.2) (H_MOD.ext O268.2)) hZ (hw _ (List.mem_of_getElem? (i := 13) rfl)) (hw _ (List.mem_of_getElem? (i := 7) rfl)) (by decide) (by decide)) q271a q271c (g := (mkF m 293 #[.val (.int p1), .val (.int p2), .val (.int p3), .val (.int (22 : Int32)), .val (.int nn), .val (.int (2147483647 : Int32)), .val (.ref b2), .val (.ref b76), .val (.int ex)] [(.int nn), (.ref w_MOD)])) rfl (by rw [hml]; rfl) (Steps.refl _) (argsL := [(.int nn)]) (rest := []) (lenOf pd_I_Z_244 rfl) rfl (by show 2 * 0 + _ ≤ _; exact Nat.le_of_eq rfl) (hb hby at_293) (fun _ _ => ⟨rfl, hh269, (by decide : 2 + 0 ≤ _), (by decide : 46 + 0 ≤ _)⟩)
    dsimp only [Pt.U, Pt.locs, Pt.cells, Pt.slots] at X271 l271 y271 z271 st271 hQ271
    subst l271 y271 z271
    obtain ⟨rfl, Nq271, hh271⟩ := hQ271
    have N272 := Fr.app N270 Nq271
    refine own_ts (T' := T271) (g' := (mkF m 296 #[.val (.int p1), .val (.int p2), .val (.int p3), .val (.int (22 : Int32)), .val (.int nn), .val (.int (2147483647 : Int32)), .val (.ref b2), .val (.ref b76), .val (.int ex)] [(.int (own_takes nn (2 : Int32) (2 : Int32)))])) st271 ?_
    refine own_st (T' := T271) (g' := (mkF m 298 #[.val (.int p1), .val (.int p2), .val (.int p3), .val (.int (22 : Int32)), .val (.int nn), .val (.int (2147483647 : Int32)), .val (.ref b2), .val (.ref b76), .val (.int ex)] [(.int ex), (.int (own_takes nn (2 : Int32) (2 : Int32)))])) (fun _ kq => XS.iload X271.here hx rfl (hb hby at_296) rfl kq) ?_
    refine own_st (T' := T271) (g' := (mkF m 301 #[.val (.int p1), .val (.int p2), .val (.int p3), .val (.int (22 : Int32)), .val (.int nn), .val (.int (2147483647 : Int32)), .val (.ref b2), .val (.ref b76), .val (.int ex)] [])) (fun _ kq => XS.icmpNo X271.here hx rfl (hb hby at_298) rfl (teq (hex.symm : (own_takes nn (2 : Int32) (2 : Int32)) = ex)).2 kq) ?_
    refine own_st (T' := T271) (g' := (mkF m 302 #[.val (.int p1), .val (.int p2), .val (.int p3), .val (.int (22 : Int32)), .val (.int nn), .val (.int (2147483647 : Int32)), .val (.ref b2), .val (.ref b76), .val (.int ex)] [(.int (1 : Int32))])) (fun _ kq => XS.iconst X271.here hx rfl (hb hby at_301) kq) ?_
    refine own_st (T' := T271) (g' := (mkF m 306 #[.val (.int p1), .val (.int p2), .val (.int p3), .val (.int (22 : Int32)), .val (.int nn), .val (.int (2147483647 : Int32)), .val (.ref b2), .val (.ref b76), .val (.int ex)] [(.int (1 : Int32))])) (fun _ kq => XS.goto X271.here hx rfl (pc0 := 302) (pc' := 306) rfl (hb hby at_302) (by decide) (by decide) kq) ?_
    refine own_out X271 Bd.notSynchronized (v := (some (.int (1 : Int32)))) (fun h => by rw [Bd.returns] at h; cases h) (fun fs hr => retN X271 hx (t := .boolean) Bd.returns (by simp) (hb hby at_306) hr) ?_ (by decide) (by decide)
    rw [hh271]
    exact ⟨rfl, N272⟩
set_option maxRecDepth 65536 in
set_option maxHeartbeats 40000000 in
theorem comes_1 {Post : Tables → Env → Array Value → State → Outcome → State → Prop} (hpost : ∀ tb e args s v u, (limb_1_1.after args s (.returned v) u = true ∧ limb_1_2.after args s (.returned v) u = true ∧ True) → FrameEnd s (.returned v) u (Jvm.fieldLocs frame_1_writes args s ++ Jvm.arrayLocs frame_1_arrays args s ++ Jvm.staticLocs frame_1_statics s) 16 192 → Post tb e args s (.returned v) u) :
    ArmFor flags0 classFile x code maxLocals ret World_1 tables_1 room_1 Calls_1 rest_1 Pre_1 Post := by
  intro l hfl _ _ p e ha hc hk s m args below hf hA hF happ hP
  obtain ⟨hcalls, hrest, hpre⟩ := hP
  obtain ⟨-, -, -, hnamed, -, -, -, hat⟩ := (Spec.applies_iff hf).mp happ
  obtain ⟨hg, hn⟩ := and_e (Cond.before_iff.mp (show (Jvm.Cond.and given_1 narrow_1).before args s = true from hpre))
  obtain ⟨hcnt, hg0⟩ := and_e hg
  obtain ⟨ha0, hg1⟩ := and_e hg0
  obtain ⟨ha1, hg2⟩ := and_e hg1
  have ha2 := hg2
  obtain ⟨w0, w1, w2, rfl⟩ : ∃ w0 w1 w2 : Value, args = #[w0, w1, w2] := by
    have hs : args.size = 3 := by simpa [Cond.value, given_1] using hcnt
    obtain ⟨L⟩ := args
    match L, hs with
    | [w0, w1, w2], _ => exact ⟨w0, w1, w2, rfl⟩
  have hw := fun d (hd : d ∈ tables_1) => atoms_spec (ws := Jvm.Cond.code x code maxLocals ret :: tables_1) hat d (List.mem_cons_of_mem _ hd)
  have hfit : Fit s := fun {y c} hc i hi => by
    obtain ⟨ha, rfl⟩ := Array.getElem?_eq_some_iff.mp hc
    have q := List.all_eq_true.mp ((Array.all_eq_true_iff_forall_mem.mp hF) _ (Array.getElem_mem ha)) i (List.mem_range.mpr hi)
    simpa [Array.getElem?_eq_getElem hi] using q
  obtain ⟨i0, ei0⟩ := is_v ha0
  obtain rfl : w0 = (.int i0) := Option.some.inj ei0
  obtain ⟨i1, ei1⟩ := is_v ha1
  obtain rfl : w1 = (.int i1) := Option.some.inj ei1
  obtain ⟨i2, ei2⟩ := is_v ha2
  obtain rfl : w2 = (.int i2) := Option.some.inj ei2
  obtain ⟨hn0, hr0⟩ := and_e hn
  obtain ⟨hn1, hr1⟩ := and_e hr0
  obtain ⟨hn2, hr2⟩ := and_e hr1
  obtain ⟨hn3, hr3⟩ := and_e hr2
  obtain ⟨hn4, hr4⟩ := and_e hr3
  obtain ⟨hn5, hr5⟩ := and_e hr4
  obtain ⟨hn6, hr6⟩ := and_e hr5
  obtain ⟨hn7, hr7⟩ := and_e hr6
  obtain ⟨hn8, hr8⟩ := and_e hr7
  obtain ⟨hn9, hr9⟩ := and_e hr8
  obtain ⟨hn10, hr10⟩ := and_e hr9
  obtain ⟨hn11, hr11⟩ := and_e hr10
  obtain ⟨hn12, hr12⟩ := and_e hr11
  obtain ⟨hn13, hr13⟩ := and_e hr12
  obtain ⟨hn14, hr14⟩ := and_e hr13
  obtain ⟨hn15, hr15⟩ := and_e hr14
  obtain ⟨hn16, hr16⟩ := and_e hr15
  obtain ⟨hn17, hr17⟩ := and_e hr16
  obtain ⟨hn18, hr18⟩ := and_e hr17
  obtain ⟨hn19, hr19⟩ := and_e hr18
  obtain ⟨hn20, hr20⟩ := and_e hr19
  obtain ⟨hn21, hr21⟩ := and_e hr20
  obtain ⟨hn22, hr22⟩ := and_e hr21
  obtain ⟨hn23, hr23⟩ := and_e hr22
  obtain ⟨hn24, hr24⟩ := and_e hr23
  obtain ⟨hn25, hr25⟩ := and_e hr24
  obtain ⟨hn26, hr26⟩ := and_e hr25
  obtain ⟨hn27, hr27⟩ := and_e hr26
  obtain ⟨hn28, hr28⟩ := and_e hr27
  obtain ⟨hn29, hr29⟩ := and_e hr28
  obtain ⟨hn30, hr30⟩ := and_e hr29
  obtain ⟨hn31, hr31⟩ := and_e hr30
  obtain ⟨hn32, hr32⟩ := and_e hr31
  obtain ⟨hn33, hr33⟩ := and_e hr32
  obtain ⟨hn34, hr34⟩ := and_e hr33
  obtain ⟨hn35, hr35⟩ := and_e hr34
  obtain ⟨hn36, hr36⟩ := and_e hr35
  obtain ⟨hn37, hr37⟩ := and_e hr36
  obtain ⟨hn38, hr38⟩ := and_e hr37
  obtain ⟨hn39, hr39⟩ := and_e hr38
  obtain ⟨hn40, hr40⟩ := and_e hr39
  obtain ⟨hn41, hr41⟩ := and_e hr40
  obtain ⟨hn42, hr42⟩ := and_e hr41
  obtain ⟨hn43, hr43⟩ := and_e hr42
  obtain ⟨hn44, hr44⟩ := and_e hr43
  obtain ⟨hn45, hr45⟩ := and_e hr44
  obtain ⟨hn46, hr46⟩ := and_e hr45
  obtain ⟨hn47, hr47⟩ := and_e hr46
  obtain ⟨hn48, hr48⟩ := and_e hr47
  obtain ⟨hn49, hr49⟩ := and_e hr48
  obtain ⟨hn50, hr50⟩ := and_e hr49
  obtain ⟨hn51, hr51⟩ := and_e hr50
  obtain ⟨hn52, hr52⟩ := and_e hr51
  obtain ⟨hn53, hr53⟩ := and_e hr52
  obtain ⟨hn54, hr54⟩ := and_e hr53
  obtain ⟨hn55, hr55⟩ := and_e hr54
  obtain ⟨hn56, hr56⟩ := and_e hr55
  obtain ⟨hn57, hr57⟩ := and_e hr56
  obtain ⟨hn58, hr58⟩ := and_e hr57
  obtain ⟨hn59, hr59⟩ := and_e hr58
  obtain ⟨hn60, hr60⟩ := and_e hr59
  obtain ⟨hn61, hr61⟩ := and_e hr60
  obtain ⟨hn62, hr62⟩ := and_e hr61
  obtain ⟨hn63, hr63⟩ := and_e hr62
  obtain ⟨hn64, hr64⟩ := and_e hr63
  obtain ⟨hn65, hr65⟩ := and_e hr64
  obtain ⟨hn66, hr66⟩ := and_e hr65
  obtain ⟨hn67, hn68⟩ := and_e hr66
  obtain ⟨w_INSTR, ev_INSTR⟩ := exa_v hn0
  have E_INSTR := Exa.start ev_INSTR hn0
  have S_INSTR := Sta.start ev_INSTR (Or.inr ⟨(hw _ (List.mem_of_getElem? (i := 7) rfl)), (hw _ (List.mem_of_getElem? (i := 8) rfl))⟩)
  have L_INSTR := Fld.start ((fld_at ev_INSTR).symm.trans (own_eqInt hn1))
  have H_INSTR := Fld.start ((fld_at ev_INSTR).symm.trans (own_eqInt hn14))
  obtain ⟨w_LENGTH, ev_LENGTH⟩ := exa_v hn2
  have E_LENGTH := Exa.start ev_LENGTH hn2
  have S_LENGTH := Sta.start ev_LENGTH (Or.inr ⟨(hw _ (List.mem_of_getElem? (i := 7) rfl)), (hw _ (List.mem_of_getElem? (i := 17) rfl))⟩)
  have L_LENGTH := Fld.start ((fld_at ev_LENGTH).symm.trans (own_eqInt hn3))
  have H_LENGTH := Fld.start ((fld_at ev_LENGTH).symm.trans (own_eqInt hn4))
  obtain ⟨w_UPPER, ev_UPPER⟩ := exa_v hn23
  have E_UPPER := Exa.start ev_UPPER hn23
  have S_UPPER := Sta.start ev_UPPER (Or.inr ⟨(hw _ (List.mem_of_getElem? (i := 7) rfl)), (hw _ (List.mem_of_getElem? (i := 55) rfl))⟩)
  have L_UPPER := Fld.start ((fld_at ev_UPPER).symm.trans (own_eqInt hn24))
  have H_UPPER := Fld.start ((fld_at ev_UPPER).symm.trans (own_eqInt hn25))
  obtain ⟨w_LOWER, ev_LOWER⟩ := exa_v hn5
  have E_LOWER := Exa.start ev_LOWER hn5
  have S_LOWER := Sta.start ev_LOWER (Or.inr ⟨(hw _ (List.mem_of_getElem? (i := 7) rfl)), (hw _ (List.mem_of_getElem? (i := 23) rfl))⟩)
  have L_LOWER := Fld.start ((fld_at ev_LOWER).symm.trans (own_eqInt hn6))
  have H_LOWER := Fld.start ((fld_at ev_LOWER).symm.trans (own_eqInt hn7))
  obtain ⟨w_TRIM, ev_TRIM⟩ := exa_v hn50
  have E_TRIM := Exa.start ev_TRIM hn50
  have S_TRIM := Sta.start ev_TRIM (Or.inr ⟨(hw _ (List.mem_of_getElem? (i := 7) rfl)), (hw _ (List.mem_of_getElem? (i := 100) rfl))⟩)
  have L_TRIM := Fld.start ((fld_at ev_TRIM).symm.trans (own_eqInt hn51))
  have H_TRIM := Fld.start ((fld_at ev_TRIM).symm.trans (own_eqInt hn54))
  obtain ⟨w_LTRIM, ev_LTRIM⟩ := exa_v hn38
  have E_LTRIM := Exa.start ev_LTRIM hn38
  have S_LTRIM := Sta.start ev_LTRIM (Or.inr ⟨(hw _ (List.mem_of_getElem? (i := 7) rfl)), (hw _ (List.mem_of_getElem? (i := 80) rfl))⟩)
  have L_LTRIM := Fld.start ((fld_at ev_LTRIM).symm.trans (own_eqInt hn39))
  have H_LTRIM := Fld.start ((fld_at ev_LTRIM).symm.trans (own_eqInt hn40))
  obtain ⟨w_RTRIM, ev_RTRIM⟩ := exa_v hn48
  have E_RTRIM := Exa.start ev_RTRIM hn48
  have S_RTRIM := Sta.start ev_RTRIM (Or.inr ⟨(hw _ (List.mem_of_getElem? (i := 7) rfl)), (hw _ (List.mem_of_getElem? (i := 96) rfl))⟩)
  have L_RTRIM := Fld.start ((fld_at ev_RTRIM).symm.trans (own_eqInt hn49))
  have H_RTRIM := Fld.start ((fld_at ev_RTRIM).symm.trans (own_eqInt hn60))
  obtain ⟨w_REPLACE, ev_REPLACE⟩ := exa_v hn52
  have E_REPLACE := Exa.start ev_REPLACE hn52
  have S_REPLACE := Sta.start ev_REPLACE (Or.inr ⟨(hw _ (List.mem_of_getElem? (i := 7) rfl)), (hw _ (List.mem_of_getElem? (i := 104) rfl))⟩)
  have L_REPLACE := Fld.start ((fld_at ev_REPLACE).symm.trans (own_eqInt hn53))
  have H_REPLACE := Fld.start ((fld_at ev_REPLACE).symm.trans (own_eqInt hn59))
  obtain ⟨w_LPAD, ev_LPAD⟩ := exa_v hn10
  have E_LPAD := Exa.start ev_LPAD hn10
  have S_LPAD := Sta.start ev_LPAD (Or.inr ⟨(hw _ (List.mem_of_getElem? (i := 7) rfl)), (hw _ (List.mem_of_getElem? (i := 32) rfl))⟩)
  have L_LPAD := Fld.start ((fld_at ev_LPAD).symm.trans (own_eqInt hn11))
  have H_LPAD := Fld.start ((fld_at ev_LPAD).symm.trans (own_eqInt hn58))
  obtain ⟨w_RPAD, ev_RPAD⟩ := exa_v hn43
  have E_RPAD := Exa.start ev_RPAD hn43
  have S_RPAD := Sta.start ev_RPAD (Or.inr ⟨(hw _ (List.mem_of_getElem? (i := 7) rfl)), (hw _ (List.mem_of_getElem? (i := 89) rfl))⟩)
  have L_RPAD := Fld.start ((fld_at ev_RPAD).symm.trans (own_eqInt hn44))
  have H_RPAD := Fld.start ((fld_at ev_RPAD).symm.trans (own_eqInt hn45))
  obtain ⟨w_SUBSTR, ev_SUBSTR⟩ := exa_v hn8
  have E_SUBSTR := Exa.start ev_SUBSTR hn8
  have S_SUBSTR := Sta.start ev_SUBSTR (Or.inr ⟨(hw _ (List.mem_of_getElem? (i := 7) rfl)), (hw _ (List.mem_of_getElem? (i := 28) rfl))⟩)
  have L_SUBSTR := Fld.start ((fld_at ev_SUBSTR).symm.trans (own_eqInt hn9))
  have H_SUBSTR := Fld.start ((fld_at ev_SUBSTR).symm.trans (own_eqInt hn47))
  obtain ⟨w_ABS, ev_ABS⟩ := exa_v hn29
  have E_ABS := Exa.start ev_ABS hn29
  have S_ABS := Sta.start ev_ABS (Or.inr ⟨(hw _ (List.mem_of_getElem? (i := 7) rfl)), (hw _ (List.mem_of_getElem? (i := 65) rfl))⟩)
  have L_ABS := Fld.start ((fld_at ev_ABS).symm.trans (own_eqInt hn30))
  have H_ABS := Fld.start ((fld_at ev_ABS).symm.trans (own_eqInt hn31))
  obtain ⟨w_CEIL, ev_CEIL⟩ := exa_v hn18
  have E_CEIL := Exa.start ev_CEIL hn18
  have S_CEIL := Sta.start ev_CEIL (Or.inr ⟨(hw _ (List.mem_of_getElem? (i := 7) rfl)), (hw _ (List.mem_of_getElem? (i := 46) rfl))⟩)
  have L_CEIL := Fld.start ((fld_at ev_CEIL).symm.trans (own_eqInt hn19))
  have H_CEIL := Fld.start ((fld_at ev_CEIL).symm.trans (own_eqInt hn46))
  obtain ⟨w_FLOOR, ev_FLOOR⟩ := exa_v hn35
  have E_FLOOR := Exa.start ev_FLOOR hn35
  have S_FLOOR := Sta.start ev_FLOOR (Or.inr ⟨(hw _ (List.mem_of_getElem? (i := 7) rfl)), (hw _ (List.mem_of_getElem? (i := 75) rfl))⟩)
  have L_FLOOR := Fld.start ((fld_at ev_FLOOR).symm.trans (own_eqInt hn36))
  have H_FLOOR := Fld.start ((fld_at ev_FLOOR).symm.trans (own_eqInt hn37))
  obtain ⟨w_SIGN, ev_SIGN⟩ := exa_v hn32
  have E_SIGN := Exa.start ev_SIGN hn32
  have S_SIGN := Sta.start ev_SIGN (Or.inr ⟨(hw _ (List.mem_of_getElem? (i := 7) rfl)), (hw _ (List.mem_of_getElem? (i := 70) rfl))⟩)
  have L_SIGN := Fld.start ((fld_at ev_SIGN).symm.trans (own_eqInt hn33))
  have H_SIGN := Fld.start ((fld_at ev_SIGN).symm.trans (own_eqInt hn34))
  obtain ⟨w_ROUND, ev_ROUND⟩ := exa_v hn12
  have E_ROUND := Exa.start ev_ROUND hn12
  have S_ROUND := Sta.start ev_ROUND (Or.inr ⟨(hw _ (List.mem_of_getElem? (i := 7) rfl)), (hw _ (List.mem_of_getElem? (i := 36) rfl))⟩)
  have L_ROUND := Fld.start ((fld_at ev_ROUND).symm.trans (own_eqInt hn13))
  have H_ROUND := Fld.start ((fld_at ev_ROUND).symm.trans (own_eqInt hn63))
  obtain ⟨w_TRUNC, ev_TRUNC⟩ := exa_v hn15
  have E_TRUNC := Exa.start ev_TRUNC hn15
  have S_TRUNC := Sta.start ev_TRUNC (Or.inr ⟨(hw _ (List.mem_of_getElem? (i := 7) rfl)), (hw _ (List.mem_of_getElem? (i := 41) rfl))⟩)
  have L_TRUNC := Fld.start ((fld_at ev_TRUNC).symm.trans (own_eqInt hn16))
  have H_TRUNC := Fld.start ((fld_at ev_TRUNC).symm.trans (own_eqInt hn17))
  obtain ⟨w_GREATEST, ev_GREATEST⟩ := exa_v hn20
  have E_GREATEST := Exa.start ev_GREATEST hn20
  have S_GREATEST := Sta.start ev_GREATEST (Or.inr ⟨(hw _ (List.mem_of_getElem? (i := 7) rfl)), (hw _ (List.mem_of_getElem? (i := 50) rfl))⟩)
  have L_GREATEST := Fld.start ((fld_at ev_GREATEST).symm.trans (own_eqInt hn21))
  have H_GREATEST := Fld.start ((fld_at ev_GREATEST).symm.trans (own_eqInt hn22))
  obtain ⟨w_LEAST, ev_LEAST⟩ := exa_v hn61
  have E_LEAST := Exa.start ev_LEAST hn61
  have S_LEAST := Sta.start ev_LEAST (Or.inr ⟨(hw _ (List.mem_of_getElem? (i := 7) rfl)), (hw _ (List.mem_of_getElem? (i := 117) rfl))⟩)
  have L_LEAST := Fld.start ((fld_at ev_LEAST).symm.trans (own_eqInt hn62))
  have H_LEAST := Fld.start ((fld_at ev_LEAST).symm.trans (own_eqInt hn68))
  obtain ⟨w_TO_CHAR, ev_TO_CHAR⟩ := exa_v hn64
  have E_TO_CHAR := Exa.start ev_TO_CHAR hn64
  have S_TO_CHAR := Sta.start ev_TO_CHAR (Or.inr ⟨(hw _ (List.mem_of_getElem? (i := 7) rfl)), (hw _ (List.mem_of_getElem? (i := 122) rfl))⟩)
  have L_TO_CHAR := Fld.start ((fld_at ev_TO_CHAR).symm.trans (own_eqInt hn65))
  have H_TO_CHAR := Fld.start ((fld_at ev_TO_CHAR).symm.trans (own_eqInt hn66))
  obtain ⟨w_TO_DATE, ev_TO_DATE⟩ := exa_v hn55
  have E_TO_DATE := Exa.start ev_TO_DATE hn55
  have S_TO_DATE := Sta.start ev_TO_DATE (Or.inr ⟨(hw _ (List.mem_of_getElem? (i := 7) rfl)), (hw _ (List.mem_of_getElem? (i := 109) rfl))⟩)
  have L_TO_DATE := Fld.start ((fld_at ev_TO_DATE).symm.trans (own_eqInt hn56))
  have H_TO_DATE := Fld.start ((fld_at ev_TO_DATE).symm.trans (own_eqInt hn57))
  obtain ⟨w_TO_NUMBER, ev_TO_NUMBER⟩ := exa_v hn26
  have E_TO_NUMBER := Exa.start ev_TO_NUMBER hn26
  have S_TO_NUMBER := Sta.start ev_TO_NUMBER (Or.inr ⟨(hw _ (List.mem_of_getElem? (i := 7) rfl)), (hw _ (List.mem_of_getElem? (i := 60) rfl))⟩)
  have L_TO_NUMBER := Fld.start ((fld_at ev_TO_NUMBER).symm.trans (own_eqInt hn27))
  have H_TO_NUMBER := Fld.start ((fld_at ev_TO_NUMBER).symm.trans (own_eqInt hn28))
  obtain ⟨w_MOD, ev_MOD⟩ := exa_v hn41
  have E_MOD := Exa.start ev_MOD hn41
  have S_MOD := Sta.start ev_MOD (Or.inr ⟨(hw _ (List.mem_of_getElem? (i := 7) rfl)), (hw _ (List.mem_of_getElem? (i := 85) rfl))⟩)
  have L_MOD := Fld.start ((fld_at ev_MOD).symm.trans (own_eqInt hn42))
  have H_MOD := Fld.start ((fld_at ev_MOD).symm.trans (own_eqInt hn67))
  obtain ⟨n, o, h1, h2, h3, _, L, rfl, ⟨rfl, N⟩, hq⟩ := rm0 l s _ hw tables_1 i0 i1 i2 w_INSTR w_LENGTH w_UPPER w_LOWER w_TRIM w_LTRIM w_RTRIM w_REPLACE w_LPAD w_RPAD w_SUBSTR w_ABS w_CEIL w_FLOOR w_SIGN w_ROUND w_TRUNC w_GREATEST w_LEAST w_TO_CHAR w_TO_DATE w_TO_NUMBER w_MOD s.heap s.heap.size (Old.start s) S_INSTR E_INSTR L_INSTR H_INSTR S_LENGTH E_LENGTH L_LENGTH H_LENGTH S_UPPER E_UPPER L_UPPER H_UPPER S_LOWER E_LOWER L_LOWER H_LOWER S_TRIM E_TRIM L_TRIM H_TRIM S_LTRIM E_LTRIM L_LTRIM H_LTRIM S_RTRIM E_RTRIM L_RTRIM H_RTRIM S_REPLACE E_REPLACE L_REPLACE H_REPLACE S_LPAD E_LPAD L_LPAD H_LPAD S_RPAD E_RPAD L_RPAD H_RPAD S_SUBSTR E_SUBSTR L_SUBSTR H_SUBSTR S_ABS E_ABS L_ABS H_ABS S_CEIL E_CEIL L_CEIL H_CEIL S_FLOOR E_FLOOR L_FLOOR H_FLOOR S_SIGN E_SIGN L_SIGN H_SIGN S_ROUND E_ROUND L_ROUND H_ROUND S_TRUNC E_TRUNC L_TRUNC H_TRUNC S_GREATEST E_GREATEST L_GREATEST H_GREATEST S_LEAST E_LEAST L_LEAST H_LEAST S_TO_CHAR E_TO_CHAR L_TO_CHAR H_TO_CHAR S_TO_DATE E_TO_DATE L_TO_DATE H_TO_DATE S_TO_NUMBER E_TO_NUMBER L_TO_NUMBER H_TO_NUMBER S_MOD E_MOD L_MOD H_MOD p e ha hc hk s m _ below hf ((Spec.applies_iff_loose hf).mp happ).1 ⟨rfl, State.Warmed39.refl s, rfl⟩ trivial
  refine ⟨n, _, h1, h2, h3, hpost _ _ _ _ _ _ ⟨Cond.after_iff.mpr rfl, Cond.after_iff.mpr (eq_i res_at (Term.int_eval (1)) rfl), trivial⟩ ⟨hq.1, hq.2.1, (hq.2.2.sift fun y hy => Or.inr (N y hy)).mono (by decide) (by decide)⟩⟩
theorem main_1_1 : Claimed_1_1 := comes_1 fun _ _ _ _ _ _ h hF => ⟨h.1, hF⟩
theorem main_1_2 : Claimed_1_2 := comes_1 fun _ _ _ _ _ _ h hF => ⟨h.2.1, hF⟩
end Jvm.Pilot.@@N@@
namespace Jvm.Pilot.@@N@@
open Jvm Jvm.ClassFile Sem Op Lib Jvm.Free Jvm.Stand Jvm.Pilot.@@N@@.Jvm.D
/-! MADE BY PROGRAM (witnessworld.py) out of the Statement's table words and the real class files: 35 classes; the members and pool entries that the words name. The judged class is class 1, her method 1. -/
namespace start1
open Jvm.ClassFile
def u (s : String) : CpInfo := .utf8 (stringToUtf16 s)
/-- a pool by its gaps: so many unusable entries, then the entry; so many at the end -/
def gap : Nat → List CpInfo → List CpInfo
  | 0, r => r
  | n + 1, r => .unusable :: gap n r
def poolList (es : List (Nat × CpInfo)) (last : Nat) : List CpInfo := es.foldr (fun e r => gap e.1 (e.2 :: r)) (gap last [])
def pool (es : List (Nat × CpInfo)) (last : Nat) : Array CpInfo := ⟨poolList es last⟩
def fileOf (pool : Array CpInfo) (this : Nat) (attrs : Array Attribute := #[]) (ms : Array MethodInfo := #[]) (fl : Nat := 33) (sup : Nat := 0) (ifs : Array Nat := #[]) (fds : Array FieldInfo := #[]) : ClassFile where
  minorVersion := 0
  majorVersion := 65
  constantPool := pool
  accessFlags := fl
  thisClass := this
  superClass := sup
  interfaces := ifs
  fields := fds
  methods := ms
  attributes := attrs
def plain (name : String) (sup : Option ClassId) : Class where
  name := name
  kind := .ordinary
  loader := none
  accessFlags := 33
  super := sup
  interfaces := #[]
  cf := none
  fields := #[]
  methods := #[]
  instanceTypes := #[]
  staticTypes := #[]
  resolved := #[]
  callSites := []
  init := .initialized
  statics := none
  mirror := none

def pool0 : Array CpInfo := pool [(5, u "<init>"), (0, u "()V"), (1, .class_ 10), (1, u "java/lang/Object")] 113

def k0m0 : Method := { name := "<init>", desc := "()V", sig := { parameters := [], returnType := none }, accessFlags := 1, code := none }
/-- java/lang/Object -/
def k0 : Class := { plain "java/lang/Object" none with
  accessFlags := 33
  interfaces := #[]
  cf := some (fileOf pool0 8 #[] #[{ accessFlags := 1, nameIndex := 5, descriptorIndex := 6, attributes := #[] }] 33 0 #[] #[])
  fields := #[]
  methods := #[k0m0]
  instanceTypes := #[]
  staticTypes := #[]
  resolved := Array.replicate 124 none
  statics := none }

def pool1 : Array CpInfo := pool [(2, .class_ 4), (1, u "java/lang/Object"), (0, u "<init>"), (0, u "()V"), (0, .integer 2147483647), (2, .methodref 11 12), (0, .class_ 13), (0, .nameAndType 14 15), (0, u "com/example/table_rules/tablerules/engine/FunctionTakesPinLaw"), (0, u "constant"), (0, u "(I)Lcom/example/table_rules/tablerules/engine/Function;"), (0, .methodref 17 18), (0, .class_ 19), (0, .nameAndType 20 21), (0, u "com/example/table_rules/tablerules/engine/Function"), (0, u "takes"), (0, u "(I)Z"), (0, .fieldref 17 23), (0, .nameAndType 24 25), (0, u "INSTR"), (0, u "Lcom/example/table_rules/tablerules/engine/Function;"), (0, .fieldref 17 27), (0, .nameAndType 28 25), (0, u "LENGTH"), (0, .fieldref 17 30), (0, .nameAndType 31 25), (0, u "UPPER"), (0, .fieldref 17 33), (0, .nameAndType 34 25), (0, u "LOWER"), (0, .fieldref 17 36), (0, .nameAndType 37 25), (0, u "TRIM"), (0, .fieldref 17 39), (0, .nameAndType 40 25), (0, u "LTRIM"), (0, .fieldref 17 42), (0, .nameAndType 43 25), (0, u "RTRIM"), (0, .fieldref 17 45), (0, .nameAndType 46 25), (0, u "REPLACE"), (0, .fieldref 17 48), (0, .nameAndType 49 25), (0, u "LPAD"), (0, .fieldref 17 51), (0, .nameAndType 52 25), (0, u "RPAD"), (0, .fieldref 17 54), (0, .nameAndType 55 25), (0, u "SUBSTR"), (0, .fieldref 17 57), (0, .nameAndType 58 25), (0, u "ABS"), (0, .fieldref 17 60), (0, .nameAndType 61 25), (0, u "CEIL"), (0, .fieldref 17 63), (0, .nameAndType 64 25), (0, u "FLOOR"), (0, .fieldref 17 66), (0, .nameAndType 67 25), (0, u "SIGN"), (0, .fieldref 17 69), (0, .nameAndType 70 25), (0, u "ROUND"), (0, .fieldref 17 72), (0, .nameAndType 73 25), (0, u "TRUNC"), (0, .fieldref 17 75), (0, .nameAndType 76 25), (0, u "GREATEST"), (0, .fieldref 17 78), (0, .nameAndType 79 25), (0, u "LEAST"), (0, .fieldref 17 81), (0, .nameAndType 82 25), (0, u "TO_CHAR"), (0, .fieldref 17 84), (0, .nameAndType 85 25), (0, u "TO_DATE"), (0, .fieldref 17 87), (0, .nameAndType 88 25), (0, u "TO_NUMBER"), (0, .fieldref 17 90), (0, .nameAndType 91 25), (0, u "MOD"), (2, u "law"), (0, u "(III)Z")] 5

def k1m0 : Method := { name := "<init>", desc := "()V", sig := { parameters := [], returnType := none }, accessFlags := 2, code := none }
def k1c1 : Code := { maxStack := 4, maxLocals := 9, code := code, exceptionTable := #[], attributes := #[] }
def k1m1 : Method := { name := "law", desc := "(III)Z", sig := { parameters := [.int, .int, .int], returnType := some .boolean }, accessFlags := 9, code := some k1c1 }
def k1c2 : Code := { maxStack := 1, maxLocals := 1, code := method_3_code, exceptionTable := #[], attributes := #[] }
def k1m2 : Method := { name := "constant", desc := "(I)Lcom/example/table_rules/tablerules/engine/Function;", sig := { parameters := [.int], returnType := some (.object "com/example/table_rules/tablerules/engine/Function") }, accessFlags := 10, code := some k1c2 }
/-- com/example/table_rules/tablerules/engine/FunctionTakesPinLaw -/
def k1 : Class := { plain "com/example/table_rules/tablerules/engine/FunctionTakesPinLaw" (some 0) with
  accessFlags := 49
  interfaces := #[]
  cf := some (fileOf pool1 11 #[] #[{ accessFlags := 2, nameIndex := 5, descriptorIndex := 6, attributes := #[] }, { accessFlags := 9, nameIndex := 94, descriptorIndex := 95, attributes := #[] }, { accessFlags := 10, nameIndex := 14, descriptorIndex := 15, attributes := #[] }] 49 2 #[] #[])
  fields := #[]
  methods := #[k1m0, k1m1, k1m2]
  instanceTypes := #[]
  staticTypes := #[]
  resolved := Array.replicate 101 none
  statics := none }

def pool2 : Array CpInfo := pool [(1, .class_ 2), (0, u "java/lang/constant/Constable"), (0, .class_ 4), (0, u "java/lang/Object")] 6

/-- java/lang/constant/Constable -/
def k2 : Class := { plain "java/lang/constant/Constable" (some 0) with
  accessFlags := 1537
  interfaces := #[]
  cf := some (fileOf pool2 1 #[] #[] 1537 3 #[] #[])
  fields := #[]
  methods := #[]
  instanceTypes := #[]
  staticTypes := #[]
  resolved := Array.replicate 11 none
  statics := none }

def pool3 : Array CpInfo := pool [(1, .class_ 2), (0, u "java/lang/Comparable"), (0, .class_ 4), (0, u "java/lang/Object")] 7

/-- java/lang/Comparable -/
def k3 : Class := { plain "java/lang/Comparable" (some 0) with
  accessFlags := 1537
  interfaces := #[]
  cf := some (fileOf pool3 1 #[] #[] 1537 3 #[] #[])
  fields := #[]
  methods := #[]
  instanceTypes := #[]
  staticTypes := #[]
  resolved := Array.replicate 12 none
  statics := none }

def pool4 : Array CpInfo := pool [(1, .class_ 2), (0, u "java/io/Serializable"), (0, .class_ 4), (0, u "java/lang/Object")] 2

/-- java/io/Serializable -/
def k4 : Class := { plain "java/io/Serializable" (some 0) with
  accessFlags := 1537
  interfaces := #[]
  cf := some (fileOf pool4 1 #[] #[] 1537 3 #[] #[])
  fields := #[]
  methods := #[]
  instanceTypes := #[]
  staticTypes := #[]
  resolved := Array.replicate 7 none
  statics := none }

def pool5 : Array CpInfo := pool [(2, .class_ 4), (1, u "java/lang/Enum"), (0, u "name"), (0, u "Ljava/lang/String;"), (2, u "ordinal"), (0, u "I"), (1, .class_ 14), (1, u "java/lang/Object"), (4, u "hash"), (86, .class_ 108), (1, u "java/lang/Enum$EnumDesc"), (2, .class_ 112), (0, u "java/lang/constant/Constable"), (0, .class_ 114), (0, u "java/lang/Comparable"), (0, .class_ 116), (0, u "java/io/Serializable")] 87

/-- java/lang/Enum -/
def k5 : Class := { plain "java/lang/Enum" (some 0) with
  accessFlags := 1057
  interfaces := #[2, 3, 4]
  cf := some (fileOf pool5 2 #[.nestMembers #[106]] #[] 1057 12 #[111, 113, 115] #[{ accessFlags := 18, nameIndex := 5, descriptorIndex := 6, attributes := #[] }, { accessFlags := 18, nameIndex := 9, descriptorIndex := 10, attributes := #[] }, { accessFlags := 2, nameIndex := 19, descriptorIndex := 10, attributes := #[] }])
  fields := #[{ name := "name", type := (.object "java/lang/String"), accessFlags := 18, slot := 0, constantValue := 0 }, { name := "ordinal", type := .int, accessFlags := 18, slot := 1, constantValue := 0 }, { name := "hash", type := .int, accessFlags := 2, slot := 2, constantValue := 0 }]
  methods := #[]
  instanceTypes := #[(.object "java/lang/String"), .int, .int]
  staticTypes := #[]
  resolved := Array.replicate 204 none
  statics := none }

def pool6 : Array CpInfo := pool [(1, .class_ 2), (0, u "com/example/table_rules/tablerules/engine/Function"), (2, u "INSTR"), (0, u "Lcom/example/table_rules/tablerules/engine/Function;"), (2, u "LENGTH"), (2, u "UPPER"), (2, u "LOWER"), (2, u "TRIM"), (2, u "LTRIM"), (2, u "RTRIM"), (2, u "REPLACE"), (2, u "LPAD"), (2, u "RPAD"), (2, u "SUBSTR"), (2, u "ABS"), (2, u "CEIL"), (2, u "FLOOR"), (2, u "SIGN"), (2, u "ROUND"), (2, u "TRUNC"), (2, u "GREATEST"), (2, u "LEAST"), (2, u "TO_CHAR"), (2, u "TO_DATE"), (2, u "TO_NUMBER"), (2, u "MOD"), (2, u "$VALUES"), (0, u "[Lcom/example/table_rules/tablerules/engine/Function;"), (6, .class_ 85), (1, u "java/lang/Enum"), (9, .fieldref 1 96), (0, .nameAndType 97 98), (0, u "minArguments"), (0, u "I"), (0, .fieldref 1 100), (0, .nameAndType 101 98), (0, u "maxArguments"), (2, u "reads"), (0, u "[Lcom/example/table_rules/tablerules/engine/Function$Read;"), (30, .class_ 138), (1, u "com/example/table_rules/tablerules/engine/Function$Read"), (143, u "LONGEST_PADDED"), (24, u "LONGEST"), (0, u "Ljava/math/BigDecimal;"), (13, .class_ 323), (0, u "com/example/table_rules/tablerules/engine/Function$1"), (8, .class_ 333), (0, u "com/example/table_rules/tablerules/engine/Function$2"), (2, .class_ 337), (0, u "com/example/table_rules/tablerules/engine/Function$3"), (2, .class_ 341), (0, u "com/example/table_rules/tablerules/engine/Function$4"), (2, .class_ 345), (0, u "com/example/table_rules/tablerules/engine/Function$5"), (2, .class_ 349), (0, u "com/example/table_rules/tablerules/engine/Function$6"), (2, .class_ 353), (0, u "com/example/table_rules/tablerules/engine/Function$7"), (2, .class_ 357), (0, u "com/example/table_rules/tablerules/engine/Function$8"), (5, .class_ 364), (0, u "com/example/table_rules/tablerules/engine/Function$9"), (4, .class_ 370), (0, u "com/example/table_rules/tablerules/engine/Function$10"), (2, .class_ 374), (0, u "com/example/table_rules/tablerules/engine/Function$11"), (2, .class_ 378), (0, u "com/example/table_rules/tablerules/engine/Function$12"), (2, .class_ 382), (0, u "com/example/table_rules/tablerules/engine/Function$13"), (2, .class_ 386), (0, u "com/example/table_rules/tablerules/engine/Function$14"), (2, .class_ 390), (0, u "com/example/table_rules/tablerules/engine/Function$15"), (2, .class_ 394), (0, u "com/example/table_rules/tablerules/engine/Function$16"), (5, .class_ 401), (0, u "com/example/table_rules/tablerules/engine/Function$17"), (2, .class_ 405), (0, u "com/example/table_rules/tablerules/engine/Function$18"), (6, .class_ 413), (0, u "com/example/table_rules/tablerules/engine/Function$19"), (2, .class_ 417), (0, u "com/example/table_rules/tablerules/engine/Function$20"), (5, .class_ 424), (0, u "com/example/table_rules/tablerules/engine/Function$21"), (2, .class_ 428), (0, u "com/example/table_rules/tablerules/engine/Function$22"), (2, .class_ 432), (0, u "com/example/table_rules/tablerules/engine/Function$23"), (13, u "MOST_PLACES"), (2, u "BLANK"), (0, u "Ljava/lang/String;"), (9, u "takes"), (0, u "(I)Z")] 51

def k6c0 : Code := { maxStack := 2, maxLocals := 2, code := prog_78_method_6_code, exceptionTable := #[], attributes := #[] }
def k6m0 : Method := { name := "takes", desc := "(I)Z", sig := { parameters := [.int], returnType := some .boolean }, accessFlags := 1, code := some k6c0 }
/-- com/example/table_rules/tablerules/engine/Function -/
def k6 : Class := { plain "com/example/table_rules/tablerules/engine/Function" (some 5) with
  accessFlags := 17441
  interfaces := #[]
  cf := some (fileOf pool6 1 #[.nestMembers #[136, 431, 427, 423, 416, 412, 404, 400, 393, 389, 385, 381, 377, 373, 369, 363, 356, 352, 348, 344, 340, 336, 332, 322]] #[{ accessFlags := 1, nameIndex := 460, descriptorIndex := 461, attributes := #[] }] 17441 83 #[] #[{ accessFlags := 16409, nameIndex := 5, descriptorIndex := 6, attributes := #[] }, { accessFlags := 16409, nameIndex := 9, descriptorIndex := 6, attributes := #[] }, { accessFlags := 16409, nameIndex := 12, descriptorIndex := 6, attributes := #[] }, { accessFlags := 16409, nameIndex := 15, descriptorIndex := 6, attributes := #[] }, { accessFlags := 16409, nameIndex := 18, descriptorIndex := 6, attributes := #[] }, { accessFlags := 16409, nameIndex := 21, descriptorIndex := 6, attributes := #[] }, { accessFlags := 16409, nameIndex := 24, descriptorIndex := 6, attributes := #[] }, { accessFlags := 16409, nameIndex := 27, descriptorIndex := 6, attributes := #[] }, { accessFlags := 16409, nameIndex := 30, descriptorIndex := 6, attributes := #[] }, { accessFlags := 16409, nameIndex := 33, descriptorIndex := 6, attributes := #[] }, { accessFlags := 16409, nameIndex := 36, descriptorIndex := 6, attributes := #[] }, { accessFlags := 16409, nameIndex := 39, descriptorIndex := 6, attributes := #[] }, { accessFlags := 16409, nameIndex := 42, descriptorIndex := 6, attributes := #[] }, { accessFlags := 16409, nameIndex := 45, descriptorIndex := 6, attributes := #[] }, { accessFlags := 16409, nameIndex := 48, descriptorIndex := 6, attributes := #[] }, { accessFlags := 16409, nameIndex := 51, descriptorIndex := 6, attributes := #[] }, { accessFlags := 16409, nameIndex := 54, descriptorIndex := 6, attributes := #[] }, { accessFlags := 16409, nameIndex := 57, descriptorIndex := 6, attributes := #[] }, { accessFlags := 16409, nameIndex := 60, descriptorIndex := 6, attributes := #[] }, { accessFlags := 16409, nameIndex := 63, descriptorIndex := 6, attributes := #[] }, { accessFlags := 16409, nameIndex := 66, descriptorIndex := 6, attributes := #[] }, { accessFlags := 16409, nameIndex := 69, descriptorIndex := 6, attributes := #[] }, { accessFlags := 16409, nameIndex := 72, descriptorIndex := 6, attributes := #[] }, { accessFlags := 26, nameIndex := 307, descriptorIndex := 308, attributes := #[] }, { accessFlags := 26, nameIndex := 282, descriptorIndex := 98, attributes := #[] }, { accessFlags := 26, nameIndex := 446, descriptorIndex := 98, attributes := #[] }, { accessFlags := 26, nameIndex := 449, descriptorIndex := 450, attributes := #[] }, { accessFlags := 18, nameIndex := 97, descriptorIndex := 98, attributes := #[] }, { accessFlags := 18, nameIndex := 101, descriptorIndex := 98, attributes := #[] }, { accessFlags := 18, nameIndex := 104, descriptorIndex := 105, attributes := #[] }, { accessFlags := 4122, nameIndex := 75, descriptorIndex := 76, attributes := #[] }])
  fields := #[{ name := "INSTR", type := (.object "com/example/table_rules/tablerules/engine/Function"), accessFlags := 16409, slot := 0, constantValue := 0 }, { name := "LENGTH", type := (.object "com/example/table_rules/tablerules/engine/Function"), accessFlags := 16409, slot := 1, constantValue := 0 }, { name := "UPPER", type := (.object "com/example/table_rules/tablerules/engine/Function"), accessFlags := 16409, slot := 2, constantValue := 0 }, { name := "LOWER", type := (.object "com/example/table_rules/tablerules/engine/Function"), accessFlags := 16409, slot := 3, constantValue := 0 }, { name := "TRIM", type := (.object "com/example/table_rules/tablerules/engine/Function"), accessFlags := 16409, slot := 4, constantValue := 0 }, { name := "LTRIM", type := (.object "com/example/table_rules/tablerules/engine/Function"), accessFlags := 16409, slot := 5, constantValue := 0 }, { name := "RTRIM", type := (.object "com/example/table_rules/tablerules/engine/Function"), accessFlags := 16409, slot := 6, constantValue := 0 }, { name := "REPLACE", type := (.object "com/example/table_rules/tablerules/engine/Function"), accessFlags := 16409, slot := 7, constantValue := 0 }, { name := "LPAD", type := (.object "com/example/table_rules/tablerules/engine/Function"), accessFlags := 16409, slot := 8, constantValue := 0 }, { name := "RPAD", type := (.object "com/example/table_rules/tablerules/engine/Function"), accessFlags := 16409, slot := 9, constantValue := 0 }, { name := "SUBSTR", type := (.object "com/example/table_rules/tablerules/engine/Function"), accessFlags := 16409, slot := 10, constantValue := 0 }, { name := "ABS", type := (.object "com/example/table_rules/tablerules/engine/Function"), accessFlags := 16409, slot := 11, constantValue := 0 }, { name := "CEIL", type := (.object "com/example/table_rules/tablerules/engine/Function"), accessFlags := 16409, slot := 12, constantValue := 0 }, { name := "FLOOR", type := (.object "com/example/table_rules/tablerules/engine/Function"), accessFlags := 16409, slot := 13, constantValue := 0 }, { name := "SIGN", type := (.object "com/example/table_rules/tablerules/engine/Function"), accessFlags := 16409, slot := 14, constantValue := 0 }, { name := "ROUND", type := (.object "com/example/table_rules/tablerules/engine/Function"), accessFlags := 16409, slot := 15, constantValue := 0 }, { name := "TRUNC", type := (.object "com/example/table_rules/tablerules/engine/Function"), accessFlags := 16409, slot := 16, constantValue := 0 }, { name := "GREATEST", type := (.object "com/example/table_rules/tablerules/engine/Function"), accessFlags := 16409, slot := 17, constantValue := 0 }, { name := "LEAST", type := (.object "com/example/table_rules/tablerules/engine/Function"), accessFlags := 16409, slot := 18, constantValue := 0 }, { name := "TO_CHAR", type := (.object "com/example/table_rules/tablerules/engine/Function"), accessFlags := 16409, slot := 19, constantValue := 0 }, { name := "TO_DATE", type := (.object "com/example/table_rules/tablerules/engine/Function"), accessFlags := 16409, slot := 20, constantValue := 0 }, { name := "TO_NUMBER", type := (.object "com/example/table_rules/tablerules/engine/Function"), accessFlags := 16409, slot := 21, constantValue := 0 }, { name := "MOD", type := (.object "com/example/table_rules/tablerules/engine/Function"), accessFlags := 16409, slot := 22, constantValue := 0 }, { name := "LONGEST", type := (.object "java/math/BigDecimal"), accessFlags := 26, slot := 23, constantValue := 0 }, { name := "LONGEST_PADDED", type := .int, accessFlags := 26, slot := 24, constantValue := 0 }, { name := "MOST_PLACES", type := .int, accessFlags := 26, slot := 25, constantValue := 0 }, { name := "BLANK", type := (.object "java/lang/String"), accessFlags := 26, slot := 26, constantValue := 0 }, { name := "minArguments", type := .int, accessFlags := 18, slot := 3, constantValue := 0 }, { name := "maxArguments", type := .int, accessFlags := 18, slot := 4, constantValue := 0 }, { name := "reads", type := (.array (.object "com/example/table_rules/tablerules/engine/Function$Read")), accessFlags := 18, slot := 5, constantValue := 0 }, { name := "$VALUES", type := (.array (.object "com/example/table_rules/tablerules/engine/Function")), accessFlags := 4122, slot := 27, constantValue := 0 }]
  methods := #[k6m0]
  instanceTypes := #[(.object "java/lang/String"), .int, .int, .int, .int, (.array (.object "com/example/table_rules/tablerules/engine/Function$Read"))]
  staticTypes := #[(.object "com/example/table_rules/tablerules/engine/Function"), (.object "com/example/table_rules/tablerules/engine/Function"), (.object "com/example/table_rules/tablerules/engine/Function"), (.object "com/example/table_rules/tablerules/engine/Function"), (.object "com/example/table_rules/tablerules/engine/Function"), (.object "com/example/table_rules/tablerules/engine/Function"), (.object "com/example/table_rules/tablerules/engine/Function"), (.object "com/example/table_rules/tablerules/engine/Function"), (.object "com/example/table_rules/tablerules/engine/Function"), (.object "com/example/table_rules/tablerules/engine/Function"), (.object "com/example/table_rules/tablerules/engine/Function"), (.object "com/example/table_rules/tablerules/engine/Function"), (.object "com/example/table_rules/tablerules/engine/Function"), (.object "com/example/table_rules/tablerules/engine/Function"), (.object "com/example/table_rules/tablerules/engine/Function"), (.object "com/example/table_rules/tablerules/engine/Function"), (.object "com/example/table_rules/tablerules/engine/Function"), (.object "com/example/table_rules/tablerules/engine/Function"), (.object "com/example/table_rules/tablerules/engine/Function"), (.object "com/example/table_rules/tablerules/engine/Function"), (.object "com/example/table_rules/tablerules/engine/Function"), (.object "com/example/table_rules/tablerules/engine/Function"), (.object "com/example/table_rules/tablerules/engine/Function"), (.object "java/math/BigDecimal"), .int, .int, (.object "java/lang/String"), (.array (.object "com/example/table_rules/tablerules/engine/Function"))]
  resolved := Array.replicate 513 none
  statics := some 0 }

def pool7 : Array CpInfo := pool [(2, .class_ 4), (1, u "com/example/table_rules/tablerules/engine/Function"), (18, .class_ 24), (0, u "com/example/table_rules/tablerules/engine/Function$1")] 14

/-- com/example/table_rules/tablerules/engine/Function$1 -/
def k7 : Class := { plain "com/example/table_rules/tablerules/engine/Function$1" (some 6) with
  accessFlags := 16432
  interfaces := #[]
  cf := some (fileOf pool7 23 #[.nestHost 2] #[] 16432 2 #[] #[])
  fields := #[]
  methods := #[]
  instanceTypes := #[(.object "java/lang/String"), .int, .int, .int, .int, (.array (.object "com/example/table_rules/tablerules/engine/Function$Read"))]
  staticTypes := #[]
  resolved := Array.replicate 39 none
  statics := none }

def pool8 : Array CpInfo := pool [(2, .class_ 4), (1, u "com/example/table_rules/tablerules/engine/Function"), (18, .class_ 24), (0, u "com/example/table_rules/tablerules/engine/Function$2")] 13

/-- com/example/table_rules/tablerules/engine/Function$2 -/
def k8 : Class := { plain "com/example/table_rules/tablerules/engine/Function$2" (some 6) with
  accessFlags := 16432
  interfaces := #[]
  cf := some (fileOf pool8 23 #[.nestHost 2] #[] 16432 2 #[] #[])
  fields := #[]
  methods := #[]
  instanceTypes := #[(.object "java/lang/String"), .int, .int, .int, .int, (.array (.object "com/example/table_rules/tablerules/engine/Function$Read"))]
  staticTypes := #[]
  resolved := Array.replicate 38 none
  statics := none }

def pool9 : Array CpInfo := pool [(2, .class_ 4), (1, u "com/example/table_rules/tablerules/engine/Function"), (8, .class_ 14), (0, u "com/example/table_rules/tablerules/engine/Function$4")] 13

/-- com/example/table_rules/tablerules/engine/Function$4 -/
def k9 : Class := { plain "com/example/table_rules/tablerules/engine/Function$4" (some 6) with
  accessFlags := 16432
  interfaces := #[]
  cf := some (fileOf pool9 13 #[.nestHost 2] #[] 16432 2 #[] #[])
  fields := #[]
  methods := #[]
  instanceTypes := #[(.object "java/lang/String"), .int, .int, .int, .int, (.array (.object "com/example/table_rules/tablerules/engine/Function$Read"))]
  staticTypes := #[]
  resolved := Array.replicate 28 none
  statics := none }

def pool10 : Array CpInfo := pool [(2, .class_ 4), (1, u "com/example/table_rules/tablerules/engine/Function"), (32, .class_ 38), (0, u "com/example/table_rules/tablerules/engine/Function$11")] 16

/-- com/example/table_rules/tablerules/engine/Function$11 -/
def k10 : Class := { plain "com/example/table_rules/tablerules/engine/Function$11" (some 6) with
  accessFlags := 16432
  interfaces := #[]
  cf := some (fileOf pool10 37 #[.nestHost 2] #[] 16432 2 #[] #[])
  fields := #[]
  methods := #[]
  instanceTypes := #[(.object "java/lang/String"), .int, .int, .int, .int, (.array (.object "com/example/table_rules/tablerules/engine/Function$Read"))]
  staticTypes := #[]
  resolved := Array.replicate 55 none
  statics := none }

def pool11 : Array CpInfo := pool [(2, .class_ 4), (1, u "com/example/table_rules/tablerules/engine/Function"), (6, .class_ 12), (0, u "com/example/table_rules/tablerules/engine/Function$9")] 13

/-- com/example/table_rules/tablerules/engine/Function$9 -/
def k11 : Class := { plain "com/example/table_rules/tablerules/engine/Function$9" (some 6) with
  accessFlags := 16432
  interfaces := #[]
  cf := some (fileOf pool11 11 #[.nestHost 2] #[] 16432 2 #[] #[])
  fields := #[]
  methods := #[]
  instanceTypes := #[(.object "java/lang/String"), .int, .int, .int, .int, (.array (.object "com/example/table_rules/tablerules/engine/Function$Read"))]
  staticTypes := #[]
  resolved := Array.replicate 26 none
  statics := none }

def pool12 : Array CpInfo := pool [(2, .class_ 4), (1, u "com/example/table_rules/tablerules/engine/Function"), (52, .class_ 58), (0, u "com/example/table_rules/tablerules/engine/Function$16")] 19

/-- com/example/table_rules/tablerules/engine/Function$16 -/
def k12 : Class := { plain "com/example/table_rules/tablerules/engine/Function$16" (some 6) with
  accessFlags := 16432
  interfaces := #[]
  cf := some (fileOf pool12 57 #[.nestHost 2] #[] 16432 2 #[] #[])
  fields := #[]
  methods := #[]
  instanceTypes := #[(.object "java/lang/String"), .int, .int, .int, .int, (.array (.object "com/example/table_rules/tablerules/engine/Function$Read"))]
  staticTypes := #[]
  resolved := Array.replicate 78 none
  statics := none }

def pool13 : Array CpInfo := pool [(2, .class_ 4), (1, u "com/example/table_rules/tablerules/engine/Function"), (30, .class_ 36), (0, u "com/example/table_rules/tablerules/engine/Function$17")] 19

/-- com/example/table_rules/tablerules/engine/Function$17 -/
def k13 : Class := { plain "com/example/table_rules/tablerules/engine/Function$17" (some 6) with
  accessFlags := 16432
  interfaces := #[]
  cf := some (fileOf pool13 35 #[.nestHost 2] #[] 16432 2 #[] #[])
  fields := #[]
  methods := #[]
  instanceTypes := #[(.object "java/lang/String"), .int, .int, .int, .int, (.array (.object "com/example/table_rules/tablerules/engine/Function$Read"))]
  staticTypes := #[]
  resolved := Array.replicate 56 none
  statics := none }

def pool14 : Array CpInfo := pool [(2, .class_ 4), (1, u "com/example/table_rules/tablerules/engine/Function"), (20, .class_ 26), (0, u "com/example/table_rules/tablerules/engine/Function$13")] 16

/-- com/example/table_rules/tablerules/engine/Function$13 -/
def k14 : Class := { plain "com/example/table_rules/tablerules/engine/Function$13" (some 6) with
  accessFlags := 16432
  interfaces := #[]
  cf := some (fileOf pool14 25 #[.nestHost 2] #[] 16432 2 #[] #[])
  fields := #[]
  methods := #[]
  instanceTypes := #[(.object "java/lang/String"), .int, .int, .int, .int, (.array (.object "com/example/table_rules/tablerules/engine/Function$Read"))]
  staticTypes := #[]
  resolved := Array.replicate 43 none
  statics := none }

def pool15 : Array CpInfo := pool [(2, .class_ 4), (1, u "com/example/table_rules/tablerules/engine/Function"), (6, .class_ 12), (0, u "com/example/table_rules/tablerules/engine/Function$18")] 13

/-- com/example/table_rules/tablerules/engine/Function$18 -/
def k15 : Class := { plain "com/example/table_rules/tablerules/engine/Function$18" (some 6) with
  accessFlags := 16432
  interfaces := #[]
  cf := some (fileOf pool15 11 #[.nestHost 2] #[] 16432 2 #[] #[])
  fields := #[]
  methods := #[]
  instanceTypes := #[(.object "java/lang/String"), .int, .int, .int, .int, (.array (.object "com/example/table_rules/tablerules/engine/Function$Read"))]
  staticTypes := #[]
  resolved := Array.replicate 26 none
  statics := none }

def pool16 : Array CpInfo := pool [(2, .class_ 4), (1, u "com/example/table_rules/tablerules/engine/Function"), (8, .class_ 14), (0, u "com/example/table_rules/tablerules/engine/Function$3")] 13

/-- com/example/table_rules/tablerules/engine/Function$3 -/
def k16 : Class := { plain "com/example/table_rules/tablerules/engine/Function$3" (some 6) with
  accessFlags := 16432
  interfaces := #[]
  cf := some (fileOf pool16 13 #[.nestHost 2] #[] 16432 2 #[] #[])
  fields := #[]
  methods := #[]
  instanceTypes := #[(.object "java/lang/String"), .int, .int, .int, .int, (.array (.object "com/example/table_rules/tablerules/engine/Function$Read"))]
  staticTypes := #[]
  resolved := Array.replicate 28 none
  statics := none }

def pool17 : Array CpInfo := pool [(2, .class_ 4), (1, u "com/example/table_rules/tablerules/engine/Function"), (19, .class_ 25), (0, u "com/example/table_rules/tablerules/engine/Function$22")] 19

/-- com/example/table_rules/tablerules/engine/Function$22 -/
def k17 : Class := { plain "com/example/table_rules/tablerules/engine/Function$22" (some 6) with
  accessFlags := 16432
  interfaces := #[]
  cf := some (fileOf pool17 24 #[.nestHost 2] #[] 16432 2 #[] #[])
  fields := #[]
  methods := #[]
  instanceTypes := #[(.object "java/lang/String"), .int, .int, .int, .int, (.array (.object "com/example/table_rules/tablerules/engine/Function$Read"))]
  staticTypes := #[]
  resolved := Array.replicate 45 none
  statics := none }

def pool18 : Array CpInfo := pool [(2, .class_ 4), (1, u "com/example/table_rules/tablerules/engine/Function"), (8, .class_ 14), (0, u "com/example/table_rules/tablerules/engine/Function$12")] 13

/-- com/example/table_rules/tablerules/engine/Function$12 -/
def k18 : Class := { plain "com/example/table_rules/tablerules/engine/Function$12" (some 6) with
  accessFlags := 16432
  interfaces := #[]
  cf := some (fileOf pool18 13 #[.nestHost 2] #[] 16432 2 #[] #[])
  fields := #[]
  methods := #[]
  instanceTypes := #[(.object "java/lang/String"), .int, .int, .int, .int, (.array (.object "com/example/table_rules/tablerules/engine/Function$Read"))]
  staticTypes := #[]
  resolved := Array.replicate 28 none
  statics := none }

def pool19 : Array CpInfo := pool [(2, .class_ 4), (1, u "com/example/table_rules/tablerules/engine/Function"), (12, .class_ 18), (0, u "com/example/table_rules/tablerules/engine/Function$15")] 13

/-- com/example/table_rules/tablerules/engine/Function$15 -/
def k19 : Class := { plain "com/example/table_rules/tablerules/engine/Function$15" (some 6) with
  accessFlags := 16432
  interfaces := #[]
  cf := some (fileOf pool19 17 #[.nestHost 2] #[] 16432 2 #[] #[])
  fields := #[]
  methods := #[]
  instanceTypes := #[(.object "java/lang/String"), .int, .int, .int, .int, (.array (.object "com/example/table_rules/tablerules/engine/Function$Read"))]
  staticTypes := #[]
  resolved := Array.replicate 32 none
  statics := none }

def pool20 : Array CpInfo := pool [(2, .class_ 4), (1, u "com/example/table_rules/tablerules/engine/Function"), (20, .class_ 26), (0, u "com/example/table_rules/tablerules/engine/Function$14")] 16

/-- com/example/table_rules/tablerules/engine/Function$14 -/
def k20 : Class := { plain "com/example/table_rules/tablerules/engine/Function$14" (some 6) with
  accessFlags := 16432
  interfaces := #[]
  cf := some (fileOf pool20 25 #[.nestHost 2] #[] 16432 2 #[] #[])
  fields := #[]
  methods := #[]
  instanceTypes := #[(.object "java/lang/String"), .int, .int, .int, .int, (.array (.object "com/example/table_rules/tablerules/engine/Function$Read"))]
  staticTypes := #[]
  resolved := Array.replicate 43 none
  statics := none }

def pool21 : Array CpInfo := pool [(2, .class_ 4), (1, u "com/example/table_rules/tablerules/engine/Function"), (12, .class_ 18), (0, u "com/example/table_rules/tablerules/engine/Function$6")] 13

/-- com/example/table_rules/tablerules/engine/Function$6 -/
def k21 : Class := { plain "com/example/table_rules/tablerules/engine/Function$6" (some 6) with
  accessFlags := 16432
  interfaces := #[]
  cf := some (fileOf pool21 17 #[.nestHost 2] #[] 16432 2 #[] #[])
  fields := #[]
  methods := #[]
  instanceTypes := #[(.object "java/lang/String"), .int, .int, .int, .int, (.array (.object "com/example/table_rules/tablerules/engine/Function$Read"))]
  staticTypes := #[]
  resolved := Array.replicate 32 none
  statics := none }

def pool22 : Array CpInfo := pool [(2, .class_ 4), (1, u "com/example/table_rules/tablerules/engine/Function"), (17, .class_ 23), (0, u "com/example/table_rules/tablerules/engine/Function$23")] 19

/-- com/example/table_rules/tablerules/engine/Function$23 -/
def k22 : Class := { plain "com/example/table_rules/tablerules/engine/Function$23" (some 6) with
  accessFlags := 16432
  interfaces := #[]
  cf := some (fileOf pool22 22 #[.nestHost 2] #[] 16432 2 #[] #[])
  fields := #[]
  methods := #[]
  instanceTypes := #[(.object "java/lang/String"), .int, .int, .int, .int, (.array (.object "com/example/table_rules/tablerules/engine/Function$Read"))]
  staticTypes := #[]
  resolved := Array.replicate 43 none
  statics := none }

def pool23 : Array CpInfo := pool [(2, .class_ 4), (1, u "com/example/table_rules/tablerules/engine/Function"), (6, .class_ 12), (0, u "com/example/table_rules/tablerules/engine/Function$10")] 13

/-- com/example/table_rules/tablerules/engine/Function$10 -/
def k23 : Class := { plain "com/example/table_rules/tablerules/engine/Function$10" (some 6) with
  accessFlags := 16432
  interfaces := #[]
  cf := some (fileOf pool23 11 #[.nestHost 2] #[] 16432 2 #[] #[])
  fields := #[]
  methods := #[]
  instanceTypes := #[(.object "java/lang/String"), .int, .int, .int, .int, (.array (.object "com/example/table_rules/tablerules/engine/Function$Read"))]
  staticTypes := #[]
  resolved := Array.replicate 26 none
  statics := none }

def pool24 : Array CpInfo := pool [(2, .class_ 4), (1, u "com/example/table_rules/tablerules/engine/Function"), (12, .class_ 18), (0, u "com/example/table_rules/tablerules/engine/Function$7")] 13

/-- com/example/table_rules/tablerules/engine/Function$7 -/
def k24 : Class := { plain "com/example/table_rules/tablerules/engine/Function$7" (some 6) with
  accessFlags := 16432
  interfaces := #[]
  cf := some (fileOf pool24 17 #[.nestHost 2] #[] 16432 2 #[] #[])
  fields := #[]
  methods := #[]
  instanceTypes := #[(.object "java/lang/String"), .int, .int, .int, .int, (.array (.object "com/example/table_rules/tablerules/engine/Function$Read"))]
  staticTypes := #[]
  resolved := Array.replicate 32 none
  statics := none }

def pool25 : Array CpInfo := pool [(2, .class_ 4), (1, u "com/example/table_rules/tablerules/engine/Function"), (12, .class_ 18), (0, u "com/example/table_rules/tablerules/engine/Function$5")] 13

/-- com/example/table_rules/tablerules/engine/Function$5 -/
def k25 : Class := { plain "com/example/table_rules/tablerules/engine/Function$5" (some 6) with
  accessFlags := 16432
  interfaces := #[]
  cf := some (fileOf pool25 17 #[.nestHost 2] #[] 16432 2 #[] #[])
  fields := #[]
  methods := #[]
  instanceTypes := #[(.object "java/lang/String"), .int, .int, .int, .int, (.array (.object "com/example/table_rules/tablerules/engine/Function$Read"))]
  staticTypes := #[]
  resolved := Array.replicate 32 none
  statics := none }

def pool26 : Array CpInfo := pool [(2, .class_ 4), (1, u "com/example/table_rules/tablerules/engine/Function"), (20, .class_ 26), (0, u "com/example/table_rules/tablerules/engine/Function$8")] 14

/-- com/example/table_rules/tablerules/engine/Function$8 -/
def k26 : Class := { plain "com/example/table_rules/tablerules/engine/Function$8" (some 6) with
  accessFlags := 16432
  interfaces := #[]
  cf := some (fileOf pool26 25 #[.nestHost 2] #[] 16432 2 #[] #[])
  fields := #[]
  methods := #[]
  instanceTypes := #[(.object "java/lang/String"), .int, .int, .int, .int, (.array (.object "com/example/table_rules/tablerules/engine/Function$Read"))]
  staticTypes := #[]
  resolved := Array.replicate 41 none
  statics := none }

def pool27 : Array CpInfo := pool [(2, .class_ 4), (1, u "com/example/table_rules/tablerules/engine/Function"), (47, .class_ 53), (0, u "com/example/table_rules/tablerules/engine/Function$21")] 24

/-- com/example/table_rules/tablerules/engine/Function$21 -/
def k27 : Class := { plain "com/example/table_rules/tablerules/engine/Function$21" (some 6) with
  accessFlags := 16432
  interfaces := #[]
  cf := some (fileOf pool27 52 #[.nestHost 2] #[] 16432 2 #[] #[])
  fields := #[]
  methods := #[]
  instanceTypes := #[(.object "java/lang/String"), .int, .int, .int, .int, (.array (.object "com/example/table_rules/tablerules/engine/Function$Read"))]
  staticTypes := #[]
  resolved := Array.replicate 78 none
  statics := none }

def pool28 : Array CpInfo := pool [(2, .class_ 4), (1, u "com/example/table_rules/tablerules/engine/Function"), (6, .class_ 12), (0, u "com/example/table_rules/tablerules/engine/Function$19")] 13

/-- com/example/table_rules/tablerules/engine/Function$19 -/
def k28 : Class := { plain "com/example/table_rules/tablerules/engine/Function$19" (some 6) with
  accessFlags := 16432
  interfaces := #[]
  cf := some (fileOf pool28 11 #[.nestHost 2] #[] 16432 2 #[] #[])
  fields := #[]
  methods := #[]
  instanceTypes := #[(.object "java/lang/String"), .int, .int, .int, .int, (.array (.object "com/example/table_rules/tablerules/engine/Function$Read"))]
  staticTypes := #[]
  resolved := Array.replicate 26 none
  statics := none }

def pool29 : Array CpInfo := pool [(2, .class_ 4), (1, u "com/example/table_rules/tablerules/engine/Function"), (39, .class_ 45), (0, u "com/example/table_rules/tablerules/engine/Function$20")] 19

/-- com/example/table_rules/tablerules/engine/Function$20 -/
def k29 : Class := { plain "com/example/table_rules/tablerules/engine/Function$20" (some 6) with
  accessFlags := 16432
  interfaces := #[]
  cf := some (fileOf pool29 44 #[.nestHost 2] #[] 16432 2 #[] #[])
  fields := #[]
  methods := #[]
  instanceTypes := #[(.object "java/lang/String"), .int, .int, .int, .int, (.array (.object "com/example/table_rules/tablerules/engine/Function$Read"))]
  staticTypes := #[]
  resolved := Array.replicate 65 none
  statics := none }

def pool30 : Array CpInfo := pool [(1, u "java/lang/Cloneable"), (0, .class_ 1), (0, u "java/lang/Object"), (0, .class_ 3)] 3

/-- java/lang/Cloneable -/
def k30 : Class := { plain "java/lang/Cloneable" (some 0) with
  accessFlags := 1537
  interfaces := #[]
  cf := some (fileOf pool30 2 #[] #[] 1537 4 #[] #[])
  fields := #[]
  methods := #[]
  instanceTypes := #[]
  staticTypes := #[]
  resolved := Array.replicate 8 none
  statics := none }

/-- the primitive byte -/
def k31 : Class := { plain "byte" none with kind := .primitive 'B', accessFlags := 0x411 }
/-- [B -/
def k32 : Class := { plain "[B" (some 0) with kind := .array 31 .byte, interfaces := #[30, 4], accessFlags := 1041 }

/-- the primitive int -/
def k33 : Class := { plain "int" none with kind := .primitive 'I', accessFlags := 0x411 }
/-- [I -/
def k34 : Class := { plain "[I" (some 0) with kind := .array 33 .int, interfaces := #[30, 4], accessFlags := 1041 }

def heap : Heap := #[{ cls := 6, slots := #[.ref 1, .ref 2, .ref 3, .ref 4, .ref 5, .ref 6, .ref 7, .ref 8, .ref 9, .ref 10, .ref 11, .ref 12, .ref 13, .ref 14, .ref 15, .ref 16, .ref 17, .ref 18, .ref 19, .ref 20, .ref 21, .ref 22, .ref 23, .null, .int 0, .int 0, .null, .null], vm := .statics 6 },
  { cls := 7, slots := #[.null, .int 0, .int 0, .int 2, .int 2, .null], vm := .none },
  { cls := 8, slots := #[.null, .int 1, .int 0, .int 1, .int 1, .null], vm := .none },
  { cls := 16, slots := #[.null, .int 2, .int 0, .int 1, .int 1, .null], vm := .none },
  { cls := 9, slots := #[.null, .int 3, .int 0, .int 1, .int 1, .null], vm := .none },
  { cls := 25, slots := #[.null, .int 4, .int 0, .int 1, .int 1, .null], vm := .none },
  { cls := 21, slots := #[.null, .int 5, .int 0, .int 1, .int 2, .null], vm := .none },
  { cls := 24, slots := #[.null, .int 6, .int 0, .int 1, .int 2, .null], vm := .none },
  { cls := 26, slots := #[.null, .int 7, .int 0, .int 2, .int 3, .null], vm := .none },
  { cls := 11, slots := #[.null, .int 8, .int 0, .int 2, .int 3, .null], vm := .none },
  { cls := 23, slots := #[.null, .int 9, .int 0, .int 2, .int 3, .null], vm := .none },
  { cls := 10, slots := #[.null, .int 10, .int 0, .int 2, .int 3, .null], vm := .none },
  { cls := 18, slots := #[.null, .int 11, .int 0, .int 1, .int 1, .null], vm := .none },
  { cls := 14, slots := #[.null, .int 12, .int 0, .int 1, .int 1, .null], vm := .none },
  { cls := 20, slots := #[.null, .int 13, .int 0, .int 1, .int 1, .null], vm := .none },
  { cls := 19, slots := #[.null, .int 14, .int 0, .int 1, .int 1, .null], vm := .none },
  { cls := 12, slots := #[.null, .int 15, .int 0, .int 1, .int 2, .null], vm := .none },
  { cls := 13, slots := #[.null, .int 16, .int 0, .int 1, .int 2, .null], vm := .none },
  { cls := 15, slots := #[.null, .int 17, .int 0, .int 1, .int 2147483647, .null], vm := .none },
  { cls := 28, slots := #[.null, .int 18, .int 0, .int 1, .int 2147483647, .null], vm := .none },
  { cls := 29, slots := #[.null, .int 19, .int 0, .int 1, .int 2, .null], vm := .none },
  { cls := 27, slots := #[.null, .int 20, .int 0, .int 1, .int 2, .null], vm := .none },
  { cls := 17, slots := #[.null, .int 21, .int 0, .int 1, .int 2, .null], vm := .none },
  { cls := 22, slots := #[.null, .int 22, .int 0, .int 2, .int 2, .null], vm := .none }]
def classes : Array Class := #[k0, k1, k2, k3, k4, k5, k6, k7, k8, k9, k10, k11, k12, k13, k14, k15, k16, k17, k18, k19, k20, k21, k22, k23, k24, k25, k26, k27, k28, k29, k30, k31, k32, k33, k34]
def interned : List (Array UInt16 × Addr) := []
def slotsUsed : Nat := 166
def theMethod : MethodId := ⟨1, 1⟩
def args0 : Array Value := #[.int 5, .int 6, .int 7]
def aboutOver (below : List Frame) : State where
  vm := { classes := classes, interned := interned.toArray }
  heap := heap
  slotsUsed := slotsUsed
  threads := #[{ frames := .invoking theMethod args0 :: below }]
def below0 : List Frame := [.native { method := ⟨0, 0⟩, args := #[] }]
def about1 : State := aboutOver below0
def p0 : Program := .bare "" "" ""
def e0 : Env := launch0.env 0 0 0
theorem w_frames : about1.frames = Frame.invoking theMethod args0 :: below0 := rfl
set_option maxRecDepth 65536 in
theorem w_args : argsFit about1.vm theMethod args0 = true := by decide +kernel
set_option maxRecDepth 65536 in
theorem w_heap : heapFits about1 = true := by decide +kernel
set_option maxRecDepth 65536 in
theorem w_runnable : about1.curStatus? = some .runnable := by decide +kernel
set_option maxRecDepth 65536 in
theorem w_alone : about1.alone = true := by decide +kernel
set_option maxRecDepth 65536 in
theorem w_named : about1.methodNamed? x = some theMethod := by decide +kernel
set_option maxRecDepth 65536 in
theorem w_hears : about1.hears theMethod below0 = true := by decide +kernel
set_option maxRecDepth 65536 in
theorem w_ripe : about1.ripe theMethod args0 below0 = true := by decide +kernel
theorem w_running : about1.status = .running := rfl
set_option maxRecDepth 65536 in
theorem w_room : about1.hasRoom e0.platform room_1 = true :=
  launch0.hasRoom_least _ room_1 (by decide +kernel) (by decide +kernel) (by decide +kernel) (by decide +kernel) (by decide +kernel) (by decide +kernel)
theorem allAtoms_all (ts : List Jvm.Cond) (a : Array Jvm.Value) (st : Jvm.State) : (allAtoms ts).before a st = ts.all (fun c => c.before a st) := by
  induction ts with
  | nil => rfl
  | cons c t ih =>
    show (Jvm.Cond.and c (allAtoms t)).before a st = _
    rw [Jvm.Cond.before_and, ih, List.all_cons]
def words1 : List Jvm.Cond := Jvm.Cond.code x code maxLocals ret :: tables_1
/-- a 'code' word, met by the world's own term for the bytes: nothing is compared byte by byte -/
theorem code_word {y : MethodName} {bytes : ByteArray} {mx : Nat} {rt : Option FieldType} {a : Array Value} {s : State} {m : MethodId} {meth : Method} {c : Code} (h1 : s.methodNamed? y = some m) (h2 : s.vm.method? m = some meth) (h3 : meth.code = some c) (h4 : c.code = bytes)
    (h5 : (c.maxLocals == mx && c.exceptionTable.isEmpty && decide (c.maxStack ≤ mostOperands) && decide (meth.sig.returnType = rt) && !meth.locks && decide (parseMethodDescriptor y.desc = some meth.sig)) = true) : (Jvm.Cond.code y bytes mx rt).before a s = true := by
  simp only [Bool.and_eq_true, beq_iff_eq, Bool.not_eq_true', decide_eq_true_eq] at h5
  obtain ⟨⟨⟨⟨⟨g1, g2⟩, g3⟩, g4⟩, g5⟩, g6⟩ := h5
  simp [Cond.before, Cond.holds, Cond.value, h1, h2, h3, h4, g1, g2, g3, g4, g5, g6]
def isCode : Jvm.Cond → Bool
  | .code _ _ _ _ => true
  | _ => false
theorem all_split {L : List Jvm.Cond} {P : Jvm.Cond → Bool} (h1 : L.all (fun c => isCode c || P c) = true) (h2 : ∀ c ∈ L.filter isCode, P c = true) : L.all P = true := by
  refine List.all_eq_true.mpr fun c hc => ?_
  have h := List.all_eq_true.mp h1 c hc
  rcases Bool.eq_false_or_eq_true (isCode c) with hi | hi
  · exact h2 c (List.mem_filter.mpr ⟨hc, hi⟩)
  · simpa [hi] using h
set_option maxRecDepth 65536 in
theorem w_c0 : (Jvm.Cond.code x code maxLocals ret).before args0 about1 = true := code_word (m := ⟨1, 1⟩) (meth := k1m1) (c := k1c1) (by decide +kernel) rfl rfl rfl (by decide +kernel)
set_option maxRecDepth 65536 in
theorem w_c1 : (Jvm.Cond.code ({ cls := "com/example/table_rules/tablerules/engine/FunctionTakesPinLaw", name := "constant", desc := "(I)Lcom/example/table_rules/tablerules/engine/Function;" } : Jvm.MethodName) method_3_code (1 : Nat) (Option.some (Jvm.ClassFile.FieldType.object "com/example/table_rules/tablerules/engine/Function"))).before args0 about1 = true := code_word (m := ⟨1, 2⟩) (meth := k1m2) (c := k1c2) (by decide +kernel) rfl rfl rfl (by decide +kernel)
set_option maxRecDepth 65536 in
theorem w_c2 : (Jvm.Cond.code ({ cls := "com/example/table_rules/tablerules/engine/Function", name := "takes", desc := "(I)Z" } : Jvm.MethodName) prog_78_method_6_code (2 : Nat) (Option.some Jvm.ClassFile.FieldType.boolean)).before args0 about1 = true := code_word (m := ⟨6, 0⟩) (meth := k6m0) (c := k6c0) (by decide +kernel) rfl rfl rfl (by decide +kernel)
def codes1 : List Jvm.Cond := [Jvm.Cond.code x code maxLocals ret, Jvm.Cond.code ({ cls := "com/example/table_rules/tablerules/engine/FunctionTakesPinLaw", name := "constant", desc := "(I)Lcom/example/table_rules/tablerules/engine/Function;" } : Jvm.MethodName) method_3_code (1 : Nat) (Option.some (Jvm.ClassFile.FieldType.object "com/example/table_rules/tablerules/engine/Function")), Jvm.Cond.code ({ cls := "com/example/table_rules/tablerules/engine/Function", name := "takes", desc := "(I)Z" } : Jvm.MethodName) prog_78_method_6_code (2 : Nat) (Option.some Jvm.ClassFile.FieldType.boolean)]
set_option maxRecDepth 65536 in
theorem codes_eq : words1.filter isCode = codes1 := rfl
theorem w_codes : ∀ c ∈ words1.filter isCode, c.before args0 about1 = true := by
  rw [codes_eq]
  intro c hc
  simp only [codes1, List.mem_cons, List.not_mem_nil, or_false] at hc
  rcases hc with rfl | rfl | rfl
  · exact w_c0
  · exact w_c1
  · exact w_c2
set_option maxRecDepth 65536 in
theorem w_t1 : (words1.take 24).all (fun c => isCode c || c.before args0 about1) = true := by decide +kernel
set_option maxRecDepth 65536 in
theorem w_t2 : ((words1.drop 24).take 24).all (fun c => isCode c || c.before args0 about1) = true := by decide +kernel
set_option maxRecDepth 65536 in
theorem w_t3 : (((words1.drop 24).drop 24).take 24).all (fun c => isCode c || c.before args0 about1) = true := by decide +kernel
set_option maxRecDepth 65536 in
theorem w_t4 : ((((words1.drop 24).drop 24).drop 24).take 24).all (fun c => isCode c || c.before args0 about1) = true := by decide +kernel
set_option maxRecDepth 65536 in
theorem w_t5 : (((((words1.drop 24).drop 24).drop 24).drop 24).take 24).all (fun c => isCode c || c.before args0 about1) = true := by decide +kernel
set_option maxRecDepth 65536 in
theorem w_t6 : (((((words1.drop 24).drop 24).drop 24).drop 24).drop 24).all (fun c => isCode c || c.before args0 about1) = true := by decide +kernel
theorem w_tables : (allAtoms (Jvm.Cond.code x code maxLocals ret :: tables_1)).before args0 about1 = true := by
  rw [allAtoms_all]
  show words1.all (fun c => c.before args0 about1) = true
  refine all_split ?_ w_codes
  rw [← List.take_append_drop 24 words1, List.all_append, w_t1, ← List.take_append_drop 24 (words1.drop 24), List.all_append, w_t2, ← List.take_append_drop 24 ((words1.drop 24).drop 24), List.all_append, w_t3, ← List.take_append_drop 24 (((words1.drop 24).drop 24).drop 24), List.all_append, w_t4, ← List.take_append_drop 24 ((((words1.drop 24).drop 24).drop 24).drop 24), List.all_append, w_t5, w_t6]
  rfl
set_option maxRecDepth 65536 in
theorem w_case : (Jvm.Cond.and given_1 narrow_1).before args0 about1 = true := by decide +kernel
theorem w_applies : (headSpec (Jvm.Cond.code x code maxLocals ret :: tables_1) room_1).applies x e0.platform about1 = true :=
  (Spec.applies_iff w_frames).mpr ⟨w_running, w_runnable, w_alone, w_named, w_hears, w_ripe, w_room, w_tables⟩
theorem atStart : AtStart classFile x code maxLocals ret World_1 tables_1 room_1 Calls_1 rest_1 Pre_1 launch0 p0 e0 about1 theMethod args0 below0 :=
  ⟨lists_1, trivial, launch0.admits_env _ _ _, launch0.least_env, fairChoices_fair.cas, fairChoices_fair.clock, w_frames, w_args, w_heap, w_applies, trivial, trivial, w_case⟩
end start1
theorem witness_1 : WitnessClaimed_1 := ⟨start1.p0, start1.e0, start1.about1, start1.theMethod, start1.args0, start1.below0, start1.atStart⟩
end Jvm.Pilot.@@N@@
