import JvmDerived
import JvmDerived.Pilot.@@N@@Statement
import JvmDerived.Pilot.@@N@@Code
set_option linter.unusedVariables false
set_option linter.unusedSimpArgs false
namespace Jvm.Pilot.@@N@@
open Jvm Jvm.ClassFile Sem Op Lib Jvm.Free Jvm.Stand Jvm.LawKit Jvm.RoadKit Bundle Jvm.Pilot.@@N@@.Jvm.D
section Own
variable {p : Program} {l : Launch} {e : Env} {R : Room} {s : State} {m : MethodId} {args : Array Value} {below : List Frame} {meth : Method} {c : Code} {T T' : State} {locs : List Loc} {cells slots : Nat} {g g' : JFrame} {Φ : State → Outcome → Prop}
/-- the run from T, at the frame g, comes to an end of which Φ speaks -/
def own_Go (p : Program) (e : Env) (below : List Frame) (Φ : State → Outcome → Prop) (T : State) (g : JFrame) : Prop :=
  ∃ s₂ o, Steps p.tables e below (T.setTop g) s₂ ∧ s₂.status = .running ∧ Ended s₂ below o ∧ Φ s₂ o
theorem own_st (k : ∀ target, Steps p.tables e below (T'.setTop g') target → Steps p.tables e below (T.setTop g) target) (h : own_Go p e below Φ T' g') : own_Go p e below Φ T g := by
  obtain ⟨s2, o, h1, h2⟩ := h
  exact ⟨s2, o, k _ h1, h2⟩
theorem own_ts (k : Steps p.tables e below (T.setTop g) (T'.setTop g')) (h : own_Go p e below Φ T' g') : own_Go p e below Φ T g := own_st (fun _ q => k.trans q) h
theorem own_in (q : g = g') (h : own_Go p e below Φ T g') : ∃ s₂ o, Steps p.tables e below (T.setTop g) s₂ ∧ s₂.status = .running ∧ Ended s₂ below o ∧ Φ s₂ o := by
  subst q; exact h
theorem own_out {Q : Option Value → Heap → List Loc → Prop} {kC kS : Nat} (X : Stand p l e R s m args below meth c T locs cells slots) (hl : meth.locks = false) {v : Option Value} (hv : meth.sig.returnType = none → v = none)
    (k : ∀ fs, (∀ (f : JFrame) (acts : List Action), f.method = m → f.locked = none → f.entered = [] → (doReturn e (T.setTop f) acts v).1 = T.setFrames fs) → Steps p.tables e below (T.setTop g) (T.setFrames fs)) (q : Q v T.heap locs) (hc : cells ≤ kC) (hs : slots ≤ kS) :
    own_Go p e below (fun s₂ o => ∃ v L, o = .returned v ∧ Q v s₂.heap L ∧ FrameEnd s o s₂ L kC kS) T g := by
  obtain ⟨fs, hr, hrun, hended, hW, hsame⟩ := X.leave (v := v) hv hl
  exact ⟨_, _, k fs hr, hrun, hended, _, _, rfl, q, ⟨_, rfl⟩, hW, hsame.mono hc hs⟩
theorem own_retI (X : Stand p l e R s m args below meth c T locs cells slots) (hx : p.tables.exec = Jvm.exec) {pc : Nat} {Ls : Array Slot} {z : Int32} {rest : List Value} (hret : meth.sig.returnType = some .int) (hd : decode c.code pc = .ok (.ireturn, 1)) {fs : List Frame}
    (hl : ∀ (f : JFrame) (acts : List Action), f.method = m → f.locked = none → f.entered = [] → (doReturn e (T.setTop f) acts (some (.int z))).1 = T.setFrames fs) : Steps p.tables e below (T.setTop (mkF m pc Ls (.int z :: rest))) (T.setFrames fs) :=
  retOut X hx hret rfl (Or.inl ⟨rfl, Or.inl rfl, z, rfl⟩) hd hl
theorem own_retA (X : Stand p l e R s m args below meth c T locs cells slots) (hx : p.tables.exec = Jvm.exec) {pc : Nat} {Ls : Array Slot} {w : Value} {t : FieldType} {rest : List Value} (hret : meth.sig.returnType = some t) (ht : t.isReference = true) (hw : w.isRef = true) (hn : narrow t w = w) (hd : decode c.code pc = .ok (.areturn, 1)) {fs : List Frame}
    (hl : ∀ (f : JFrame) (acts : List Action), f.method = m → f.locked = none → f.entered = [] → (doReturn e (T.setTop f) acts (some w)).1 = T.setFrames fs) : Steps p.tables e below (T.setTop (mkF m pc Ls (w :: rest))) (T.setFrames fs) :=
  retOut X hx hret hn (Or.inr (Or.inr (Or.inr (Or.inr ⟨rfl, ht, hw⟩)))) hd hl
theorem own_reX {a b : Vm} (X : Stand p l e R ((s.setVm a).setVm b) m args below meth c T locs cells slots) : Stand p l e R (s.setVm b) m args below meth c T locs cells slots := X
theorem own_outW {Q : Option Value → Heap → List Loc → Prop} {kC kS : Nat} {vm0 : Vm} (X : Stand p l e R (s.setVm vm0) m args below meth c T locs cells slots) {n : Nat} (hS : s.Since vm0 n) (hn : n ≤ T.heap.size) (hl : meth.locks = false) {v : Option Value} (hv : meth.sig.returnType = none → v = none)
    (k : ∀ fs, (∀ (f : JFrame) (acts : List Action), f.method = m → f.locked = none → f.entered = [] → (doReturn e (T.setTop f) acts v).1 = T.setFrames fs) → Steps p.tables e below (T.setTop g) (T.setFrames fs)) (q : Q v T.heap locs) (hc : cells ≤ kC) (hs : slots ≤ kS) :
    own_Go p e below (fun s₂ o => ∃ v L, o = .returned v ∧ Q v s₂.heap L ∧ ReturnedEndW s o s₂ L kC kS) T g := by
  obtain ⟨fs, hr, hrun, hended, h1, h2, h3, h4⟩ := X.leaveW hS hn (v := v) hv hl
  exact ⟨_, _, k fs hr, hrun, hended, _, _, rfl, q, h1, h2, h3, h4.mono hc hs⟩
theorem own_alen (X : Stand p l e R s m args below meth c T locs cells slots) (hx : p.tables.exec = Jvm.exec) {Z : State} (hZ : Z.Warmed39 s.vm) {h : Heap} (eT : T.heap = h) {a : Addr} {k : ClassId} {ty : FieldType} {z : Int32} {vs : List Value} {dv : Value} (F : Arv Z h a k ty z vs dv) {g : JFrame} (hg : g.method = m) {rest : List Value} (hs : g.stack = .ref a :: rest)
    (hd : decode c.code g.pc = .ok (.arraylength, 1)) : ∀ target, Steps p.tables e below (T.setTop { g with pc := g.pc + 1, stack := .int z :: rest }) target → Steps p.tables e below (T.setTop g) target := by
  obtain ⟨cl, A, q, S, N, H, G⟩ := F
  rw [← len_of S N]
  exact X.arraylength hx (by rw [eT]; exact A.1) (State.isArrayOf_alike hZ.alike A.2.1) hg hs hd
theorem own_old {Z : State} {n0 : Nat} {h : Heap} (O : Old Z n0 h) : n0 ≤ h.size := O.1 ▸ O.2.1
end Own
theorem own_nlt {x : Int32} (h : 0 ≤ x.toInt) : ¬ (x < (0 : Int32)) := fun q => by
  have := Int32.lt_iff_toInt_lt.mp q
  have k : (0 : Int32).toInt = 0 := rfl
  omega
theorem own_nlt' {x : Int32} (h : x.toInt ≤ 30) : ¬ ((30 : Int32) < x) := fun q => by
  have := Int32.lt_iff_toInt_lt.mp q
  have k : (30 : Int32).toInt = 30 := rfl
  omega
theorem d_jdk_30_method_1_0 : decode jdk_30_method_1_code 0 = .ok (.aload_n 0, 1) := by decide +kernel
theorem d_jdk_30_method_1_1 : decode jdk_30_method_1_code 1 = .ok (.invokespecial 1, 3) := by decide +kernel
theorem d_jdk_30_method_1_4 : decode jdk_30_method_1_code 4 = .ok (.return_, 1) := by decide +kernel
theorem ef_rec (m : MethodId) (x0 : Addr) : entryFrame m #[(.ref x0)] 1 = mkF m 0 #[.val (.ref x0)] [] := by first | (simp [entryFrame, mkF, argsToLocals, Value.category]; done) | rfl
def Qrec (Z : State) (a1 : Addr) (h0 : Heap) (n0 : Nat) (v : Option Value) (h : Heap) (L : List Loc) : Prop := v = none ∧ Fr n0 L ∧ h = h0
theorem pn_java_lang_Record : plainName "java/lang/Record" = true := by first | (simp [plainName, overriddenIn]; done) | decide +kernel
set_option maxRecDepth 65536 in
set_option maxHeartbeats 40000000 in
theorem rmrec (l : Launch) (Z : State) (a0 : Array Value) (hw : ∀ d ∈ tables_1, d.before a0 Z = true) (ws : List Jvm.Cond) (a1 : Addr) (h0 : Heap) (n0 : Nat) (O0 : Old Z n0 h0) :
    MetFree l (⟨"java/lang/Record", "<init>", "()V"⟩ : MethodName) (head1 (Jvm.Cond.code (⟨"java/lang/Record", "<init>", "()V"⟩ : MethodName) jdk_30_method_1_code 1 none :: ws) ({ frames := 1, cells := 0, slots := 0, locals := 12 } : Room)) (fun a U => a = #[(.ref a1)] ∧ Z.Warmed39 U.vm ∧ U.heap = h0) (fun _ _ _ _ _ => True) (fun _ U o U' => ∃ v L, o = .returned v ∧ Qrec Z a1 h0 n0 v U'.heap L ∧ FrameEnd U o U' L ({ frames := 1, cells := 0, slots := 0, locals := 12 } : Room).cells ({ frames := 1, cells := 0, slots := 0, locals := 12 } : Room).slots) := by
  refine MetFree.of_bodySF (plainFor_of_name pn_java_lang_Record) hisR ?_
  intro p e s m args below meth c s₁ Bd hml0 hP hK
  obtain ⟨rfl, hZ, hh⟩ := hP
  have hx := Bd.exec
  have hby := Bd.bytes
  have hml : c.maxLocals = 1 := hml0
  have hown : s.vm.findClass "java/lang/Record" = some m.cls := findClass_of_methodNamed Bd.named
  have hnm := (name_of_methodNamed Bd.named Bd.method).1
  have X0 : Stand p l e ({ frames := 1, cells := 0, slots := 0, locals := 12 } : Room) s m #[(.ref a1)] below meth c s₁ [] 0 0 := Stand.of_body Bd
  have e0 : s₁.heap = h0 := by rw [← hh, Bd.state]; rfl
  have N0 := Fr.nil n0
  have hS0 : s.Since s.vm h0.size := State.WarmedH.since (State.WarmedH.refl s) _
  refine own_in (ef_rec m a1) ?_
  refine own_st (T' := s₁) (g' := (mkF m 1 #[.val (.ref a1)] [(.ref a1)])) (fun _ k => XS.aloadN X0.here hx rfl (hb hby d_jdk_30_method_1_0) rfl rfl k) ?_
  obtain ⟨T1, X1, e1, st1⟩ := initO X0 hx hZ hown (hw _ (List.mem_of_getElem? (i := 12) rfl)) (hw _ (List.mem_of_getElem? (i := 13) rfl)) (hw _ (List.mem_of_getElem? (i := 14) rfl)) e0 (g := (mkF m 1 #[.val (.ref a1)] [(.ref a1)])) rfl (by rw [hml]; rfl) rfl (hb hby d_jdk_30_method_1_1) (by decide) (W := 0) (by show 2 * 0 + _ ≤ _; exact Nat.le_of_eq rfl) (by decide)
  refine own_st (T' := T1) (g' := (mkF m 4 #[.val (.ref a1)] [])) (st1) ?_
  refine own_out X1 Bd.notSynchronized (v := none) (fun _ => rfl) (fun fs hr => X1.returnOut hx Bd.returns (hb hby d_jdk_30_method_1_4) hr) ?_ (by decide) (by decide)
  rw [e1]
  exact ⟨rfl, N0, rfl⟩
theorem d_prog_51_method_1_0 : decode prog_51_method_1_code 0 = .ok (.aload_n 0, 1) := by decide +kernel
theorem d_prog_51_method_1_1 : decode prog_51_method_1_code 1 = .ok (.invokespecial 1, 3) := by decide +kernel
theorem pd_V_167 : parseMethodDescriptor "()V" = some ⟨[], none⟩ := by decide +kernel
theorem d_prog_51_method_1_4 : decode prog_51_method_1_code 4 = .ok (.iload_n 1, 1) := by decide +kernel
theorem d_prog_51_method_1_5 : decode prog_51_method_1_code 5 = .ok (.ifCond .ge 17, 3) := by decide +kernel
theorem d_prog_51_method_1_22 : decode prog_51_method_1_code 22 = .ok (.iload_n 2, 1) := by decide +kernel
theorem d_prog_51_method_1_23 : decode prog_51_method_1_code 23 = .ok (.ifCond .lt 9, 3) := by decide +kernel
theorem d_prog_51_method_1_26 : decode prog_51_method_1_code 26 = .ok (.iload_n 2, 1) := by decide +kernel
theorem d_prog_51_method_1_27 : decode prog_51_method_1_code 27 = .ok (.bipush 30, 2) := by decide +kernel
theorem d_prog_51_method_1_29 : decode prog_51_method_1_code 29 = .ok (.if_icmp .le 17, 3) := by decide +kernel
theorem d_prog_51_method_1_46 : decode prog_51_method_1_code 46 = .ok (.aload_n 0, 1) := by decide +kernel
theorem d_prog_51_method_1_47 : decode prog_51_method_1_code 47 = .ok (.iload_n 1, 1) := by decide +kernel
theorem d_prog_51_method_1_48 : decode prog_51_method_1_code 48 = .ok (.putfield 17, 3) := by decide +kernel
theorem d_prog_51_method_1_51 : decode prog_51_method_1_code 51 = .ok (.aload_n 0, 1) := by decide +kernel
theorem d_prog_51_method_1_52 : decode prog_51_method_1_code 52 = .ok (.iload_n 2, 1) := by decide +kernel
theorem d_prog_51_method_1_53 : decode prog_51_method_1_code 53 = .ok (.putfield 23, 3) := by decide +kernel
theorem d_prog_51_method_1_56 : decode prog_51_method_1_code 56 = .ok (.return_, 1) := by decide +kernel
theorem ef_init (m : MethodId) (x0 : Addr) (x1 : Int32) (x2 : Int32) : entryFrame m #[(.ref x0), (.int x1), (.int x2)] 3 = mkF m 0 #[.val (.ref x0), .val (.int x1), .val (.int x2)] [] := by first | (simp [entryFrame, mkF, argsToLocals, Value.category]; done) | rfl
def Qinit (Z : State) (a1 : Addr) (pw pd : Int32) (h0 : Heap) (n0 : Nat) (v : Option Value) (h : Heap) (L : List Loc) : Prop := v = none ∧ Fr n0 L ∧ Keep h0 h [a1] ∧ Fld Z h a1 "com/example/restoria/restoria/period/MonthSpan" "wholeMonths" "I" (.int pw) ∧ Fld Z h a1 "com/example/restoria/restoria/period/MonthSpan" "leftoverDays" "I" (.int pd)
theorem pn_com_example_restoria_restoria_period_MonthSpan : plainName "com/example/restoria/restoria/period/MonthSpan" = true := by first | (simp [plainName, overriddenIn]; done) | decide +kernel
set_option maxRecDepth 65536 in
set_option maxHeartbeats 40000000 in
theorem rminit (l : Launch) (Z : State) (a0 : Array Value) (hw : ∀ d ∈ tables_1, d.before a0 Z = true) (ws : List Jvm.Cond) (a1 : Addr) (pw pd : Int32) (h0 : Heap) (n0 : Nat) (O0 : Old Z n0 h0) (Ea : Exa Z h0 a1 "com/example/restoria/restoria/period/MonthSpan") (Fw : Fld Z h0 a1 "com/example/restoria/restoria/period/MonthSpan" "wholeMonths" "I" (.int (0 : Int32))) (Fd : Fld Z h0 a1 "com/example/restoria/restoria/period/MonthSpan" "leftoverDays" "I" (.int (0 : Int32))) (ga : n0 ≤ a1) (h1 : ¬ (pw < (0 : Int32))) (h2 : ¬ (pd < (0 : Int32))) (h3 : ¬ ((30 : Int32) < pd)) :
    MetFree l (⟨"com/example/restoria/restoria/period/MonthSpan", "<init>", "(II)V"⟩ : MethodName) (head1 (Jvm.Cond.code (⟨"com/example/restoria/restoria/period/MonthSpan", "<init>", "(II)V"⟩ : MethodName) prog_51_method_1_code 3 none :: ws) ({ frames := 2, cells := 0, slots := 0, locals := 24 } : Room)) (fun a U => a = #[(.ref a1), (.int pw), (.int pd)] ∧ Z.Warmed39 U.vm ∧ U.heap = h0) (fun _ _ _ _ _ => True) (fun _ U o U' => ∃ v L, o = .returned v ∧ Qinit Z a1 pw pd h0 n0 v U'.heap L ∧ FrameEnd U o U' L ({ frames := 2, cells := 0, slots := 0, locals := 24 } : Room).cells ({ frames := 2, cells := 0, slots := 0, locals := 24 } : Room).slots) := by
  refine MetFree.of_bodySF (plainFor_of_name pn_com_example_restoria_restoria_period_MonthSpan) hisR ?_
  intro p e s m args below meth c s₁ Bd hml0 hP hK
  obtain ⟨rfl, hZ, hh⟩ := hP
  have hx := Bd.exec
  have hby := Bd.bytes
  have hml : c.maxLocals = 3 := hml0
  have hown : s.vm.findClass "com/example/restoria/restoria/period/MonthSpan" = some m.cls := findClass_of_methodNamed Bd.named
  have hnm := (name_of_methodNamed Bd.named Bd.method).1
  have X0 : Stand p l e ({ frames := 2, cells := 0, slots := 0, locals := 24 } : Room) s m #[(.ref a1), (.int pw), (.int pd)] below meth c s₁ [] 0 0 := Stand.of_body Bd
  have e0 : s₁.heap = h0 := by rw [← hh, Bd.state]; rfl
  have N0 := Fr.nil n0
  have hS0 : s.Since s.vm h0.size := State.WarmedH.since (State.WarmedH.refl s) _
  refine own_in (ef_init m a1 pw pd) ?_
  refine own_st (T' := s₁) (g' := (mkF m 1 #[.val (.ref a1), .val (.int pw), .val (.int pd)] [(.ref a1)])) (fun _ k => XS.aloadN X0.here hx rfl (hb hby d_prog_51_method_1_0) rfl rfl k) ?_
  obtain ⟨_, _, ⟨T1, L1, k1, n1⟩, -, X1, ⟨Lc1, hQ1, l1, y1, z1⟩, st1⟩ := X0.specialBack hx (y := (⟨"java/lang/Record", "<init>", "()V"⟩ : MethodName)) rfl hown (mvT hZ (hw _ (List.mem_of_getElem? (i := 7) rfl))) (mvT hZ (hw _ (List.mem_of_getElem? (i := 8) rfl))) (mvT hZ (hw _ (List.mem_of_getElem? (i := 11) rfl))) (by decide) (backOf (W := 0) (rmrec l Z a0 hw [] a1 h0 n0 O0) hZ (hw _ (List.mem_of_getElem? (i := 11) rfl)) (hw _ (List.mem_of_getElem? (i := 10) rfl)) (by decide) (by decide)) (g := (mkF m 1 #[.val (.ref a1), .val (.int pw), .val (.int pd)] [(.ref a1)])) rfl (by rw [hml]; rfl) (Steps.refl _) (a := a1) (argsL := []) (rest := []) (lenOf pd_V_167 rfl) rfl (by show 2 * 0 + _ ≤ _; exact Nat.le_of_eq rfl) (hb hby d_prog_51_method_1_1) (fun _ _ => ⟨rfl, e0, (by decide : 0 + 0 ≤ _), (by decide : 0 + 0 ≤ _)⟩)
  dsimp only [Pt.U, Pt.locs, Pt.cells, Pt.slots] at X1 l1 y1 z1 st1 hQ1
  subst l1 y1 z1
  obtain ⟨rfl, Nq1, hh1⟩ := hQ1
  have N2 := Fr.app N0 Nq1
  refine own_ts (T' := T1) (g' := (mkF m 4 #[.val (.ref a1), .val (.int pw), .val (.int pd)] [])) st1 ?_
  refine own_st (T' := T1) (g' := (mkF m 5 #[.val (.ref a1), .val (.int pw), .val (.int pd)] [(.int pw)])) (fun _ k => XS.iloadN X1.here hx rfl (hb hby d_prog_51_method_1_4) rfl k) ?_
  refine own_st (T' := T1) (g' := (mkF m 22 #[.val (.ref a1), .val (.int pw), .val (.int pd)] [])) (fun _ k => XS.ifYes X1.here hx rfl (pc0 := 5) (pc' := 22) rfl (hb hby d_prog_51_method_1_5) rfl ((if0 _ _).trans (flt (h1 : ¬ (pw < (0 : Int32)))).2.1) (by decide) (by decide) k) ?_
  refine own_st (T' := T1) (g' := (mkF m 23 #[.val (.ref a1), .val (.int pw), .val (.int pd)] [(.int pd)])) (fun _ k => XS.iloadN X1.here hx rfl (hb hby d_prog_51_method_1_22) rfl k) ?_
  refine own_st (T' := T1) (g' := (mkF m 26 #[.val (.ref a1), .val (.int pw), .val (.int pd)] [])) (fun _ k => XS.ifNo X1.here hx rfl (hb hby d_prog_51_method_1_23) rfl ((if0 _ _).trans (flt (h2 : ¬ (pd < (0 : Int32)))).1) k) ?_
  refine own_st (T' := T1) (g' := (mkF m 27 #[.val (.ref a1), .val (.int pw), .val (.int pd)] [(.int pd)])) (fun _ k => XS.iloadN X1.here hx rfl (hb hby d_prog_51_method_1_26) rfl k) ?_
  refine own_st (T' := T1) (g' := (mkF m 29 #[.val (.ref a1), .val (.int pw), .val (.int pd)] [(.int (30 : Int32)), (.int pd)])) (fun _ k => XS.bipush X1.here hx rfl (hb hby d_prog_51_method_1_27) k) ?_
  refine own_st (T' := T1) (g' := (mkF m 46 #[.val (.ref a1), .val (.int pw), .val (.int pd)] [])) (fun _ k => XS.icmpYes X1.here hx rfl (pc0 := 29) (pc' := 46) rfl (hb hby d_prog_51_method_1_29) rfl (flt (h3 : ¬ ((30 : Int32) < pd))).2.2.2 (by decide) (by decide) k) ?_
  refine own_st (T' := T1) (g' := (mkF m 47 #[.val (.ref a1), .val (.int pw), .val (.int pd)] [(.ref a1)])) (fun _ k => XS.aloadN X1.here hx rfl (hb hby d_prog_51_method_1_46) rfl rfl k) ?_
  refine own_st (T' := T1) (g' := (mkF m 48 #[.val (.ref a1), .val (.int pw), .val (.int pd)] [(.int pw), (.ref a1)])) (fun _ k => XS.iloadN X1.here hx rfl (hb hby d_prog_51_method_1_47) rfl k) ?_
  obtain ⟨T3, h3, X3, e3, W3, st3⟩ := putF X1 hx hZ hown (host := "") (Or.inl (hw _ (List.mem_of_getElem? (i := 15) rfl))) Via.refl hh1 Fw Ea (Or.inr ⟨(hw _ (List.mem_of_getElem? (i := 16) rfl)), rfl, hnm⟩) (hw _ (List.mem_of_getElem? (i := 2) rfl)) (ty := .int) (by decide) rfl rfl (g := (mkF m 48 #[.val (.ref a1), .val (.int pw), .val (.int pd)] [(.int pw), (.ref a1)])) rfl rfl (hb hby d_prog_51_method_1_48)
  have Fw3 : Fld Z h3 a1 "com/example/restoria/restoria/period/MonthSpan" "wholeMonths" "I" (.int pw) := Fld.same W3 Fw
  have N4 := Fr.snoc X3 N2 ga
  refine own_st (T' := T3) (g' := (mkF m 51 #[.val (.ref a1), .val (.int pw), .val (.int pd)] [])) (st3) ?_
  refine own_st (T' := T3) (g' := (mkF m 52 #[.val (.ref a1), .val (.int pw), .val (.int pd)] [(.ref a1)])) (fun _ k => XS.aloadN X3.here hx rfl (hb hby d_prog_51_method_1_51) rfl rfl k) ?_
  refine own_st (T' := T3) (g' := (mkF m 53 #[.val (.ref a1), .val (.int pw), .val (.int pd)] [(.int pd), (.ref a1)])) (fun _ k => XS.iloadN X3.here hx rfl (hb hby d_prog_51_method_1_52) rfl k) ?_
  have E_a1_5 : Exa Z h3 a1 "com/example/restoria/restoria/period/MonthSpan" := (Ea.wr W3)
  have F_a1_leftoverDays_6 : Fld Z h3 a1 "com/example/restoria/restoria/period/MonthSpan" "leftoverDays" "I" (.int (0 : Int32)) := (Fd.other W3 (Or.inr (slot_ne (Or.inr (hw _ (List.mem_of_getElem? (i := 18) rfl))) (Or.inr (hw _ (List.mem_of_getElem? (i := 16) rfl))) (by decide) (t := .int) (t' := .int) (by decide) (by decide))))
  obtain ⟨T7, h7, X7, e7, W7, st7⟩ := putF X3 hx hZ hown (host := "") (Or.inl (hw _ (List.mem_of_getElem? (i := 17) rfl))) Via.refl e3 F_a1_leftoverDays_6 E_a1_5 (Or.inr ⟨(hw _ (List.mem_of_getElem? (i := 18) rfl)), rfl, hnm⟩) (hw _ (List.mem_of_getElem? (i := 2) rfl)) (ty := .int) (by decide) rfl rfl (g := (mkF m 53 #[.val (.ref a1), .val (.int pw), .val (.int pd)] [(.int pd), (.ref a1)])) rfl rfl (hb hby d_prog_51_method_1_53)
  have Fw7 : Fld Z h7 a1 "com/example/restoria/restoria/period/MonthSpan" "leftoverDays" "I" (.int pd) := Fld.same W7 F_a1_leftoverDays_6
  have N8 := Fr.snoc X7 N4 ga
  refine own_st (T' := T7) (g' := (mkF m 56 #[.val (.ref a1), .val (.int pw), .val (.int pd)] [])) (st7) ?_
  have K9 : Keep h0 h7 [a1] := (((Keep.refl h0 [a1]).wr W3 (Or.inl (List.mem_of_getElem? (i := 0) rfl))).wr W7 (Or.inl (List.mem_of_getElem? (i := 0) rfl)))
  have F_a1_wholeMonths_10 : Fld Z h7 a1 "com/example/restoria/restoria/period/MonthSpan" "wholeMonths" "I" (.int pw) := (Fw3.other W7 (Or.inr (slot_ne (Or.inr (hw _ (List.mem_of_getElem? (i := 16) rfl))) (Or.inr (hw _ (List.mem_of_getElem? (i := 18) rfl))) (by decide) (t := .int) (t' := .int) (by decide) (by decide))))
  refine own_out X7 Bd.notSynchronized (v := none) (fun _ => rfl) (fun fs hr => X7.returnOut hx Bd.returns (hb hby d_prog_51_method_1_56) hr) ?_ (by decide) (by decide)
  rw [e7]
  exact ⟨rfl, N8, K9, F_a1_wholeMonths_10, Fw7⟩
theorem d_prog_51_method_4_0 : decode prog_51_method_4_code 0 = .ok (.aload_n 0, 1) := by decide +kernel
theorem d_prog_51_method_4_1 : decode prog_51_method_4_code 1 = .ok (.getfield 23, 3) := by decide +kernel
theorem d_prog_51_method_4_4 : decode prog_51_method_4_code 4 = .ok (.ifCond .ne 10, 3) := by decide +kernel
theorem d_prog_51_method_4_7 : decode prog_51_method_4_code 7 = .ok (.aload_n 0, 1) := by decide +kernel
theorem d_prog_51_method_4_8 : decode prog_51_method_4_code 8 = .ok (.getfield 17, 3) := by decide +kernel
theorem d_prog_51_method_4_11 : decode prog_51_method_4_code 11 = .ok (.goto 9, 3) := by decide +kernel
theorem d_prog_51_method_4_20 : decode prog_51_method_4_code 20 = .ok (.ireturn, 1) := by decide +kernel
theorem d_prog_51_method_4_14 : decode prog_51_method_4_code 14 = .ok (.aload_n 0, 1) := by decide +kernel
theorem d_prog_51_method_4_15 : decode prog_51_method_4_code 15 = .ok (.getfield 17, 3) := by decide +kernel
theorem d_prog_51_method_4_18 : decode prog_51_method_4_code 18 = .ok (.iconst 1, 1) := by decide +kernel
theorem d_prog_51_method_4_19 : decode prog_51_method_4_code 19 = .ok (.iadd, 1) := by decide +kernel
theorem ef_up (m : MethodId) (x0 : Addr) : entryFrame m #[(.ref x0)] 1 = mkF m 0 #[.val (.ref x0)] [] := by first | (simp [entryFrame, mkF, argsToLocals, Value.category]; done) | rfl
def Qup (Z : State) (a1 : Addr) (pw pd : Int32) (h0 : Heap) (n0 : Nat) (v : Option Value) (h : Heap) (L : List Loc) : Prop := v = some (.int (if pd = 0 then pw else pw + 1)) ∧ Fr n0 L ∧ h = h0
set_option maxRecDepth 65536 in
set_option maxHeartbeats 40000000 in
theorem rmup (l : Launch) (Z : State) (a0 : Array Value) (hw : ∀ d ∈ tables_1, d.before a0 Z = true) (ws : List Jvm.Cond) (a1 : Addr) (pw pd : Int32) (h0 : Heap) (n0 : Nat) (O0 : Old Z n0 h0) (Fw : Fld Z h0 a1 "com/example/restoria/restoria/period/MonthSpan" "wholeMonths" "I" (.int pw)) (Fd : Fld Z h0 a1 "com/example/restoria/restoria/period/MonthSpan" "leftoverDays" "I" (.int pd)) :
    MetFree l (⟨"com/example/restoria/restoria/period/MonthSpan", "monthsRoundedUp", "()I"⟩ : MethodName) (head1 (Jvm.Cond.code (⟨"com/example/restoria/restoria/period/MonthSpan", "monthsRoundedUp", "()I"⟩ : MethodName) prog_51_method_4_code 1 (some .int) :: ws) ({ frames := 0, cells := 0, slots := 0, locals := 0 } : Room)) (fun a U => a = #[(.ref a1)] ∧ Z.Warmed39 U.vm ∧ U.heap = h0) (fun _ _ _ _ _ => True) (fun _ U o U' => ∃ v L, o = .returned v ∧ Qup Z a1 pw pd h0 n0 v U'.heap L ∧ FrameEnd U o U' L ({ frames := 0, cells := 0, slots := 0, locals := 0 } : Room).cells ({ frames := 0, cells := 0, slots := 0, locals := 0 } : Room).slots) := by
  refine MetFree.of_bodySF (plainFor_of_name pn_com_example_restoria_restoria_period_MonthSpan) hisR ?_
  intro p e s m args below meth c s₁ Bd hml0 hP hK
  obtain ⟨rfl, hZ, hh⟩ := hP
  have hx := Bd.exec
  have hby := Bd.bytes
  have hml : c.maxLocals = 1 := hml0
  have hown : s.vm.findClass "com/example/restoria/restoria/period/MonthSpan" = some m.cls := findClass_of_methodNamed Bd.named
  have hnm := (name_of_methodNamed Bd.named Bd.method).1
  have X0 : Stand p l e ({ frames := 0, cells := 0, slots := 0, locals := 0 } : Room) s m #[(.ref a1)] below meth c s₁ [] 0 0 := Stand.of_body Bd
  have e0 : s₁.heap = h0 := by rw [← hh, Bd.state]; rfl
  have N0 := Fr.nil n0
  have hS0 : s.Since s.vm h0.size := State.WarmedH.since (State.WarmedH.refl s) _
  refine own_in (ef_up m a1) ?_
  refine own_st (T' := s₁) (g' := (mkF m 1 #[.val (.ref a1)] [(.ref a1)])) (fun _ k => XS.aloadN X0.here hx rfl (hb hby d_prog_51_method_4_0) rfl rfl k) ?_
  obtain ⟨T1, X1, e1, st1⟩ := getF X0 hx hZ hown (host := "") (Or.inl (hw _ (List.mem_of_getElem? (i := 17) rfl))) Via.refl e0 Fd (g := (mkF m 1 #[.val (.ref a1)] [(.ref a1)])) rfl rfl (hb hby d_prog_51_method_4_1)
  refine own_st (T' := T1) (g' := (mkF m 4 #[.val (.ref a1)] [(.int pd)])) (st1) ?_
  by_cases hq : pd = (0 : Int32)
  · refine own_st (T' := T1) (g' := (mkF m 7 #[.val (.ref a1)] [])) (fun _ k => XS.ifNo X1.here hx rfl (hb hby d_prog_51_method_4_4) rfl ((if0 _ _).trans (teq (hq : pd = (0 : Int32))).2) k) ?_
    refine own_st (T' := T1) (g' := (mkF m 8 #[.val (.ref a1)] [(.ref a1)])) (fun _ k => XS.aloadN X1.here hx rfl (hb hby d_prog_51_method_4_7) rfl rfl k) ?_
    obtain ⟨T2, X2, e2, st2⟩ := getF X1 hx hZ hown (host := "") (Or.inl (hw _ (List.mem_of_getElem? (i := 15) rfl))) Via.refl e1 Fw (g := (mkF m 8 #[.val (.ref a1)] [(.ref a1)])) rfl rfl (hb hby d_prog_51_method_4_8)
    refine own_st (T' := T2) (g' := (mkF m 11 #[.val (.ref a1)] [(.int pw)])) (st2) ?_
    refine own_st (T' := T2) (g' := (mkF m 20 #[.val (.ref a1)] [(.int pw)])) (fun _ k => XS.goto X2.here hx rfl (pc0 := 11) (pc' := 20) rfl (hb hby d_prog_51_method_4_11) (by decide) (by decide) k) ?_
    refine own_out X2 Bd.notSynchronized (v := (some (.int pw))) (fun h => by rw [Bd.returns] at h; cases h) (fun fs hr => own_retI X2 hx Bd.returns (hb hby d_prog_51_method_4_20) hr) ?_ (by decide) (by decide)
    rw [e2]
    exact ⟨by rw [if_pos hq], N0, rfl⟩
  · refine own_st (T' := T1) (g' := (mkF m 14 #[.val (.ref a1)] [])) (fun _ k => XS.ifYes X1.here hx rfl (pc0 := 4) (pc' := 14) rfl (hb hby d_prog_51_method_4_4) rfl ((if0 _ _).trans (feq (hq : ¬ (pd = (0 : Int32)))).2) (by decide) (by decide) k) ?_
    refine own_st (T' := T1) (g' := (mkF m 15 #[.val (.ref a1)] [(.ref a1)])) (fun _ k => XS.aloadN X1.here hx rfl (hb hby d_prog_51_method_4_14) rfl rfl k) ?_
    obtain ⟨T3, X3, e3, st3⟩ := getF X1 hx hZ hown (host := "") (Or.inl (hw _ (List.mem_of_getElem? (i := 15) rfl))) Via.refl e1 Fw (g := (mkF m 15 #[.val (.ref a1)] [(.ref a1)])) rfl rfl (hb hby d_prog_51_method_4_15)
    refine own_st (T' := T3) (g' := (mkF m 18 #[.val (.ref a1)] [(.int pw)])) (st3) ?_
    refine own_st (T' := T3) (g' := (mkF m 19 #[.val (.ref a1)] [(.int (1 : Int32)), (.int pw)])) (fun _ k => XS.iconst X3.here hx rfl (hb hby d_prog_51_method_4_18) k) ?_
    refine own_st (T' := T3) (g' := (mkF m 20 #[.val (.ref a1)] [(.int (pw + (1 : Int32)))])) (fun _ k => XS.iadd X3.here hx rfl (hb hby d_prog_51_method_4_19) rfl k) ?_
    refine own_out X3 Bd.notSynchronized (v := (some (.int (pw + (1 : Int32))))) (fun h => by rw [Bd.returns] at h; cases h) (fun fs hr => own_retI X3 hx Bd.returns (hb hby d_prog_51_method_4_20) hr) ?_ (by decide) (by decide)
    rw [e3]
    exact ⟨by rw [if_neg hq], N0, rfl⟩
theorem own_w (a : Int32) : 0 ≤ (a &&& 2147483647).toInt := (c_and a 2147483647 (by decide)).1
theorem own_d (b : Int32) : 0 ≤ ((b &&& 2147483647) % 31).toInt ∧ ((b &&& 2147483647) % 31).toInt ≤ 30 := by
  have h := (c_irem (b &&& 2147483647) 31 31 rfl).1 (own_w b)
  omega
theorem own_law (w d : Int32) (hw : 0 ≤ w.toInt) (h0 : 0 ≤ d.toInt) (h1 : d.toInt ≤ 30) : (if d = 0 then w else w + 1) = ((((31 : Int64) * w.toInt64 + d.toInt64) + (30 : Int64)) / (31 : Int64)).toInt32 := by
  have r := rng32 w
  have e1 := c_lmul 31 w.toInt64
  have e2 := c_ladd ((31 : Int64) * w.toInt64) d.toInt64
  have e3 := c_ladd ((31 : Int64) * w.toInt64 + d.toInt64) 30
  rw [c_i2l] at e1 e2
  have k31 : (31 : Int64).toInt = 31 := rfl
  have k30 : (30 : Int64).toInt = 30 := rfl
  rw [k31] at e1
  rw [k30] at e3
  have r1 := rng64 ((31 : Int64) * w.toInt64)
  have r2 := rng64 ((31 : Int64) * w.toInt64 + d.toInt64)
  have r3 := rng64 (((31 : Int64) * w.toInt64 + d.toInt64) + 30)
  have f3 : (((31 : Int64) * w.toInt64 + d.toInt64) + 30).toInt = 31 * w.toInt + d.toInt + 30 := by omega
  have e4 := (c_ldiv (((31 : Int64) * w.toInt64 + d.toInt64) + 30) 31 31 rfl (by decide)).1 (by omega)
  have e5 := c_l2i ((((31 : Int64) * w.toInt64 + d.toInt64) + (30 : Int64)) / (31 : Int64))
  have r5 := rng32 ((((31 : Int64) * w.toInt64 + d.toInt64) + (30 : Int64)) / (31 : Int64)).toInt32
  have e6 := c_iadd w 1
  have k1 : (1 : Int32).toInt = 1 := rfl
  rw [k1] at e6
  have r6 := rng32 (w + 1)
  apply Int32.toInt_inj.mp
  by_cases hq : d = 0
  · rw [if_pos hq]
    have : d.toInt = 0 := by rw [hq]; rfl
    omega
  · rw [if_neg hq]
    have : d.toInt ≠ 0 := fun z => hq (Int32.toInt_inj.mp (by rw [z]; rfl))
    omega
theorem pd_II_V_313 : parseMethodDescriptor "(II)V" = some ⟨[.int, .int], none⟩ := by decide +kernel
theorem pd_I_154 : parseMethodDescriptor "()I" = some ⟨[], some .int⟩ := by decide +kernel
theorem ef_0 (m : MethodId) (x0 : Int32) (x1 : Int32) : entryFrame m #[(.int x0), (.int x1)] maxLocals = mkF m 0 #[.val (.int x0), .val (.int x1), .unset, .unset, .unset, .unset, .unset, .unset] [] := by first | (simp [entryFrame, mkF, argsToLocals, Value.category, maxLocals]; done) | rfl
def Q0 (Z : State) (p1 p2 : Int32) (h0 : Heap) (n0 : Nat) (v : Option Value) (h : Heap) (L : List Loc) : Prop := v = some (.int 1) ∧ Fr n0 L
theorem pn_com_example_restoria_restoria_period_MonthSpanMonthsRoundedUpPinLaw : plainName "com/example/restoria/restoria/period/MonthSpanMonthsRoundedUpPinLaw" = true := by first | (simp [plainName, overriddenIn]; done) | decide +kernel
set_option maxRecDepth 65536 in
set_option maxHeartbeats 40000000 in
theorem rm0 (l : Launch) (Z : State) (a0 : Array Value) (hw : ∀ d ∈ tables_1, d.before a0 Z = true) (ws : List Jvm.Cond) (p1 p2 : Int32) (h0 : Heap) (n0 : Nat) (O0 : Old Z n0 h0) :
    MetFree l x (head1 (Jvm.Cond.code x code maxLocals ret :: ws) room_1) (fun a U => a = #[(.int p1), (.int p2)] ∧ Z.Warmed39 U.vm ∧ U.heap = h0) (fun _ _ _ _ _ => True) (fun _ U o U' => ∃ v L, o = .returned v ∧ Q0 Z p1 p2 h0 n0 v U'.heap L ∧ FrameEnd U o U' L room_1.cells room_1.slots) := by
  refine MetFree.of_bodySF (plainFor_of_name pn_com_example_restoria_restoria_period_MonthSpanMonthsRoundedUpPinLaw) hisR ?_
  intro p e s m args below meth c s₁ Bd hml0 hP hK
  obtain ⟨rfl, hZ, hh⟩ := hP
  have hx := Bd.exec
  have hby := Bd.bytes
  have hml : c.maxLocals = 8 := hml0
  have hown : s.vm.findClass "com/example/restoria/restoria/period/MonthSpanMonthsRoundedUpPinLaw" = some m.cls := findClass_of_methodNamed Bd.named
  have hnm := (name_of_methodNamed Bd.named Bd.method).1
  have X0 : Stand p l e room_1 s m #[(.int p1), (.int p2)] below meth c s₁ [] 0 0 := Stand.of_body Bd
  have e0 : s₁.heap = h0 := by rw [← hh, Bd.state]; rfl
  have N0 := Fr.nil n0
  have hS0 : s.Since s.vm h0.size := State.WarmedH.since (State.WarmedH.refl s) _
  refine own_in (ef_0 m p1 p2) ?_
  have hw0 := own_w p1
  have hd0 := own_d p2
  refine own_st (T' := s₁) (g' := (mkF m 1 #[.val (.int p1), .val (.int p2), .unset, .unset, .unset, .unset, .unset, .unset] [(.int p1)])) (fun _ k => XS.iloadN X0.here hx rfl (hb hby at_0) rfl k) ?_
  refine own_st (T' := s₁) (g' := (mkF m 3 #[.val (.int p1), .val (.int p2), .unset, .unset, .unset, .unset, .unset, .unset] [(.int (2147483647 : Int32)), (.int p1)])) (X0.ldcInt hx hown (mvT hZ (hw _ (List.mem_of_getElem? (i := 0) rfl))) (g := (mkF m 1 #[.val (.int p1), .val (.int p2), .unset, .unset, .unset, .unset, .unset, .unset] [(.int p1)])) rfl (hb hby at_1)) ?_
  refine own_st (T' := s₁) (g' := (mkF m 4 #[.val (.int p1), .val (.int p2), .unset, .unset, .unset, .unset, .unset, .unset] [(.int (p1 &&& (2147483647 : Int32)))])) (fun _ k => XS.iand X0.here hx rfl (hb hby at_3) rfl k) ?_
  refine own_st (T' := s₁) (g' := (mkF m 5 #[.val (.int p1), .val (.int p2), .val (.int (p1 &&& (2147483647 : Int32))), .unset, .unset, .unset, .unset, .unset] [])) (fun _ k => XS.istoreN X0.here hx rfl (hb hby at_4) rfl (l' := #[.val (.int p1), .val (.int p2), .val (.int (p1 &&& (2147483647 : Int32))), .unset, .unset, .unset, .unset, .unset]) rfl k) ?_
  generalize (p1 &&& (2147483647 : Int32)) = ww at hw0 ⊢
  refine own_st (T' := s₁) (g' := (mkF m 6 #[.val (.int p1), .val (.int p2), .val (.int ww), .unset, .unset, .unset, .unset, .unset] [(.int p2)])) (fun _ k => XS.iloadN X0.here hx rfl (hb hby at_5) rfl k) ?_
  refine own_st (T' := s₁) (g' := (mkF m 8 #[.val (.int p1), .val (.int p2), .val (.int ww), .unset, .unset, .unset, .unset, .unset] [(.int (2147483647 : Int32)), (.int p2)])) (X0.ldcInt hx hown (mvT hZ (hw _ (List.mem_of_getElem? (i := 0) rfl))) (g := (mkF m 6 #[.val (.int p1), .val (.int p2), .val (.int ww), .unset, .unset, .unset, .unset, .unset] [(.int p2)])) rfl (hb hby at_6)) ?_
  refine own_st (T' := s₁) (g' := (mkF m 9 #[.val (.int p1), .val (.int p2), .val (.int ww), .unset, .unset, .unset, .unset, .unset] [(.int (p2 &&& (2147483647 : Int32)))])) (fun _ k => XS.iand X0.here hx rfl (hb hby at_8) rfl k) ?_
  refine own_st (T' := s₁) (g' := (mkF m 11 #[.val (.int p1), .val (.int p2), .val (.int ww), .unset, .unset, .unset, .unset, .unset] [(.int (31 : Int32)), (.int (p2 &&& (2147483647 : Int32)))])) (fun _ k => XS.bipush X0.here hx rfl (hb hby at_9) k) ?_
  refine own_st (T' := s₁) (g' := (mkF m 12 #[.val (.int p1), .val (.int p2), .val (.int ww), .unset, .unset, .unset, .unset, .unset] [(.int ((p2 &&& (2147483647 : Int32)) % (31 : Int32)))])) (fun _ k => iremM X0 hx rfl (hb hby at_11) rfl (by decide) k) ?_
  refine own_st (T' := s₁) (g' := (mkF m 13 #[.val (.int p1), .val (.int p2), .val (.int ww), .val (.int ((p2 &&& (2147483647 : Int32)) % (31 : Int32))), .unset, .unset, .unset, .unset] [])) (fun _ k => XS.istoreN X0.here hx rfl (hb hby at_12) rfl (l' := #[.val (.int p1), .val (.int p2), .val (.int ww), .val (.int ((p2 &&& (2147483647 : Int32)) % (31 : Int32))), .unset, .unset, .unset, .unset]) rfl k) ?_
  generalize ((p2 &&& (2147483647 : Int32)) % (31 : Int32)) = dd at hd0 ⊢
  obtain ⟨hd0, hd1⟩ := hd0
  obtain ⟨T1, h1, X1, e1, E1, A1, D1, -, st1⟩ := newO X0 hx hZ hown (hw _ (List.mem_of_getElem? (i := 1) rfl)) (hw _ (List.mem_of_getElem? (i := 2) rfl)) (hw _ (List.mem_of_getElem? (i := 3) rfl)) e0 (g := (mkF m 13 #[.val (.int p1), .val (.int p2), .val (.int ww), .val (.int dd), .unset, .unset, .unset, .unset] [])) rfl (hb hby at_13) (by decide) (by decide)
  obtain ⟨b1, g1⟩ : ∃ z, z = h0.size := ⟨_, rfl⟩
  rw [← g1] at A1 D1 st1
  have g_b1 : n0 ≤ b1 := Nat.le_trans (own_old O0) (Nat.le_of_eq g1.symm)
  have sz_b1 : h0.size ≤ b1 := Nat.le_trans (Keep.refl h0 []).1 (Nat.le_of_eq g1.symm)
  have F_wholeMonths_b1 : Fld Z h1 b1 "com/example/restoria/restoria/period/MonthSpan" "wholeMonths" "I" (.int (0 : Int32)) := D1 (Or.inr (hw _ (List.mem_of_getElem? (i := 16) rfl))) (ty := .int) (by decide)
  have F_leftoverDays_b1 : Fld Z h1 b1 "com/example/restoria/restoria/period/MonthSpan" "leftoverDays" "I" (.int (0 : Int32)) := D1 (Or.inr (hw _ (List.mem_of_getElem? (i := 18) rfl))) (ty := .int) (by decide)
  refine own_st (T' := T1) (g' := (mkF m 16 #[.val (.int p1), .val (.int p2), .val (.int ww), .val (.int dd), .unset, .unset, .unset, .unset] [(.ref b1)])) (st1) ?_
  refine own_st (T' := T1) (g' := (mkF m 17 #[.val (.int p1), .val (.int p2), .val (.int ww), .val (.int dd), .unset, .unset, .unset, .unset] [(.ref b1), (.ref b1)])) (fun _ k => XS.dup X1.here hx rfl (hb hby at_16) rfl rfl k) ?_
  refine own_st (T' := T1) (g' := (mkF m 18 #[.val (.int p1), .val (.int p2), .val (.int ww), .val (.int dd), .unset, .unset, .unset, .unset] [(.int ww), (.ref b1), (.ref b1)])) (fun _ k => XS.iloadN X1.here hx rfl (hb hby at_17) rfl k) ?_
  refine own_st (T' := T1) (g' := (mkF m 19 #[.val (.int p1), .val (.int p2), .val (.int ww), .val (.int dd), .unset, .unset, .unset, .unset] [(.int dd), (.int ww), (.ref b1), (.ref b1)])) (fun _ k => XS.iloadN X1.here hx rfl (hb hby at_18) rfl k) ?_
  have O2 : Old Z n0 h1 := (O0.ext E1)
  obtain ⟨_, _, ⟨T3, L3, k3, n3⟩, -, X3, ⟨Lc3, hQ3, l3, y3, z3⟩, st3⟩ := X1.specialBack hx (y := (⟨"com/example/restoria/restoria/period/MonthSpan", "<init>", "(II)V"⟩ : MethodName)) rfl hown (mvT hZ (hw _ (List.mem_of_getElem? (i := 4) rfl))) (mvT hZ (hw _ (List.mem_of_getElem? (i := 5) rfl))) (mvT hZ (hw _ (List.mem_of_getElem? (i := 6) rfl))) (by decide) (backOf (W := 1) (rminit l Z a0 hw [] b1 ww dd h1 n0 O2 A1 F_wholeMonths_b1 F_leftoverDays_b1 g_b1 (own_nlt hw0) (own_nlt hd0) (own_nlt' hd1)) hZ (hw _ (List.mem_of_getElem? (i := 6) rfl)) (hw _ (List.mem_of_getElem? (i := 3) rfl)) (by decide) (by decide)) (g := (mkF m 19 #[.val (.int p1), .val (.int p2), .val (.int ww), .val (.int dd), .unset, .unset, .unset, .unset] [(.int dd), (.int ww), (.ref b1), (.ref b1)])) rfl (by rw [hml]; rfl) (Steps.refl _) (a := b1) (argsL := [(.int ww), (.int dd)]) (rest := [(.ref b1)]) (lenOf pd_II_V_313 rfl) rfl (by show 2 * 0 + _ ≤ _; exact Nat.le_of_eq rfl) (hb hby at_19) (fun _ _ => ⟨rfl, e1, (by decide : 1 + 0 ≤ _), (by decide : 2 + 0 ≤ _)⟩)
  dsimp only [Pt.U, Pt.locs, Pt.cells, Pt.slots] at X3 l3 y3 z3 st3 hQ3
  subst l3 y3 z3
  obtain ⟨rfl, Nq3, Kc3, Fa3, Fb3⟩ := hQ3
  have N4 := Fr.app N0 Nq3
  refine own_ts (T' := T3) (g' := (mkF m 22 #[.val (.int p1), .val (.int p2), .val (.int ww), .val (.int dd), .unset, .unset, .unset, .unset] [(.ref b1)])) st3 ?_
  refine own_st (T' := T3) (g' := (mkF m 24 #[.val (.int p1), .val (.int p2), .val (.int ww), .val (.int dd), .val (.ref b1), .unset, .unset, .unset] [])) (fun _ k => XS.astore X3.here hx rfl (hb hby at_22) rfl rfl (l' := #[.val (.int p1), .val (.int p2), .val (.int ww), .val (.int dd), .val (.ref b1), .unset, .unset, .unset]) rfl k) ?_
  refine own_st (T' := T3) (g' := (mkF m 26 #[.val (.int p1), .val (.int p2), .val (.int ww), .val (.int dd), .val (.ref b1), .unset, .unset, .unset] [(.ref b1)])) (fun _ k => XS.aload X3.here hx rfl (hb hby at_24) rfl rfl k) ?_
  have O5 : Old Z n0 T3.heap := (O2.keep Kc3 (allS g_b1 all0))
  have E_b1_7 : Exa Z T3.heap b1 "com/example/restoria/restoria/period/MonthSpan" := (A1.keep Kc3)
  obtain ⟨cq6, kq6, q6a, q6b, q6c⟩ := isOf hZ rfl E_b1_7
  obtain ⟨_, _, ⟨T6, L6, k6, n6⟩, -, X6, ⟨Lc6, hQ6, l6, y6, z6⟩, st6⟩ := X3.virtualBack hx (y := (⟨"com/example/restoria/restoria/period/MonthSpan", "monthsRoundedUp", "()I"⟩ : MethodName)) (z := (⟨"com/example/restoria/restoria/period/MonthSpan", "monthsRoundedUp", "()I"⟩ : MethodName)) hown (mvT hZ (hw _ (List.mem_of_getElem? (i := 19) rfl))) (mvT hZ (hw _ (List.mem_of_getElem? (i := 20) rfl))) (notFace_of_selects (args := #[]) (mvT hZ (hw _ (List.mem_of_getElem? (i := 22) rfl)))) (mvT hZ (hw _ (List.mem_of_getElem? (i := 22) rfl))) (mvT hZ (hw _ (List.mem_of_getElem? (i := 21) rfl))) (by decide) (backOf (W := 0) (rmup l Z a0 hw [] b1 ww dd T3.heap n0 O5 Fa3 Fb3) hZ (hw _ (List.mem_of_getElem? (i := 23) rfl)) (hw _ (List.mem_of_getElem? (i := 3) rfl)) (by decide) (by decide)) q6a q6c (g := (mkF m 26 #[.val (.int p1), .val (.int p2), .val (.int ww), .val (.int dd), .val (.ref b1), .unset, .unset, .unset] [(.ref b1)])) rfl (by rw [hml]; rfl) (Steps.refl _) (argsL := []) (rest := []) (lenOf pd_I_154 rfl) rfl (by show 2 * 0 + _ ≤ _; exact Nat.le_of_eq rfl) (hb hby at_26) (fun _ _ => ⟨rfl, rfl, (by decide : 1 + 0 ≤ _), (by decide : 2 + 0 ≤ _)⟩)
  dsimp only [Pt.U, Pt.locs, Pt.cells, Pt.slots] at X6 l6 y6 z6 st6 hQ6
  subst l6 y6 z6
  obtain ⟨rfl, Nq6, hh6⟩ := hQ6
  have N8 := Fr.app N4 Nq6
  refine own_ts (T' := T6) (g' := (mkF m 29 #[.val (.int p1), .val (.int p2), .val (.int ww), .val (.int dd), .val (.ref b1), .unset, .unset, .unset] [(.int (if dd = 0 then ww else ww + 1))])) st6 ?_
  refine own_st (T' := T6) (g' := (mkF m 31 #[.val (.int p1), .val (.int p2), .val (.int ww), .val (.int dd), .val (.ref b1), .val (.int (if dd = 0 then ww else ww + 1)), .unset, .unset] [])) (fun _ k => XS.istore X6.here hx rfl (hb hby at_29) rfl (l' := #[.val (.int p1), .val (.int p2), .val (.int ww), .val (.int dd), .val (.ref b1), .val (.int (if dd = 0 then ww else ww + 1)), .unset, .unset]) rfl k) ?_
  refine own_st (T' := T6) (g' := (mkF m 34 #[.val (.int p1), .val (.int p2), .val (.int ww), .val (.int dd), .val (.ref b1), .val (.int (if dd = 0 then ww else ww + 1)), .unset, .unset] [(.long (31 : Int64))])) (X6.ldc2Long hx hown (mvT hZ (hw _ (List.mem_of_getElem? (i := 24) rfl))) (g := (mkF m 31 #[.val (.int p1), .val (.int p2), .val (.int ww), .val (.int dd), .val (.ref b1), .val (.int (if dd = 0 then ww else ww + 1)), .unset, .unset] [])) rfl (hb hby at_31)) ?_
  refine own_st (T' := T6) (g' := (mkF m 35 #[.val (.int p1), .val (.int p2), .val (.int ww), .val (.int dd), .val (.ref b1), .val (.int (if dd = 0 then ww else ww + 1)), .unset, .unset] [(.int ww), (.long (31 : Int64))])) (fun _ k => XS.iloadN X6.here hx rfl (hb hby at_34) rfl k) ?_
  refine own_st (T' := T6) (g' := (mkF m 36 #[.val (.int p1), .val (.int p2), .val (.int ww), .val (.int dd), .val (.ref b1), .val (.int (if dd = 0 then ww else ww + 1)), .unset, .unset] [(.long (ww.toInt64)), (.long (31 : Int64))])) (fun _ k => XS.i2l X6.here hx rfl (hb hby at_35) rfl k) ?_
  refine own_st (T' := T6) (g' := (mkF m 37 #[.val (.int p1), .val (.int p2), .val (.int ww), .val (.int dd), .val (.ref b1), .val (.int (if dd = 0 then ww else ww + 1)), .unset, .unset] [(.long ((31 : Int64) * (ww.toInt64)))])) (fun _ k => XS.lmul X6.here hx rfl (hb hby at_36) rfl k) ?_
  refine own_st (T' := T6) (g' := (mkF m 38 #[.val (.int p1), .val (.int p2), .val (.int ww), .val (.int dd), .val (.ref b1), .val (.int (if dd = 0 then ww else ww + 1)), .unset, .unset] [(.int dd), (.long ((31 : Int64) * (ww.toInt64)))])) (fun _ k => XS.iloadN X6.here hx rfl (hb hby at_37) rfl k) ?_
  refine own_st (T' := T6) (g' := (mkF m 39 #[.val (.int p1), .val (.int p2), .val (.int ww), .val (.int dd), .val (.ref b1), .val (.int (if dd = 0 then ww else ww + 1)), .unset, .unset] [(.long (dd.toInt64)), (.long ((31 : Int64) * (ww.toInt64)))])) (fun _ k => XS.i2l X6.here hx rfl (hb hby at_38) rfl k) ?_
  refine own_st (T' := T6) (g' := (mkF m 40 #[.val (.int p1), .val (.int p2), .val (.int ww), .val (.int dd), .val (.ref b1), .val (.int (if dd = 0 then ww else ww + 1)), .unset, .unset] [(.long (((31 : Int64) * (ww.toInt64)) + (dd.toInt64)))])) (fun _ k => XS.ladd X6.here hx rfl (hb hby at_39) rfl k) ?_
  refine own_st (T' := T6) (g' := (mkF m 43 #[.val (.int p1), .val (.int p2), .val (.int ww), .val (.int dd), .val (.ref b1), .val (.int (if dd = 0 then ww else ww + 1)), .unset, .unset] [(.long (30 : Int64)), (.long (((31 : Int64) * (ww.toInt64)) + (dd.toInt64)))])) (X6.ldc2Long hx hown (mvT hZ (hw _ (List.mem_of_getElem? (i := 25) rfl))) (g := (mkF m 40 #[.val (.int p1), .val (.int p2), .val (.int ww), .val (.int dd), .val (.ref b1), .val (.int (if dd = 0 then ww else ww + 1)), .unset, .unset] [(.long (((31 : Int64) * (ww.toInt64)) + (dd.toInt64)))])) rfl (hb hby at_40)) ?_
  refine own_st (T' := T6) (g' := (mkF m 44 #[.val (.int p1), .val (.int p2), .val (.int ww), .val (.int dd), .val (.ref b1), .val (.int (if dd = 0 then ww else ww + 1)), .unset, .unset] [(.long ((((31 : Int64) * (ww.toInt64)) + (dd.toInt64)) + (30 : Int64)))])) (fun _ k => XS.ladd X6.here hx rfl (hb hby at_43) rfl k) ?_
  refine own_st (T' := T6) (g' := (mkF m 47 #[.val (.int p1), .val (.int p2), .val (.int ww), .val (.int dd), .val (.ref b1), .val (.int (if dd = 0 then ww else ww + 1)), .unset, .unset] [(.long (31 : Int64)), (.long ((((31 : Int64) * (ww.toInt64)) + (dd.toInt64)) + (30 : Int64)))])) (X6.ldc2Long hx hown (mvT hZ (hw _ (List.mem_of_getElem? (i := 24) rfl))) (g := (mkF m 44 #[.val (.int p1), .val (.int p2), .val (.int ww), .val (.int dd), .val (.ref b1), .val (.int (if dd = 0 then ww else ww + 1)), .unset, .unset] [(.long ((((31 : Int64) * (ww.toInt64)) + (dd.toInt64)) + (30 : Int64)))])) rfl (hb hby at_44)) ?_
  refine own_st (T' := T6) (g' := (mkF m 48 #[.val (.int p1), .val (.int p2), .val (.int ww), .val (.int dd), .val (.ref b1), .val (.int (if dd = 0 then ww else ww + 1)), .unset, .unset] [(.long (((((31 : Int64) * (ww.toInt64)) + (dd.toInt64)) + (30 : Int64)) / (31 : Int64)))])) (fun _ k => XS.ldiv X6.here hx rfl (hb hby at_47) rfl (by decide) k) ?_
  refine own_st (T' := T6) (g' := (mkF m 50 #[.val (.int p1), .val (.int p2), .val (.int ww), .val (.int dd), .val (.ref b1), .val (.int (if dd = 0 then ww else ww + 1)), .val (.long (((((31 : Int64) * (ww.toInt64)) + (dd.toInt64)) + (30 : Int64)) / (31 : Int64))), .second] [])) (fun _ k => XS.lstore X6.here hx rfl (hb hby at_48) rfl (l' := #[.val (.int p1), .val (.int p2), .val (.int ww), .val (.int dd), .val (.ref b1), .val (.int (if dd = 0 then ww else ww + 1)), .val (.long (((((31 : Int64) * (ww.toInt64)) + (dd.toInt64)) + (30 : Int64)) / (31 : Int64))), .second]) rfl k) ?_
  refine own_st (T' := T6) (g' := (mkF m 52 #[.val (.int p1), .val (.int p2), .val (.int ww), .val (.int dd), .val (.ref b1), .val (.int (if dd = 0 then ww else ww + 1)), .val (.long (((((31 : Int64) * (ww.toInt64)) + (dd.toInt64)) + (30 : Int64)) / (31 : Int64))), .second] [(.int (if dd = 0 then ww else ww + 1))])) (fun _ k => XS.iload X6.here hx rfl (hb hby at_50) rfl k) ?_
  refine own_st (T' := T6) (g' := (mkF m 54 #[.val (.int p1), .val (.int p2), .val (.int ww), .val (.int dd), .val (.ref b1), .val (.int (if dd = 0 then ww else ww + 1)), .val (.long (((((31 : Int64) * (ww.toInt64)) + (dd.toInt64)) + (30 : Int64)) / (31 : Int64))), .second] [(.long (((((31 : Int64) * (ww.toInt64)) + (dd.toInt64)) + (30 : Int64)) / (31 : Int64))), (.int (if dd = 0 then ww else ww + 1))])) (fun _ k => XS.lload X6.here hx rfl (hb hby at_52) rfl k) ?_
  refine own_st (T' := T6) (g' := (mkF m 55 #[.val (.int p1), .val (.int p2), .val (.int ww), .val (.int dd), .val (.ref b1), .val (.int (if dd = 0 then ww else ww + 1)), .val (.long (((((31 : Int64) * (ww.toInt64)) + (dd.toInt64)) + (30 : Int64)) / (31 : Int64))), .second] [(.int ((((((31 : Int64) * (ww.toInt64)) + (dd.toInt64)) + (30 : Int64)) / (31 : Int64)).toInt32)), (.int (if dd = 0 then ww else ww + 1))])) (fun _ k => XS.l2i X6.here hx rfl (hb hby at_54) rfl k) ?_
  refine own_st (T' := T6) (g' := (mkF m 58 #[.val (.int p1), .val (.int p2), .val (.int ww), .val (.int dd), .val (.ref b1), .val (.int (if dd = 0 then ww else ww + 1)), .val (.long (((((31 : Int64) * (ww.toInt64)) + (dd.toInt64)) + (30 : Int64)) / (31 : Int64))), .second] [])) (fun _ k => XS.icmpNo X6.here hx rfl (hb hby at_55) rfl (teq (own_law ww dd hw0 hd0 hd1 : (if dd = 0 then ww else ww + 1) = ((((((31 : Int64) * (ww.toInt64)) + (dd.toInt64)) + (30 : Int64)) / (31 : Int64)).toInt32))).2 k) ?_
  refine own_st (T' := T6) (g' := (mkF m 59 #[.val (.int p1), .val (.int p2), .val (.int ww), .val (.int dd), .val (.ref b1), .val (.int (if dd = 0 then ww else ww + 1)), .val (.long (((((31 : Int64) * (ww.toInt64)) + (dd.toInt64)) + (30 : Int64)) / (31 : Int64))), .second] [(.int (1 : Int32))])) (fun _ k => XS.iconst X6.here hx rfl (hb hby at_58) k) ?_
  refine own_st (T' := T6) (g' := (mkF m 63 #[.val (.int p1), .val (.int p2), .val (.int ww), .val (.int dd), .val (.ref b1), .val (.int (if dd = 0 then ww else ww + 1)), .val (.long (((((31 : Int64) * (ww.toInt64)) + (dd.toInt64)) + (30 : Int64)) / (31 : Int64))), .second] [(.int (1 : Int32))])) (fun _ k => XS.goto X6.here hx rfl (pc0 := 59) (pc' := 63) rfl (hb hby at_59) (by decide) (by decide) k) ?_
  refine own_out X6 Bd.notSynchronized (v := (some (.int (1 : Int32)))) (fun h => by rw [Bd.returns] at h; cases h) (fun fs hr => retN X6 hx (t := .boolean) Bd.returns (by simp) (hb hby at_63) hr) ?_ (by decide) (by decide)
  rw [hh6]
  exact ⟨rfl, N8⟩
set_option maxRecDepth 65536 in
set_option maxHeartbeats 40000000 in
theorem comes_1 {Post : Tables → Env → Array Value → State → Outcome → State → Prop} (hpost : ∀ tb e args s v u, (limb_1_1.after args s (.returned v) u = true ∧ limb_1_2.after args s (.returned v) u = true ∧ True) → FrameEnd s (.returned v) u (Jvm.fieldLocs frame_1_writes args s ++ Jvm.arrayLocs frame_1_arrays args s ++ Jvm.staticLocs frame_1_statics s) 16 128 → Post tb e args s (.returned v) u) :
    ArmFor flags0 classFile x code maxLocals ret World_1 tables_1 room_1 Calls_1 rest_1 Pre_1 Post := by
  intro l hfl _ _ p e ha hc hk s m args below hf hA hF happ hP
  obtain ⟨hcalls, hrest, hpre⟩ := hP
  obtain ⟨-, -, -, hnamed, -, -, -, hat⟩ := (Spec.applies_iff hf).mp happ
  obtain ⟨hg, hn⟩ := and_e (Cond.before_iff.mp (show (Jvm.Cond.and given_1 narrow_1).before args s = true from hpre))
  obtain ⟨hcnt, hg0⟩ := and_e hg
  obtain ⟨ha0, hg1⟩ := and_e hg0
  have ha1 := hg1
  obtain ⟨w0, w1, rfl⟩ : ∃ w0 w1 : Value, args = #[w0, w1] := by
    have hs : args.size = 2 := by simpa [Cond.value, given_1] using hcnt
    obtain ⟨L⟩ := args
    match L, hs with
    | [w0, w1], _ => exact ⟨w0, w1, rfl⟩
  have hw := fun d (hd : d ∈ tables_1) => atoms_spec (ws := Jvm.Cond.code x code maxLocals ret :: tables_1) hat d (List.mem_cons_of_mem _ hd)
  have hfit : Fit s := fun {y c} hc i hi => by
    obtain ⟨ha, rfl⟩ := Array.getElem?_eq_some_iff.mp hc
    have q := List.all_eq_true.mp ((Array.all_eq_true_iff_forall_mem.mp hF) _ (Array.getElem_mem ha)) i (List.mem_range.mpr hi)
    simpa [Array.getElem?_eq_getElem hi] using q
  obtain ⟨i0, ei0⟩ := is_v ha0
  obtain rfl : w0 = (.int i0) := Option.some.inj ei0
  obtain ⟨i1, ei1⟩ := is_v ha1
  obtain rfl : w1 = (.int i1) := Option.some.inj ei1
  obtain ⟨n, o, h1, h2, h3, _, L, rfl, ⟨rfl, N⟩, hq⟩ := rm0 l s _ hw tables_1 i0 i1 s.heap s.heap.size (Old.start s) p e ha hc hk s m _ below hf ((Spec.applies_iff_loose hf).mp happ).1 ⟨rfl, State.Warmed39.refl s, rfl⟩ trivial
  refine ⟨n, _, h1, h2, h3, hpost _ _ _ _ _ _ ⟨Cond.after_iff.mpr rfl, Cond.after_iff.mpr (eq_i res_at (Term.int_eval (1)) rfl), trivial⟩ ⟨hq.1, hq.2.1, (hq.2.2.sift fun y hy => Or.inr (N y hy)).mono (by decide) (by decide)⟩⟩
theorem main_1_1 : Claimed_1_1 := comes_1 fun _ _ _ _ _ _ h hF => ⟨h.1, hF⟩
theorem main_1_2 : Claimed_1_2 := comes_1 fun _ _ _ _ _ _ h hF => ⟨h.2.1, hF⟩
end Jvm.Pilot.@@N@@
namespace Jvm.Pilot.@@N@@
open Jvm Jvm.ClassFile Sem Op Lib Jvm.Free Jvm.Stand Jvm.Pilot.@@N@@.Jvm.D
/-! MADE BY PROGRAM (witnessworld.py) out of the Statement's table words and the real class files: 8 classes; the members and pool entries that the words name. The judged class is class 1, her method 1. -/
namespace start1
open Jvm.ClassFile
def u (s : String) : CpInfo := .utf8 (stringToUtf16 s)
/-- a pool by its gaps: so many unusable entries, then the entry; so many at the end -/
def gap : Nat → List CpInfo → List CpInfo
  | 0, r => r
  | n + 1, r => .unusable :: gap n r
def poolList (es : List (Nat × CpInfo)) (last : Nat) : List CpInfo := es.foldr (fun e r => gap e.1 (e.2 :: r)) (gap last [])
def pool (es : List (Nat × CpInfo)) (last : Nat) : Array CpInfo := ⟨poolList es last⟩
def fileOf (pool : Array CpInfo) (this : Nat) (attrs : Array Attribute := #[]) (ms : Array MethodInfo := #[]) (fl : Nat := 33) (sup : Nat := 0) (ifs : Array Nat := #[]) (fds : Array FieldInfo := #[]) : ClassFile where
  minorVersion := 0
  majorVersion := 65
  constantPool := pool
  accessFlags := fl
  thisClass := this
  superClass := sup
  interfaces := ifs
  fields := fds
  methods := ms
  attributes := attrs
def plain (name : String) (sup : Option ClassId) : Class where
  name := name
  kind := .ordinary
  loader := none
  accessFlags := 33
  super := sup
  interfaces := #[]
  cf := none
  fields := #[]
  methods := #[]
  instanceTypes := #[]
  staticTypes := #[]
  resolved := #[]
  callSites := []
  init := .initialized
  statics := none
  mirror := none

def pool0 : Array CpInfo := pool [(5, u "<init>"), (0, u "()V"), (1, .class_ 10), (1, u "java/lang/Object")] 113

def k0c0 : Code := { maxStack := 0, maxLocals := 1, code := object_method_1_code, exceptionTable := #[], attributes := #[] }
def k0m0 : Method := { name := "<init>", desc := "()V", sig := { parameters := [], returnType := none }, accessFlags := 1, code := some k0c0 }
/-- java/lang/Object -/
def k0 : Class := { plain "java/lang/Object" none with
  accessFlags := 33
  interfaces := #[]
  cf := some (fileOf pool0 8 #[] #[{ accessFlags := 1, nameIndex := 5, descriptorIndex := 6, attributes := #[] }] 33 0 #[] #[])
  fields := #[]
  methods := #[k0m0]
  instanceTypes := #[]
  staticTypes := #[]
  resolved := Array.replicate 124 none
  statics := none }

def pool1 : Array CpInfo := pool [(2, .class_ 4), (1, u "java/lang/Object"), (0, u "<init>"), (0, u "()V"), (0, .integer 2147483647), (0, .class_ 9), (0, u "com/example/restoria/restoria/period/MonthSpan"), (0, .methodref 8 11), (0, .nameAndType 5 12), (0, u "(II)V"), (0, .methodref 8 14), (0, .nameAndType 15 16), (0, u "monthsRoundedUp"), (0, u "()I"), (0, .long 31), (1, .long 30), (1, .class_ 22), (0, u "com/example/restoria/restoria/period/MonthSpanMonthsRoundedUpPinLaw"), (2, u "law"), (0, u "(II)Z")] 3

def k1m0 : Method := { name := "<init>", desc := "()V", sig := { parameters := [], returnType := none }, accessFlags := 1, code := none }
def k1c1 : Code := { maxStack := 4, maxLocals := 8, code := code, exceptionTable := #[], attributes := #[] }
def k1m1 : Method := { name := "law", desc := "(II)Z", sig := { parameters := [.int, .int], returnType := some .boolean }, accessFlags := 9, code := some k1c1 }
/-- com/example/restoria/restoria/period/MonthSpanMonthsRoundedUpPinLaw -/
def k1 : Class := { plain "com/example/restoria/restoria/period/MonthSpanMonthsRoundedUpPinLaw" (some 0) with
  accessFlags := 49
  interfaces := #[]
  cf := some (fileOf pool1 21 #[] #[{ accessFlags := 1, nameIndex := 5, descriptorIndex := 6, attributes := #[] }, { accessFlags := 9, nameIndex := 25, descriptorIndex := 26, attributes := #[] }] 49 2 #[] #[])
  fields := #[]
  methods := #[k1m0, k1m1]
  instanceTypes := #[]
  staticTypes := #[]
  resolved := Array.replicate 30 none
  statics := none }

def pool2 : Array CpInfo := pool [(1, .methodref 2 3), (0, .class_ 4), (0, .nameAndType 5 6), (0, u "java/lang/Object"), (0, u "<init>"), (0, u "()V"), (0, .class_ 8), (0, u "java/lang/Record")] 13

def k2c0 : Code := { maxStack := 1, maxLocals := 1, code := jdk_30_method_1_code, exceptionTable := #[], attributes := #[] }
def k2m0 : Method := { name := "<init>", desc := "()V", sig := { parameters := [], returnType := none }, accessFlags := 4, code := some k2c0 }
/-- java/lang/Record -/
def k2 : Class := { plain "java/lang/Record" (some 0) with
  accessFlags := 1057
  interfaces := #[]
  cf := some (fileOf pool2 7 #[] #[{ accessFlags := 4, nameIndex := 5, descriptorIndex := 6, attributes := #[] }] 1057 2 #[] #[])
  fields := #[]
  methods := #[k2m0]
  instanceTypes := #[]
  staticTypes := #[]
  resolved := Array.replicate 22 none
  statics := none }

def pool3 : Array CpInfo := pool [(1, .methodref 2 3), (0, .class_ 4), (0, .nameAndType 5 6), (0, u "java/lang/Record"), (0, u "<init>"), (0, u "()V"), (10, .fieldref 18 19), (0, .class_ 20), (0, .nameAndType 21 22), (0, u "com/example/restoria/restoria/period/MonthSpan"), (0, u "wholeMonths"), (0, u "I"), (0, .fieldref 18 24), (0, .nameAndType 25 22), (0, u "leftoverDays"), (49, u "(II)V"), (24, u "monthsRoundedUp"), (0, u "()I")] 37

def k3c0 : Code := { maxStack := 3, maxLocals := 3, code := prog_51_method_1_code, exceptionTable := #[], attributes := #[] }
def k3m0 : Method := { name := "<init>", desc := "(II)V", sig := { parameters := [.int, .int], returnType := none }, accessFlags := 1, code := some k3c0 }
def k3c1 : Code := { maxStack := 2, maxLocals := 1, code := prog_51_method_4_code, exceptionTable := #[], attributes := #[] }
def k3m1 : Method := { name := "monthsRoundedUp", desc := "()I", sig := { parameters := [], returnType := some .int }, accessFlags := 1, code := some k3c1 }
/-- com/example/restoria/restoria/period/MonthSpan -/
def k3 : Class := { plain "com/example/restoria/restoria/period/MonthSpan" (some 2) with
  accessFlags := 49
  interfaces := #[]
  cf := some (fileOf pool3 18 #[] #[{ accessFlags := 1, nameIndex := 5, descriptorIndex := 75, attributes := #[] }, { accessFlags := 1, nameIndex := 100, descriptorIndex := 101, attributes := #[] }] 49 2 #[] #[{ accessFlags := 18, nameIndex := 21, descriptorIndex := 22, attributes := #[] }, { accessFlags := 18, nameIndex := 25, descriptorIndex := 22, attributes := #[] }])
  fields := #[{ name := "wholeMonths", type := .int, accessFlags := 18, slot := 0, constantValue := 0 }, { name := "leftoverDays", type := .int, accessFlags := 18, slot := 1, constantValue := 0 }]
  methods := #[k3m0, k3m1]
  instanceTypes := #[.int, .int]
  staticTypes := #[]
  resolved := Array.replicate 139 none
  statics := none }

def pool4 : Array CpInfo := pool [(1, u "java/lang/Cloneable"), (0, .class_ 1), (0, u "java/lang/Object"), (0, .class_ 3)] 3

/-- java/lang/Cloneable -/
def k4 : Class := { plain "java/lang/Cloneable" (some 0) with
  accessFlags := 1537
  interfaces := #[]
  cf := some (fileOf pool4 2 #[] #[] 1537 4 #[] #[])
  fields := #[]
  methods := #[]
  instanceTypes := #[]
  staticTypes := #[]
  resolved := Array.replicate 8 none
  statics := none }

def pool5 : Array CpInfo := pool [(1, u "java/io/Serializable"), (0, .class_ 1), (0, u "java/lang/Object"), (0, .class_ 3)] 3

/-- java/io/Serializable -/
def k5 : Class := { plain "java/io/Serializable" (some 0) with
  accessFlags := 1537
  interfaces := #[]
  cf := some (fileOf pool5 2 #[] #[] 1537 4 #[] #[])
  fields := #[]
  methods := #[]
  instanceTypes := #[]
  staticTypes := #[]
  resolved := Array.replicate 8 none
  statics := none }

/-- the primitive byte -/
def k6 : Class := { plain "byte" none with kind := .primitive 'B', accessFlags := 0x411 }
/-- [B -/
def k7 : Class := { plain "[B" (some 0) with kind := .array 6 .byte, interfaces := #[4, 5], accessFlags := 1041 }

def heap : Heap := #[]
def classes : Array Class := #[k0, k1, k2, k3, k4, k5, k6, k7]
def interned : List (Array UInt16 × Addr) := []
def slotsUsed : Nat := 0
def theMethod : MethodId := ⟨1, 1⟩
def args0 : Array Value := #[.int 5, .int 6]
def aboutOver (below : List Frame) : State where
  vm := { classes := classes, interned := interned.toArray }
  heap := heap
  slotsUsed := slotsUsed
  threads := #[{ frames := .invoking theMethod args0 :: below }]
def below0 : List Frame := [.native { method := ⟨0, 0⟩, args := #[] }]
def about1 : State := aboutOver below0
def p0 : Program := .bare "" "" ""
def e0 : Env := launch0.env 0 0 0
theorem w_frames : about1.frames = Frame.invoking theMethod args0 :: below0 := rfl
set_option maxRecDepth 65536 in
theorem w_args : argsFit about1.vm theMethod args0 = true := by decide +kernel
set_option maxRecDepth 65536 in
theorem w_heap : heapFits about1 = true := by decide +kernel
set_option maxRecDepth 65536 in
theorem w_runnable : about1.curStatus? = some .runnable := by decide +kernel
set_option maxRecDepth 65536 in
theorem w_alone : about1.alone = true := by decide +kernel
set_option maxRecDepth 65536 in
theorem w_named : about1.methodNamed? x = some theMethod := by decide +kernel
set_option maxRecDepth 65536 in
theorem w_hears : about1.hears theMethod below0 = true := by decide +kernel
set_option maxRecDepth 65536 in
theorem w_ripe : about1.ripe theMethod args0 below0 = true := by decide +kernel
theorem w_running : about1.status = .running := rfl
set_option maxRecDepth 65536 in
theorem w_room : about1.hasRoom e0.platform room_1 = true :=
  launch0.hasRoom_least _ room_1 (by decide +kernel) (by decide +kernel) (by decide +kernel) (by decide +kernel) (by decide +kernel) (by decide +kernel)
theorem allAtoms_all (ts : List Jvm.Cond) (a : Array Jvm.Value) (st : Jvm.State) : (allAtoms ts).before a st = ts.all (fun c => c.before a st) := by
  induction ts with
  | nil => rfl
  | cons c t ih =>
    show (Jvm.Cond.and c (allAtoms t)).before a st = _
    rw [Jvm.Cond.before_and, ih, List.all_cons]
def words1 : List Jvm.Cond := Jvm.Cond.code x code maxLocals ret :: tables_1
/-- a 'code' word, met by the world's own term for the bytes: nothing is compared byte by byte -/
theorem code_word {y : MethodName} {bytes : ByteArray} {mx : Nat} {rt : Option FieldType} {a : Array Value} {s : State} {m : MethodId} {meth : Method} {c : Code} (h1 : s.methodNamed? y = some m) (h2 : s.vm.method? m = some meth) (h3 : meth.code = some c) (h4 : c.code = bytes)
    (h5 : (c.maxLocals == mx && c.exceptionTable.isEmpty && decide (c.maxStack ≤ mostOperands) && decide (meth.sig.returnType = rt) && !meth.locks && decide (parseMethodDescriptor y.desc = some meth.sig)) = true) : (Jvm.Cond.code y bytes mx rt).before a s = true := by
  simp only [Bool.and_eq_true, beq_iff_eq, Bool.not_eq_true', decide_eq_true_eq] at h5
  obtain ⟨⟨⟨⟨⟨g1, g2⟩, g3⟩, g4⟩, g5⟩, g6⟩ := h5
  simp [Cond.before, Cond.holds, Cond.value, h1, h2, h3, h4, g1, g2, g3, g4, g5, g6]
def isCode : Jvm.Cond → Bool
  | .code _ _ _ _ => true
  | _ => false
theorem all_split {L : List Jvm.Cond} {P : Jvm.Cond → Bool} (h1 : L.all (fun c => isCode c || P c) = true) (h2 : ∀ c ∈ L.filter isCode, P c = true) : L.all P = true := by
  refine List.all_eq_true.mpr fun c hc => ?_
  have h := List.all_eq_true.mp h1 c hc
  rcases Bool.eq_false_or_eq_true (isCode c) with hi | hi
  · exact h2 c (List.mem_filter.mpr ⟨hc, hi⟩)
  · simpa [hi] using h
set_option maxRecDepth 65536 in
theorem w_c0 : (Jvm.Cond.code x code maxLocals ret).before args0 about1 = true := code_word (m := ⟨1, 1⟩) (meth := k1m1) (c := k1c1) (by decide +kernel) rfl rfl rfl (by decide +kernel)
set_option maxRecDepth 65536 in
theorem w_c1 : (Jvm.Cond.code ({ cls := "com/example/restoria/restoria/period/MonthSpan", name := "<init>", desc := "(II)V" } : Jvm.MethodName) prog_51_method_1_code (3 : Nat) (Option.none : Option Jvm.ClassFile.FieldType)).before args0 about1 = true := code_word (m := ⟨3, 0⟩) (meth := k3m0) (c := k3c0) (by decide +kernel) rfl rfl rfl (by decide +kernel)
set_option maxRecDepth 65536 in
theorem w_c2 : (Jvm.Cond.code ({ cls := "java/lang/Record", name := "<init>", desc := "()V" } : Jvm.MethodName) jdk_30_method_1_code (1 : Nat) (Option.none : Option Jvm.ClassFile.FieldType)).before args0 about1 = true := code_word (m := ⟨2, 0⟩) (meth := k2m0) (c := k2c0) (by decide +kernel) rfl rfl rfl (by decide +kernel)
set_option maxRecDepth 65536 in
theorem w_c3 : (Jvm.Cond.code ({ cls := "java/lang/Object", name := "<init>", desc := "()V" } : Jvm.MethodName) object_method_1_code (1 : Nat) (Option.none : Option Jvm.ClassFile.FieldType)).before args0 about1 = true := code_word (m := ⟨0, 0⟩) (meth := k0m0) (c := k0c0) (by decide +kernel) rfl rfl rfl (by decide +kernel)
set_option maxRecDepth 65536 in
theorem w_c4 : (Jvm.Cond.code ({ cls := "com/example/restoria/restoria/period/MonthSpan", name := "monthsRoundedUp", desc := "()I" } : Jvm.MethodName) prog_51_method_4_code (1 : Nat) (Option.some Jvm.ClassFile.FieldType.int)).before args0 about1 = true := code_word (m := ⟨3, 1⟩) (meth := k3m1) (c := k3c1) (by decide +kernel) rfl rfl rfl (by decide +kernel)
def codes1 : List Jvm.Cond := [Jvm.Cond.code x code maxLocals ret, Jvm.Cond.code ({ cls := "com/example/restoria/restoria/period/MonthSpan", name := "<init>", desc := "(II)V" } : Jvm.MethodName) prog_51_method_1_code (3 : Nat) (Option.none : Option Jvm.ClassFile.FieldType), Jvm.Cond.code ({ cls := "java/lang/Record", name := "<init>", desc := "()V" } : Jvm.MethodName) jdk_30_method_1_code (1 : Nat) (Option.none : Option Jvm.ClassFile.FieldType), Jvm.Cond.code ({ cls := "java/lang/Object", name := "<init>", desc := "()V" } : Jvm.MethodName) object_method_1_code (1 : Nat) (Option.none : Option Jvm.ClassFile.FieldType), Jvm.Cond.code ({ cls := "com/example/restoria/restoria/period/MonthSpan", name := "monthsRoundedUp", desc := "()I" } : Jvm.MethodName) prog_51_method_4_code (1 : Nat) (Option.some Jvm.ClassFile.FieldType.int)]
set_option maxRecDepth 65536 in
theorem codes_eq : words1.filter isCode = codes1 := rfl
theorem w_codes : ∀ c ∈ words1.filter isCode, c.before args0 about1 = true := by
  rw [codes_eq]
  intro c hc
  simp only [codes1, List.mem_cons, List.not_mem_nil, or_false] at hc
  rcases hc with rfl | rfl | rfl | rfl | rfl
  · exact w_c0
  · exact w_c1
  · exact w_c2
  · exact w_c3
  · exact w_c4
set_option maxRecDepth 65536 in
theorem w_t1 : (words1.take 24).all (fun c => isCode c || c.before args0 about1) = true := by decide +kernel
set_option maxRecDepth 65536 in
theorem w_t2 : (words1.drop 24).all (fun c => isCode c || c.before args0 about1) = true := by decide +kernel
theorem w_tables : (allAtoms (Jvm.Cond.code x code maxLocals ret :: tables_1)).before args0 about1 = true := by
  rw [allAtoms_all]
  show words1.all (fun c => c.before args0 about1) = true
  refine all_split ?_ w_codes
  rw [← List.take_append_drop 24 words1, List.all_append, w_t1, w_t2]
  rfl
set_option maxRecDepth 65536 in
theorem w_case : (Jvm.Cond.and given_1 narrow_1).before args0 about1 = true := by decide +kernel
theorem w_applies : (headSpec (Jvm.Cond.code x code maxLocals ret :: tables_1) room_1).applies x e0.platform about1 = true :=
  (Spec.applies_iff w_frames).mpr ⟨w_running, w_runnable, w_alone, w_named, w_hears, w_ripe, w_room, w_tables⟩
theorem atStart : AtStart classFile x code maxLocals ret World_1 tables_1 room_1 Calls_1 rest_1 Pre_1 launch0 p0 e0 about1 theMethod args0 below0 :=
  ⟨lists_1, trivial, launch0.admits_env _ _ _, launch0.least_env, fairChoices_fair.cas, fairChoices_fair.clock, w_frames, w_args, w_heap, w_applies, trivial, trivial, w_case⟩
end start1
theorem witness_1 : WitnessClaimed_1 := ⟨start1.p0, start1.e0, start1.about1, start1.theMethod, start1.args0, start1.below0, start1.atStart⟩
end Jvm.Pilot.@@N@@
