import JvmDerived
import JvmDerived.Pilot.@@N@@Statement
import JvmDerived.Pilot.@@N@@Code
set_option linter.unusedVariables false
set_option linter.unusedSimpArgs false
namespace Jvm.Pilot.@@N@@
open Jvm Jvm.ClassFile Sem Op Lib Jvm.Free Jvm.Stand Jvm.LawKit Jvm.RoadKit Bundle Jvm.Pilot.@@N@@.Jvm.D
section Own
variable {p : Program} {l : Launch} {e : Env} {R : Room} {s : State} {m : MethodId} {args : Array Value} {below : List Frame} {meth : Method} {c : Code} {T T' : State} {locs : List Loc} {cells slots : Nat} {g g' : JFrame} {Φ : State → Outcome → Prop}
/-- the run from T, at the frame g, comes to an end of which Φ speaks -/
def own_Go (p : Program) (e : Env) (below : List Frame) (Φ : State → Outcome → Prop) (T : State) (g : JFrame) : Prop :=
  ∃ s₂ o, Steps p.tables e below (T.setTop g) s₂ ∧ s₂.status = .running ∧ Ended s₂ below o ∧ Φ s₂ o
theorem own_st (k : ∀ target, Steps p.tables e below (T'.setTop g') target → Steps p.tables e below (T.setTop g) target) (h : own_Go p e below Φ T' g') : own_Go p e below Φ T g := by
  obtain ⟨s2, o, h1, h2⟩ := h
  exact ⟨s2, o, k _ h1, h2⟩
theorem own_ts (k : Steps p.tables e below (T.setTop g) (T'.setTop g')) (h : own_Go p e below Φ T' g') : own_Go p e below Φ T g := own_st (fun _ q => k.trans q) h
theorem own_in (q : g = g') (h : own_Go p e below Φ T g') : ∃ s₂ o, Steps p.tables e below (T.setTop g) s₂ ∧ s₂.status = .running ∧ Ended s₂ below o ∧ Φ s₂ o := by
  subst q; exact h
theorem own_out {Q : Option Value → Heap → List Loc → Prop} {kC kS : Nat} (X : Stand p l e R s m args below meth c T locs cells slots) (hl : meth.locks = false) {v : Option Value} (hv : meth.sig.returnType = none → v = none)
    (k : ∀ fs, (∀ (f : JFrame) (acts : List Action), f.method = m → f.locked = none → f.entered = [] → (doReturn e (T.setTop f) acts v).1 = T.setFrames fs) → Steps p.tables e below (T.setTop g) (T.setFrames fs)) (q : Q v T.heap locs) (hc : cells ≤ kC) (hs : slots ≤ kS) :
    own_Go p e below (fun s₂ o => ∃ v L, o = .returned v ∧ Q v s₂.heap L ∧ FrameEnd s o s₂ L kC kS) T g := by
  obtain ⟨fs, hr, hrun, hended, hW, hsame⟩ := X.leave (v := v) hv hl
  exact ⟨_, _, k fs hr, hrun, hended, _, _, rfl, q, ⟨_, rfl⟩, hW, hsame.mono hc hs⟩
theorem own_retI (X : Stand p l e R s m args below meth c T locs cells slots) (hx : p.tables.exec = Jvm.exec) {pc : Nat} {Ls : Array Slot} {z : Int32} {rest : List Value} (hret : meth.sig.returnType = some .int) (hd : decode c.code pc = .ok (.ireturn, 1)) {fs : List Frame}
    (hl : ∀ (f : JFrame) (acts : List Action), f.method = m → f.locked = none → f.entered = [] → (doReturn e (T.setTop f) acts (some (.int z))).1 = T.setFrames fs) : Steps p.tables e below (T.setTop (mkF m pc Ls (.int z :: rest))) (T.setFrames fs) :=
  retOut X hx hret rfl (Or.inl ⟨rfl, Or.inl rfl, z, rfl⟩) hd hl
theorem own_retA (X : Stand p l e R s m args below meth c T locs cells slots) (hx : p.tables.exec = Jvm.exec) {pc : Nat} {Ls : Array Slot} {w : Value} {t : FieldType} {rest : List Value} (hret : meth.sig.returnType = some t) (ht : t.isReference = true) (hw : w.isRef = true) (hn : narrow t w = w) (hd : decode c.code pc = .ok (.areturn, 1)) {fs : List Frame}
    (hl : ∀ (f : JFrame) (acts : List Action), f.method = m → f.locked = none → f.entered = [] → (doReturn e (T.setTop f) acts (some w)).1 = T.setFrames fs) : Steps p.tables e below (T.setTop (mkF m pc Ls (w :: rest))) (T.setFrames fs) :=
  retOut X hx hret hn (Or.inr (Or.inr (Or.inr (Or.inr ⟨rfl, ht, hw⟩)))) hd hl
theorem own_reX {a b : Vm} (X : Stand p l e R ((s.setVm a).setVm b) m args below meth c T locs cells slots) : Stand p l e R (s.setVm b) m args below meth c T locs cells slots := X
theorem own_outW {Q : Option Value → Heap → List Loc → Prop} {kC kS : Nat} {vm0 : Vm} (X : Stand p l e R (s.setVm vm0) m args below meth c T locs cells slots) {n : Nat} (hS : s.Since vm0 n) (hn : n ≤ T.heap.size) (hl : meth.locks = false) {v : Option Value} (hv : meth.sig.returnType = none → v = none)
    (k : ∀ fs, (∀ (f : JFrame) (acts : List Action), f.method = m → f.locked = none → f.entered = [] → (doReturn e (T.setTop f) acts v).1 = T.setFrames fs) → Steps p.tables e below (T.setTop g) (T.setFrames fs)) (q : Q v T.heap locs) (hc : cells ≤ kC) (hs : slots ≤ kS) :
    own_Go p e below (fun s₂ o => ∃ v L, o = .returned v ∧ Q v s₂.heap L ∧ ReturnedEndW s o s₂ L kC kS) T g := by
  obtain ⟨fs, hr, hrun, hended, h1, h2, h3, h4⟩ := X.leaveW hS hn (v := v) hv hl
  exact ⟨_, _, k fs hr, hrun, hended, _, _, rfl, q, h1, h2, h3, h4.mono hc hs⟩
theorem own_alen (X : Stand p l e R s m args below meth c T locs cells slots) (hx : p.tables.exec = Jvm.exec) {Z : State} (hZ : Z.Warmed39 s.vm) {h : Heap} (eT : T.heap = h) {a : Addr} {k : ClassId} {ty : FieldType} {z : Int32} {vs : List Value} {dv : Value} (F : Arv Z h a k ty z vs dv) {g : JFrame} (hg : g.method = m) {rest : List Value} (hs : g.stack = .ref a :: rest)
    (hd : decode c.code g.pc = .ok (.arraylength, 1)) : ∀ target, Steps p.tables e below (T.setTop { g with pc := g.pc + 1, stack := .int z :: rest }) target → Steps p.tables e below (T.setTop g) target := by
  obtain ⟨cl, A, q, S, N, H, G⟩ := F
  rw [← len_of S N]
  exact X.arraylength hx (by rw [eT]; exact A.1) (State.isArrayOf_alike hZ.alike A.2.1) hg hs hd
theorem own_old {Z : State} {n0 : Nat} {h : Heap} (O : Old Z n0 h) : n0 ≤ h.size := O.1 ▸ O.2.1
end Own
theorem own_strs {a0 : Array Value} {Z : State} (hw : ∀ d ∈ tables_1, d.before a0 Z = true) : ∀ a ∈ Bundle.stringAtoms, a.before a0 Z = true := fun a ha => by
  simp only [Bundle.stringAtoms, Bundle.sN, List.mem_cons, List.not_mem_nil, or_false] at ha
  rcases ha with rfl | rfl | rfl | rfl | rfl | rfl | rfl
  · exact (hw _ (List.mem_of_getElem? (i := 14) rfl))
  · exact (hw _ (List.mem_of_getElem? (i := 15) rfl))
  · exact (hw _ (List.mem_of_getElem? (i := 0) rfl))
  · exact (hw _ (List.mem_of_getElem? (i := 16) rfl))
  · exact (hw _ (List.mem_of_getElem? (i := 17) rfl))
  · exact (hw _ (List.mem_of_getElem? (i := 18) rfl))
  · exact (hw _ (List.mem_of_getElem? (i := 19) rfl))
theorem own_nlt {x y : Int32} (h : y.toInt ≤ x.toInt) : ¬ (x < y) := fun q => by
  have := Int32.lt_iff_toInt_lt.mp q
  omega
theorem own_lt {x y : Int32} (h : x.toInt < y.toInt) : x < y := Int32.lt_iff_toInt_lt.mpr h
def own_min (a b : Int32) : Int32 := if b < a then b else a
def own_max (a b : Int32) : Int32 := if a < b then b else a
def own_checked (f p e : Int32) : Int32 := if f = 0 then (if p < e then 1 else 0) else 1
theorem own_c0 (p e : Int32) : own_checked 0 p e = if p < e then 1 else 0 := by unfold own_checked; rw [if_pos rfl]
theorem own_c1 (p e : Int32) : own_checked 1 p e = 1 := by unfold own_checked; rw [if_neg (by decide)]
theorem own_mask (a : Int32) : 0 ≤ (a &&& 7).toInt ∧ (a &&& 7).toInt ≤ 7 := c_and a 7 (by decide)
theorem own_nat {x : Int32} (h : 0 ≤ x.toInt) : (x.toNatClampNeg : Int) = x.toInt := by
  have := nat_of (j := x) (own_nlt (y := 0) h)
  omega
theorem own_sub {x y : Int32} (h0 : -2147483648 ≤ x.toInt - y.toInt) (h1 : x.toInt - y.toInt < 2147483648) : (x - y).toInt = x.toInt - y.toInt := by
  have a := c_isub x y
  have b := rng32 (x - y)
  omega
theorem own_add {x y : Int32} (h0 : -2147483648 ≤ x.toInt + y.toInt) (h1 : x.toInt + y.toInt < 2147483648) : (x + y).toInt = x.toInt + y.toInt := by
  have a := c_iadd x y
  have b := rng32 (x + y)
  omega
theorem d_jdk_29_method_69_0 : decode jdk_29_method_69_code 0 = .ok (.iload_n 0, 1) := by decide +kernel
theorem d_jdk_29_method_69_1 : decode jdk_29_method_69_code 1 = .ok (.iload_n 1, 1) := by decide +kernel
theorem d_jdk_29_method_69_2 : decode jdk_29_method_69_code 2 = .ok (.if_icmp .gt 7, 3) := by decide +kernel
theorem d_jdk_29_method_69_9 : decode jdk_29_method_69_code 9 = .ok (.iload_n 1, 1) := by decide +kernel
theorem d_jdk_29_method_69_10 : decode jdk_29_method_69_code 10 = .ok (.ireturn, 1) := by decide +kernel
theorem d_jdk_29_method_69_5 : decode jdk_29_method_69_code 5 = .ok (.iload_n 0, 1) := by decide +kernel
theorem d_jdk_29_method_69_6 : decode jdk_29_method_69_code 6 = .ok (.goto 4, 3) := by decide +kernel
theorem ef_min (m : MethodId) (x0 : Int32) (x1 : Int32) : entryFrame m #[(.int x0), (.int x1)] 2 = mkF m 0 #[.val (.int x0), .val (.int x1)] [] := by first | (simp [entryFrame, mkF, argsToLocals, Value.category]; done) | rfl
def Qmin (Z : State) (x y : Int32) (h0 : Heap) (n0 : Nat) (v : Option Value) (h : Heap) (L : List Loc) : Prop := v = some (.int (own_min x y)) ∧ Fr n0 L ∧ h = h0
set_option maxRecDepth 65536 in
set_option maxHeartbeats 40000000 in
theorem rmmin (l : Launch) (Z : State) (a0 : Array Value) (hw : ∀ d ∈ tables_1, d.before a0 Z = true) (ws : List Jvm.Cond) (x y : Int32) (h0 : Heap) (n0 : Nat) (O0 : Old Z n0 h0) :
    MetFree l (⟨"java/lang/Math", "min", "(II)I"⟩ : MethodName) (head1 (Jvm.Cond.code (⟨"java/lang/Math", "min", "(II)I"⟩ : MethodName) jdk_29_method_69_code 2 (some .int) :: ws) ({ frames := 0, cells := 0, slots := 0, locals := 0 } : Room)) (fun a U => a = #[(.int x), (.int y)] ∧ Z.Warmed39 U.vm ∧ U.heap = h0) (fun _ _ _ _ _ => True) (fun _ U o U' => ∃ v L, o = .returned v ∧ Qmin Z x y h0 n0 v U'.heap L ∧ FrameEnd U o U' L ({ frames := 0, cells := 0, slots := 0, locals := 0 } : Room).cells ({ frames := 0, cells := 0, slots := 0, locals := 0 } : Room).slots) := by
  refine MetFree.of_bodySF (Jvm.Free.JP.mathPlain rfl (by decide +kernel)) hisR ?_
  intro p e s m args below meth c s₁ Bd hml0 hP hK
  obtain ⟨rfl, hZ, hh⟩ := hP
  have hx := Bd.exec
  have hby := Bd.bytes
  have hml : c.maxLocals = 2 := hml0
  have hown : s.vm.findClass "java/lang/Math" = some m.cls := findClass_of_methodNamed Bd.named
  have hnm := (name_of_methodNamed Bd.named Bd.method).1
  have X0 : Stand p l e ({ frames := 0, cells := 0, slots := 0, locals := 0 } : Room) s m #[(.int x), (.int y)] below meth c s₁ [] 0 0 := Stand.of_body Bd
  have e0 : s₁.heap = h0 := by rw [← hh, Bd.state]; rfl
  have N0 := Fr.nil n0
  have hS0 : s.Since s.vm h0.size := State.WarmedH.since (State.WarmedH.refl s) _
  refine own_in (ef_min m x y) ?_
  refine own_st (T' := s₁) (g' := (mkF m 1 #[.val (.int x), .val (.int y)] [(.int x)])) (fun _ kq => XS.iloadN X0.here hx rfl (hb hby d_jdk_29_method_69_0) rfl kq) ?_
  refine own_st (T' := s₁) (g' := (mkF m 2 #[.val (.int x), .val (.int y)] [(.int y), (.int x)])) (fun _ kq => XS.iloadN X0.here hx rfl (hb hby d_jdk_29_method_69_1) rfl kq) ?_
  by_cases hq : y < x
  · refine own_st (T' := s₁) (g' := (mkF m 9 #[.val (.int x), .val (.int y)] [])) (fun _ kq => XS.icmpYes X0.here hx rfl (pc0 := 2) (pc' := 9) rfl (hb hby d_jdk_29_method_69_2) rfl (tlt (hq : y < x)).2.2.1 (by decide) (by decide) kq) ?_
    refine own_st (T' := s₁) (g' := (mkF m 10 #[.val (.int x), .val (.int y)] [(.int y)])) (fun _ kq => XS.iloadN X0.here hx rfl (hb hby d_jdk_29_method_69_9) rfl kq) ?_
    refine own_out X0 Bd.notSynchronized (v := (some (.int y))) (fun h => by rw [Bd.returns] at h; cases h) (fun fs hr => own_retI X0 hx Bd.returns (hb hby d_jdk_29_method_69_10) hr) ?_ (by decide) (by decide)
    rw [e0]
    exact ⟨by unfold own_min; rw [if_pos hq], N0, rfl⟩
  · refine own_st (T' := s₁) (g' := (mkF m 5 #[.val (.int x), .val (.int y)] [])) (fun _ kq => XS.icmpNo X0.here hx rfl (hb hby d_jdk_29_method_69_2) rfl (flt (hq : ¬ (y < x))).2.2.1 kq) ?_
    refine own_st (T' := s₁) (g' := (mkF m 6 #[.val (.int x), .val (.int y)] [(.int x)])) (fun _ kq => XS.iloadN X0.here hx rfl (hb hby d_jdk_29_method_69_5) rfl kq) ?_
    refine own_st (T' := s₁) (g' := (mkF m 10 #[.val (.int x), .val (.int y)] [(.int x)])) (fun _ kq => XS.goto X0.here hx rfl (pc0 := 6) (pc' := 10) rfl (hb hby d_jdk_29_method_69_6) (by decide) (by decide) kq) ?_
    refine own_out X0 Bd.notSynchronized (v := (some (.int x))) (fun h => by rw [Bd.returns] at h; cases h) (fun fs hr => own_retI X0 hx Bd.returns (hb hby d_jdk_29_method_69_10) hr) ?_ (by decide) (by decide)
    rw [e0]
    exact ⟨by unfold own_min; rw [if_neg hq], N0, rfl⟩
theorem d_jdk_29_method_65_0 : decode jdk_29_method_65_code 0 = .ok (.iload_n 0, 1) := by decide +kernel
theorem d_jdk_29_method_65_1 : decode jdk_29_method_65_code 1 = .ok (.iload_n 1, 1) := by decide +kernel
theorem d_jdk_29_method_65_2 : decode jdk_29_method_65_code 2 = .ok (.if_icmp .lt 7, 3) := by decide +kernel
theorem d_jdk_29_method_65_9 : decode jdk_29_method_65_code 9 = .ok (.iload_n 1, 1) := by decide +kernel
theorem d_jdk_29_method_65_10 : decode jdk_29_method_65_code 10 = .ok (.ireturn, 1) := by decide +kernel
theorem d_jdk_29_method_65_5 : decode jdk_29_method_65_code 5 = .ok (.iload_n 0, 1) := by decide +kernel
theorem d_jdk_29_method_65_6 : decode jdk_29_method_65_code 6 = .ok (.goto 4, 3) := by decide +kernel
theorem ef_max (m : MethodId) (x0 : Int32) (x1 : Int32) : entryFrame m #[(.int x0), (.int x1)] 2 = mkF m 0 #[.val (.int x0), .val (.int x1)] [] := by first | (simp [entryFrame, mkF, argsToLocals, Value.category]; done) | rfl
def Qmax (Z : State) (x y : Int32) (h0 : Heap) (n0 : Nat) (v : Option Value) (h : Heap) (L : List Loc) : Prop := v = some (.int (own_max x y)) ∧ Fr n0 L ∧ h = h0
set_option maxRecDepth 65536 in
set_option maxHeartbeats 40000000 in
theorem rmmax (l : Launch) (Z : State) (a0 : Array Value) (hw : ∀ d ∈ tables_1, d.before a0 Z = true) (ws : List Jvm.Cond) (x y : Int32) (h0 : Heap) (n0 : Nat) (O0 : Old Z n0 h0) :
    MetFree l (⟨"java/lang/Math", "max", "(II)I"⟩ : MethodName) (head1 (Jvm.Cond.code (⟨"java/lang/Math", "max", "(II)I"⟩ : MethodName) jdk_29_method_65_code 2 (some .int) :: ws) ({ frames := 0, cells := 0, slots := 0, locals := 0 } : Room)) (fun a U => a = #[(.int x), (.int y)] ∧ Z.Warmed39 U.vm ∧ U.heap = h0) (fun _ _ _ _ _ => True) (fun _ U o U' => ∃ v L, o = .returned v ∧ Qmax Z x y h0 n0 v U'.heap L ∧ FrameEnd U o U' L ({ frames := 0, cells := 0, slots := 0, locals := 0 } : Room).cells ({ frames := 0, cells := 0, slots := 0, locals := 0 } : Room).slots) := by
  refine MetFree.of_bodySF (Jvm.Free.JP.mathPlain rfl (by decide +kernel)) hisR ?_
  intro p e s m args below meth c s₁ Bd hml0 hP hK
  obtain ⟨rfl, hZ, hh⟩ := hP
  have hx := Bd.exec
  have hby := Bd.bytes
  have hml : c.maxLocals = 2 := hml0
  have hown : s.vm.findClass "java/lang/Math" = some m.cls := findClass_of_methodNamed Bd.named
  have hnm := (name_of_methodNamed Bd.named Bd.method).1
  have X0 : Stand p l e ({ frames := 0, cells := 0, slots := 0, locals := 0 } : Room) s m #[(.int x), (.int y)] below meth c s₁ [] 0 0 := Stand.of_body Bd
  have e0 : s₁.heap = h0 := by rw [← hh, Bd.state]; rfl
  have N0 := Fr.nil n0
  have hS0 : s.Since s.vm h0.size := State.WarmedH.since (State.WarmedH.refl s) _
  refine own_in (ef_max m x y) ?_
  refine own_st (T' := s₁) (g' := (mkF m 1 #[.val (.int x), .val (.int y)] [(.int x)])) (fun _ kq => XS.iloadN X0.here hx rfl (hb hby d_jdk_29_method_65_0) rfl kq) ?_
  refine own_st (T' := s₁) (g' := (mkF m 2 #[.val (.int x), .val (.int y)] [(.int y), (.int x)])) (fun _ kq => XS.iloadN X0.here hx rfl (hb hby d_jdk_29_method_65_1) rfl kq) ?_
  by_cases hq : x < y
  · refine own_st (T' := s₁) (g' := (mkF m 9 #[.val (.int x), .val (.int y)] [])) (fun _ kq => XS.icmpYes X0.here hx rfl (pc0 := 2) (pc' := 9) rfl (hb hby d_jdk_29_method_65_2) rfl (tlt (hq : x < y)).1 (by decide) (by decide) kq) ?_
    refine own_st (T' := s₁) (g' := (mkF m 10 #[.val (.int x), .val (.int y)] [(.int y)])) (fun _ kq => XS.iloadN X0.here hx rfl (hb hby d_jdk_29_method_65_9) rfl kq) ?_
    refine own_out X0 Bd.notSynchronized (v := (some (.int y))) (fun h => by rw [Bd.returns] at h; cases h) (fun fs hr => own_retI X0 hx Bd.returns (hb hby d_jdk_29_method_65_10) hr) ?_ (by decide) (by decide)
    rw [e0]
    exact ⟨by unfold own_max; rw [if_pos hq], N0, rfl⟩
  · refine own_st (T' := s₁) (g' := (mkF m 5 #[.val (.int x), .val (.int y)] [])) (fun _ kq => XS.icmpNo X0.here hx rfl (hb hby d_jdk_29_method_65_2) rfl (flt (hq : ¬ (x < y))).1 kq) ?_
    refine own_st (T' := s₁) (g' := (mkF m 6 #[.val (.int x), .val (.int y)] [(.int x)])) (fun _ kq => XS.iloadN X0.here hx rfl (hb hby d_jdk_29_method_65_5) rfl kq) ?_
    refine own_st (T' := s₁) (g' := (mkF m 10 #[.val (.int x), .val (.int y)] [(.int x)])) (fun _ kq => XS.goto X0.here hx rfl (pc0 := 6) (pc' := 10) rfl (hb hby d_jdk_29_method_65_6) (by decide) (by decide) kq) ?_
    refine own_out X0 Bd.notSynchronized (v := (some (.int x))) (fun h => by rw [Bd.returns] at h; cases h) (fun fs hr => own_retI X0 hx Bd.returns (hb hby d_jdk_29_method_65_10) hr) ?_ (by decide) (by decide)
    rw [e0]
    exact ⟨by unfold own_max; rw [if_neg hq], N0, rfl⟩
theorem d_jdk_31_method_11_0 : decode jdk_31_method_11_code 0 = .ok (.aload_n 0, 1) := by decide +kernel
theorem d_jdk_31_method_11_1 : decode jdk_31_method_11_code 1 = .ok (.ifnonnull 12, 3) := by decide +kernel
theorem d_jdk_31_method_11_13 : decode jdk_31_method_11_code 13 = .ok (.aload_n 0, 1) := by decide +kernel
theorem d_jdk_31_method_11_14 : decode jdk_31_method_11_code 14 = .ok (.areturn, 1) := by decide +kernel
theorem ef_rnn (m : MethodId) (x0 : Addr) (x1 : Addr) : entryFrame m #[(.ref x0), (.ref x1)] 2 = mkF m 0 #[.val (.ref x0), .val (.ref x1)] [] := by first | (simp [entryFrame, mkF, argsToLocals, Value.category]; done) | rfl
def Qrnn (Z : State) (a1 a2 : Addr) (h0 : Heap) (n0 : Nat) (v : Option Value) (h : Heap) (L : List Loc) : Prop := v = some (.ref a1) ∧ Fr n0 L ∧ h = h0
theorem pn_java_util_Objects : plainName "java/util/Objects" = true := by first | (simp [plainName, overriddenIn]; done) | decide +kernel
set_option maxRecDepth 65536 in
set_option maxHeartbeats 40000000 in
theorem rmrnn (l : Launch) (Z : State) (a0 : Array Value) (hw : ∀ d ∈ tables_1, d.before a0 Z = true) (ws : List Jvm.Cond) (a1 a2 : Addr) (h0 : Heap) (n0 : Nat) (O0 : Old Z n0 h0) :
    MetFree l (⟨"java/util/Objects", "requireNonNull", "(Ljava/lang/Object;Ljava/lang/String;)Ljava/lang/Object;"⟩ : MethodName) (head1 (Jvm.Cond.code (⟨"java/util/Objects", "requireNonNull", "(Ljava/lang/Object;Ljava/lang/String;)Ljava/lang/Object;"⟩ : MethodName) jdk_31_method_11_code 2 (some (.object "java/lang/Object")) :: ws) ({ frames := 0, cells := 0, slots := 0, locals := 0 } : Room)) (fun a U => a = #[(.ref a1), (.ref a2)] ∧ Z.Warmed39 U.vm ∧ U.heap = h0) (fun _ _ _ _ _ => True) (fun _ U o U' => ∃ v L, o = .returned v ∧ Qrnn Z a1 a2 h0 n0 v U'.heap L ∧ FrameEnd U o U' L ({ frames := 0, cells := 0, slots := 0, locals := 0 } : Room).cells ({ frames := 0, cells := 0, slots := 0, locals := 0 } : Room).slots) := by
  refine MetFree.of_bodySF (plainFor_of_name pn_java_util_Objects) hisR ?_
  intro p e s m args below meth c s₁ Bd hml0 hP hK
  obtain ⟨rfl, hZ, hh⟩ := hP
  have hx := Bd.exec
  have hby := Bd.bytes
  have hml : c.maxLocals = 2 := hml0
  have hown : s.vm.findClass "java/util/Objects" = some m.cls := findClass_of_methodNamed Bd.named
  have hnm := (name_of_methodNamed Bd.named Bd.method).1
  have X0 : Stand p l e ({ frames := 0, cells := 0, slots := 0, locals := 0 } : Room) s m #[(.ref a1), (.ref a2)] below meth c s₁ [] 0 0 := Stand.of_body Bd
  have e0 : s₁.heap = h0 := by rw [← hh, Bd.state]; rfl
  have N0 := Fr.nil n0
  have hS0 : s.Since s.vm h0.size := State.WarmedH.since (State.WarmedH.refl s) _
  refine own_in (ef_rnn m a1 a2) ?_
  refine own_st (T' := s₁) (g' := (mkF m 1 #[.val (.ref a1), .val (.ref a2)] [(.ref a1)])) (fun _ kq => XS.aloadN X0.here hx rfl (hb hby d_jdk_31_method_11_0) rfl rfl kq) ?_
  refine own_st (T' := s₁) (g' := (mkF m 13 #[.val (.ref a1), .val (.ref a2)] [])) (fun _ kq => XS.ifnonnullYes X0.here hx rfl (pc0 := 1) (pc' := 13) rfl (hb hby d_jdk_31_method_11_1) rfl (by decide) (by decide) kq) ?_
  refine own_st (T' := s₁) (g' := (mkF m 14 #[.val (.ref a1), .val (.ref a2)] [(.ref a1)])) (fun _ kq => XS.aloadN X0.here hx rfl (hb hby d_jdk_31_method_11_13) rfl rfl kq) ?_
  refine own_out X0 Bd.notSynchronized (v := (some (.ref a1))) (fun h => by rw [Bd.returns] at h; cases h) (fun fs hr => own_retA X0 hx Bd.returns rfl rfl rfl (hb hby d_jdk_31_method_11_14) hr) ?_ (by decide) (by decide)
  rw [e0]
  exact ⟨rfl, N0, rfl⟩
theorem d_jdk_65_method_131_0 : decode jdk_65_method_131_code 0 = .ok (.iload_n 1, 1) := by decide +kernel
theorem d_jdk_65_method_131_1 : decode jdk_65_method_131_code 1 = .ok (.iload_n 0, 1) := by decide +kernel
theorem d_jdk_65_method_131_2 : decode jdk_65_method_131_code 2 = .ok (.if_icmp .ge 35, 3) := by decide +kernel
theorem d_jdk_65_method_131_37 : decode jdk_65_method_131_code 37 = .ok (.return_, 1) := by decide +kernel
theorem ef_chk (m : MethodId) (x0 : Int32) (x1 : Int32) : entryFrame m #[(.int x0), (.int x1)] 2 = mkF m 0 #[.val (.int x0), .val (.int x1)] [] := by first | (simp [entryFrame, mkF, argsToLocals, Value.category]; done) | rfl
def Qchk (Z : State) (x y : Int32) (h0 : Heap) (n0 : Nat) (v : Option Value) (h : Heap) (L : List Loc) : Prop := v = none ∧ Fr n0 L ∧ h = h0
theorem pn_java_util_Arrays : plainName "java/util/Arrays" = true := by first | (simp [plainName, overriddenIn]; done) | decide +kernel
set_option maxRecDepth 65536 in
set_option maxHeartbeats 40000000 in
theorem rmchk (l : Launch) (Z : State) (a0 : Array Value) (hw : ∀ d ∈ tables_1, d.before a0 Z = true) (ws : List Jvm.Cond) (x y : Int32) (h0 : Heap) (n0 : Nat) (O0 : Old Z n0 h0) (hxy : ¬ (y < x)) :
    MetFree l (⟨"java/util/Arrays", "checkLength", "(II)V"⟩ : MethodName) (head1 (Jvm.Cond.code (⟨"java/util/Arrays", "checkLength", "(II)V"⟩ : MethodName) jdk_65_method_131_code 2 none :: ws) ({ frames := 0, cells := 0, slots := 0, locals := 0 } : Room)) (fun a U => a = #[(.int x), (.int y)] ∧ Z.Warmed39 U.vm ∧ U.heap = h0) (fun _ _ _ _ _ => True) (fun _ U o U' => ∃ v L, o = .returned v ∧ Qchk Z x y h0 n0 v U'.heap L ∧ FrameEnd U o U' L ({ frames := 0, cells := 0, slots := 0, locals := 0 } : Room).cells ({ frames := 0, cells := 0, slots := 0, locals := 0 } : Room).slots) := by
  refine MetFree.of_bodySF (plainFor_of_name pn_java_util_Arrays) hisR ?_
  intro p e s m args below meth c s₁ Bd hml0 hP hK
  obtain ⟨rfl, hZ, hh⟩ := hP
  have hx := Bd.exec
  have hby := Bd.bytes
  have hml : c.maxLocals = 2 := hml0
  have hown : s.vm.findClass "java/util/Arrays" = some m.cls := findClass_of_methodNamed Bd.named
  have hnm := (name_of_methodNamed Bd.named Bd.method).1
  have X0 : Stand p l e ({ frames := 0, cells := 0, slots := 0, locals := 0 } : Room) s m #[(.int x), (.int y)] below meth c s₁ [] 0 0 := Stand.of_body Bd
  have e0 : s₁.heap = h0 := by rw [← hh, Bd.state]; rfl
  have N0 := Fr.nil n0
  have hS0 : s.Since s.vm h0.size := State.WarmedH.since (State.WarmedH.refl s) _
  refine own_in (ef_chk m x y) ?_
  refine own_st (T' := s₁) (g' := (mkF m 1 #[.val (.int x), .val (.int y)] [(.int y)])) (fun _ kq => XS.iloadN X0.here hx rfl (hb hby d_jdk_65_method_131_0) rfl kq) ?_
  refine own_st (T' := s₁) (g' := (mkF m 2 #[.val (.int x), .val (.int y)] [(.int x), (.int y)])) (fun _ kq => XS.iloadN X0.here hx rfl (hb hby d_jdk_65_method_131_1) rfl kq) ?_
  refine own_st (T' := s₁) (g' := (mkF m 37 #[.val (.int x), .val (.int y)] [])) (fun _ kq => XS.icmpYes X0.here hx rfl (pc0 := 2) (pc' := 37) rfl (hb hby d_jdk_65_method_131_2) rfl (flt (hxy : ¬ (y < x))).2.1 (by decide) (by decide) kq) ?_
  refine own_out X0 Bd.notSynchronized (v := none) (fun _ => rfl) (fun fs hr => X0.returnOut hx Bd.returns (hb hby d_jdk_65_method_131_37) hr) ?_ (by decide) (by decide)
  rw [e0]
  exact ⟨rfl, N0, rfl⟩
theorem d_jdk_65_method_133_0 : decode jdk_65_method_133_code 0 = .ok (.iload_n 1, 1) := by decide +kernel
theorem d_jdk_65_method_133_1 : decode jdk_65_method_133_code 1 = .ok (.iload_n 2, 1) := by decide +kernel
theorem d_jdk_65_method_133_2 : decode jdk_65_method_133_code 2 = .ok (.invokestatic 343, 3) := by decide +kernel
theorem pd_II_V_313 : parseMethodDescriptor "(II)V" = some ⟨[.int, .int], none⟩ := by decide +kernel
theorem d_jdk_65_method_133_5 : decode jdk_65_method_133_code 5 = .ok (.iload_n 2, 1) := by decide +kernel
theorem d_jdk_65_method_133_6 : decode jdk_65_method_133_code 6 = .ok (.iload_n 1, 1) := by decide +kernel
theorem d_jdk_65_method_133_7 : decode jdk_65_method_133_code 7 = .ok (.isub, 1) := by decide +kernel
theorem d_jdk_65_method_133_8 : decode jdk_65_method_133_code 8 = .ok (.istore_n 3, 1) := by decide +kernel
theorem d_jdk_65_method_133_9 : decode jdk_65_method_133_code 9 = .ok (.iload_n 3, 1) := by decide +kernel
theorem d_jdk_65_method_133_10 : decode jdk_65_method_133_code 10 = .ok (.newarray .byte, 2) := by decide +kernel
theorem d_jdk_65_method_133_12 : decode jdk_65_method_133_code 12 = .ok (.astore 4, 2) := by decide +kernel
theorem d_jdk_65_method_133_14 : decode jdk_65_method_133_code 14 = .ok (.aload_n 0, 1) := by decide +kernel
theorem d_jdk_65_method_133_15 : decode jdk_65_method_133_code 15 = .ok (.iload_n 1, 1) := by decide +kernel
theorem d_jdk_65_method_133_16 : decode jdk_65_method_133_code 16 = .ok (.aload 4, 2) := by decide +kernel
theorem d_jdk_65_method_133_18 : decode jdk_65_method_133_code 18 = .ok (.iconst 0, 1) := by decide +kernel
theorem d_jdk_65_method_133_19 : decode jdk_65_method_133_code 19 = .ok (.aload_n 0, 1) := by decide +kernel
theorem d_jdk_65_method_133_20 : decode jdk_65_method_133_code 20 = .ok (.arraylength, 1) := by decide +kernel
theorem d_jdk_65_method_133_21 : decode jdk_65_method_133_code 21 = .ok (.iload_n 1, 1) := by decide +kernel
theorem d_jdk_65_method_133_22 : decode jdk_65_method_133_code 22 = .ok (.isub, 1) := by decide +kernel
theorem d_jdk_65_method_133_23 : decode jdk_65_method_133_code 23 = .ok (.iload_n 3, 1) := by decide +kernel
theorem d_jdk_65_method_133_24 : decode jdk_65_method_133_code 24 = .ok (.invokestatic 304, 3) := by decide +kernel
theorem pd_II_I_300 : parseMethodDescriptor "(II)I" = some ⟨[.int, .int], some .int⟩ := by decide +kernel
theorem d_jdk_65_method_133_27 : decode jdk_65_method_133_code 27 = .ok (.invokestatic 150, 3) := by decide +kernel
theorem d_jdk_65_method_133_30 : decode jdk_65_method_133_code 30 = .ok (.aload 4, 2) := by decide +kernel
theorem d_jdk_65_method_133_32 : decode jdk_65_method_133_code 32 = .ok (.areturn, 1) := by decide +kernel
theorem ef_crb (m : MethodId) (x0 : Addr) (x1 : Int32) (x2 : Int32) : entryFrame m #[(.ref x0), (.int x1), (.int x2)] 5 = mkF m 0 #[.val (.ref x0), .val (.int x1), .val (.int x2), .unset, .unset] [] := by first | (simp [entryFrame, mkF, argsToLocals, Value.category]; done) | rfl
def Qcrb (Z : State) (ar : Addr) (ka : ClassId) (fr to : Int32) (h0 : Heap) (n0 : Nat) (v : Option Value) (h : Heap) (L : List Loc) : Prop := ∃ r : Addr, v = some (.ref r) ∧ Fr n0 L ∧ Keep h0 h []
set_option maxRecDepth 65536 in
set_option maxHeartbeats 40000000 in
theorem rmcrb (l : Launch) (Z : State) (a0 : Array Value) (hw : ∀ d ∈ tables_1, d.before a0 Z = true) (ws : List Jvm.Cond) (ar : Addr) (ka : ClassId) (fr to : Int32) (h0 : Heap) (n0 : Nat) (O0 : Old Z n0 h0) (A : Arv Z h0 ar ka .byte (16 : Int32) [(.int (0 : Int32)), (.int (0 : Int32)), (.int (0 : Int32)), (.int (0 : Int32)), (.int (0 : Int32)), (.int (0 : Int32)), (.int (0 : Int32)), (.int (0 : Int32)), (.int (0 : Int32)), (.int (0 : Int32)), (.int (0 : Int32)), (.int (0 : Int32)), (.int (0 : Int32)), (.int (0 : Int32)), (.int (0 : Int32)), (.int (0 : Int32))] (.int (0 : Int32))) (h1 : 0 ≤ fr.toInt) (h2 : fr.toInt ≤ 7) (h3 : fr.toInt ≤ to.toInt) (h4 : to.toInt ≤ fr.toInt + 7) :
    MetFree l (⟨"java/util/Arrays", "copyOfRangeByte", "([BII)[B"⟩ : MethodName) (head1 (Jvm.Cond.code (⟨"java/util/Arrays", "copyOfRangeByte", "([BII)[B"⟩ : MethodName) jdk_65_method_133_code 5 (some (.array .byte)) :: ws) ({ frames := 1, cells := 1, slots := 7, locals := 51 } : Room)) (fun a U => a = #[(.ref ar), (.int fr), (.int to)] ∧ Z.Warmed39 U.vm ∧ U.heap = h0) (fun _ _ _ _ _ => True) (fun _ U o U' => ∃ v L, o = .returned v ∧ Qcrb Z ar ka fr to h0 n0 v U'.heap L ∧ FrameEnd U o U' L ({ frames := 1, cells := 1, slots := 7, locals := 51 } : Room).cells ({ frames := 1, cells := 1, slots := 7, locals := 51 } : Room).slots) := by
  refine MetFree.of_bodySF (plainFor_of_name pn_java_util_Arrays) hisR ?_
  intro p e s m args below meth c s₁ Bd hml0 hP hK
  obtain ⟨rfl, hZ, hh⟩ := hP
  have hx := Bd.exec
  have hby := Bd.bytes
  have hml : c.maxLocals = 5 := hml0
  have hown : s.vm.findClass "java/util/Arrays" = some m.cls := findClass_of_methodNamed Bd.named
  have hnm := (name_of_methodNamed Bd.named Bd.method).1
  have X0 : Stand p l e ({ frames := 1, cells := 1, slots := 7, locals := 51 } : Room) s m #[(.ref ar), (.int fr), (.int to)] below meth c s₁ [] 0 0 := Stand.of_body Bd
  have e0 : s₁.heap = h0 := by rw [← hh, Bd.state]; rfl
  have N0 := Fr.nil n0
  have hS0 : s.Since s.vm h0.size := State.WarmedH.since (State.WarmedH.refl s) _
  refine own_in (ef_crb m ar fr to) ?_
  refine own_st (T' := s₁) (g' := (mkF m 1 #[.val (.ref ar), .val (.int fr), .val (.int to), .unset, .unset] [(.int fr)])) (fun _ kq => XS.iloadN X0.here hx rfl (hb hby d_jdk_65_method_133_0) rfl kq) ?_
  refine own_st (T' := s₁) (g' := (mkF m 2 #[.val (.ref ar), .val (.int fr), .val (.int to), .unset, .unset] [(.int to), (.int fr)])) (fun _ kq => XS.iloadN X0.here hx rfl (hb hby d_jdk_65_method_133_1) rfl kq) ?_
  obtain ⟨_, _, ⟨T1, L1, k1, n1⟩, -, X1, ⟨Lc1, hQ1, l1, y1, z1⟩, st1⟩ := Jvm.LawKit.callS X0 hx (y := (⟨"java/util/Arrays", "checkLength", "(II)V"⟩ : MethodName)) hown (mvT hZ (hw _ (List.mem_of_getElem? (i := 51) rfl))) (mvT hZ (hw _ (List.mem_of_getElem? (i := 52) rfl))) (mvT hZ (hw _ (List.mem_of_getElem? (i := 46) rfl))) (mvT hZ (hw _ (List.mem_of_getElem? (i := 53) rfl))) (by decide) (backOf (W := 0) (rmchk l Z a0 hw [] fr to h0 n0 O0 (own_nlt h3)) hZ (hw _ (List.mem_of_getElem? (i := 53) rfl)) (hw _ (List.mem_of_getElem? (i := 46) rfl)) (by decide) (by decide)) (g := (mkF m 2 #[.val (.ref ar), .val (.int fr), .val (.int to), .unset, .unset] [(.int to), (.int fr)])) rfl (by rw [hml]; rfl) (argsL := [(.int fr), (.int to)]) (rest := []) (lenOf pd_II_V_313 rfl) rfl (by show 2 * 0 + _ ≤ _; exact Nat.le_of_eq rfl) (hb hby d_jdk_65_method_133_2) (fun _ _ => ⟨rfl, e0, (by decide : 0 + 0 ≤ _), (by decide : 0 + 0 ≤ _)⟩)
  dsimp only [Pt.U, Pt.locs, Pt.cells, Pt.slots] at X1 l1 y1 z1 st1 hQ1
  subst l1 y1 z1
  obtain ⟨rfl, Nq1, hh1⟩ := hQ1
  have N2 := Fr.app N0 Nq1
  refine own_st (T' := T1) (g' := (mkF m 5 #[.val (.ref ar), .val (.int fr), .val (.int to), .unset, .unset] [])) st1 ?_
  have hln : (to - fr).toInt = to.toInt - fr.toInt := own_sub (by omega) (by omega)
  refine own_st (T' := T1) (g' := (mkF m 6 #[.val (.ref ar), .val (.int fr), .val (.int to), .unset, .unset] [(.int to)])) (fun _ kq => XS.iloadN X1.here hx rfl (hb hby d_jdk_65_method_133_5) rfl kq) ?_
  refine own_st (T' := T1) (g' := (mkF m 7 #[.val (.ref ar), .val (.int fr), .val (.int to), .unset, .unset] [(.int fr), (.int to)])) (fun _ kq => XS.iloadN X1.here hx rfl (hb hby d_jdk_65_method_133_6) rfl kq) ?_
  refine own_st (T' := T1) (g' := (mkF m 8 #[.val (.ref ar), .val (.int fr), .val (.int to), .unset, .unset] [(.int (to - fr))])) (fun _ kq => XS.isub X1.here hx rfl (hb hby d_jdk_65_method_133_7) rfl kq) ?_
  generalize hlnE : (to - fr) = ln at hln ⊢
  refine own_st (T' := T1) (g' := (mkF m 9 #[.val (.ref ar), .val (.int fr), .val (.int to), .val (.int ln), .unset] [])) (fun _ kq => XS.istoreN X1.here hx rfl (hb hby d_jdk_65_method_133_8) rfl (l' := #[.val (.ref ar), .val (.int fr), .val (.int to), .val (.int ln), .unset]) rfl kq) ?_
  refine own_st (T' := T1) (g' := (mkF m 10 #[.val (.ref ar), .val (.int fr), .val (.int to), .val (.int ln), .unset] [(.int ln)])) (fun _ kq => XS.iloadN X1.here hx rfl (hb hby d_jdk_65_method_133_9) rfl kq) ?_
  have hl0 : ¬ (ln < (0 : Int32)) := own_nlt (by show (0 : Int) ≤ _; omega)
  have hlN := own_nat (x := ln) (by omega)
  obtain ⟨T3, h3, k3, X3, e3, E3, A3, st3⟩ := newP X1 hx hZ (hw _ (List.mem_of_getElem? (i := 0) rfl)) hh1 (g := (mkF m 10 #[.val (.ref ar), .val (.int fr), .val (.int to), .val (.int ln), .unset] [(.int ln)])) rfl (hb hby d_jdk_65_method_133_10) rfl hl0 (cap := 7) (by omega) (by decide) (by decide) (by decide)
  obtain ⟨b3, g3⟩ : ∃ z, z = h0.size := ⟨_, rfl⟩
  rw [← g3] at A3 st3
  have ne_ar_b3 : ar ≠ b3 := Nat.ne_of_lt (Nat.lt_of_lt_of_le A.lt (Nat.le_of_eq g3.symm))
  have g_b3 : n0 ≤ b3 := Nat.le_trans (own_old O0) (Nat.le_of_eq g3.symm)
  have sz_b3 : h0.size ≤ b3 := Nat.le_trans (Keep.refl h0 []).1 (Nat.le_of_eq g3.symm)
  have V3 : Arv Z h3 b3 k3 .byte ln [(.int (0 : Int32)), (.int (0 : Int32)), (.int (0 : Int32)), (.int (0 : Int32)), (.int (0 : Int32)), (.int (0 : Int32)), (.int (0 : Int32)), (.int (0 : Int32)), (.int (0 : Int32)), (.int (0 : Int32)), (.int (0 : Int32)), (.int (0 : Int32)), (.int (0 : Int32)), (.int (0 : Int32)), (.int (0 : Int32)), (.int (0 : Int32))] (.int (0 : Int32)) := (Arv.new A3 hl0).pad (pad_rep [] (.int (0 : Int32)) 16)
  refine own_st (T' := T3) (g' := (mkF m 12 #[.val (.ref ar), .val (.int fr), .val (.int to), .val (.int ln), .unset] [(.ref b3)])) (st3) ?_
  refine own_st (T' := T3) (g' := (mkF m 14 #[.val (.ref ar), .val (.int fr), .val (.int to), .val (.int ln), .val (.ref b3)] [])) (fun _ kq => XS.astore X3.here hx rfl (hb hby d_jdk_65_method_133_12) rfl rfl (l' := #[.val (.ref ar), .val (.int fr), .val (.int to), .val (.int ln), .val (.ref b3)]) rfl kq) ?_
  refine own_st (T' := T3) (g' := (mkF m 15 #[.val (.ref ar), .val (.int fr), .val (.int to), .val (.int ln), .val (.ref b3)] [(.ref ar)])) (fun _ kq => XS.aloadN X3.here hx rfl (hb hby d_jdk_65_method_133_14) rfl rfl kq) ?_
  refine own_st (T' := T3) (g' := (mkF m 16 #[.val (.ref ar), .val (.int fr), .val (.int to), .val (.int ln), .val (.ref b3)] [(.int fr), (.ref ar)])) (fun _ kq => XS.iloadN X3.here hx rfl (hb hby d_jdk_65_method_133_15) rfl kq) ?_
  refine own_st (T' := T3) (g' := (mkF m 18 #[.val (.ref ar), .val (.int fr), .val (.int to), .val (.int ln), .val (.ref b3)] [(.ref b3), (.int fr), (.ref ar)])) (fun _ kq => XS.aload X3.here hx rfl (hb hby d_jdk_65_method_133_16) rfl rfl kq) ?_
  refine own_st (T' := T3) (g' := (mkF m 19 #[.val (.ref ar), .val (.int fr), .val (.int to), .val (.int ln), .val (.ref b3)] [(.int (0 : Int32)), (.ref b3), (.int fr), (.ref ar)])) (fun _ kq => XS.iconst X3.here hx rfl (hb hby d_jdk_65_method_133_18) kq) ?_
  refine own_st (T' := T3) (g' := (mkF m 20 #[.val (.ref ar), .val (.int fr), .val (.int to), .val (.int ln), .val (.ref b3)] [(.ref ar), (.int (0 : Int32)), (.ref b3), (.int fr), (.ref ar)])) (fun _ kq => XS.aloadN X3.here hx rfl (hb hby d_jdk_65_method_133_19) rfl rfl kq) ?_
  have A_ar_4 : Arv Z h3 ar ka .byte (16 : Int32) [(.int (0 : Int32)), (.int (0 : Int32)), (.int (0 : Int32)), (.int (0 : Int32)), (.int (0 : Int32)), (.int (0 : Int32)), (.int (0 : Int32)), (.int (0 : Int32)), (.int (0 : Int32)), (.int (0 : Int32)), (.int (0 : Int32)), (.int (0 : Int32)), (.int (0 : Int32)), (.int (0 : Int32)), (.int (0 : Int32)), (.int (0 : Int32))] (.int (0 : Int32)) := (A.ext E3)
  refine own_st (T' := T3) (g' := (mkF m 21 #[.val (.ref ar), .val (.int fr), .val (.int to), .val (.int ln), .val (.ref b3)] [(.int (16 : Int32)), (.int (0 : Int32)), (.ref b3), (.int fr), (.ref ar)])) (own_alen X3 hx hZ e3 A_ar_4 (g := (mkF m 20 #[.val (.ref ar), .val (.int fr), .val (.int to), .val (.int ln), .val (.ref b3)] [(.ref ar), (.int (0 : Int32)), (.ref b3), (.int fr), (.ref ar)])) rfl rfl (hb hby d_jdk_65_method_133_20)) ?_
  refine own_st (T' := T3) (g' := (mkF m 22 #[.val (.ref ar), .val (.int fr), .val (.int to), .val (.int ln), .val (.ref b3)] [(.int fr), (.int (16 : Int32)), (.int (0 : Int32)), (.ref b3), (.int fr), (.ref ar)])) (fun _ kq => XS.iloadN X3.here hx rfl (hb hby d_jdk_65_method_133_21) rfl kq) ?_
  refine own_st (T' := T3) (g' := (mkF m 23 #[.val (.ref ar), .val (.int fr), .val (.int to), .val (.int ln), .val (.ref b3)] [(.int ((16 : Int32) - fr)), (.int (0 : Int32)), (.ref b3), (.int fr), (.ref ar)])) (fun _ kq => XS.isub X3.here hx rfl (hb hby d_jdk_65_method_133_22) rfl kq) ?_
  refine own_st (T' := T3) (g' := (mkF m 24 #[.val (.ref ar), .val (.int fr), .val (.int to), .val (.int ln), .val (.ref b3)] [(.int ln), (.int ((16 : Int32) - fr)), (.int (0 : Int32)), (.ref b3), (.int fr), (.ref ar)])) (fun _ kq => XS.iloadN X3.here hx rfl (hb hby d_jdk_65_method_133_23) rfl kq) ?_
  have O5 : Old Z n0 h3 := (O0.ext E3)
  obtain ⟨_, _, ⟨T6, L6, k6, n6⟩, -, X6, ⟨Lc6, hQ6, l6, y6, z6⟩, st6⟩ := Jvm.LawKit.callS X3 hx (y := (⟨"java/lang/Math", "min", "(II)I"⟩ : MethodName)) hown (mvT hZ (hw _ (List.mem_of_getElem? (i := 54) rfl))) (mvT hZ (hw _ (List.mem_of_getElem? (i := 55) rfl))) (mvT hZ (hw _ (List.mem_of_getElem? (i := 56) rfl))) (mvT hZ (hw _ (List.mem_of_getElem? (i := 57) rfl))) (by decide) (backOf (W := 4) (rmmin l Z a0 hw [] ((16 : Int32) - fr) ln h3 n0 O5) hZ (hw _ (List.mem_of_getElem? (i := 57) rfl)) (hw _ (List.mem_of_getElem? (i := 56) rfl)) (by decide) (by decide)) (g := (mkF m 24 #[.val (.ref ar), .val (.int fr), .val (.int to), .val (.int ln), .val (.ref b3)] [(.int ln), (.int ((16 : Int32) - fr)), (.int (0 : Int32)), (.ref b3), (.int fr), (.ref ar)])) rfl (by rw [hml]; rfl) (argsL := [(.int ((16 : Int32) - fr)), (.int ln)]) (rest := [(.int (0 : Int32)), (.ref b3), (.int fr), (.ref ar)]) (lenOf pd_II_I_300 rfl) rfl (by show 2 * 0 + _ ≤ _; exact Nat.le_of_eq rfl) (hb hby d_jdk_65_method_133_24) (fun _ _ => ⟨rfl, e3, (by decide : 1 + 0 ≤ _), (by decide : 7 + 0 ≤ _)⟩)
  dsimp only [Pt.U, Pt.locs, Pt.cells, Pt.slots] at X6 l6 y6 z6 st6 hQ6
  subst l6 y6 z6
  obtain ⟨rfl, Nq6, hh6⟩ := hQ6
  have N7 := Fr.app N2 Nq6
  refine own_st (T' := T6) (g' := (mkF m 27 #[.val (.ref ar), .val (.int fr), .val (.int to), .val (.int ln), .val (.ref b3)] [(.int (own_min ((16 : Int32) - fr) ln)), (.int (0 : Int32)), (.ref b3), (.int fr), (.ref ar)])) st6 ?_
  have hmn : own_min ((16 : Int32) - fr) ln = ln := by
    have e16 : (16 : Int32).toInt = 16 := rfl
    have es : ((16 : Int32) - fr).toInt = 16 - fr.toInt := own_sub (by omega) (by omega)
    unfold own_min
    rw [if_pos (own_lt (by omega))]
  rw [hmn]
  obtain ⟨T8, h8, L8, X8, e8, N8, Kc8, V8, st8⟩ := cpA X6 hx hZ hown (hw _ (List.mem_of_getElem? (i := 58) rfl)) (hw _ (List.mem_of_getElem? (i := 61) rfl)) (hw _ (List.mem_of_getElem? (i := 59) rfl)) (hw _ (List.mem_of_getElem? (i := 60) rfl)) hh6 A_ar_4 V3 (Or.inl ⟨rfl, rfl⟩) (own_nlt h1) (by decide) hl0 (by have := own_nat h1; have e16 : (16 : Int32).toNatClampNeg = 16 := rfl; omega) (by have e0 : (0 : Int32).toNatClampNeg = 0 := rfl; omega) rfl (by have e0 : (0 : Int32).toNatClampNeg = 0 := rfl; show _ ≤ 16; omega) N7 g_b3 (g := (mkF m 27 #[.val (.ref ar), .val (.int fr), .val (.int to), .val (.int ln), .val (.ref b3)] [(.int ln), (.int (0 : Int32)), (.ref b3), (.int fr), (.ref ar)])) rfl (by rw [hml]; rfl) rfl (hb hby d_jdk_65_method_133_27) (by decide) (W := 0) (by show 2 * 0 + _ ≤ _; exact Nat.le_of_eq rfl) (by decide)
  refine own_st (T' := T8) (g' := (mkF m 30 #[.val (.ref ar), .val (.int fr), .val (.int to), .val (.int ln), .val (.ref b3)] [])) (st8) ?_
  refine own_st (T' := T8) (g' := (mkF m 32 #[.val (.ref ar), .val (.int fr), .val (.int to), .val (.int ln), .val (.ref b3)] [(.ref b3)])) (fun _ kq => XS.aload X8.here hx rfl (hb hby d_jdk_65_method_133_30) rfl rfl kq) ?_
  have K9 : Keep h0 h8 [] := (((Keep.refl h0 []).ext E3).trans Kc8 (allS (Or.inr sz_b3) all0))
  refine own_out X8 Bd.notSynchronized (v := (some (.ref b3))) (fun h => by rw [Bd.returns] at h; cases h) (fun fs hr => own_retA X8 hx Bd.returns rfl rfl rfl (hb hby d_jdk_65_method_133_32) hr) ?_ (by decide) (by decide)
  rw [e8]
  exact ⟨_, rfl, N8, K9⟩
theorem d_jdk_65_method_132_0 : decode jdk_65_method_132_code 0 = .ok (.iload_n 1, 1) := by decide +kernel
theorem d_jdk_65_method_132_1 : decode jdk_65_method_132_code 1 = .ok (.ifCond .ne 9, 3) := by decide +kernel
theorem d_jdk_65_method_132_4 : decode jdk_65_method_132_code 4 = .ok (.iload_n 2, 1) := by decide +kernel
theorem d_jdk_65_method_132_5 : decode jdk_65_method_132_code 5 = .ok (.aload_n 0, 1) := by decide +kernel
theorem d_jdk_65_method_132_6 : decode jdk_65_method_132_code 6 = .ok (.arraylength, 1) := by decide +kernel
theorem d_jdk_65_method_132_7 : decode jdk_65_method_132_code 7 = .ok (.if_icmp .eq 10, 3) := by decide +kernel
theorem d_jdk_65_method_132_10 : decode jdk_65_method_132_code 10 = .ok (.aload_n 0, 1) := by decide +kernel
theorem d_jdk_65_method_132_11 : decode jdk_65_method_132_code 11 = .ok (.iload_n 1, 1) := by decide +kernel
theorem d_jdk_65_method_132_12 : decode jdk_65_method_132_code 12 = .ok (.iload_n 2, 1) := by decide +kernel
theorem d_jdk_65_method_132_13 : decode jdk_65_method_132_code 13 = .ok (.invokestatic 339, 3) := by decide +kernel
theorem pd_BII__B_541 : parseMethodDescriptor "([BII)[B" = some ⟨[(.array .byte), .int, .int], some (.array .byte)⟩ := by decide +kernel
theorem d_jdk_65_method_132_16 : decode jdk_65_method_132_code 16 = .ok (.areturn, 1) := by decide +kernel
theorem ef_cr (m : MethodId) (x0 : Addr) (x1 : Int32) (x2 : Int32) : entryFrame m #[(.ref x0), (.int x1), (.int x2)] 3 = mkF m 0 #[.val (.ref x0), .val (.int x1), .val (.int x2)] [] := by first | (simp [entryFrame, mkF, argsToLocals, Value.category]; done) | rfl
def Qcr (Z : State) (ar : Addr) (ka : ClassId) (fr to : Int32) (h0 : Heap) (n0 : Nat) (v : Option Value) (h : Heap) (L : List Loc) : Prop := ∃ r : Addr, v = some (.ref r) ∧ Fr n0 L ∧ Keep h0 h []
set_option maxRecDepth 65536 in
set_option maxHeartbeats 40000000 in
theorem rmcr (l : Launch) (Z : State) (a0 : Array Value) (hw : ∀ d ∈ tables_1, d.before a0 Z = true) (ws : List Jvm.Cond) (ar : Addr) (ka : ClassId) (fr to : Int32) (h0 : Heap) (n0 : Nat) (O0 : Old Z n0 h0) (A : Arv Z h0 ar ka .byte (16 : Int32) [(.int (0 : Int32)), (.int (0 : Int32)), (.int (0 : Int32)), (.int (0 : Int32)), (.int (0 : Int32)), (.int (0 : Int32)), (.int (0 : Int32)), (.int (0 : Int32)), (.int (0 : Int32)), (.int (0 : Int32)), (.int (0 : Int32)), (.int (0 : Int32)), (.int (0 : Int32)), (.int (0 : Int32)), (.int (0 : Int32)), (.int (0 : Int32))] (.int (0 : Int32))) (h1 : 0 ≤ fr.toInt) (h2 : fr.toInt ≤ 7) (h3 : fr.toInt ≤ to.toInt) (h4 : to.toInt ≤ fr.toInt + 7) :
    MetFree l (⟨"java/util/Arrays", "copyOfRange", "([BII)[B"⟩ : MethodName) (head1 (Jvm.Cond.code (⟨"java/util/Arrays", "copyOfRange", "([BII)[B"⟩ : MethodName) jdk_65_method_132_code 3 (some (.array .byte)) :: ws) ({ frames := 2, cells := 1, slots := 7, locals := 67 } : Room)) (fun a U => a = #[(.ref ar), (.int fr), (.int to)] ∧ Z.Warmed39 U.vm ∧ U.heap = h0) (fun _ _ _ _ _ => True) (fun _ U o U' => ∃ v L, o = .returned v ∧ Qcr Z ar ka fr to h0 n0 v U'.heap L ∧ FrameEnd U o U' L ({ frames := 2, cells := 1, slots := 7, locals := 67 } : Room).cells ({ frames := 2, cells := 1, slots := 7, locals := 67 } : Room).slots) := by
  refine MetFree.of_bodySF (plainFor_of_name pn_java_util_Arrays) hisR ?_
  intro p e s m args below meth c s₁ Bd hml0 hP hK
  obtain ⟨rfl, hZ, hh⟩ := hP
  have hx := Bd.exec
  have hby := Bd.bytes
  have hml : c.maxLocals = 3 := hml0
  have hown : s.vm.findClass "java/util/Arrays" = some m.cls := findClass_of_methodNamed Bd.named
  have hnm := (name_of_methodNamed Bd.named Bd.method).1
  have X0 : Stand p l e ({ frames := 2, cells := 1, slots := 7, locals := 67 } : Room) s m #[(.ref ar), (.int fr), (.int to)] below meth c s₁ [] 0 0 := Stand.of_body Bd
  have e0 : s₁.heap = h0 := by rw [← hh, Bd.state]; rfl
  have N0 := Fr.nil n0
  have hS0 : s.Since s.vm h0.size := State.WarmedH.since (State.WarmedH.refl s) _
  refine own_in (ef_cr m ar fr to) ?_
  refine own_st (T' := s₁) (g' := (mkF m 1 #[.val (.ref ar), .val (.int fr), .val (.int to)] [(.int fr)])) (fun _ kq => XS.iloadN X0.here hx rfl (hb hby d_jdk_65_method_132_0) rfl kq) ?_
  by_cases hz : fr = (0 : Int32)
  · refine own_st (T' := s₁) (g' := (mkF m 4 #[.val (.ref ar), .val (.int fr), .val (.int to)] [])) (fun _ kq => XS.ifNo X0.here hx rfl (hb hby d_jdk_65_method_132_1) rfl ((if0 _ _).trans (teq (hz : fr = (0 : Int32))).2) kq) ?_
    refine own_st (T' := s₁) (g' := (mkF m 5 #[.val (.ref ar), .val (.int fr), .val (.int to)] [(.int to)])) (fun _ kq => XS.iloadN X0.here hx rfl (hb hby d_jdk_65_method_132_4) rfl kq) ?_
    refine own_st (T' := s₁) (g' := (mkF m 6 #[.val (.ref ar), .val (.int fr), .val (.int to)] [(.ref ar), (.int to)])) (fun _ kq => XS.aloadN X0.here hx rfl (hb hby d_jdk_65_method_132_5) rfl rfl kq) ?_
    refine own_st (T' := s₁) (g' := (mkF m 7 #[.val (.ref ar), .val (.int fr), .val (.int to)] [(.int (16 : Int32)), (.int to)])) (own_alen X0 hx hZ e0 A (g := (mkF m 6 #[.val (.ref ar), .val (.int fr), .val (.int to)] [(.ref ar), (.int to)])) rfl rfl (hb hby d_jdk_65_method_132_6)) ?_
    have hne : ¬ (to = (16 : Int32)) := fun q => by
      have e1 : to.toInt = 16 := by rw [q]; rfl
      have e2 : fr.toInt = 0 := by rw [hz]; rfl
      omega
    refine own_st (T' := s₁) (g' := (mkF m 10 #[.val (.ref ar), .val (.int fr), .val (.int to)] [])) (fun _ kq => XS.icmpNo X0.here hx rfl (hb hby d_jdk_65_method_132_7) rfl (feq (hne : ¬ (to = (16 : Int32)))).1 kq) ?_
    refine own_st (T' := s₁) (g' := (mkF m 11 #[.val (.ref ar), .val (.int fr), .val (.int to)] [(.ref ar)])) (fun _ kq => XS.aloadN X0.here hx rfl (hb hby d_jdk_65_method_132_10) rfl rfl kq) ?_
    refine own_st (T' := s₁) (g' := (mkF m 12 #[.val (.ref ar), .val (.int fr), .val (.int to)] [(.int fr), (.ref ar)])) (fun _ kq => XS.iloadN X0.here hx rfl (hb hby d_jdk_65_method_132_11) rfl kq) ?_
    refine own_st (T' := s₁) (g' := (mkF m 13 #[.val (.ref ar), .val (.int fr), .val (.int to)] [(.int to), (.int fr), (.ref ar)])) (fun _ kq => XS.iloadN X0.here hx rfl (hb hby d_jdk_65_method_132_12) rfl kq) ?_
    obtain ⟨_, _, ⟨T1, L1, k1, n1⟩, -, X1, ⟨Lc1, hQ1, l1, y1, z1⟩, st1⟩ := Jvm.LawKit.callS X0 hx (y := (⟨"java/util/Arrays", "copyOfRangeByte", "([BII)[B"⟩ : MethodName)) hown (mvT hZ (hw _ (List.mem_of_getElem? (i := 48) rfl))) (mvT hZ (hw _ (List.mem_of_getElem? (i := 49) rfl))) (mvT hZ (hw _ (List.mem_of_getElem? (i := 46) rfl))) (mvT hZ (hw _ (List.mem_of_getElem? (i := 50) rfl))) (by decide) (backOf (W := 0) (rmcrb l Z a0 hw [] ar ka fr to h0 n0 O0 A h1 h2 h3 h4) hZ (hw _ (List.mem_of_getElem? (i := 50) rfl)) (hw _ (List.mem_of_getElem? (i := 46) rfl)) (by decide) (by decide)) (g := (mkF m 13 #[.val (.ref ar), .val (.int fr), .val (.int to)] [(.int to), (.int fr), (.ref ar)])) rfl (by rw [hml]; rfl) (argsL := [(.ref ar), (.int fr), (.int to)]) (rest := []) (lenOf pd_BII__B_541 rfl) rfl (by show 2 * 0 + _ ≤ _; exact Nat.le_of_eq rfl) (hb hby d_jdk_65_method_132_13) (fun _ _ => ⟨rfl, e0, (by decide : 0 + 1 ≤ _), (by decide : 0 + 7 ≤ _)⟩)
    dsimp only [Pt.U, Pt.locs, Pt.cells, Pt.slots] at X1 l1 y1 z1 st1 hQ1
    subst l1 y1 z1
    obtain ⟨r1, rfl, Nq1, Kc1⟩ := hQ1
    have N2 := Fr.app N0 Nq1
    refine own_st (T' := T1) (g' := (mkF m 16 #[.val (.ref ar), .val (.int fr), .val (.int to)] [(.ref r1)])) st1 ?_
    have K3 : Keep h0 T1.heap [] := ((Keep.refl h0 []).trans Kc1 all0)
    refine own_out X1 Bd.notSynchronized (v := (some (.ref r1))) (fun h => by rw [Bd.returns] at h; cases h) (fun fs hr => own_retA X1 hx Bd.returns rfl rfl rfl (hb hby d_jdk_65_method_132_16) hr) ?_ (by decide) (by decide)
    exact ⟨_, rfl, N2, K3⟩
  · refine own_st (T' := s₁) (g' := (mkF m 10 #[.val (.ref ar), .val (.int fr), .val (.int to)] [])) (fun _ kq => XS.ifYes X0.here hx rfl (pc0 := 1) (pc' := 10) rfl (hb hby d_jdk_65_method_132_1) rfl ((if0 _ _).trans (feq (hz : ¬ (fr = (0 : Int32)))).2) (by decide) (by decide) kq) ?_
    refine own_st (T' := s₁) (g' := (mkF m 11 #[.val (.ref ar), .val (.int fr), .val (.int to)] [(.ref ar)])) (fun _ kq => XS.aloadN X0.here hx rfl (hb hby d_jdk_65_method_132_10) rfl rfl kq) ?_
    refine own_st (T' := s₁) (g' := (mkF m 12 #[.val (.ref ar), .val (.int fr), .val (.int to)] [(.int fr), (.ref ar)])) (fun _ kq => XS.iloadN X0.here hx rfl (hb hby d_jdk_65_method_132_11) rfl kq) ?_
    refine own_st (T' := s₁) (g' := (mkF m 13 #[.val (.ref ar), .val (.int fr), .val (.int to)] [(.int to), (.int fr), (.ref ar)])) (fun _ kq => XS.iloadN X0.here hx rfl (hb hby d_jdk_65_method_132_12) rfl kq) ?_
    obtain ⟨_, _, ⟨T4, L4, k4, n4⟩, -, X4, ⟨Lc4, hQ4, l4, y4, z4⟩, st4⟩ := Jvm.LawKit.callS X0 hx (y := (⟨"java/util/Arrays", "copyOfRangeByte", "([BII)[B"⟩ : MethodName)) hown (mvT hZ (hw _ (List.mem_of_getElem? (i := 48) rfl))) (mvT hZ (hw _ (List.mem_of_getElem? (i := 49) rfl))) (mvT hZ (hw _ (List.mem_of_getElem? (i := 46) rfl))) (mvT hZ (hw _ (List.mem_of_getElem? (i := 50) rfl))) (by decide) (backOf (W := 0) (rmcrb l Z a0 hw [] ar ka fr to h0 n0 O0 A h1 h2 h3 h4) hZ (hw _ (List.mem_of_getElem? (i := 50) rfl)) (hw _ (List.mem_of_getElem? (i := 46) rfl)) (by decide) (by decide)) (g := (mkF m 13 #[.val (.ref ar), .val (.int fr), .val (.int to)] [(.int to), (.int fr), (.ref ar)])) rfl (by rw [hml]; rfl) (argsL := [(.ref ar), (.int fr), (.int to)]) (rest := []) (lenOf pd_BII__B_541 rfl) rfl (by show 2 * 0 + _ ≤ _; exact Nat.le_of_eq rfl) (hb hby d_jdk_65_method_132_13) (fun _ _ => ⟨rfl, e0, (by decide : 0 + 1 ≤ _), (by decide : 0 + 7 ≤ _)⟩)
    dsimp only [Pt.U, Pt.locs, Pt.cells, Pt.slots] at X4 l4 y4 z4 st4 hQ4
    subst l4 y4 z4
    obtain ⟨r4, rfl, Nq4, Kc4⟩ := hQ4
    have N5 := Fr.app N0 Nq4
    refine own_st (T' := T4) (g' := (mkF m 16 #[.val (.ref ar), .val (.int fr), .val (.int to)] [(.ref r4)])) st4 ?_
    have K6 : Keep h0 T4.heap [] := ((Keep.refl h0 []).trans Kc4 all0)
    refine own_out X4 Bd.notSynchronized (v := (some (.ref r4))) (fun h => by rw [Bd.returns] at h; cases h) (fun fs hr => own_retA X4 hx Bd.returns rfl rfl rfl (hb hby d_jdk_65_method_132_16) hr) ?_ (by decide) (by decide)
    exact ⟨_, rfl, N5, K6⟩
theorem d_prog_69_method_2_0 : decode prog_69_method_2_code 0 = .ok (.aload_n 0, 1) := by decide +kernel
theorem d_prog_69_method_2_1 : decode prog_69_method_2_code 1 = .ok (.invokespecial 7, 3) := by decide +kernel
theorem d_prog_69_method_2_4 : decode prog_69_method_2_code 4 = .ok (.aload_n 0, 1) := by decide +kernel
theorem d_prog_69_method_2_5 : decode prog_69_method_2_code 5 = .ok (.aload_n 1, 1) := by decide +kernel
theorem d_prog_69_method_2_6 : decode prog_69_method_2_code 6 = .ok (.ldc 12, 2) := by decide +kernel
theorem d_prog_69_method_2_8 : decode prog_69_method_2_code 8 = .ok (.invokestatic 14, 3) := by decide +kernel
theorem pd_Ljava_lang_Object_Ljava_lang_String__Ljava_lang_Object_120 : parseMethodDescriptor "(Ljava/lang/Object;Ljava/lang/String;)Ljava/lang/Object;" = some ⟨[(.object "java/lang/Object"), (.object "java/lang/String")], some (.object "java/lang/Object")⟩ := by decide +kernel
theorem d_prog_69_method_2_11 : decode prog_69_method_2_code 11 = .ok (.checkcast 20, 3) := by decide +kernel
theorem d_prog_69_method_2_14 : decode prog_69_method_2_code 14 = .ok (.putfield 22, 3) := by decide +kernel
theorem d_prog_69_method_2_17 : decode prog_69_method_2_code 17 = .ok (.aload_n 0, 1) := by decide +kernel
theorem d_prog_69_method_2_18 : decode prog_69_method_2_code 18 = .ok (.iload_n 2, 1) := by decide +kernel
theorem d_prog_69_method_2_19 : decode prog_69_method_2_code 19 = .ok (.putfield 24, 3) := by decide +kernel
theorem d_prog_69_method_2_22 : decode prog_69_method_2_code 22 = .ok (.aload_n 0, 1) := by decide +kernel
theorem d_prog_69_method_2_23 : decode prog_69_method_2_code 23 = .ok (.iload_n 3, 1) := by decide +kernel
theorem d_prog_69_method_2_24 : decode prog_69_method_2_code 24 = .ok (.putfield 28, 3) := by decide +kernel
theorem d_prog_69_method_2_27 : decode prog_69_method_2_code 27 = .ok (.return_, 1) := by decide +kernel
theorem ef_ini0 (m : MethodId) (x0 : Addr) (x1 : Addr) (x2 : Int32) (x3 : Int32) : entryFrame m #[(.ref x0), (.ref x1), (.int x2), (.int x3)] 4 = mkF m 0 #[.val (.ref x0), .val (.ref x1), .val (.int x2), .val (.int x3)] [] := by first | (simp [entryFrame, mkF, argsToLocals, Value.category]; done) | rfl
def Qini0 (Z : State) (a1 ar : Addr) (ps : Int32) (h0 : Heap) (n0 : Nat) (v : Option Value) (h : Heap) (L : List Loc) : Prop := v = none ∧ Fr n0 L ∧ Keep h0 h [a1] ∧ Fld Z h a1 "com/example/tacit/tacit/wire/MessageReader" "message" "[B" (.ref ar) ∧ Fld Z h a1 "com/example/tacit/tacit/wire/MessageReader" "position" "I" (.int ps) ∧ Fld Z h a1 "com/example/tacit/tacit/wire/MessageReader" "checksOnly" "Z" (.int (0 : Int32)) ∧ Fld Z h a1 "com/example/tacit/tacit/wire/MessageReader" "checkedEnd" "I" (.int (0 : Int32))
theorem pn_com_example_tacit_tacit_wire_MessageReader : plainName "com/example/tacit/tacit/wire/MessageReader" = true := by first | (simp [plainName, overriddenIn]; done) | decide +kernel
set_option maxRecDepth 65536 in
set_option maxHeartbeats 40000000 in
theorem rmini0 (l : Launch) (Z : State) (a0 : Array Value) (hw : ∀ d ∈ tables_1, d.before a0 Z = true) (ws : List Jvm.Cond) (a1 ar : Addr) (ps : Int32) (h0 : Heap) (n0 : Nat) (O0 : Old Z n0 h0) (Ea : Exa Z h0 a1 "com/example/tacit/tacit/wire/MessageReader") (F1 : Fld Z h0 a1 "com/example/tacit/tacit/wire/MessageReader" "message" "[B" .null) (F2 : Fld Z h0 a1 "com/example/tacit/tacit/wire/MessageReader" "position" "I" (.int (0 : Int32))) (F3 : Fld Z h0 a1 "com/example/tacit/tacit/wire/MessageReader" "checksOnly" "Z" (.int (0 : Int32))) (F4 : Fld Z h0 a1 "com/example/tacit/tacit/wire/MessageReader" "checkedEnd" "I" (.int (0 : Int32))) (ga : n0 ≤ a1) (Eb : Exa Z h0 ar "[B") (ne : ar ≠ a1) :
    MetFree l (⟨"com/example/tacit/tacit/wire/MessageReader", "<init>", "([BIZ)V"⟩ : MethodName) (head1 (Jvm.Cond.code (⟨"com/example/tacit/tacit/wire/MessageReader", "<init>", "([BIZ)V"⟩ : MethodName) prog_69_method_2_code 4 none :: ws) ({ frames := 1, cells := 2, slots := 32, locals := 14 } : Room)) (fun a U => a = #[(.ref a1), (.ref ar), (.int ps), (.int (0 : Int32))] ∧ Z.Warmed39 U.vm ∧ U.heap = h0) (fun _ _ _ _ _ => True) (fun _ U o U' => ∃ v L, o = .returned v ∧ Qini0 Z a1 ar ps h0 n0 v U'.heap L ∧ ReturnedEndW U o U' L ({ frames := 1, cells := 2, slots := 32, locals := 14 } : Room).cells ({ frames := 1, cells := 2, slots := 32, locals := 14 } : Room).slots) := by
  refine MetFree.of_bodySF (plainFor_of_name pn_com_example_tacit_tacit_wire_MessageReader) hisR ?_
  intro p e s m args below meth c s₁ Bd hml0 hP hK
  obtain ⟨rfl, hZ, hh⟩ := hP
  have hx := Bd.exec
  have hby := Bd.bytes
  have hml : c.maxLocals = 4 := hml0
  have hown : s.vm.findClass "com/example/tacit/tacit/wire/MessageReader" = some m.cls := findClass_of_methodNamed Bd.named
  have hnm := (name_of_methodNamed Bd.named Bd.method).1
  have X0 : Stand p l e ({ frames := 1, cells := 2, slots := 32, locals := 14 } : Room) (s.setVm s.vm) m #[(.ref a1), (.ref ar), (.int ps), (.int (0 : Int32))] below meth c s₁ [] 0 0 := Stand.of_body Bd
  have e0 : s₁.heap = h0 := by rw [← hh, Bd.state]; rfl
  have N0 := Fr.nil n0
  have hS0 : s.Since s.vm h0.size := State.WarmedH.since (State.WarmedH.refl s) _
  refine own_in (ef_ini0 m a1 ar ps (0 : Int32)) ?_
  refine own_st (T' := s₁) (g' := (mkF m 1 #[.val (.ref a1), .val (.ref ar), .val (.int ps), .val (.int (0 : Int32))] [(.ref a1)])) (fun _ kq => XS.aloadN X0.here hx rfl (hb hby d_prog_69_method_2_0) rfl rfl kq) ?_
  obtain ⟨T1, X1, e1, st1⟩ := initO X0 hx hZ hown (hw _ (List.mem_of_getElem? (i := 10) rfl)) (hw _ (List.mem_of_getElem? (i := 11) rfl)) (hw _ (List.mem_of_getElem? (i := 12) rfl)) e0 (g := (mkF m 1 #[.val (.ref a1), .val (.ref ar), .val (.int ps), .val (.int (0 : Int32))] [(.ref a1)])) rfl (by rw [hml]; rfl) rfl (hb hby d_prog_69_method_2_1) (by decide) (W := 0) (by show 2 * 0 + _ ≤ _; exact Nat.le_of_eq rfl) (by decide)
  refine own_st (T' := T1) (g' := (mkF m 4 #[.val (.ref a1), .val (.ref ar), .val (.int ps), .val (.int (0 : Int32))] [])) (st1) ?_
  refine own_st (T' := T1) (g' := (mkF m 5 #[.val (.ref a1), .val (.ref ar), .val (.int ps), .val (.int (0 : Int32))] [(.ref a1)])) (fun _ kq => XS.aloadN X1.here hx rfl (hb hby d_prog_69_method_2_4) rfl rfl kq) ?_
  refine own_st (T' := T1) (g' := (mkF m 6 #[.val (.ref a1), .val (.ref ar), .val (.int ps), .val (.int (0 : Int32))] [(.ref ar), (.ref a1)])) (fun _ kq => XS.aloadN X1.here hx rfl (hb hby d_prog_69_method_2_5) rfl rfl kq) ?_
  obtain ⟨lit2, T2, h2, kk2, X2, e2, E2, hS2, hk2, hZ2, hown2, st2⟩ := ldcS X1 hx hZ hown (hw _ (List.mem_of_getElem? (i := 13) rfl)) (own_strs hw) e1 hS0 (Nat.le_refl _) (g := (mkF m 6 #[.val (.ref a1), .val (.ref ar), .val (.int ps), .val (.int (0 : Int32))] [(.ref ar), (.ref a1)])) rfl (hb hby d_prog_69_method_2_6) (n := 28) (by decide) (by decide) (by decide) (by decide)
  refine own_st (T' := T2) (g' := (mkF m 8 #[.val (.ref a1), .val (.ref ar), .val (.int ps), .val (.int (0 : Int32))] [(.ref lit2), (.ref ar), (.ref a1)])) (st2) ?_
  have O3 : Old Z n0 h2 := (O0.ext E2)
  obtain ⟨_, _, ⟨T4, L4, k4, n4⟩, -, X4, ⟨Lc4, hQ4, l4, y4, z4⟩, st4⟩ := Jvm.LawKit.callS X2 hx (y := (⟨"java/util/Objects", "requireNonNull", "(Ljava/lang/Object;Ljava/lang/String;)Ljava/lang/Object;"⟩ : MethodName)) hown2 (mvT hZ2 (hw _ (List.mem_of_getElem? (i := 20) rfl))) (mvT hZ2 (hw _ (List.mem_of_getElem? (i := 21) rfl))) (mvT hZ2 (hw _ (List.mem_of_getElem? (i := 22) rfl))) (mvT hZ2 (hw _ (List.mem_of_getElem? (i := 23) rfl))) (by decide) (backOf (W := 1) (rmrnn l Z a0 hw [] ar lit2 h2 n0 O3) hZ2 (hw _ (List.mem_of_getElem? (i := 23) rfl)) (hw _ (List.mem_of_getElem? (i := 22) rfl)) (by decide) (by decide)) (g := (mkF m 8 #[.val (.ref a1), .val (.ref ar), .val (.int ps), .val (.int (0 : Int32))] [(.ref lit2), (.ref ar), (.ref a1)])) rfl (by rw [hml]; rfl) (argsL := [(.ref ar), (.ref lit2)]) (rest := [(.ref a1)]) (lenOf pd_Ljava_lang_Object_Ljava_lang_String__Ljava_lang_Object_120 rfl) rfl (by show 2 * 0 + _ ≤ _; exact Nat.le_of_eq rfl) (hb hby d_prog_69_method_2_8) (fun _ _ => ⟨rfl, e2, (by decide : 2 + 0 ≤ _), (by decide : 32 + 0 ≤ _)⟩)
  dsimp only [Pt.U, Pt.locs, Pt.cells, Pt.slots] at X4 l4 y4 z4 st4 hQ4
  subst l4 y4 z4
  obtain ⟨rfl, Nq4, hh4⟩ := hQ4
  have N5 := Fr.app N0 Nq4
  refine own_st (T' := T4) (g' := (mkF m 11 #[.val (.ref a1), .val (.ref ar), .val (.int ps), .val (.int (0 : Int32))] [(.ref ar), (.ref a1)])) st4 ?_
  have E_ar_6 : Exa Z h2 ar "[B" := (Eb.ext E2)
  obtain ⟨T7, X7, e7, st7⟩ := castY X4 hx hZ2 hown2 (hw _ (List.mem_of_getElem? (i := 24) rfl)) hh4 (Ins.self E_ar_6) (g := (mkF m 11 #[.val (.ref a1), .val (.ref ar), .val (.int ps), .val (.int (0 : Int32))] [(.ref ar), (.ref a1)])) rfl rfl (hb hby d_prog_69_method_2_11)
  refine own_st (T' := T7) (g' := (mkF m 14 #[.val (.ref a1), .val (.ref ar), .val (.int ps), .val (.int (0 : Int32))] [(.ref ar), (.ref a1)])) (st7) ?_
  have E_a1_8 : Exa Z h2 a1 "com/example/tacit/tacit/wire/MessageReader" := (Ea.ext E2)
  have F_a1_message_9 : Fld Z h2 a1 "com/example/tacit/tacit/wire/MessageReader" "message" "[B" .null := (F1.ext E2)
  obtain ⟨T10, h10, X10, e10, W10, st10⟩ := putF X7 hx hZ2 hown2 (host := "") (Or.inl (hw _ (List.mem_of_getElem? (i := 26) rfl))) Via.refl e7 F_a1_message_9 E_a1_8 (Or.inr ⟨(hw _ (List.mem_of_getElem? (i := 27) rfl)), rfl, hnm⟩) (hw _ (List.mem_of_getElem? (i := 2) rfl)) (ty := (.array .byte)) (by decide) rfl rfl (g := (mkF m 14 #[.val (.ref a1), .val (.ref ar), .val (.int ps), .val (.int (0 : Int32))] [(.ref ar), (.ref a1)])) rfl rfl (hb hby d_prog_69_method_2_14)
  have Fw10 : Fld Z h10 a1 "com/example/tacit/tacit/wire/MessageReader" "message" "[B" (.ref ar) := Fld.same W10 F_a1_message_9
  have N11 := Fr.snoc X10 N5 ga
  refine own_st (T' := T10) (g' := (mkF m 17 #[.val (.ref a1), .val (.ref ar), .val (.int ps), .val (.int (0 : Int32))] [])) (st10) ?_
  refine own_st (T' := T10) (g' := (mkF m 18 #[.val (.ref a1), .val (.ref ar), .val (.int ps), .val (.int (0 : Int32))] [(.ref a1)])) (fun _ kq => XS.aloadN X10.here hx rfl (hb hby d_prog_69_method_2_17) rfl rfl kq) ?_
  refine own_st (T' := T10) (g' := (mkF m 19 #[.val (.ref a1), .val (.ref ar), .val (.int ps), .val (.int (0 : Int32))] [(.int ps), (.ref a1)])) (fun _ kq => XS.iloadN X10.here hx rfl (hb hby d_prog_69_method_2_18) rfl kq) ?_
  have E_a1_12 : Exa Z h10 a1 "com/example/tacit/tacit/wire/MessageReader" := (E_a1_8.wr W10)
  have F_a1_position_13 : Fld Z h10 a1 "com/example/tacit/tacit/wire/MessageReader" "position" "I" (.int (0 : Int32)) := ((F2.ext E2).other W10 (Or.inr (slot_ne (Or.inl (hw _ (List.mem_of_getElem? (i := 29) rfl))) (Or.inr (hw _ (List.mem_of_getElem? (i := 27) rfl))) (by decide) (t := .int) (t' := (.array .byte)) (by decide) (by decide))))
  obtain ⟨T14, h14, X14, e14, W14, st14⟩ := putF X10 hx hZ2 hown2 (host := "") (Or.inl (hw _ (List.mem_of_getElem? (i := 28) rfl))) Via.refl e10 F_a1_position_13 E_a1_12 (Or.inl (hw _ (List.mem_of_getElem? (i := 29) rfl))) (hw _ (List.mem_of_getElem? (i := 2) rfl)) (ty := .int) (by decide) rfl rfl (g := (mkF m 19 #[.val (.ref a1), .val (.ref ar), .val (.int ps), .val (.int (0 : Int32))] [(.int ps), (.ref a1)])) rfl rfl (hb hby d_prog_69_method_2_19)
  have Fw14 : Fld Z h14 a1 "com/example/tacit/tacit/wire/MessageReader" "position" "I" (.int ps) := Fld.same W14 F_a1_position_13
  have N15 := Fr.snoc X14 N11 ga
  refine own_st (T' := T14) (g' := (mkF m 22 #[.val (.ref a1), .val (.ref ar), .val (.int ps), .val (.int (0 : Int32))] [])) (st14) ?_
  refine own_st (T' := T14) (g' := (mkF m 23 #[.val (.ref a1), .val (.ref ar), .val (.int ps), .val (.int (0 : Int32))] [(.ref a1)])) (fun _ kq => XS.aloadN X14.here hx rfl (hb hby d_prog_69_method_2_22) rfl rfl kq) ?_
  refine own_st (T' := T14) (g' := (mkF m 24 #[.val (.ref a1), .val (.ref ar), .val (.int ps), .val (.int (0 : Int32))] [(.int (0 : Int32)), (.ref a1)])) (fun _ kq => XS.iloadN X14.here hx rfl (hb hby d_prog_69_method_2_23) rfl kq) ?_
  have E_a1_16 : Exa Z h14 a1 "com/example/tacit/tacit/wire/MessageReader" := (E_a1_12.wr W14)
  have F_a1_checksOnly_17 : Fld Z h14 a1 "com/example/tacit/tacit/wire/MessageReader" "checksOnly" "Z" (.int (0 : Int32)) := (((F3.ext E2).other W10 (Or.inr (slot_ne (Or.inr (hw _ (List.mem_of_getElem? (i := 31) rfl))) (Or.inr (hw _ (List.mem_of_getElem? (i := 27) rfl))) (by decide) (t := .boolean) (t' := (.array .byte)) (by decide) (by decide)))).other W14 (Or.inr (slot_ne (Or.inr (hw _ (List.mem_of_getElem? (i := 31) rfl))) (Or.inl (hw _ (List.mem_of_getElem? (i := 29) rfl))) (by decide) (t := .boolean) (t' := .int) (by decide) (by decide))))
  obtain ⟨T18, h18, X18, e18, W18, st18⟩ := putFN X14 hx hZ2 hown2 (hw _ (List.mem_of_getElem? (i := 30) rfl)) Via.refl e14 F_a1_checksOnly_17 E_a1_16 (Or.inr ⟨(hw _ (List.mem_of_getElem? (i := 31) rfl)), rfl, hnm⟩) (hw _ (List.mem_of_getElem? (i := 2) rfl)) (ty := .boolean) (v' := (.int (0 : Int32))) (by decide) rfl rfl (g := (mkF m 24 #[.val (.ref a1), .val (.ref ar), .val (.int ps), .val (.int (0 : Int32))] [(.int (0 : Int32)), (.ref a1)])) rfl rfl (hb hby d_prog_69_method_2_24)
  have Fw18 : Fld Z h18 a1 "com/example/tacit/tacit/wire/MessageReader" "checksOnly" "Z" (.int (0 : Int32)) := Fld.same W18 F_a1_checksOnly_17
  have N19 := Fr.snoc X18 N15 ga
  refine own_st (T' := T18) (g' := (mkF m 27 #[.val (.ref a1), .val (.ref ar), .val (.int ps), .val (.int (0 : Int32))] [])) (st18) ?_
  have K20 : Keep h0 h18 [a1] := (((((Keep.refl h0 [a1]).ext E2).wr W10 (Or.inl (List.mem_of_getElem? (i := 0) rfl))).wr W14 (Or.inl (List.mem_of_getElem? (i := 0) rfl))).wr W18 (Or.inl (List.mem_of_getElem? (i := 0) rfl)))
  have F_a1_message_21 : Fld Z h18 a1 "com/example/tacit/tacit/wire/MessageReader" "message" "[B" (.ref ar) := ((Fw10.other W14 (Or.inr (slot_ne (Or.inr (hw _ (List.mem_of_getElem? (i := 27) rfl))) (Or.inl (hw _ (List.mem_of_getElem? (i := 29) rfl))) (by decide) (t := (.array .byte)) (t' := .int) (by decide) (by decide)))).other W18 (Or.inr (slot_ne (Or.inr (hw _ (List.mem_of_getElem? (i := 27) rfl))) (Or.inr (hw _ (List.mem_of_getElem? (i := 31) rfl))) (by decide) (t := (.array .byte)) (t' := .boolean) (by decide) (by decide))))
  have F_a1_position_22 : Fld Z h18 a1 "com/example/tacit/tacit/wire/MessageReader" "position" "I" (.int ps) := (Fw14.other W18 (Or.inr (slot_ne (Or.inl (hw _ (List.mem_of_getElem? (i := 29) rfl))) (Or.inr (hw _ (List.mem_of_getElem? (i := 31) rfl))) (by decide) (t := .int) (t' := .boolean) (by decide) (by decide))))
  have F_a1_checkedEnd_23 : Fld Z h18 a1 "com/example/tacit/tacit/wire/MessageReader" "checkedEnd" "I" (.int (0 : Int32)) := ((((F4.ext E2).other W10 (Or.inr (slot_ne (Or.inl (hw _ (List.mem_of_getElem? (i := 38) rfl))) (Or.inr (hw _ (List.mem_of_getElem? (i := 27) rfl))) (by decide) (t := .int) (t' := (.array .byte)) (by decide) (by decide)))).other W14 (Or.inr (slot_ne (Or.inl (hw _ (List.mem_of_getElem? (i := 38) rfl))) (Or.inl (hw _ (List.mem_of_getElem? (i := 29) rfl))) (by decide) (t := .int) (t' := .int) (by decide) (by decide)))).other W18 (Or.inr (slot_ne (Or.inl (hw _ (List.mem_of_getElem? (i := 38) rfl))) (Or.inr (hw _ (List.mem_of_getElem? (i := 31) rfl))) (by decide) (t := .int) (t' := .boolean) (by decide) (by decide))))
  refine own_outW X18 hS2 (by rw [e18]; exact (Nat.le_trans (Nat.le_trans (Nat.le_trans hk2 (Nat.le_of_eq W10.size.symm)) (Nat.le_of_eq W14.size.symm)) (Nat.le_of_eq W18.size.symm))) Bd.notSynchronized (v := none) (fun _ => rfl) (fun fs hr => X18.returnOut hx Bd.returns (hb hby d_prog_69_method_2_27) hr) ?_ (by decide) (by decide)
  rw [e18]
  exact ⟨rfl, N19, K20, F_a1_message_21, F_a1_position_22, Fw18, F_a1_checkedEnd_23⟩
theorem ef_ini1 (m : MethodId) (x0 : Addr) (x1 : Addr) (x2 : Int32) (x3 : Int32) : entryFrame m #[(.ref x0), (.ref x1), (.int x2), (.int x3)] 4 = mkF m 0 #[.val (.ref x0), .val (.ref x1), .val (.int x2), .val (.int x3)] [] := by first | (simp [entryFrame, mkF, argsToLocals, Value.category]; done) | rfl
def Qini1 (Z : State) (a1 ar : Addr) (ps : Int32) (h0 : Heap) (n0 : Nat) (v : Option Value) (h : Heap) (L : List Loc) : Prop := v = none ∧ Fr n0 L ∧ Keep h0 h [a1] ∧ Fld Z h a1 "com/example/tacit/tacit/wire/MessageReader" "message" "[B" (.ref ar) ∧ Fld Z h a1 "com/example/tacit/tacit/wire/MessageReader" "position" "I" (.int ps) ∧ Fld Z h a1 "com/example/tacit/tacit/wire/MessageReader" "checksOnly" "Z" (.int (1 : Int32)) ∧ Fld Z h a1 "com/example/tacit/tacit/wire/MessageReader" "checkedEnd" "I" (.int (0 : Int32))
set_option maxRecDepth 65536 in
set_option maxHeartbeats 40000000 in
theorem rmini1 (l : Launch) (Z : State) (a0 : Array Value) (hw : ∀ d ∈ tables_1, d.before a0 Z = true) (ws : List Jvm.Cond) (a1 ar : Addr) (ps : Int32) (h0 : Heap) (n0 : Nat) (O0 : Old Z n0 h0) (Ea : Exa Z h0 a1 "com/example/tacit/tacit/wire/MessageReader") (F1 : Fld Z h0 a1 "com/example/tacit/tacit/wire/MessageReader" "message" "[B" .null) (F2 : Fld Z h0 a1 "com/example/tacit/tacit/wire/MessageReader" "position" "I" (.int (0 : Int32))) (F3 : Fld Z h0 a1 "com/example/tacit/tacit/wire/MessageReader" "checksOnly" "Z" (.int (0 : Int32))) (F4 : Fld Z h0 a1 "com/example/tacit/tacit/wire/MessageReader" "checkedEnd" "I" (.int (0 : Int32))) (ga : n0 ≤ a1) (Eb : Exa Z h0 ar "[B") (ne : ar ≠ a1) :
    MetFree l (⟨"com/example/tacit/tacit/wire/MessageReader", "<init>", "([BIZ)V"⟩ : MethodName) (head1 (Jvm.Cond.code (⟨"com/example/tacit/tacit/wire/MessageReader", "<init>", "([BIZ)V"⟩ : MethodName) prog_69_method_2_code 4 none :: ws) ({ frames := 1, cells := 2, slots := 32, locals := 14 } : Room)) (fun a U => a = #[(.ref a1), (.ref ar), (.int ps), (.int (1 : Int32))] ∧ Z.Warmed39 U.vm ∧ U.heap = h0) (fun _ _ _ _ _ => True) (fun _ U o U' => ∃ v L, o = .returned v ∧ Qini1 Z a1 ar ps h0 n0 v U'.heap L ∧ ReturnedEndW U o U' L ({ frames := 1, cells := 2, slots := 32, locals := 14 } : Room).cells ({ frames := 1, cells := 2, slots := 32, locals := 14 } : Room).slots) := by
  refine MetFree.of_bodySF (plainFor_of_name pn_com_example_tacit_tacit_wire_MessageReader) hisR ?_
  intro p e s m args below meth c s₁ Bd hml0 hP hK
  obtain ⟨rfl, hZ, hh⟩ := hP
  have hx := Bd.exec
  have hby := Bd.bytes
  have hml : c.maxLocals = 4 := hml0
  have hown : s.vm.findClass "com/example/tacit/tacit/wire/MessageReader" = some m.cls := findClass_of_methodNamed Bd.named
  have hnm := (name_of_methodNamed Bd.named Bd.method).1
  have X0 : Stand p l e ({ frames := 1, cells := 2, slots := 32, locals := 14 } : Room) (s.setVm s.vm) m #[(.ref a1), (.ref ar), (.int ps), (.int (1 : Int32))] below meth c s₁ [] 0 0 := Stand.of_body Bd
  have e0 : s₁.heap = h0 := by rw [← hh, Bd.state]; rfl
  have N0 := Fr.nil n0
  have hS0 : s.Since s.vm h0.size := State.WarmedH.since (State.WarmedH.refl s) _
  refine own_in (ef_ini1 m a1 ar ps (1 : Int32)) ?_
  refine own_st (T' := s₁) (g' := (mkF m 1 #[.val (.ref a1), .val (.ref ar), .val (.int ps), .val (.int (1 : Int32))] [(.ref a1)])) (fun _ kq => XS.aloadN X0.here hx rfl (hb hby d_prog_69_method_2_0) rfl rfl kq) ?_
  obtain ⟨T1, X1, e1, st1⟩ := initO X0 hx hZ hown (hw _ (List.mem_of_getElem? (i := 10) rfl)) (hw _ (List.mem_of_getElem? (i := 11) rfl)) (hw _ (List.mem_of_getElem? (i := 12) rfl)) e0 (g := (mkF m 1 #[.val (.ref a1), .val (.ref ar), .val (.int ps), .val (.int (1 : Int32))] [(.ref a1)])) rfl (by rw [hml]; rfl) rfl (hb hby d_prog_69_method_2_1) (by decide) (W := 0) (by show 2 * 0 + _ ≤ _; exact Nat.le_of_eq rfl) (by decide)
  refine own_st (T' := T1) (g' := (mkF m 4 #[.val (.ref a1), .val (.ref ar), .val (.int ps), .val (.int (1 : Int32))] [])) (st1) ?_
  refine own_st (T' := T1) (g' := (mkF m 5 #[.val (.ref a1), .val (.ref ar), .val (.int ps), .val (.int (1 : Int32))] [(.ref a1)])) (fun _ kq => XS.aloadN X1.here hx rfl (hb hby d_prog_69_method_2_4) rfl rfl kq) ?_
  refine own_st (T' := T1) (g' := (mkF m 6 #[.val (.ref a1), .val (.ref ar), .val (.int ps), .val (.int (1 : Int32))] [(.ref ar), (.ref a1)])) (fun _ kq => XS.aloadN X1.here hx rfl (hb hby d_prog_69_method_2_5) rfl rfl kq) ?_
  obtain ⟨lit2, T2, h2, kk2, X2, e2, E2, hS2, hk2, hZ2, hown2, st2⟩ := ldcS X1 hx hZ hown (hw _ (List.mem_of_getElem? (i := 13) rfl)) (own_strs hw) e1 hS0 (Nat.le_refl _) (g := (mkF m 6 #[.val (.ref a1), .val (.ref ar), .val (.int ps), .val (.int (1 : Int32))] [(.ref ar), (.ref a1)])) rfl (hb hby d_prog_69_method_2_6) (n := 28) (by decide) (by decide) (by decide) (by decide)
  refine own_st (T' := T2) (g' := (mkF m 8 #[.val (.ref a1), .val (.ref ar), .val (.int ps), .val (.int (1 : Int32))] [(.ref lit2), (.ref ar), (.ref a1)])) (st2) ?_
  have O3 : Old Z n0 h2 := (O0.ext E2)
  obtain ⟨_, _, ⟨T4, L4, k4, n4⟩, -, X4, ⟨Lc4, hQ4, l4, y4, z4⟩, st4⟩ := Jvm.LawKit.callS X2 hx (y := (⟨"java/util/Objects", "requireNonNull", "(Ljava/lang/Object;Ljava/lang/String;)Ljava/lang/Object;"⟩ : MethodName)) hown2 (mvT hZ2 (hw _ (List.mem_of_getElem? (i := 20) rfl))) (mvT hZ2 (hw _ (List.mem_of_getElem? (i := 21) rfl))) (mvT hZ2 (hw _ (List.mem_of_getElem? (i := 22) rfl))) (mvT hZ2 (hw _ (List.mem_of_getElem? (i := 23) rfl))) (by decide) (backOf (W := 1) (rmrnn l Z a0 hw [] ar lit2 h2 n0 O3) hZ2 (hw _ (List.mem_of_getElem? (i := 23) rfl)) (hw _ (List.mem_of_getElem? (i := 22) rfl)) (by decide) (by decide)) (g := (mkF m 8 #[.val (.ref a1), .val (.ref ar), .val (.int ps), .val (.int (1 : Int32))] [(.ref lit2), (.ref ar), (.ref a1)])) rfl (by rw [hml]; rfl) (argsL := [(.ref ar), (.ref lit2)]) (rest := [(.ref a1)]) (lenOf pd_Ljava_lang_Object_Ljava_lang_String__Ljava_lang_Object_120 rfl) rfl (by show 2 * 0 + _ ≤ _; exact Nat.le_of_eq rfl) (hb hby d_prog_69_method_2_8) (fun _ _ => ⟨rfl, e2, (by decide : 2 + 0 ≤ _), (by decide : 32 + 0 ≤ _)⟩)
  dsimp only [Pt.U, Pt.locs, Pt.cells, Pt.slots] at X4 l4 y4 z4 st4 hQ4
  subst l4 y4 z4
  obtain ⟨rfl, Nq4, hh4⟩ := hQ4
  have N5 := Fr.app N0 Nq4
  refine own_st (T' := T4) (g' := (mkF m 11 #[.val (.ref a1), .val (.ref ar), .val (.int ps), .val (.int (1 : Int32))] [(.ref ar), (.ref a1)])) st4 ?_
  have E_ar_6 : Exa Z h2 ar "[B" := (Eb.ext E2)
  obtain ⟨T7, X7, e7, st7⟩ := castY X4 hx hZ2 hown2 (hw _ (List.mem_of_getElem? (i := 24) rfl)) hh4 (Ins.self E_ar_6) (g := (mkF m 11 #[.val (.ref a1), .val (.ref ar), .val (.int ps), .val (.int (1 : Int32))] [(.ref ar), (.ref a1)])) rfl rfl (hb hby d_prog_69_method_2_11)
  refine own_st (T' := T7) (g' := (mkF m 14 #[.val (.ref a1), .val (.ref ar), .val (.int ps), .val (.int (1 : Int32))] [(.ref ar), (.ref a1)])) (st7) ?_
  have E_a1_8 : Exa Z h2 a1 "com/example/tacit/tacit/wire/MessageReader" := (Ea.ext E2)
  have F_a1_message_9 : Fld Z h2 a1 "com/example/tacit/tacit/wire/MessageReader" "message" "[B" .null := (F1.ext E2)
  obtain ⟨T10, h10, X10, e10, W10, st10⟩ := putF X7 hx hZ2 hown2 (host := "") (Or.inl (hw _ (List.mem_of_getElem? (i := 26) rfl))) Via.refl e7 F_a1_message_9 E_a1_8 (Or.inr ⟨(hw _ (List.mem_of_getElem? (i := 27) rfl)), rfl, hnm⟩) (hw _ (List.mem_of_getElem? (i := 2) rfl)) (ty := (.array .byte)) (by decide) rfl rfl (g := (mkF m 14 #[.val (.ref a1), .val (.ref ar), .val (.int ps), .val (.int (1 : Int32))] [(.ref ar), (.ref a1)])) rfl rfl (hb hby d_prog_69_method_2_14)
  have Fw10 : Fld Z h10 a1 "com/example/tacit/tacit/wire/MessageReader" "message" "[B" (.ref ar) := Fld.same W10 F_a1_message_9
  have N11 := Fr.snoc X10 N5 ga
  refine own_st (T' := T10) (g' := (mkF m 17 #[.val (.ref a1), .val (.ref ar), .val (.int ps), .val (.int (1 : Int32))] [])) (st10) ?_
  refine own_st (T' := T10) (g' := (mkF m 18 #[.val (.ref a1), .val (.ref ar), .val (.int ps), .val (.int (1 : Int32))] [(.ref a1)])) (fun _ kq => XS.aloadN X10.here hx rfl (hb hby d_prog_69_method_2_17) rfl rfl kq) ?_
  refine own_st (T' := T10) (g' := (mkF m 19 #[.val (.ref a1), .val (.ref ar), .val (.int ps), .val (.int (1 : Int32))] [(.int ps), (.ref a1)])) (fun _ kq => XS.iloadN X10.here hx rfl (hb hby d_prog_69_method_2_18) rfl kq) ?_
  have E_a1_12 : Exa Z h10 a1 "com/example/tacit/tacit/wire/MessageReader" := (E_a1_8.wr W10)
  have F_a1_position_13 : Fld Z h10 a1 "com/example/tacit/tacit/wire/MessageReader" "position" "I" (.int (0 : Int32)) := ((F2.ext E2).other W10 (Or.inr (slot_ne (Or.inl (hw _ (List.mem_of_getElem? (i := 29) rfl))) (Or.inr (hw _ (List.mem_of_getElem? (i := 27) rfl))) (by decide) (t := .int) (t' := (.array .byte)) (by decide) (by decide))))
  obtain ⟨T14, h14, X14, e14, W14, st14⟩ := putF X10 hx hZ2 hown2 (host := "") (Or.inl (hw _ (List.mem_of_getElem? (i := 28) rfl))) Via.refl e10 F_a1_position_13 E_a1_12 (Or.inl (hw _ (List.mem_of_getElem? (i := 29) rfl))) (hw _ (List.mem_of_getElem? (i := 2) rfl)) (ty := .int) (by decide) rfl rfl (g := (mkF m 19 #[.val (.ref a1), .val (.ref ar), .val (.int ps), .val (.int (1 : Int32))] [(.int ps), (.ref a1)])) rfl rfl (hb hby d_prog_69_method_2_19)
  have Fw14 : Fld Z h14 a1 "com/example/tacit/tacit/wire/MessageReader" "position" "I" (.int ps) := Fld.same W14 F_a1_position_13
  have N15 := Fr.snoc X14 N11 ga
  refine own_st (T' := T14) (g' := (mkF m 22 #[.val (.ref a1), .val (.ref ar), .val (.int ps), .val (.int (1 : Int32))] [])) (st14) ?_
  refine own_st (T' := T14) (g' := (mkF m 23 #[.val (.ref a1), .val (.ref ar), .val (.int ps), .val (.int (1 : Int32))] [(.ref a1)])) (fun _ kq => XS.aloadN X14.here hx rfl (hb hby d_prog_69_method_2_22) rfl rfl kq) ?_
  refine own_st (T' := T14) (g' := (mkF m 24 #[.val (.ref a1), .val (.ref ar), .val (.int ps), .val (.int (1 : Int32))] [(.int (1 : Int32)), (.ref a1)])) (fun _ kq => XS.iloadN X14.here hx rfl (hb hby d_prog_69_method_2_23) rfl kq) ?_
  have E_a1_16 : Exa Z h14 a1 "com/example/tacit/tacit/wire/MessageReader" := (E_a1_12.wr W14)
  have F_a1_checksOnly_17 : Fld Z h14 a1 "com/example/tacit/tacit/wire/MessageReader" "checksOnly" "Z" (.int (0 : Int32)) := (((F3.ext E2).other W10 (Or.inr (slot_ne (Or.inr (hw _ (List.mem_of_getElem? (i := 31) rfl))) (Or.inr (hw _ (List.mem_of_getElem? (i := 27) rfl))) (by decide) (t := .boolean) (t' := (.array .byte)) (by decide) (by decide)))).other W14 (Or.inr (slot_ne (Or.inr (hw _ (List.mem_of_getElem? (i := 31) rfl))) (Or.inl (hw _ (List.mem_of_getElem? (i := 29) rfl))) (by decide) (t := .boolean) (t' := .int) (by decide) (by decide))))
  obtain ⟨T18, h18, X18, e18, W18, st18⟩ := putFN X14 hx hZ2 hown2 (hw _ (List.mem_of_getElem? (i := 30) rfl)) Via.refl e14 F_a1_checksOnly_17 E_a1_16 (Or.inr ⟨(hw _ (List.mem_of_getElem? (i := 31) rfl)), rfl, hnm⟩) (hw _ (List.mem_of_getElem? (i := 2) rfl)) (ty := .boolean) (v' := (.int (1 : Int32))) (by decide) rfl rfl (g := (mkF m 24 #[.val (.ref a1), .val (.ref ar), .val (.int ps), .val (.int (1 : Int32))] [(.int (1 : Int32)), (.ref a1)])) rfl rfl (hb hby d_prog_69_method_2_24)
  have Fw18 : Fld Z h18 a1 "com/example/tacit/tacit/wire/MessageReader" "checksOnly" "Z" (.int (1 : Int32)) := Fld.same W18 F_a1_checksOnly_17
  have N19 := Fr.snoc X18 N15 ga
  refine own_st (T' := T18) (g' := (mkF m 27 #[.val (.ref a1), .val (.ref ar), .val (.int ps), .val (.int (1 : Int32))] [])) (st18) ?_
  have K20 : Keep h0 h18 [a1] := (((((Keep.refl h0 [a1]).ext E2).wr W10 (Or.inl (List.mem_of_getElem? (i := 0) rfl))).wr W14 (Or.inl (List.mem_of_getElem? (i := 0) rfl))).wr W18 (Or.inl (List.mem_of_getElem? (i := 0) rfl)))
  have F_a1_message_21 : Fld Z h18 a1 "com/example/tacit/tacit/wire/MessageReader" "message" "[B" (.ref ar) := ((Fw10.other W14 (Or.inr (slot_ne (Or.inr (hw _ (List.mem_of_getElem? (i := 27) rfl))) (Or.inl (hw _ (List.mem_of_getElem? (i := 29) rfl))) (by decide) (t := (.array .byte)) (t' := .int) (by decide) (by decide)))).other W18 (Or.inr (slot_ne (Or.inr (hw _ (List.mem_of_getElem? (i := 27) rfl))) (Or.inr (hw _ (List.mem_of_getElem? (i := 31) rfl))) (by decide) (t := (.array .byte)) (t' := .boolean) (by decide) (by decide))))
  have F_a1_position_22 : Fld Z h18 a1 "com/example/tacit/tacit/wire/MessageReader" "position" "I" (.int ps) := (Fw14.other W18 (Or.inr (slot_ne (Or.inl (hw _ (List.mem_of_getElem? (i := 29) rfl))) (Or.inr (hw _ (List.mem_of_getElem? (i := 31) rfl))) (by decide) (t := .int) (t' := .boolean) (by decide) (by decide))))
  have F_a1_checkedEnd_23 : Fld Z h18 a1 "com/example/tacit/tacit/wire/MessageReader" "checkedEnd" "I" (.int (0 : Int32)) := ((((F4.ext E2).other W10 (Or.inr (slot_ne (Or.inl (hw _ (List.mem_of_getElem? (i := 38) rfl))) (Or.inr (hw _ (List.mem_of_getElem? (i := 27) rfl))) (by decide) (t := .int) (t' := (.array .byte)) (by decide) (by decide)))).other W14 (Or.inr (slot_ne (Or.inl (hw _ (List.mem_of_getElem? (i := 38) rfl))) (Or.inl (hw _ (List.mem_of_getElem? (i := 29) rfl))) (by decide) (t := .int) (t' := .int) (by decide) (by decide)))).other W18 (Or.inr (slot_ne (Or.inl (hw _ (List.mem_of_getElem? (i := 38) rfl))) (Or.inr (hw _ (List.mem_of_getElem? (i := 31) rfl))) (by decide) (t := .int) (t' := .boolean) (by decide) (by decide))))
  refine own_outW X18 hS2 (by rw [e18]; exact (Nat.le_trans (Nat.le_trans (Nat.le_trans hk2 (Nat.le_of_eq W10.size.symm)) (Nat.le_of_eq W14.size.symm)) (Nat.le_of_eq W18.size.symm))) Bd.notSynchronized (v := none) (fun _ => rfl) (fun fs hr => X18.returnOut hx Bd.returns (hb hby d_prog_69_method_2_27) hr) ?_ (by decide) (by decide)
  rw [e18]
  exact ⟨rfl, N19, K20, F_a1_message_21, F_a1_position_22, Fw18, F_a1_checkedEnd_23⟩
theorem d_prog_69_method_1_0 : decode prog_69_method_1_code 0 = .ok (.aload_n 0, 1) := by decide +kernel
theorem d_prog_69_method_1_1 : decode prog_69_method_1_code 1 = .ok (.aload_n 1, 1) := by decide +kernel
theorem d_prog_69_method_1_2 : decode prog_69_method_1_code 2 = .ok (.iconst 0, 1) := by decide +kernel
theorem d_prog_69_method_1_3 : decode prog_69_method_1_code 3 = .ok (.iconst 0, 1) := by decide +kernel
theorem d_prog_69_method_1_4 : decode prog_69_method_1_code 4 = .ok (.invokespecial 1, 3) := by decide +kernel
theorem pd_BIZ_V_487 : parseMethodDescriptor "([BIZ)V" = some ⟨[(.array .byte), .int, .boolean], none⟩ := by decide +kernel
theorem d_prog_69_method_1_7 : decode prog_69_method_1_code 7 = .ok (.return_, 1) := by decide +kernel
theorem ef_ini (m : MethodId) (x0 : Addr) (x1 : Addr) : entryFrame m #[(.ref x0), (.ref x1)] 2 = mkF m 0 #[.val (.ref x0), .val (.ref x1)] [] := by first | (simp [entryFrame, mkF, argsToLocals, Value.category]; done) | rfl
def Qini (Z : State) (a1 ar : Addr) (h0 : Heap) (n0 : Nat) (v : Option Value) (h : Heap) (L : List Loc) : Prop := v = none ∧ Fr n0 L ∧ Keep h0 h [a1] ∧ Fld Z h a1 "com/example/tacit/tacit/wire/MessageReader" "message" "[B" (.ref ar) ∧ Fld Z h a1 "com/example/tacit/tacit/wire/MessageReader" "position" "I" (.int (0 : Int32)) ∧ Fld Z h a1 "com/example/tacit/tacit/wire/MessageReader" "checksOnly" "Z" (.int (0 : Int32)) ∧ Fld Z h a1 "com/example/tacit/tacit/wire/MessageReader" "checkedEnd" "I" (.int (0 : Int32))
set_option maxRecDepth 65536 in
set_option maxHeartbeats 40000000 in
theorem rmini (l : Launch) (Z : State) (a0 : Array Value) (hw : ∀ d ∈ tables_1, d.before a0 Z = true) (ws : List Jvm.Cond) (a1 ar : Addr) (h0 : Heap) (n0 : Nat) (O0 : Old Z n0 h0) (Ea : Exa Z h0 a1 "com/example/tacit/tacit/wire/MessageReader") (F1 : Fld Z h0 a1 "com/example/tacit/tacit/wire/MessageReader" "message" "[B" .null) (F2 : Fld Z h0 a1 "com/example/tacit/tacit/wire/MessageReader" "position" "I" (.int (0 : Int32))) (F3 : Fld Z h0 a1 "com/example/tacit/tacit/wire/MessageReader" "checksOnly" "Z" (.int (0 : Int32))) (F4 : Fld Z h0 a1 "com/example/tacit/tacit/wire/MessageReader" "checkedEnd" "I" (.int (0 : Int32))) (ga : n0 ≤ a1) (Eb : Exa Z h0 ar "[B") (ne : ar ≠ a1) :
    MetFree l (⟨"com/example/tacit/tacit/wire/MessageReader", "<init>", "([B)V"⟩ : MethodName) (head1 (Jvm.Cond.code (⟨"com/example/tacit/tacit/wire/MessageReader", "<init>", "([B)V"⟩ : MethodName) prog_69_method_1_code 2 none :: ws) ({ frames := 2, cells := 2, slots := 32, locals := 29 } : Room)) (fun a U => a = #[(.ref a1), (.ref ar)] ∧ Z.Warmed39 U.vm ∧ U.heap = h0) (fun _ _ _ _ _ => True) (fun _ U o U' => ∃ v L, o = .returned v ∧ Qini Z a1 ar h0 n0 v U'.heap L ∧ ReturnedEndW U o U' L ({ frames := 2, cells := 2, slots := 32, locals := 29 } : Room).cells ({ frames := 2, cells := 2, slots := 32, locals := 29 } : Room).slots) := by
  refine MetFree.of_bodySF (plainFor_of_name pn_com_example_tacit_tacit_wire_MessageReader) hisR ?_
  intro p e s m args below meth c s₁ Bd hml0 hP hK
  obtain ⟨rfl, hZ, hh⟩ := hP
  have hx := Bd.exec
  have hby := Bd.bytes
  have hml : c.maxLocals = 2 := hml0
  have hown : s.vm.findClass "com/example/tacit/tacit/wire/MessageReader" = some m.cls := findClass_of_methodNamed Bd.named
  have hnm := (name_of_methodNamed Bd.named Bd.method).1
  have X0 : Stand p l e ({ frames := 2, cells := 2, slots := 32, locals := 29 } : Room) (s.setVm s.vm) m #[(.ref a1), (.ref ar)] below meth c s₁ [] 0 0 := Stand.of_body Bd
  have e0 : s₁.heap = h0 := by rw [← hh, Bd.state]; rfl
  have N0 := Fr.nil n0
  have hS0 : s.Since s.vm h0.size := State.WarmedH.since (State.WarmedH.refl s) _
  refine own_in (ef_ini m a1 ar) ?_
  refine own_st (T' := s₁) (g' := (mkF m 1 #[.val (.ref a1), .val (.ref ar)] [(.ref a1)])) (fun _ kq => XS.aloadN X0.here hx rfl (hb hby d_prog_69_method_1_0) rfl rfl kq) ?_
  refine own_st (T' := s₁) (g' := (mkF m 2 #[.val (.ref a1), .val (.ref ar)] [(.ref ar), (.ref a1)])) (fun _ kq => XS.aloadN X0.here hx rfl (hb hby d_prog_69_method_1_1) rfl rfl kq) ?_
  refine own_st (T' := s₁) (g' := (mkF m 3 #[.val (.ref a1), .val (.ref ar)] [(.int (0 : Int32)), (.ref ar), (.ref a1)])) (fun _ kq => XS.iconst X0.here hx rfl (hb hby d_prog_69_method_1_2) kq) ?_
  refine own_st (T' := s₁) (g' := (mkF m 4 #[.val (.ref a1), .val (.ref ar)] [(.int (0 : Int32)), (.int (0 : Int32)), (.ref ar), (.ref a1)])) (fun _ kq => XS.iconst X0.here hx rfl (hb hby d_prog_69_method_1_3) kq) ?_
  obtain ⟨_, _, ⟨T1, L1, k1, n1⟩, -, X1, hSc1, hgr1, ⟨Lc1, hQ1, l1, y1, z1⟩, st1⟩ := X0.specialBackS hx (y := (⟨"com/example/tacit/tacit/wire/MessageReader", "<init>", "([BIZ)V"⟩ : MethodName)) rfl hown (mvT hZ (hw _ (List.mem_of_getElem? (i := 7) rfl))) (mvT hZ (hw _ (List.mem_of_getElem? (i := 8) rfl))) (mvT hZ (hw _ (List.mem_of_getElem? (i := 9) rfl))) (by decide) (backOfS (W := 0) (rmini0 l Z a0 hw [] a1 ar (0 : Int32) h0 n0 O0 Ea F1 F2 F3 F4 ga Eb ne) hZ (hw _ (List.mem_of_getElem? (i := 9) rfl)) (hw _ (List.mem_of_getElem? (i := 3) rfl)) (by decide) (by decide)) (g := (mkF m 4 #[.val (.ref a1), .val (.ref ar)] [(.int (0 : Int32)), (.int (0 : Int32)), (.ref ar), (.ref a1)])) rfl (by rw [hml]; rfl) (Steps.refl _) (a := a1) (argsL := [(.ref ar), (.int (0 : Int32)), (.int (0 : Int32))]) (rest := []) (lenOf pd_BIZ_V_487 rfl) rfl (by show 2 * 0 + _ ≤ _; exact Nat.le_of_eq rfl) (hb hby d_prog_69_method_1_4) (fun _ _ => ⟨rfl, e0, (by decide : 0 + 2 ≤ _), (by decide : 0 + 32 ≤ _)⟩)
  dsimp only [Pt.U, Pt.locs, Pt.cells, Pt.slots] at X1 l1 y1 z1 st1 hQ1 hSc1 hgr1
  subst l1 y1 z1
  obtain ⟨rfl, Nq1, Kc1, Fa1, Fb1, Fc1, Fd1⟩ := hQ1
  have N2 := Fr.app N0 Nq1
  have hS1 := foldS (T := s₁) hS0 (by rw [e0]; exact (Nat.le_refl _)) hSc1 hgr1
  have hZ1 : Z.Warmed39 (s.setVm T1.vm).vm := State.Warmed39.trans (t := (s.setVm s.vm)) hZ hSc1.1
  have hown1 : (s.setVm T1.vm).vm.findClass "com/example/tacit/tacit/wire/MessageReader" = some m.cls := by rw [show (s.setVm T1.vm).vm = T1.vm from rfl, hSc1.1.alike.findClass]; exact hown
  have X1 := own_reX X1
  refine own_ts (T' := T1) (g' := (mkF m 7 #[.val (.ref a1), .val (.ref ar)] [])) st1 ?_
  have K3 : Keep h0 T1.heap [a1] := ((Keep.refl h0 [a1]).trans Kc1 (allS (Or.inl (List.mem_of_getElem? (i := 0) rfl)) all0))
  refine own_outW X1 hS1 (Nat.le_refl _) Bd.notSynchronized (v := none) (fun _ => rfl) (fun fs hr => X1.returnOut hx Bd.returns (hb hby d_prog_69_method_1_7) hr) ?_ (by decide) (by decide)
  exact ⟨rfl, N2, K3, Fa1, Fb1, Fc1, Fd1⟩
theorem d_prog_69_method_30_0 : decode prog_69_method_30_code 0 = .ok (.new 2, 3) := by decide +kernel
theorem d_prog_69_method_30_3 : decode prog_69_method_30_code 3 = .ok (.dup, 1) := by decide +kernel
theorem d_prog_69_method_30_4 : decode prog_69_method_30_code 4 = .ok (.aload_n 0, 1) := by decide +kernel
theorem d_prog_69_method_30_5 : decode prog_69_method_30_code 5 = .ok (.getfield 22, 3) := by decide +kernel
theorem d_prog_69_method_30_8 : decode prog_69_method_30_code 8 = .ok (.aload_n 0, 1) := by decide +kernel
theorem d_prog_69_method_30_9 : decode prog_69_method_30_code 9 = .ok (.getfield 24, 3) := by decide +kernel
theorem d_prog_69_method_30_12 : decode prog_69_method_30_code 12 = .ok (.iconst 1, 1) := by decide +kernel
theorem d_prog_69_method_30_13 : decode prog_69_method_30_code 13 = .ok (.invokespecial 1, 3) := by decide +kernel
theorem d_prog_69_method_30_16 : decode prog_69_method_30_code 16 = .ok (.areturn, 1) := by decide +kernel
theorem ef_ckr (m : MethodId) (x0 : Addr) : entryFrame m #[(.ref x0)] 1 = mkF m 0 #[.val (.ref x0)] [] := by first | (simp [entryFrame, mkF, argsToLocals, Value.category]; done) | rfl
def Qckr (Z : State) (a1 ar : Addr) (ps : Int32) (h0 : Heap) (n0 : Nat) (v : Option Value) (h : Heap) (L : List Loc) : Prop := ∃ r : Addr, v = some (.ref r) ∧ Fr n0 L ∧ Keep h0 h [] ∧ n0 ≤ r ∧ h0.size ≤ r ∧ Exa Z h r "com/example/tacit/tacit/wire/MessageReader" ∧ Fld Z h r "com/example/tacit/tacit/wire/MessageReader" "message" "[B" (.ref ar) ∧ Fld Z h r "com/example/tacit/tacit/wire/MessageReader" "position" "I" (.int ps) ∧ Fld Z h r "com/example/tacit/tacit/wire/MessageReader" "checksOnly" "Z" (.int (1 : Int32)) ∧ Fld Z h r "com/example/tacit/tacit/wire/MessageReader" "checkedEnd" "I" (.int (0 : Int32))
set_option maxRecDepth 65536 in
set_option maxHeartbeats 40000000 in
theorem rmckr (l : Launch) (Z : State) (a0 : Array Value) (hw : ∀ d ∈ tables_1, d.before a0 Z = true) (ws : List Jvm.Cond) (a1 ar : Addr) (ps : Int32) (h0 : Heap) (n0 : Nat) (O0 : Old Z n0 h0) (F1 : Fld Z h0 a1 "com/example/tacit/tacit/wire/MessageReader" "message" "[B" (.ref ar)) (F2 : Fld Z h0 a1 "com/example/tacit/tacit/wire/MessageReader" "position" "I" (.int ps)) (Eb : Exa Z h0 ar "[B") :
    MetFree l (⟨"com/example/tacit/tacit/wire/MessageReader", "checker", "()Lcom/example/tacit/tacit/wire/MessageReader;"⟩ : MethodName) (head1 (Jvm.Cond.code (⟨"com/example/tacit/tacit/wire/MessageReader", "checker", "()Lcom/example/tacit/tacit/wire/MessageReader;"⟩ : MethodName) prog_69_method_30_code 1 (some (.object "com/example/tacit/tacit/wire/MessageReader")) :: ws) ({ frames := 2, cells := 3, slots := 36, locals := 30 } : Room)) (fun a U => a = #[(.ref a1)] ∧ Z.Warmed39 U.vm ∧ U.heap = h0) (fun _ _ _ _ _ => True) (fun _ U o U' => ∃ v L, o = .returned v ∧ Qckr Z a1 ar ps h0 n0 v U'.heap L ∧ ReturnedEndW U o U' L ({ frames := 2, cells := 3, slots := 36, locals := 30 } : Room).cells ({ frames := 2, cells := 3, slots := 36, locals := 30 } : Room).slots) := by
  refine MetFree.of_bodySF (plainFor_of_name pn_com_example_tacit_tacit_wire_MessageReader) hisR ?_
  intro p e s m args below meth c s₁ Bd hml0 hP hK
  obtain ⟨rfl, hZ, hh⟩ := hP
  have hx := Bd.exec
  have hby := Bd.bytes
  have hml : c.maxLocals = 1 := hml0
  have hown : s.vm.findClass "com/example/tacit/tacit/wire/MessageReader" = some m.cls := findClass_of_methodNamed Bd.named
  have hnm := (name_of_methodNamed Bd.named Bd.method).1
  have X0 : Stand p l e ({ frames := 2, cells := 3, slots := 36, locals := 30 } : Room) (s.setVm s.vm) m #[(.ref a1)] below meth c s₁ [] 0 0 := Stand.of_body Bd
  have e0 : s₁.heap = h0 := by rw [← hh, Bd.state]; rfl
  have N0 := Fr.nil n0
  have hS0 : s.Since s.vm h0.size := State.WarmedH.since (State.WarmedH.refl s) _
  refine own_in (ef_ckr m a1) ?_
  obtain ⟨T1, h1, X1, e1, E1, A1, D1, -, st1⟩ := newO X0 hx hZ hown (hw _ (List.mem_of_getElem? (i := 76) rfl)) (hw _ (List.mem_of_getElem? (i := 2) rfl)) (hw _ (List.mem_of_getElem? (i := 3) rfl)) e0 (g := (mkF m 0 #[.val (.ref a1)] [])) rfl (hb hby d_prog_69_method_30_0) (by decide) (by decide)
  obtain ⟨b1, g1⟩ : ∃ z, z = h0.size := ⟨_, rfl⟩
  rw [← g1] at A1 D1 st1
  have ne_a1_b1 : a1 ≠ b1 := Nat.ne_of_lt (Nat.lt_of_lt_of_le F1.lt (Nat.le_of_eq g1.symm))
  have ne_ar_b1 : ar ≠ b1 := Nat.ne_of_lt (Nat.lt_of_lt_of_le Eb.lt (Nat.le_of_eq g1.symm))
  have g_b1 : n0 ≤ b1 := Nat.le_trans (own_old O0) (Nat.le_of_eq g1.symm)
  have sz_b1 : h0.size ≤ b1 := Nat.le_trans (Keep.refl h0 []).1 (Nat.le_of_eq g1.symm)
  have F_message_b1 : Fld Z h1 b1 "com/example/tacit/tacit/wire/MessageReader" "message" "[B" .null := D1 (Or.inr (hw _ (List.mem_of_getElem? (i := 27) rfl))) (ty := (.array .byte)) (by decide)
  have F_position_b1 : Fld Z h1 b1 "com/example/tacit/tacit/wire/MessageReader" "position" "I" (.int (0 : Int32)) := D1 (Or.inl (hw _ (List.mem_of_getElem? (i := 29) rfl))) (ty := .int) (by decide)
  have F_checksOnly_b1 : Fld Z h1 b1 "com/example/tacit/tacit/wire/MessageReader" "checksOnly" "Z" (.int (0 : Int32)) := D1 (Or.inr (hw _ (List.mem_of_getElem? (i := 31) rfl))) (ty := .boolean) (by decide)
  have F_checkedEnd_b1 : Fld Z h1 b1 "com/example/tacit/tacit/wire/MessageReader" "checkedEnd" "I" (.int (0 : Int32)) := D1 (Or.inl (hw _ (List.mem_of_getElem? (i := 38) rfl))) (ty := .int) (by decide)
  refine own_st (T' := T1) (g' := (mkF m 3 #[.val (.ref a1)] [(.ref b1)])) (st1) ?_
  refine own_st (T' := T1) (g' := (mkF m 4 #[.val (.ref a1)] [(.ref b1), (.ref b1)])) (fun _ kq => XS.dup X1.here hx rfl (hb hby d_prog_69_method_30_3) rfl rfl kq) ?_
  refine own_st (T' := T1) (g' := (mkF m 5 #[.val (.ref a1)] [(.ref a1), (.ref b1), (.ref b1)])) (fun _ kq => XS.aloadN X1.here hx rfl (hb hby d_prog_69_method_30_4) rfl rfl kq) ?_
  have F_a1_message_2 : Fld Z h1 a1 "com/example/tacit/tacit/wire/MessageReader" "message" "[B" (.ref ar) := (F1.ext E1)
  obtain ⟨T3, X3, e3, st3⟩ := getF X1 hx hZ hown (host := "") (Or.inl (hw _ (List.mem_of_getElem? (i := 26) rfl))) Via.refl e1 F_a1_message_2 (g := (mkF m 5 #[.val (.ref a1)] [(.ref a1), (.ref b1), (.ref b1)])) rfl rfl (hb hby d_prog_69_method_30_5)
  refine own_st (T' := T3) (g' := (mkF m 8 #[.val (.ref a1)] [(.ref ar), (.ref b1), (.ref b1)])) (st3) ?_
  refine own_st (T' := T3) (g' := (mkF m 9 #[.val (.ref a1)] [(.ref a1), (.ref ar), (.ref b1), (.ref b1)])) (fun _ kq => XS.aloadN X3.here hx rfl (hb hby d_prog_69_method_30_8) rfl rfl kq) ?_
  have F_a1_position_4 : Fld Z h1 a1 "com/example/tacit/tacit/wire/MessageReader" "position" "I" (.int ps) := (F2.ext E1)
  obtain ⟨T5, X5, e5, st5⟩ := getF X3 hx hZ hown (host := "") (Or.inl (hw _ (List.mem_of_getElem? (i := 28) rfl))) Via.refl e3 F_a1_position_4 (g := (mkF m 9 #[.val (.ref a1)] [(.ref a1), (.ref ar), (.ref b1), (.ref b1)])) rfl rfl (hb hby d_prog_69_method_30_9)
  refine own_st (T' := T5) (g' := (mkF m 12 #[.val (.ref a1)] [(.int ps), (.ref ar), (.ref b1), (.ref b1)])) (st5) ?_
  refine own_st (T' := T5) (g' := (mkF m 13 #[.val (.ref a1)] [(.int (1 : Int32)), (.int ps), (.ref ar), (.ref b1), (.ref b1)])) (fun _ kq => XS.iconst X5.here hx rfl (hb hby d_prog_69_method_30_12) kq) ?_
  have O6 : Old Z n0 h1 := (O0.ext E1)
  have E_ar_7 : Exa Z h1 ar "[B" := (Eb.ext E1)
  obtain ⟨_, _, ⟨T8, L8, k8, n8⟩, -, X8, hSc8, hgr8, ⟨Lc8, hQ8, l8, y8, z8⟩, st8⟩ := X5.specialBackS hx (y := (⟨"com/example/tacit/tacit/wire/MessageReader", "<init>", "([BIZ)V"⟩ : MethodName)) rfl hown (mvT hZ (hw _ (List.mem_of_getElem? (i := 7) rfl))) (mvT hZ (hw _ (List.mem_of_getElem? (i := 8) rfl))) (mvT hZ (hw _ (List.mem_of_getElem? (i := 9) rfl))) (by decide) (backOfS (W := 1) (rmini1 l Z a0 hw [] b1 ar ps h1 n0 O6 A1 F_message_b1 F_position_b1 F_checksOnly_b1 F_checkedEnd_b1 g_b1 E_ar_7 ne_ar_b1) hZ (hw _ (List.mem_of_getElem? (i := 9) rfl)) (hw _ (List.mem_of_getElem? (i := 3) rfl)) (by decide) (by decide)) (g := (mkF m 13 #[.val (.ref a1)] [(.int (1 : Int32)), (.int ps), (.ref ar), (.ref b1), (.ref b1)])) rfl (by rw [hml]; rfl) (Steps.refl _) (a := b1) (argsL := [(.ref ar), (.int ps), (.int (1 : Int32))]) (rest := [(.ref b1)]) (lenOf pd_BIZ_V_487 rfl) rfl (by show 2 * 0 + _ ≤ _; exact Nat.le_of_eq rfl) (hb hby d_prog_69_method_30_13) (fun _ _ => ⟨rfl, e5, (by decide : 1 + 2 ≤ _), (by decide : 4 + 32 ≤ _)⟩)
  dsimp only [Pt.U, Pt.locs, Pt.cells, Pt.slots] at X8 l8 y8 z8 st8 hQ8 hSc8 hgr8
  subst l8 y8 z8
  obtain ⟨rfl, Nq8, Kc8, Fa8, Fb8, Fc8, Fd8⟩ := hQ8
  have N9 := Fr.app N0 Nq8
  have hS8 := foldS (T := T5) hS0 (by rw [e5]; exact (Nat.le_trans (Nat.le_refl _) E1.1)) hSc8 hgr8
  have hZ8 : Z.Warmed39 (s.setVm T8.vm).vm := State.Warmed39.trans (t := (s.setVm s.vm)) hZ hSc8.1
  have hown8 : (s.setVm T8.vm).vm.findClass "com/example/tacit/tacit/wire/MessageReader" = some m.cls := by rw [show (s.setVm T8.vm).vm = T8.vm from rfl, hSc8.1.alike.findClass]; exact hown
  have X8 := own_reX X8
  refine own_ts (T' := T8) (g' := (mkF m 16 #[.val (.ref a1)] [(.ref b1)])) st8 ?_
  have K10 : Keep h0 T8.heap [] := (((Keep.refl h0 []).ext E1).trans Kc8 (allS (Or.inr sz_b1) all0))
  have E_b1_11 : Exa Z T8.heap b1 "com/example/tacit/tacit/wire/MessageReader" := (A1.keep Kc8)
  refine own_outW X8 hS8 (Nat.le_refl _) Bd.notSynchronized (v := (some (.ref b1))) (fun h => by rw [Bd.returns] at h; cases h) (fun fs hr => own_retA X8 hx Bd.returns rfl rfl rfl (hb hby d_prog_69_method_30_16) hr) ?_ (by decide) (by decide)
  exact ⟨_, rfl, N9, K10, g_b1, sz_b1, E_b1_11, Fa8, Fb8, Fc8, Fd8⟩
theorem d_prog_69_method_31_0 : decode prog_69_method_31_code 0 = .ok (.aload_n 0, 1) := by decide +kernel
theorem d_prog_69_method_31_1 : decode prog_69_method_31_code 1 = .ok (.getfield 28, 3) := by decide +kernel
theorem d_prog_69_method_31_4 : decode prog_69_method_31_code 4 = .ok (.ifCond .ne 14, 3) := by decide +kernel
theorem d_prog_69_method_31_7 : decode prog_69_method_31_code 7 = .ok (.aload_n 0, 1) := by decide +kernel
theorem d_prog_69_method_31_8 : decode prog_69_method_31_code 8 = .ok (.getfield 24, 3) := by decide +kernel
theorem d_prog_69_method_31_11 : decode prog_69_method_31_code 11 = .ok (.aload_n 0, 1) := by decide +kernel
theorem d_prog_69_method_31_12 : decode prog_69_method_31_code 12 = .ok (.getfield 44, 3) := by decide +kernel
theorem d_prog_69_method_31_15 : decode prog_69_method_31_code 15 = .ok (.if_icmp .ge 7, 3) := by decide +kernel
theorem d_prog_69_method_31_18 : decode prog_69_method_31_code 18 = .ok (.iconst 1, 1) := by decide +kernel
theorem d_prog_69_method_31_19 : decode prog_69_method_31_code 19 = .ok (.goto 4, 3) := by decide +kernel
theorem d_prog_69_method_31_23 : decode prog_69_method_31_code 23 = .ok (.ireturn, 1) := by decide +kernel
theorem d_prog_69_method_31_22 : decode prog_69_method_31_code 22 = .ok (.iconst 0, 1) := by decide +kernel
theorem ef_ckd (m : MethodId) (x0 : Addr) : entryFrame m #[(.ref x0)] 1 = mkF m 0 #[.val (.ref x0)] [] := by first | (simp [entryFrame, mkF, argsToLocals, Value.category]; done) | rfl
def Qckd (Z : State) (a1 : Addr) (fl ps en : Int32) (h0 : Heap) (n0 : Nat) (v : Option Value) (h : Heap) (L : List Loc) : Prop := v = some (.int (own_checked fl ps en)) ∧ Fr n0 L ∧ h = h0
set_option maxRecDepth 65536 in
set_option maxHeartbeats 40000000 in
theorem rmckd (l : Launch) (Z : State) (a0 : Array Value) (hw : ∀ d ∈ tables_1, d.before a0 Z = true) (ws : List Jvm.Cond) (a1 : Addr) (fl ps en : Int32) (h0 : Heap) (n0 : Nat) (O0 : Old Z n0 h0) (F2 : Fld Z h0 a1 "com/example/tacit/tacit/wire/MessageReader" "position" "I" (.int ps)) (F3 : Fld Z h0 a1 "com/example/tacit/tacit/wire/MessageReader" "checksOnly" "Z" (.int fl)) (F4 : Fld Z h0 a1 "com/example/tacit/tacit/wire/MessageReader" "checkedEnd" "I" (.int en)) :
    MetFree l (⟨"com/example/tacit/tacit/wire/MessageReader", "checked", "()Z"⟩ : MethodName) (head1 (Jvm.Cond.code (⟨"com/example/tacit/tacit/wire/MessageReader", "checked", "()Z"⟩ : MethodName) prog_69_method_31_code 1 (some .boolean) :: ws) ({ frames := 0, cells := 0, slots := 0, locals := 0 } : Room)) (fun a U => a = #[(.ref a1)] ∧ Z.Warmed39 U.vm ∧ U.heap = h0) (fun _ _ _ _ _ => True) (fun _ U o U' => ∃ v L, o = .returned v ∧ Qckd Z a1 fl ps en h0 n0 v U'.heap L ∧ FrameEnd U o U' L ({ frames := 0, cells := 0, slots := 0, locals := 0 } : Room).cells ({ frames := 0, cells := 0, slots := 0, locals := 0 } : Room).slots) := by
  refine MetFree.of_bodySF (plainFor_of_name pn_com_example_tacit_tacit_wire_MessageReader) hisR ?_
  intro p e s m args below meth c s₁ Bd hml0 hP hK
  obtain ⟨rfl, hZ, hh⟩ := hP
  have hx := Bd.exec
  have hby := Bd.bytes
  have hml : c.maxLocals = 1 := hml0
  have hown : s.vm.findClass "com/example/tacit/tacit/wire/MessageReader" = some m.cls := findClass_of_methodNamed Bd.named
  have hnm := (name_of_methodNamed Bd.named Bd.method).1
  have X0 : Stand p l e ({ frames := 0, cells := 0, slots := 0, locals := 0 } : Room) s m #[(.ref a1)] below meth c s₁ [] 0 0 := Stand.of_body Bd
  have e0 : s₁.heap = h0 := by rw [← hh, Bd.state]; rfl
  have N0 := Fr.nil n0
  have hS0 : s.Since s.vm h0.size := State.WarmedH.since (State.WarmedH.refl s) _
  refine own_in (ef_ckd m a1) ?_
  refine own_st (T' := s₁) (g' := (mkF m 1 #[.val (.ref a1)] [(.ref a1)])) (fun _ kq => XS.aloadN X0.here hx rfl (hb hby d_prog_69_method_31_0) rfl rfl kq) ?_
  obtain ⟨T1, X1, e1, st1⟩ := getF X0 hx hZ hown (host := "") (Or.inl (hw _ (List.mem_of_getElem? (i := 30) rfl))) Via.refl e0 F3 (g := (mkF m 1 #[.val (.ref a1)] [(.ref a1)])) rfl rfl (hb hby d_prog_69_method_31_1)
  refine own_st (T' := T1) (g' := (mkF m 4 #[.val (.ref a1)] [(.int fl)])) (st1) ?_
  by_cases hf : fl = (0 : Int32)
  · refine own_st (T' := T1) (g' := (mkF m 7 #[.val (.ref a1)] [])) (fun _ kq => XS.ifNo X1.here hx rfl (hb hby d_prog_69_method_31_4) rfl ((if0 _ _).trans (teq (hf : fl = (0 : Int32))).2) kq) ?_
    refine own_st (T' := T1) (g' := (mkF m 8 #[.val (.ref a1)] [(.ref a1)])) (fun _ kq => XS.aloadN X1.here hx rfl (hb hby d_prog_69_method_31_7) rfl rfl kq) ?_
    obtain ⟨T2, X2, e2, st2⟩ := getF X1 hx hZ hown (host := "") (Or.inl (hw _ (List.mem_of_getElem? (i := 28) rfl))) Via.refl e1 F2 (g := (mkF m 8 #[.val (.ref a1)] [(.ref a1)])) rfl rfl (hb hby d_prog_69_method_31_8)
    refine own_st (T' := T2) (g' := (mkF m 11 #[.val (.ref a1)] [(.int ps)])) (st2) ?_
    refine own_st (T' := T2) (g' := (mkF m 12 #[.val (.ref a1)] [(.ref a1), (.int ps)])) (fun _ kq => XS.aloadN X2.here hx rfl (hb hby d_prog_69_method_31_11) rfl rfl kq) ?_
    obtain ⟨T3, X3, e3, st3⟩ := getF X2 hx hZ hown (host := "") (Or.inl (hw _ (List.mem_of_getElem? (i := 37) rfl))) Via.refl e2 F4 (g := (mkF m 12 #[.val (.ref a1)] [(.ref a1), (.int ps)])) rfl rfl (hb hby d_prog_69_method_31_12)
    refine own_st (T' := T3) (g' := (mkF m 15 #[.val (.ref a1)] [(.int en), (.int ps)])) (st3) ?_
    by_cases hp : ps < en
    · refine own_st (T' := T3) (g' := (mkF m 18 #[.val (.ref a1)] [])) (fun _ kq => XS.icmpNo X3.here hx rfl (hb hby d_prog_69_method_31_15) rfl (tlt (hp : ps < en)).2.1 kq) ?_
      refine own_st (T' := T3) (g' := (mkF m 19 #[.val (.ref a1)] [(.int (1 : Int32))])) (fun _ kq => XS.iconst X3.here hx rfl (hb hby d_prog_69_method_31_18) kq) ?_
      refine own_st (T' := T3) (g' := (mkF m 23 #[.val (.ref a1)] [(.int (1 : Int32))])) (fun _ kq => XS.goto X3.here hx rfl (pc0 := 19) (pc' := 23) rfl (hb hby d_prog_69_method_31_19) (by decide) (by decide) kq) ?_
      refine own_out X3 Bd.notSynchronized (v := (some (.int (1 : Int32)))) (fun h => by rw [Bd.returns] at h; cases h) (fun fs hr => retN X3 hx (t := .boolean) Bd.returns (by simp) (hb hby d_prog_69_method_31_23) hr) ?_ (by decide) (by decide)
      rw [e3]
      exact ⟨by unfold own_checked; rw [if_pos hf, if_pos hp], N0, rfl⟩
    · refine own_st (T' := T3) (g' := (mkF m 22 #[.val (.ref a1)] [])) (fun _ kq => XS.icmpYes X3.here hx rfl (pc0 := 15) (pc' := 22) rfl (hb hby d_prog_69_method_31_15) rfl (flt (hp : ¬ (ps < en))).2.1 (by decide) (by decide) kq) ?_
      refine own_st (T' := T3) (g' := (mkF m 23 #[.val (.ref a1)] [(.int (0 : Int32))])) (fun _ kq => XS.iconst X3.here hx rfl (hb hby d_prog_69_method_31_22) kq) ?_
      refine own_out X3 Bd.notSynchronized (v := (some (.int (0 : Int32)))) (fun h => by rw [Bd.returns] at h; cases h) (fun fs hr => retN X3 hx (t := .boolean) Bd.returns (by simp) (hb hby d_prog_69_method_31_23) hr) ?_ (by decide) (by decide)
      rw [e3]
      exact ⟨by unfold own_checked; rw [if_pos hf, if_neg hp], N0, rfl⟩
  · refine own_st (T' := T1) (g' := (mkF m 18 #[.val (.ref a1)] [])) (fun _ kq => XS.ifYes X1.here hx rfl (pc0 := 4) (pc' := 18) rfl (hb hby d_prog_69_method_31_4) rfl ((if0 _ _).trans (feq (hf : ¬ (fl = (0 : Int32)))).2) (by decide) (by decide) kq) ?_
    refine own_st (T' := T1) (g' := (mkF m 19 #[.val (.ref a1)] [(.int (1 : Int32))])) (fun _ kq => XS.iconst X1.here hx rfl (hb hby d_prog_69_method_31_18) kq) ?_
    refine own_st (T' := T1) (g' := (mkF m 23 #[.val (.ref a1)] [(.int (1 : Int32))])) (fun _ kq => XS.goto X1.here hx rfl (pc0 := 19) (pc' := 23) rfl (hb hby d_prog_69_method_31_19) (by decide) (by decide) kq) ?_
    refine own_out X1 Bd.notSynchronized (v := (some (.int (1 : Int32)))) (fun h => by rw [Bd.returns] at h; cases h) (fun fs hr => retN X1 hx (t := .boolean) Bd.returns (by simp) (hb hby d_prog_69_method_31_23) hr) ?_ (by decide) (by decide)
    rw [e1]
    exact ⟨by unfold own_checked; rw [if_neg hf], N0, rfl⟩
theorem d_prog_69_method_32_0 : decode prog_69_method_32_code 0 = .ok (.aload_n 0, 1) := by decide +kernel
theorem d_prog_69_method_32_1 : decode prog_69_method_32_code 1 = .ok (.aload_n 0, 1) := by decide +kernel
theorem d_prog_69_method_32_2 : decode prog_69_method_32_code 2 = .ok (.getfield 44, 3) := by decide +kernel
theorem d_prog_69_method_32_5 : decode prog_69_method_32_code 5 = .ok (.iload_n 1, 1) := by decide +kernel
theorem d_prog_69_method_32_6 : decode prog_69_method_32_code 6 = .ok (.invokestatic 171, 3) := by decide +kernel
theorem d_prog_69_method_32_9 : decode prog_69_method_32_code 9 = .ok (.putfield 44, 3) := by decide +kernel
theorem d_prog_69_method_32_12 : decode prog_69_method_32_code 12 = .ok (.return_, 1) := by decide +kernel
theorem ef_cto (m : MethodId) (x0 : Addr) (x1 : Int32) : entryFrame m #[(.ref x0), (.int x1)] 2 = mkF m 0 #[.val (.ref x0), .val (.int x1)] [] := by first | (simp [entryFrame, mkF, argsToLocals, Value.category]; done) | rfl
def Qcto (Z : State) (a1 : Addr) (x en : Int32) (h0 : Heap) (n0 : Nat) (v : Option Value) (h : Heap) (L : List Loc) : Prop := v = none ∧ Fr n0 L ∧ (∃ W : Wr h0 h a1 (Jvm.RoadKit.slotOf Z "com/example/tacit/tacit/wire/MessageReader" "checkedEnd" "I") (.int (own_max en x)), True)
set_option maxRecDepth 65536 in
set_option maxHeartbeats 40000000 in
theorem rmcto (l : Launch) (Z : State) (a0 : Array Value) (hw : ∀ d ∈ tables_1, d.before a0 Z = true) (ws : List Jvm.Cond) (a1 : Addr) (x en : Int32) (h0 : Heap) (n0 : Nat) (O0 : Old Z n0 h0) (Ea : Exa Z h0 a1 "com/example/tacit/tacit/wire/MessageReader") (F4 : Fld Z h0 a1 "com/example/tacit/tacit/wire/MessageReader" "checkedEnd" "I" (.int en)) (ga : n0 ≤ a1) :
    MetFree l (⟨"com/example/tacit/tacit/wire/MessageReader", "checkedTo", "(I)V"⟩ : MethodName) (head1 (Jvm.Cond.code (⟨"com/example/tacit/tacit/wire/MessageReader", "checkedTo", "(I)V"⟩ : MethodName) prog_69_method_32_code 2 none :: ws) ({ frames := 1, cells := 0, slots := 0, locals := 14 } : Room)) (fun a U => a = #[(.ref a1), (.int x)] ∧ Z.Warmed39 U.vm ∧ U.heap = h0) (fun _ _ _ _ _ => True) (fun _ U o U' => ∃ v L, o = .returned v ∧ Qcto Z a1 x en h0 n0 v U'.heap L ∧ FrameEnd U o U' L ({ frames := 1, cells := 0, slots := 0, locals := 14 } : Room).cells ({ frames := 1, cells := 0, slots := 0, locals := 14 } : Room).slots) := by
  refine MetFree.of_bodySF (plainFor_of_name pn_com_example_tacit_tacit_wire_MessageReader) hisR ?_
  intro p e s m args below meth c s₁ Bd hml0 hP hK
  obtain ⟨rfl, hZ, hh⟩ := hP
  have hx := Bd.exec
  have hby := Bd.bytes
  have hml : c.maxLocals = 2 := hml0
  have hown : s.vm.findClass "com/example/tacit/tacit/wire/MessageReader" = some m.cls := findClass_of_methodNamed Bd.named
  have hnm := (name_of_methodNamed Bd.named Bd.method).1
  have X0 : Stand p l e ({ frames := 1, cells := 0, slots := 0, locals := 14 } : Room) s m #[(.ref a1), (.int x)] below meth c s₁ [] 0 0 := Stand.of_body Bd
  have e0 : s₁.heap = h0 := by rw [← hh, Bd.state]; rfl
  have N0 := Fr.nil n0
  have hS0 : s.Since s.vm h0.size := State.WarmedH.since (State.WarmedH.refl s) _
  refine own_in (ef_cto m a1 x) ?_
  refine own_st (T' := s₁) (g' := (mkF m 1 #[.val (.ref a1), .val (.int x)] [(.ref a1)])) (fun _ kq => XS.aloadN X0.here hx rfl (hb hby d_prog_69_method_32_0) rfl rfl kq) ?_
  refine own_st (T' := s₁) (g' := (mkF m 2 #[.val (.ref a1), .val (.int x)] [(.ref a1), (.ref a1)])) (fun _ kq => XS.aloadN X0.here hx rfl (hb hby d_prog_69_method_32_1) rfl rfl kq) ?_
  obtain ⟨T1, X1, e1, st1⟩ := getF X0 hx hZ hown (host := "") (Or.inl (hw _ (List.mem_of_getElem? (i := 37) rfl))) Via.refl e0 F4 (g := (mkF m 2 #[.val (.ref a1), .val (.int x)] [(.ref a1), (.ref a1)])) rfl rfl (hb hby d_prog_69_method_32_2)
  refine own_st (T' := T1) (g' := (mkF m 5 #[.val (.ref a1), .val (.int x)] [(.int en), (.ref a1)])) (st1) ?_
  refine own_st (T' := T1) (g' := (mkF m 6 #[.val (.ref a1), .val (.int x)] [(.int x), (.int en), (.ref a1)])) (fun _ kq => XS.iloadN X1.here hx rfl (hb hby d_prog_69_method_32_5) rfl kq) ?_
  obtain ⟨_, _, ⟨T2, L2, k2, n2⟩, -, X2, ⟨Lc2, hQ2, l2, y2, z2⟩, st2⟩ := Jvm.LawKit.callS X1 hx (y := (⟨"java/lang/Math", "max", "(II)I"⟩ : MethodName)) hown (mvT hZ (hw _ (List.mem_of_getElem? (i := 67) rfl))) (mvT hZ (hw _ (List.mem_of_getElem? (i := 68) rfl))) (mvT hZ (hw _ (List.mem_of_getElem? (i := 56) rfl))) (mvT hZ (hw _ (List.mem_of_getElem? (i := 69) rfl))) (by decide) (backOf (W := 1) (rmmax l Z a0 hw [] en x h0 n0 O0) hZ (hw _ (List.mem_of_getElem? (i := 69) rfl)) (hw _ (List.mem_of_getElem? (i := 56) rfl)) (by decide) (by decide)) (g := (mkF m 6 #[.val (.ref a1), .val (.int x)] [(.int x), (.int en), (.ref a1)])) rfl (by rw [hml]; rfl) (argsL := [(.int en), (.int x)]) (rest := [(.ref a1)]) (lenOf pd_II_I_300 rfl) rfl (by show 2 * 0 + _ ≤ _; exact Nat.le_of_eq rfl) (hb hby d_prog_69_method_32_6) (fun _ _ => ⟨rfl, e1, (by decide : 0 + 0 ≤ _), (by decide : 0 + 0 ≤ _)⟩)
  dsimp only [Pt.U, Pt.locs, Pt.cells, Pt.slots] at X2 l2 y2 z2 st2 hQ2
  subst l2 y2 z2
  obtain ⟨rfl, Nq2, hh2⟩ := hQ2
  have N3 := Fr.app N0 Nq2
  refine own_st (T' := T2) (g' := (mkF m 9 #[.val (.ref a1), .val (.int x)] [(.int (own_max en x)), (.ref a1)])) st2 ?_
  obtain ⟨T4, h4, X4, e4, W4, st4⟩ := putF X2 hx hZ hown (host := "") (Or.inl (hw _ (List.mem_of_getElem? (i := 37) rfl))) Via.refl hh2 F4 Ea (Or.inl (hw _ (List.mem_of_getElem? (i := 38) rfl))) (hw _ (List.mem_of_getElem? (i := 2) rfl)) (ty := .int) (by decide) rfl rfl (g := (mkF m 9 #[.val (.ref a1), .val (.int x)] [(.int (own_max en x)), (.ref a1)])) rfl rfl (hb hby d_prog_69_method_32_9)
  have Fw4 : Fld Z h4 a1 "com/example/tacit/tacit/wire/MessageReader" "checkedEnd" "I" (.int (own_max en x)) := Fld.same W4 F4
  have N5 := Fr.snoc X4 N3 ga
  refine own_st (T' := T4) (g' := (mkF m 12 #[.val (.ref a1), .val (.int x)] [])) (st4) ?_
  refine own_out X4 Bd.notSynchronized (v := none) (fun _ => rfl) (fun fs hr => X4.returnOut hx Bd.returns (hb hby d_prog_69_method_32_12) hr) ?_ (by decide) (by decide)
  rw [e4]
  exact ⟨rfl, N5, W4, trivial⟩
theorem d_prog_69_method_23_0 : decode prog_69_method_23_code 0 = .ok (.iload_n 1, 1) := by decide +kernel
theorem d_prog_69_method_23_1 : decode prog_69_method_23_code 1 = .ok (.aload_n 0, 1) := by decide +kernel
theorem d_prog_69_method_23_2 : decode prog_69_method_23_code 2 = .ok (.getfield 22, 3) := by decide +kernel
theorem d_prog_69_method_23_5 : decode prog_69_method_23_code 5 = .ok (.arraylength, 1) := by decide +kernel
theorem d_prog_69_method_23_6 : decode prog_69_method_23_code 6 = .ok (.aload_n 0, 1) := by decide +kernel
theorem d_prog_69_method_23_7 : decode prog_69_method_23_code 7 = .ok (.getfield 24, 3) := by decide +kernel
theorem d_prog_69_method_23_10 : decode prog_69_method_23_code 10 = .ok (.isub, 1) := by decide +kernel
theorem d_prog_69_method_23_11 : decode prog_69_method_23_code 11 = .ok (.if_icmp .le 18, 3) := by decide +kernel
theorem d_prog_69_method_23_29 : decode prog_69_method_23_code 29 = .ok (.aload_n 0, 1) := by decide +kernel
theorem d_prog_69_method_23_30 : decode prog_69_method_23_code 30 = .ok (.getfield 22, 3) := by decide +kernel
theorem d_prog_69_method_23_33 : decode prog_69_method_23_code 33 = .ok (.aload_n 0, 1) := by decide +kernel
theorem d_prog_69_method_23_34 : decode prog_69_method_23_code 34 = .ok (.getfield 24, 3) := by decide +kernel
theorem d_prog_69_method_23_37 : decode prog_69_method_23_code 37 = .ok (.aload_n 0, 1) := by decide +kernel
theorem d_prog_69_method_23_38 : decode prog_69_method_23_code 38 = .ok (.getfield 24, 3) := by decide +kernel
theorem d_prog_69_method_23_41 : decode prog_69_method_23_code 41 = .ok (.iload_n 1, 1) := by decide +kernel
theorem d_prog_69_method_23_42 : decode prog_69_method_23_code 42 = .ok (.iadd, 1) := by decide +kernel
theorem d_prog_69_method_23_43 : decode prog_69_method_23_code 43 = .ok (.invokestatic 122, 3) := by decide +kernel
theorem d_prog_69_method_23_46 : decode prog_69_method_23_code 46 = .ok (.astore_n 2, 1) := by decide +kernel
theorem d_prog_69_method_23_47 : decode prog_69_method_23_code 47 = .ok (.aload_n 0, 1) := by decide +kernel
theorem d_prog_69_method_23_48 : decode prog_69_method_23_code 48 = .ok (.dup, 1) := by decide +kernel
theorem d_prog_69_method_23_49 : decode prog_69_method_23_code 49 = .ok (.getfield 24, 3) := by decide +kernel
theorem d_prog_69_method_23_52 : decode prog_69_method_23_code 52 = .ok (.iload_n 1, 1) := by decide +kernel
theorem d_prog_69_method_23_53 : decode prog_69_method_23_code 53 = .ok (.iadd, 1) := by decide +kernel
theorem d_prog_69_method_23_54 : decode prog_69_method_23_code 54 = .ok (.putfield 24, 3) := by decide +kernel
theorem d_prog_69_method_23_57 : decode prog_69_method_23_code 57 = .ok (.aload_n 2, 1) := by decide +kernel
theorem d_prog_69_method_23_58 : decode prog_69_method_23_code 58 = .ok (.areturn, 1) := by decide +kernel
theorem ef_rfd (m : MethodId) (x0 : Addr) (x1 : Int32) : entryFrame m #[(.ref x0), (.int x1)] 3 = mkF m 0 #[.val (.ref x0), .val (.int x1), .unset] [] := by first | (simp [entryFrame, mkF, argsToLocals, Value.category]; done) | rfl
def Qrfd (Z : State) (a1 ar : Addr) (ka : ClassId) (k ps np : Int32) (h0 : Heap) (n0 : Nat) (v : Option Value) (h : Heap) (L : List Loc) : Prop := ∃ r : Addr, v = some (.ref r) ∧ Fr n0 L ∧ ∃ hm, Keep h0 hm [] ∧ Wr hm h a1 (Jvm.RoadKit.slotOf Z "com/example/tacit/tacit/wire/MessageReader" "position" "I") (.int np)
set_option maxRecDepth 65536 in
set_option maxHeartbeats 40000000 in
theorem rmrfd (l : Launch) (Z : State) (a0 : Array Value) (hw : ∀ d ∈ tables_1, d.before a0 Z = true) (ws : List Jvm.Cond) (a1 ar : Addr) (ka : ClassId) (k ps np : Int32) (h0 : Heap) (n0 : Nat) (O0 : Old Z n0 h0) (Ea : Exa Z h0 a1 "com/example/tacit/tacit/wire/MessageReader") (F1 : Fld Z h0 a1 "com/example/tacit/tacit/wire/MessageReader" "message" "[B" (.ref ar)) (F2 : Fld Z h0 a1 "com/example/tacit/tacit/wire/MessageReader" "position" "I" (.int ps)) (ga : n0 ≤ a1) (A : Arv Z h0 ar ka .byte (16 : Int32) [(.int (0 : Int32)), (.int (0 : Int32)), (.int (0 : Int32)), (.int (0 : Int32)), (.int (0 : Int32)), (.int (0 : Int32)), (.int (0 : Int32)), (.int (0 : Int32)), (.int (0 : Int32)), (.int (0 : Int32)), (.int (0 : Int32)), (.int (0 : Int32)), (.int (0 : Int32)), (.int (0 : Int32)), (.int (0 : Int32)), (.int (0 : Int32))] (.int (0 : Int32))) (h1 : 0 ≤ ps.toInt) (h2 : ps.toInt ≤ 7) (h3 : 0 ≤ k.toInt) (h4 : k.toInt ≤ 7) (hnp : ps + k = np) :
    MetFree l (⟨"com/example/tacit/tacit/wire/MessageReader", "readFixedData", "(I)[B"⟩ : MethodName) (head1 (Jvm.Cond.code (⟨"com/example/tacit/tacit/wire/MessageReader", "readFixedData", "(I)[B"⟩ : MethodName) prog_69_method_23_code 3 (some (.array .byte)) :: ws) ({ frames := 3, cells := 1, slots := 7, locals := 81 } : Room)) (fun a U => a = #[(.ref a1), (.int k)] ∧ Z.Warmed39 U.vm ∧ U.heap = h0) (fun _ _ _ _ _ => True) (fun _ U o U' => ∃ v L, o = .returned v ∧ Qrfd Z a1 ar ka k ps np h0 n0 v U'.heap L ∧ FrameEnd U o U' L ({ frames := 3, cells := 1, slots := 7, locals := 81 } : Room).cells ({ frames := 3, cells := 1, slots := 7, locals := 81 } : Room).slots) := by
  refine MetFree.of_bodySF (plainFor_of_name pn_com_example_tacit_tacit_wire_MessageReader) hisR ?_
  intro p e s m args below meth c s₁ Bd hml0 hP hK
  obtain ⟨rfl, hZ, hh⟩ := hP
  have hx := Bd.exec
  have hby := Bd.bytes
  have hml : c.maxLocals = 3 := hml0
  have hown : s.vm.findClass "com/example/tacit/tacit/wire/MessageReader" = some m.cls := findClass_of_methodNamed Bd.named
  have hnm := (name_of_methodNamed Bd.named Bd.method).1
  have X0 : Stand p l e ({ frames := 3, cells := 1, slots := 7, locals := 81 } : Room) s m #[(.ref a1), (.int k)] below meth c s₁ [] 0 0 := Stand.of_body Bd
  have e0 : s₁.heap = h0 := by rw [← hh, Bd.state]; rfl
  have N0 := Fr.nil n0
  have hS0 : s.Since s.vm h0.size := State.WarmedH.since (State.WarmedH.refl s) _
  refine own_in (ef_rfd m a1 k) ?_
  have e16 : (16 : Int32).toInt = 16 := rfl
  have es : ((16 : Int32) - ps).toInt = 16 - ps.toInt := own_sub (by omega) (by omega)
  have ea : (ps + k).toInt = ps.toInt + k.toInt := own_add (by omega) (by omega)
  have hle : ¬ (((16 : Int32) - ps) < k) := own_nlt (by omega)
  refine own_st (T' := s₁) (g' := (mkF m 1 #[.val (.ref a1), .val (.int k), .unset] [(.int k)])) (fun _ kq => XS.iloadN X0.here hx rfl (hb hby d_prog_69_method_23_0) rfl kq) ?_
  refine own_st (T' := s₁) (g' := (mkF m 2 #[.val (.ref a1), .val (.int k), .unset] [(.ref a1), (.int k)])) (fun _ kq => XS.aloadN X0.here hx rfl (hb hby d_prog_69_method_23_1) rfl rfl kq) ?_
  obtain ⟨T1, X1, e1, st1⟩ := getF X0 hx hZ hown (host := "") (Or.inl (hw _ (List.mem_of_getElem? (i := 26) rfl))) Via.refl e0 F1 (g := (mkF m 2 #[.val (.ref a1), .val (.int k), .unset] [(.ref a1), (.int k)])) rfl rfl (hb hby d_prog_69_method_23_2)
  refine own_st (T' := T1) (g' := (mkF m 5 #[.val (.ref a1), .val (.int k), .unset] [(.ref ar), (.int k)])) (st1) ?_
  refine own_st (T' := T1) (g' := (mkF m 6 #[.val (.ref a1), .val (.int k), .unset] [(.int (16 : Int32)), (.int k)])) (own_alen X1 hx hZ e1 A (g := (mkF m 5 #[.val (.ref a1), .val (.int k), .unset] [(.ref ar), (.int k)])) rfl rfl (hb hby d_prog_69_method_23_5)) ?_
  refine own_st (T' := T1) (g' := (mkF m 7 #[.val (.ref a1), .val (.int k), .unset] [(.ref a1), (.int (16 : Int32)), (.int k)])) (fun _ kq => XS.aloadN X1.here hx rfl (hb hby d_prog_69_method_23_6) rfl rfl kq) ?_
  obtain ⟨T2, X2, e2, st2⟩ := getF X1 hx hZ hown (host := "") (Or.inl (hw _ (List.mem_of_getElem? (i := 28) rfl))) Via.refl e1 F2 (g := (mkF m 7 #[.val (.ref a1), .val (.int k), .unset] [(.ref a1), (.int (16 : Int32)), (.int k)])) rfl rfl (hb hby d_prog_69_method_23_7)
  refine own_st (T' := T2) (g' := (mkF m 10 #[.val (.ref a1), .val (.int k), .unset] [(.int ps), (.int (16 : Int32)), (.int k)])) (st2) ?_
  refine own_st (T' := T2) (g' := (mkF m 11 #[.val (.ref a1), .val (.int k), .unset] [(.int ((16 : Int32) - ps)), (.int k)])) (fun _ kq => XS.isub X2.here hx rfl (hb hby d_prog_69_method_23_10) rfl kq) ?_
  refine own_st (T' := T2) (g' := (mkF m 29 #[.val (.ref a1), .val (.int k), .unset] [])) (fun _ kq => XS.icmpYes X2.here hx rfl (pc0 := 11) (pc' := 29) rfl (hb hby d_prog_69_method_23_11) rfl (flt (hle : ¬ (((16 : Int32) - ps) < k))).2.2.2 (by decide) (by decide) kq) ?_
  refine own_st (T' := T2) (g' := (mkF m 30 #[.val (.ref a1), .val (.int k), .unset] [(.ref a1)])) (fun _ kq => XS.aloadN X2.here hx rfl (hb hby d_prog_69_method_23_29) rfl rfl kq) ?_
  obtain ⟨T3, X3, e3, st3⟩ := getF X2 hx hZ hown (host := "") (Or.inl (hw _ (List.mem_of_getElem? (i := 26) rfl))) Via.refl e2 F1 (g := (mkF m 30 #[.val (.ref a1), .val (.int k), .unset] [(.ref a1)])) rfl rfl (hb hby d_prog_69_method_23_30)
  refine own_st (T' := T3) (g' := (mkF m 33 #[.val (.ref a1), .val (.int k), .unset] [(.ref ar)])) (st3) ?_
  refine own_st (T' := T3) (g' := (mkF m 34 #[.val (.ref a1), .val (.int k), .unset] [(.ref a1), (.ref ar)])) (fun _ kq => XS.aloadN X3.here hx rfl (hb hby d_prog_69_method_23_33) rfl rfl kq) ?_
  obtain ⟨T4, X4, e4, st4⟩ := getF X3 hx hZ hown (host := "") (Or.inl (hw _ (List.mem_of_getElem? (i := 28) rfl))) Via.refl e3 F2 (g := (mkF m 34 #[.val (.ref a1), .val (.int k), .unset] [(.ref a1), (.ref ar)])) rfl rfl (hb hby d_prog_69_method_23_34)
  refine own_st (T' := T4) (g' := (mkF m 37 #[.val (.ref a1), .val (.int k), .unset] [(.int ps), (.ref ar)])) (st4) ?_
  refine own_st (T' := T4) (g' := (mkF m 38 #[.val (.ref a1), .val (.int k), .unset] [(.ref a1), (.int ps), (.ref ar)])) (fun _ kq => XS.aloadN X4.here hx rfl (hb hby d_prog_69_method_23_37) rfl rfl kq) ?_
  obtain ⟨T5, X5, e5, st5⟩ := getF X4 hx hZ hown (host := "") (Or.inl (hw _ (List.mem_of_getElem? (i := 28) rfl))) Via.refl e4 F2 (g := (mkF m 38 #[.val (.ref a1), .val (.int k), .unset] [(.ref a1), (.int ps), (.ref ar)])) rfl rfl (hb hby d_prog_69_method_23_38)
  refine own_st (T' := T5) (g' := (mkF m 41 #[.val (.ref a1), .val (.int k), .unset] [(.int ps), (.int ps), (.ref ar)])) (st5) ?_
  refine own_st (T' := T5) (g' := (mkF m 42 #[.val (.ref a1), .val (.int k), .unset] [(.int k), (.int ps), (.int ps), (.ref ar)])) (fun _ kq => XS.iloadN X5.here hx rfl (hb hby d_prog_69_method_23_41) rfl kq) ?_
  refine own_st (T' := T5) (g' := (mkF m 43 #[.val (.ref a1), .val (.int k), .unset] [(.int (ps + k)), (.int ps), (.ref ar)])) (fun _ kq => XS.iadd X5.here hx rfl (hb hby d_prog_69_method_23_42) rfl kq) ?_
  obtain ⟨_, _, ⟨T6, L6, k6, n6⟩, -, X6, ⟨Lc6, hQ6, l6, y6, z6⟩, st6⟩ := Jvm.LawKit.callS X5 hx (y := (⟨"java/util/Arrays", "copyOfRange", "([BII)[B"⟩ : MethodName)) hown (mvT hZ (hw _ (List.mem_of_getElem? (i := 44) rfl))) (mvT hZ (hw _ (List.mem_of_getElem? (i := 45) rfl))) (mvT hZ (hw _ (List.mem_of_getElem? (i := 46) rfl))) (mvT hZ (hw _ (List.mem_of_getElem? (i := 47) rfl))) (by decide) (backOf (W := 0) (rmcr l Z a0 hw [] ar ka ps (ps + k) h0 n0 O0 A h1 h2 (by omega) (by omega)) hZ (hw _ (List.mem_of_getElem? (i := 47) rfl)) (hw _ (List.mem_of_getElem? (i := 46) rfl)) (by decide) (by decide)) (g := (mkF m 43 #[.val (.ref a1), .val (.int k), .unset] [(.int (ps + k)), (.int ps), (.ref ar)])) rfl (by rw [hml]; rfl) (argsL := [(.ref ar), (.int ps), (.int (ps + k))]) (rest := []) (lenOf pd_BII__B_541 rfl) rfl (by show 2 * 0 + _ ≤ _; exact Nat.le_of_eq rfl) (hb hby d_prog_69_method_23_43) (fun _ _ => ⟨rfl, e5, (by decide : 0 + 1 ≤ _), (by decide : 0 + 7 ≤ _)⟩)
  dsimp only [Pt.U, Pt.locs, Pt.cells, Pt.slots] at X6 l6 y6 z6 st6 hQ6
  subst l6 y6 z6
  obtain ⟨r6, rfl, Nq6, Kc6⟩ := hQ6
  have N7 := Fr.app N0 Nq6
  refine own_st (T' := T6) (g' := (mkF m 46 #[.val (.ref a1), .val (.int k), .unset] [(.ref r6)])) st6 ?_
  refine own_st (T' := T6) (g' := (mkF m 47 #[.val (.ref a1), .val (.int k), .val (.ref r6)] [])) (fun _ kq => XS.astoreN X6.here hx rfl (hb hby d_prog_69_method_23_46) rfl rfl (l' := #[.val (.ref a1), .val (.int k), .val (.ref r6)]) rfl kq) ?_
  refine own_st (T' := T6) (g' := (mkF m 48 #[.val (.ref a1), .val (.int k), .val (.ref r6)] [(.ref a1)])) (fun _ kq => XS.aloadN X6.here hx rfl (hb hby d_prog_69_method_23_47) rfl rfl kq) ?_
  refine own_st (T' := T6) (g' := (mkF m 49 #[.val (.ref a1), .val (.int k), .val (.ref r6)] [(.ref a1), (.ref a1)])) (fun _ kq => XS.dup X6.here hx rfl (hb hby d_prog_69_method_23_48) rfl rfl kq) ?_
  have F_a1_position_8 : Fld Z T6.heap a1 "com/example/tacit/tacit/wire/MessageReader" "position" "I" (.int ps) := (F2.keep Kc6 nin0)
  obtain ⟨T9, X9, e9, st9⟩ := getF X6 hx hZ hown (host := "") (Or.inl (hw _ (List.mem_of_getElem? (i := 28) rfl))) Via.refl rfl F_a1_position_8 (g := (mkF m 49 #[.val (.ref a1), .val (.int k), .val (.ref r6)] [(.ref a1), (.ref a1)])) rfl rfl (hb hby d_prog_69_method_23_49)
  refine own_st (T' := T9) (g' := (mkF m 52 #[.val (.ref a1), .val (.int k), .val (.ref r6)] [(.int ps), (.ref a1)])) (st9) ?_
  refine own_st (T' := T9) (g' := (mkF m 53 #[.val (.ref a1), .val (.int k), .val (.ref r6)] [(.int k), (.int ps), (.ref a1)])) (fun _ kq => XS.iloadN X9.here hx rfl (hb hby d_prog_69_method_23_52) rfl kq) ?_
  refine own_st (T' := T9) (g' := (mkF m 54 #[.val (.ref a1), .val (.int k), .val (.ref r6)] [(.int (ps + k)), (.ref a1)])) (fun _ kq => XS.iadd X9.here hx rfl (hb hby d_prog_69_method_23_53) rfl kq) ?_
  have E_a1_10 : Exa Z T6.heap a1 "com/example/tacit/tacit/wire/MessageReader" := (Ea.keep Kc6)
  obtain ⟨T11, h11, X11, e11, W11, st11⟩ := putF X9 hx hZ hown (host := "") (Or.inl (hw _ (List.mem_of_getElem? (i := 28) rfl))) Via.refl e9 F_a1_position_8 E_a1_10 (Or.inl (hw _ (List.mem_of_getElem? (i := 29) rfl))) (hw _ (List.mem_of_getElem? (i := 2) rfl)) (ty := .int) (by decide) rfl rfl (g := (mkF m 54 #[.val (.ref a1), .val (.int k), .val (.ref r6)] [(.int (ps + k)), (.ref a1)])) rfl rfl (hb hby d_prog_69_method_23_54)
  have Fw11 : Fld Z h11 a1 "com/example/tacit/tacit/wire/MessageReader" "position" "I" (.int (ps + k)) := Fld.same W11 F_a1_position_8
  have N12 := Fr.snoc X11 N7 ga
  refine own_st (T' := T11) (g' := (mkF m 57 #[.val (.ref a1), .val (.int k), .val (.ref r6)] [])) (st11) ?_
  refine own_st (T' := T11) (g' := (mkF m 58 #[.val (.ref a1), .val (.int k), .val (.ref r6)] [(.ref r6)])) (fun _ kq => XS.aloadN X11.here hx rfl (hb hby d_prog_69_method_23_57) rfl rfl kq) ?_
  refine own_out X11 Bd.notSynchronized (v := (some (.ref r6))) (fun h => by rw [Bd.returns] at h; cases h) (fun fs hr => own_retA X11 hx Bd.returns rfl rfl rfl (hb hby d_prog_69_method_23_58) hr) ?_ (by decide) (by decide)
  rw [e11]
  exact ⟨_, rfl, N12, _, Kc6, hnp ▸ W11⟩
theorem pd_B_V_324 : parseMethodDescriptor "([B)V" = some ⟨[(.array .byte)], none⟩ := by decide +kernel
theorem pd_Z_171 : parseMethodDescriptor "()Z" = some ⟨[], some .boolean⟩ := by decide +kernel
theorem pd_I__B_311 : parseMethodDescriptor "(I)[B" = some ⟨[.int], some (.array .byte)⟩ := by decide +kernel
theorem pd_I_V_240 : parseMethodDescriptor "(I)V" = some ⟨[.int], none⟩ := by decide +kernel
theorem pd_Lcom_example_tacit_tacit_wire_MessageReader_339 : parseMethodDescriptor "()Lcom/example/tacit/tacit/wire/MessageReader;" = some ⟨[], some (.object "com/example/tacit/tacit/wire/MessageReader")⟩ := by decide +kernel
theorem ef_0 (m : MethodId) (x0 : Int32) (x1 : Int32) (x2 : Int32) (x3 : Int32) (x4 : Int32) : entryFrame m #[(.int x0), (.int x1), (.int x2), (.int x3), (.int x4)] maxLocals = mkF m 0 #[.val (.int x0), .val (.int x1), .val (.int x2), .val (.int x3), .val (.int x4), .unset, .unset, .unset, .unset, .unset, .unset, .unset, .unset, .unset, .unset, .unset] [] := by first | (simp [entryFrame, mkF, argsToLocals, Value.category, maxLocals]; done) | rfl
def Q0 (Z : State) (p1 p2 p3 p4 p5 : Int32) (h0 : Heap) (n0 : Nat) (v : Option Value) (h : Heap) (L : List Loc) : Prop := v = some (.int 1) ∧ Fr n0 L
theorem pn_com_example_tacit_tacit_wire_MessageReaderCheckedPinLaw : plainName "com/example/tacit/tacit/wire/MessageReaderCheckedPinLaw" = true := by first | (simp [plainName, overriddenIn]; done) | decide +kernel
set_option maxRecDepth 65536 in
set_option maxHeartbeats 40000000 in
theorem rm0 (l : Launch) (Z : State) (a0 : Array Value) (hw : ∀ d ∈ tables_1, d.before a0 Z = true) (ws : List Jvm.Cond) (p1 p2 p3 p4 p5 : Int32) (h0 : Heap) (n0 : Nat) (O0 : Old Z n0 h0) :
    MetFree l x (head1 (Jvm.Cond.code x code maxLocals ret :: ws) room_1) (fun a U => a = #[(.int p1), (.int p2), (.int p3), (.int p4), (.int p5)] ∧ Z.Warmed39 U.vm ∧ U.heap = h0) (fun _ _ _ _ _ => True) (fun _ U o U' => ∃ v L, o = .returned v ∧ Q0 Z p1 p2 p3 p4 p5 h0 n0 v U'.heap L ∧ ReturnedEndW U o U' L room_1.cells room_1.slots) := by
  refine MetFree.of_bodySF (plainFor_of_name pn_com_example_tacit_tacit_wire_MessageReaderCheckedPinLaw) hisR ?_
  intro p e s m args below meth c s₁ Bd hml0 hP hK
  obtain ⟨rfl, hZ, hh⟩ := hP
  have hx := Bd.exec
  have hby := Bd.bytes
  have hml : c.maxLocals = 16 := hml0
  have hown : s.vm.findClass "com/example/tacit/tacit/wire/MessageReaderCheckedPinLaw" = some m.cls := findClass_of_methodNamed Bd.named
  have hnm := (name_of_methodNamed Bd.named Bd.method).1
  have X0 : Stand p l e room_1 (s.setVm s.vm) m #[(.int p1), (.int p2), (.int p3), (.int p4), (.int p5)] below meth c s₁ [] 0 0 := Stand.of_body Bd
  have e0 : s₁.heap = h0 := by rw [← hh, Bd.state]; rfl
  have N0 := Fr.nil n0
  have hS0 : s.Since s.vm h0.size := State.WarmedH.since (State.WarmedH.refl s) _
  refine own_in (ef_0 m p1 p2 p3 p4 p5) ?_
  have hk1 := own_mask p2
  have hk2 := own_mask p3
  obtain ⟨hk1, hk1'⟩ := hk1
  obtain ⟨hk2, hk2'⟩ := hk2
  refine own_st (T' := s₁) (g' := (mkF m 1 #[.val (.int p1), .val (.int p2), .val (.int p3), .val (.int p4), .val (.int p5), .unset, .unset, .unset, .unset, .unset, .unset, .unset, .unset, .unset, .unset, .unset] [(.int p1)])) (fun _ kq => XS.iloadN X0.here hx rfl (hb hby at_0) rfl kq) ?_
  refine own_st (T' := s₁) (g' := (mkF m 2 #[.val (.int p1), .val (.int p2), .val (.int p3), .val (.int p4), .val (.int p5), .unset, .unset, .unset, .unset, .unset, .unset, .unset, .unset, .unset, .unset, .unset] [(.int (1 : Int32)), (.int p1)])) (fun _ kq => XS.iconst X0.here hx rfl (hb hby at_1) kq) ?_
  refine own_st (T' := s₁) (g' := (mkF m 3 #[.val (.int p1), .val (.int p2), .val (.int p3), .val (.int p4), .val (.int p5), .unset, .unset, .unset, .unset, .unset, .unset, .unset, .unset, .unset, .unset, .unset] [(.int (p1 &&& (1 : Int32)))])) (fun _ kq => XS.iand X0.here hx rfl (hb hby at_2) rfl kq) ?_
  by_cases hm : (p1 &&& (1 : Int32)) = (0 : Int32)
  · refine own_st (T' := s₁) (g' := (mkF m 10 #[.val (.int p1), .val (.int p2), .val (.int p3), .val (.int p4), .val (.int p5), .unset, .unset, .unset, .unset, .unset, .unset, .unset, .unset, .unset, .unset, .unset] [])) (fun _ kq => XS.ifYes X0.here hx rfl (pc0 := 3) (pc' := 10) rfl (hb hby at_3) rfl ((if0 _ _).trans (teq (hm : (p1 &&& (1 : Int32)) = (0 : Int32))).1) (by decide) (by decide) kq) ?_
    refine own_st (T' := s₁) (g' := (mkF m 11 #[.val (.int p1), .val (.int p2), .val (.int p3), .val (.int p4), .val (.int p5), .unset, .unset, .unset, .unset, .unset, .unset, .unset, .unset, .unset, .unset, .unset] [(.int (0 : Int32))])) (fun _ kq => XS.iconst X0.here hx rfl (hb hby at_10) kq) ?_
    refine own_st (T' := s₁) (g' := (mkF m 13 #[.val (.int p1), .val (.int p2), .val (.int p3), .val (.int p4), .val (.int p5), .val (.int (0 : Int32)), .unset, .unset, .unset, .unset, .unset, .unset, .unset, .unset, .unset, .unset] [])) (fun _ kq => XS.istore X0.here hx rfl (hb hby at_11) rfl (l' := #[.val (.int p1), .val (.int p2), .val (.int p3), .val (.int p4), .val (.int p5), .val (.int (0 : Int32)), .unset, .unset, .unset, .unset, .unset, .unset, .unset, .unset, .unset, .unset]) rfl kq) ?_
    refine own_st (T' := s₁) (g' := (mkF m 14 #[.val (.int p1), .val (.int p2), .val (.int p3), .val (.int p4), .val (.int p5), .val (.int (0 : Int32)), .unset, .unset, .unset, .unset, .unset, .unset, .unset, .unset, .unset, .unset] [(.int p2)])) (fun _ kq => XS.iloadN X0.here hx rfl (hb hby at_13) rfl kq) ?_
    refine own_st (T' := s₁) (g' := (mkF m 16 #[.val (.int p1), .val (.int p2), .val (.int p3), .val (.int p4), .val (.int p5), .val (.int (0 : Int32)), .unset, .unset, .unset, .unset, .unset, .unset, .unset, .unset, .unset, .unset] [(.int (7 : Int32)), (.int p2)])) (fun _ kq => XS.bipush X0.here hx rfl (hb hby at_14) kq) ?_
    refine own_st (T' := s₁) (g' := (mkF m 17 #[.val (.int p1), .val (.int p2), .val (.int p3), .val (.int p4), .val (.int p5), .val (.int (0 : Int32)), .unset, .unset, .unset, .unset, .unset, .unset, .unset, .unset, .unset, .unset] [(.int (p2 &&& (7 : Int32)))])) (fun _ kq => XS.iand X0.here hx rfl (hb hby at_16) rfl kq) ?_
    refine own_st (T' := s₁) (g' := (mkF m 19 #[.val (.int p1), .val (.int p2), .val (.int p3), .val (.int p4), .val (.int p5), .val (.int (0 : Int32)), .val (.int (p2 &&& (7 : Int32))), .unset, .unset, .unset, .unset, .unset, .unset, .unset, .unset, .unset] [])) (fun _ kq => XS.istore X0.here hx rfl (hb hby at_17) rfl (l' := #[.val (.int p1), .val (.int p2), .val (.int p3), .val (.int p4), .val (.int p5), .val (.int (0 : Int32)), .val (.int (p2 &&& (7 : Int32))), .unset, .unset, .unset, .unset, .unset, .unset, .unset, .unset, .unset]) rfl kq) ?_
    generalize (p2 &&& (7 : Int32)) = j1 at hk1 hk1' ⊢
    refine own_st (T' := s₁) (g' := (mkF m 20 #[.val (.int p1), .val (.int p2), .val (.int p3), .val (.int p4), .val (.int p5), .val (.int (0 : Int32)), .val (.int j1), .unset, .unset, .unset, .unset, .unset, .unset, .unset, .unset, .unset] [(.int p3)])) (fun _ kq => XS.iloadN X0.here hx rfl (hb hby at_19) rfl kq) ?_
    refine own_st (T' := s₁) (g' := (mkF m 22 #[.val (.int p1), .val (.int p2), .val (.int p3), .val (.int p4), .val (.int p5), .val (.int (0 : Int32)), .val (.int j1), .unset, .unset, .unset, .unset, .unset, .unset, .unset, .unset, .unset] [(.int (7 : Int32)), (.int p3)])) (fun _ kq => XS.bipush X0.here hx rfl (hb hby at_20) kq) ?_
    refine own_st (T' := s₁) (g' := (mkF m 23 #[.val (.int p1), .val (.int p2), .val (.int p3), .val (.int p4), .val (.int p5), .val (.int (0 : Int32)), .val (.int j1), .unset, .unset, .unset, .unset, .unset, .unset, .unset, .unset, .unset] [(.int (p3 &&& (7 : Int32)))])) (fun _ kq => XS.iand X0.here hx rfl (hb hby at_22) rfl kq) ?_
    refine own_st (T' := s₁) (g' := (mkF m 25 #[.val (.int p1), .val (.int p2), .val (.int p3), .val (.int p4), .val (.int p5), .val (.int (0 : Int32)), .val (.int j1), .val (.int (p3 &&& (7 : Int32))), .unset, .unset, .unset, .unset, .unset, .unset, .unset, .unset] [])) (fun _ kq => XS.istore X0.here hx rfl (hb hby at_23) rfl (l' := #[.val (.int p1), .val (.int p2), .val (.int p3), .val (.int p4), .val (.int p5), .val (.int (0 : Int32)), .val (.int j1), .val (.int (p3 &&& (7 : Int32))), .unset, .unset, .unset, .unset, .unset, .unset, .unset, .unset]) rfl kq) ?_
    generalize (p3 &&& (7 : Int32)) = j2 at hk2 hk2' ⊢
    refine own_st (T' := s₁) (g' := (mkF m 27 #[.val (.int p1), .val (.int p2), .val (.int p3), .val (.int p4), .val (.int p5), .val (.int (0 : Int32)), .val (.int j1), .val (.int j2), .unset, .unset, .unset, .unset, .unset, .unset, .unset, .unset] [(.int (16 : Int32))])) (fun _ kq => XS.bipush X0.here hx rfl (hb hby at_25) kq) ?_
    obtain ⟨T1, h1, k1, X1, e1, E1, A1, Ax1, st1⟩ := newPE X0 hx hZ (hw _ (List.mem_of_getElem? (i := 0) rfl)) e0 (g := (mkF m 27 #[.val (.int p1), .val (.int p2), .val (.int p3), .val (.int p4), .val (.int p5), .val (.int (0 : Int32)), .val (.int j1), .val (.int j2), .unset, .unset, .unset, .unset, .unset, .unset, .unset, .unset] [(.int (16 : Int32))])) rfl (hb hby at_27) rfl (by decide) (cap := 16) (by decide) (by decide) (by decide) (by decide) (ad := "[B") rfl
    obtain ⟨b1, g1⟩ : ∃ z, z = h0.size := ⟨_, rfl⟩
    rw [← g1] at A1 Ax1 st1
    have g_b1 : n0 ≤ b1 := Nat.le_trans (own_old O0) (Nat.le_of_eq g1.symm)
    have sz_b1 : h0.size ≤ b1 := Nat.le_trans (Keep.refl h0 []).1 (Nat.le_of_eq g1.symm)
    have V1 : Arv Z h1 b1 k1 .byte (16 : Int32) [(.int (0 : Int32)), (.int (0 : Int32)), (.int (0 : Int32)), (.int (0 : Int32)), (.int (0 : Int32)), (.int (0 : Int32)), (.int (0 : Int32)), (.int (0 : Int32)), (.int (0 : Int32)), (.int (0 : Int32)), (.int (0 : Int32)), (.int (0 : Int32)), (.int (0 : Int32)), (.int (0 : Int32)), (.int (0 : Int32)), (.int (0 : Int32))] (.int (0 : Int32)) := (Arv.new A1 (by decide)).pad (pad_rep [] (.int (0 : Int32)) 16)
    refine own_st (T' := T1) (g' := (mkF m 29 #[.val (.int p1), .val (.int p2), .val (.int p3), .val (.int p4), .val (.int p5), .val (.int (0 : Int32)), .val (.int j1), .val (.int j2), .unset, .unset, .unset, .unset, .unset, .unset, .unset, .unset] [(.ref b1)])) (st1) ?_
    refine own_st (T' := T1) (g' := (mkF m 31 #[.val (.int p1), .val (.int p2), .val (.int p3), .val (.int p4), .val (.int p5), .val (.int (0 : Int32)), .val (.int j1), .val (.int j2), .val (.ref b1), .unset, .unset, .unset, .unset, .unset, .unset, .unset] [])) (fun _ kq => XS.astore X1.here hx rfl (hb hby at_29) rfl rfl (l' := #[.val (.int p1), .val (.int p2), .val (.int p3), .val (.int p4), .val (.int p5), .val (.int (0 : Int32)), .val (.int j1), .val (.int j2), .val (.ref b1), .unset, .unset, .unset, .unset, .unset, .unset, .unset]) rfl kq) ?_
    obtain ⟨T2, h2, X2, e2, E2, A2, D2, -, st2⟩ := newO X1 hx hZ hown (hw _ (List.mem_of_getElem? (i := 1) rfl)) (hw _ (List.mem_of_getElem? (i := 2) rfl)) (hw _ (List.mem_of_getElem? (i := 3) rfl)) e1 (g := (mkF m 31 #[.val (.int p1), .val (.int p2), .val (.int p3), .val (.int p4), .val (.int p5), .val (.int (0 : Int32)), .val (.int j1), .val (.int j2), .val (.ref b1), .unset, .unset, .unset, .unset, .unset, .unset, .unset] [])) rfl (hb hby at_31) (by decide) (by decide)
    obtain ⟨b2, g2⟩ : ∃ z, z = h1.size := ⟨_, rfl⟩
    rw [← g2] at A2 D2 st2
    have ne_b1_b2 : b1 ≠ b2 := Nat.ne_of_lt (Nat.lt_of_lt_of_le V1.lt (Nat.le_of_eq g2.symm))
    have O3 : Old Z n0 h1 := (O0.ext E1)
    have g_b2 : n0 ≤ b2 := Nat.le_trans (own_old O3) (Nat.le_of_eq g2.symm)
    have K4 : Keep h0 h1 [] := ((Keep.refl h0 []).ext E1)
    have sz_b2 : h0.size ≤ b2 := Nat.le_trans K4.1 (Nat.le_of_eq g2.symm)
    have F_message_b2 : Fld Z h2 b2 "com/example/tacit/tacit/wire/MessageReader" "message" "[B" .null := D2 (Or.inr (hw _ (List.mem_of_getElem? (i := 27) rfl))) (ty := (.array .byte)) (by decide)
    have F_position_b2 : Fld Z h2 b2 "com/example/tacit/tacit/wire/MessageReader" "position" "I" (.int (0 : Int32)) := D2 (Or.inl (hw _ (List.mem_of_getElem? (i := 29) rfl))) (ty := .int) (by decide)
    have F_checksOnly_b2 : Fld Z h2 b2 "com/example/tacit/tacit/wire/MessageReader" "checksOnly" "Z" (.int (0 : Int32)) := D2 (Or.inr (hw _ (List.mem_of_getElem? (i := 31) rfl))) (ty := .boolean) (by decide)
    have F_checkedEnd_b2 : Fld Z h2 b2 "com/example/tacit/tacit/wire/MessageReader" "checkedEnd" "I" (.int (0 : Int32)) := D2 (Or.inl (hw _ (List.mem_of_getElem? (i := 38) rfl))) (ty := .int) (by decide)
    refine own_st (T' := T2) (g' := (mkF m 34 #[.val (.int p1), .val (.int p2), .val (.int p3), .val (.int p4), .val (.int p5), .val (.int (0 : Int32)), .val (.int j1), .val (.int j2), .val (.ref b1), .unset, .unset, .unset, .unset, .unset, .unset, .unset] [(.ref b2)])) (st2) ?_
    refine own_st (T' := T2) (g' := (mkF m 35 #[.val (.int p1), .val (.int p2), .val (.int p3), .val (.int p4), .val (.int p5), .val (.int (0 : Int32)), .val (.int j1), .val (.int j2), .val (.ref b1), .unset, .unset, .unset, .unset, .unset, .unset, .unset] [(.ref b2), (.ref b2)])) (fun _ kq => XS.dup X2.here hx rfl (hb hby at_34) rfl rfl kq) ?_
    refine own_st (T' := T2) (g' := (mkF m 37 #[.val (.int p1), .val (.int p2), .val (.int p3), .val (.int p4), .val (.int p5), .val (.int (0 : Int32)), .val (.int j1), .val (.int j2), .val (.ref b1), .unset, .unset, .unset, .unset, .unset, .unset, .unset] [(.ref b1), (.ref b2), (.ref b2)])) (fun _ kq => XS.aload X2.here hx rfl (hb hby at_35) rfl rfl kq) ?_
    have O5 : Old Z n0 h2 := (O3.ext E2)
    have E_b1_6 : Exa Z h2 b1 "[B" := (Ax1.ext E2)
    obtain ⟨_, _, ⟨T7, L7, k7, n7⟩, -, X7, hSc7, hgr7, ⟨Lc7, hQ7, l7, y7, z7⟩, st7⟩ := X2.specialBackS hx (y := (⟨"com/example/tacit/tacit/wire/MessageReader", "<init>", "([B)V"⟩ : MethodName)) rfl hown (mvT hZ (hw _ (List.mem_of_getElem? (i := 4) rfl))) (mvT hZ (hw _ (List.mem_of_getElem? (i := 5) rfl))) (mvT hZ (hw _ (List.mem_of_getElem? (i := 6) rfl))) (by decide) (backOfS (W := 1) (rmini l Z a0 hw [] b2 b1 h2 n0 O5 A2 F_message_b2 F_position_b2 F_checksOnly_b2 F_checkedEnd_b2 g_b2 E_b1_6 ne_b1_b2) hZ (hw _ (List.mem_of_getElem? (i := 6) rfl)) (hw _ (List.mem_of_getElem? (i := 3) rfl)) (by decide) (by decide)) (g := (mkF m 37 #[.val (.int p1), .val (.int p2), .val (.int p3), .val (.int p4), .val (.int p5), .val (.int (0 : Int32)), .val (.int j1), .val (.int j2), .val (.ref b1), .unset, .unset, .unset, .unset, .unset, .unset, .unset] [(.ref b1), (.ref b2), (.ref b2)])) rfl (by rw [hml]; rfl) (Steps.refl _) (a := b2) (argsL := [(.ref b1)]) (rest := [(.ref b2)]) (lenOf pd_B_V_324 rfl) rfl (by show 2 * 0 + _ ≤ _; exact Nat.le_of_eq rfl) (hb hby at_37) (fun _ _ => ⟨rfl, e2, (by decide : 2 + 2 ≤ _), (by decide : 20 + 32 ≤ _)⟩)
    dsimp only [Pt.U, Pt.locs, Pt.cells, Pt.slots] at X7 l7 y7 z7 st7 hQ7 hSc7 hgr7
    subst l7 y7 z7
    obtain ⟨rfl, Nq7, Kc7, Fa7, Fb7, Fc7, Fd7⟩ := hQ7
    have N8 := Fr.app N0 Nq7
    have hS7 := foldS (T := T2) hS0 (by rw [e2]; exact (Nat.le_trans (Nat.le_trans (Nat.le_refl _) E1.1) E2.1)) hSc7 hgr7
    have hZ7 : Z.Warmed39 (s.setVm T7.vm).vm := State.Warmed39.trans (t := (s.setVm s.vm)) hZ hSc7.1
    have hown7 : (s.setVm T7.vm).vm.findClass "com/example/tacit/tacit/wire/MessageReaderCheckedPinLaw" = some m.cls := by rw [show (s.setVm T7.vm).vm = T7.vm from rfl, hSc7.1.alike.findClass]; exact hown
    have X7 := own_reX X7
    refine own_ts (T' := T7) (g' := (mkF m 40 #[.val (.int p1), .val (.int p2), .val (.int p3), .val (.int p4), .val (.int p5), .val (.int (0 : Int32)), .val (.int j1), .val (.int j2), .val (.ref b1), .unset, .unset, .unset, .unset, .unset, .unset, .unset] [(.ref b2)])) st7 ?_
    refine own_st (T' := T7) (g' := (mkF m 42 #[.val (.int p1), .val (.int p2), .val (.int p3), .val (.int p4), .val (.int p5), .val (.int (0 : Int32)), .val (.int j1), .val (.int j2), .val (.ref b1), .val (.ref b2), .unset, .unset, .unset, .unset, .unset, .unset] [])) (fun _ kq => XS.astore X7.here hx rfl (hb hby at_40) rfl rfl (l' := #[.val (.int p1), .val (.int p2), .val (.int p3), .val (.int p4), .val (.int p5), .val (.int (0 : Int32)), .val (.int j1), .val (.int j2), .val (.ref b1), .val (.ref b2), .unset, .unset, .unset, .unset, .unset, .unset]) rfl kq) ?_
    refine own_st (T' := T7) (g' := (mkF m 44 #[.val (.int p1), .val (.int p2), .val (.int p3), .val (.int p4), .val (.int p5), .val (.int (0 : Int32)), .val (.int j1), .val (.int j2), .val (.ref b1), .val (.ref b2), .unset, .unset, .unset, .unset, .unset, .unset] [(.int (0 : Int32))])) (fun _ kq => XS.iload X7.here hx rfl (hb hby at_42) rfl kq) ?_
    refine own_st (T' := T7) (g' := (mkF m 54 #[.val (.int p1), .val (.int p2), .val (.int p3), .val (.int p4), .val (.int p5), .val (.int (0 : Int32)), .val (.int j1), .val (.int j2), .val (.ref b1), .val (.ref b2), .unset, .unset, .unset, .unset, .unset, .unset] [])) (fun _ kq => XS.ifYes X7.here hx rfl (pc0 := 44) (pc' := 54) rfl (hb hby at_44) rfl ((if0 _ _).trans (teq ((by decide) : (0 : Int32) = (0 : Int32))).1) (by decide) (by decide) kq) ?_
    refine own_st (T' := T7) (g' := (mkF m 56 #[.val (.int p1), .val (.int p2), .val (.int p3), .val (.int p4), .val (.int p5), .val (.int (0 : Int32)), .val (.int j1), .val (.int j2), .val (.ref b1), .val (.ref b2), .unset, .unset, .unset, .unset, .unset, .unset] [(.ref b2)])) (fun _ kq => XS.aload X7.here hx rfl (hb hby at_54) rfl rfl kq) ?_
    have O9 : Old Z n0 T7.heap := (O5.keep Kc7 (allS g_b2 all0))
    have E_b2_11 : Exa Z T7.heap b2 "com/example/tacit/tacit/wire/MessageReader" := (A2.keep Kc7)
    obtain ⟨cq10, kq10, q10a, q10b, q10c⟩ := isOf hZ7 rfl E_b2_11
    obtain ⟨_, _, ⟨T10, L10, k10, n10⟩, -, X10, ⟨Lc10, hQ10, l10, y10, z10⟩, st10⟩ := X7.virtualBack hx (y := (⟨"com/example/tacit/tacit/wire/MessageReader", "checked", "()Z"⟩ : MethodName)) (z := (⟨"com/example/tacit/tacit/wire/MessageReader", "checked", "()Z"⟩ : MethodName)) hown7 (mvT hZ7 (hw _ (List.mem_of_getElem? (i := 32) rfl))) (mvT hZ7 (hw _ (List.mem_of_getElem? (i := 33) rfl))) (notFace_of_selects (args := #[]) (mvT hZ7 (hw _ (List.mem_of_getElem? (i := 35) rfl)))) (mvT hZ7 (hw _ (List.mem_of_getElem? (i := 35) rfl))) (mvT hZ7 (hw _ (List.mem_of_getElem? (i := 34) rfl))) (by decide) (backOf (W := 0) (rmckd l Z a0 hw [] b2 (0 : Int32) (0 : Int32) (0 : Int32) T7.heap n0 O9 Fb7 Fc7 Fd7) hZ7 (hw _ (List.mem_of_getElem? (i := 36) rfl)) (hw _ (List.mem_of_getElem? (i := 3) rfl)) (by decide) (by decide)) q10a q10c (g := (mkF m 56 #[.val (.int p1), .val (.int p2), .val (.int p3), .val (.int p4), .val (.int p5), .val (.int (0 : Int32)), .val (.int j1), .val (.int j2), .val (.ref b1), .val (.ref b2), .unset, .unset, .unset, .unset, .unset, .unset] [(.ref b2)])) rfl (by rw [hml]; rfl) (Steps.refl _) (argsL := []) (rest := []) (lenOf pd_Z_171 rfl) rfl (by show 2 * 0 + _ ≤ _; exact Nat.le_of_eq rfl) (hb hby at_56) (fun _ _ => ⟨rfl, rfl, (by decide : 4 + 0 ≤ _), (by decide : 52 + 0 ≤ _)⟩)
    dsimp only [Pt.U, Pt.locs, Pt.cells, Pt.slots] at X10 l10 y10 z10 st10 hQ10
    subst l10 y10 z10
    obtain ⟨rfl, Nq10, hh10⟩ := hQ10
    have N12 := Fr.app N8 Nq10
    refine own_ts (T' := T10) (g' := (mkF m 59 #[.val (.int p1), .val (.int p2), .val (.int p3), .val (.int p4), .val (.int p5), .val (.int (0 : Int32)), .val (.int j1), .val (.int j2), .val (.ref b1), .val (.ref b2), .unset, .unset, .unset, .unset, .unset, .unset] [(.int (own_checked (0 : Int32) (0 : Int32) (0 : Int32)))])) st10 ?_
    refine own_st (T' := T10) (g' := (mkF m 61 #[.val (.int p1), .val (.int p2), .val (.int p3), .val (.int p4), .val (.int p5), .val (.int (0 : Int32)), .val (.int j1), .val (.int j2), .val (.ref b1), .val (.ref b2), .val (.int (own_checked (0 : Int32) (0 : Int32) (0 : Int32))), .unset, .unset, .unset, .unset, .unset] [])) (fun _ kq => XS.istore X10.here hx rfl (hb hby at_59) rfl (l' := #[.val (.int p1), .val (.int p2), .val (.int p3), .val (.int p4), .val (.int p5), .val (.int (0 : Int32)), .val (.int j1), .val (.int j2), .val (.ref b1), .val (.ref b2), .val (.int (own_checked (0 : Int32) (0 : Int32) (0 : Int32))), .unset, .unset, .unset, .unset, .unset]) rfl kq) ?_
    refine own_st (T' := T10) (g' := (mkF m 63 #[.val (.int p1), .val (.int p2), .val (.int p3), .val (.int p4), .val (.int p5), .val (.int (0 : Int32)), .val (.int j1), .val (.int j2), .val (.ref b1), .val (.ref b2), .val (.int (own_checked (0 : Int32) (0 : Int32) (0 : Int32))), .unset, .unset, .unset, .unset, .unset] [(.ref b2)])) (fun _ kq => XS.aload X10.here hx rfl (hb hby at_61) rfl rfl kq) ?_
    refine own_st (T' := T10) (g' := (mkF m 65 #[.val (.int p1), .val (.int p2), .val (.int p3), .val (.int p4), .val (.int p5), .val (.int (0 : Int32)), .val (.int j1), .val (.int j2), .val (.ref b1), .val (.ref b2), .val (.int (own_checked (0 : Int32) (0 : Int32) (0 : Int32))), .unset, .unset, .unset, .unset, .unset] [(.int j1), (.ref b2)])) (fun _ kq => XS.iload X10.here hx rfl (hb hby at_63) rfl kq) ?_
    have A_b1_13 : Arv Z T7.heap b1 k1 .byte (16 : Int32) [(.int (0 : Int32)), (.int (0 : Int32)), (.int (0 : Int32)), (.int (0 : Int32)), (.int (0 : Int32)), (.int (0 : Int32)), (.int (0 : Int32)), (.int (0 : Int32)), (.int (0 : Int32)), (.int (0 : Int32)), (.int (0 : Int32)), (.int (0 : Int32)), (.int (0 : Int32)), (.int (0 : Int32)), (.int (0 : Int32)), (.int (0 : Int32))] (.int (0 : Int32)) := ((V1.ext E2).keep Kc7 (ninS ne_b1_b2 nin0))
    obtain ⟨cq14, kq14, q14a, q14b, q14c⟩ := isOf hZ7 hh10 E_b2_11
    obtain ⟨_, _, ⟨T14, L14, k14, n14⟩, -, X14, ⟨Lc14, hQ14, l14, y14, z14⟩, st14⟩ := X10.virtualBack hx (y := (⟨"com/example/tacit/tacit/wire/MessageReader", "readFixedData", "(I)[B"⟩ : MethodName)) (z := (⟨"com/example/tacit/tacit/wire/MessageReader", "readFixedData", "(I)[B"⟩ : MethodName)) hown7 (mvT hZ7 (hw _ (List.mem_of_getElem? (i := 39) rfl))) (mvT hZ7 (hw _ (List.mem_of_getElem? (i := 40) rfl))) (notFace_of_selects (args := #[]) (mvT hZ7 (hw _ (List.mem_of_getElem? (i := 42) rfl)))) (mvT hZ7 (hw _ (List.mem_of_getElem? (i := 42) rfl))) (mvT hZ7 (hw _ (List.mem_of_getElem? (i := 41) rfl))) (by decide) (backOf (W := 0) (rmrfd l Z a0 hw [] b2 b1 k1 j1 (0 : Int32) j1 T7.heap n0 O9 E_b2_11 Fa7 Fb7 g_b2 A_b1_13 (by decide) (by decide) hk1 hk1' (Int32.zero_add j1)) hZ7 (hw _ (List.mem_of_getElem? (i := 43) rfl)) (hw _ (List.mem_of_getElem? (i := 3) rfl)) (by decide) (by decide)) q14a q14c (g := (mkF m 65 #[.val (.int p1), .val (.int p2), .val (.int p3), .val (.int p4), .val (.int p5), .val (.int (0 : Int32)), .val (.int j1), .val (.int j2), .val (.ref b1), .val (.ref b2), .val (.int (own_checked (0 : Int32) (0 : Int32) (0 : Int32))), .unset, .unset, .unset, .unset, .unset] [(.int j1), (.ref b2)])) rfl (by rw [hml]; rfl) (Steps.refl _) (argsL := [(.int j1)]) (rest := []) (lenOf pd_I__B_311 rfl) rfl (by show 2 * 0 + _ ≤ _; exact Nat.le_of_eq rfl) (hb hby at_65) (fun _ _ => ⟨rfl, hh10, (by decide : 4 + 1 ≤ _), (by decide : 52 + 7 ≤ _)⟩)
    dsimp only [Pt.U, Pt.locs, Pt.cells, Pt.slots] at X14 l14 y14 z14 st14 hQ14
    subst l14 y14 z14
    obtain ⟨r14, rfl, Nq14, hm14, Ka14, Wa14⟩ := hQ14
    have N15 := Fr.app N12 Nq14
    refine own_ts (T' := T14) (g' := (mkF m 68 #[.val (.int p1), .val (.int p2), .val (.int p3), .val (.int p4), .val (.int p5), .val (.int (0 : Int32)), .val (.int j1), .val (.int j2), .val (.ref b1), .val (.ref b2), .val (.int (own_checked (0 : Int32) (0 : Int32) (0 : Int32))), .unset, .unset, .unset, .unset, .unset] [(.ref r14)])) st14 ?_
    have Fp14 : Fld Z T14.heap b2 "com/example/tacit/tacit/wire/MessageReader" "position" "I" (.int j1) := Fld.same Wa14 (Fb7.keep Ka14 nin0)
    refine own_st (T' := T14) (g' := (mkF m 69 #[.val (.int p1), .val (.int p2), .val (.int p3), .val (.int p4), .val (.int p5), .val (.int (0 : Int32)), .val (.int j1), .val (.int j2), .val (.ref b1), .val (.ref b2), .val (.int (own_checked (0 : Int32) (0 : Int32) (0 : Int32))), .unset, .unset, .unset, .unset, .unset] [])) (fun _ kq => XS.pop X14.here hx rfl (hb hby at_68) rfl rfl kq) ?_
    refine own_st (T' := T14) (g' := (mkF m 71 #[.val (.int p1), .val (.int p2), .val (.int p3), .val (.int p4), .val (.int p5), .val (.int (0 : Int32)), .val (.int j1), .val (.int j2), .val (.ref b1), .val (.ref b2), .val (.int (own_checked (0 : Int32) (0 : Int32) (0 : Int32))), .unset, .unset, .unset, .unset, .unset] [(.ref b2)])) (fun _ kq => XS.aload X14.here hx rfl (hb hby at_69) rfl rfl kq) ?_
    refine own_st (T' := T14) (g' := (mkF m 72 #[.val (.int p1), .val (.int p2), .val (.int p3), .val (.int p4), .val (.int p5), .val (.int (0 : Int32)), .val (.int j1), .val (.int j2), .val (.ref b1), .val (.ref b2), .val (.int (own_checked (0 : Int32) (0 : Int32) (0 : Int32))), .unset, .unset, .unset, .unset, .unset] [(.int p4), (.ref b2)])) (fun _ kq => XS.iloadN X14.here hx rfl (hb hby at_71) rfl kq) ?_
    have F_b2_checkedEnd_16 : Fld Z T14.heap b2 "com/example/tacit/tacit/wire/MessageReader" "checkedEnd" "I" (.int (0 : Int32)) := ((Fd7.keep Ka14 nin0).other Wa14 (Or.inr (slot_ne (Or.inl (hw _ (List.mem_of_getElem? (i := 38) rfl))) (Or.inl (hw _ (List.mem_of_getElem? (i := 29) rfl))) (by decide) (t := .int) (t' := .int) (by decide) (by decide))))
    have O17 : Old Z n0 T14.heap := ((O9.keep Ka14 all0).wr Wa14 g_b2)
    have E_b2_18 : Exa Z T14.heap b2 "com/example/tacit/tacit/wire/MessageReader" := ((E_b2_11.keep Ka14).wr Wa14)
    obtain ⟨cq19, kq19, q19a, q19b, q19c⟩ := isOf hZ7 rfl E_b2_18
    obtain ⟨_, _, ⟨T19, L19, k19, n19⟩, -, X19, ⟨Lc19, hQ19, l19, y19, z19⟩, st19⟩ := X14.virtualBack hx (y := (⟨"com/example/tacit/tacit/wire/MessageReader", "checkedTo", "(I)V"⟩ : MethodName)) (z := (⟨"com/example/tacit/tacit/wire/MessageReader", "checkedTo", "(I)V"⟩ : MethodName)) hown7 (mvT hZ7 (hw _ (List.mem_of_getElem? (i := 62) rfl))) (mvT hZ7 (hw _ (List.mem_of_getElem? (i := 63) rfl))) (notFace_of_selects (args := #[]) (mvT hZ7 (hw _ (List.mem_of_getElem? (i := 65) rfl)))) (mvT hZ7 (hw _ (List.mem_of_getElem? (i := 65) rfl))) (mvT hZ7 (hw _ (List.mem_of_getElem? (i := 64) rfl))) (by decide) (backOf (W := 0) (rmcto l Z a0 hw [] b2 p4 (0 : Int32) T14.heap n0 O17 E_b2_18 F_b2_checkedEnd_16 g_b2) hZ7 (hw _ (List.mem_of_getElem? (i := 66) rfl)) (hw _ (List.mem_of_getElem? (i := 3) rfl)) (by decide) (by decide)) q19a q19c (g := (mkF m 72 #[.val (.int p1), .val (.int p2), .val (.int p3), .val (.int p4), .val (.int p5), .val (.int (0 : Int32)), .val (.int j1), .val (.int j2), .val (.ref b1), .val (.ref b2), .val (.int (own_checked (0 : Int32) (0 : Int32) (0 : Int32))), .unset, .unset, .unset, .unset, .unset] [(.int p4), (.ref b2)])) rfl (by rw [hml]; rfl) (Steps.refl _) (argsL := [(.int p4)]) (rest := []) (lenOf pd_I_V_240 rfl) rfl (by show 2 * 0 + _ ≤ _; exact Nat.le_of_eq rfl) (hb hby at_72) (fun _ _ => ⟨rfl, rfl, (by decide : 5 + 0 ≤ _), (by decide : 59 + 0 ≤ _)⟩)
    dsimp only [Pt.U, Pt.locs, Pt.cells, Pt.slots] at X19 l19 y19 z19 st19 hQ19
    subst l19 y19 z19
    obtain ⟨rfl, Nq19, Wa19, -⟩ := hQ19
    have N20 := Fr.app N15 Nq19
    refine own_ts (T' := T19) (g' := (mkF m 75 #[.val (.int p1), .val (.int p2), .val (.int p3), .val (.int p4), .val (.int p5), .val (.int (0 : Int32)), .val (.int j1), .val (.int j2), .val (.ref b1), .val (.ref b2), .val (.int (own_checked (0 : Int32) (0 : Int32) (0 : Int32))), .unset, .unset, .unset, .unset, .unset] [])) st19 ?_
    have Fe19 : Fld Z T19.heap b2 "com/example/tacit/tacit/wire/MessageReader" "checkedEnd" "I" (.int (own_max (0 : Int32) p4)) := Fld.same Wa19 F_b2_checkedEnd_16
    refine own_st (T' := T19) (g' := (mkF m 77 #[.val (.int p1), .val (.int p2), .val (.int p3), .val (.int p4), .val (.int p5), .val (.int (0 : Int32)), .val (.int j1), .val (.int j2), .val (.ref b1), .val (.ref b2), .val (.int (own_checked (0 : Int32) (0 : Int32) (0 : Int32))), .unset, .unset, .unset, .unset, .unset] [(.ref b2)])) (fun _ kq => XS.aload X19.here hx rfl (hb hby at_75) rfl rfl kq) ?_
    have O21 : Old Z n0 T19.heap := (O17.wr Wa19 g_b2)
    have F_b2_position_22 : Fld Z T19.heap b2 "com/example/tacit/tacit/wire/MessageReader" "position" "I" (.int j1) := (Fp14.other Wa19 (Or.inr (slot_ne (Or.inl (hw _ (List.mem_of_getElem? (i := 29) rfl))) (Or.inl (hw _ (List.mem_of_getElem? (i := 38) rfl))) (by decide) (t := .int) (t' := .int) (by decide) (by decide))))
    have F_b2_checksOnly_23 : Fld Z T19.heap b2 "com/example/tacit/tacit/wire/MessageReader" "checksOnly" "Z" (.int (0 : Int32)) := (((Fc7.keep Ka14 nin0).other Wa14 (Or.inr (slot_ne (Or.inr (hw _ (List.mem_of_getElem? (i := 31) rfl))) (Or.inl (hw _ (List.mem_of_getElem? (i := 29) rfl))) (by decide) (t := .boolean) (t' := .int) (by decide) (by decide)))).other Wa19 (Or.inr (slot_ne (Or.inr (hw _ (List.mem_of_getElem? (i := 31) rfl))) (Or.inl (hw _ (List.mem_of_getElem? (i := 38) rfl))) (by decide) (t := .boolean) (t' := .int) (by decide) (by decide))))
    have E_b2_25 : Exa Z T19.heap b2 "com/example/tacit/tacit/wire/MessageReader" := (E_b2_18.wr Wa19)
    obtain ⟨cq24, kq24, q24a, q24b, q24c⟩ := isOf hZ7 rfl E_b2_25
    obtain ⟨_, _, ⟨T24, L24, k24, n24⟩, -, X24, ⟨Lc24, hQ24, l24, y24, z24⟩, st24⟩ := X19.virtualBack hx (y := (⟨"com/example/tacit/tacit/wire/MessageReader", "checked", "()Z"⟩ : MethodName)) (z := (⟨"com/example/tacit/tacit/wire/MessageReader", "checked", "()Z"⟩ : MethodName)) hown7 (mvT hZ7 (hw _ (List.mem_of_getElem? (i := 32) rfl))) (mvT hZ7 (hw _ (List.mem_of_getElem? (i := 33) rfl))) (notFace_of_selects (args := #[]) (mvT hZ7 (hw _ (List.mem_of_getElem? (i := 35) rfl)))) (mvT hZ7 (hw _ (List.mem_of_getElem? (i := 35) rfl))) (mvT hZ7 (hw _ (List.mem_of_getElem? (i := 34) rfl))) (by decide) (backOf (W := 0) (rmckd l Z a0 hw [] b2 (0 : Int32) j1 (own_max (0 : Int32) p4) T19.heap n0 O21 F_b2_position_22 F_b2_checksOnly_23 Fe19) hZ7 (hw _ (List.mem_of_getElem? (i := 36) rfl)) (hw _ (List.mem_of_getElem? (i := 3) rfl)) (by decide) (by decide)) q24a q24c (g := (mkF m 77 #[.val (.int p1), .val (.int p2), .val (.int p3), .val (.int p4), .val (.int p5), .val (.int (0 : Int32)), .val (.int j1), .val (.int j2), .val (.ref b1), .val (.ref b2), .val (.int (own_checked (0 : Int32) (0 : Int32) (0 : Int32))), .unset, .unset, .unset, .unset, .unset] [(.ref b2)])) rfl (by rw [hml]; rfl) (Steps.refl _) (argsL := []) (rest := []) (lenOf pd_Z_171 rfl) rfl (by show 2 * 0 + _ ≤ _; exact Nat.le_of_eq rfl) (hb hby at_77) (fun _ _ => ⟨rfl, rfl, (by decide : 5 + 0 ≤ _), (by decide : 59 + 0 ≤ _)⟩)
    dsimp only [Pt.U, Pt.locs, Pt.cells, Pt.slots] at X24 l24 y24 z24 st24 hQ24
    subst l24 y24 z24
    obtain ⟨rfl, Nq24, hh24⟩ := hQ24
    have N26 := Fr.app N20 Nq24
    refine own_ts (T' := T24) (g' := (mkF m 80 #[.val (.int p1), .val (.int p2), .val (.int p3), .val (.int p4), .val (.int p5), .val (.int (0 : Int32)), .val (.int j1), .val (.int j2), .val (.ref b1), .val (.ref b2), .val (.int (own_checked (0 : Int32) (0 : Int32) (0 : Int32))), .unset, .unset, .unset, .unset, .unset] [(.int (own_checked (0 : Int32) j1 (own_max (0 : Int32) p4)))])) st24 ?_
    refine own_st (T' := T24) (g' := (mkF m 82 #[.val (.int p1), .val (.int p2), .val (.int p3), .val (.int p4), .val (.int p5), .val (.int (0 : Int32)), .val (.int j1), .val (.int j2), .val (.ref b1), .val (.ref b2), .val (.int (own_checked (0 : Int32) (0 : Int32) (0 : Int32))), .val (.int (own_checked (0 : Int32) j1 (own_max (0 : Int32) p4))), .unset, .unset, .unset, .unset] [])) (fun _ kq => XS.istore X24.here hx rfl (hb hby at_80) rfl (l' := #[.val (.int p1), .val (.int p2), .val (.int p3), .val (.int p4), .val (.int p5), .val (.int (0 : Int32)), .val (.int j1), .val (.int j2), .val (.ref b1), .val (.ref b2), .val (.int (own_checked (0 : Int32) (0 : Int32) (0 : Int32))), .val (.int (own_checked (0 : Int32) j1 (own_max (0 : Int32) p4))), .unset, .unset, .unset, .unset]) rfl kq) ?_
    refine own_st (T' := T24) (g' := (mkF m 84 #[.val (.int p1), .val (.int p2), .val (.int p3), .val (.int p4), .val (.int p5), .val (.int (0 : Int32)), .val (.int j1), .val (.int j2), .val (.ref b1), .val (.ref b2), .val (.int (own_checked (0 : Int32) (0 : Int32) (0 : Int32))), .val (.int (own_checked (0 : Int32) j1 (own_max (0 : Int32) p4))), .unset, .unset, .unset, .unset] [(.ref b2)])) (fun _ kq => XS.aload X24.here hx rfl (hb hby at_82) rfl rfl kq) ?_
    refine own_st (T' := T24) (g' := (mkF m 86 #[.val (.int p1), .val (.int p2), .val (.int p3), .val (.int p4), .val (.int p5), .val (.int (0 : Int32)), .val (.int j1), .val (.int j2), .val (.ref b1), .val (.ref b2), .val (.int (own_checked (0 : Int32) (0 : Int32) (0 : Int32))), .val (.int (own_checked (0 : Int32) j1 (own_max (0 : Int32) p4))), .unset, .unset, .unset, .unset] [(.int j2), (.ref b2)])) (fun _ kq => XS.iload X24.here hx rfl (hb hby at_84) rfl kq) ?_
    have F_b2_message_27 : Fld Z T19.heap b2 "com/example/tacit/tacit/wire/MessageReader" "message" "[B" (.ref b1) := (((Fa7.keep Ka14 nin0).other Wa14 (Or.inr (slot_ne (Or.inr (hw _ (List.mem_of_getElem? (i := 27) rfl))) (Or.inl (hw _ (List.mem_of_getElem? (i := 29) rfl))) (by decide) (t := (.array .byte)) (t' := .int) (by decide) (by decide)))).other Wa19 (Or.inr (slot_ne (Or.inr (hw _ (List.mem_of_getElem? (i := 27) rfl))) (Or.inl (hw _ (List.mem_of_getElem? (i := 38) rfl))) (by decide) (t := (.array .byte)) (t' := .int) (by decide) (by decide))))
    have A_b1_28 : Arv Z T19.heap b1 k1 .byte (16 : Int32) [(.int (0 : Int32)), (.int (0 : Int32)), (.int (0 : Int32)), (.int (0 : Int32)), (.int (0 : Int32)), (.int (0 : Int32)), (.int (0 : Int32)), (.int (0 : Int32)), (.int (0 : Int32)), (.int (0 : Int32)), (.int (0 : Int32)), (.int (0 : Int32)), (.int (0 : Int32)), (.int (0 : Int32)), (.int (0 : Int32)), (.int (0 : Int32))] (.int (0 : Int32)) := (((A_b1_13.keep Ka14 nin0).other Wa14 ne_b1_b2).other Wa19 ne_b1_b2)
    obtain ⟨cq29, kq29, q29a, q29b, q29c⟩ := isOf hZ7 hh24 E_b2_25
    obtain ⟨_, _, ⟨T29, L29, k29, n29⟩, -, X29, ⟨Lc29, hQ29, l29, y29, z29⟩, st29⟩ := X24.virtualBack hx (y := (⟨"com/example/tacit/tacit/wire/MessageReader", "readFixedData", "(I)[B"⟩ : MethodName)) (z := (⟨"com/example/tacit/tacit/wire/MessageReader", "readFixedData", "(I)[B"⟩ : MethodName)) hown7 (mvT hZ7 (hw _ (List.mem_of_getElem? (i := 39) rfl))) (mvT hZ7 (hw _ (List.mem_of_getElem? (i := 40) rfl))) (notFace_of_selects (args := #[]) (mvT hZ7 (hw _ (List.mem_of_getElem? (i := 42) rfl)))) (mvT hZ7 (hw _ (List.mem_of_getElem? (i := 42) rfl))) (mvT hZ7 (hw _ (List.mem_of_getElem? (i := 41) rfl))) (by decide) (backOf (W := 0) (rmrfd l Z a0 hw [] b2 b1 k1 j2 j1 (j1 + j2) T19.heap n0 O21 E_b2_25 F_b2_message_27 F_b2_position_22 g_b2 A_b1_28 hk1 hk1' hk2 hk2' rfl) hZ7 (hw _ (List.mem_of_getElem? (i := 43) rfl)) (hw _ (List.mem_of_getElem? (i := 3) rfl)) (by decide) (by decide)) q29a q29c (g := (mkF m 86 #[.val (.int p1), .val (.int p2), .val (.int p3), .val (.int p4), .val (.int p5), .val (.int (0 : Int32)), .val (.int j1), .val (.int j2), .val (.ref b1), .val (.ref b2), .val (.int (own_checked (0 : Int32) (0 : Int32) (0 : Int32))), .val (.int (own_checked (0 : Int32) j1 (own_max (0 : Int32) p4))), .unset, .unset, .unset, .unset] [(.int j2), (.ref b2)])) rfl (by rw [hml]; rfl) (Steps.refl _) (argsL := [(.int j2)]) (rest := []) (lenOf pd_I__B_311 rfl) rfl (by show 2 * 0 + _ ≤ _; exact Nat.le_of_eq rfl) (hb hby at_86) (fun _ _ => ⟨rfl, hh24, (by decide : 5 + 1 ≤ _), (by decide : 59 + 7 ≤ _)⟩)
    dsimp only [Pt.U, Pt.locs, Pt.cells, Pt.slots] at X29 l29 y29 z29 st29 hQ29
    subst l29 y29 z29
    obtain ⟨r29, rfl, Nq29, hm29, Ka29, Wa29⟩ := hQ29
    have N30 := Fr.app N26 Nq29
    refine own_ts (T' := T29) (g' := (mkF m 89 #[.val (.int p1), .val (.int p2), .val (.int p3), .val (.int p4), .val (.int p5), .val (.int (0 : Int32)), .val (.int j1), .val (.int j2), .val (.ref b1), .val (.ref b2), .val (.int (own_checked (0 : Int32) (0 : Int32) (0 : Int32))), .val (.int (own_checked (0 : Int32) j1 (own_max (0 : Int32) p4))), .unset, .unset, .unset, .unset] [(.ref r29)])) st29 ?_
    have Fp29 : Fld Z T29.heap b2 "com/example/tacit/tacit/wire/MessageReader" "position" "I" (.int (j1 + j2)) := Fld.same Wa29 (F_b2_position_22.keep Ka29 nin0)
    refine own_st (T' := T29) (g' := (mkF m 90 #[.val (.int p1), .val (.int p2), .val (.int p3), .val (.int p4), .val (.int p5), .val (.int (0 : Int32)), .val (.int j1), .val (.int j2), .val (.ref b1), .val (.ref b2), .val (.int (own_checked (0 : Int32) (0 : Int32) (0 : Int32))), .val (.int (own_checked (0 : Int32) j1 (own_max (0 : Int32) p4))), .unset, .unset, .unset, .unset] [])) (fun _ kq => XS.pop X29.here hx rfl (hb hby at_89) rfl rfl kq) ?_
    refine own_st (T' := T29) (g' := (mkF m 92 #[.val (.int p1), .val (.int p2), .val (.int p3), .val (.int p4), .val (.int p5), .val (.int (0 : Int32)), .val (.int j1), .val (.int j2), .val (.ref b1), .val (.ref b2), .val (.int (own_checked (0 : Int32) (0 : Int32) (0 : Int32))), .val (.int (own_checked (0 : Int32) j1 (own_max (0 : Int32) p4))), .unset, .unset, .unset, .unset] [(.ref b2)])) (fun _ kq => XS.aload X29.here hx rfl (hb hby at_90) rfl rfl kq) ?_
    refine own_st (T' := T29) (g' := (mkF m 94 #[.val (.int p1), .val (.int p2), .val (.int p3), .val (.int p4), .val (.int p5), .val (.int (0 : Int32)), .val (.int j1), .val (.int j2), .val (.ref b1), .val (.ref b2), .val (.int (own_checked (0 : Int32) (0 : Int32) (0 : Int32))), .val (.int (own_checked (0 : Int32) j1 (own_max (0 : Int32) p4))), .unset, .unset, .unset, .unset] [(.int p5), (.ref b2)])) (fun _ kq => XS.iload X29.here hx rfl (hb hby at_92) rfl kq) ?_
    have F_b2_checkedEnd_31 : Fld Z T29.heap b2 "com/example/tacit/tacit/wire/MessageReader" "checkedEnd" "I" (.int (own_max (0 : Int32) p4)) := ((Fe19.keep Ka29 nin0).other Wa29 (Or.inr (slot_ne (Or.inl (hw _ (List.mem_of_getElem? (i := 38) rfl))) (Or.inl (hw _ (List.mem_of_getElem? (i := 29) rfl))) (by decide) (t := .int) (t' := .int) (by decide) (by decide))))
    have O32 : Old Z n0 T29.heap := ((O21.keep Ka29 all0).wr Wa29 g_b2)
    have E_b2_33 : Exa Z T29.heap b2 "com/example/tacit/tacit/wire/MessageReader" := ((E_b2_25.keep Ka29).wr Wa29)
    obtain ⟨cq34, kq34, q34a, q34b, q34c⟩ := isOf hZ7 rfl E_b2_33
    obtain ⟨_, _, ⟨T34, L34, k34, n34⟩, -, X34, ⟨Lc34, hQ34, l34, y34, z34⟩, st34⟩ := X29.virtualBack hx (y := (⟨"com/example/tacit/tacit/wire/MessageReader", "checkedTo", "(I)V"⟩ : MethodName)) (z := (⟨"com/example/tacit/tacit/wire/MessageReader", "checkedTo", "(I)V"⟩ : MethodName)) hown7 (mvT hZ7 (hw _ (List.mem_of_getElem? (i := 62) rfl))) (mvT hZ7 (hw _ (List.mem_of_getElem? (i := 63) rfl))) (notFace_of_selects (args := #[]) (mvT hZ7 (hw _ (List.mem_of_getElem? (i := 65) rfl)))) (mvT hZ7 (hw _ (List.mem_of_getElem? (i := 65) rfl))) (mvT hZ7 (hw _ (List.mem_of_getElem? (i := 64) rfl))) (by decide) (backOf (W := 0) (rmcto l Z a0 hw [] b2 p5 (own_max (0 : Int32) p4) T29.heap n0 O32 E_b2_33 F_b2_checkedEnd_31 g_b2) hZ7 (hw _ (List.mem_of_getElem? (i := 66) rfl)) (hw _ (List.mem_of_getElem? (i := 3) rfl)) (by decide) (by decide)) q34a q34c (g := (mkF m 94 #[.val (.int p1), .val (.int p2), .val (.int p3), .val (.int p4), .val (.int p5), .val (.int (0 : Int32)), .val (.int j1), .val (.int j2), .val (.ref b1), .val (.ref b2), .val (.int (own_checked (0 : Int32) (0 : Int32) (0 : Int32))), .val (.int (own_checked (0 : Int32) j1 (own_max (0 : Int32) p4))), .unset, .unset, .unset, .unset] [(.int p5), (.ref b2)])) rfl (by rw [hml]; rfl) (Steps.refl _) (argsL := [(.int p5)]) (rest := []) (lenOf pd_I_V_240 rfl) rfl (by show 2 * 0 + _ ≤ _; exact Nat.le_of_eq rfl) (hb hby at_94) (fun _ _ => ⟨rfl, rfl, (by decide : 6 + 0 ≤ _), (by decide : 66 + 0 ≤ _)⟩)
    dsimp only [Pt.U, Pt.locs, Pt.cells, Pt.slots] at X34 l34 y34 z34 st34 hQ34
    subst l34 y34 z34
    obtain ⟨rfl, Nq34, Wa34, -⟩ := hQ34
    have N35 := Fr.app N30 Nq34
    refine own_ts (T' := T34) (g' := (mkF m 97 #[.val (.int p1), .val (.int p2), .val (.int p3), .val (.int p4), .val (.int p5), .val (.int (0 : Int32)), .val (.int j1), .val (.int j2), .val (.ref b1), .val (.ref b2), .val (.int (own_checked (0 : Int32) (0 : Int32) (0 : Int32))), .val (.int (own_checked (0 : Int32) j1 (own_max (0 : Int32) p4))), .unset, .unset, .unset, .unset] [])) st34 ?_
    have Fe34 : Fld Z T34.heap b2 "com/example/tacit/tacit/wire/MessageReader" "checkedEnd" "I" (.int (own_max (own_max (0 : Int32) p4) p5)) := Fld.same Wa34 F_b2_checkedEnd_31
    refine own_st (T' := T34) (g' := (mkF m 99 #[.val (.int p1), .val (.int p2), .val (.int p3), .val (.int p4), .val (.int p5), .val (.int (0 : Int32)), .val (.int j1), .val (.int j2), .val (.ref b1), .val (.ref b2), .val (.int (own_checked (0 : Int32) (0 : Int32) (0 : Int32))), .val (.int (own_checked (0 : Int32) j1 (own_max (0 : Int32) p4))), .unset, .unset, .unset, .unset] [(.ref b2)])) (fun _ kq => XS.aload X34.here hx rfl (hb hby at_97) rfl rfl kq) ?_
    have O36 : Old Z n0 T34.heap := (O32.wr Wa34 g_b2)
    have F_b2_position_37 : Fld Z T34.heap b2 "com/example/tacit/tacit/wire/MessageReader" "position" "I" (.int (j1 + j2)) := (Fp29.other Wa34 (Or.inr (slot_ne (Or.inl (hw _ (List.mem_of_getElem? (i := 29) rfl))) (Or.inl (hw _ (List.mem_of_getElem? (i := 38) rfl))) (by decide) (t := .int) (t' := .int) (by decide) (by decide))))
    have F_b2_checksOnly_38 : Fld Z T34.heap b2 "com/example/tacit/tacit/wire/MessageReader" "checksOnly" "Z" (.int (0 : Int32)) := (((F_b2_checksOnly_23.keep Ka29 nin0).other Wa29 (Or.inr (slot_ne (Or.inr (hw _ (List.mem_of_getElem? (i := 31) rfl))) (Or.inl (hw _ (List.mem_of_getElem? (i := 29) rfl))) (by decide) (t := .boolean) (t' := .int) (by decide) (by decide)))).other Wa34 (Or.inr (slot_ne (Or.inr (hw _ (List.mem_of_getElem? (i := 31) rfl))) (Or.inl (hw _ (List.mem_of_getElem? (i := 38) rfl))) (by decide) (t := .boolean) (t' := .int) (by decide) (by decide))))
    have E_b2_40 : Exa Z T34.heap b2 "com/example/tacit/tacit/wire/MessageReader" := (E_b2_33.wr Wa34)
    obtain ⟨cq39, kq39, q39a, q39b, q39c⟩ := isOf hZ7 rfl E_b2_40
    obtain ⟨_, _, ⟨T39, L39, k39, n39⟩, -, X39, ⟨Lc39, hQ39, l39, y39, z39⟩, st39⟩ := X34.virtualBack hx (y := (⟨"com/example/tacit/tacit/wire/MessageReader", "checked", "()Z"⟩ : MethodName)) (z := (⟨"com/example/tacit/tacit/wire/MessageReader", "checked", "()Z"⟩ : MethodName)) hown7 (mvT hZ7 (hw _ (List.mem_of_getElem? (i := 32) rfl))) (mvT hZ7 (hw _ (List.mem_of_getElem? (i := 33) rfl))) (notFace_of_selects (args := #[]) (mvT hZ7 (hw _ (List.mem_of_getElem? (i := 35) rfl)))) (mvT hZ7 (hw _ (List.mem_of_getElem? (i := 35) rfl))) (mvT hZ7 (hw _ (List.mem_of_getElem? (i := 34) rfl))) (by decide) (backOf (W := 0) (rmckd l Z a0 hw [] b2 (0 : Int32) (j1 + j2) (own_max (own_max (0 : Int32) p4) p5) T34.heap n0 O36 F_b2_position_37 F_b2_checksOnly_38 Fe34) hZ7 (hw _ (List.mem_of_getElem? (i := 36) rfl)) (hw _ (List.mem_of_getElem? (i := 3) rfl)) (by decide) (by decide)) q39a q39c (g := (mkF m 99 #[.val (.int p1), .val (.int p2), .val (.int p3), .val (.int p4), .val (.int p5), .val (.int (0 : Int32)), .val (.int j1), .val (.int j2), .val (.ref b1), .val (.ref b2), .val (.int (own_checked (0 : Int32) (0 : Int32) (0 : Int32))), .val (.int (own_checked (0 : Int32) j1 (own_max (0 : Int32) p4))), .unset, .unset, .unset, .unset] [(.ref b2)])) rfl (by rw [hml]; rfl) (Steps.refl _) (argsL := []) (rest := []) (lenOf pd_Z_171 rfl) rfl (by show 2 * 0 + _ ≤ _; exact Nat.le_of_eq rfl) (hb hby at_99) (fun _ _ => ⟨rfl, rfl, (by decide : 6 + 0 ≤ _), (by decide : 66 + 0 ≤ _)⟩)
    dsimp only [Pt.U, Pt.locs, Pt.cells, Pt.slots] at X39 l39 y39 z39 st39 hQ39
    subst l39 y39 z39
    obtain ⟨rfl, Nq39, hh39⟩ := hQ39
    have N41 := Fr.app N35 Nq39
    refine own_ts (T' := T39) (g' := (mkF m 102 #[.val (.int p1), .val (.int p2), .val (.int p3), .val (.int p4), .val (.int p5), .val (.int (0 : Int32)), .val (.int j1), .val (.int j2), .val (.ref b1), .val (.ref b2), .val (.int (own_checked (0 : Int32) (0 : Int32) (0 : Int32))), .val (.int (own_checked (0 : Int32) j1 (own_max (0 : Int32) p4))), .unset, .unset, .unset, .unset] [(.int (own_checked (0 : Int32) (j1 + j2) (own_max (own_max (0 : Int32) p4) p5)))])) st39 ?_
    refine own_st (T' := T39) (g' := (mkF m 104 #[.val (.int p1), .val (.int p2), .val (.int p3), .val (.int p4), .val (.int p5), .val (.int (0 : Int32)), .val (.int j1), .val (.int j2), .val (.ref b1), .val (.ref b2), .val (.int (own_checked (0 : Int32) (0 : Int32) (0 : Int32))), .val (.int (own_checked (0 : Int32) j1 (own_max (0 : Int32) p4))), .val (.int (own_checked (0 : Int32) (j1 + j2) (own_max (own_max (0 : Int32) p4) p5))), .unset, .unset, .unset] [])) (fun _ kq => XS.istore X39.here hx rfl (hb hby at_102) rfl (l' := #[.val (.int p1), .val (.int p2), .val (.int p3), .val (.int p4), .val (.int p5), .val (.int (0 : Int32)), .val (.int j1), .val (.int j2), .val (.ref b1), .val (.ref b2), .val (.int (own_checked (0 : Int32) (0 : Int32) (0 : Int32))), .val (.int (own_checked (0 : Int32) j1 (own_max (0 : Int32) p4))), .val (.int (own_checked (0 : Int32) (j1 + j2) (own_max (own_max (0 : Int32) p4) p5))), .unset, .unset, .unset]) rfl kq) ?_
    refine own_st (T' := T39) (g' := (mkF m 105 #[.val (.int p1), .val (.int p2), .val (.int p3), .val (.int p4), .val (.int p5), .val (.int (0 : Int32)), .val (.int j1), .val (.int j2), .val (.ref b1), .val (.ref b2), .val (.int (own_checked (0 : Int32) (0 : Int32) (0 : Int32))), .val (.int (own_checked (0 : Int32) j1 (own_max (0 : Int32) p4))), .val (.int (own_checked (0 : Int32) (j1 + j2) (own_max (own_max (0 : Int32) p4) p5))), .unset, .unset, .unset] [(.int (0 : Int32))])) (fun _ kq => XS.iconst X39.here hx rfl (hb hby at_104) kq) ?_
    refine own_st (T' := T39) (g' := (mkF m 106 #[.val (.int p1), .val (.int p2), .val (.int p3), .val (.int p4), .val (.int p5), .val (.int (0 : Int32)), .val (.int j1), .val (.int j2), .val (.ref b1), .val (.ref b2), .val (.int (own_checked (0 : Int32) (0 : Int32) (0 : Int32))), .val (.int (own_checked (0 : Int32) j1 (own_max (0 : Int32) p4))), .val (.int (own_checked (0 : Int32) (j1 + j2) (own_max (own_max (0 : Int32) p4) p5))), .unset, .unset, .unset] [(.int p4), (.int (0 : Int32))])) (fun _ kq => XS.iloadN X39.here hx rfl (hb hby at_105) rfl kq) ?_
    obtain ⟨_, _, ⟨T42, L42, k42, n42⟩, -, X42, ⟨Lc42, hQ42, l42, y42, z42⟩, st42⟩ := Jvm.LawKit.callS X39 hx (y := (⟨"java/lang/Math", "max", "(II)I"⟩ : MethodName)) hown7 (mvT hZ7 (hw _ (List.mem_of_getElem? (i := 70) rfl))) (mvT hZ7 (hw _ (List.mem_of_getElem? (i := 68) rfl))) (mvT hZ7 (hw _ (List.mem_of_getElem? (i := 56) rfl))) (mvT hZ7 (hw _ (List.mem_of_getElem? (i := 69) rfl))) (by decide) (backOf (W := 0) (rmmax l Z a0 hw [] (0 : Int32) p4 T34.heap n0 O36) hZ7 (hw _ (List.mem_of_getElem? (i := 69) rfl)) (hw _ (List.mem_of_getElem? (i := 56) rfl)) (by decide) (by decide)) (g := (mkF m 106 #[.val (.int p1), .val (.int p2), .val (.int p3), .val (.int p4), .val (.int p5), .val (.int (0 : Int32)), .val (.int j1), .val (.int j2), .val (.ref b1), .val (.ref b2), .val (.int (own_checked (0 : Int32) (0 : Int32) (0 : Int32))), .val (.int (own_checked (0 : Int32) j1 (own_max (0 : Int32) p4))), .val (.int (own_checked (0 : Int32) (j1 + j2) (own_max (own_max (0 : Int32) p4) p5))), .unset, .unset, .unset] [(.int p4), (.int (0 : Int32))])) rfl (by rw [hml]; rfl) (argsL := [(.int (0 : Int32)), (.int p4)]) (rest := []) (lenOf pd_II_I_300 rfl) rfl (by show 2 * 0 + _ ≤ _; exact Nat.le_of_eq rfl) (hb hby at_106) (fun _ _ => ⟨rfl, hh39, (by decide : 6 + 0 ≤ _), (by decide : 66 + 0 ≤ _)⟩)
    dsimp only [Pt.U, Pt.locs, Pt.cells, Pt.slots] at X42 l42 y42 z42 st42 hQ42
    subst l42 y42 z42
    obtain ⟨rfl, Nq42, hh42⟩ := hQ42
    have N43 := Fr.app N41 Nq42
    refine own_st (T' := T42) (g' := (mkF m 109 #[.val (.int p1), .val (.int p2), .val (.int p3), .val (.int p4), .val (.int p5), .val (.int (0 : Int32)), .val (.int j1), .val (.int j2), .val (.ref b1), .val (.ref b2), .val (.int (own_checked (0 : Int32) (0 : Int32) (0 : Int32))), .val (.int (own_checked (0 : Int32) j1 (own_max (0 : Int32) p4))), .val (.int (own_checked (0 : Int32) (j1 + j2) (own_max (own_max (0 : Int32) p4) p5))), .unset, .unset, .unset] [(.int (own_max (0 : Int32) p4))])) st42 ?_
    refine own_st (T' := T42) (g' := (mkF m 111 #[.val (.int p1), .val (.int p2), .val (.int p3), .val (.int p4), .val (.int p5), .val (.int (0 : Int32)), .val (.int j1), .val (.int j2), .val (.ref b1), .val (.ref b2), .val (.int (own_checked (0 : Int32) (0 : Int32) (0 : Int32))), .val (.int (own_checked (0 : Int32) j1 (own_max (0 : Int32) p4))), .val (.int (own_checked (0 : Int32) (j1 + j2) (own_max (own_max (0 : Int32) p4) p5))), .val (.int (own_max (0 : Int32) p4)), .unset, .unset] [])) (fun _ kq => XS.istore X42.here hx rfl (hb hby at_109) rfl (l' := #[.val (.int p1), .val (.int p2), .val (.int p3), .val (.int p4), .val (.int p5), .val (.int (0 : Int32)), .val (.int j1), .val (.int j2), .val (.ref b1), .val (.ref b2), .val (.int (own_checked (0 : Int32) (0 : Int32) (0 : Int32))), .val (.int (own_checked (0 : Int32) j1 (own_max (0 : Int32) p4))), .val (.int (own_checked (0 : Int32) (j1 + j2) (own_max (own_max (0 : Int32) p4) p5))), .val (.int (own_max (0 : Int32) p4)), .unset, .unset]) rfl kq) ?_
    refine own_st (T' := T42) (g' := (mkF m 113 #[.val (.int p1), .val (.int p2), .val (.int p3), .val (.int p4), .val (.int p5), .val (.int (0 : Int32)), .val (.int j1), .val (.int j2), .val (.ref b1), .val (.ref b2), .val (.int (own_checked (0 : Int32) (0 : Int32) (0 : Int32))), .val (.int (own_checked (0 : Int32) j1 (own_max (0 : Int32) p4))), .val (.int (own_checked (0 : Int32) (j1 + j2) (own_max (own_max (0 : Int32) p4) p5))), .val (.int (own_max (0 : Int32) p4)), .unset, .unset] [(.int (own_max (0 : Int32) p4))])) (fun _ kq => XS.iload X42.here hx rfl (hb hby at_111) rfl kq) ?_
    refine own_st (T' := T42) (g' := (mkF m 115 #[.val (.int p1), .val (.int p2), .val (.int p3), .val (.int p4), .val (.int p5), .val (.int (0 : Int32)), .val (.int j1), .val (.int j2), .val (.ref b1), .val (.ref b2), .val (.int (own_checked (0 : Int32) (0 : Int32) (0 : Int32))), .val (.int (own_checked (0 : Int32) j1 (own_max (0 : Int32) p4))), .val (.int (own_checked (0 : Int32) (j1 + j2) (own_max (own_max (0 : Int32) p4) p5))), .val (.int (own_max (0 : Int32) p4)), .unset, .unset] [(.int p5), (.int (own_max (0 : Int32) p4))])) (fun _ kq => XS.iload X42.here hx rfl (hb hby at_113) rfl kq) ?_
    obtain ⟨_, _, ⟨T44, L44, k44, n44⟩, -, X44, ⟨Lc44, hQ44, l44, y44, z44⟩, st44⟩ := Jvm.LawKit.callS X42 hx (y := (⟨"java/lang/Math", "max", "(II)I"⟩ : MethodName)) hown7 (mvT hZ7 (hw _ (List.mem_of_getElem? (i := 70) rfl))) (mvT hZ7 (hw _ (List.mem_of_getElem? (i := 68) rfl))) (mvT hZ7 (hw _ (List.mem_of_getElem? (i := 56) rfl))) (mvT hZ7 (hw _ (List.mem_of_getElem? (i := 69) rfl))) (by decide) (backOf (W := 0) (rmmax l Z a0 hw [] (own_max (0 : Int32) p4) p5 T34.heap n0 O36) hZ7 (hw _ (List.mem_of_getElem? (i := 69) rfl)) (hw _ (List.mem_of_getElem? (i := 56) rfl)) (by decide) (by decide)) (g := (mkF m 115 #[.val (.int p1), .val (.int p2), .val (.int p3), .val (.int p4), .val (.int p5), .val (.int (0 : Int32)), .val (.int j1), .val (.int j2), .val (.ref b1), .val (.ref b2), .val (.int (own_checked (0 : Int32) (0 : Int32) (0 : Int32))), .val (.int (own_checked (0 : Int32) j1 (own_max (0 : Int32) p4))), .val (.int (own_checked (0 : Int32) (j1 + j2) (own_max (own_max (0 : Int32) p4) p5))), .val (.int (own_max (0 : Int32) p4)), .unset, .unset] [(.int p5), (.int (own_max (0 : Int32) p4))])) rfl (by rw [hml]; rfl) (argsL := [(.int (own_max (0 : Int32) p4)), (.int p5)]) (rest := []) (lenOf pd_II_I_300 rfl) rfl (by show 2 * 0 + _ ≤ _; exact Nat.le_of_eq rfl) (hb hby at_115) (fun _ _ => ⟨rfl, hh42, (by decide : 6 + 0 ≤ _), (by decide : 66 + 0 ≤ _)⟩)
    dsimp only [Pt.U, Pt.locs, Pt.cells, Pt.slots] at X44 l44 y44 z44 st44 hQ44
    subst l44 y44 z44
    obtain ⟨rfl, Nq44, hh44⟩ := hQ44
    have N45 := Fr.app N43 Nq44
    refine own_st (T' := T44) (g' := (mkF m 118 #[.val (.int p1), .val (.int p2), .val (.int p3), .val (.int p4), .val (.int p5), .val (.int (0 : Int32)), .val (.int j1), .val (.int j2), .val (.ref b1), .val (.ref b2), .val (.int (own_checked (0 : Int32) (0 : Int32) (0 : Int32))), .val (.int (own_checked (0 : Int32) j1 (own_max (0 : Int32) p4))), .val (.int (own_checked (0 : Int32) (j1 + j2) (own_max (own_max (0 : Int32) p4) p5))), .val (.int (own_max (0 : Int32) p4)), .unset, .unset] [(.int (own_max (own_max (0 : Int32) p4) p5))])) st44 ?_
    refine own_st (T' := T44) (g' := (mkF m 120 #[.val (.int p1), .val (.int p2), .val (.int p3), .val (.int p4), .val (.int p5), .val (.int (0 : Int32)), .val (.int j1), .val (.int j2), .val (.ref b1), .val (.ref b2), .val (.int (own_checked (0 : Int32) (0 : Int32) (0 : Int32))), .val (.int (own_checked (0 : Int32) j1 (own_max (0 : Int32) p4))), .val (.int (own_checked (0 : Int32) (j1 + j2) (own_max (own_max (0 : Int32) p4) p5))), .val (.int (own_max (0 : Int32) p4)), .val (.int (own_max (own_max (0 : Int32) p4) p5)), .unset] [])) (fun _ kq => XS.istore X44.here hx rfl (hb hby at_118) rfl (l' := #[.val (.int p1), .val (.int p2), .val (.int p3), .val (.int p4), .val (.int p5), .val (.int (0 : Int32)), .val (.int j1), .val (.int j2), .val (.ref b1), .val (.ref b2), .val (.int (own_checked (0 : Int32) (0 : Int32) (0 : Int32))), .val (.int (own_checked (0 : Int32) j1 (own_max (0 : Int32) p4))), .val (.int (own_checked (0 : Int32) (j1 + j2) (own_max (own_max (0 : Int32) p4) p5))), .val (.int (own_max (0 : Int32) p4)), .val (.int (own_max (own_max (0 : Int32) p4) p5)), .unset]) rfl kq) ?_
    refine own_st (T' := T44) (g' := (mkF m 122 #[.val (.int p1), .val (.int p2), .val (.int p3), .val (.int p4), .val (.int p5), .val (.int (0 : Int32)), .val (.int j1), .val (.int j2), .val (.ref b1), .val (.ref b2), .val (.int (own_checked (0 : Int32) (0 : Int32) (0 : Int32))), .val (.int (own_checked (0 : Int32) j1 (own_max (0 : Int32) p4))), .val (.int (own_checked (0 : Int32) (j1 + j2) (own_max (own_max (0 : Int32) p4) p5))), .val (.int (own_max (0 : Int32) p4)), .val (.int (own_max (own_max (0 : Int32) p4) p5)), .unset] [(.int j1)])) (fun _ kq => XS.iload X44.here hx rfl (hb hby at_120) rfl kq) ?_
    refine own_st (T' := T44) (g' := (mkF m 124 #[.val (.int p1), .val (.int p2), .val (.int p3), .val (.int p4), .val (.int p5), .val (.int (0 : Int32)), .val (.int j1), .val (.int j2), .val (.ref b1), .val (.ref b2), .val (.int (own_checked (0 : Int32) (0 : Int32) (0 : Int32))), .val (.int (own_checked (0 : Int32) j1 (own_max (0 : Int32) p4))), .val (.int (own_checked (0 : Int32) (j1 + j2) (own_max (own_max (0 : Int32) p4) p5))), .val (.int (own_max (0 : Int32) p4)), .val (.int (own_max (own_max (0 : Int32) p4) p5)), .unset] [(.int j2), (.int j1)])) (fun _ kq => XS.iload X44.here hx rfl (hb hby at_122) rfl kq) ?_
    refine own_st (T' := T44) (g' := (mkF m 125 #[.val (.int p1), .val (.int p2), .val (.int p3), .val (.int p4), .val (.int p5), .val (.int (0 : Int32)), .val (.int j1), .val (.int j2), .val (.ref b1), .val (.ref b2), .val (.int (own_checked (0 : Int32) (0 : Int32) (0 : Int32))), .val (.int (own_checked (0 : Int32) j1 (own_max (0 : Int32) p4))), .val (.int (own_checked (0 : Int32) (j1 + j2) (own_max (own_max (0 : Int32) p4) p5))), .val (.int (own_max (0 : Int32) p4)), .val (.int (own_max (own_max (0 : Int32) p4) p5)), .unset] [(.int (j1 + j2))])) (fun _ kq => XS.iadd X44.here hx rfl (hb hby at_124) rfl kq) ?_
    refine own_st (T' := T44) (g' := (mkF m 127 #[.val (.int p1), .val (.int p2), .val (.int p3), .val (.int p4), .val (.int p5), .val (.int (0 : Int32)), .val (.int j1), .val (.int j2), .val (.ref b1), .val (.ref b2), .val (.int (own_checked (0 : Int32) (0 : Int32) (0 : Int32))), .val (.int (own_checked (0 : Int32) j1 (own_max (0 : Int32) p4))), .val (.int (own_checked (0 : Int32) (j1 + j2) (own_max (own_max (0 : Int32) p4) p5))), .val (.int (own_max (0 : Int32) p4)), .val (.int (own_max (own_max (0 : Int32) p4) p5)), .val (.int (j1 + j2))] [])) (fun _ kq => XS.istore X44.here hx rfl (hb hby at_125) rfl (l' := #[.val (.int p1), .val (.int p2), .val (.int p3), .val (.int p4), .val (.int p5), .val (.int (0 : Int32)), .val (.int j1), .val (.int j2), .val (.ref b1), .val (.ref b2), .val (.int (own_checked (0 : Int32) (0 : Int32) (0 : Int32))), .val (.int (own_checked (0 : Int32) j1 (own_max (0 : Int32) p4))), .val (.int (own_checked (0 : Int32) (j1 + j2) (own_max (own_max (0 : Int32) p4) p5))), .val (.int (own_max (0 : Int32) p4)), .val (.int (own_max (own_max (0 : Int32) p4) p5)), .val (.int (j1 + j2))]) rfl kq) ?_
    refine own_st (T' := T44) (g' := (mkF m 129 #[.val (.int p1), .val (.int p2), .val (.int p3), .val (.int p4), .val (.int p5), .val (.int (0 : Int32)), .val (.int j1), .val (.int j2), .val (.ref b1), .val (.ref b2), .val (.int (own_checked (0 : Int32) (0 : Int32) (0 : Int32))), .val (.int (own_checked (0 : Int32) j1 (own_max (0 : Int32) p4))), .val (.int (own_checked (0 : Int32) (j1 + j2) (own_max (own_max (0 : Int32) p4) p5))), .val (.int (own_max (0 : Int32) p4)), .val (.int (own_max (own_max (0 : Int32) p4) p5)), .val (.int (j1 + j2))] [(.int (own_checked (0 : Int32) (0 : Int32) (0 : Int32)))])) (fun _ kq => XS.iload X44.here hx rfl (hb hby at_127) rfl kq) ?_
    refine own_st (T' := T44) (g' := (mkF m 131 #[.val (.int p1), .val (.int p2), .val (.int p3), .val (.int p4), .val (.int p5), .val (.int (0 : Int32)), .val (.int j1), .val (.int j2), .val (.ref b1), .val (.ref b2), .val (.int (own_checked (0 : Int32) (0 : Int32) (0 : Int32))), .val (.int (own_checked (0 : Int32) j1 (own_max (0 : Int32) p4))), .val (.int (own_checked (0 : Int32) (j1 + j2) (own_max (own_max (0 : Int32) p4) p5))), .val (.int (own_max (0 : Int32) p4)), .val (.int (own_max (own_max (0 : Int32) p4) p5)), .val (.int (j1 + j2))] [(.int (0 : Int32)), (.int (own_checked (0 : Int32) (0 : Int32) (0 : Int32)))])) (fun _ kq => XS.iload X44.here hx rfl (hb hby at_129) rfl kq) ?_
    refine own_st (T' := T44) (g' := (mkF m 134 #[.val (.int p1), .val (.int p2), .val (.int p3), .val (.int p4), .val (.int p5), .val (.int (0 : Int32)), .val (.int j1), .val (.int j2), .val (.ref b1), .val (.ref b2), .val (.int (own_checked (0 : Int32) (0 : Int32) (0 : Int32))), .val (.int (own_checked (0 : Int32) j1 (own_max (0 : Int32) p4))), .val (.int (own_checked (0 : Int32) (j1 + j2) (own_max (own_max (0 : Int32) p4) p5))), .val (.int (own_max (0 : Int32) p4)), .val (.int (own_max (own_max (0 : Int32) p4) p5)), .val (.int (j1 + j2))] [])) (fun _ kq => XS.icmpNo X44.here hx rfl (hb hby at_131) rfl (teq (by decide : (own_checked (0 : Int32) (0 : Int32) (0 : Int32)) = (0 : Int32))).2 kq) ?_
    refine own_st (T' := T44) (g' := (mkF m 136 #[.val (.int p1), .val (.int p2), .val (.int p3), .val (.int p4), .val (.int p5), .val (.int (0 : Int32)), .val (.int j1), .val (.int j2), .val (.ref b1), .val (.ref b2), .val (.int (own_checked (0 : Int32) (0 : Int32) (0 : Int32))), .val (.int (own_checked (0 : Int32) j1 (own_max (0 : Int32) p4))), .val (.int (own_checked (0 : Int32) (j1 + j2) (own_max (own_max (0 : Int32) p4) p5))), .val (.int (own_max (0 : Int32) p4)), .val (.int (own_max (own_max (0 : Int32) p4) p5)), .val (.int (j1 + j2))] [(.int (own_checked (0 : Int32) j1 (own_max (0 : Int32) p4)))])) (fun _ kq => XS.iload X44.here hx rfl (hb hby at_134) rfl kq) ?_
    refine own_st (T' := T44) (g' := (mkF m 138 #[.val (.int p1), .val (.int p2), .val (.int p3), .val (.int p4), .val (.int p5), .val (.int (0 : Int32)), .val (.int j1), .val (.int j2), .val (.ref b1), .val (.ref b2), .val (.int (own_checked (0 : Int32) (0 : Int32) (0 : Int32))), .val (.int (own_checked (0 : Int32) j1 (own_max (0 : Int32) p4))), .val (.int (own_checked (0 : Int32) (j1 + j2) (own_max (own_max (0 : Int32) p4) p5))), .val (.int (own_max (0 : Int32) p4)), .val (.int (own_max (own_max (0 : Int32) p4) p5)), .val (.int (j1 + j2))] [(.int (0 : Int32)), (.int (own_checked (0 : Int32) j1 (own_max (0 : Int32) p4)))])) (fun _ kq => XS.iload X44.here hx rfl (hb hby at_136) rfl kq) ?_
    refine own_st (T' := T44) (g' := (mkF m 141 #[.val (.int p1), .val (.int p2), .val (.int p3), .val (.int p4), .val (.int p5), .val (.int (0 : Int32)), .val (.int j1), .val (.int j2), .val (.ref b1), .val (.ref b2), .val (.int (own_checked (0 : Int32) (0 : Int32) (0 : Int32))), .val (.int (own_checked (0 : Int32) j1 (own_max (0 : Int32) p4))), .val (.int (own_checked (0 : Int32) (j1 + j2) (own_max (own_max (0 : Int32) p4) p5))), .val (.int (own_max (0 : Int32) p4)), .val (.int (own_max (own_max (0 : Int32) p4) p5)), .val (.int (j1 + j2))] [(.int (own_checked (0 : Int32) j1 (own_max (0 : Int32) p4)))])) (fun _ kq => XS.ifNo X44.here hx rfl (hb hby at_138) rfl ((if0 _ _).trans (teq ((by decide) : (0 : Int32) = (0 : Int32))).2) kq) ?_
    refine own_st (T' := T44) (g' := (mkF m 143 #[.val (.int p1), .val (.int p2), .val (.int p3), .val (.int p4), .val (.int p5), .val (.int (0 : Int32)), .val (.int j1), .val (.int j2), .val (.ref b1), .val (.ref b2), .val (.int (own_checked (0 : Int32) (0 : Int32) (0 : Int32))), .val (.int (own_checked (0 : Int32) j1 (own_max (0 : Int32) p4))), .val (.int (own_checked (0 : Int32) (j1 + j2) (own_max (own_max (0 : Int32) p4) p5))), .val (.int (own_max (0 : Int32) p4)), .val (.int (own_max (own_max (0 : Int32) p4) p5)), .val (.int (j1 + j2))] [(.int j1), (.int (own_checked (0 : Int32) j1 (own_max (0 : Int32) p4)))])) (fun _ kq => XS.iload X44.here hx rfl (hb hby at_141) rfl kq) ?_
    refine own_st (T' := T44) (g' := (mkF m 145 #[.val (.int p1), .val (.int p2), .val (.int p3), .val (.int p4), .val (.int p5), .val (.int (0 : Int32)), .val (.int j1), .val (.int j2), .val (.ref b1), .val (.ref b2), .val (.int (own_checked (0 : Int32) (0 : Int32) (0 : Int32))), .val (.int (own_checked (0 : Int32) j1 (own_max (0 : Int32) p4))), .val (.int (own_checked (0 : Int32) (j1 + j2) (own_max (own_max (0 : Int32) p4) p5))), .val (.int (own_max (0 : Int32) p4)), .val (.int (own_max (own_max (0 : Int32) p4) p5)), .val (.int (j1 + j2))] [(.int (own_max (0 : Int32) p4)), (.int j1), (.int (own_checked (0 : Int32) j1 (own_max (0 : Int32) p4)))])) (fun _ kq => XS.iload X44.here hx rfl (hb hby at_143) rfl kq) ?_
    suffices hj : own_Go p e below (fun s₂ o => ∃ v L, o = .returned v ∧ Q0 Z p1 p2 p3 p4 p5 h0 n0 v s₂.heap L ∧ ReturnedEndW s o s₂ L room_1.cells room_1.slots) T44 (mkF m 153 #[.val (.int p1), .val (.int p2), .val (.int p3), .val (.int p4), .val (.int p5), .val (.int (0 : Int32)), .val (.int j1), .val (.int j2), .val (.ref b1), .val (.ref b2), .val (.int (own_checked (0 : Int32) (0 : Int32) (0 : Int32))), .val (.int (own_checked (0 : Int32) j1 (own_max (0 : Int32) p4))), .val (.int (own_checked (0 : Int32) (j1 + j2) (own_max (own_max (0 : Int32) p4) p5))), .val (.int (own_max (0 : Int32) p4)), .val (.int (own_max (own_max (0 : Int32) p4) p5)), .val (.int (j1 + j2))] [(.int (if j1 < (own_max (0 : Int32) p4) then (1 : Int32) else (0 : Int32))), (.int (own_checked (0 : Int32) j1 (own_max (0 : Int32) p4)))]) by
      by_cases hc145_46 : j1 < (own_max (0 : Int32) p4)
      · simp only [if_pos hc145_46] at hj
        refine own_st (T' := T44) (g' := (mkF m 148 #[.val (.int p1), .val (.int p2), .val (.int p3), .val (.int p4), .val (.int p5), .val (.int (0 : Int32)), .val (.int j1), .val (.int j2), .val (.ref b1), .val (.ref b2), .val (.int (own_checked (0 : Int32) (0 : Int32) (0 : Int32))), .val (.int (own_checked (0 : Int32) j1 (own_max (0 : Int32) p4))), .val (.int (own_checked (0 : Int32) (j1 + j2) (own_max (own_max (0 : Int32) p4) p5))), .val (.int (own_max (0 : Int32) p4)), .val (.int (own_max (own_max (0 : Int32) p4) p5)), .val (.int (j1 + j2))] [(.int (own_checked (0 : Int32) j1 (own_max (0 : Int32) p4)))])) (fun _ kq => XS.icmpNo X44.here hx rfl (hb hby at_145) rfl (tlt (hc145_46 : j1 < (own_max (0 : Int32) p4))).2.1 kq) ?_
        refine own_st (T' := T44) (g' := (mkF m 149 #[.val (.int p1), .val (.int p2), .val (.int p3), .val (.int p4), .val (.int p5), .val (.int (0 : Int32)), .val (.int j1), .val (.int j2), .val (.ref b1), .val (.ref b2), .val (.int (own_checked (0 : Int32) (0 : Int32) (0 : Int32))), .val (.int (own_checked (0 : Int32) j1 (own_max (0 : Int32) p4))), .val (.int (own_checked (0 : Int32) (j1 + j2) (own_max (own_max (0 : Int32) p4) p5))), .val (.int (own_max (0 : Int32) p4)), .val (.int (own_max (own_max (0 : Int32) p4) p5)), .val (.int (j1 + j2))] [(.int (1 : Int32)), (.int (own_checked (0 : Int32) j1 (own_max (0 : Int32) p4)))])) (fun _ kq => XS.iconst X44.here hx rfl (hb hby at_148) kq) ?_
        refine own_st (T' := T44) (g' := (mkF m 153 #[.val (.int p1), .val (.int p2), .val (.int p3), .val (.int p4), .val (.int p5), .val (.int (0 : Int32)), .val (.int j1), .val (.int j2), .val (.ref b1), .val (.ref b2), .val (.int (own_checked (0 : Int32) (0 : Int32) (0 : Int32))), .val (.int (own_checked (0 : Int32) j1 (own_max (0 : Int32) p4))), .val (.int (own_checked (0 : Int32) (j1 + j2) (own_max (own_max (0 : Int32) p4) p5))), .val (.int (own_max (0 : Int32) p4)), .val (.int (own_max (own_max (0 : Int32) p4) p5)), .val (.int (j1 + j2))] [(.int (1 : Int32)), (.int (own_checked (0 : Int32) j1 (own_max (0 : Int32) p4)))])) (fun _ kq => XS.goto X44.here hx rfl (pc0 := 149) (pc' := 153) rfl (hb hby at_149) (by decide) (by decide) kq) ?_
        exact hj
      · simp only [if_neg hc145_46] at hj
        refine own_st (T' := T44) (g' := (mkF m 152 #[.val (.int p1), .val (.int p2), .val (.int p3), .val (.int p4), .val (.int p5), .val (.int (0 : Int32)), .val (.int j1), .val (.int j2), .val (.ref b1), .val (.ref b2), .val (.int (own_checked (0 : Int32) (0 : Int32) (0 : Int32))), .val (.int (own_checked (0 : Int32) j1 (own_max (0 : Int32) p4))), .val (.int (own_checked (0 : Int32) (j1 + j2) (own_max (own_max (0 : Int32) p4) p5))), .val (.int (own_max (0 : Int32) p4)), .val (.int (own_max (own_max (0 : Int32) p4) p5)), .val (.int (j1 + j2))] [(.int (own_checked (0 : Int32) j1 (own_max (0 : Int32) p4)))])) (fun _ kq => XS.icmpYes X44.here hx rfl (pc0 := 145) (pc' := 152) rfl (hb hby at_145) rfl (flt (hc145_46 : ¬ (j1 < (own_max (0 : Int32) p4)))).2.1 (by decide) (by decide) kq) ?_
        refine own_st (T' := T44) (g' := (mkF m 153 #[.val (.int p1), .val (.int p2), .val (.int p3), .val (.int p4), .val (.int p5), .val (.int (0 : Int32)), .val (.int j1), .val (.int j2), .val (.ref b1), .val (.ref b2), .val (.int (own_checked (0 : Int32) (0 : Int32) (0 : Int32))), .val (.int (own_checked (0 : Int32) j1 (own_max (0 : Int32) p4))), .val (.int (own_checked (0 : Int32) (j1 + j2) (own_max (own_max (0 : Int32) p4) p5))), .val (.int (own_max (0 : Int32) p4)), .val (.int (own_max (own_max (0 : Int32) p4) p5)), .val (.int (j1 + j2))] [(.int (0 : Int32)), (.int (own_checked (0 : Int32) j1 (own_max (0 : Int32) p4)))])) (fun _ kq => XS.iconst X44.here hx rfl (hb hby at_152) kq) ?_
        exact hj
    refine own_st (T' := T44) (g' := (mkF m 156 #[.val (.int p1), .val (.int p2), .val (.int p3), .val (.int p4), .val (.int p5), .val (.int (0 : Int32)), .val (.int j1), .val (.int j2), .val (.ref b1), .val (.ref b2), .val (.int (own_checked (0 : Int32) (0 : Int32) (0 : Int32))), .val (.int (own_checked (0 : Int32) j1 (own_max (0 : Int32) p4))), .val (.int (own_checked (0 : Int32) (j1 + j2) (own_max (own_max (0 : Int32) p4) p5))), .val (.int (own_max (0 : Int32) p4)), .val (.int (own_max (own_max (0 : Int32) p4) p5)), .val (.int (j1 + j2))] [])) (fun _ kq => XS.icmpNo X44.here hx rfl (hb hby at_153) rfl (teq (own_c0 _ _ : (own_checked (0 : Int32) j1 (own_max (0 : Int32) p4)) = (if j1 < (own_max (0 : Int32) p4) then (1 : Int32) else (0 : Int32)))).2 kq) ?_
    refine own_st (T' := T44) (g' := (mkF m 158 #[.val (.int p1), .val (.int p2), .val (.int p3), .val (.int p4), .val (.int p5), .val (.int (0 : Int32)), .val (.int j1), .val (.int j2), .val (.ref b1), .val (.ref b2), .val (.int (own_checked (0 : Int32) (0 : Int32) (0 : Int32))), .val (.int (own_checked (0 : Int32) j1 (own_max (0 : Int32) p4))), .val (.int (own_checked (0 : Int32) (j1 + j2) (own_max (own_max (0 : Int32) p4) p5))), .val (.int (own_max (0 : Int32) p4)), .val (.int (own_max (own_max (0 : Int32) p4) p5)), .val (.int (j1 + j2))] [(.int (own_checked (0 : Int32) (j1 + j2) (own_max (own_max (0 : Int32) p4) p5)))])) (fun _ kq => XS.iload X44.here hx rfl (hb hby at_156) rfl kq) ?_
    refine own_st (T' := T44) (g' := (mkF m 160 #[.val (.int p1), .val (.int p2), .val (.int p3), .val (.int p4), .val (.int p5), .val (.int (0 : Int32)), .val (.int j1), .val (.int j2), .val (.ref b1), .val (.ref b2), .val (.int (own_checked (0 : Int32) (0 : Int32) (0 : Int32))), .val (.int (own_checked (0 : Int32) j1 (own_max (0 : Int32) p4))), .val (.int (own_checked (0 : Int32) (j1 + j2) (own_max (own_max (0 : Int32) p4) p5))), .val (.int (own_max (0 : Int32) p4)), .val (.int (own_max (own_max (0 : Int32) p4) p5)), .val (.int (j1 + j2))] [(.int (0 : Int32)), (.int (own_checked (0 : Int32) (j1 + j2) (own_max (own_max (0 : Int32) p4) p5)))])) (fun _ kq => XS.iload X44.here hx rfl (hb hby at_158) rfl kq) ?_
    refine own_st (T' := T44) (g' := (mkF m 163 #[.val (.int p1), .val (.int p2), .val (.int p3), .val (.int p4), .val (.int p5), .val (.int (0 : Int32)), .val (.int j1), .val (.int j2), .val (.ref b1), .val (.ref b2), .val (.int (own_checked (0 : Int32) (0 : Int32) (0 : Int32))), .val (.int (own_checked (0 : Int32) j1 (own_max (0 : Int32) p4))), .val (.int (own_checked (0 : Int32) (j1 + j2) (own_max (own_max (0 : Int32) p4) p5))), .val (.int (own_max (0 : Int32) p4)), .val (.int (own_max (own_max (0 : Int32) p4) p5)), .val (.int (j1 + j2))] [(.int (own_checked (0 : Int32) (j1 + j2) (own_max (own_max (0 : Int32) p4) p5)))])) (fun _ kq => XS.ifNo X44.here hx rfl (hb hby at_160) rfl ((if0 _ _).trans (teq ((by decide) : (0 : Int32) = (0 : Int32))).2) kq) ?_
    refine own_st (T' := T44) (g' := (mkF m 165 #[.val (.int p1), .val (.int p2), .val (.int p3), .val (.int p4), .val (.int p5), .val (.int (0 : Int32)), .val (.int j1), .val (.int j2), .val (.ref b1), .val (.ref b2), .val (.int (own_checked (0 : Int32) (0 : Int32) (0 : Int32))), .val (.int (own_checked (0 : Int32) j1 (own_max (0 : Int32) p4))), .val (.int (own_checked (0 : Int32) (j1 + j2) (own_max (own_max (0 : Int32) p4) p5))), .val (.int (own_max (0 : Int32) p4)), .val (.int (own_max (own_max (0 : Int32) p4) p5)), .val (.int (j1 + j2))] [(.int (j1 + j2)), (.int (own_checked (0 : Int32) (j1 + j2) (own_max (own_max (0 : Int32) p4) p5)))])) (fun _ kq => XS.iload X44.here hx rfl (hb hby at_163) rfl kq) ?_
    refine own_st (T' := T44) (g' := (mkF m 167 #[.val (.int p1), .val (.int p2), .val (.int p3), .val (.int p4), .val (.int p5), .val (.int (0 : Int32)), .val (.int j1), .val (.int j2), .val (.ref b1), .val (.ref b2), .val (.int (own_checked (0 : Int32) (0 : Int32) (0 : Int32))), .val (.int (own_checked (0 : Int32) j1 (own_max (0 : Int32) p4))), .val (.int (own_checked (0 : Int32) (j1 + j2) (own_max (own_max (0 : Int32) p4) p5))), .val (.int (own_max (0 : Int32) p4)), .val (.int (own_max (own_max (0 : Int32) p4) p5)), .val (.int (j1 + j2))] [(.int (own_max (own_max (0 : Int32) p4) p5)), (.int (j1 + j2)), (.int (own_checked (0 : Int32) (j1 + j2) (own_max (own_max (0 : Int32) p4) p5)))])) (fun _ kq => XS.iload X44.here hx rfl (hb hby at_165) rfl kq) ?_
    suffices hj : own_Go p e below (fun s₂ o => ∃ v L, o = .returned v ∧ Q0 Z p1 p2 p3 p4 p5 h0 n0 v s₂.heap L ∧ ReturnedEndW s o s₂ L room_1.cells room_1.slots) T44 (mkF m 175 #[.val (.int p1), .val (.int p2), .val (.int p3), .val (.int p4), .val (.int p5), .val (.int (0 : Int32)), .val (.int j1), .val (.int j2), .val (.ref b1), .val (.ref b2), .val (.int (own_checked (0 : Int32) (0 : Int32) (0 : Int32))), .val (.int (own_checked (0 : Int32) j1 (own_max (0 : Int32) p4))), .val (.int (own_checked (0 : Int32) (j1 + j2) (own_max (own_max (0 : Int32) p4) p5))), .val (.int (own_max (0 : Int32) p4)), .val (.int (own_max (own_max (0 : Int32) p4) p5)), .val (.int (j1 + j2))] [(.int (if (j1 + j2) < (own_max (own_max (0 : Int32) p4) p5) then (1 : Int32) else (0 : Int32))), (.int (own_checked (0 : Int32) (j1 + j2) (own_max (own_max (0 : Int32) p4) p5)))]) by
      by_cases hc167_47 : (j1 + j2) < (own_max (own_max (0 : Int32) p4) p5)
      · simp only [if_pos hc167_47] at hj
        refine own_st (T' := T44) (g' := (mkF m 170 #[.val (.int p1), .val (.int p2), .val (.int p3), .val (.int p4), .val (.int p5), .val (.int (0 : Int32)), .val (.int j1), .val (.int j2), .val (.ref b1), .val (.ref b2), .val (.int (own_checked (0 : Int32) (0 : Int32) (0 : Int32))), .val (.int (own_checked (0 : Int32) j1 (own_max (0 : Int32) p4))), .val (.int (own_checked (0 : Int32) (j1 + j2) (own_max (own_max (0 : Int32) p4) p5))), .val (.int (own_max (0 : Int32) p4)), .val (.int (own_max (own_max (0 : Int32) p4) p5)), .val (.int (j1 + j2))] [(.int (own_checked (0 : Int32) (j1 + j2) (own_max (own_max (0 : Int32) p4) p5)))])) (fun _ kq => XS.icmpNo X44.here hx rfl (hb hby at_167) rfl (tlt (hc167_47 : (j1 + j2) < (own_max (own_max (0 : Int32) p4) p5))).2.1 kq) ?_
        refine own_st (T' := T44) (g' := (mkF m 171 #[.val (.int p1), .val (.int p2), .val (.int p3), .val (.int p4), .val (.int p5), .val (.int (0 : Int32)), .val (.int j1), .val (.int j2), .val (.ref b1), .val (.ref b2), .val (.int (own_checked (0 : Int32) (0 : Int32) (0 : Int32))), .val (.int (own_checked (0 : Int32) j1 (own_max (0 : Int32) p4))), .val (.int (own_checked (0 : Int32) (j1 + j2) (own_max (own_max (0 : Int32) p4) p5))), .val (.int (own_max (0 : Int32) p4)), .val (.int (own_max (own_max (0 : Int32) p4) p5)), .val (.int (j1 + j2))] [(.int (1 : Int32)), (.int (own_checked (0 : Int32) (j1 + j2) (own_max (own_max (0 : Int32) p4) p5)))])) (fun _ kq => XS.iconst X44.here hx rfl (hb hby at_170) kq) ?_
        refine own_st (T' := T44) (g' := (mkF m 175 #[.val (.int p1), .val (.int p2), .val (.int p3), .val (.int p4), .val (.int p5), .val (.int (0 : Int32)), .val (.int j1), .val (.int j2), .val (.ref b1), .val (.ref b2), .val (.int (own_checked (0 : Int32) (0 : Int32) (0 : Int32))), .val (.int (own_checked (0 : Int32) j1 (own_max (0 : Int32) p4))), .val (.int (own_checked (0 : Int32) (j1 + j2) (own_max (own_max (0 : Int32) p4) p5))), .val (.int (own_max (0 : Int32) p4)), .val (.int (own_max (own_max (0 : Int32) p4) p5)), .val (.int (j1 + j2))] [(.int (1 : Int32)), (.int (own_checked (0 : Int32) (j1 + j2) (own_max (own_max (0 : Int32) p4) p5)))])) (fun _ kq => XS.goto X44.here hx rfl (pc0 := 171) (pc' := 175) rfl (hb hby at_171) (by decide) (by decide) kq) ?_
        exact hj
      · simp only [if_neg hc167_47] at hj
        refine own_st (T' := T44) (g' := (mkF m 174 #[.val (.int p1), .val (.int p2), .val (.int p3), .val (.int p4), .val (.int p5), .val (.int (0 : Int32)), .val (.int j1), .val (.int j2), .val (.ref b1), .val (.ref b2), .val (.int (own_checked (0 : Int32) (0 : Int32) (0 : Int32))), .val (.int (own_checked (0 : Int32) j1 (own_max (0 : Int32) p4))), .val (.int (own_checked (0 : Int32) (j1 + j2) (own_max (own_max (0 : Int32) p4) p5))), .val (.int (own_max (0 : Int32) p4)), .val (.int (own_max (own_max (0 : Int32) p4) p5)), .val (.int (j1 + j2))] [(.int (own_checked (0 : Int32) (j1 + j2) (own_max (own_max (0 : Int32) p4) p5)))])) (fun _ kq => XS.icmpYes X44.here hx rfl (pc0 := 167) (pc' := 174) rfl (hb hby at_167) rfl (flt (hc167_47 : ¬ ((j1 + j2) < (own_max (own_max (0 : Int32) p4) p5)))).2.1 (by decide) (by decide) kq) ?_
        refine own_st (T' := T44) (g' := (mkF m 175 #[.val (.int p1), .val (.int p2), .val (.int p3), .val (.int p4), .val (.int p5), .val (.int (0 : Int32)), .val (.int j1), .val (.int j2), .val (.ref b1), .val (.ref b2), .val (.int (own_checked (0 : Int32) (0 : Int32) (0 : Int32))), .val (.int (own_checked (0 : Int32) j1 (own_max (0 : Int32) p4))), .val (.int (own_checked (0 : Int32) (j1 + j2) (own_max (own_max (0 : Int32) p4) p5))), .val (.int (own_max (0 : Int32) p4)), .val (.int (own_max (own_max (0 : Int32) p4) p5)), .val (.int (j1 + j2))] [(.int (0 : Int32)), (.int (own_checked (0 : Int32) (j1 + j2) (own_max (own_max (0 : Int32) p4) p5)))])) (fun _ kq => XS.iconst X44.here hx rfl (hb hby at_174) kq) ?_
        exact hj
    refine own_st (T' := T44) (g' := (mkF m 178 #[.val (.int p1), .val (.int p2), .val (.int p3), .val (.int p4), .val (.int p5), .val (.int (0 : Int32)), .val (.int j1), .val (.int j2), .val (.ref b1), .val (.ref b2), .val (.int (own_checked (0 : Int32) (0 : Int32) (0 : Int32))), .val (.int (own_checked (0 : Int32) j1 (own_max (0 : Int32) p4))), .val (.int (own_checked (0 : Int32) (j1 + j2) (own_max (own_max (0 : Int32) p4) p5))), .val (.int (own_max (0 : Int32) p4)), .val (.int (own_max (own_max (0 : Int32) p4) p5)), .val (.int (j1 + j2))] [])) (fun _ kq => XS.icmpNo X44.here hx rfl (hb hby at_175) rfl (teq (own_c0 _ _ : (own_checked (0 : Int32) (j1 + j2) (own_max (own_max (0 : Int32) p4) p5)) = (if (j1 + j2) < (own_max (own_max (0 : Int32) p4) p5) then (1 : Int32) else (0 : Int32)))).2 kq) ?_
    refine own_st (T' := T44) (g' := (mkF m 179 #[.val (.int p1), .val (.int p2), .val (.int p3), .val (.int p4), .val (.int p5), .val (.int (0 : Int32)), .val (.int j1), .val (.int j2), .val (.ref b1), .val (.ref b2), .val (.int (own_checked (0 : Int32) (0 : Int32) (0 : Int32))), .val (.int (own_checked (0 : Int32) j1 (own_max (0 : Int32) p4))), .val (.int (own_checked (0 : Int32) (j1 + j2) (own_max (own_max (0 : Int32) p4) p5))), .val (.int (own_max (0 : Int32) p4)), .val (.int (own_max (own_max (0 : Int32) p4) p5)), .val (.int (j1 + j2))] [(.int (1 : Int32))])) (fun _ kq => XS.iconst X44.here hx rfl (hb hby at_178) kq) ?_
    refine own_st (T' := T44) (g' := (mkF m 183 #[.val (.int p1), .val (.int p2), .val (.int p3), .val (.int p4), .val (.int p5), .val (.int (0 : Int32)), .val (.int j1), .val (.int j2), .val (.ref b1), .val (.ref b2), .val (.int (own_checked (0 : Int32) (0 : Int32) (0 : Int32))), .val (.int (own_checked (0 : Int32) j1 (own_max (0 : Int32) p4))), .val (.int (own_checked (0 : Int32) (j1 + j2) (own_max (own_max (0 : Int32) p4) p5))), .val (.int (own_max (0 : Int32) p4)), .val (.int (own_max (own_max (0 : Int32) p4) p5)), .val (.int (j1 + j2))] [(.int (1 : Int32))])) (fun _ kq => XS.goto X44.here hx rfl (pc0 := 179) (pc' := 183) rfl (hb hby at_179) (by decide) (by decide) kq) ?_
    refine own_outW X44 hS7 (by rw [hh44]; exact (Nat.le_trans (Nat.le_trans (Nat.le_trans (Nat.le_trans (Nat.le_trans (Nat.le_trans (Nat.le_refl _) Ka14.1) (Nat.le_of_eq Wa14.size.symm)) (Nat.le_of_eq Wa19.size.symm)) Ka29.1) (Nat.le_of_eq Wa29.size.symm)) (Nat.le_of_eq Wa34.size.symm))) Bd.notSynchronized (v := (some (.int (1 : Int32)))) (fun h => by rw [Bd.returns] at h; cases h) (fun fs hr => retN X44 hx (t := .boolean) Bd.returns (by simp) (hb hby at_183) hr) ?_ (by decide) (by decide)
    rw [hh44]
    exact ⟨rfl, N45⟩
  · refine own_st (T' := s₁) (g' := (mkF m 6 #[.val (.int p1), .val (.int p2), .val (.int p3), .val (.int p4), .val (.int p5), .unset, .unset, .unset, .unset, .unset, .unset, .unset, .unset, .unset, .unset, .unset] [])) (fun _ kq => XS.ifNo X0.here hx rfl (hb hby at_3) rfl ((if0 _ _).trans (feq (hm : ¬ ((p1 &&& (1 : Int32)) = (0 : Int32)))).1) kq) ?_
    refine own_st (T' := s₁) (g' := (mkF m 7 #[.val (.int p1), .val (.int p2), .val (.int p3), .val (.int p4), .val (.int p5), .unset, .unset, .unset, .unset, .unset, .unset, .unset, .unset, .unset, .unset, .unset] [(.int (1 : Int32))])) (fun _ kq => XS.iconst X0.here hx rfl (hb hby at_6) kq) ?_
    refine own_st (T' := s₁) (g' := (mkF m 11 #[.val (.int p1), .val (.int p2), .val (.int p3), .val (.int p4), .val (.int p5), .unset, .unset, .unset, .unset, .unset, .unset, .unset, .unset, .unset, .unset, .unset] [(.int (1 : Int32))])) (fun _ kq => XS.goto X0.here hx rfl (pc0 := 7) (pc' := 11) rfl (hb hby at_7) (by decide) (by decide) kq) ?_
    refine own_st (T' := s₁) (g' := (mkF m 13 #[.val (.int p1), .val (.int p2), .val (.int p3), .val (.int p4), .val (.int p5), .val (.int (1 : Int32)), .unset, .unset, .unset, .unset, .unset, .unset, .unset, .unset, .unset, .unset] [])) (fun _ kq => XS.istore X0.here hx rfl (hb hby at_11) rfl (l' := #[.val (.int p1), .val (.int p2), .val (.int p3), .val (.int p4), .val (.int p5), .val (.int (1 : Int32)), .unset, .unset, .unset, .unset, .unset, .unset, .unset, .unset, .unset, .unset]) rfl kq) ?_
    refine own_st (T' := s₁) (g' := (mkF m 14 #[.val (.int p1), .val (.int p2), .val (.int p3), .val (.int p4), .val (.int p5), .val (.int (1 : Int32)), .unset, .unset, .unset, .unset, .unset, .unset, .unset, .unset, .unset, .unset] [(.int p2)])) (fun _ kq => XS.iloadN X0.here hx rfl (hb hby at_13) rfl kq) ?_
    refine own_st (T' := s₁) (g' := (mkF m 16 #[.val (.int p1), .val (.int p2), .val (.int p3), .val (.int p4), .val (.int p5), .val (.int (1 : Int32)), .unset, .unset, .unset, .unset, .unset, .unset, .unset, .unset, .unset, .unset] [(.int (7 : Int32)), (.int p2)])) (fun _ kq => XS.bipush X0.here hx rfl (hb hby at_14) kq) ?_
    refine own_st (T' := s₁) (g' := (mkF m 17 #[.val (.int p1), .val (.int p2), .val (.int p3), .val (.int p4), .val (.int p5), .val (.int (1 : Int32)), .unset, .unset, .unset, .unset, .unset, .unset, .unset, .unset, .unset, .unset] [(.int (p2 &&& (7 : Int32)))])) (fun _ kq => XS.iand X0.here hx rfl (hb hby at_16) rfl kq) ?_
    refine own_st (T' := s₁) (g' := (mkF m 19 #[.val (.int p1), .val (.int p2), .val (.int p3), .val (.int p4), .val (.int p5), .val (.int (1 : Int32)), .val (.int (p2 &&& (7 : Int32))), .unset, .unset, .unset, .unset, .unset, .unset, .unset, .unset, .unset] [])) (fun _ kq => XS.istore X0.here hx rfl (hb hby at_17) rfl (l' := #[.val (.int p1), .val (.int p2), .val (.int p3), .val (.int p4), .val (.int p5), .val (.int (1 : Int32)), .val (.int (p2 &&& (7 : Int32))), .unset, .unset, .unset, .unset, .unset, .unset, .unset, .unset, .unset]) rfl kq) ?_
    generalize (p2 &&& (7 : Int32)) = j1 at hk1 hk1' ⊢
    refine own_st (T' := s₁) (g' := (mkF m 20 #[.val (.int p1), .val (.int p2), .val (.int p3), .val (.int p4), .val (.int p5), .val (.int (1 : Int32)), .val (.int j1), .unset, .unset, .unset, .unset, .unset, .unset, .unset, .unset, .unset] [(.int p3)])) (fun _ kq => XS.iloadN X0.here hx rfl (hb hby at_19) rfl kq) ?_
    refine own_st (T' := s₁) (g' := (mkF m 22 #[.val (.int p1), .val (.int p2), .val (.int p3), .val (.int p4), .val (.int p5), .val (.int (1 : Int32)), .val (.int j1), .unset, .unset, .unset, .unset, .unset, .unset, .unset, .unset, .unset] [(.int (7 : Int32)), (.int p3)])) (fun _ kq => XS.bipush X0.here hx rfl (hb hby at_20) kq) ?_
    refine own_st (T' := s₁) (g' := (mkF m 23 #[.val (.int p1), .val (.int p2), .val (.int p3), .val (.int p4), .val (.int p5), .val (.int (1 : Int32)), .val (.int j1), .unset, .unset, .unset, .unset, .unset, .unset, .unset, .unset, .unset] [(.int (p3 &&& (7 : Int32)))])) (fun _ kq => XS.iand X0.here hx rfl (hb hby at_22) rfl kq) ?_
    refine own_st (T' := s₁) (g' := (mkF m 25 #[.val (.int p1), .val (.int p2), .val (.int p3), .val (.int p4), .val (.int p5), .val (.int (1 : Int32)), .val (.int j1), .val (.int (p3 &&& (7 : Int32))), .unset, .unset, .unset, .unset, .unset, .unset, .unset, .unset] [])) (fun _ kq => XS.istore X0.here hx rfl (hb hby at_23) rfl (l' := #[.val (.int p1), .val (.int p2), .val (.int p3), .val (.int p4), .val (.int p5), .val (.int (1 : Int32)), .val (.int j1), .val (.int (p3 &&& (7 : Int32))), .unset, .unset, .unset, .unset, .unset, .unset, .unset, .unset]) rfl kq) ?_
    generalize (p3 &&& (7 : Int32)) = j2 at hk2 hk2' ⊢
    refine own_st (T' := s₁) (g' := (mkF m 27 #[.val (.int p1), .val (.int p2), .val (.int p3), .val (.int p4), .val (.int p5), .val (.int (1 : Int32)), .val (.int j1), .val (.int j2), .unset, .unset, .unset, .unset, .unset, .unset, .unset, .unset] [(.int (16 : Int32))])) (fun _ kq => XS.bipush X0.here hx rfl (hb hby at_25) kq) ?_
    obtain ⟨T48, h48, k48, X48, e48, E48, A48, Ax48, st48⟩ := newPE X0 hx hZ (hw _ (List.mem_of_getElem? (i := 0) rfl)) e0 (g := (mkF m 27 #[.val (.int p1), .val (.int p2), .val (.int p3), .val (.int p4), .val (.int p5), .val (.int (1 : Int32)), .val (.int j1), .val (.int j2), .unset, .unset, .unset, .unset, .unset, .unset, .unset, .unset] [(.int (16 : Int32))])) rfl (hb hby at_27) rfl (by decide) (cap := 16) (by decide) (by decide) (by decide) (by decide) (ad := "[B") rfl
    obtain ⟨b48, g48⟩ : ∃ z, z = h0.size := ⟨_, rfl⟩
    rw [← g48] at A48 Ax48 st48
    have g_b48 : n0 ≤ b48 := Nat.le_trans (own_old O0) (Nat.le_of_eq g48.symm)
    have sz_b48 : h0.size ≤ b48 := Nat.le_trans (Keep.refl h0 []).1 (Nat.le_of_eq g48.symm)
    have V48 : Arv Z h48 b48 k48 .byte (16 : Int32) [(.int (0 : Int32)), (.int (0 : Int32)), (.int (0 : Int32)), (.int (0 : Int32)), (.int (0 : Int32)), (.int (0 : Int32)), (.int (0 : Int32)), (.int (0 : Int32)), (.int (0 : Int32)), (.int (0 : Int32)), (.int (0 : Int32)), (.int (0 : Int32)), (.int (0 : Int32)), (.int (0 : Int32)), (.int (0 : Int32)), (.int (0 : Int32))] (.int (0 : Int32)) := (Arv.new A48 (by decide)).pad (pad_rep [] (.int (0 : Int32)) 16)
    refine own_st (T' := T48) (g' := (mkF m 29 #[.val (.int p1), .val (.int p2), .val (.int p3), .val (.int p4), .val (.int p5), .val (.int (1 : Int32)), .val (.int j1), .val (.int j2), .unset, .unset, .unset, .unset, .unset, .unset, .unset, .unset] [(.ref b48)])) (st48) ?_
    refine own_st (T' := T48) (g' := (mkF m 31 #[.val (.int p1), .val (.int p2), .val (.int p3), .val (.int p4), .val (.int p5), .val (.int (1 : Int32)), .val (.int j1), .val (.int j2), .val (.ref b48), .unset, .unset, .unset, .unset, .unset, .unset, .unset] [])) (fun _ kq => XS.astore X48.here hx rfl (hb hby at_29) rfl rfl (l' := #[.val (.int p1), .val (.int p2), .val (.int p3), .val (.int p4), .val (.int p5), .val (.int (1 : Int32)), .val (.int j1), .val (.int j2), .val (.ref b48), .unset, .unset, .unset, .unset, .unset, .unset, .unset]) rfl kq) ?_
    obtain ⟨T49, h49, X49, e49, E49, A49, D49, -, st49⟩ := newO X48 hx hZ hown (hw _ (List.mem_of_getElem? (i := 1) rfl)) (hw _ (List.mem_of_getElem? (i := 2) rfl)) (hw _ (List.mem_of_getElem? (i := 3) rfl)) e48 (g := (mkF m 31 #[.val (.int p1), .val (.int p2), .val (.int p3), .val (.int p4), .val (.int p5), .val (.int (1 : Int32)), .val (.int j1), .val (.int j2), .val (.ref b48), .unset, .unset, .unset, .unset, .unset, .unset, .unset] [])) rfl (hb hby at_31) (by decide) (by decide)
    obtain ⟨b49, g49⟩ : ∃ z, z = h48.size := ⟨_, rfl⟩
    rw [← g49] at A49 D49 st49
    have ne_b48_b49 : b48 ≠ b49 := Nat.ne_of_lt (Nat.lt_of_lt_of_le V48.lt (Nat.le_of_eq g49.symm))
    have O50 : Old Z n0 h48 := (O0.ext E48)
    have g_b49 : n0 ≤ b49 := Nat.le_trans (own_old O50) (Nat.le_of_eq g49.symm)
    have K51 : Keep h0 h48 [] := ((Keep.refl h0 []).ext E48)
    have sz_b49 : h0.size ≤ b49 := Nat.le_trans K51.1 (Nat.le_of_eq g49.symm)
    have F_message_b49 : Fld Z h49 b49 "com/example/tacit/tacit/wire/MessageReader" "message" "[B" .null := D49 (Or.inr (hw _ (List.mem_of_getElem? (i := 27) rfl))) (ty := (.array .byte)) (by decide)
    have F_position_b49 : Fld Z h49 b49 "com/example/tacit/tacit/wire/MessageReader" "position" "I" (.int (0 : Int32)) := D49 (Or.inl (hw _ (List.mem_of_getElem? (i := 29) rfl))) (ty := .int) (by decide)
    have F_checksOnly_b49 : Fld Z h49 b49 "com/example/tacit/tacit/wire/MessageReader" "checksOnly" "Z" (.int (0 : Int32)) := D49 (Or.inr (hw _ (List.mem_of_getElem? (i := 31) rfl))) (ty := .boolean) (by decide)
    have F_checkedEnd_b49 : Fld Z h49 b49 "com/example/tacit/tacit/wire/MessageReader" "checkedEnd" "I" (.int (0 : Int32)) := D49 (Or.inl (hw _ (List.mem_of_getElem? (i := 38) rfl))) (ty := .int) (by decide)
    refine own_st (T' := T49) (g' := (mkF m 34 #[.val (.int p1), .val (.int p2), .val (.int p3), .val (.int p4), .val (.int p5), .val (.int (1 : Int32)), .val (.int j1), .val (.int j2), .val (.ref b48), .unset, .unset, .unset, .unset, .unset, .unset, .unset] [(.ref b49)])) (st49) ?_
    refine own_st (T' := T49) (g' := (mkF m 35 #[.val (.int p1), .val (.int p2), .val (.int p3), .val (.int p4), .val (.int p5), .val (.int (1 : Int32)), .val (.int j1), .val (.int j2), .val (.ref b48), .unset, .unset, .unset, .unset, .unset, .unset, .unset] [(.ref b49), (.ref b49)])) (fun _ kq => XS.dup X49.here hx rfl (hb hby at_34) rfl rfl kq) ?_
    refine own_st (T' := T49) (g' := (mkF m 37 #[.val (.int p1), .val (.int p2), .val (.int p3), .val (.int p4), .val (.int p5), .val (.int (1 : Int32)), .val (.int j1), .val (.int j2), .val (.ref b48), .unset, .unset, .unset, .unset, .unset, .unset, .unset] [(.ref b48), (.ref b49), (.ref b49)])) (fun _ kq => XS.aload X49.here hx rfl (hb hby at_35) rfl rfl kq) ?_
    have O52 : Old Z n0 h49 := (O50.ext E49)
    have E_b48_53 : Exa Z h49 b48 "[B" := (Ax48.ext E49)
    obtain ⟨_, _, ⟨T54, L54, k54, n54⟩, -, X54, hSc54, hgr54, ⟨Lc54, hQ54, l54, y54, z54⟩, st54⟩ := X49.specialBackS hx (y := (⟨"com/example/tacit/tacit/wire/MessageReader", "<init>", "([B)V"⟩ : MethodName)) rfl hown (mvT hZ (hw _ (List.mem_of_getElem? (i := 4) rfl))) (mvT hZ (hw _ (List.mem_of_getElem? (i := 5) rfl))) (mvT hZ (hw _ (List.mem_of_getElem? (i := 6) rfl))) (by decide) (backOfS (W := 1) (rmini l Z a0 hw [] b49 b48 h49 n0 O52 A49 F_message_b49 F_position_b49 F_checksOnly_b49 F_checkedEnd_b49 g_b49 E_b48_53 ne_b48_b49) hZ (hw _ (List.mem_of_getElem? (i := 6) rfl)) (hw _ (List.mem_of_getElem? (i := 3) rfl)) (by decide) (by decide)) (g := (mkF m 37 #[.val (.int p1), .val (.int p2), .val (.int p3), .val (.int p4), .val (.int p5), .val (.int (1 : Int32)), .val (.int j1), .val (.int j2), .val (.ref b48), .unset, .unset, .unset, .unset, .unset, .unset, .unset] [(.ref b48), (.ref b49), (.ref b49)])) rfl (by rw [hml]; rfl) (Steps.refl _) (a := b49) (argsL := [(.ref b48)]) (rest := [(.ref b49)]) (lenOf pd_B_V_324 rfl) rfl (by show 2 * 0 + _ ≤ _; exact Nat.le_of_eq rfl) (hb hby at_37) (fun _ _ => ⟨rfl, e49, (by decide : 2 + 2 ≤ _), (by decide : 20 + 32 ≤ _)⟩)
    dsimp only [Pt.U, Pt.locs, Pt.cells, Pt.slots] at X54 l54 y54 z54 st54 hQ54 hSc54 hgr54
    subst l54 y54 z54
    obtain ⟨rfl, Nq54, Kc54, Fa54, Fb54, Fc54, Fd54⟩ := hQ54
    have N55 := Fr.app N0 Nq54
    have hS54 := foldS (T := T49) hS0 (by rw [e49]; exact (Nat.le_trans (Nat.le_trans (Nat.le_refl _) E48.1) E49.1)) hSc54 hgr54
    have hZ54 : Z.Warmed39 (s.setVm T54.vm).vm := State.Warmed39.trans (t := (s.setVm s.vm)) hZ hSc54.1
    have hown54 : (s.setVm T54.vm).vm.findClass "com/example/tacit/tacit/wire/MessageReaderCheckedPinLaw" = some m.cls := by rw [show (s.setVm T54.vm).vm = T54.vm from rfl, hSc54.1.alike.findClass]; exact hown
    have X54 := own_reX X54
    refine own_ts (T' := T54) (g' := (mkF m 40 #[.val (.int p1), .val (.int p2), .val (.int p3), .val (.int p4), .val (.int p5), .val (.int (1 : Int32)), .val (.int j1), .val (.int j2), .val (.ref b48), .unset, .unset, .unset, .unset, .unset, .unset, .unset] [(.ref b49)])) st54 ?_
    refine own_st (T' := T54) (g' := (mkF m 42 #[.val (.int p1), .val (.int p2), .val (.int p3), .val (.int p4), .val (.int p5), .val (.int (1 : Int32)), .val (.int j1), .val (.int j2), .val (.ref b48), .val (.ref b49), .unset, .unset, .unset, .unset, .unset, .unset] [])) (fun _ kq => XS.astore X54.here hx rfl (hb hby at_40) rfl rfl (l' := #[.val (.int p1), .val (.int p2), .val (.int p3), .val (.int p4), .val (.int p5), .val (.int (1 : Int32)), .val (.int j1), .val (.int j2), .val (.ref b48), .val (.ref b49), .unset, .unset, .unset, .unset, .unset, .unset]) rfl kq) ?_
    refine own_st (T' := T54) (g' := (mkF m 44 #[.val (.int p1), .val (.int p2), .val (.int p3), .val (.int p4), .val (.int p5), .val (.int (1 : Int32)), .val (.int j1), .val (.int j2), .val (.ref b48), .val (.ref b49), .unset, .unset, .unset, .unset, .unset, .unset] [(.int (1 : Int32))])) (fun _ kq => XS.iload X54.here hx rfl (hb hby at_42) rfl kq) ?_
    refine own_st (T' := T54) (g' := (mkF m 47 #[.val (.int p1), .val (.int p2), .val (.int p3), .val (.int p4), .val (.int p5), .val (.int (1 : Int32)), .val (.int j1), .val (.int j2), .val (.ref b48), .val (.ref b49), .unset, .unset, .unset, .unset, .unset, .unset] [])) (fun _ kq => XS.ifNo X54.here hx rfl (hb hby at_44) rfl ((if0 _ _).trans (feq ((by decide) : ¬ ((1 : Int32) = (0 : Int32)))).1) kq) ?_
    refine own_st (T' := T54) (g' := (mkF m 49 #[.val (.int p1), .val (.int p2), .val (.int p3), .val (.int p4), .val (.int p5), .val (.int (1 : Int32)), .val (.int j1), .val (.int j2), .val (.ref b48), .val (.ref b49), .unset, .unset, .unset, .unset, .unset, .unset] [(.ref b49)])) (fun _ kq => XS.aload X54.here hx rfl (hb hby at_47) rfl rfl kq) ?_
    have A_b48_56 : Arv Z T54.heap b48 k48 .byte (16 : Int32) [(.int (0 : Int32)), (.int (0 : Int32)), (.int (0 : Int32)), (.int (0 : Int32)), (.int (0 : Int32)), (.int (0 : Int32)), (.int (0 : Int32)), (.int (0 : Int32)), (.int (0 : Int32)), (.int (0 : Int32)), (.int (0 : Int32)), (.int (0 : Int32)), (.int (0 : Int32)), (.int (0 : Int32)), (.int (0 : Int32)), (.int (0 : Int32))] (.int (0 : Int32)) := ((V48.ext E49).keep Kc54 (ninS ne_b48_b49 nin0))
    have ltar : b48 < T54.heap.size := A_b48_56.lt
    have O57 : Old Z n0 T54.heap := (O52.keep Kc54 (allS g_b49 all0))
    have E_b48_58 : Exa Z T54.heap b48 "[B" := (E_b48_53.keep Kc54)
    have E_b49_60 : Exa Z T54.heap b49 "com/example/tacit/tacit/wire/MessageReader" := (A49.keep Kc54)
    obtain ⟨cq59, kq59, q59a, q59b, q59c⟩ := isOf hZ54 rfl E_b49_60
    obtain ⟨_, _, ⟨T59, L59, k59, n59⟩, -, X59, hSc59, hgr59, ⟨Lc59, hQ59, l59, y59, z59⟩, st59⟩ := X54.virtualBackS hx (y := (⟨"com/example/tacit/tacit/wire/MessageReader", "checker", "()Lcom/example/tacit/tacit/wire/MessageReader;"⟩ : MethodName)) (z := (⟨"com/example/tacit/tacit/wire/MessageReader", "checker", "()Lcom/example/tacit/tacit/wire/MessageReader;"⟩ : MethodName)) hown54 (mvT hZ54 (hw _ (List.mem_of_getElem? (i := 71) rfl))) (mvT hZ54 (hw _ (List.mem_of_getElem? (i := 72) rfl))) (notFace_of_selects (args := #[]) (mvT hZ54 (hw _ (List.mem_of_getElem? (i := 74) rfl)))) (mvT hZ54 (hw _ (List.mem_of_getElem? (i := 74) rfl))) (mvT hZ54 (hw _ (List.mem_of_getElem? (i := 73) rfl))) (by decide) (backOfS (W := 0) (rmckr l Z a0 hw [] b49 b48 (0 : Int32) T54.heap n0 O57 Fa54 Fb54 E_b48_58) hZ54 (hw _ (List.mem_of_getElem? (i := 75) rfl)) (hw _ (List.mem_of_getElem? (i := 3) rfl)) (by decide) (by decide)) q59a q59c (g := (mkF m 49 #[.val (.int p1), .val (.int p2), .val (.int p3), .val (.int p4), .val (.int p5), .val (.int (1 : Int32)), .val (.int j1), .val (.int j2), .val (.ref b48), .val (.ref b49), .unset, .unset, .unset, .unset, .unset, .unset] [(.ref b49)])) rfl (by rw [hml]; rfl) (Steps.refl _) (argsL := []) (rest := []) (lenOf pd_Lcom_example_tacit_tacit_wire_MessageReader_339 rfl) rfl (by show 2 * 0 + _ ≤ _; exact Nat.le_of_eq rfl) (hb hby at_49) (fun _ _ => ⟨rfl, rfl, (by decide : 4 + 3 ≤ _), (by decide : 52 + 36 ≤ _)⟩)
    dsimp only [Pt.U, Pt.locs, Pt.cells, Pt.slots] at X59 l59 y59 z59 st59 hQ59 hSc59 hgr59
    subst l59 y59 z59
    obtain ⟨r59, rfl, Nq59, Kc59, gr59, szr59, Er59, Fa59, Fb59, Fc59, Fd59⟩ := hQ59
    have N61 := Fr.app N55 Nq59
    have hS59 := foldS (T := T54) hS54 (Nat.le_refl _) hSc59 hgr59
    have hZ59 : Z.Warmed39 (s.setVm T59.vm).vm := State.Warmed39.trans (t := (s.setVm T54.vm)) hZ54 hSc59.1
    have hown59 : (s.setVm T59.vm).vm.findClass "com/example/tacit/tacit/wire/MessageReaderCheckedPinLaw" = some m.cls := by rw [show (s.setVm T59.vm).vm = T59.vm from rfl, hSc59.1.alike.findClass]; exact hown54
    have X59 := own_reX X59
    refine own_ts (T' := T59) (g' := (mkF m 52 #[.val (.int p1), .val (.int p2), .val (.int p3), .val (.int p4), .val (.int p5), .val (.int (1 : Int32)), .val (.int j1), .val (.int j2), .val (.ref b48), .val (.ref b49), .unset, .unset, .unset, .unset, .unset, .unset] [(.ref r59)])) st59 ?_
    have ne_ar_r : b48 ≠ r59 := Nat.ne_of_lt (Nat.lt_of_lt_of_le ltar szr59)
    refine own_st (T' := T59) (g' := (mkF m 54 #[.val (.int p1), .val (.int p2), .val (.int p3), .val (.int p4), .val (.int p5), .val (.int (1 : Int32)), .val (.int j1), .val (.int j2), .val (.ref b48), .val (.ref r59), .unset, .unset, .unset, .unset, .unset, .unset] [])) (fun _ kq => XS.astore X59.here hx rfl (hb hby at_52) rfl rfl (l' := #[.val (.int p1), .val (.int p2), .val (.int p3), .val (.int p4), .val (.int p5), .val (.int (1 : Int32)), .val (.int j1), .val (.int j2), .val (.ref b48), .val (.ref r59), .unset, .unset, .unset, .unset, .unset, .unset]) rfl kq) ?_
    refine own_st (T' := T59) (g' := (mkF m 56 #[.val (.int p1), .val (.int p2), .val (.int p3), .val (.int p4), .val (.int p5), .val (.int (1 : Int32)), .val (.int j1), .val (.int j2), .val (.ref b48), .val (.ref r59), .unset, .unset, .unset, .unset, .unset, .unset] [(.ref r59)])) (fun _ kq => XS.aload X59.here hx rfl (hb hby at_54) rfl rfl kq) ?_
    have O62 : Old Z n0 T59.heap := (O57.keep Kc59 all0)
    obtain ⟨cq63, kq63, q63a, q63b, q63c⟩ := isOf hZ59 rfl Er59
    obtain ⟨_, _, ⟨T63, L63, k63, n63⟩, -, X63, ⟨Lc63, hQ63, l63, y63, z63⟩, st63⟩ := X59.virtualBack hx (y := (⟨"com/example/tacit/tacit/wire/MessageReader", "checked", "()Z"⟩ : MethodName)) (z := (⟨"com/example/tacit/tacit/wire/MessageReader", "checked", "()Z"⟩ : MethodName)) hown59 (mvT hZ59 (hw _ (List.mem_of_getElem? (i := 32) rfl))) (mvT hZ59 (hw _ (List.mem_of_getElem? (i := 33) rfl))) (notFace_of_selects (args := #[]) (mvT hZ59 (hw _ (List.mem_of_getElem? (i := 35) rfl)))) (mvT hZ59 (hw _ (List.mem_of_getElem? (i := 35) rfl))) (mvT hZ59 (hw _ (List.mem_of_getElem? (i := 34) rfl))) (by decide) (backOf (W := 0) (rmckd l Z a0 hw [] r59 (1 : Int32) (0 : Int32) (0 : Int32) T59.heap n0 O62 Fb59 Fc59 Fd59) hZ59 (hw _ (List.mem_of_getElem? (i := 36) rfl)) (hw _ (List.mem_of_getElem? (i := 3) rfl)) (by decide) (by decide)) q63a q63c (g := (mkF m 56 #[.val (.int p1), .val (.int p2), .val (.int p3), .val (.int p4), .val (.int p5), .val (.int (1 : Int32)), .val (.int j1), .val (.int j2), .val (.ref b48), .val (.ref r59), .unset, .unset, .unset, .unset, .unset, .unset] [(.ref r59)])) rfl (by rw [hml]; rfl) (Steps.refl _) (argsL := []) (rest := []) (lenOf pd_Z_171 rfl) rfl (by show 2 * 0 + _ ≤ _; exact Nat.le_of_eq rfl) (hb hby at_56) (fun _ _ => ⟨rfl, rfl, (by decide : 7 + 0 ≤ _), (by decide : 88 + 0 ≤ _)⟩)
    dsimp only [Pt.U, Pt.locs, Pt.cells, Pt.slots] at X63 l63 y63 z63 st63 hQ63
    subst l63 y63 z63
    obtain ⟨rfl, Nq63, hh63⟩ := hQ63
    have N64 := Fr.app N61 Nq63
    refine own_ts (T' := T63) (g' := (mkF m 59 #[.val (.int p1), .val (.int p2), .val (.int p3), .val (.int p4), .val (.int p5), .val (.int (1 : Int32)), .val (.int j1), .val (.int j2), .val (.ref b48), .val (.ref r59), .unset, .unset, .unset, .unset, .unset, .unset] [(.int (own_checked (1 : Int32) (0 : Int32) (0 : Int32)))])) st63 ?_
    refine own_st (T' := T63) (g' := (mkF m 61 #[.val (.int p1), .val (.int p2), .val (.int p3), .val (.int p4), .val (.int p5), .val (.int (1 : Int32)), .val (.int j1), .val (.int j2), .val (.ref b48), .val (.ref r59), .val (.int (own_checked (1 : Int32) (0 : Int32) (0 : Int32))), .unset, .unset, .unset, .unset, .unset] [])) (fun _ kq => XS.istore X63.here hx rfl (hb hby at_59) rfl (l' := #[.val (.int p1), .val (.int p2), .val (.int p3), .val (.int p4), .val (.int p5), .val (.int (1 : Int32)), .val (.int j1), .val (.int j2), .val (.ref b48), .val (.ref r59), .val (.int (own_checked (1 : Int32) (0 : Int32) (0 : Int32))), .unset, .unset, .unset, .unset, .unset]) rfl kq) ?_
    refine own_st (T' := T63) (g' := (mkF m 63 #[.val (.int p1), .val (.int p2), .val (.int p3), .val (.int p4), .val (.int p5), .val (.int (1 : Int32)), .val (.int j1), .val (.int j2), .val (.ref b48), .val (.ref r59), .val (.int (own_checked (1 : Int32) (0 : Int32) (0 : Int32))), .unset, .unset, .unset, .unset, .unset] [(.ref r59)])) (fun _ kq => XS.aload X63.here hx rfl (hb hby at_61) rfl rfl kq) ?_
    refine own_st (T' := T63) (g' := (mkF m 65 #[.val (.int p1), .val (.int p2), .val (.int p3), .val (.int p4), .val (.int p5), .val (.int (1 : Int32)), .val (.int j1), .val (.int j2), .val (.ref b48), .val (.ref r59), .val (.int (own_checked (1 : Int32) (0 : Int32) (0 : Int32))), .unset, .unset, .unset, .unset, .unset] [(.int j1), (.ref r59)])) (fun _ kq => XS.iload X63.here hx rfl (hb hby at_63) rfl kq) ?_
    have A_b48_65 : Arv Z T59.heap b48 k48 .byte (16 : Int32) [(.int (0 : Int32)), (.int (0 : Int32)), (.int (0 : Int32)), (.int (0 : Int32)), (.int (0 : Int32)), (.int (0 : Int32)), (.int (0 : Int32)), (.int (0 : Int32)), (.int (0 : Int32)), (.int (0 : Int32)), (.int (0 : Int32)), (.int (0 : Int32)), (.int (0 : Int32)), (.int (0 : Int32)), (.int (0 : Int32)), (.int (0 : Int32))] (.int (0 : Int32)) := (A_b48_56.keep Kc59 nin0)
    obtain ⟨cq66, kq66, q66a, q66b, q66c⟩ := isOf hZ59 hh63 Er59
    obtain ⟨_, _, ⟨T66, L66, k66, n66⟩, -, X66, ⟨Lc66, hQ66, l66, y66, z66⟩, st66⟩ := X63.virtualBack hx (y := (⟨"com/example/tacit/tacit/wire/MessageReader", "readFixedData", "(I)[B"⟩ : MethodName)) (z := (⟨"com/example/tacit/tacit/wire/MessageReader", "readFixedData", "(I)[B"⟩ : MethodName)) hown59 (mvT hZ59 (hw _ (List.mem_of_getElem? (i := 39) rfl))) (mvT hZ59 (hw _ (List.mem_of_getElem? (i := 40) rfl))) (notFace_of_selects (args := #[]) (mvT hZ59 (hw _ (List.mem_of_getElem? (i := 42) rfl)))) (mvT hZ59 (hw _ (List.mem_of_getElem? (i := 42) rfl))) (mvT hZ59 (hw _ (List.mem_of_getElem? (i := 41) rfl))) (by decide) (backOf (W := 0) (rmrfd l Z a0 hw [] r59 b48 k48 j1 (0 : Int32) j1 T59.heap n0 O62 Er59 Fa59 Fb59 gr59 A_b48_65 (by decide) (by decide) hk1 hk1' (Int32.zero_add j1)) hZ59 (hw _ (List.mem_of_getElem? (i := 43) rfl)) (hw _ (List.mem_of_getElem? (i := 3) rfl)) (by decide) (by decide)) q66a q66c (g := (mkF m 65 #[.val (.int p1), .val (.int p2), .val (.int p3), .val (.int p4), .val (.int p5), .val (.int (1 : Int32)), .val (.int j1), .val (.int j2), .val (.ref b48), .val (.ref r59), .val (.int (own_checked (1 : Int32) (0 : Int32) (0 : Int32))), .unset, .unset, .unset, .unset, .unset] [(.int j1), (.ref r59)])) rfl (by rw [hml]; rfl) (Steps.refl _) (argsL := [(.int j1)]) (rest := []) (lenOf pd_I__B_311 rfl) rfl (by show 2 * 0 + _ ≤ _; exact Nat.le_of_eq rfl) (hb hby at_65) (fun _ _ => ⟨rfl, hh63, (by decide : 7 + 1 ≤ _), (by decide : 88 + 7 ≤ _)⟩)
    dsimp only [Pt.U, Pt.locs, Pt.cells, Pt.slots] at X66 l66 y66 z66 st66 hQ66
    subst l66 y66 z66
    obtain ⟨r66, rfl, Nq66, hm66, Ka66, Wa66⟩ := hQ66
    have N67 := Fr.app N64 Nq66
    refine own_ts (T' := T66) (g' := (mkF m 68 #[.val (.int p1), .val (.int p2), .val (.int p3), .val (.int p4), .val (.int p5), .val (.int (1 : Int32)), .val (.int j1), .val (.int j2), .val (.ref b48), .val (.ref r59), .val (.int (own_checked (1 : Int32) (0 : Int32) (0 : Int32))), .unset, .unset, .unset, .unset, .unset] [(.ref r66)])) st66 ?_
    have Fp66 : Fld Z T66.heap r59 "com/example/tacit/tacit/wire/MessageReader" "position" "I" (.int j1) := Fld.same Wa66 (Fb59.keep Ka66 nin0)
    refine own_st (T' := T66) (g' := (mkF m 69 #[.val (.int p1), .val (.int p2), .val (.int p3), .val (.int p4), .val (.int p5), .val (.int (1 : Int32)), .val (.int j1), .val (.int j2), .val (.ref b48), .val (.ref r59), .val (.int (own_checked (1 : Int32) (0 : Int32) (0 : Int32))), .unset, .unset, .unset, .unset, .unset] [])) (fun _ kq => XS.pop X66.here hx rfl (hb hby at_68) rfl rfl kq) ?_
    refine own_st (T' := T66) (g' := (mkF m 71 #[.val (.int p1), .val (.int p2), .val (.int p3), .val (.int p4), .val (.int p5), .val (.int (1 : Int32)), .val (.int j1), .val (.int j2), .val (.ref b48), .val (.ref r59), .val (.int (own_checked (1 : Int32) (0 : Int32) (0 : Int32))), .unset, .unset, .unset, .unset, .unset] [(.ref r59)])) (fun _ kq => XS.aload X66.here hx rfl (hb hby at_69) rfl rfl kq) ?_
    refine own_st (T' := T66) (g' := (mkF m 72 #[.val (.int p1), .val (.int p2), .val (.int p3), .val (.int p4), .val (.int p5), .val (.int (1 : Int32)), .val (.int j1), .val (.int j2), .val (.ref b48), .val (.ref r59), .val (.int (own_checked (1 : Int32) (0 : Int32) (0 : Int32))), .unset, .unset, .unset, .unset, .unset] [(.int p4), (.ref r59)])) (fun _ kq => XS.iloadN X66.here hx rfl (hb hby at_71) rfl kq) ?_
    have F_r59_checkedEnd_68 : Fld Z T66.heap r59 "com/example/tacit/tacit/wire/MessageReader" "checkedEnd" "I" (.int (0 : Int32)) := ((Fd59.keep Ka66 nin0).other Wa66 (Or.inr (slot_ne (Or.inl (hw _ (List.mem_of_getElem? (i := 38) rfl))) (Or.inl (hw _ (List.mem_of_getElem? (i := 29) rfl))) (by decide) (t := .int) (t' := .int) (by decide) (by decide))))
    have O69 : Old Z n0 T66.heap := ((O62.keep Ka66 all0).wr Wa66 gr59)
    have E_r59_70 : Exa Z T66.heap r59 "com/example/tacit/tacit/wire/MessageReader" := ((Er59.keep Ka66).wr Wa66)
    obtain ⟨cq71, kq71, q71a, q71b, q71c⟩ := isOf hZ59 rfl E_r59_70
    obtain ⟨_, _, ⟨T71, L71, k71, n71⟩, -, X71, ⟨Lc71, hQ71, l71, y71, z71⟩, st71⟩ := X66.virtualBack hx (y := (⟨"com/example/tacit/tacit/wire/MessageReader", "checkedTo", "(I)V"⟩ : MethodName)) (z := (⟨"com/example/tacit/tacit/wire/MessageReader", "checkedTo", "(I)V"⟩ : MethodName)) hown59 (mvT hZ59 (hw _ (List.mem_of_getElem? (i := 62) rfl))) (mvT hZ59 (hw _ (List.mem_of_getElem? (i := 63) rfl))) (notFace_of_selects (args := #[]) (mvT hZ59 (hw _ (List.mem_of_getElem? (i := 65) rfl)))) (mvT hZ59 (hw _ (List.mem_of_getElem? (i := 65) rfl))) (mvT hZ59 (hw _ (List.mem_of_getElem? (i := 64) rfl))) (by decide) (backOf (W := 0) (rmcto l Z a0 hw [] r59 p4 (0 : Int32) T66.heap n0 O69 E_r59_70 F_r59_checkedEnd_68 gr59) hZ59 (hw _ (List.mem_of_getElem? (i := 66) rfl)) (hw _ (List.mem_of_getElem? (i := 3) rfl)) (by decide) (by decide)) q71a q71c (g := (mkF m 72 #[.val (.int p1), .val (.int p2), .val (.int p3), .val (.int p4), .val (.int p5), .val (.int (1 : Int32)), .val (.int j1), .val (.int j2), .val (.ref b48), .val (.ref r59), .val (.int (own_checked (1 : Int32) (0 : Int32) (0 : Int32))), .unset, .unset, .unset, .unset, .unset] [(.int p4), (.ref r59)])) rfl (by rw [hml]; rfl) (Steps.refl _) (argsL := [(.int p4)]) (rest := []) (lenOf pd_I_V_240 rfl) rfl (by show 2 * 0 + _ ≤ _; exact Nat.le_of_eq rfl) (hb hby at_72) (fun _ _ => ⟨rfl, rfl, (by decide : 8 + 0 ≤ _), (by decide : 95 + 0 ≤ _)⟩)
    dsimp only [Pt.U, Pt.locs, Pt.cells, Pt.slots] at X71 l71 y71 z71 st71 hQ71
    subst l71 y71 z71
    obtain ⟨rfl, Nq71, Wa71, -⟩ := hQ71
    have N72 := Fr.app N67 Nq71
    refine own_ts (T' := T71) (g' := (mkF m 75 #[.val (.int p1), .val (.int p2), .val (.int p3), .val (.int p4), .val (.int p5), .val (.int (1 : Int32)), .val (.int j1), .val (.int j2), .val (.ref b48), .val (.ref r59), .val (.int (own_checked (1 : Int32) (0 : Int32) (0 : Int32))), .unset, .unset, .unset, .unset, .unset] [])) st71 ?_
    have Fe71 : Fld Z T71.heap r59 "com/example/tacit/tacit/wire/MessageReader" "checkedEnd" "I" (.int (own_max (0 : Int32) p4)) := Fld.same Wa71 F_r59_checkedEnd_68
    refine own_st (T' := T71) (g' := (mkF m 77 #[.val (.int p1), .val (.int p2), .val (.int p3), .val (.int p4), .val (.int p5), .val (.int (1 : Int32)), .val (.int j1), .val (.int j2), .val (.ref b48), .val (.ref r59), .val (.int (own_checked (1 : Int32) (0 : Int32) (0 : Int32))), .unset, .unset, .unset, .unset, .unset] [(.ref r59)])) (fun _ kq => XS.aload X71.here hx rfl (hb hby at_75) rfl rfl kq) ?_
    have O73 : Old Z n0 T71.heap := (O69.wr Wa71 gr59)
    have F_r59_position_74 : Fld Z T71.heap r59 "com/example/tacit/tacit/wire/MessageReader" "position" "I" (.int j1) := (Fp66.other Wa71 (Or.inr (slot_ne (Or.inl (hw _ (List.mem_of_getElem? (i := 29) rfl))) (Or.inl (hw _ (List.mem_of_getElem? (i := 38) rfl))) (by decide) (t := .int) (t' := .int) (by decide) (by decide))))
    have F_r59_checksOnly_75 : Fld Z T71.heap r59 "com/example/tacit/tacit/wire/MessageReader" "checksOnly" "Z" (.int (1 : Int32)) := (((Fc59.keep Ka66 nin0).other Wa66 (Or.inr (slot_ne (Or.inr (hw _ (List.mem_of_getElem? (i := 31) rfl))) (Or.inl (hw _ (List.mem_of_getElem? (i := 29) rfl))) (by decide) (t := .boolean) (t' := .int) (by decide) (by decide)))).other Wa71 (Or.inr (slot_ne (Or.inr (hw _ (List.mem_of_getElem? (i := 31) rfl))) (Or.inl (hw _ (List.mem_of_getElem? (i := 38) rfl))) (by decide) (t := .boolean) (t' := .int) (by decide) (by decide))))
    have E_r59_77 : Exa Z T71.heap r59 "com/example/tacit/tacit/wire/MessageReader" := (E_r59_70.wr Wa71)
    obtain ⟨cq76, kq76, q76a, q76b, q76c⟩ := isOf hZ59 rfl E_r59_77
    obtain ⟨_, _, ⟨T76, L76, k76, n76⟩, -, X76, ⟨Lc76, hQ76, l76, y76, z76⟩, st76⟩ := X71.virtualBack hx (y := (⟨"com/example/tacit/tacit/wire/MessageReader", "checked", "()Z"⟩ : MethodName)) (z := (⟨"com/example/tacit/tacit/wire/MessageReader", "checked", "()Z"⟩ : MethodName)) hown59 (mvT hZ59 (hw _ (List.mem_of_getElem? (i := 32) rfl))) (mvT hZ59 (hw _ (List.mem_of_getElem? (i := 33) rfl))) (notFace_of_selects (args := #[]) (mvT hZ59 (hw _ (List.mem_of_getElem? (i := 35) rfl)))) (mvT hZ59 (hw _ (List.mem_of_getElem? (i := 35) rfl))) (mvT hZ59 (hw _ (List.mem_of_getElem? (i := 34) rfl))) (by decide) (backOf (W := 0) (rmckd l Z a0 hw [] r59 (1 : Int32) j1 (own_max (0 : Int32) p4) T71.heap n0 O73 F_r59_position_74 F_r59_checksOnly_75 Fe71) hZ59 (hw _ (List.mem_of_getElem? (i := 36) rfl)) (hw _ (List.mem_of_getElem? (i := 3) rfl)) (by decide) (by decide)) q76a q76c (g := (mkF m 77 #[.val (.int p1), .val (.int p2), .val (.int p3), .val (.int p4), .val (.int p5), .val (.int (1 : Int32)), .val (.int j1), .val (.int j2), .val (.ref b48), .val (.ref r59), .val (.int (own_checked (1 : Int32) (0 : Int32) (0 : Int32))), .unset, .unset, .unset, .unset, .unset] [(.ref r59)])) rfl (by rw [hml]; rfl) (Steps.refl _) (argsL := []) (rest := []) (lenOf pd_Z_171 rfl) rfl (by show 2 * 0 + _ ≤ _; exact Nat.le_of_eq rfl) (hb hby at_77) (fun _ _ => ⟨rfl, rfl, (by decide : 8 + 0 ≤ _), (by decide : 95 + 0 ≤ _)⟩)
    dsimp only [Pt.U, Pt.locs, Pt.cells, Pt.slots] at X76 l76 y76 z76 st76 hQ76
    subst l76 y76 z76
    obtain ⟨rfl, Nq76, hh76⟩ := hQ76
    have N78 := Fr.app N72 Nq76
    refine own_ts (T' := T76) (g' := (mkF m 80 #[.val (.int p1), .val (.int p2), .val (.int p3), .val (.int p4), .val (.int p5), .val (.int (1 : Int32)), .val (.int j1), .val (.int j2), .val (.ref b48), .val (.ref r59), .val (.int (own_checked (1 : Int32) (0 : Int32) (0 : Int32))), .unset, .unset, .unset, .unset, .unset] [(.int (own_checked (1 : Int32) j1 (own_max (0 : Int32) p4)))])) st76 ?_
    refine own_st (T' := T76) (g' := (mkF m 82 #[.val (.int p1), .val (.int p2), .val (.int p3), .val (.int p4), .val (.int p5), .val (.int (1 : Int32)), .val (.int j1), .val (.int j2), .val (.ref b48), .val (.ref r59), .val (.int (own_checked (1 : Int32) (0 : Int32) (0 : Int32))), .val (.int (own_checked (1 : Int32) j1 (own_max (0 : Int32) p4))), .unset, .unset, .unset, .unset] [])) (fun _ kq => XS.istore X76.here hx rfl (hb hby at_80) rfl (l' := #[.val (.int p1), .val (.int p2), .val (.int p3), .val (.int p4), .val (.int p5), .val (.int (1 : Int32)), .val (.int j1), .val (.int j2), .val (.ref b48), .val (.ref r59), .val (.int (own_checked (1 : Int32) (0 : Int32) (0 : Int32))), .val (.int (own_checked (1 : Int32) j1 (own_max (0 : Int32) p4))), .unset, .unset, .unset, .unset]) rfl kq) ?_
    refine own_st (T' := T76) (g' := (mkF m 84 #[.val (.int p1), .val (.int p2), .val (.int p3), .val (.int p4), .val (.int p5), .val (.int (1 : Int32)), .val (.int j1), .val (.int j2), .val (.ref b48), .val (.ref r59), .val (.int (own_checked (1 : Int32) (0 : Int32) (0 : Int32))), .val (.int (own_checked (1 : Int32) j1 (own_max (0 : Int32) p4))), .unset, .unset, .unset, .unset] [(.ref r59)])) (fun _ kq => XS.aload X76.here hx rfl (hb hby at_82) rfl rfl kq) ?_
    refine own_st (T' := T76) (g' := (mkF m 86 #[.val (.int p1), .val (.int p2), .val (.int p3), .val (.int p4), .val (.int p5), .val (.int (1 : Int32)), .val (.int j1), .val (.int j2), .val (.ref b48), .val (.ref r59), .val (.int (own_checked (1 : Int32) (0 : Int32) (0 : Int32))), .val (.int (own_checked (1 : Int32) j1 (own_max (0 : Int32) p4))), .unset, .unset, .unset, .unset] [(.int j2), (.ref r59)])) (fun _ kq => XS.iload X76.here hx rfl (hb hby at_84) rfl kq) ?_
    have F_r59_message_79 : Fld Z T71.heap r59 "com/example/tacit/tacit/wire/MessageReader" "message" "[B" (.ref b48) := (((Fa59.keep Ka66 nin0).other Wa66 (Or.inr (slot_ne (Or.inr (hw _ (List.mem_of_getElem? (i := 27) rfl))) (Or.inl (hw _ (List.mem_of_getElem? (i := 29) rfl))) (by decide) (t := (.array .byte)) (t' := .int) (by decide) (by decide)))).other Wa71 (Or.inr (slot_ne (Or.inr (hw _ (List.mem_of_getElem? (i := 27) rfl))) (Or.inl (hw _ (List.mem_of_getElem? (i := 38) rfl))) (by decide) (t := (.array .byte)) (t' := .int) (by decide) (by decide))))
    have A_b48_80 : Arv Z T71.heap b48 k48 .byte (16 : Int32) [(.int (0 : Int32)), (.int (0 : Int32)), (.int (0 : Int32)), (.int (0 : Int32)), (.int (0 : Int32)), (.int (0 : Int32)), (.int (0 : Int32)), (.int (0 : Int32)), (.int (0 : Int32)), (.int (0 : Int32)), (.int (0 : Int32)), (.int (0 : Int32)), (.int (0 : Int32)), (.int (0 : Int32)), (.int (0 : Int32)), (.int (0 : Int32))] (.int (0 : Int32)) := (((A_b48_65.keep Ka66 nin0).other Wa66 ne_ar_r).other Wa71 ne_ar_r)
    obtain ⟨cq81, kq81, q81a, q81b, q81c⟩ := isOf hZ59 hh76 E_r59_77
    obtain ⟨_, _, ⟨T81, L81, k81, n81⟩, -, X81, ⟨Lc81, hQ81, l81, y81, z81⟩, st81⟩ := X76.virtualBack hx (y := (⟨"com/example/tacit/tacit/wire/MessageReader", "readFixedData", "(I)[B"⟩ : MethodName)) (z := (⟨"com/example/tacit/tacit/wire/MessageReader", "readFixedData", "(I)[B"⟩ : MethodName)) hown59 (mvT hZ59 (hw _ (List.mem_of_getElem? (i := 39) rfl))) (mvT hZ59 (hw _ (List.mem_of_getElem? (i := 40) rfl))) (notFace_of_selects (args := #[]) (mvT hZ59 (hw _ (List.mem_of_getElem? (i := 42) rfl)))) (mvT hZ59 (hw _ (List.mem_of_getElem? (i := 42) rfl))) (mvT hZ59 (hw _ (List.mem_of_getElem? (i := 41) rfl))) (by decide) (backOf (W := 0) (rmrfd l Z a0 hw [] r59 b48 k48 j2 j1 (j1 + j2) T71.heap n0 O73 E_r59_77 F_r59_message_79 F_r59_position_74 gr59 A_b48_80 hk1 hk1' hk2 hk2' rfl) hZ59 (hw _ (List.mem_of_getElem? (i := 43) rfl)) (hw _ (List.mem_of_getElem? (i := 3) rfl)) (by decide) (by decide)) q81a q81c (g := (mkF m 86 #[.val (.int p1), .val (.int p2), .val (.int p3), .val (.int p4), .val (.int p5), .val (.int (1 : Int32)), .val (.int j1), .val (.int j2), .val (.ref b48), .val (.ref r59), .val (.int (own_checked (1 : Int32) (0 : Int32) (0 : Int32))), .val (.int (own_checked (1 : Int32) j1 (own_max (0 : Int32) p4))), .unset, .unset, .unset, .unset] [(.int j2), (.ref r59)])) rfl (by rw [hml]; rfl) (Steps.refl _) (argsL := [(.int j2)]) (rest := []) (lenOf pd_I__B_311 rfl) rfl (by show 2 * 0 + _ ≤ _; exact Nat.le_of_eq rfl) (hb hby at_86) (fun _ _ => ⟨rfl, hh76, (by decide : 8 + 1 ≤ _), (by decide : 95 + 7 ≤ _)⟩)
    dsimp only [Pt.U, Pt.locs, Pt.cells, Pt.slots] at X81 l81 y81 z81 st81 hQ81
    subst l81 y81 z81
    obtain ⟨r81, rfl, Nq81, hm81, Ka81, Wa81⟩ := hQ81
    have N82 := Fr.app N78 Nq81
    refine own_ts (T' := T81) (g' := (mkF m 89 #[.val (.int p1), .val (.int p2), .val (.int p3), .val (.int p4), .val (.int p5), .val (.int (1 : Int32)), .val (.int j1), .val (.int j2), .val (.ref b48), .val (.ref r59), .val (.int (own_checked (1 : Int32) (0 : Int32) (0 : Int32))), .val (.int (own_checked (1 : Int32) j1 (own_max (0 : Int32) p4))), .unset, .unset, .unset, .unset] [(.ref r81)])) st81 ?_
    have Fp81 : Fld Z T81.heap r59 "com/example/tacit/tacit/wire/MessageReader" "position" "I" (.int (j1 + j2)) := Fld.same Wa81 (F_r59_position_74.keep Ka81 nin0)
    refine own_st (T' := T81) (g' := (mkF m 90 #[.val (.int p1), .val (.int p2), .val (.int p3), .val (.int p4), .val (.int p5), .val (.int (1 : Int32)), .val (.int j1), .val (.int j2), .val (.ref b48), .val (.ref r59), .val (.int (own_checked (1 : Int32) (0 : Int32) (0 : Int32))), .val (.int (own_checked (1 : Int32) j1 (own_max (0 : Int32) p4))), .unset, .unset, .unset, .unset] [])) (fun _ kq => XS.pop X81.here hx rfl (hb hby at_89) rfl rfl kq) ?_
    refine own_st (T' := T81) (g' := (mkF m 92 #[.val (.int p1), .val (.int p2), .val (.int p3), .val (.int p4), .val (.int p5), .val (.int (1 : Int32)), .val (.int j1), .val (.int j2), .val (.ref b48), .val (.ref r59), .val (.int (own_checked (1 : Int32) (0 : Int32) (0 : Int32))), .val (.int (own_checked (1 : Int32) j1 (own_max (0 : Int32) p4))), .unset, .unset, .unset, .unset] [(.ref r59)])) (fun _ kq => XS.aload X81.here hx rfl (hb hby at_90) rfl rfl kq) ?_
    refine own_st (T' := T81) (g' := (mkF m 94 #[.val (.int p1), .val (.int p2), .val (.int p3), .val (.int p4), .val (.int p5), .val (.int (1 : Int32)), .val (.int j1), .val (.int j2), .val (.ref b48), .val (.ref r59), .val (.int (own_checked (1 : Int32) (0 : Int32) (0 : Int32))), .val (.int (own_checked (1 : Int32) j1 (own_max (0 : Int32) p4))), .unset, .unset, .unset, .unset] [(.int p5), (.ref r59)])) (fun _ kq => XS.iload X81.here hx rfl (hb hby at_92) rfl kq) ?_
    have F_r59_checkedEnd_83 : Fld Z T81.heap r59 "com/example/tacit/tacit/wire/MessageReader" "checkedEnd" "I" (.int (own_max (0 : Int32) p4)) := ((Fe71.keep Ka81 nin0).other Wa81 (Or.inr (slot_ne (Or.inl (hw _ (List.mem_of_getElem? (i := 38) rfl))) (Or.inl (hw _ (List.mem_of_getElem? (i := 29) rfl))) (by decide) (t := .int) (t' := .int) (by decide) (by decide))))
    have O84 : Old Z n0 T81.heap := ((O73.keep Ka81 all0).wr Wa81 gr59)
    have E_r59_85 : Exa Z T81.heap r59 "com/example/tacit/tacit/wire/MessageReader" := ((E_r59_77.keep Ka81).wr Wa81)
    obtain ⟨cq86, kq86, q86a, q86b, q86c⟩ := isOf hZ59 rfl E_r59_85
    obtain ⟨_, _, ⟨T86, L86, k86, n86⟩, -, X86, ⟨Lc86, hQ86, l86, y86, z86⟩, st86⟩ := X81.virtualBack hx (y := (⟨"com/example/tacit/tacit/wire/MessageReader", "checkedTo", "(I)V"⟩ : MethodName)) (z := (⟨"com/example/tacit/tacit/wire/MessageReader", "checkedTo", "(I)V"⟩ : MethodName)) hown59 (mvT hZ59 (hw _ (List.mem_of_getElem? (i := 62) rfl))) (mvT hZ59 (hw _ (List.mem_of_getElem? (i := 63) rfl))) (notFace_of_selects (args := #[]) (mvT hZ59 (hw _ (List.mem_of_getElem? (i := 65) rfl)))) (mvT hZ59 (hw _ (List.mem_of_getElem? (i := 65) rfl))) (mvT hZ59 (hw _ (List.mem_of_getElem? (i := 64) rfl))) (by decide) (backOf (W := 0) (rmcto l Z a0 hw [] r59 p5 (own_max (0 : Int32) p4) T81.heap n0 O84 E_r59_85 F_r59_checkedEnd_83 gr59) hZ59 (hw _ (List.mem_of_getElem? (i := 66) rfl)) (hw _ (List.mem_of_getElem? (i := 3) rfl)) (by decide) (by decide)) q86a q86c (g := (mkF m 94 #[.val (.int p1), .val (.int p2), .val (.int p3), .val (.int p4), .val (.int p5), .val (.int (1 : Int32)), .val (.int j1), .val (.int j2), .val (.ref b48), .val (.ref r59), .val (.int (own_checked (1 : Int32) (0 : Int32) (0 : Int32))), .val (.int (own_checked (1 : Int32) j1 (own_max (0 : Int32) p4))), .unset, .unset, .unset, .unset] [(.int p5), (.ref r59)])) rfl (by rw [hml]; rfl) (Steps.refl _) (argsL := [(.int p5)]) (rest := []) (lenOf pd_I_V_240 rfl) rfl (by show 2 * 0 + _ ≤ _; exact Nat.le_of_eq rfl) (hb hby at_94) (fun _ _ => ⟨rfl, rfl, (by decide : 9 + 0 ≤ _), (by decide : 102 + 0 ≤ _)⟩)
    dsimp only [Pt.U, Pt.locs, Pt.cells, Pt.slots] at X86 l86 y86 z86 st86 hQ86
    subst l86 y86 z86
    obtain ⟨rfl, Nq86, Wa86, -⟩ := hQ86
    have N87 := Fr.app N82 Nq86
    refine own_ts (T' := T86) (g' := (mkF m 97 #[.val (.int p1), .val (.int p2), .val (.int p3), .val (.int p4), .val (.int p5), .val (.int (1 : Int32)), .val (.int j1), .val (.int j2), .val (.ref b48), .val (.ref r59), .val (.int (own_checked (1 : Int32) (0 : Int32) (0 : Int32))), .val (.int (own_checked (1 : Int32) j1 (own_max (0 : Int32) p4))), .unset, .unset, .unset, .unset] [])) st86 ?_
    have Fe86 : Fld Z T86.heap r59 "com/example/tacit/tacit/wire/MessageReader" "checkedEnd" "I" (.int (own_max (own_max (0 : Int32) p4) p5)) := Fld.same Wa86 F_r59_checkedEnd_83
    refine own_st (T' := T86) (g' := (mkF m 99 #[.val (.int p1), .val (.int p2), .val (.int p3), .val (.int p4), .val (.int p5), .val (.int (1 : Int32)), .val (.int j1), .val (.int j2), .val (.ref b48), .val (.ref r59), .val (.int (own_checked (1 : Int32) (0 : Int32) (0 : Int32))), .val (.int (own_checked (1 : Int32) j1 (own_max (0 : Int32) p4))), .unset, .unset, .unset, .unset] [(.ref r59)])) (fun _ kq => XS.aload X86.here hx rfl (hb hby at_97) rfl rfl kq) ?_
    have O88 : Old Z n0 T86.heap := (O84.wr Wa86 gr59)
    have F_r59_position_89 : Fld Z T86.heap r59 "com/example/tacit/tacit/wire/MessageReader" "position" "I" (.int (j1 + j2)) := (Fp81.other Wa86 (Or.inr (slot_ne (Or.inl (hw _ (List.mem_of_getElem? (i := 29) rfl))) (Or.inl (hw _ (List.mem_of_getElem? (i := 38) rfl))) (by decide) (t := .int) (t' := .int) (by decide) (by decide))))
    have F_r59_checksOnly_90 : Fld Z T86.heap r59 "com/example/tacit/tacit/wire/MessageReader" "checksOnly" "Z" (.int (1 : Int32)) := (((F_r59_checksOnly_75.keep Ka81 nin0).other Wa81 (Or.inr (slot_ne (Or.inr (hw _ (List.mem_of_getElem? (i := 31) rfl))) (Or.inl (hw _ (List.mem_of_getElem? (i := 29) rfl))) (by decide) (t := .boolean) (t' := .int) (by decide) (by decide)))).other Wa86 (Or.inr (slot_ne (Or.inr (hw _ (List.mem_of_getElem? (i := 31) rfl))) (Or.inl (hw _ (List.mem_of_getElem? (i := 38) rfl))) (by decide) (t := .boolean) (t' := .int) (by decide) (by decide))))
    have E_r59_92 : Exa Z T86.heap r59 "com/example/tacit/tacit/wire/MessageReader" := (E_r59_85.wr Wa86)
    obtain ⟨cq91, kq91, q91a, q91b, q91c⟩ := isOf hZ59 rfl E_r59_92
    obtain ⟨_, _, ⟨T91, L91, k91, n91⟩, -, X91, ⟨Lc91, hQ91, l91, y91, z91⟩, st91⟩ := X86.virtualBack hx (y := (⟨"com/example/tacit/tacit/wire/MessageReader", "checked", "()Z"⟩ : MethodName)) (z := (⟨"com/example/tacit/tacit/wire/MessageReader", "checked", "()Z"⟩ : MethodName)) hown59 (mvT hZ59 (hw _ (List.mem_of_getElem? (i := 32) rfl))) (mvT hZ59 (hw _ (List.mem_of_getElem? (i := 33) rfl))) (notFace_of_selects (args := #[]) (mvT hZ59 (hw _ (List.mem_of_getElem? (i := 35) rfl)))) (mvT hZ59 (hw _ (List.mem_of_getElem? (i := 35) rfl))) (mvT hZ59 (hw _ (List.mem_of_getElem? (i := 34) rfl))) (by decide) (backOf (W := 0) (rmckd l Z a0 hw [] r59 (1 : Int32) (j1 + j2) (own_max (own_max (0 : Int32) p4) p5) T86.heap n0 O88 F_r59_position_89 F_r59_checksOnly_90 Fe86) hZ59 (hw _ (List.mem_of_getElem? (i := 36) rfl)) (hw _ (List.mem_of_getElem? (i := 3) rfl)) (by decide) (by decide)) q91a q91c (g := (mkF m 99 #[.val (.int p1), .val (.int p2), .val (.int p3), .val (.int p4), .val (.int p5), .val (.int (1 : Int32)), .val (.int j1), .val (.int j2), .val (.ref b48), .val (.ref r59), .val (.int (own_checked (1 : Int32) (0 : Int32) (0 : Int32))), .val (.int (own_checked (1 : Int32) j1 (own_max (0 : Int32) p4))), .unset, .unset, .unset, .unset] [(.ref r59)])) rfl (by rw [hml]; rfl) (Steps.refl _) (argsL := []) (rest := []) (lenOf pd_Z_171 rfl) rfl (by show 2 * 0 + _ ≤ _; exact Nat.le_of_eq rfl) (hb hby at_99) (fun _ _ => ⟨rfl, rfl, (by decide : 9 + 0 ≤ _), (by decide : 102 + 0 ≤ _)⟩)
    dsimp only [Pt.U, Pt.locs, Pt.cells, Pt.slots] at X91 l91 y91 z91 st91 hQ91
    subst l91 y91 z91
    obtain ⟨rfl, Nq91, hh91⟩ := hQ91
    have N93 := Fr.app N87 Nq91
    refine own_ts (T' := T91) (g' := (mkF m 102 #[.val (.int p1), .val (.int p2), .val (.int p3), .val (.int p4), .val (.int p5), .val (.int (1 : Int32)), .val (.int j1), .val (.int j2), .val (.ref b48), .val (.ref r59), .val (.int (own_checked (1 : Int32) (0 : Int32) (0 : Int32))), .val (.int (own_checked (1 : Int32) j1 (own_max (0 : Int32) p4))), .unset, .unset, .unset, .unset] [(.int (own_checked (1 : Int32) (j1 + j2) (own_max (own_max (0 : Int32) p4) p5)))])) st91 ?_
    refine own_st (T' := T91) (g' := (mkF m 104 #[.val (.int p1), .val (.int p2), .val (.int p3), .val (.int p4), .val (.int p5), .val (.int (1 : Int32)), .val (.int j1), .val (.int j2), .val (.ref b48), .val (.ref r59), .val (.int (own_checked (1 : Int32) (0 : Int32) (0 : Int32))), .val (.int (own_checked (1 : Int32) j1 (own_max (0 : Int32) p4))), .val (.int (own_checked (1 : Int32) (j1 + j2) (own_max (own_max (0 : Int32) p4) p5))), .unset, .unset, .unset] [])) (fun _ kq => XS.istore X91.here hx rfl (hb hby at_102) rfl (l' := #[.val (.int p1), .val (.int p2), .val (.int p3), .val (.int p4), .val (.int p5), .val (.int (1 : Int32)), .val (.int j1), .val (.int j2), .val (.ref b48), .val (.ref r59), .val (.int (own_checked (1 : Int32) (0 : Int32) (0 : Int32))), .val (.int (own_checked (1 : Int32) j1 (own_max (0 : Int32) p4))), .val (.int (own_checked (1 : Int32) (j1 + j2) (own_max (own_max (0 : Int32) p4) p5))), .unset, .unset, .unset]) rfl kq) ?_
    refine own_st (T' := T91) (g' := (mkF m 105 #[.val (.int p1), .val (.int p2), .val (.int p3), .val (.int p4), .val (.int p5), .val (.int (1 : Int32)), .val (.int j1), .val (.int j2), .val (.ref b48), .val (.ref r59), .val (.int (own_checked (1 : Int32) (0 : Int32) (0 : Int32))), .val (.int (own_checked (1 : Int32) j1 (own_max (0 : Int32) p4))), .val (.int (own_checked (1 : Int32) (j1 + j2) (own_max (own_max (0 : Int32) p4) p5))), .unset, .unset, .unset] [(.int (0 : Int32))])) (fun _ kq => XS.iconst X91.here hx rfl (hb hby at_104) kq) ?_
    refine own_st (T' := T91) (g' := (mkF m 106 #[.val (.int p1), .val (.int p2), .val (.int p3), .val (.int p4), .val (.int p5), .val (.int (1 : Int32)), .val (.int j1), .val (.int j2), .val (.ref b48), .val (.ref r59), .val (.int (own_checked (1 : Int32) (0 : Int32) (0 : Int32))), .val (.int (own_checked (1 : Int32) j1 (own_max (0 : Int32) p4))), .val (.int (own_checked (1 : Int32) (j1 + j2) (own_max (own_max (0 : Int32) p4) p5))), .unset, .unset, .unset] [(.int p4), (.int (0 : Int32))])) (fun _ kq => XS.iloadN X91.here hx rfl (hb hby at_105) rfl kq) ?_
    obtain ⟨_, _, ⟨T94, L94, k94, n94⟩, -, X94, ⟨Lc94, hQ94, l94, y94, z94⟩, st94⟩ := Jvm.LawKit.callS X91 hx (y := (⟨"java/lang/Math", "max", "(II)I"⟩ : MethodName)) hown59 (mvT hZ59 (hw _ (List.mem_of_getElem? (i := 70) rfl))) (mvT hZ59 (hw _ (List.mem_of_getElem? (i := 68) rfl))) (mvT hZ59 (hw _ (List.mem_of_getElem? (i := 56) rfl))) (mvT hZ59 (hw _ (List.mem_of_getElem? (i := 69) rfl))) (by decide) (backOf (W := 0) (rmmax l Z a0 hw [] (0 : Int32) p4 T86.heap n0 O88) hZ59 (hw _ (List.mem_of_getElem? (i := 69) rfl)) (hw _ (List.mem_of_getElem? (i := 56) rfl)) (by decide) (by decide)) (g := (mkF m 106 #[.val (.int p1), .val (.int p2), .val (.int p3), .val (.int p4), .val (.int p5), .val (.int (1 : Int32)), .val (.int j1), .val (.int j2), .val (.ref b48), .val (.ref r59), .val (.int (own_checked (1 : Int32) (0 : Int32) (0 : Int32))), .val (.int (own_checked (1 : Int32) j1 (own_max (0 : Int32) p4))), .val (.int (own_checked (1 : Int32) (j1 + j2) (own_max (own_max (0 : Int32) p4) p5))), .unset, .unset, .unset] [(.int p4), (.int (0 : Int32))])) rfl (by rw [hml]; rfl) (argsL := [(.int (0 : Int32)), (.int p4)]) (rest := []) (lenOf pd_II_I_300 rfl) rfl (by show 2 * 0 + _ ≤ _; exact Nat.le_of_eq rfl) (hb hby at_106) (fun _ _ => ⟨rfl, hh91, (by decide : 9 + 0 ≤ _), (by decide : 102 + 0 ≤ _)⟩)
    dsimp only [Pt.U, Pt.locs, Pt.cells, Pt.slots] at X94 l94 y94 z94 st94 hQ94
    subst l94 y94 z94
    obtain ⟨rfl, Nq94, hh94⟩ := hQ94
    have N95 := Fr.app N93 Nq94
    refine own_st (T' := T94) (g' := (mkF m 109 #[.val (.int p1), .val (.int p2), .val (.int p3), .val (.int p4), .val (.int p5), .val (.int (1 : Int32)), .val (.int j1), .val (.int j2), .val (.ref b48), .val (.ref r59), .val (.int (own_checked (1 : Int32) (0 : Int32) (0 : Int32))), .val (.int (own_checked (1 : Int32) j1 (own_max (0 : Int32) p4))), .val (.int (own_checked (1 : Int32) (j1 + j2) (own_max (own_max (0 : Int32) p4) p5))), .unset, .unset, .unset] [(.int (own_max (0 : Int32) p4))])) st94 ?_
    refine own_st (T' := T94) (g' := (mkF m 111 #[.val (.int p1), .val (.int p2), .val (.int p3), .val (.int p4), .val (.int p5), .val (.int (1 : Int32)), .val (.int j1), .val (.int j2), .val (.ref b48), .val (.ref r59), .val (.int (own_checked (1 : Int32) (0 : Int32) (0 : Int32))), .val (.int (own_checked (1 : Int32) j1 (own_max (0 : Int32) p4))), .val (.int (own_checked (1 : Int32) (j1 + j2) (own_max (own_max (0 : Int32) p4) p5))), .val (.int (own_max (0 : Int32) p4)), .unset, .unset] [])) (fun _ kq => XS.istore X94.here hx rfl (hb hby at_109) rfl (l' := #[.val (.int p1), .val (.int p2), .val (.int p3), .val (.int p4), .val (.int p5), .val (.int (1 : Int32)), .val (.int j1), .val (.int j2), .val (.ref b48), .val (.ref r59), .val (.int (own_checked (1 : Int32) (0 : Int32) (0 : Int32))), .val (.int (own_checked (1 : Int32) j1 (own_max (0 : Int32) p4))), .val (.int (own_checked (1 : Int32) (j1 + j2) (own_max (own_max (0 : Int32) p4) p5))), .val (.int (own_max (0 : Int32) p4)), .unset, .unset]) rfl kq) ?_
    refine own_st (T' := T94) (g' := (mkF m 113 #[.val (.int p1), .val (.int p2), .val (.int p3), .val (.int p4), .val (.int p5), .val (.int (1 : Int32)), .val (.int j1), .val (.int j2), .val (.ref b48), .val (.ref r59), .val (.int (own_checked (1 : Int32) (0 : Int32) (0 : Int32))), .val (.int (own_checked (1 : Int32) j1 (own_max (0 : Int32) p4))), .val (.int (own_checked (1 : Int32) (j1 + j2) (own_max (own_max (0 : Int32) p4) p5))), .val (.int (own_max (0 : Int32) p4)), .unset, .unset] [(.int (own_max (0 : Int32) p4))])) (fun _ kq => XS.iload X94.here hx rfl (hb hby at_111) rfl kq) ?_
    refine own_st (T' := T94) (g' := (mkF m 115 #[.val (.int p1), .val (.int p2), .val (.int p3), .val (.int p4), .val (.int p5), .val (.int (1 : Int32)), .val (.int j1), .val (.int j2), .val (.ref b48), .val (.ref r59), .val (.int (own_checked (1 : Int32) (0 : Int32) (0 : Int32))), .val (.int (own_checked (1 : Int32) j1 (own_max (0 : Int32) p4))), .val (.int (own_checked (1 : Int32) (j1 + j2) (own_max (own_max (0 : Int32) p4) p5))), .val (.int (own_max (0 : Int32) p4)), .unset, .unset] [(.int p5), (.int (own_max (0 : Int32) p4))])) (fun _ kq => XS.iload X94.here hx rfl (hb hby at_113) rfl kq) ?_
    obtain ⟨_, _, ⟨T96, L96, k96, n96⟩, -, X96, ⟨Lc96, hQ96, l96, y96, z96⟩, st96⟩ := Jvm.LawKit.callS X94 hx (y := (⟨"java/lang/Math", "max", "(II)I"⟩ : MethodName)) hown59 (mvT hZ59 (hw _ (List.mem_of_getElem? (i := 70) rfl))) (mvT hZ59 (hw _ (List.mem_of_getElem? (i := 68) rfl))) (mvT hZ59 (hw _ (List.mem_of_getElem? (i := 56) rfl))) (mvT hZ59 (hw _ (List.mem_of_getElem? (i := 69) rfl))) (by decide) (backOf (W := 0) (rmmax l Z a0 hw [] (own_max (0 : Int32) p4) p5 T86.heap n0 O88) hZ59 (hw _ (List.mem_of_getElem? (i := 69) rfl)) (hw _ (List.mem_of_getElem? (i := 56) rfl)) (by decide) (by decide)) (g := (mkF m 115 #[.val (.int p1), .val (.int p2), .val (.int p3), .val (.int p4), .val (.int p5), .val (.int (1 : Int32)), .val (.int j1), .val (.int j2), .val (.ref b48), .val (.ref r59), .val (.int (own_checked (1 : Int32) (0 : Int32) (0 : Int32))), .val (.int (own_checked (1 : Int32) j1 (own_max (0 : Int32) p4))), .val (.int (own_checked (1 : Int32) (j1 + j2) (own_max (own_max (0 : Int32) p4) p5))), .val (.int (own_max (0 : Int32) p4)), .unset, .unset] [(.int p5), (.int (own_max (0 : Int32) p4))])) rfl (by rw [hml]; rfl) (argsL := [(.int (own_max (0 : Int32) p4)), (.int p5)]) (rest := []) (lenOf pd_II_I_300 rfl) rfl (by show 2 * 0 + _ ≤ _; exact Nat.le_of_eq rfl) (hb hby at_115) (fun _ _ => ⟨rfl, hh94, (by decide : 9 + 0 ≤ _), (by decide : 102 + 0 ≤ _)⟩)
    dsimp only [Pt.U, Pt.locs, Pt.cells, Pt.slots] at X96 l96 y96 z96 st96 hQ96
    subst l96 y96 z96
    obtain ⟨rfl, Nq96, hh96⟩ := hQ96
    have N97 := Fr.app N95 Nq96
    refine own_st (T' := T96) (g' := (mkF m 118 #[.val (.int p1), .val (.int p2), .val (.int p3), .val (.int p4), .val (.int p5), .val (.int (1 : Int32)), .val (.int j1), .val (.int j2), .val (.ref b48), .val (.ref r59), .val (.int (own_checked (1 : Int32) (0 : Int32) (0 : Int32))), .val (.int (own_checked (1 : Int32) j1 (own_max (0 : Int32) p4))), .val (.int (own_checked (1 : Int32) (j1 + j2) (own_max (own_max (0 : Int32) p4) p5))), .val (.int (own_max (0 : Int32) p4)), .unset, .unset] [(.int (own_max (own_max (0 : Int32) p4) p5))])) st96 ?_
    refine own_st (T' := T96) (g' := (mkF m 120 #[.val (.int p1), .val (.int p2), .val (.int p3), .val (.int p4), .val (.int p5), .val (.int (1 : Int32)), .val (.int j1), .val (.int j2), .val (.ref b48), .val (.ref r59), .val (.int (own_checked (1 : Int32) (0 : Int32) (0 : Int32))), .val (.int (own_checked (1 : Int32) j1 (own_max (0 : Int32) p4))), .val (.int (own_checked (1 : Int32) (j1 + j2) (own_max (own_max (0 : Int32) p4) p5))), .val (.int (own_max (0 : Int32) p4)), .val (.int (own_max (own_max (0 : Int32) p4) p5)), .unset] [])) (fun _ kq => XS.istore X96.here hx rfl (hb hby at_118) rfl (l' := #[.val (.int p1), .val (.int p2), .val (.int p3), .val (.int p4), .val (.int p5), .val (.int (1 : Int32)), .val (.int j1), .val (.int j2), .val (.ref b48), .val (.ref r59), .val (.int (own_checked (1 : Int32) (0 : Int32) (0 : Int32))), .val (.int (own_checked (1 : Int32) j1 (own_max (0 : Int32) p4))), .val (.int (own_checked (1 : Int32) (j1 + j2) (own_max (own_max (0 : Int32) p4) p5))), .val (.int (own_max (0 : Int32) p4)), .val (.int (own_max (own_max (0 : Int32) p4) p5)), .unset]) rfl kq) ?_
    refine own_st (T' := T96) (g' := (mkF m 122 #[.val (.int p1), .val (.int p2), .val (.int p3), .val (.int p4), .val (.int p5), .val (.int (1 : Int32)), .val (.int j1), .val (.int j2), .val (.ref b48), .val (.ref r59), .val (.int (own_checked (1 : Int32) (0 : Int32) (0 : Int32))), .val (.int (own_checked (1 : Int32) j1 (own_max (0 : Int32) p4))), .val (.int (own_checked (1 : Int32) (j1 + j2) (own_max (own_max (0 : Int32) p4) p5))), .val (.int (own_max (0 : Int32) p4)), .val (.int (own_max (own_max (0 : Int32) p4) p5)), .unset] [(.int j1)])) (fun _ kq => XS.iload X96.here hx rfl (hb hby at_120) rfl kq) ?_
    refine own_st (T' := T96) (g' := (mkF m 124 #[.val (.int p1), .val (.int p2), .val (.int p3), .val (.int p4), .val (.int p5), .val (.int (1 : Int32)), .val (.int j1), .val (.int j2), .val (.ref b48), .val (.ref r59), .val (.int (own_checked (1 : Int32) (0 : Int32) (0 : Int32))), .val (.int (own_checked (1 : Int32) j1 (own_max (0 : Int32) p4))), .val (.int (own_checked (1 : Int32) (j1 + j2) (own_max (own_max (0 : Int32) p4) p5))), .val (.int (own_max (0 : Int32) p4)), .val (.int (own_max (own_max (0 : Int32) p4) p5)), .unset] [(.int j2), (.int j1)])) (fun _ kq => XS.iload X96.here hx rfl (hb hby at_122) rfl kq) ?_
    refine own_st (T' := T96) (g' := (mkF m 125 #[.val (.int p1), .val (.int p2), .val (.int p3), .val (.int p4), .val (.int p5), .val (.int (1 : Int32)), .val (.int j1), .val (.int j2), .val (.ref b48), .val (.ref r59), .val (.int (own_checked (1 : Int32) (0 : Int32) (0 : Int32))), .val (.int (own_checked (1 : Int32) j1 (own_max (0 : Int32) p4))), .val (.int (own_checked (1 : Int32) (j1 + j2) (own_max (own_max (0 : Int32) p4) p5))), .val (.int (own_max (0 : Int32) p4)), .val (.int (own_max (own_max (0 : Int32) p4) p5)), .unset] [(.int (j1 + j2))])) (fun _ kq => XS.iadd X96.here hx rfl (hb hby at_124) rfl kq) ?_
    refine own_st (T' := T96) (g' := (mkF m 127 #[.val (.int p1), .val (.int p2), .val (.int p3), .val (.int p4), .val (.int p5), .val (.int (1 : Int32)), .val (.int j1), .val (.int j2), .val (.ref b48), .val (.ref r59), .val (.int (own_checked (1 : Int32) (0 : Int32) (0 : Int32))), .val (.int (own_checked (1 : Int32) j1 (own_max (0 : Int32) p4))), .val (.int (own_checked (1 : Int32) (j1 + j2) (own_max (own_max (0 : Int32) p4) p5))), .val (.int (own_max (0 : Int32) p4)), .val (.int (own_max (own_max (0 : Int32) p4) p5)), .val (.int (j1 + j2))] [])) (fun _ kq => XS.istore X96.here hx rfl (hb hby at_125) rfl (l' := #[.val (.int p1), .val (.int p2), .val (.int p3), .val (.int p4), .val (.int p5), .val (.int (1 : Int32)), .val (.int j1), .val (.int j2), .val (.ref b48), .val (.ref r59), .val (.int (own_checked (1 : Int32) (0 : Int32) (0 : Int32))), .val (.int (own_checked (1 : Int32) j1 (own_max (0 : Int32) p4))), .val (.int (own_checked (1 : Int32) (j1 + j2) (own_max (own_max (0 : Int32) p4) p5))), .val (.int (own_max (0 : Int32) p4)), .val (.int (own_max (own_max (0 : Int32) p4) p5)), .val (.int (j1 + j2))]) rfl kq) ?_
    refine own_st (T' := T96) (g' := (mkF m 129 #[.val (.int p1), .val (.int p2), .val (.int p3), .val (.int p4), .val (.int p5), .val (.int (1 : Int32)), .val (.int j1), .val (.int j2), .val (.ref b48), .val (.ref r59), .val (.int (own_checked (1 : Int32) (0 : Int32) (0 : Int32))), .val (.int (own_checked (1 : Int32) j1 (own_max (0 : Int32) p4))), .val (.int (own_checked (1 : Int32) (j1 + j2) (own_max (own_max (0 : Int32) p4) p5))), .val (.int (own_max (0 : Int32) p4)), .val (.int (own_max (own_max (0 : Int32) p4) p5)), .val (.int (j1 + j2))] [(.int (own_checked (1 : Int32) (0 : Int32) (0 : Int32)))])) (fun _ kq => XS.iload X96.here hx rfl (hb hby at_127) rfl kq) ?_
    refine own_st (T' := T96) (g' := (mkF m 131 #[.val (.int p1), .val (.int p2), .val (.int p3), .val (.int p4), .val (.int p5), .val (.int (1 : Int32)), .val (.int j1), .val (.int j2), .val (.ref b48), .val (.ref r59), .val (.int (own_checked (1 : Int32) (0 : Int32) (0 : Int32))), .val (.int (own_checked (1 : Int32) j1 (own_max (0 : Int32) p4))), .val (.int (own_checked (1 : Int32) (j1 + j2) (own_max (own_max (0 : Int32) p4) p5))), .val (.int (own_max (0 : Int32) p4)), .val (.int (own_max (own_max (0 : Int32) p4) p5)), .val (.int (j1 + j2))] [(.int (1 : Int32)), (.int (own_checked (1 : Int32) (0 : Int32) (0 : Int32)))])) (fun _ kq => XS.iload X96.here hx rfl (hb hby at_129) rfl kq) ?_
    refine own_st (T' := T96) (g' := (mkF m 134 #[.val (.int p1), .val (.int p2), .val (.int p3), .val (.int p4), .val (.int p5), .val (.int (1 : Int32)), .val (.int j1), .val (.int j2), .val (.ref b48), .val (.ref r59), .val (.int (own_checked (1 : Int32) (0 : Int32) (0 : Int32))), .val (.int (own_checked (1 : Int32) j1 (own_max (0 : Int32) p4))), .val (.int (own_checked (1 : Int32) (j1 + j2) (own_max (own_max (0 : Int32) p4) p5))), .val (.int (own_max (0 : Int32) p4)), .val (.int (own_max (own_max (0 : Int32) p4) p5)), .val (.int (j1 + j2))] [])) (fun _ kq => XS.icmpNo X96.here hx rfl (hb hby at_131) rfl (teq (own_c1 _ _ : (own_checked (1 : Int32) (0 : Int32) (0 : Int32)) = (1 : Int32))).2 kq) ?_
    refine own_st (T' := T96) (g' := (mkF m 136 #[.val (.int p1), .val (.int p2), .val (.int p3), .val (.int p4), .val (.int p5), .val (.int (1 : Int32)), .val (.int j1), .val (.int j2), .val (.ref b48), .val (.ref r59), .val (.int (own_checked (1 : Int32) (0 : Int32) (0 : Int32))), .val (.int (own_checked (1 : Int32) j1 (own_max (0 : Int32) p4))), .val (.int (own_checked (1 : Int32) (j1 + j2) (own_max (own_max (0 : Int32) p4) p5))), .val (.int (own_max (0 : Int32) p4)), .val (.int (own_max (own_max (0 : Int32) p4) p5)), .val (.int (j1 + j2))] [(.int (own_checked (1 : Int32) j1 (own_max (0 : Int32) p4)))])) (fun _ kq => XS.iload X96.here hx rfl (hb hby at_134) rfl kq) ?_
    refine own_st (T' := T96) (g' := (mkF m 138 #[.val (.int p1), .val (.int p2), .val (.int p3), .val (.int p4), .val (.int p5), .val (.int (1 : Int32)), .val (.int j1), .val (.int j2), .val (.ref b48), .val (.ref r59), .val (.int (own_checked (1 : Int32) (0 : Int32) (0 : Int32))), .val (.int (own_checked (1 : Int32) j1 (own_max (0 : Int32) p4))), .val (.int (own_checked (1 : Int32) (j1 + j2) (own_max (own_max (0 : Int32) p4) p5))), .val (.int (own_max (0 : Int32) p4)), .val (.int (own_max (own_max (0 : Int32) p4) p5)), .val (.int (j1 + j2))] [(.int (1 : Int32)), (.int (own_checked (1 : Int32) j1 (own_max (0 : Int32) p4)))])) (fun _ kq => XS.iload X96.here hx rfl (hb hby at_136) rfl kq) ?_
    refine own_st (T' := T96) (g' := (mkF m 148 #[.val (.int p1), .val (.int p2), .val (.int p3), .val (.int p4), .val (.int p5), .val (.int (1 : Int32)), .val (.int j1), .val (.int j2), .val (.ref b48), .val (.ref r59), .val (.int (own_checked (1 : Int32) (0 : Int32) (0 : Int32))), .val (.int (own_checked (1 : Int32) j1 (own_max (0 : Int32) p4))), .val (.int (own_checked (1 : Int32) (j1 + j2) (own_max (own_max (0 : Int32) p4) p5))), .val (.int (own_max (0 : Int32) p4)), .val (.int (own_max (own_max (0 : Int32) p4) p5)), .val (.int (j1 + j2))] [(.int (own_checked (1 : Int32) j1 (own_max (0 : Int32) p4)))])) (fun _ kq => XS.ifYes X96.here hx rfl (pc0 := 138) (pc' := 148) rfl (hb hby at_138) rfl ((if0 _ _).trans (feq ((by decide) : ¬ ((1 : Int32) = (0 : Int32)))).2) (by decide) (by decide) kq) ?_
    refine own_st (T' := T96) (g' := (mkF m 149 #[.val (.int p1), .val (.int p2), .val (.int p3), .val (.int p4), .val (.int p5), .val (.int (1 : Int32)), .val (.int j1), .val (.int j2), .val (.ref b48), .val (.ref r59), .val (.int (own_checked (1 : Int32) (0 : Int32) (0 : Int32))), .val (.int (own_checked (1 : Int32) j1 (own_max (0 : Int32) p4))), .val (.int (own_checked (1 : Int32) (j1 + j2) (own_max (own_max (0 : Int32) p4) p5))), .val (.int (own_max (0 : Int32) p4)), .val (.int (own_max (own_max (0 : Int32) p4) p5)), .val (.int (j1 + j2))] [(.int (1 : Int32)), (.int (own_checked (1 : Int32) j1 (own_max (0 : Int32) p4)))])) (fun _ kq => XS.iconst X96.here hx rfl (hb hby at_148) kq) ?_
    refine own_st (T' := T96) (g' := (mkF m 153 #[.val (.int p1), .val (.int p2), .val (.int p3), .val (.int p4), .val (.int p5), .val (.int (1 : Int32)), .val (.int j1), .val (.int j2), .val (.ref b48), .val (.ref r59), .val (.int (own_checked (1 : Int32) (0 : Int32) (0 : Int32))), .val (.int (own_checked (1 : Int32) j1 (own_max (0 : Int32) p4))), .val (.int (own_checked (1 : Int32) (j1 + j2) (own_max (own_max (0 : Int32) p4) p5))), .val (.int (own_max (0 : Int32) p4)), .val (.int (own_max (own_max (0 : Int32) p4) p5)), .val (.int (j1 + j2))] [(.int (1 : Int32)), (.int (own_checked (1 : Int32) j1 (own_max (0 : Int32) p4)))])) (fun _ kq => XS.goto X96.here hx rfl (pc0 := 149) (pc' := 153) rfl (hb hby at_149) (by decide) (by decide) kq) ?_
    refine own_st (T' := T96) (g' := (mkF m 156 #[.val (.int p1), .val (.int p2), .val (.int p3), .val (.int p4), .val (.int p5), .val (.int (1 : Int32)), .val (.int j1), .val (.int j2), .val (.ref b48), .val (.ref r59), .val (.int (own_checked (1 : Int32) (0 : Int32) (0 : Int32))), .val (.int (own_checked (1 : Int32) j1 (own_max (0 : Int32) p4))), .val (.int (own_checked (1 : Int32) (j1 + j2) (own_max (own_max (0 : Int32) p4) p5))), .val (.int (own_max (0 : Int32) p4)), .val (.int (own_max (own_max (0 : Int32) p4) p5)), .val (.int (j1 + j2))] [])) (fun _ kq => XS.icmpNo X96.here hx rfl (hb hby at_153) rfl (teq (own_c1 _ _ : (own_checked (1 : Int32) j1 (own_max (0 : Int32) p4)) = (1 : Int32))).2 kq) ?_
    refine own_st (T' := T96) (g' := (mkF m 158 #[.val (.int p1), .val (.int p2), .val (.int p3), .val (.int p4), .val (.int p5), .val (.int (1 : Int32)), .val (.int j1), .val (.int j2), .val (.ref b48), .val (.ref r59), .val (.int (own_checked (1 : Int32) (0 : Int32) (0 : Int32))), .val (.int (own_checked (1 : Int32) j1 (own_max (0 : Int32) p4))), .val (.int (own_checked (1 : Int32) (j1 + j2) (own_max (own_max (0 : Int32) p4) p5))), .val (.int (own_max (0 : Int32) p4)), .val (.int (own_max (own_max (0 : Int32) p4) p5)), .val (.int (j1 + j2))] [(.int (own_checked (1 : Int32) (j1 + j2) (own_max (own_max (0 : Int32) p4) p5)))])) (fun _ kq => XS.iload X96.here hx rfl (hb hby at_156) rfl kq) ?_
    refine own_st (T' := T96) (g' := (mkF m 160 #[.val (.int p1), .val (.int p2), .val (.int p3), .val (.int p4), .val (.int p5), .val (.int (1 : Int32)), .val (.int j1), .val (.int j2), .val (.ref b48), .val (.ref r59), .val (.int (own_checked (1 : Int32) (0 : Int32) (0 : Int32))), .val (.int (own_checked (1 : Int32) j1 (own_max (0 : Int32) p4))), .val (.int (own_checked (1 : Int32) (j1 + j2) (own_max (own_max (0 : Int32) p4) p5))), .val (.int (own_max (0 : Int32) p4)), .val (.int (own_max (own_max (0 : Int32) p4) p5)), .val (.int (j1 + j2))] [(.int (1 : Int32)), (.int (own_checked (1 : Int32) (j1 + j2) (own_max (own_max (0 : Int32) p4) p5)))])) (fun _ kq => XS.iload X96.here hx rfl (hb hby at_158) rfl kq) ?_
    refine own_st (T' := T96) (g' := (mkF m 170 #[.val (.int p1), .val (.int p2), .val (.int p3), .val (.int p4), .val (.int p5), .val (.int (1 : Int32)), .val (.int j1), .val (.int j2), .val (.ref b48), .val (.ref r59), .val (.int (own_checked (1 : Int32) (0 : Int32) (0 : Int32))), .val (.int (own_checked (1 : Int32) j1 (own_max (0 : Int32) p4))), .val (.int (own_checked (1 : Int32) (j1 + j2) (own_max (own_max (0 : Int32) p4) p5))), .val (.int (own_max (0 : Int32) p4)), .val (.int (own_max (own_max (0 : Int32) p4) p5)), .val (.int (j1 + j2))] [(.int (own_checked (1 : Int32) (j1 + j2) (own_max (own_max (0 : Int32) p4) p5)))])) (fun _ kq => XS.ifYes X96.here hx rfl (pc0 := 160) (pc' := 170) rfl (hb hby at_160) rfl ((if0 _ _).trans (feq ((by decide) : ¬ ((1 : Int32) = (0 : Int32)))).2) (by decide) (by decide) kq) ?_
    refine own_st (T' := T96) (g' := (mkF m 171 #[.val (.int p1), .val (.int p2), .val (.int p3), .val (.int p4), .val (.int p5), .val (.int (1 : Int32)), .val (.int j1), .val (.int j2), .val (.ref b48), .val (.ref r59), .val (.int (own_checked (1 : Int32) (0 : Int32) (0 : Int32))), .val (.int (own_checked (1 : Int32) j1 (own_max (0 : Int32) p4))), .val (.int (own_checked (1 : Int32) (j1 + j2) (own_max (own_max (0 : Int32) p4) p5))), .val (.int (own_max (0 : Int32) p4)), .val (.int (own_max (own_max (0 : Int32) p4) p5)), .val (.int (j1 + j2))] [(.int (1 : Int32)), (.int (own_checked (1 : Int32) (j1 + j2) (own_max (own_max (0 : Int32) p4) p5)))])) (fun _ kq => XS.iconst X96.here hx rfl (hb hby at_170) kq) ?_
    refine own_st (T' := T96) (g' := (mkF m 175 #[.val (.int p1), .val (.int p2), .val (.int p3), .val (.int p4), .val (.int p5), .val (.int (1 : Int32)), .val (.int j1), .val (.int j2), .val (.ref b48), .val (.ref r59), .val (.int (own_checked (1 : Int32) (0 : Int32) (0 : Int32))), .val (.int (own_checked (1 : Int32) j1 (own_max (0 : Int32) p4))), .val (.int (own_checked (1 : Int32) (j1 + j2) (own_max (own_max (0 : Int32) p4) p5))), .val (.int (own_max (0 : Int32) p4)), .val (.int (own_max (own_max (0 : Int32) p4) p5)), .val (.int (j1 + j2))] [(.int (1 : Int32)), (.int (own_checked (1 : Int32) (j1 + j2) (own_max (own_max (0 : Int32) p4) p5)))])) (fun _ kq => XS.goto X96.here hx rfl (pc0 := 171) (pc' := 175) rfl (hb hby at_171) (by decide) (by decide) kq) ?_
    refine own_st (T' := T96) (g' := (mkF m 178 #[.val (.int p1), .val (.int p2), .val (.int p3), .val (.int p4), .val (.int p5), .val (.int (1 : Int32)), .val (.int j1), .val (.int j2), .val (.ref b48), .val (.ref r59), .val (.int (own_checked (1 : Int32) (0 : Int32) (0 : Int32))), .val (.int (own_checked (1 : Int32) j1 (own_max (0 : Int32) p4))), .val (.int (own_checked (1 : Int32) (j1 + j2) (own_max (own_max (0 : Int32) p4) p5))), .val (.int (own_max (0 : Int32) p4)), .val (.int (own_max (own_max (0 : Int32) p4) p5)), .val (.int (j1 + j2))] [])) (fun _ kq => XS.icmpNo X96.here hx rfl (hb hby at_175) rfl (teq (own_c1 _ _ : (own_checked (1 : Int32) (j1 + j2) (own_max (own_max (0 : Int32) p4) p5)) = (1 : Int32))).2 kq) ?_
    refine own_st (T' := T96) (g' := (mkF m 179 #[.val (.int p1), .val (.int p2), .val (.int p3), .val (.int p4), .val (.int p5), .val (.int (1 : Int32)), .val (.int j1), .val (.int j2), .val (.ref b48), .val (.ref r59), .val (.int (own_checked (1 : Int32) (0 : Int32) (0 : Int32))), .val (.int (own_checked (1 : Int32) j1 (own_max (0 : Int32) p4))), .val (.int (own_checked (1 : Int32) (j1 + j2) (own_max (own_max (0 : Int32) p4) p5))), .val (.int (own_max (0 : Int32) p4)), .val (.int (own_max (own_max (0 : Int32) p4) p5)), .val (.int (j1 + j2))] [(.int (1 : Int32))])) (fun _ kq => XS.iconst X96.here hx rfl (hb hby at_178) kq) ?_
    refine own_st (T' := T96) (g' := (mkF m 183 #[.val (.int p1), .val (.int p2), .val (.int p3), .val (.int p4), .val (.int p5), .val (.int (1 : Int32)), .val (.int j1), .val (.int j2), .val (.ref b48), .val (.ref r59), .val (.int (own_checked (1 : Int32) (0 : Int32) (0 : Int32))), .val (.int (own_checked (1 : Int32) j1 (own_max (0 : Int32) p4))), .val (.int (own_checked (1 : Int32) (j1 + j2) (own_max (own_max (0 : Int32) p4) p5))), .val (.int (own_max (0 : Int32) p4)), .val (.int (own_max (own_max (0 : Int32) p4) p5)), .val (.int (j1 + j2))] [(.int (1 : Int32))])) (fun _ kq => XS.goto X96.here hx rfl (pc0 := 179) (pc' := 183) rfl (hb hby at_179) (by decide) (by decide) kq) ?_
    refine own_outW X96 hS59 (by rw [hh96]; exact (Nat.le_trans (Nat.le_trans (Nat.le_trans (Nat.le_trans (Nat.le_trans (Nat.le_trans (Nat.le_refl _) Ka66.1) (Nat.le_of_eq Wa66.size.symm)) (Nat.le_of_eq Wa71.size.symm)) Ka81.1) (Nat.le_of_eq Wa81.size.symm)) (Nat.le_of_eq Wa86.size.symm))) Bd.notSynchronized (v := (some (.int (1 : Int32)))) (fun h => by rw [Bd.returns] at h; cases h) (fun fs hr => retN X96 hx (t := .boolean) Bd.returns (by simp) (hb hby at_183) hr) ?_ (by decide) (by decide)
    rw [hh96]
    exact ⟨rfl, N97⟩
set_option maxRecDepth 65536 in
set_option maxHeartbeats 40000000 in
theorem comes_1 {Post : Tables → Env → Array Value → State → Outcome → State → Prop} (hpost : ∀ tb e args s v u, (limb_1_1.after args s (.returned v) u = true ∧ limb_1_2.after args s (.returned v) u = true ∧ True) → ReturnedEndW s (.returned v) u (Jvm.fieldLocs frame_1_writes args s ++ Jvm.arrayLocs frame_1_arrays args s ++ Jvm.staticLocs frame_1_statics s) 24 1216 → Post tb e args s (.returned v) u) :
    ArmFor flags0 classFile x code maxLocals ret World_1 tables_1 room_1 Calls_1 rest_1 Pre_1 Post := by
  intro l hfl _ _ p e ha hc hk s m args below hf hA hF happ hP
  obtain ⟨hcalls, hrest, hpre⟩ := hP
  obtain ⟨-, -, -, hnamed, -, -, -, hat⟩ := (Spec.applies_iff hf).mp happ
  obtain ⟨hg, hn⟩ := and_e (Cond.before_iff.mp (show (Jvm.Cond.and given_1 narrow_1).before args s = true from hpre))
  obtain ⟨hcnt, hg0⟩ := and_e hg
  obtain ⟨ha0, hg1⟩ := and_e hg0
  obtain ⟨ha1, hg2⟩ := and_e hg1
  obtain ⟨ha2, hg3⟩ := and_e hg2
  obtain ⟨ha3, hg4⟩ := and_e hg3
  have ha4 := hg4
  obtain ⟨w0, w1, w2, w3, w4, rfl⟩ : ∃ w0 w1 w2 w3 w4 : Value, args = #[w0, w1, w2, w3, w4] := by
    have hs : args.size = 5 := by simpa [Cond.value, given_1] using hcnt
    obtain ⟨L⟩ := args
    match L, hs with
    | [w0, w1, w2, w3, w4], _ => exact ⟨w0, w1, w2, w3, w4, rfl⟩
  have hw := fun d (hd : d ∈ tables_1) => atoms_spec (ws := Jvm.Cond.code x code maxLocals ret :: tables_1) hat d (List.mem_cons_of_mem _ hd)
  have hfit : Fit s := fun {y c} hc i hi => by
    obtain ⟨ha, rfl⟩ := Array.getElem?_eq_some_iff.mp hc
    have q := List.all_eq_true.mp ((Array.all_eq_true_iff_forall_mem.mp hF) _ (Array.getElem_mem ha)) i (List.mem_range.mpr hi)
    simpa [Array.getElem?_eq_getElem hi] using q
  obtain ⟨i0, ei0⟩ := is_v ha0
  obtain rfl : w0 = (.int i0) := Option.some.inj ei0
  obtain ⟨i1, ei1⟩ := is_v ha1
  obtain rfl : w1 = (.int i1) := Option.some.inj ei1
  obtain ⟨i2, ei2⟩ := is_v ha2
  obtain rfl : w2 = (.int i2) := Option.some.inj ei2
  obtain ⟨i3, ei3⟩ := is_v ha3
  obtain rfl : w3 = (.int i3) := Option.some.inj ei3
  obtain ⟨i4, ei4⟩ := is_v ha4
  obtain rfl : w4 = (.int i4) := Option.some.inj ei4
  obtain ⟨n, o, h1, h2, h3, _, L, rfl, ⟨rfl, N⟩, hq⟩ := rm0 l s _ hw tables_1 i0 i1 i2 i3 i4 s.heap s.heap.size (Old.start s) p e ha hc hk s m _ below hf ((Spec.applies_iff_loose hf).mp happ).1 ⟨rfl, State.Warmed39.refl s, rfl⟩ trivial
  refine ⟨n, _, h1, h2, h3, hpost _ _ _ _ _ _ ⟨Cond.after_iff.mpr rfl, Cond.after_iff.mpr (eq_i res_at (Term.int_eval (1)) rfl), trivial⟩ ⟨hq.1, hq.2.1, hq.2.2.1, (hq.2.2.2.sift fun y hy => Or.inr (N y hy)).mono (by decide) (by decide)⟩⟩
theorem main_1_1 : Claimed_1_1 := comes_1 fun _ _ _ _ _ _ h hF => ⟨h.1, hF⟩
theorem main_1_2 : Claimed_1_2 := comes_1 fun _ _ _ _ _ _ h hF => ⟨h.2.1, hF⟩
end Jvm.Pilot.@@N@@
namespace Jvm.Pilot.@@N@@
open Jvm Jvm.ClassFile Sem Op Lib Jvm.Free Jvm.Stand Jvm.Pilot.@@N@@.Jvm.D
/-! MADE BY PROGRAM (witnessworld.py) out of the Statement's table words and the real class files: 18 classes; the members and pool entries that the words name. The judged class is class 1, her method 1. -/
namespace start1
open Jvm.ClassFile
def u (s : String) : CpInfo := .utf8 (stringToUtf16 s)
/-- a pool by its gaps: so many unusable entries, then the entry; so many at the end -/
def gap : Nat → List CpInfo → List CpInfo
  | 0, r => r
  | n + 1, r => .unusable :: gap n r
def poolList (es : List (Nat × CpInfo)) (last : Nat) : List CpInfo := es.foldr (fun e r => gap e.1 (e.2 :: r)) (gap last [])
def pool (es : List (Nat × CpInfo)) (last : Nat) : Array CpInfo := ⟨poolList es last⟩
def fileOf (pool : Array CpInfo) (this : Nat) (attrs : Array Attribute := #[]) (ms : Array MethodInfo := #[]) (fl : Nat := 33) (sup : Nat := 0) (ifs : Array Nat := #[]) (fds : Array FieldInfo := #[]) : ClassFile where
  minorVersion := 0
  majorVersion := 65
  constantPool := pool
  accessFlags := fl
  thisClass := this
  superClass := sup
  interfaces := ifs
  fields := fds
  methods := ms
  attributes := attrs
def plain (name : String) (sup : Option ClassId) : Class where
  name := name
  kind := .ordinary
  loader := none
  accessFlags := 33
  super := sup
  interfaces := #[]
  cf := none
  fields := #[]
  methods := #[]
  instanceTypes := #[]
  staticTypes := #[]
  resolved := #[]
  callSites := []
  init := .initialized
  statics := none
  mirror := none

def pool0 : Array CpInfo := pool [(5, u "<init>"), (0, u "()V"), (1, .class_ 10), (1, u "java/lang/Object")] 113

def k0c0 : Code := { maxStack := 0, maxLocals := 1, code := object_method_1_code, exceptionTable := #[], attributes := #[] }
def k0m0 : Method := { name := "<init>", desc := "()V", sig := { parameters := [], returnType := none }, accessFlags := 1, code := some k0c0 }
/-- java/lang/Object -/
def k0 : Class := { plain "java/lang/Object" none with
  accessFlags := 33
  interfaces := #[]
  cf := some (fileOf pool0 8 #[] #[{ accessFlags := 1, nameIndex := 5, descriptorIndex := 6, attributes := #[] }] 33 0 #[] #[])
  fields := #[]
  methods := #[k0m0]
  instanceTypes := #[]
  staticTypes := #[]
  resolved := Array.replicate 124 none
  statics := none }

def pool1 : Array CpInfo := pool [(2, .class_ 4), (1, u "java/lang/Object"), (0, u "<init>"), (0, u "()V"), (0, .class_ 8), (0, u "com/example/tacit/tacit/wire/MessageReader"), (0, .methodref 7 10), (0, .nameAndType 5 11), (0, u "([B)V"), (0, .methodref 7 13), (0, .nameAndType 14 15), (0, u "checker"), (0, u "()Lcom/example/tacit/tacit/wire/MessageReader;"), (0, .methodref 7 17), (0, .nameAndType 18 19), (0, u "checked"), (0, u "()Z"), (0, .methodref 7 21), (0, .nameAndType 22 23), (0, u "readFixedData"), (0, u "(I)[B"), (0, .methodref 7 25), (0, .nameAndType 26 27), (0, u "checkedTo"), (0, u "(I)V"), (0, .methodref 29 30), (0, .class_ 31), (0, .nameAndType 32 33), (0, u "java/lang/Math"), (0, u "max"), (0, u "(II)I"), (0, .class_ 35), (0, u "com/example/tacit/tacit/wire/MessageReaderCheckedPinLaw"), (2, u "law"), (0, u "(IIIII)Z")] 8

def k1m0 : Method := { name := "<init>", desc := "()V", sig := { parameters := [], returnType := none }, accessFlags := 1, code := none }
def k1c1 : Code := { maxStack := 3, maxLocals := 16, code := code, exceptionTable := #[], attributes := #[] }
def k1m1 : Method := { name := "law", desc := "(IIIII)Z", sig := { parameters := [.int, .int, .int, .int, .int], returnType := some .boolean }, accessFlags := 9, code := some k1c1 }
/-- com/example/tacit/tacit/wire/MessageReaderCheckedPinLaw -/
def k1 : Class := { plain "com/example/tacit/tacit/wire/MessageReaderCheckedPinLaw" (some 0) with
  accessFlags := 49
  interfaces := #[]
  cf := some (fileOf pool1 34 #[] #[{ accessFlags := 1, nameIndex := 5, descriptorIndex := 6, attributes := #[] }, { accessFlags := 9, nameIndex := 38, descriptorIndex := 39, attributes := #[] }] 49 2 #[] #[])
  fields := #[]
  methods := #[k1m0, k1m1]
  instanceTypes := #[]
  staticTypes := #[]
  resolved := Array.replicate 48 none
  statics := none }

def pool2 : Array CpInfo := pool [(1, .methodref 2 3), (0, .class_ 4), (0, .nameAndType 5 6), (0, u "com/example/tacit/tacit/wire/MessageReader"), (0, u "<init>"), (0, u "([BIZ)V"), (0, .methodref 8 9), (0, .class_ 10), (0, .nameAndType 5 11), (0, u "java/lang/Object"), (0, u "()V"), (0, .string 13), (0, u "message"), (0, .methodref 15 16), (0, .class_ 17), (0, .nameAndType 18 19), (0, u "java/util/Objects"), (0, u "requireNonNull"), (0, u "(Ljava/lang/Object;Ljava/lang/String;)Ljava/lang/Object;"), (0, .class_ 21), (0, u "[B"), (0, .fieldref 2 23), (0, .nameAndType 13 21), (0, .fieldref 2 25), (0, .nameAndType 26 27), (0, u "position"), (0, u "I"), (0, .fieldref 2 29), (0, .nameAndType 30 31), (0, u "checksOnly"), (0, u "Z"), (2, u "([B)V"), (1, .class_ 38), (1, u "com/example/tacit/tacit/wire/MessageReader$ValueReader"), (5, .fieldref 2 45), (0, .nameAndType 46 27), (0, u "checkedEnd"), (71, u "readFixedData"), (0, u "(I)[B"), (2, .methodref 123 124), (0, .class_ 125), (0, .nameAndType 126 127), (0, u "java/util/Arrays"), (0, u "copyOfRange"), (0, u "([BII)[B"), (11, u "()Z"), (31, .methodref 172 173), (0, .class_ 174), (0, .nameAndType 175 176), (0, u "java/lang/Math"), (0, u "max"), (0, u "(II)I"), (49, u "MAX_VARINT_BYTES"), (2, u "REPLACEMENT"), (0, u "C"), (40, u "checker"), (0, u "()Lcom/example/tacit/tacit/wire/MessageReader;"), (0, u "checked"), (0, u "checkedTo"), (0, u "(I)V")] 24

def k2c0 : Code := { maxStack := 4, maxLocals := 2, code := prog_69_method_1_code, exceptionTable := #[], attributes := #[] }
def k2m0 : Method := { name := "<init>", desc := "([B)V", sig := { parameters := [(.array .byte)], returnType := none }, accessFlags := 1, code := some k2c0 }
def k2c1 : Code := { maxStack := 3, maxLocals := 4, code := prog_69_method_2_code, exceptionTable := #[], attributes := #[] }
def k2m1 : Method := { name := "<init>", desc := "([BIZ)V", sig := { parameters := [(.array .byte), .int, .boolean], returnType := none }, accessFlags := 2, code := some k2c1 }
def k2c2 : Code := { maxStack := 4, maxLocals := 3, code := prog_69_method_23_code, exceptionTable := #[], attributes := #[] }
def k2m2 : Method := { name := "readFixedData", desc := "(I)[B", sig := { parameters := [.int], returnType := some (.array .byte) }, accessFlags := 1, code := some k2c2 }
def k2c3 : Code := { maxStack := 5, maxLocals := 1, code := prog_69_method_30_code, exceptionTable := #[], attributes := #[] }
def k2m3 : Method := { name := "checker", desc := "()Lcom/example/tacit/tacit/wire/MessageReader;", sig := { parameters := [], returnType := some (.object "com/example/tacit/tacit/wire/MessageReader") }, accessFlags := 0, code := some k2c3 }
def k2c4 : Code := { maxStack := 2, maxLocals := 1, code := prog_69_method_31_code, exceptionTable := #[], attributes := #[] }
def k2m4 : Method := { name := "checked", desc := "()Z", sig := { parameters := [], returnType := some .boolean }, accessFlags := 0, code := some k2c4 }
def k2c5 : Code := { maxStack := 3, maxLocals := 2, code := prog_69_method_32_code, exceptionTable := #[], attributes := #[] }
def k2m5 : Method := { name := "checkedTo", desc := "(I)V", sig := { parameters := [.int], returnType := none }, accessFlags := 0, code := some k2c5 }
/-- com/example/tacit/tacit/wire/MessageReader -/
def k2 : Class := { plain "com/example/tacit/tacit/wire/MessageReader" (some 0) with
  accessFlags := 49
  interfaces := #[]
  cf := some (fileOf pool2 2 #[.nestMembers #[36]] #[{ accessFlags := 1, nameIndex := 5, descriptorIndex := 34, attributes := #[] }, { accessFlags := 2, nameIndex := 5, descriptorIndex := 6, attributes := #[] }, { accessFlags := 1, nameIndex := 118, descriptorIndex := 119, attributes := #[] }, { accessFlags := 0, nameIndex := 271, descriptorIndex := 272, attributes := #[] }, { accessFlags := 0, nameIndex := 273, descriptorIndex := 139, attributes := #[] }, { accessFlags := 0, nameIndex := 274, descriptorIndex := 275, attributes := #[] }] 49 8 #[] #[{ accessFlags := 24, nameIndex := 226, descriptorIndex := 27, attributes := #[] }, { accessFlags := 26, nameIndex := 229, descriptorIndex := 230, attributes := #[] }, { accessFlags := 18, nameIndex := 13, descriptorIndex := 21, attributes := #[] }, { accessFlags := 18, nameIndex := 30, descriptorIndex := 31, attributes := #[] }, { accessFlags := 2, nameIndex := 26, descriptorIndex := 27, attributes := #[] }, { accessFlags := 2, nameIndex := 46, descriptorIndex := 27, attributes := #[] }])
  fields := #[{ name := "MAX_VARINT_BYTES", type := .int, accessFlags := 24, slot := 0, constantValue := 0 }, { name := "REPLACEMENT", type := .char, accessFlags := 26, slot := 1, constantValue := 0 }, { name := "message", type := (.array .byte), accessFlags := 18, slot := 0, constantValue := 0 }, { name := "checksOnly", type := .boolean, accessFlags := 18, slot := 1, constantValue := 0 }, { name := "position", type := .int, accessFlags := 2, slot := 2, constantValue := 0 }, { name := "checkedEnd", type := .int, accessFlags := 2, slot := 3, constantValue := 0 }]
  methods := #[k2m0, k2m1, k2m2, k2m3, k2m4, k2m5]
  instanceTypes := #[(.array .byte), .boolean, .int, .int]
  staticTypes := #[.int, .char]
  resolved := Array.replicate 300 none
  statics := none }

def pool3 : Array CpInfo := pool [(1, .class_ 2), (0, u "java/io/Serializable"), (0, .class_ 4), (0, u "java/lang/Object")] 2

/-- java/io/Serializable -/
def k3 : Class := { plain "java/io/Serializable" (some 0) with
  accessFlags := 1537
  interfaces := #[]
  cf := some (fileOf pool3 1 #[] #[] 1537 3 #[] #[])
  fields := #[]
  methods := #[]
  instanceTypes := #[]
  staticTypes := #[]
  resolved := Array.replicate 7 none
  statics := none }

def pool4 : Array CpInfo := pool [(1, .class_ 2), (0, u "java/lang/Comparable"), (0, .class_ 4), (0, u "java/lang/Object")] 7

/-- java/lang/Comparable -/
def k4 : Class := { plain "java/lang/Comparable" (some 0) with
  accessFlags := 1537
  interfaces := #[]
  cf := some (fileOf pool4 1 #[] #[] 1537 3 #[] #[])
  fields := #[]
  methods := #[]
  instanceTypes := #[]
  staticTypes := #[]
  resolved := Array.replicate 12 none
  statics := none }

def pool5 : Array CpInfo := pool [(2, .class_ 4), (1, u "java/lang/CharSequence"), (42, .class_ 48), (0, u "java/lang/CharSequence$1CodePointIterator"), (10, .class_ 60), (0, u "java/lang/CharSequence$1CharIterator"), (5, .class_ 67), (0, u "java/lang/Object")] 63

/-- java/lang/CharSequence -/
def k5 : Class := { plain "java/lang/CharSequence" (some 0) with
  accessFlags := 1537
  interfaces := #[]
  cf := some (fileOf pool5 2 #[.nestMembers #[47, 59]] #[] 1537 66 #[] #[])
  fields := #[]
  methods := #[]
  instanceTypes := #[]
  staticTypes := #[]
  resolved := Array.replicate 131 none
  statics := none }

def pool6 : Array CpInfo := pool [(1, .class_ 2), (0, u "java/lang/constant/Constable"), (0, .class_ 4), (0, u "java/lang/Object")] 6

/-- java/lang/constant/Constable -/
def k6 : Class := { plain "java/lang/constant/Constable" (some 0) with
  accessFlags := 1537
  interfaces := #[]
  cf := some (fileOf pool6 1 #[] #[] 1537 3 #[] #[])
  fields := #[]
  methods := #[]
  instanceTypes := #[]
  staticTypes := #[]
  resolved := Array.replicate 11 none
  statics := none }

def pool7 : Array CpInfo := pool [(1, .class_ 2), (0, u "java/lang/constant/ConstantDesc"), (0, .class_ 4), (0, u "java/lang/Object")] 32

/-- java/lang/constant/ConstantDesc -/
def k7 : Class := { plain "java/lang/constant/ConstantDesc" (some 0) with
  accessFlags := 1537
  interfaces := #[]
  cf := some (fileOf pool7 1 #[] #[] 1537 3 #[] #[])
  fields := #[]
  methods := #[]
  instanceTypes := #[]
  staticTypes := #[]
  resolved := Array.replicate 37 none
  statics := none }

def pool8 : Array CpInfo := pool [(2, .class_ 4), (1, u "java/lang/Object"), (0, u "<init>"), (0, u "()V"), (3, .class_ 12), (1, u "java/lang/String"), (0, u "value"), (0, u "[B"), (2, u "coder"), (0, u "B"), (2, u "hash"), (0, u "I"), (2, u "hashIsZero"), (0, u "Z"), (13, u "COMPACT_STRINGS"), (534, .class_ 576), (0, u "java/lang/CharSequence"), (22, u "CASE_INSENSITIVE_ORDER"), (0, u "Ljava/util/Comparator;"), (500, u "serialPersistentFields"), (0, u "[Ljava/io/ObjectStreamField;"), (0, .class_ 1104), (0, u "java/lang/String$CaseInsensitiveComparator"), (1, .class_ 1107), (0, u "java/io/Serializable"), (0, .class_ 1109), (0, u "java/lang/Comparable"), (0, .class_ 1111), (0, u "java/lang/constant/Constable"), (0, .class_ 1113), (0, u "java/lang/constant/ConstantDesc"), (2, u "serialVersionUID"), (0, u "J"), (3, u "REPL"), (0, u "C"), (2, u "LATIN1"), (1, u "UTF16")] 323

def k8m0 : Method := { name := "<init>", desc := "()V", sig := { parameters := [], returnType := none }, accessFlags := 1, code := none }
/-- java/lang/String -/
def k8 : Class := { plain "java/lang/String" (some 0) with
  accessFlags := 49
  interfaces := #[3, 4, 5, 6, 7]
  cf := some (fileOf pool8 10 #[.nestMembers #[1103]] #[{ accessFlags := 1, nameIndex := 5, descriptorIndex := 6, attributes := #[] }] 49 2 #[1106, 1108, 575, 1110, 1112] #[{ accessFlags := 18, nameIndex := 13, descriptorIndex := 14, attributes := #[] }, { accessFlags := 18, nameIndex := 17, descriptorIndex := 18, attributes := #[] }, { accessFlags := 2, nameIndex := 21, descriptorIndex := 22, attributes := #[] }, { accessFlags := 2, nameIndex := 25, descriptorIndex := 26, attributes := #[] }, { accessFlags := 26, nameIndex := 1116, descriptorIndex := 1117, attributes := #[] }, { accessFlags := 24, nameIndex := 40, descriptorIndex := 26, attributes := #[] }, { accessFlags := 26, nameIndex := 1101, descriptorIndex := 1102, attributes := #[] }, { accessFlags := 26, nameIndex := 1121, descriptorIndex := 1122, attributes := #[] }, { accessFlags := 25, nameIndex := 599, descriptorIndex := 600, attributes := #[] }, { accessFlags := 24, nameIndex := 1125, descriptorIndex := 18, attributes := #[] }, { accessFlags := 24, nameIndex := 1127, descriptorIndex := 18, attributes := #[] }])
  fields := #[{ name := "value", type := (.array .byte), accessFlags := 18, slot := 0, constantValue := 0 }, { name := "coder", type := .byte, accessFlags := 18, slot := 1, constantValue := 0 }, { name := "hash", type := .int, accessFlags := 2, slot := 2, constantValue := 0 }, { name := "hashIsZero", type := .boolean, accessFlags := 2, slot := 3, constantValue := 0 }, { name := "serialVersionUID", type := .long, accessFlags := 26, slot := 0, constantValue := 0 }, { name := "COMPACT_STRINGS", type := .boolean, accessFlags := 24, slot := 1, constantValue := 0 }, { name := "serialPersistentFields", type := (.array (.object "java/io/ObjectStreamField")), accessFlags := 26, slot := 2, constantValue := 0 }, { name := "REPL", type := .char, accessFlags := 26, slot := 3, constantValue := 0 }, { name := "CASE_INSENSITIVE_ORDER", type := (.object "java/util/Comparator"), accessFlags := 25, slot := 4, constantValue := 0 }, { name := "LATIN1", type := .byte, accessFlags := 24, slot := 5, constantValue := 0 }, { name := "UTF16", type := .byte, accessFlags := 24, slot := 6, constantValue := 0 }]
  methods := #[k8m0]
  instanceTypes := #[(.array .byte), .byte, .int, .boolean]
  staticTypes := #[.long, .boolean, (.array (.object "java/io/ObjectStreamField")), .char, (.object "java/util/Comparator"), .byte, .byte]
  resolved := Array.replicate 1451 none
  statics := none }

def pool9 : Array CpInfo := pool [(2, .class_ 4), (1, u "java/lang/Object"), (0, u "<init>"), (0, u "()V"), (35, .class_ 44), (1, u "java/util/Objects"), (0, u "requireNonNull"), (48, u "(Ljava/lang/Object;Ljava/lang/String;)Ljava/lang/Object;")] 89

def k9m0 : Method := { name := "<init>", desc := "()V", sig := { parameters := [], returnType := none }, accessFlags := 2, code := none }
def k9c1 : Code := { maxStack := 3, maxLocals := 2, code := jdk_31_method_11_code, exceptionTable := #[], attributes := #[] }
def k9m1 : Method := { name := "requireNonNull", desc := "(Ljava/lang/Object;Ljava/lang/String;)Ljava/lang/Object;", sig := { parameters := [(.object "java/lang/Object"), (.object "java/lang/String")], returnType := some (.object "java/lang/Object") }, accessFlags := 9, code := some k9c1 }
/-- java/util/Objects -/
def k9 : Class := { plain "java/util/Objects" (some 0) with
  accessFlags := 49
  interfaces := #[]
  cf := some (fileOf pool9 42 #[] #[{ accessFlags := 2, nameIndex := 5, descriptorIndex := 6, attributes := #[] }, { accessFlags := 9, nameIndex := 45, descriptorIndex := 94, attributes := #[] }] 49 2 #[] #[])
  fields := #[]
  methods := #[k9m0, k9m1]
  instanceTypes := #[]
  staticTypes := #[]
  resolved := Array.replicate 184 none
  statics := none }

def pool10 : Array CpInfo := pool [(2, .class_ 4), (1, u "java/lang/Object"), (0, u "<init>"), (0, u "()V"), (7, .class_ 16), (1, u "java/util/Arrays"), (57, .class_ 76), (1, u "java/util/Arrays$NaturalOrder"), (36, .class_ 115), (1, u "java/util/Arrays$LegacyMergeSort"), (1, u "Z"), (21, u "copyOfRange"), (10, .methodref 151 152), (0, .class_ 153), (0, .nameAndType 154 155), (0, u "java/lang/System"), (0, u "arraycopy"), (0, u "(Ljava/lang/Object;ILjava/lang/Object;II)V"), (148, .methodref 305 306), (0, .class_ 307), (0, .nameAndType 308 309), (0, u "java/lang/Math"), (0, u "min"), (0, u "(II)I"), (29, .methodref 14 340), (0, .nameAndType 341 342), (0, u "copyOfRangeByte"), (0, u "([BII)[B"), (0, .methodref 14 344), (0, .nameAndType 345 346), (0, u "checkLength"), (0, u "(II)V"), (28, .class_ 376), (0, u "java/util/Arrays$ArrayList"), (68, u "$assertionsDisabled"), (269, u "MIN_ARRAY_SORT_GRAN"), (0, u "I"), (2, u "INSERTIONSORT_THRESHOLD"), (255, .class_ 976), (0, u "java/util/Arrays$ArrayItr")] 52

def k10m0 : Method := { name := "<init>", desc := "()V", sig := { parameters := [], returnType := none }, accessFlags := 2, code := none }
def k10c1 : Code := { maxStack := 4, maxLocals := 2, code := jdk_65_method_131_code, exceptionTable := #[], attributes := #[] }
def k10m1 : Method := { name := "checkLength", desc := "(II)V", sig := { parameters := [.int, .int], returnType := none }, accessFlags := 10, code := some k10c1 }
def k10c2 : Code := { maxStack := 3, maxLocals := 3, code := jdk_65_method_132_code, exceptionTable := #[], attributes := #[] }
def k10m2 : Method := { name := "copyOfRange", desc := "([BII)[B", sig := { parameters := [(.array .byte), .int, .int], returnType := some (.array .byte) }, accessFlags := 9, code := some k10c2 }
def k10c3 : Code := { maxStack := 6, maxLocals := 5, code := jdk_65_method_133_code, exceptionTable := #[], attributes := #[] }
def k10m3 : Method := { name := "copyOfRangeByte", desc := "([BII)[B", sig := { parameters := [(.array .byte), .int, .int], returnType := some (.array .byte) }, accessFlags := 10, code := some k10c3 }
/-- java/util/Arrays -/
def k10 : Class := { plain "java/util/Arrays" (some 0) with
  accessFlags := 49
  interfaces := #[]
  cf := some (fileOf pool10 14 #[.nestMembers #[975, 375, 113, 74]] #[{ accessFlags := 2, nameIndex := 5, descriptorIndex := 6, attributes := #[] }, { accessFlags := 10, nameIndex := 345, descriptorIndex := 346, attributes := #[] }, { accessFlags := 9, nameIndex := 139, descriptorIndex := 342, attributes := #[] }, { accessFlags := 10, nameIndex := 341, descriptorIndex := 342, attributes := #[] }] 49 2 #[] #[{ accessFlags := 26, nameIndex := 715, descriptorIndex := 716, attributes := #[] }, { accessFlags := 26, nameIndex := 719, descriptorIndex := 716, attributes := #[] }, { accessFlags := 4120, nameIndex := 445, descriptorIndex := 117, attributes := #[] }])
  fields := #[{ name := "MIN_ARRAY_SORT_GRAN", type := .int, accessFlags := 26, slot := 0, constantValue := 0 }, { name := "INSERTIONSORT_THRESHOLD", type := .int, accessFlags := 26, slot := 1, constantValue := 0 }, { name := "$assertionsDisabled", type := .boolean, accessFlags := 4120, slot := 2, constantValue := 0 }]
  methods := #[k10m0, k10m1, k10m2, k10m3]
  instanceTypes := #[]
  staticTypes := #[.int, .int, .boolean]
  resolved := Array.replicate 1029 none
  statics := none }

def pool11 : Array CpInfo := pool [(1, .class_ 2), (0, u "java/lang/Math"), (1, .class_ 6), (1, u "java/lang/Object"), (0, u "<init>"), (0, u "()V"), (89, .class_ 100), (1, u "java/lang/Math$RandomNumberGeneratorHolder"), (71, u "negativeZeroFloatBits"), (0, u "J"), (2, u "negativeZeroDoubleBits"), (21, u "max"), (2, u "min"), (43, u "$assertionsDisabled"), (0, u "Z"), (88, u "(II)I"), (2, u "twoToTheDoubleScaleDown"), (0, u "D"), (4, u "twoToTheDoubleScaleUp"), (9, u "E"), (3, u "PI"), (2, u "TAU"), (2, u "DEGREES_TO_RADIANS"), (0, u "RADIANS_TO_DEGREES")] 94

def k11m0 : Method := { name := "<init>", desc := "()V", sig := { parameters := [], returnType := none }, accessFlags := 2, code := none }
def k11c1 : Code := { maxStack := 2, maxLocals := 2, code := jdk_29_method_65_code, exceptionTable := #[], attributes := #[] }
def k11m1 : Method := { name := "max", desc := "(II)I", sig := { parameters := [.int, .int], returnType := some .int }, accessFlags := 9, code := some k11c1 }
def k11c2 : Code := { maxStack := 2, maxLocals := 2, code := jdk_29_method_69_code, exceptionTable := #[], attributes := #[] }
def k11m2 : Method := { name := "min", desc := "(II)I", sig := { parameters := [.int, .int], returnType := some .int }, accessFlags := 9, code := some k11c2 }
/-- java/lang/Math -/
def k11 : Class := { plain "java/lang/Math" (some 0) with
  accessFlags := 49
  interfaces := #[]
  cf := some (fileOf pool11 1 #[.nestMembers #[98]] #[{ accessFlags := 2, nameIndex := 7, descriptorIndex := 8, attributes := #[] }, { accessFlags := 9, nameIndex := 198, descriptorIndex := 335, attributes := #[] }, { accessFlags := 9, nameIndex := 201, descriptorIndex := 335, attributes := #[] }] 49 4 #[] #[{ accessFlags := 25, nameIndex := 354, descriptorIndex := 339, attributes := #[] }, { accessFlags := 25, nameIndex := 358, descriptorIndex := 339, attributes := #[] }, { accessFlags := 25, nameIndex := 361, descriptorIndex := 339, attributes := #[] }, { accessFlags := 26, nameIndex := 364, descriptorIndex := 339, attributes := #[] }, { accessFlags := 26, nameIndex := 365, descriptorIndex := 339, attributes := #[] }, { accessFlags := 26, nameIndex := 172, descriptorIndex := 173, attributes := #[] }, { accessFlags := 26, nameIndex := 176, descriptorIndex := 173, attributes := #[] }, { accessFlags := 8, nameIndex := 344, descriptorIndex := 339, attributes := #[] }, { accessFlags := 8, nameIndex := 338, descriptorIndex := 339, attributes := #[] }, { accessFlags := 4120, nameIndex := 245, descriptorIndex := 246, attributes := #[] }])
  fields := #[{ name := "E", type := .double, accessFlags := 25, slot := 0, constantValue := 0 }, { name := "PI", type := .double, accessFlags := 25, slot := 1, constantValue := 0 }, { name := "TAU", type := .double, accessFlags := 25, slot := 2, constantValue := 0 }, { name := "DEGREES_TO_RADIANS", type := .double, accessFlags := 26, slot := 3, constantValue := 0 }, { name := "RADIANS_TO_DEGREES", type := .double, accessFlags := 26, slot := 4, constantValue := 0 }, { name := "negativeZeroFloatBits", type := .long, accessFlags := 26, slot := 5, constantValue := 0 }, { name := "negativeZeroDoubleBits", type := .long, accessFlags := 26, slot := 6, constantValue := 0 }, { name := "twoToTheDoubleScaleUp", type := .double, accessFlags := 8, slot := 7, constantValue := 0 }, { name := "twoToTheDoubleScaleDown", type := .double, accessFlags := 8, slot := 8, constantValue := 0 }, { name := "$assertionsDisabled", type := .boolean, accessFlags := 4120, slot := 9, constantValue := 0 }]
  methods := #[k11m0, k11m1, k11m2]
  instanceTypes := #[]
  staticTypes := #[.double, .double, .double, .double, .double, .long, .long, .double, .double, .boolean]
  resolved := Array.replicate 460 none
  statics := none }

def pool12 : Array CpInfo := pool [(2, .class_ 4), (1, u "java/lang/Object"), (0, u "<init>"), (0, u "()V"), (1, .class_ 10), (1, u "java/lang/System"), (0, u "allowSecurityManager"), (0, u "I"), (16, u "cons"), (0, u "Ljava/io/Console;"), (77, .class_ 110), (1, u "java/lang/System$CallersHolder"), (43, u "initialErrStream"), (0, u "Ljava/io/PrintStream;"), (19, u "security"), (0, u "Ljava/lang/SecurityManager;"), (31, .class_ 209), (0, u "java/lang/System$1"), (7, u "props"), (0, u "Ljava/util/Properties;"), (2, u "lineSeparator"), (0, u "Ljava/lang/String;"), (96, .class_ 321), (1, u "java/lang/System$LoggerFinder"), (5, .class_ 328), (0, u "java/lang/System$Logger"), (67, u "err"), (2, u "out"), (91, u "notSupportedJnuEncoding"), (15, u "in"), (17, u "initialIn"), (0, u "Ljava/io/InputStream;"), (35, u "bootLayer"), (0, u "Ljava/lang/ModuleLayer;"), (99, .class_ 664), (0, u "java/lang/System$2"), (9, u "NEVER"), (2, u "MAYBE"), (49, u "arraycopy"), (0, u "(Ljava/lang/Object;ILjava/lang/Object;II)V"), (72, .class_ 802), (0, u "java/lang/System$Logger$Level")] 31

def k12m0 : Method := { name := "<init>", desc := "()V", sig := { parameters := [], returnType := none }, accessFlags := 2, code := none }
def k12m1 : Method := { name := "arraycopy", desc := "(Ljava/lang/Object;ILjava/lang/Object;II)V", sig := { parameters := [(.object "java/lang/Object"), .int, (.object "java/lang/Object"), .int, .int], returnType := none }, accessFlags := 265, code := none }
/-- java/lang/System -/
def k12 : Class := { plain "java/lang/System" (some 0) with
  accessFlags := 49
  interfaces := #[]
  cf := some (fileOf pool12 8 #[.nestMembers #[319, 327, 801, 108, 663, 208]] #[{ accessFlags := 2, nameIndex := 5, descriptorIndex := 6, attributes := #[] }, { accessFlags := 265, nameIndex := 727, descriptorIndex := 728, attributes := #[] }] 49 2 #[] #[{ accessFlags := 25, nameIndex := 507, descriptorIndex := 526, attributes := #[] }, { accessFlags := 25, nameIndex := 399, descriptorIndex := 155, attributes := #[] }, { accessFlags := 25, nameIndex := 396, descriptorIndex := 155, attributes := #[] }, { accessFlags := 10, nameIndex := 525, descriptorIndex := 526, attributes := #[] }, { accessFlags := 26, nameIndex := 674, descriptorIndex := 12, attributes := #[] }, { accessFlags := 26, nameIndex := 677, descriptorIndex := 12, attributes := #[] }, { accessFlags := 10, nameIndex := 11, descriptorIndex := 12, attributes := #[] }, { accessFlags := 74, nameIndex := 175, descriptorIndex := 176, attributes := #[] }, { accessFlags := 10, nameIndex := 491, descriptorIndex := 222, attributes := #[] }, { accessFlags := 74, nameIndex := 29, descriptorIndex := 30, attributes := #[] }, { accessFlags := 74, nameIndex := 154, descriptorIndex := 155, attributes := #[] }, { accessFlags := 10, nameIndex := 217, descriptorIndex := 218, attributes := #[] }, { accessFlags := 10, nameIndex := 221, descriptorIndex := 222, attributes := #[] }, { accessFlags := 8, nameIndex := 562, descriptorIndex := 563, attributes := #[] }])
  fields := #[{ name := "in", type := (.object "java/io/InputStream"), accessFlags := 25, slot := 0, constantValue := 0 }, { name := "out", type := (.object "java/io/PrintStream"), accessFlags := 25, slot := 1, constantValue := 0 }, { name := "err", type := (.object "java/io/PrintStream"), accessFlags := 25, slot := 2, constantValue := 0 }, { name := "initialIn", type := (.object "java/io/InputStream"), accessFlags := 10, slot := 3, constantValue := 0 }, { name := "NEVER", type := .int, accessFlags := 26, slot := 4, constantValue := 0 }, { name := "MAYBE", type := .int, accessFlags := 26, slot := 5, constantValue := 0 }, { name := "allowSecurityManager", type := .int, accessFlags := 10, slot := 6, constantValue := 0 }, { name := "security", type := (.object "java/lang/SecurityManager"), accessFlags := 74, slot := 7, constantValue := 0 }, { name := "notSupportedJnuEncoding", type := (.object "java/lang/String"), accessFlags := 10, slot := 8, constantValue := 0 }, { name := "cons", type := (.object "java/io/Console"), accessFlags := 74, slot := 9, constantValue := 0 }, { name := "initialErrStream", type := (.object "java/io/PrintStream"), accessFlags := 74, slot := 10, constantValue := 0 }, { name := "props", type := (.object "java/util/Properties"), accessFlags := 10, slot := 11, constantValue := 0 }, { name := "lineSeparator", type := (.object "java/lang/String"), accessFlags := 10, slot := 12, constantValue := 0 }, { name := "bootLayer", type := (.object "java/lang/ModuleLayer"), accessFlags := 8, slot := 13, constantValue := 0 }]
  methods := #[k12m0, k12m1]
  instanceTypes := #[]
  staticTypes := #[(.object "java/io/InputStream"), (.object "java/io/PrintStream"), (.object "java/io/PrintStream"), (.object "java/io/InputStream"), .int, .int, .int, (.object "java/lang/SecurityManager"), (.object "java/lang/String"), (.object "java/io/Console"), (.object "java/io/PrintStream"), (.object "java/util/Properties"), (.object "java/lang/String"), (.object "java/lang/ModuleLayer")]
  resolved := Array.replicate 834 none
  statics := none }

def pool13 : Array CpInfo := pool [(1, u "java/lang/Cloneable"), (0, .class_ 1), (0, u "java/lang/Object"), (0, .class_ 3)] 3

/-- java/lang/Cloneable -/
def k13 : Class := { plain "java/lang/Cloneable" (some 0) with
  accessFlags := 1537
  interfaces := #[]
  cf := some (fileOf pool13 2 #[] #[] 1537 4 #[] #[])
  fields := #[]
  methods := #[]
  instanceTypes := #[]
  staticTypes := #[]
  resolved := Array.replicate 8 none
  statics := none }

/-- the primitive byte -/
def k14 : Class := { plain "byte" none with kind := .primitive 'B', accessFlags := 0x411 }
/-- [B -/
def k15 : Class := { plain "[B" (some 0) with kind := .array 14 .byte, interfaces := #[13, 3], accessFlags := 1041 }

/-- the primitive int -/
def k16 : Class := { plain "int" none with kind := .primitive 'I', accessFlags := 0x411 }
/-- [I -/
def k17 : Class := { plain "[I" (some 0) with kind := .array 16 .int, interfaces := #[13, 3], accessFlags := 1041 }

def heap : Heap := #[]
def classes : Array Class := #[k0, k1, k2, k3, k4, k5, k6, k7, k8, k9, k10, k11, k12, k13, k14, k15, k16, k17]
def interned : List (Array UInt16 × Addr) := []
def slotsUsed : Nat := 0
def theMethod : MethodId := ⟨1, 1⟩
def args0 : Array Value := #[.int 1, .int 2, .int 3, .int 4, .int 5]
def aboutOver (below : List Frame) : State where
  vm := { classes := classes, interned := interned.toArray }
  heap := heap
  slotsUsed := slotsUsed
  threads := #[{ frames := .invoking theMethod args0 :: below }]
def below0 : List Frame := [.native { method := ⟨0, 0⟩, args := #[] }]
def about1 : State := aboutOver below0
def p0 : Program := .bare "" "" ""
def e0 : Env := launch0.env 0 0 0
theorem w_frames : about1.frames = Frame.invoking theMethod args0 :: below0 := rfl
set_option maxRecDepth 65536 in
theorem w_args : argsFit about1.vm theMethod args0 = true := by decide +kernel
set_option maxRecDepth 65536 in
theorem w_heap : heapFits about1 = true := by decide +kernel
set_option maxRecDepth 65536 in
theorem w_runnable : about1.curStatus? = some .runnable := by decide +kernel
set_option maxRecDepth 65536 in
theorem w_alone : about1.alone = true := by decide +kernel
set_option maxRecDepth 65536 in
theorem w_named : about1.methodNamed? x = some theMethod := by decide +kernel
set_option maxRecDepth 65536 in
theorem w_hears : about1.hears theMethod below0 = true := by decide +kernel
set_option maxRecDepth 65536 in
theorem w_ripe : about1.ripe theMethod args0 below0 = true := by decide +kernel
theorem w_running : about1.status = .running := rfl
set_option maxRecDepth 65536 in
theorem w_room : about1.hasRoom e0.platform room_1 = true :=
  launch0.hasRoom_least _ room_1 (by decide +kernel) (by decide +kernel) (by decide +kernel) (by decide +kernel) (by decide +kernel) (by decide +kernel)
theorem allAtoms_all (ts : List Jvm.Cond) (a : Array Jvm.Value) (st : Jvm.State) : (allAtoms ts).before a st = ts.all (fun c => c.before a st) := by
  induction ts with
  | nil => rfl
  | cons c t ih =>
    show (Jvm.Cond.and c (allAtoms t)).before a st = _
    rw [Jvm.Cond.before_and, ih, List.all_cons]
def words1 : List Jvm.Cond := Jvm.Cond.code x code maxLocals ret :: tables_1
/-- a 'code' word, met by the world's own term for the bytes: nothing is compared byte by byte -/
theorem code_word {y : MethodName} {bytes : ByteArray} {mx : Nat} {rt : Option FieldType} {a : Array Value} {s : State} {m : MethodId} {meth : Method} {c : Code} (h1 : s.methodNamed? y = some m) (h2 : s.vm.method? m = some meth) (h3 : meth.code = some c) (h4 : c.code = bytes)
    (h5 : (c.maxLocals == mx && c.exceptionTable.isEmpty && decide (c.maxStack ≤ mostOperands) && decide (meth.sig.returnType = rt) && !meth.locks && decide (parseMethodDescriptor y.desc = some meth.sig)) = true) : (Jvm.Cond.code y bytes mx rt).before a s = true := by
  simp only [Bool.and_eq_true, beq_iff_eq, Bool.not_eq_true', decide_eq_true_eq] at h5
  obtain ⟨⟨⟨⟨⟨g1, g2⟩, g3⟩, g4⟩, g5⟩, g6⟩ := h5
  simp [Cond.before, Cond.holds, Cond.value, h1, h2, h3, h4, g1, g2, g3, g4, g5, g6]
def isCode : Jvm.Cond → Bool
  | .code _ _ _ _ => true
  | _ => false
theorem all_split {L : List Jvm.Cond} {P : Jvm.Cond → Bool} (h1 : L.all (fun c => isCode c || P c) = true) (h2 : ∀ c ∈ L.filter isCode, P c = true) : L.all P = true := by
  refine List.all_eq_true.mpr fun c hc => ?_
  have h := List.all_eq_true.mp h1 c hc
  rcases Bool.eq_false_or_eq_true (isCode c) with hi | hi
  · exact h2 c (List.mem_filter.mpr ⟨hc, hi⟩)
  · simpa [hi] using h
set_option maxRecDepth 65536 in
theorem w_c0 : (Jvm.Cond.code x code maxLocals ret).before args0 about1 = true := code_word (m := ⟨1, 1⟩) (meth := k1m1) (c := k1c1) (by decide +kernel) rfl rfl rfl (by decide +kernel)
set_option maxRecDepth 65536 in
theorem w_c1 : (Jvm.Cond.code ({ cls := "com/example/tacit/tacit/wire/MessageReader", name := "<init>", desc := "([B)V" } : Jvm.MethodName) prog_69_method_1_code (2 : Nat) (Option.none : Option Jvm.ClassFile.FieldType)).before args0 about1 = true := code_word (m := ⟨2, 0⟩) (meth := k2m0) (c := k2c0) (by decide +kernel) rfl rfl rfl (by decide +kernel)
set_option maxRecDepth 65536 in
theorem w_c2 : (Jvm.Cond.code ({ cls := "com/example/tacit/tacit/wire/MessageReader", name := "<init>", desc := "([BIZ)V" } : Jvm.MethodName) prog_69_method_2_code (4 : Nat) (Option.none : Option Jvm.ClassFile.FieldType)).before args0 about1 = true := code_word (m := ⟨2, 1⟩) (meth := k2m1) (c := k2c1) (by decide +kernel) rfl rfl rfl (by decide +kernel)
set_option maxRecDepth 65536 in
theorem w_c3 : (Jvm.Cond.code ({ cls := "java/lang/Object", name := "<init>", desc := "()V" } : Jvm.MethodName) object_method_1_code (1 : Nat) (Option.none : Option Jvm.ClassFile.FieldType)).before args0 about1 = true := code_word (m := ⟨0, 0⟩) (meth := k0m0) (c := k0c0) (by decide +kernel) rfl rfl rfl (by decide +kernel)
set_option maxRecDepth 65536 in
theorem w_c4 : (Jvm.Cond.code ({ cls := "java/util/Objects", name := "requireNonNull", desc := "(Ljava/lang/Object;Ljava/lang/String;)Ljava/lang/Object;" } : Jvm.MethodName) jdk_31_method_11_code (2 : Nat) (Option.some (Jvm.ClassFile.FieldType.object "java/lang/Object"))).before args0 about1 = true := code_word (m := ⟨9, 1⟩) (meth := k9m1) (c := k9c1) (by decide +kernel) rfl rfl rfl (by decide +kernel)
set_option maxRecDepth 65536 in
theorem w_c5 : (Jvm.Cond.code ({ cls := "com/example/tacit/tacit/wire/MessageReader", name := "checked", desc := "()Z" } : Jvm.MethodName) prog_69_method_31_code (1 : Nat) (Option.some Jvm.ClassFile.FieldType.boolean)).before args0 about1 = true := code_word (m := ⟨2, 4⟩) (meth := k2m4) (c := k2c4) (by decide +kernel) rfl rfl rfl (by decide +kernel)
set_option maxRecDepth 65536 in
theorem w_c6 : (Jvm.Cond.code ({ cls := "com/example/tacit/tacit/wire/MessageReader", name := "readFixedData", desc := "(I)[B" } : Jvm.MethodName) prog_69_method_23_code (3 : Nat) (Option.some (Jvm.ClassFile.FieldType.array Jvm.ClassFile.FieldType.byte))).before args0 about1 = true := code_word (m := ⟨2, 2⟩) (meth := k2m2) (c := k2c2) (by decide +kernel) rfl rfl rfl (by decide +kernel)
set_option maxRecDepth 65536 in
theorem w_c7 : (Jvm.Cond.code ({ cls := "java/util/Arrays", name := "copyOfRange", desc := "([BII)[B" } : Jvm.MethodName) jdk_65_method_132_code (3 : Nat) (Option.some (Jvm.ClassFile.FieldType.array Jvm.ClassFile.FieldType.byte))).before args0 about1 = true := code_word (m := ⟨10, 2⟩) (meth := k10m2) (c := k10c2) (by decide +kernel) rfl rfl rfl (by decide +kernel)
set_option maxRecDepth 65536 in
theorem w_c8 : (Jvm.Cond.code ({ cls := "java/util/Arrays", name := "copyOfRangeByte", desc := "([BII)[B" } : Jvm.MethodName) jdk_65_method_133_code (5 : Nat) (Option.some (Jvm.ClassFile.FieldType.array Jvm.ClassFile.FieldType.byte))).before args0 about1 = true := code_word (m := ⟨10, 3⟩) (meth := k10m3) (c := k10c3) (by decide +kernel) rfl rfl rfl (by decide +kernel)
set_option maxRecDepth 65536 in
theorem w_c9 : (Jvm.Cond.code ({ cls := "java/util/Arrays", name := "checkLength", desc := "(II)V" } : Jvm.MethodName) jdk_65_method_131_code (2 : Nat) (Option.none : Option Jvm.ClassFile.FieldType)).before args0 about1 = true := code_word (m := ⟨10, 1⟩) (meth := k10m1) (c := k10c1) (by decide +kernel) rfl rfl rfl (by decide +kernel)
set_option maxRecDepth 65536 in
theorem w_c10 : (Jvm.Cond.code ({ cls := "java/lang/Math", name := "min", desc := "(II)I" } : Jvm.MethodName) jdk_29_method_69_code (2 : Nat) (Option.some Jvm.ClassFile.FieldType.int)).before args0 about1 = true := code_word (m := ⟨11, 2⟩) (meth := k11m2) (c := k11c2) (by decide +kernel) rfl rfl rfl (by decide +kernel)
set_option maxRecDepth 65536 in
theorem w_c11 : (Jvm.Cond.code ({ cls := "com/example/tacit/tacit/wire/MessageReader", name := "checkedTo", desc := "(I)V" } : Jvm.MethodName) prog_69_method_32_code (2 : Nat) (Option.none : Option Jvm.ClassFile.FieldType)).before args0 about1 = true := code_word (m := ⟨2, 5⟩) (meth := k2m5) (c := k2c5) (by decide +kernel) rfl rfl rfl (by decide +kernel)
set_option maxRecDepth 65536 in
theorem w_c12 : (Jvm.Cond.code ({ cls := "java/lang/Math", name := "max", desc := "(II)I" } : Jvm.MethodName) jdk_29_method_65_code (2 : Nat) (Option.some Jvm.ClassFile.FieldType.int)).before args0 about1 = true := code_word (m := ⟨11, 1⟩) (meth := k11m1) (c := k11c1) (by decide +kernel) rfl rfl rfl (by decide +kernel)
set_option maxRecDepth 65536 in
theorem w_c13 : (Jvm.Cond.code ({ cls := "com/example/tacit/tacit/wire/MessageReader", name := "checker", desc := "()Lcom/example/tacit/tacit/wire/MessageReader;" } : Jvm.MethodName) prog_69_method_30_code (1 : Nat) (Option.some (Jvm.ClassFile.FieldType.object "com/example/tacit/tacit/wire/MessageReader"))).before args0 about1 = true := code_word (m := ⟨2, 3⟩) (meth := k2m3) (c := k2c3) (by decide +kernel) rfl rfl rfl (by decide +kernel)
def codes1 : List Jvm.Cond := [Jvm.Cond.code x code maxLocals ret, Jvm.Cond.code ({ cls := "com/example/tacit/tacit/wire/MessageReader", name := "<init>", desc := "([B)V" } : Jvm.MethodName) prog_69_method_1_code (2 : Nat) (Option.none : Option Jvm.ClassFile.FieldType), Jvm.Cond.code ({ cls := "com/example/tacit/tacit/wire/MessageReader", name := "<init>", desc := "([BIZ)V" } : Jvm.MethodName) prog_69_method_2_code (4 : Nat) (Option.none : Option Jvm.ClassFile.FieldType), Jvm.Cond.code ({ cls := "java/lang/Object", name := "<init>", desc := "()V" } : Jvm.MethodName) object_method_1_code (1 : Nat) (Option.none : Option Jvm.ClassFile.FieldType), Jvm.Cond.code ({ cls := "java/util/Objects", name := "requireNonNull", desc := "(Ljava/lang/Object;Ljava/lang/String;)Ljava/lang/Object;" } : Jvm.MethodName) jdk_31_method_11_code (2 : Nat) (Option.some (Jvm.ClassFile.FieldType.object "java/lang/Object")), Jvm.Cond.code ({ cls := "com/example/tacit/tacit/wire/MessageReader", name := "checked", desc := "()Z" } : Jvm.MethodName) prog_69_method_31_code (1 : Nat) (Option.some Jvm.ClassFile.FieldType.boolean), Jvm.Cond.code ({ cls := "com/example/tacit/tacit/wire/MessageReader", name := "readFixedData", desc := "(I)[B" } : Jvm.MethodName) prog_69_method_23_code (3 : Nat) (Option.some (Jvm.ClassFile.FieldType.array Jvm.ClassFile.FieldType.byte)), Jvm.Cond.code ({ cls := "java/util/Arrays", name := "copyOfRange", desc := "([BII)[B" } : Jvm.MethodName) jdk_65_method_132_code (3 : Nat) (Option.some (Jvm.ClassFile.FieldType.array Jvm.ClassFile.FieldType.byte)), Jvm.Cond.code ({ cls := "java/util/Arrays", name := "copyOfRangeByte", desc := "([BII)[B" } : Jvm.MethodName) jdk_65_method_133_code (5 : Nat) (Option.some (Jvm.ClassFile.FieldType.array Jvm.ClassFile.FieldType.byte)), Jvm.Cond.code ({ cls := "java/util/Arrays", name := "checkLength", desc := "(II)V" } : Jvm.MethodName) jdk_65_method_131_code (2 : Nat) (Option.none : Option Jvm.ClassFile.FieldType), Jvm.Cond.code ({ cls := "java/lang/Math", name := "min", desc := "(II)I" } : Jvm.MethodName) jdk_29_method_69_code (2 : Nat) (Option.some Jvm.ClassFile.FieldType.int), Jvm.Cond.code ({ cls := "com/example/tacit/tacit/wire/MessageReader", name := "checkedTo", desc := "(I)V" } : Jvm.MethodName) prog_69_method_32_code (2 : Nat) (Option.none : Option Jvm.ClassFile.FieldType), Jvm.Cond.code ({ cls := "java/lang/Math", name := "max", desc := "(II)I" } : Jvm.MethodName) jdk_29_method_65_code (2 : Nat) (Option.some Jvm.ClassFile.FieldType.int), Jvm.Cond.code ({ cls := "com/example/tacit/tacit/wire/MessageReader", name := "checker", desc := "()Lcom/example/tacit/tacit/wire/MessageReader;" } : Jvm.MethodName) prog_69_method_30_code (1 : Nat) (Option.some (Jvm.ClassFile.FieldType.object "com/example/tacit/tacit/wire/MessageReader"))]
set_option maxRecDepth 65536 in
theorem codes_eq : words1.filter isCode = codes1 := rfl
theorem w_codes : ∀ c ∈ words1.filter isCode, c.before args0 about1 = true := by
  rw [codes_eq]
  intro c hc
  simp only [codes1, List.mem_cons, List.not_mem_nil, or_false] at hc
  rcases hc with rfl | rfl | rfl | rfl | rfl | rfl | rfl | rfl | rfl | rfl | rfl | rfl | rfl | rfl
  · exact w_c0
  · exact w_c1
  · exact w_c2
  · exact w_c3
  · exact w_c4
  · exact w_c5
  · exact w_c6
  · exact w_c7
  · exact w_c8
  · exact w_c9
  · exact w_c10
  · exact w_c11
  · exact w_c12
  · exact w_c13
set_option maxRecDepth 65536 in
theorem w_t1 : (words1.take 24).all (fun c => isCode c || c.before args0 about1) = true := by decide +kernel
set_option maxRecDepth 65536 in
theorem w_t2 : ((words1.drop 24).take 24).all (fun c => isCode c || c.before args0 about1) = true := by decide +kernel
set_option maxRecDepth 65536 in
theorem w_t3 : (((words1.drop 24).drop 24).take 24).all (fun c => isCode c || c.before args0 about1) = true := by decide +kernel
set_option maxRecDepth 65536 in
theorem w_t4 : (((words1.drop 24).drop 24).drop 24).all (fun c => isCode c || c.before args0 about1) = true := by decide +kernel
theorem w_tables : (allAtoms (Jvm.Cond.code x code maxLocals ret :: tables_1)).before args0 about1 = true := by
  rw [allAtoms_all]
  show words1.all (fun c => c.before args0 about1) = true
  refine all_split ?_ w_codes
  rw [← List.take_append_drop 24 words1, List.all_append, w_t1, ← List.take_append_drop 24 (words1.drop 24), List.all_append, w_t2, ← List.take_append_drop 24 ((words1.drop 24).drop 24), List.all_append, w_t3, w_t4]
  rfl
set_option maxRecDepth 65536 in
theorem w_case : (Jvm.Cond.and given_1 narrow_1).before args0 about1 = true := by decide +kernel
theorem w_applies : (headSpec (Jvm.Cond.code x code maxLocals ret :: tables_1) room_1).applies x e0.platform about1 = true :=
  (Spec.applies_iff w_frames).mpr ⟨w_running, w_runnable, w_alone, w_named, w_hears, w_ripe, w_room, w_tables⟩
theorem atStart : AtStart classFile x code maxLocals ret World_1 tables_1 room_1 Calls_1 rest_1 Pre_1 launch0 p0 e0 about1 theMethod args0 below0 :=
  ⟨lists_1, trivial, launch0.admits_env _ _ _, launch0.least_env, fairChoices_fair.cas, fairChoices_fair.clock, w_frames, w_args, w_heap, w_applies, trivial, trivial, w_case⟩
end start1
theorem witness_1 : WitnessClaimed_1 := ⟨start1.p0, start1.e0, start1.about1, start1.theMethod, start1.args0, start1.below0, start1.atStart⟩
end Jvm.Pilot.@@N@@
