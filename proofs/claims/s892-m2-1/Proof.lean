import JvmDerived
import JvmDerived.Pilot.@@N@@Statement
import JvmDerived.Pilot.@@N@@Code
set_option linter.unusedVariables false
set_option linter.unusedSimpArgs false
namespace Jvm.Pilot.@@N@@
open Jvm Jvm.ClassFile Sem Op Lib Jvm.Free Jvm.Stand Jvm.LawKit Jvm.RoadKit Bundle Jvm.Pilot.@@N@@.Jvm.D
section Own
variable {p : Program} {l : Launch} {e : Env} {R : Room} {s : State} {m : MethodId} {args : Array Value} {below : List Frame} {meth : Method} {c : Code} {T T' : State} {locs : List Loc} {cells slots : Nat} {g g' : JFrame} {Φ : State → Outcome → Prop}
/-- the run from T, at the frame g, comes to an end of which Φ speaks -/
def own_Go (p : Program) (e : Env) (below : List Frame) (Φ : State → Outcome → Prop) (T : State) (g : JFrame) : Prop :=
  ∃ s₂ o, Steps p.tables e below (T.setTop g) s₂ ∧ s₂.status = .running ∧ Ended s₂ below o ∧ Φ s₂ o
theorem own_st (k : ∀ target, Steps p.tables e below (T'.setTop g') target → Steps p.tables e below (T.setTop g) target) (h : own_Go p e below Φ T' g') : own_Go p e below Φ T g := by
  obtain ⟨s2, o, h1, h2⟩ := h
  exact ⟨s2, o, k _ h1, h2⟩
theorem own_ts (k : Steps p.tables e below (T.setTop g) (T'.setTop g')) (h : own_Go p e below Φ T' g') : own_Go p e below Φ T g := own_st (fun _ q => k.trans q) h
theorem own_in (q : g = g') (h : own_Go p e below Φ T g') : ∃ s₂ o, Steps p.tables e below (T.setTop g) s₂ ∧ s₂.status = .running ∧ Ended s₂ below o ∧ Φ s₂ o := by
  subst q; exact h
theorem own_out {Q : Option Value → Heap → List Loc → Prop} {kC kS : Nat} (X : Stand p l e R s m args below meth c T locs cells slots) (hl : meth.locks = false) {v : Option Value} (hv : meth.sig.returnType = none → v = none)
    (k : ∀ fs, (∀ (f : JFrame) (acts : List Action), f.method = m → f.locked = none → f.entered = [] → (doReturn e (T.setTop f) acts v).1 = T.setFrames fs) → Steps p.tables e below (T.setTop g) (T.setFrames fs)) (q : Q v T.heap locs) (hc : cells ≤ kC) (hs : slots ≤ kS) :
    own_Go p e below (fun s₂ o => ∃ v L, o = .returned v ∧ Q v s₂.heap L ∧ FrameEnd s o s₂ L kC kS) T g := by
  obtain ⟨fs, hr, hrun, hended, hW, hsame⟩ := X.leave (v := v) hv hl
  exact ⟨_, _, k fs hr, hrun, hended, _, _, rfl, q, ⟨_, rfl⟩, hW, hsame.mono hc hs⟩
theorem own_retI (X : Stand p l e R s m args below meth c T locs cells slots) (hx : p.tables.exec = Jvm.exec) {pc : Nat} {Ls : Array Slot} {z : Int32} {rest : List Value} (hret : meth.sig.returnType = some .int) (hd : decode c.code pc = .ok (.ireturn, 1)) {fs : List Frame}
    (hl : ∀ (f : JFrame) (acts : List Action), f.method = m → f.locked = none → f.entered = [] → (doReturn e (T.setTop f) acts (some (.int z))).1 = T.setFrames fs) : Steps p.tables e below (T.setTop (mkF m pc Ls (.int z :: rest))) (T.setFrames fs) :=
  retOut X hx hret rfl (Or.inl ⟨rfl, Or.inl rfl, z, rfl⟩) hd hl
theorem own_retA (X : Stand p l e R s m args below meth c T locs cells slots) (hx : p.tables.exec = Jvm.exec) {pc : Nat} {Ls : Array Slot} {w : Value} {t : FieldType} {rest : List Value} (hret : meth.sig.returnType = some t) (ht : t.isReference = true) (hw : w.isRef = true) (hn : narrow t w = w) (hd : decode c.code pc = .ok (.areturn, 1)) {fs : List Frame}
    (hl : ∀ (f : JFrame) (acts : List Action), f.method = m → f.locked = none → f.entered = [] → (doReturn e (T.setTop f) acts (some w)).1 = T.setFrames fs) : Steps p.tables e below (T.setTop (mkF m pc Ls (w :: rest))) (T.setFrames fs) :=
  retOut X hx hret hn (Or.inr (Or.inr (Or.inr (Or.inr ⟨rfl, ht, hw⟩)))) hd hl
theorem own_reX {a b : Vm} (X : Stand p l e R ((s.setVm a).setVm b) m args below meth c T locs cells slots) : Stand p l e R (s.setVm b) m args below meth c T locs cells slots := X
theorem own_outW {Q : Option Value → Heap → List Loc → Prop} {kC kS : Nat} {vm0 : Vm} (X : Stand p l e R (s.setVm vm0) m args below meth c T locs cells slots) {n : Nat} (hS : s.Since vm0 n) (hn : n ≤ T.heap.size) (hl : meth.locks = false) {v : Option Value} (hv : meth.sig.returnType = none → v = none)
    (k : ∀ fs, (∀ (f : JFrame) (acts : List Action), f.method = m → f.locked = none → f.entered = [] → (doReturn e (T.setTop f) acts v).1 = T.setFrames fs) → Steps p.tables e below (T.setTop g) (T.setFrames fs)) (q : Q v T.heap locs) (hc : cells ≤ kC) (hs : slots ≤ kS) :
    own_Go p e below (fun s₂ o => ∃ v L, o = .returned v ∧ Q v s₂.heap L ∧ ReturnedEndW s o s₂ L kC kS) T g := by
  obtain ⟨fs, hr, hrun, hended, h1, h2, h3, h4⟩ := X.leaveW hS hn (v := v) hv hl
  exact ⟨_, _, k fs hr, hrun, hended, _, _, rfl, q, h1, h2, h3, h4.mono hc hs⟩
theorem own_alen (X : Stand p l e R s m args below meth c T locs cells slots) (hx : p.tables.exec = Jvm.exec) {Z : State} (hZ : Z.Warmed39 s.vm) {h : Heap} (eT : T.heap = h) {a : Addr} {k : ClassId} {ty : FieldType} {z : Int32} {vs : List Value} {dv : Value} (F : Arv Z h a k ty z vs dv) {g : JFrame} (hg : g.method = m) {rest : List Value} (hs : g.stack = .ref a :: rest)
    (hd : decode c.code g.pc = .ok (.arraylength, 1)) : ∀ target, Steps p.tables e below (T.setTop { g with pc := g.pc + 1, stack := .int z :: rest }) target → Steps p.tables e below (T.setTop g) target := by
  obtain ⟨cl, A, q, S, N, H, G⟩ := F
  rw [← len_of S N]
  exact X.arraylength hx (by rw [eT]; exact A.1) (State.isArrayOf_alike hZ.alike A.2.1) hg hs hd
theorem own_old {Z : State} {n0 : Nat} {h : Heap} (O : Old Z n0 h) : n0 ≤ h.size := O.1 ▸ O.2.1
end Own
theorem own_eqInt {args : Array Value} {s : State} {t : Term} {k : Int32} (h : (Jvm.Cond.eq t (Term.int k)).value args s none s [] = some true) : t.eval args s none [] s = some (.int k) := by
  cases ht : t.eval args s none [] s with
  | none => simp [Cond.value, ht] at h
  | some x => cases x <;> simp [Cond.value, ht, Term.eval] at h ⊢ ; exact h
theorem own_rng (x : Int32) : 0 ≤ ((x &&& 2147483647) % 5).toInt ∧ ((x &&& 2147483647) % 5).toInt ≤ 4 := by
  have h0 := (c_and x 2147483647 (by decide)).1
  have h := (c_irem (x &&& 2147483647) 5 5 rfl).1 h0
  omega
def own_takes (n lo hi : Int32) : Int32 := if n < lo then 0 else if hi < n then 0 else 1
theorem own_two (n : Int32) (k : Int32) : own_takes n k k = if n = k then 1 else 0 := by
  unfold own_takes
  by_cases h : n = k
  · subst h; simp [Int32.lt_irrefl]
  · rw [if_neg h]
    by_cases h1 : n < k
    · rw [if_pos h1]
    · rw [if_neg h1]
      have h2 : k < n := by
        have a := Int32.lt_iff_toInt_lt (x := n) (y := k)
        have b : n.toInt ≠ k.toInt := fun z => h (Int32.toInt_inj.mp z)
        apply Int32.lt_iff_toInt_lt.mpr
        have := mt a.mpr h1
        omega
      rw [if_pos h2]
theorem own_up (n : Int32) (k : Int32) : own_takes n k 2147483647 = if n < k then 0 else 1 := by
  unfold own_takes
  have h : ¬ ((2147483647 : Int32) < n) := fun z => by
    have a := Int32.lt_iff_toInt_lt.mp z
    have b : (2147483647 : Int32).toInt = 2147483647 := rfl
    have := rng32 n
    omega
  rw [if_neg h]
theorem d_prog_7_method_5_0 : decode prog_7_method_5_code 0 = .ok (.iload_n 1, 1) := by decide +kernel
theorem d_prog_7_method_5_1 : decode prog_7_method_5_code 1 = .ok (.aload_n 0, 1) := by decide +kernel
theorem d_prog_7_method_5_2 : decode prog_7_method_5_code 2 = .ok (.getfield 38, 3) := by decide +kernel
theorem d_prog_7_method_5_5 : decode prog_7_method_5_code 5 = .ok (.if_icmp .lt 15, 3) := by decide +kernel
theorem d_prog_7_method_5_20 : decode prog_7_method_5_code 20 = .ok (.iconst 0, 1) := by decide +kernel
theorem d_prog_7_method_5_21 : decode prog_7_method_5_code 21 = .ok (.ireturn, 1) := by decide +kernel
theorem d_prog_7_method_5_8 : decode prog_7_method_5_code 8 = .ok (.iload_n 1, 1) := by decide +kernel
theorem d_prog_7_method_5_9 : decode prog_7_method_5_code 9 = .ok (.aload_n 0, 1) := by decide +kernel
theorem d_prog_7_method_5_10 : decode prog_7_method_5_code 10 = .ok (.getfield 42, 3) := by decide +kernel
theorem d_prog_7_method_5_13 : decode prog_7_method_5_code 13 = .ok (.if_icmp .gt 7, 3) := by decide +kernel
theorem d_prog_7_method_5_16 : decode prog_7_method_5_code 16 = .ok (.iconst 1, 1) := by decide +kernel
theorem d_prog_7_method_5_17 : decode prog_7_method_5_code 17 = .ok (.goto 4, 3) := by decide +kernel
theorem ef_takes (m : MethodId) (x0 : Addr) (x1 : Int32) : entryFrame m #[(.ref x0), (.int x1)] 2 = mkF m 0 #[.val (.ref x0), .val (.int x1)] [] := by first | (simp [entryFrame, mkF, argsToLocals, Value.category]; done) | rfl
def Qtakes (Z : State) (a1 : Addr) (n lo hi : Int32) (h0 : Heap) (n0 : Nat) (v : Option Value) (h : Heap) (L : List Loc) : Prop := v = some (.int (own_takes n lo hi)) ∧ Fr n0 L ∧ h = h0
theorem pn_com_example_table_rules_tablerules_engine_Choice : plainName "com/example/table_rules/tablerules/engine/Choice" = true := by first | (simp [plainName, overriddenIn]; done) | decide +kernel
set_option maxRecDepth 65536 in
set_option maxHeartbeats 40000000 in
theorem rmtakes (l : Launch) (Z : State) (a0 : Array Value) (hw : ∀ d ∈ tables_1, d.before a0 Z = true) (ws : List Jvm.Cond) (a1 : Addr) (n lo hi : Int32) (h0 : Heap) (n0 : Nat) (O0 : Old Z n0 h0) (Fl : Fld Z h0 a1 "com/example/table_rules/tablerules/engine/Choice" "minArguments" "I" (.int lo)) (Fh : Fld Z h0 a1 "com/example/table_rules/tablerules/engine/Choice" "maxArguments" "I" (.int hi)) :
    MetFree l (⟨"com/example/table_rules/tablerules/engine/Choice", "takes", "(I)Z"⟩ : MethodName) (head1 (Jvm.Cond.code (⟨"com/example/table_rules/tablerules/engine/Choice", "takes", "(I)Z"⟩ : MethodName) prog_7_method_5_code 2 (some .boolean) :: ws) ({ frames := 0, cells := 0, slots := 0, locals := 0 } : Room)) (fun a U => a = #[(.ref a1), (.int n)] ∧ Z.Warmed39 U.vm ∧ U.heap = h0) (fun _ _ _ _ _ => True) (fun _ U o U' => ∃ v L, o = .returned v ∧ Qtakes Z a1 n lo hi h0 n0 v U'.heap L ∧ FrameEnd U o U' L ({ frames := 0, cells := 0, slots := 0, locals := 0 } : Room).cells ({ frames := 0, cells := 0, slots := 0, locals := 0 } : Room).slots) := by
  refine MetFree.of_bodySF (plainFor_of_name pn_com_example_table_rules_tablerules_engine_Choice) hisR ?_
  intro p e s m args below meth c s₁ Bd hml0 hP hK
  obtain ⟨rfl, hZ, hh⟩ := hP
  have hx := Bd.exec
  have hby := Bd.bytes
  have hml : c.maxLocals = 2 := hml0
  have hown : s.vm.findClass "com/example/table_rules/tablerules/engine/Choice" = some m.cls := findClass_of_methodNamed Bd.named
  have hnm := (name_of_methodNamed Bd.named Bd.method).1
  have X0 : Stand p l e ({ frames := 0, cells := 0, slots := 0, locals := 0 } : Room) s m #[(.ref a1), (.int n)] below meth c s₁ [] 0 0 := Stand.of_body Bd
  have e0 : s₁.heap = h0 := by rw [← hh, Bd.state]; rfl
  have N0 := Fr.nil n0
  have hS0 : s.Since s.vm h0.size := State.WarmedH.since (State.WarmedH.refl s) _
  refine own_in (ef_takes m a1 n) ?_
  refine own_st (T' := s₁) (g' := (mkF m 1 #[.val (.ref a1), .val (.int n)] [(.int n)])) (fun _ kq => XS.iloadN X0.here hx rfl (hb hby d_prog_7_method_5_0) rfl kq) ?_
  refine own_st (T' := s₁) (g' := (mkF m 2 #[.val (.ref a1), .val (.int n)] [(.ref a1), (.int n)])) (fun _ kq => XS.aloadN X0.here hx rfl (hb hby d_prog_7_method_5_1) rfl rfl kq) ?_
  obtain ⟨T1, X1, e1, st1⟩ := getF X0 hx hZ hown (host := "") (Or.inl (hw _ (List.mem_of_getElem? (i := 9) rfl))) Via.refl e0 Fl (g := (mkF m 2 #[.val (.ref a1), .val (.int n)] [(.ref a1), (.int n)])) rfl rfl (hb hby d_prog_7_method_5_2)
  refine own_st (T' := T1) (g' := (mkF m 5 #[.val (.ref a1), .val (.int n)] [(.int lo), (.int n)])) (st1) ?_
  by_cases h1 : n < lo
  · refine own_st (T' := T1) (g' := (mkF m 20 #[.val (.ref a1), .val (.int n)] [])) (fun _ kq => XS.icmpYes X1.here hx rfl (pc0 := 5) (pc' := 20) rfl (hb hby d_prog_7_method_5_5) rfl (tlt (h1 : n < lo)).1 (by decide) (by decide) kq) ?_
    refine own_st (T' := T1) (g' := (mkF m 21 #[.val (.ref a1), .val (.int n)] [(.int (0 : Int32))])) (fun _ kq => XS.iconst X1.here hx rfl (hb hby d_prog_7_method_5_20) kq) ?_
    refine own_out X1 Bd.notSynchronized (v := (some (.int (0 : Int32)))) (fun h => by rw [Bd.returns] at h; cases h) (fun fs hr => retN X1 hx (t := .boolean) Bd.returns (by simp) (hb hby d_prog_7_method_5_21) hr) ?_ (by decide) (by decide)
    rw [e1]
    exact ⟨by unfold own_takes; rw [if_pos h1], N0, rfl⟩
  · refine own_st (T' := T1) (g' := (mkF m 8 #[.val (.ref a1), .val (.int n)] [])) (fun _ kq => XS.icmpNo X1.here hx rfl (hb hby d_prog_7_method_5_5) rfl (flt (h1 : ¬ (n < lo))).1 kq) ?_
    refine own_st (T' := T1) (g' := (mkF m 9 #[.val (.ref a1), .val (.int n)] [(.int n)])) (fun _ kq => XS.iloadN X1.here hx rfl (hb hby d_prog_7_method_5_8) rfl kq) ?_
    refine own_st (T' := T1) (g' := (mkF m 10 #[.val (.ref a1), .val (.int n)] [(.ref a1), (.int n)])) (fun _ kq => XS.aloadN X1.here hx rfl (hb hby d_prog_7_method_5_9) rfl rfl kq) ?_
    obtain ⟨T2, X2, e2, st2⟩ := getF X1 hx hZ hown (host := "") (Or.inl (hw _ (List.mem_of_getElem? (i := 11) rfl))) Via.refl e1 Fh (g := (mkF m 10 #[.val (.ref a1), .val (.int n)] [(.ref a1), (.int n)])) rfl rfl (hb hby d_prog_7_method_5_10)
    refine own_st (T' := T2) (g' := (mkF m 13 #[.val (.ref a1), .val (.int n)] [(.int hi), (.int n)])) (st2) ?_
    by_cases h2 : hi < n
    · refine own_st (T' := T2) (g' := (mkF m 20 #[.val (.ref a1), .val (.int n)] [])) (fun _ kq => XS.icmpYes X2.here hx rfl (pc0 := 13) (pc' := 20) rfl (hb hby d_prog_7_method_5_13) rfl (tlt (h2 : hi < n)).2.2.1 (by decide) (by decide) kq) ?_
      refine own_st (T' := T2) (g' := (mkF m 21 #[.val (.ref a1), .val (.int n)] [(.int (0 : Int32))])) (fun _ kq => XS.iconst X2.here hx rfl (hb hby d_prog_7_method_5_20) kq) ?_
      refine own_out X2 Bd.notSynchronized (v := (some (.int (0 : Int32)))) (fun h => by rw [Bd.returns] at h; cases h) (fun fs hr => retN X2 hx (t := .boolean) Bd.returns (by simp) (hb hby d_prog_7_method_5_21) hr) ?_ (by decide) (by decide)
      rw [e2]
      exact ⟨by unfold own_takes; rw [if_neg h1, if_pos h2], N0, rfl⟩
    · refine own_st (T' := T2) (g' := (mkF m 16 #[.val (.ref a1), .val (.int n)] [])) (fun _ kq => XS.icmpNo X2.here hx rfl (hb hby d_prog_7_method_5_13) rfl (flt (h2 : ¬ (hi < n))).2.2.1 kq) ?_
      refine own_st (T' := T2) (g' := (mkF m 17 #[.val (.ref a1), .val (.int n)] [(.int (1 : Int32))])) (fun _ kq => XS.iconst X2.here hx rfl (hb hby d_prog_7_method_5_16) kq) ?_
      refine own_st (T' := T2) (g' := (mkF m 21 #[.val (.ref a1), .val (.int n)] [(.int (1 : Int32))])) (fun _ kq => XS.goto X2.here hx rfl (pc0 := 17) (pc' := 21) rfl (hb hby d_prog_7_method_5_17) (by decide) (by decide) kq) ?_
      refine own_out X2 Bd.notSynchronized (v := (some (.int (1 : Int32)))) (fun h => by rw [Bd.returns] at h; cases h) (fun fs hr => retN X2 hx (t := .boolean) Bd.returns (by simp) (hb hby d_prog_7_method_5_21) hr) ?_ (by decide) (by decide)
      rw [e2]
      exact ⟨by unfold own_takes; rw [if_neg h1, if_neg h2], N0, rfl⟩
theorem pd_I_Z_244 : parseMethodDescriptor "(I)Z" = some ⟨[.int], some .boolean⟩ := by decide +kernel
theorem ef_0 (m : MethodId) (x0 : Int32) (x1 : Int32) : entryFrame m #[(.int x0), (.int x1)] maxLocals = mkF m 0 #[.val (.int x0), .val (.int x1), .unset, .unset, .unset] [] := by first | (simp [entryFrame, mkF, argsToLocals, Value.category, maxLocals]; done) | rfl
def Q0 (Z : State) (p1 p2 : Int32) (w_NVL w_NVL2 w_COALESCE w_NULLIF w_DECODE : Addr) (h0 : Heap) (n0 : Nat) (v : Option Value) (h : Heap) (L : List Loc) : Prop := v = some (.int 1) ∧ Fr n0 L
theorem pn_com_example_table_rules_tablerules_engine_ChoiceTakesPinLaw : plainName "com/example/table_rules/tablerules/engine/ChoiceTakesPinLaw" = true := by first | (simp [plainName, overriddenIn]; done) | decide +kernel
set_option maxRecDepth 65536 in
set_option maxHeartbeats 40000000 in
theorem rm0 (l : Launch) (Z : State) (a0 : Array Value) (hw : ∀ d ∈ tables_1, d.before a0 Z = true) (ws : List Jvm.Cond) (p1 p2 : Int32) (w_NVL w_NVL2 w_COALESCE w_NULLIF w_DECODE : Addr) (h0 : Heap) (n0 : Nat) (O0 : Old Z n0 h0) (S_NVL : Sta Z Z.heap "com/example/table_rules/tablerules/engine/Choice" "NVL" "Lcom/example/table_rules/tablerules/engine/Choice;" (.ref w_NVL)) (E_NVL : Exa Z Z.heap w_NVL "com/example/table_rules/tablerules/engine/Choice") (L_NVL : Fld Z Z.heap w_NVL "com/example/table_rules/tablerules/engine/Choice" "minArguments" "I" (.int (2 : Int32))) (H_NVL : Fld Z Z.heap w_NVL "com/example/table_rules/tablerules/engine/Choice" "maxArguments" "I" (.int (2 : Int32))) (S_NVL2 : Sta Z Z.heap "com/example/table_rules/tablerules/engine/Choice" "NVL2" "Lcom/example/table_rules/tablerules/engine/Choice;" (.ref w_NVL2)) (E_NVL2 : Exa Z Z.heap w_NVL2 "com/example/table_rules/tablerules/engine/Choice") (L_NVL2 : Fld Z Z.heap w_NVL2 "com/example/table_rules/tablerules/engine/Choice" "minArguments" "I" (.int (3 : Int32))) (H_NVL2 : Fld Z Z.heap w_NVL2 "com/example/table_rules/tablerules/engine/Choice" "maxArguments" "I" (.int (3 : Int32))) (S_COALESCE : Sta Z Z.heap "com/example/table_rules/tablerules/engine/Choice" "COALESCE" "Lcom/example/table_rules/tablerules/engine/Choice;" (.ref w_COALESCE)) (E_COALESCE : Exa Z Z.heap w_COALESCE "com/example/table_rules/tablerules/engine/Choice") (L_COALESCE : Fld Z Z.heap w_COALESCE "com/example/table_rules/tablerules/engine/Choice" "minArguments" "I" (.int (2 : Int32))) (H_COALESCE : Fld Z Z.heap w_COALESCE "com/example/table_rules/tablerules/engine/Choice" "maxArguments" "I" (.int (2147483647 : Int32))) (S_NULLIF : Sta Z Z.heap "com/example/table_rules/tablerules/engine/Choice" "NULLIF" "Lcom/example/table_rules/tablerules/engine/Choice;" (.ref w_NULLIF)) (E_NULLIF : Exa Z Z.heap w_NULLIF "com/example/table_rules/tablerules/engine/Choice") (L_NULLIF : Fld Z Z.heap w_NULLIF "com/example/table_rules/tablerules/engine/Choice" "minArguments" "I" (.int (2 : Int32))) (H_NULLIF : Fld Z Z.heap w_NULLIF "com/example/table_rules/tablerules/engine/Choice" "maxArguments" "I" (.int (2 : Int32))) (S_DECODE : Sta Z Z.heap "com/example/table_rules/tablerules/engine/Choice" "DECODE" "Lcom/example/table_rules/tablerules/engine/Choice;" (.ref w_DECODE)) (E_DECODE : Exa Z Z.heap w_DECODE "com/example/table_rules/tablerules/engine/Choice") (L_DECODE : Fld Z Z.heap w_DECODE "com/example/table_rules/tablerules/engine/Choice" "minArguments" "I" (.int (3 : Int32))) (H_DECODE : Fld Z Z.heap w_DECODE "com/example/table_rules/tablerules/engine/Choice" "maxArguments" "I" (.int (2147483647 : Int32))) :
    MetFree l x (head1 (Jvm.Cond.code x code maxLocals ret :: ws) room_1) (fun a U => a = #[(.int p1), (.int p2)] ∧ Z.Warmed39 U.vm ∧ U.heap = h0) (fun _ _ _ _ _ => True) (fun _ U o U' => ∃ v L, o = .returned v ∧ Q0 Z p1 p2 w_NVL w_NVL2 w_COALESCE w_NULLIF w_DECODE h0 n0 v U'.heap L ∧ FrameEnd U o U' L room_1.cells room_1.slots) := by
  refine MetFree.of_bodySF (plainFor_of_name pn_com_example_table_rules_tablerules_engine_ChoiceTakesPinLaw) hisR ?_
  intro p e s m args below meth c s₁ Bd hml0 hP hK
  obtain ⟨rfl, hZ, hh⟩ := hP
  have hx := Bd.exec
  have hby := Bd.bytes
  have hml : c.maxLocals = 5 := hml0
  have hown : s.vm.findClass "com/example/table_rules/tablerules/engine/ChoiceTakesPinLaw" = some m.cls := findClass_of_methodNamed Bd.named
  have hnm := (name_of_methodNamed Bd.named Bd.method).1
  have X0 : Stand p l e room_1 s m #[(.int p1), (.int p2)] below meth c s₁ [] 0 0 := Stand.of_body Bd
  have e0 : s₁.heap = h0 := by rw [← hh, Bd.state]; rfl
  have N0 := Fr.nil n0
  have hS0 : s.Since s.vm h0.size := State.WarmedH.since (State.WarmedH.refl s) _
  refine own_in (ef_0 m p1 p2) ?_
  refine own_st (T' := s₁) (g' := (mkF m 1 #[.val (.int p1), .val (.int p2), .unset, .unset, .unset] [(.int p1)])) (fun _ kq => XS.iloadN X0.here hx rfl (hb hby at_0) rfl kq) ?_
  refine own_st (T' := s₁) (g' := (mkF m 3 #[.val (.int p1), .val (.int p2), .unset, .unset, .unset] [(.int (2147483647 : Int32)), (.int p1)])) (X0.ldcInt hx hown (mvT hZ (hw _ (List.mem_of_getElem? (i := 0) rfl))) (g := (mkF m 1 #[.val (.int p1), .val (.int p2), .unset, .unset, .unset] [(.int p1)])) rfl (hb hby at_1)) ?_
  refine own_st (T' := s₁) (g' := (mkF m 4 #[.val (.int p1), .val (.int p2), .unset, .unset, .unset] [(.int (p1 &&& (2147483647 : Int32)))])) (fun _ kq => XS.iand X0.here hx rfl (hb hby at_3) rfl kq) ?_
  refine own_st (T' := s₁) (g' := (mkF m 5 #[.val (.int p1), .val (.int p2), .unset, .unset, .unset] [(.int (5 : Int32)), (.int (p1 &&& (2147483647 : Int32)))])) (fun _ kq => XS.iconst X0.here hx rfl (hb hby at_4) kq) ?_
  refine own_st (T' := s₁) (g' := (mkF m 6 #[.val (.int p1), .val (.int p2), .unset, .unset, .unset] [(.int ((p1 &&& (2147483647 : Int32)) % (5 : Int32)))])) (fun _ kq => iremM X0 hx rfl (hb hby at_5) rfl (by decide) kq) ?_
  refine own_st (T' := s₁) (g' := (mkF m 7 #[.val (.int p1), .val (.int p2), .val (.int ((p1 &&& (2147483647 : Int32)) % (5 : Int32))), .unset, .unset] [])) (fun _ kq => XS.istoreN X0.here hx rfl (hb hby at_6) rfl (l' := #[.val (.int p1), .val (.int p2), .val (.int ((p1 &&& (2147483647 : Int32)) % (5 : Int32))), .unset, .unset]) rfl kq) ?_
  generalize ((p1 &&& (2147483647 : Int32)) % (5 : Int32)) = q
  refine own_st (T' := s₁) (g' := (mkF m 8 #[.val (.int p1), .val (.int p2), .val (.int q), .unset, .unset] [(.int q)])) (fun _ kq => XS.iloadN X0.here hx rfl (hb hby at_7) rfl kq) ?_
  by_cases hq0 : q = (0 : Int32)
  · refine own_st (T' := s₁) (g' := (mkF m 11 #[.val (.int p1), .val (.int p2), .val (.int q), .unset, .unset] [])) (fun _ kq => XS.ifNo X0.here hx rfl (hb hby at_8) rfl ((if0 _ _).trans (teq (hq0 : q = (0 : Int32))).2) kq) ?_
    obtain ⟨T1, X1, e1, st1⟩ := getS2 X0 hx hZ hown (host := "") (Or.inl (hw _ (List.mem_of_getElem? (i := 1) rfl))) Via.refl e0 (S_NVL.ext O0.2) (g := (mkF m 11 #[.val (.int p1), .val (.int p2), .val (.int q), .unset, .unset] [])) rfl (hb hby at_11)
    refine own_st (T' := T1) (g' := (mkF m 14 #[.val (.int p1), .val (.int p2), .val (.int q), .unset, .unset] [(.ref w_NVL)])) (st1) ?_
    refine own_st (T' := T1) (g' := (mkF m 15 #[.val (.int p1), .val (.int p2), .val (.int q), .val (.ref w_NVL), .unset] [])) (fun _ kq => XS.astoreN X1.here hx rfl (hb hby at_14) rfl rfl (l' := #[.val (.int p1), .val (.int p2), .val (.int q), .val (.ref w_NVL), .unset]) rfl kq) ?_
    refine own_st (T' := T1) (g' := (mkF m 16 #[.val (.int p1), .val (.int p2), .val (.int q), .val (.ref w_NVL), .unset] [(.int p2)])) (fun _ kq => XS.iloadN X1.here hx rfl (hb hby at_15) rfl kq) ?_
    refine own_st (T' := T1) (g' := (mkF m 17 #[.val (.int p1), .val (.int p2), .val (.int q), .val (.ref w_NVL), .unset] [(.int (2 : Int32)), (.int p2)])) (fun _ kq => XS.iconst X1.here hx rfl (hb hby at_16) kq) ?_
    suffices hj : own_Go p e below (fun s₂ o => ∃ v L, o = .returned v ∧ Q0 Z p1 p2 w_NVL w_NVL2 w_COALESCE w_NULLIF w_DECODE h0 n0 v s₂.heap L ∧ FrameEnd s o s₂ L room_1.cells room_1.slots) T1 (mkF m 25 #[.val (.int p1), .val (.int p2), .val (.int q), .val (.ref w_NVL), .unset] [(.int (if p2 = (2 : Int32) then (1 : Int32) else (0 : Int32)))]) by
      by_cases hc17_2 : p2 = (2 : Int32)
      · simp only [if_pos hc17_2] at hj
        refine own_st (T' := T1) (g' := (mkF m 20 #[.val (.int p1), .val (.int p2), .val (.int q), .val (.ref w_NVL), .unset] [])) (fun _ kq => XS.icmpNo X1.here hx rfl (hb hby at_17) rfl (teq (hc17_2 : p2 = (2 : Int32))).2 kq) ?_
        refine own_st (T' := T1) (g' := (mkF m 21 #[.val (.int p1), .val (.int p2), .val (.int q), .val (.ref w_NVL), .unset] [(.int (1 : Int32))])) (fun _ kq => XS.iconst X1.here hx rfl (hb hby at_20) kq) ?_
        refine own_st (T' := T1) (g' := (mkF m 25 #[.val (.int p1), .val (.int p2), .val (.int q), .val (.ref w_NVL), .unset] [(.int (1 : Int32))])) (fun _ kq => XS.goto X1.here hx rfl (pc0 := 21) (pc' := 25) rfl (hb hby at_21) (by decide) (by decide) kq) ?_
        exact hj
      · simp only [if_neg hc17_2] at hj
        refine own_st (T' := T1) (g' := (mkF m 24 #[.val (.int p1), .val (.int p2), .val (.int q), .val (.ref w_NVL), .unset] [])) (fun _ kq => XS.icmpYes X1.here hx rfl (pc0 := 17) (pc' := 24) rfl (hb hby at_17) rfl (feq (hc17_2 : ¬ (p2 = (2 : Int32)))).2 (by decide) (by decide) kq) ?_
        refine own_st (T' := T1) (g' := (mkF m 25 #[.val (.int p1), .val (.int p2), .val (.int q), .val (.ref w_NVL), .unset] [(.int (0 : Int32))])) (fun _ kq => XS.iconst X1.here hx rfl (hb hby at_24) kq) ?_
        exact hj
    refine own_st (T' := T1) (g' := (mkF m 27 #[.val (.int p1), .val (.int p2), .val (.int q), .val (.ref w_NVL), .val (.int (if p2 = (2 : Int32) then (1 : Int32) else (0 : Int32)))] [])) (fun _ kq => XS.istore X1.here hx rfl (hb hby at_25) rfl (l' := #[.val (.int p1), .val (.int p2), .val (.int q), .val (.ref w_NVL), .val (.int (if p2 = (2 : Int32) then (1 : Int32) else (0 : Int32)))]) rfl kq) ?_
    refine own_st (T' := T1) (g' := (mkF m 118 #[.val (.int p1), .val (.int p2), .val (.int q), .val (.ref w_NVL), .val (.int (if p2 = (2 : Int32) then (1 : Int32) else (0 : Int32)))] [])) (fun _ kq => XS.goto X1.here hx rfl (pc0 := 27) (pc' := 118) rfl (hb hby at_27) (by decide) (by decide) kq) ?_
    refine own_st (T' := T1) (g' := (mkF m 119 #[.val (.int p1), .val (.int p2), .val (.int q), .val (.ref w_NVL), .val (.int (if p2 = (2 : Int32) then (1 : Int32) else (0 : Int32)))] [(.ref w_NVL)])) (fun _ kq => XS.aloadN X1.here hx rfl (hb hby at_118) rfl rfl kq) ?_
    refine own_st (T' := T1) (g' := (mkF m 120 #[.val (.int p1), .val (.int p2), .val (.int q), .val (.ref w_NVL), .val (.int (if p2 = (2 : Int32) then (1 : Int32) else (0 : Int32)))] [(.int p2), (.ref w_NVL)])) (fun _ kq => XS.iloadN X1.here hx rfl (hb hby at_119) rfl kq) ?_
    obtain ⟨cq3, kq3, q3a, q3b, q3c⟩ := isOf hZ e1 (E_NVL.ext O0.2)
    obtain ⟨_, _, ⟨T3, L3, k3, n3⟩, -, X3, ⟨Lc3, hQ3, l3, y3, z3⟩, st3⟩ := X1.virtualBack hx (y := (⟨"com/example/table_rules/tablerules/engine/Choice", "takes", "(I)Z"⟩ : MethodName)) (z := (⟨"com/example/table_rules/tablerules/engine/Choice", "takes", "(I)Z"⟩ : MethodName)) hown (mvT hZ (hw _ (List.mem_of_getElem? (i := 4) rfl))) (mvT hZ (hw _ (List.mem_of_getElem? (i := 5) rfl))) (notFace_of_selects (args := #[]) (mvT hZ (hw _ (List.mem_of_getElem? (i := 7) rfl)))) (mvT hZ (hw _ (List.mem_of_getElem? (i := 7) rfl))) (mvT hZ (hw _ (List.mem_of_getElem? (i := 6) rfl))) (by decide) (backOf (W := 0) (rmtakes l Z a0 hw [] w_NVL p2 (2 : Int32) (2 : Int32) h0 n0 O0 (L_NVL.ext O0.2) (H_NVL.ext O0.2)) hZ (hw _ (List.mem_of_getElem? (i := 8) rfl)) (hw _ (List.mem_of_getElem? (i := 2) rfl)) (by decide) (by decide)) q3a q3c (g := (mkF m 120 #[.val (.int p1), .val (.int p2), .val (.int q), .val (.ref w_NVL), .val (.int (if p2 = (2 : Int32) then (1 : Int32) else (0 : Int32)))] [(.int p2), (.ref w_NVL)])) rfl (by rw [hml]; rfl) (Steps.refl _) (argsL := [(.int p2)]) (rest := []) (lenOf pd_I_Z_244 rfl) rfl (by show 2 * 0 + _ ≤ _; exact Nat.le_of_eq rfl) (hb hby at_120) (fun _ _ => ⟨rfl, e1, (by decide : 0 + 0 ≤ _), (by decide : 0 + 0 ≤ _)⟩)
    dsimp only [Pt.U, Pt.locs, Pt.cells, Pt.slots] at X3 l3 y3 z3 st3 hQ3
    subst l3 y3 z3
    obtain ⟨rfl, Nq3, hh3⟩ := hQ3
    have N4 := Fr.app N0 Nq3
    refine own_ts (T' := T3) (g' := (mkF m 123 #[.val (.int p1), .val (.int p2), .val (.int q), .val (.ref w_NVL), .val (.int (if p2 = (2 : Int32) then (1 : Int32) else (0 : Int32)))] [(.int (own_takes p2 (2 : Int32) (2 : Int32)))])) st3 ?_
    refine own_st (T' := T3) (g' := (mkF m 125 #[.val (.int p1), .val (.int p2), .val (.int q), .val (.ref w_NVL), .val (.int (if p2 = (2 : Int32) then (1 : Int32) else (0 : Int32)))] [(.int (if p2 = (2 : Int32) then (1 : Int32) else (0 : Int32))), (.int (own_takes p2 (2 : Int32) (2 : Int32)))])) (fun _ kq => XS.iload X3.here hx rfl (hb hby at_123) rfl kq) ?_
    refine own_st (T' := T3) (g' := (mkF m 128 #[.val (.int p1), .val (.int p2), .val (.int q), .val (.ref w_NVL), .val (.int (if p2 = (2 : Int32) then (1 : Int32) else (0 : Int32)))] [])) (fun _ kq => XS.icmpNo X3.here hx rfl (hb hby at_125) rfl (teq (own_two p2 (2 : Int32) : (own_takes p2 (2 : Int32) (2 : Int32)) = (if p2 = (2 : Int32) then (1 : Int32) else (0 : Int32)))).2 kq) ?_
    refine own_st (T' := T3) (g' := (mkF m 129 #[.val (.int p1), .val (.int p2), .val (.int q), .val (.ref w_NVL), .val (.int (if p2 = (2 : Int32) then (1 : Int32) else (0 : Int32)))] [(.int (1 : Int32))])) (fun _ kq => XS.iconst X3.here hx rfl (hb hby at_128) kq) ?_
    refine own_st (T' := T3) (g' := (mkF m 133 #[.val (.int p1), .val (.int p2), .val (.int q), .val (.ref w_NVL), .val (.int (if p2 = (2 : Int32) then (1 : Int32) else (0 : Int32)))] [(.int (1 : Int32))])) (fun _ kq => XS.goto X3.here hx rfl (pc0 := 129) (pc' := 133) rfl (hb hby at_129) (by decide) (by decide) kq) ?_
    refine own_out X3 Bd.notSynchronized (v := (some (.int (1 : Int32)))) (fun h => by rw [Bd.returns] at h; cases h) (fun fs hr => retN X3 hx (t := .boolean) Bd.returns (by simp) (hb hby at_133) hr) ?_ (by decide) (by decide)
    rw [hh3]
    exact ⟨rfl, N4⟩
  · refine own_st (T' := s₁) (g' := (mkF m 30 #[.val (.int p1), .val (.int p2), .val (.int q), .unset, .unset] [])) (fun _ kq => XS.ifYes X0.here hx rfl (pc0 := 8) (pc' := 30) rfl (hb hby at_8) rfl ((if0 _ _).trans (feq (hq0 : ¬ (q = (0 : Int32)))).2) (by decide) (by decide) kq) ?_
    refine own_st (T' := s₁) (g' := (mkF m 31 #[.val (.int p1), .val (.int p2), .val (.int q), .unset, .unset] [(.int q)])) (fun _ kq => XS.iloadN X0.here hx rfl (hb hby at_30) rfl kq) ?_
    refine own_st (T' := s₁) (g' := (mkF m 32 #[.val (.int p1), .val (.int p2), .val (.int q), .unset, .unset] [(.int (1 : Int32)), (.int q)])) (fun _ kq => XS.iconst X0.here hx rfl (hb hby at_31) kq) ?_
    by_cases hq1 : q = (1 : Int32)
    · refine own_st (T' := s₁) (g' := (mkF m 35 #[.val (.int p1), .val (.int p2), .val (.int q), .unset, .unset] [])) (fun _ kq => XS.icmpNo X0.here hx rfl (hb hby at_32) rfl (teq (hq1 : q = (1 : Int32))).2 kq) ?_
      obtain ⟨T5, X5, e5, st5⟩ := getS2 X0 hx hZ hown (host := "") (Or.inl (hw _ (List.mem_of_getElem? (i := 17) rfl))) Via.refl e0 (S_NVL2.ext O0.2) (g := (mkF m 35 #[.val (.int p1), .val (.int p2), .val (.int q), .unset, .unset] [])) rfl (hb hby at_35)
      refine own_st (T' := T5) (g' := (mkF m 38 #[.val (.int p1), .val (.int p2), .val (.int q), .unset, .unset] [(.ref w_NVL2)])) (st5) ?_
      refine own_st (T' := T5) (g' := (mkF m 39 #[.val (.int p1), .val (.int p2), .val (.int q), .val (.ref w_NVL2), .unset] [])) (fun _ kq => XS.astoreN X5.here hx rfl (hb hby at_38) rfl rfl (l' := #[.val (.int p1), .val (.int p2), .val (.int q), .val (.ref w_NVL2), .unset]) rfl kq) ?_
      refine own_st (T' := T5) (g' := (mkF m 40 #[.val (.int p1), .val (.int p2), .val (.int q), .val (.ref w_NVL2), .unset] [(.int p2)])) (fun _ kq => XS.iloadN X5.here hx rfl (hb hby at_39) rfl kq) ?_
      refine own_st (T' := T5) (g' := (mkF m 41 #[.val (.int p1), .val (.int p2), .val (.int q), .val (.ref w_NVL2), .unset] [(.int (3 : Int32)), (.int p2)])) (fun _ kq => XS.iconst X5.here hx rfl (hb hby at_40) kq) ?_
      suffices hj : own_Go p e below (fun s₂ o => ∃ v L, o = .returned v ∧ Q0 Z p1 p2 w_NVL w_NVL2 w_COALESCE w_NULLIF w_DECODE h0 n0 v s₂.heap L ∧ FrameEnd s o s₂ L room_1.cells room_1.slots) T5 (mkF m 49 #[.val (.int p1), .val (.int p2), .val (.int q), .val (.ref w_NVL2), .unset] [(.int (if p2 = (3 : Int32) then (1 : Int32) else (0 : Int32)))]) by
        by_cases hc41_6 : p2 = (3 : Int32)
        · simp only [if_pos hc41_6] at hj
          refine own_st (T' := T5) (g' := (mkF m 44 #[.val (.int p1), .val (.int p2), .val (.int q), .val (.ref w_NVL2), .unset] [])) (fun _ kq => XS.icmpNo X5.here hx rfl (hb hby at_41) rfl (teq (hc41_6 : p2 = (3 : Int32))).2 kq) ?_
          refine own_st (T' := T5) (g' := (mkF m 45 #[.val (.int p1), .val (.int p2), .val (.int q), .val (.ref w_NVL2), .unset] [(.int (1 : Int32))])) (fun _ kq => XS.iconst X5.here hx rfl (hb hby at_44) kq) ?_
          refine own_st (T' := T5) (g' := (mkF m 49 #[.val (.int p1), .val (.int p2), .val (.int q), .val (.ref w_NVL2), .unset] [(.int (1 : Int32))])) (fun _ kq => XS.goto X5.here hx rfl (pc0 := 45) (pc' := 49) rfl (hb hby at_45) (by decide) (by decide) kq) ?_
          exact hj
        · simp only [if_neg hc41_6] at hj
          refine own_st (T' := T5) (g' := (mkF m 48 #[.val (.int p1), .val (.int p2), .val (.int q), .val (.ref w_NVL2), .unset] [])) (fun _ kq => XS.icmpYes X5.here hx rfl (pc0 := 41) (pc' := 48) rfl (hb hby at_41) rfl (feq (hc41_6 : ¬ (p2 = (3 : Int32)))).2 (by decide) (by decide) kq) ?_
          refine own_st (T' := T5) (g' := (mkF m 49 #[.val (.int p1), .val (.int p2), .val (.int q), .val (.ref w_NVL2), .unset] [(.int (0 : Int32))])) (fun _ kq => XS.iconst X5.here hx rfl (hb hby at_48) kq) ?_
          exact hj
      refine own_st (T' := T5) (g' := (mkF m 51 #[.val (.int p1), .val (.int p2), .val (.int q), .val (.ref w_NVL2), .val (.int (if p2 = (3 : Int32) then (1 : Int32) else (0 : Int32)))] [])) (fun _ kq => XS.istore X5.here hx rfl (hb hby at_49) rfl (l' := #[.val (.int p1), .val (.int p2), .val (.int q), .val (.ref w_NVL2), .val (.int (if p2 = (3 : Int32) then (1 : Int32) else (0 : Int32)))]) rfl kq) ?_
      refine own_st (T' := T5) (g' := (mkF m 118 #[.val (.int p1), .val (.int p2), .val (.int q), .val (.ref w_NVL2), .val (.int (if p2 = (3 : Int32) then (1 : Int32) else (0 : Int32)))] [])) (fun _ kq => XS.goto X5.here hx rfl (pc0 := 51) (pc' := 118) rfl (hb hby at_51) (by decide) (by decide) kq) ?_
      refine own_st (T' := T5) (g' := (mkF m 119 #[.val (.int p1), .val (.int p2), .val (.int q), .val (.ref w_NVL2), .val (.int (if p2 = (3 : Int32) then (1 : Int32) else (0 : Int32)))] [(.ref w_NVL2)])) (fun _ kq => XS.aloadN X5.here hx rfl (hb hby at_118) rfl rfl kq) ?_
      refine own_st (T' := T5) (g' := (mkF m 120 #[.val (.int p1), .val (.int p2), .val (.int q), .val (.ref w_NVL2), .val (.int (if p2 = (3 : Int32) then (1 : Int32) else (0 : Int32)))] [(.int p2), (.ref w_NVL2)])) (fun _ kq => XS.iloadN X5.here hx rfl (hb hby at_119) rfl kq) ?_
      obtain ⟨cq7, kq7, q7a, q7b, q7c⟩ := isOf hZ e5 (E_NVL2.ext O0.2)
      obtain ⟨_, _, ⟨T7, L7, k7, n7⟩, -, X7, ⟨Lc7, hQ7, l7, y7, z7⟩, st7⟩ := X5.virtualBack hx (y := (⟨"com/example/table_rules/tablerules/engine/Choice", "takes", "(I)Z"⟩ : MethodName)) (z := (⟨"com/example/table_rules/tablerules/engine/Choice", "takes", "(I)Z"⟩ : MethodName)) hown (mvT hZ (hw _ (List.mem_of_getElem? (i := 4) rfl))) (mvT hZ (hw _ (List.mem_of_getElem? (i := 5) rfl))) (notFace_of_selects (args := #[]) (mvT hZ (hw _ (List.mem_of_getElem? (i := 7) rfl)))) (mvT hZ (hw _ (List.mem_of_getElem? (i := 7) rfl))) (mvT hZ (hw _ (List.mem_of_getElem? (i := 6) rfl))) (by decide) (backOf (W := 0) (rmtakes l Z a0 hw [] w_NVL2 p2 (3 : Int32) (3 : Int32) h0 n0 O0 (L_NVL2.ext O0.2) (H_NVL2.ext O0.2)) hZ (hw _ (List.mem_of_getElem? (i := 8) rfl)) (hw _ (List.mem_of_getElem? (i := 2) rfl)) (by decide) (by decide)) q7a q7c (g := (mkF m 120 #[.val (.int p1), .val (.int p2), .val (.int q), .val (.ref w_NVL2), .val (.int (if p2 = (3 : Int32) then (1 : Int32) else (0 : Int32)))] [(.int p2), (.ref w_NVL2)])) rfl (by rw [hml]; rfl) (Steps.refl _) (argsL := [(.int p2)]) (rest := []) (lenOf pd_I_Z_244 rfl) rfl (by show 2 * 0 + _ ≤ _; exact Nat.le_of_eq rfl) (hb hby at_120) (fun _ _ => ⟨rfl, e5, (by decide : 0 + 0 ≤ _), (by decide : 0 + 0 ≤ _)⟩)
      dsimp only [Pt.U, Pt.locs, Pt.cells, Pt.slots] at X7 l7 y7 z7 st7 hQ7
      subst l7 y7 z7
      obtain ⟨rfl, Nq7, hh7⟩ := hQ7
      have N8 := Fr.app N0 Nq7
      refine own_ts (T' := T7) (g' := (mkF m 123 #[.val (.int p1), .val (.int p2), .val (.int q), .val (.ref w_NVL2), .val (.int (if p2 = (3 : Int32) then (1 : Int32) else (0 : Int32)))] [(.int (own_takes p2 (3 : Int32) (3 : Int32)))])) st7 ?_
      refine own_st (T' := T7) (g' := (mkF m 125 #[.val (.int p1), .val (.int p2), .val (.int q), .val (.ref w_NVL2), .val (.int (if p2 = (3 : Int32) then (1 : Int32) else (0 : Int32)))] [(.int (if p2 = (3 : Int32) then (1 : Int32) else (0 : Int32))), (.int (own_takes p2 (3 : Int32) (3 : Int32)))])) (fun _ kq => XS.iload X7.here hx rfl (hb hby at_123) rfl kq) ?_
      refine own_st (T' := T7) (g' := (mkF m 128 #[.val (.int p1), .val (.int p2), .val (.int q), .val (.ref w_NVL2), .val (.int (if p2 = (3 : Int32) then (1 : Int32) else (0 : Int32)))] [])) (fun _ kq => XS.icmpNo X7.here hx rfl (hb hby at_125) rfl (teq (own_two p2 (3 : Int32) : (own_takes p2 (3 : Int32) (3 : Int32)) = (if p2 = (3 : Int32) then (1 : Int32) else (0 : Int32)))).2 kq) ?_
      refine own_st (T' := T7) (g' := (mkF m 129 #[.val (.int p1), .val (.int p2), .val (.int q), .val (.ref w_NVL2), .val (.int (if p2 = (3 : Int32) then (1 : Int32) else (0 : Int32)))] [(.int (1 : Int32))])) (fun _ kq => XS.iconst X7.here hx rfl (hb hby at_128) kq) ?_
      refine own_st (T' := T7) (g' := (mkF m 133 #[.val (.int p1), .val (.int p2), .val (.int q), .val (.ref w_NVL2), .val (.int (if p2 = (3 : Int32) then (1 : Int32) else (0 : Int32)))] [(.int (1 : Int32))])) (fun _ kq => XS.goto X7.here hx rfl (pc0 := 129) (pc' := 133) rfl (hb hby at_129) (by decide) (by decide) kq) ?_
      refine own_out X7 Bd.notSynchronized (v := (some (.int (1 : Int32)))) (fun h => by rw [Bd.returns] at h; cases h) (fun fs hr => retN X7 hx (t := .boolean) Bd.returns (by simp) (hb hby at_133) hr) ?_ (by decide) (by decide)
      rw [hh7]
      exact ⟨rfl, N8⟩
    · refine own_st (T' := s₁) (g' := (mkF m 54 #[.val (.int p1), .val (.int p2), .val (.int q), .unset, .unset] [])) (fun _ kq => XS.icmpYes X0.here hx rfl (pc0 := 32) (pc' := 54) rfl (hb hby at_32) rfl (feq (hq1 : ¬ (q = (1 : Int32)))).2 (by decide) (by decide) kq) ?_
      refine own_st (T' := s₁) (g' := (mkF m 55 #[.val (.int p1), .val (.int p2), .val (.int q), .unset, .unset] [(.int q)])) (fun _ kq => XS.iloadN X0.here hx rfl (hb hby at_54) rfl kq) ?_
      refine own_st (T' := s₁) (g' := (mkF m 56 #[.val (.int p1), .val (.int p2), .val (.int q), .unset, .unset] [(.int (2 : Int32)), (.int q)])) (fun _ kq => XS.iconst X0.here hx rfl (hb hby at_55) kq) ?_
      by_cases hq2 : q = (2 : Int32)
      · refine own_st (T' := s₁) (g' := (mkF m 59 #[.val (.int p1), .val (.int p2), .val (.int q), .unset, .unset] [])) (fun _ kq => XS.icmpNo X0.here hx rfl (hb hby at_56) rfl (teq (hq2 : q = (2 : Int32))).2 kq) ?_
        obtain ⟨T9, X9, e9, st9⟩ := getS2 X0 hx hZ hown (host := "") (Or.inl (hw _ (List.mem_of_getElem? (i := 19) rfl))) Via.refl e0 (S_COALESCE.ext O0.2) (g := (mkF m 59 #[.val (.int p1), .val (.int p2), .val (.int q), .unset, .unset] [])) rfl (hb hby at_59)
        refine own_st (T' := T9) (g' := (mkF m 62 #[.val (.int p1), .val (.int p2), .val (.int q), .unset, .unset] [(.ref w_COALESCE)])) (st9) ?_
        refine own_st (T' := T9) (g' := (mkF m 63 #[.val (.int p1), .val (.int p2), .val (.int q), .val (.ref w_COALESCE), .unset] [])) (fun _ kq => XS.astoreN X9.here hx rfl (hb hby at_62) rfl rfl (l' := #[.val (.int p1), .val (.int p2), .val (.int q), .val (.ref w_COALESCE), .unset]) rfl kq) ?_
        refine own_st (T' := T9) (g' := (mkF m 64 #[.val (.int p1), .val (.int p2), .val (.int q), .val (.ref w_COALESCE), .unset] [(.int p2)])) (fun _ kq => XS.iloadN X9.here hx rfl (hb hby at_63) rfl kq) ?_
        refine own_st (T' := T9) (g' := (mkF m 65 #[.val (.int p1), .val (.int p2), .val (.int q), .val (.ref w_COALESCE), .unset] [(.int (2 : Int32)), (.int p2)])) (fun _ kq => XS.iconst X9.here hx rfl (hb hby at_64) kq) ?_
        suffices hj : own_Go p e below (fun s₂ o => ∃ v L, o = .returned v ∧ Q0 Z p1 p2 w_NVL w_NVL2 w_COALESCE w_NULLIF w_DECODE h0 n0 v s₂.heap L ∧ FrameEnd s o s₂ L room_1.cells room_1.slots) T9 (mkF m 73 #[.val (.int p1), .val (.int p2), .val (.int q), .val (.ref w_COALESCE), .unset] [(.int (if p2 < (2 : Int32) then (0 : Int32) else (1 : Int32)))]) by
          by_cases hc65_10 : p2 < (2 : Int32)
          · simp only [if_pos hc65_10] at hj
            refine own_st (T' := T9) (g' := (mkF m 72 #[.val (.int p1), .val (.int p2), .val (.int q), .val (.ref w_COALESCE), .unset] [])) (fun _ kq => XS.icmpYes X9.here hx rfl (pc0 := 65) (pc' := 72) rfl (hb hby at_65) rfl (tlt (hc65_10 : p2 < (2 : Int32))).1 (by decide) (by decide) kq) ?_
            refine own_st (T' := T9) (g' := (mkF m 73 #[.val (.int p1), .val (.int p2), .val (.int q), .val (.ref w_COALESCE), .unset] [(.int (0 : Int32))])) (fun _ kq => XS.iconst X9.here hx rfl (hb hby at_72) kq) ?_
            exact hj
          · simp only [if_neg hc65_10] at hj
            refine own_st (T' := T9) (g' := (mkF m 68 #[.val (.int p1), .val (.int p2), .val (.int q), .val (.ref w_COALESCE), .unset] [])) (fun _ kq => XS.icmpNo X9.here hx rfl (hb hby at_65) rfl (flt (hc65_10 : ¬ (p2 < (2 : Int32)))).1 kq) ?_
            refine own_st (T' := T9) (g' := (mkF m 69 #[.val (.int p1), .val (.int p2), .val (.int q), .val (.ref w_COALESCE), .unset] [(.int (1 : Int32))])) (fun _ kq => XS.iconst X9.here hx rfl (hb hby at_68) kq) ?_
            refine own_st (T' := T9) (g' := (mkF m 73 #[.val (.int p1), .val (.int p2), .val (.int q), .val (.ref w_COALESCE), .unset] [(.int (1 : Int32))])) (fun _ kq => XS.goto X9.here hx rfl (pc0 := 69) (pc' := 73) rfl (hb hby at_69) (by decide) (by decide) kq) ?_
            exact hj
        refine own_st (T' := T9) (g' := (mkF m 75 #[.val (.int p1), .val (.int p2), .val (.int q), .val (.ref w_COALESCE), .val (.int (if p2 < (2 : Int32) then (0 : Int32) else (1 : Int32)))] [])) (fun _ kq => XS.istore X9.here hx rfl (hb hby at_73) rfl (l' := #[.val (.int p1), .val (.int p2), .val (.int q), .val (.ref w_COALESCE), .val (.int (if p2 < (2 : Int32) then (0 : Int32) else (1 : Int32)))]) rfl kq) ?_
        refine own_st (T' := T9) (g' := (mkF m 118 #[.val (.int p1), .val (.int p2), .val (.int q), .val (.ref w_COALESCE), .val (.int (if p2 < (2 : Int32) then (0 : Int32) else (1 : Int32)))] [])) (fun _ kq => XS.goto X9.here hx rfl (pc0 := 75) (pc' := 118) rfl (hb hby at_75) (by decide) (by decide) kq) ?_
        refine own_st (T' := T9) (g' := (mkF m 119 #[.val (.int p1), .val (.int p2), .val (.int q), .val (.ref w_COALESCE), .val (.int (if p2 < (2 : Int32) then (0 : Int32) else (1 : Int32)))] [(.ref w_COALESCE)])) (fun _ kq => XS.aloadN X9.here hx rfl (hb hby at_118) rfl rfl kq) ?_
        refine own_st (T' := T9) (g' := (mkF m 120 #[.val (.int p1), .val (.int p2), .val (.int q), .val (.ref w_COALESCE), .val (.int (if p2 < (2 : Int32) then (0 : Int32) else (1 : Int32)))] [(.int p2), (.ref w_COALESCE)])) (fun _ kq => XS.iloadN X9.here hx rfl (hb hby at_119) rfl kq) ?_
        obtain ⟨cq11, kq11, q11a, q11b, q11c⟩ := isOf hZ e9 (E_COALESCE.ext O0.2)
        obtain ⟨_, _, ⟨T11, L11, k11, n11⟩, -, X11, ⟨Lc11, hQ11, l11, y11, z11⟩, st11⟩ := X9.virtualBack hx (y := (⟨"com/example/table_rules/tablerules/engine/Choice", "takes", "(I)Z"⟩ : MethodName)) (z := (⟨"com/example/table_rules/tablerules/engine/Choice", "takes", "(I)Z"⟩ : MethodName)) hown (mvT hZ (hw _ (List.mem_of_getElem? (i := 4) rfl))) (mvT hZ (hw _ (List.mem_of_getElem? (i := 5) rfl))) (notFace_of_selects (args := #[]) (mvT hZ (hw _ (List.mem_of_getElem? (i := 7) rfl)))) (mvT hZ (hw _ (List.mem_of_getElem? (i := 7) rfl))) (mvT hZ (hw _ (List.mem_of_getElem? (i := 6) rfl))) (by decide) (backOf (W := 0) (rmtakes l Z a0 hw [] w_COALESCE p2 (2 : Int32) (2147483647 : Int32) h0 n0 O0 (L_COALESCE.ext O0.2) (H_COALESCE.ext O0.2)) hZ (hw _ (List.mem_of_getElem? (i := 8) rfl)) (hw _ (List.mem_of_getElem? (i := 2) rfl)) (by decide) (by decide)) q11a q11c (g := (mkF m 120 #[.val (.int p1), .val (.int p2), .val (.int q), .val (.ref w_COALESCE), .val (.int (if p2 < (2 : Int32) then (0 : Int32) else (1 : Int32)))] [(.int p2), (.ref w_COALESCE)])) rfl (by rw [hml]; rfl) (Steps.refl _) (argsL := [(.int p2)]) (rest := []) (lenOf pd_I_Z_244 rfl) rfl (by show 2 * 0 + _ ≤ _; exact Nat.le_of_eq rfl) (hb hby at_120) (fun _ _ => ⟨rfl, e9, (by decide : 0 + 0 ≤ _), (by decide : 0 + 0 ≤ _)⟩)
        dsimp only [Pt.U, Pt.locs, Pt.cells, Pt.slots] at X11 l11 y11 z11 st11 hQ11
        subst l11 y11 z11
        obtain ⟨rfl, Nq11, hh11⟩ := hQ11
        have N12 := Fr.app N0 Nq11
        refine own_ts (T' := T11) (g' := (mkF m 123 #[.val (.int p1), .val (.int p2), .val (.int q), .val (.ref w_COALESCE), .val (.int (if p2 < (2 : Int32) then (0 : Int32) else (1 : Int32)))] [(.int (own_takes p2 (2 : Int32) (2147483647 : Int32)))])) st11 ?_
        refine own_st (T' := T11) (g' := (mkF m 125 #[.val (.int p1), .val (.int p2), .val (.int q), .val (.ref w_COALESCE), .val (.int (if p2 < (2 : Int32) then (0 : Int32) else (1 : Int32)))] [(.int (if p2 < (2 : Int32) then (0 : Int32) else (1 : Int32))), (.int (own_takes p2 (2 : Int32) (2147483647 : Int32)))])) (fun _ kq => XS.iload X11.here hx rfl (hb hby at_123) rfl kq) ?_
        refine own_st (T' := T11) (g' := (mkF m 128 #[.val (.int p1), .val (.int p2), .val (.int q), .val (.ref w_COALESCE), .val (.int (if p2 < (2 : Int32) then (0 : Int32) else (1 : Int32)))] [])) (fun _ kq => XS.icmpNo X11.here hx rfl (hb hby at_125) rfl (teq (own_up p2 (2 : Int32) : (own_takes p2 (2 : Int32) (2147483647 : Int32)) = (if p2 < (2 : Int32) then (0 : Int32) else (1 : Int32)))).2 kq) ?_
        refine own_st (T' := T11) (g' := (mkF m 129 #[.val (.int p1), .val (.int p2), .val (.int q), .val (.ref w_COALESCE), .val (.int (if p2 < (2 : Int32) then (0 : Int32) else (1 : Int32)))] [(.int (1 : Int32))])) (fun _ kq => XS.iconst X11.here hx rfl (hb hby at_128) kq) ?_
        refine own_st (T' := T11) (g' := (mkF m 133 #[.val (.int p1), .val (.int p2), .val (.int q), .val (.ref w_COALESCE), .val (.int (if p2 < (2 : Int32) then (0 : Int32) else (1 : Int32)))] [(.int (1 : Int32))])) (fun _ kq => XS.goto X11.here hx rfl (pc0 := 129) (pc' := 133) rfl (hb hby at_129) (by decide) (by decide) kq) ?_
        refine own_out X11 Bd.notSynchronized (v := (some (.int (1 : Int32)))) (fun h => by rw [Bd.returns] at h; cases h) (fun fs hr => retN X11 hx (t := .boolean) Bd.returns (by simp) (hb hby at_133) hr) ?_ (by decide) (by decide)
        rw [hh11]
        exact ⟨rfl, N12⟩
      · refine own_st (T' := s₁) (g' := (mkF m 78 #[.val (.int p1), .val (.int p2), .val (.int q), .unset, .unset] [])) (fun _ kq => XS.icmpYes X0.here hx rfl (pc0 := 56) (pc' := 78) rfl (hb hby at_56) rfl (feq (hq2 : ¬ (q = (2 : Int32)))).2 (by decide) (by decide) kq) ?_
        refine own_st (T' := s₁) (g' := (mkF m 79 #[.val (.int p1), .val (.int p2), .val (.int q), .unset, .unset] [(.int q)])) (fun _ kq => XS.iloadN X0.here hx rfl (hb hby at_78) rfl kq) ?_
        refine own_st (T' := s₁) (g' := (mkF m 80 #[.val (.int p1), .val (.int p2), .val (.int q), .unset, .unset] [(.int (3 : Int32)), (.int q)])) (fun _ kq => XS.iconst X0.here hx rfl (hb hby at_79) kq) ?_
        by_cases hq3 : q = (3 : Int32)
        · refine own_st (T' := s₁) (g' := (mkF m 83 #[.val (.int p1), .val (.int p2), .val (.int q), .unset, .unset] [])) (fun _ kq => XS.icmpNo X0.here hx rfl (hb hby at_80) rfl (teq (hq3 : q = (3 : Int32))).2 kq) ?_
          obtain ⟨T13, X13, e13, st13⟩ := getS2 X0 hx hZ hown (host := "") (Or.inl (hw _ (List.mem_of_getElem? (i := 15) rfl))) Via.refl e0 (S_NULLIF.ext O0.2) (g := (mkF m 83 #[.val (.int p1), .val (.int p2), .val (.int q), .unset, .unset] [])) rfl (hb hby at_83)
          refine own_st (T' := T13) (g' := (mkF m 86 #[.val (.int p1), .val (.int p2), .val (.int q), .unset, .unset] [(.ref w_NULLIF)])) (st13) ?_
          refine own_st (T' := T13) (g' := (mkF m 87 #[.val (.int p1), .val (.int p2), .val (.int q), .val (.ref w_NULLIF), .unset] [])) (fun _ kq => XS.astoreN X13.here hx rfl (hb hby at_86) rfl rfl (l' := #[.val (.int p1), .val (.int p2), .val (.int q), .val (.ref w_NULLIF), .unset]) rfl kq) ?_
          refine own_st (T' := T13) (g' := (mkF m 88 #[.val (.int p1), .val (.int p2), .val (.int q), .val (.ref w_NULLIF), .unset] [(.int p2)])) (fun _ kq => XS.iloadN X13.here hx rfl (hb hby at_87) rfl kq) ?_
          refine own_st (T' := T13) (g' := (mkF m 89 #[.val (.int p1), .val (.int p2), .val (.int q), .val (.ref w_NULLIF), .unset] [(.int (2 : Int32)), (.int p2)])) (fun _ kq => XS.iconst X13.here hx rfl (hb hby at_88) kq) ?_
          suffices hj : own_Go p e below (fun s₂ o => ∃ v L, o = .returned v ∧ Q0 Z p1 p2 w_NVL w_NVL2 w_COALESCE w_NULLIF w_DECODE h0 n0 v s₂.heap L ∧ FrameEnd s o s₂ L room_1.cells room_1.slots) T13 (mkF m 97 #[.val (.int p1), .val (.int p2), .val (.int q), .val (.ref w_NULLIF), .unset] [(.int (if p2 = (2 : Int32) then (1 : Int32) else (0 : Int32)))]) by
            by_cases hc89_14 : p2 = (2 : Int32)
            · simp only [if_pos hc89_14] at hj
              refine own_st (T' := T13) (g' := (mkF m 92 #[.val (.int p1), .val (.int p2), .val (.int q), .val (.ref w_NULLIF), .unset] [])) (fun _ kq => XS.icmpNo X13.here hx rfl (hb hby at_89) rfl (teq (hc89_14 : p2 = (2 : Int32))).2 kq) ?_
              refine own_st (T' := T13) (g' := (mkF m 93 #[.val (.int p1), .val (.int p2), .val (.int q), .val (.ref w_NULLIF), .unset] [(.int (1 : Int32))])) (fun _ kq => XS.iconst X13.here hx rfl (hb hby at_92) kq) ?_
              refine own_st (T' := T13) (g' := (mkF m 97 #[.val (.int p1), .val (.int p2), .val (.int q), .val (.ref w_NULLIF), .unset] [(.int (1 : Int32))])) (fun _ kq => XS.goto X13.here hx rfl (pc0 := 93) (pc' := 97) rfl (hb hby at_93) (by decide) (by decide) kq) ?_
              exact hj
            · simp only [if_neg hc89_14] at hj
              refine own_st (T' := T13) (g' := (mkF m 96 #[.val (.int p1), .val (.int p2), .val (.int q), .val (.ref w_NULLIF), .unset] [])) (fun _ kq => XS.icmpYes X13.here hx rfl (pc0 := 89) (pc' := 96) rfl (hb hby at_89) rfl (feq (hc89_14 : ¬ (p2 = (2 : Int32)))).2 (by decide) (by decide) kq) ?_
              refine own_st (T' := T13) (g' := (mkF m 97 #[.val (.int p1), .val (.int p2), .val (.int q), .val (.ref w_NULLIF), .unset] [(.int (0 : Int32))])) (fun _ kq => XS.iconst X13.here hx rfl (hb hby at_96) kq) ?_
              exact hj
          refine own_st (T' := T13) (g' := (mkF m 99 #[.val (.int p1), .val (.int p2), .val (.int q), .val (.ref w_NULLIF), .val (.int (if p2 = (2 : Int32) then (1 : Int32) else (0 : Int32)))] [])) (fun _ kq => XS.istore X13.here hx rfl (hb hby at_97) rfl (l' := #[.val (.int p1), .val (.int p2), .val (.int q), .val (.ref w_NULLIF), .val (.int (if p2 = (2 : Int32) then (1 : Int32) else (0 : Int32)))]) rfl kq) ?_
          refine own_st (T' := T13) (g' := (mkF m 118 #[.val (.int p1), .val (.int p2), .val (.int q), .val (.ref w_NULLIF), .val (.int (if p2 = (2 : Int32) then (1 : Int32) else (0 : Int32)))] [])) (fun _ kq => XS.goto X13.here hx rfl (pc0 := 99) (pc' := 118) rfl (hb hby at_99) (by decide) (by decide) kq) ?_
          refine own_st (T' := T13) (g' := (mkF m 119 #[.val (.int p1), .val (.int p2), .val (.int q), .val (.ref w_NULLIF), .val (.int (if p2 = (2 : Int32) then (1 : Int32) else (0 : Int32)))] [(.ref w_NULLIF)])) (fun _ kq => XS.aloadN X13.here hx rfl (hb hby at_118) rfl rfl kq) ?_
          refine own_st (T' := T13) (g' := (mkF m 120 #[.val (.int p1), .val (.int p2), .val (.int q), .val (.ref w_NULLIF), .val (.int (if p2 = (2 : Int32) then (1 : Int32) else (0 : Int32)))] [(.int p2), (.ref w_NULLIF)])) (fun _ kq => XS.iloadN X13.here hx rfl (hb hby at_119) rfl kq) ?_
          obtain ⟨cq15, kq15, q15a, q15b, q15c⟩ := isOf hZ e13 (E_NULLIF.ext O0.2)
          obtain ⟨_, _, ⟨T15, L15, k15, n15⟩, -, X15, ⟨Lc15, hQ15, l15, y15, z15⟩, st15⟩ := X13.virtualBack hx (y := (⟨"com/example/table_rules/tablerules/engine/Choice", "takes", "(I)Z"⟩ : MethodName)) (z := (⟨"com/example/table_rules/tablerules/engine/Choice", "takes", "(I)Z"⟩ : MethodName)) hown (mvT hZ (hw _ (List.mem_of_getElem? (i := 4) rfl))) (mvT hZ (hw _ (List.mem_of_getElem? (i := 5) rfl))) (notFace_of_selects (args := #[]) (mvT hZ (hw _ (List.mem_of_getElem? (i := 7) rfl)))) (mvT hZ (hw _ (List.mem_of_getElem? (i := 7) rfl))) (mvT hZ (hw _ (List.mem_of_getElem? (i := 6) rfl))) (by decide) (backOf (W := 0) (rmtakes l Z a0 hw [] w_NULLIF p2 (2 : Int32) (2 : Int32) h0 n0 O0 (L_NULLIF.ext O0.2) (H_NULLIF.ext O0.2)) hZ (hw _ (List.mem_of_getElem? (i := 8) rfl)) (hw _ (List.mem_of_getElem? (i := 2) rfl)) (by decide) (by decide)) q15a q15c (g := (mkF m 120 #[.val (.int p1), .val (.int p2), .val (.int q), .val (.ref w_NULLIF), .val (.int (if p2 = (2 : Int32) then (1 : Int32) else (0 : Int32)))] [(.int p2), (.ref w_NULLIF)])) rfl (by rw [hml]; rfl) (Steps.refl _) (argsL := [(.int p2)]) (rest := []) (lenOf pd_I_Z_244 rfl) rfl (by show 2 * 0 + _ ≤ _; exact Nat.le_of_eq rfl) (hb hby at_120) (fun _ _ => ⟨rfl, e13, (by decide : 0 + 0 ≤ _), (by decide : 0 + 0 ≤ _)⟩)
          dsimp only [Pt.U, Pt.locs, Pt.cells, Pt.slots] at X15 l15 y15 z15 st15 hQ15
          subst l15 y15 z15
          obtain ⟨rfl, Nq15, hh15⟩ := hQ15
          have N16 := Fr.app N0 Nq15
          refine own_ts (T' := T15) (g' := (mkF m 123 #[.val (.int p1), .val (.int p2), .val (.int q), .val (.ref w_NULLIF), .val (.int (if p2 = (2 : Int32) then (1 : Int32) else (0 : Int32)))] [(.int (own_takes p2 (2 : Int32) (2 : Int32)))])) st15 ?_
          refine own_st (T' := T15) (g' := (mkF m 125 #[.val (.int p1), .val (.int p2), .val (.int q), .val (.ref w_NULLIF), .val (.int (if p2 = (2 : Int32) then (1 : Int32) else (0 : Int32)))] [(.int (if p2 = (2 : Int32) then (1 : Int32) else (0 : Int32))), (.int (own_takes p2 (2 : Int32) (2 : Int32)))])) (fun _ kq => XS.iload X15.here hx rfl (hb hby at_123) rfl kq) ?_
          refine own_st (T' := T15) (g' := (mkF m 128 #[.val (.int p1), .val (.int p2), .val (.int q), .val (.ref w_NULLIF), .val (.int (if p2 = (2 : Int32) then (1 : Int32) else (0 : Int32)))] [])) (fun _ kq => XS.icmpNo X15.here hx rfl (hb hby at_125) rfl (teq (own_two p2 (2 : Int32) : (own_takes p2 (2 : Int32) (2 : Int32)) = (if p2 = (2 : Int32) then (1 : Int32) else (0 : Int32)))).2 kq) ?_
          refine own_st (T' := T15) (g' := (mkF m 129 #[.val (.int p1), .val (.int p2), .val (.int q), .val (.ref w_NULLIF), .val (.int (if p2 = (2 : Int32) then (1 : Int32) else (0 : Int32)))] [(.int (1 : Int32))])) (fun _ kq => XS.iconst X15.here hx rfl (hb hby at_128) kq) ?_
          refine own_st (T' := T15) (g' := (mkF m 133 #[.val (.int p1), .val (.int p2), .val (.int q), .val (.ref w_NULLIF), .val (.int (if p2 = (2 : Int32) then (1 : Int32) else (0 : Int32)))] [(.int (1 : Int32))])) (fun _ kq => XS.goto X15.here hx rfl (pc0 := 129) (pc' := 133) rfl (hb hby at_129) (by decide) (by decide) kq) ?_
          refine own_out X15 Bd.notSynchronized (v := (some (.int (1 : Int32)))) (fun h => by rw [Bd.returns] at h; cases h) (fun fs hr => retN X15 hx (t := .boolean) Bd.returns (by simp) (hb hby at_133) hr) ?_ (by decide) (by decide)
          rw [hh15]
          exact ⟨rfl, N16⟩
        · refine own_st (T' := s₁) (g' := (mkF m 102 #[.val (.int p1), .val (.int p2), .val (.int q), .unset, .unset] [])) (fun _ kq => XS.icmpYes X0.here hx rfl (pc0 := 80) (pc' := 102) rfl (hb hby at_80) rfl (feq (hq3 : ¬ (q = (3 : Int32)))).2 (by decide) (by decide) kq) ?_
          obtain ⟨T17, X17, e17, st17⟩ := getS2 X0 hx hZ hown (host := "") (Or.inl (hw _ (List.mem_of_getElem? (i := 13) rfl))) Via.refl e0 (S_DECODE.ext O0.2) (g := (mkF m 102 #[.val (.int p1), .val (.int p2), .val (.int q), .unset, .unset] [])) rfl (hb hby at_102)
          refine own_st (T' := T17) (g' := (mkF m 105 #[.val (.int p1), .val (.int p2), .val (.int q), .unset, .unset] [(.ref w_DECODE)])) (st17) ?_
          refine own_st (T' := T17) (g' := (mkF m 106 #[.val (.int p1), .val (.int p2), .val (.int q), .val (.ref w_DECODE), .unset] [])) (fun _ kq => XS.astoreN X17.here hx rfl (hb hby at_105) rfl rfl (l' := #[.val (.int p1), .val (.int p2), .val (.int q), .val (.ref w_DECODE), .unset]) rfl kq) ?_
          refine own_st (T' := T17) (g' := (mkF m 107 #[.val (.int p1), .val (.int p2), .val (.int q), .val (.ref w_DECODE), .unset] [(.int p2)])) (fun _ kq => XS.iloadN X17.here hx rfl (hb hby at_106) rfl kq) ?_
          refine own_st (T' := T17) (g' := (mkF m 108 #[.val (.int p1), .val (.int p2), .val (.int q), .val (.ref w_DECODE), .unset] [(.int (3 : Int32)), (.int p2)])) (fun _ kq => XS.iconst X17.here hx rfl (hb hby at_107) kq) ?_
          suffices hj : own_Go p e below (fun s₂ o => ∃ v L, o = .returned v ∧ Q0 Z p1 p2 w_NVL w_NVL2 w_COALESCE w_NULLIF w_DECODE h0 n0 v s₂.heap L ∧ FrameEnd s o s₂ L room_1.cells room_1.slots) T17 (mkF m 116 #[.val (.int p1), .val (.int p2), .val (.int q), .val (.ref w_DECODE), .unset] [(.int (if p2 < (3 : Int32) then (0 : Int32) else (1 : Int32)))]) by
            by_cases hc108_18 : p2 < (3 : Int32)
            · simp only [if_pos hc108_18] at hj
              refine own_st (T' := T17) (g' := (mkF m 115 #[.val (.int p1), .val (.int p2), .val (.int q), .val (.ref w_DECODE), .unset] [])) (fun _ kq => XS.icmpYes X17.here hx rfl (pc0 := 108) (pc' := 115) rfl (hb hby at_108) rfl (tlt (hc108_18 : p2 < (3 : Int32))).1 (by decide) (by decide) kq) ?_
              refine own_st (T' := T17) (g' := (mkF m 116 #[.val (.int p1), .val (.int p2), .val (.int q), .val (.ref w_DECODE), .unset] [(.int (0 : Int32))])) (fun _ kq => XS.iconst X17.here hx rfl (hb hby at_115) kq) ?_
              exact hj
            · simp only [if_neg hc108_18] at hj
              refine own_st (T' := T17) (g' := (mkF m 111 #[.val (.int p1), .val (.int p2), .val (.int q), .val (.ref w_DECODE), .unset] [])) (fun _ kq => XS.icmpNo X17.here hx rfl (hb hby at_108) rfl (flt (hc108_18 : ¬ (p2 < (3 : Int32)))).1 kq) ?_
              refine own_st (T' := T17) (g' := (mkF m 112 #[.val (.int p1), .val (.int p2), .val (.int q), .val (.ref w_DECODE), .unset] [(.int (1 : Int32))])) (fun _ kq => XS.iconst X17.here hx rfl (hb hby at_111) kq) ?_
              refine own_st (T' := T17) (g' := (mkF m 116 #[.val (.int p1), .val (.int p2), .val (.int q), .val (.ref w_DECODE), .unset] [(.int (1 : Int32))])) (fun _ kq => XS.goto X17.here hx rfl (pc0 := 112) (pc' := 116) rfl (hb hby at_112) (by decide) (by decide) kq) ?_
              exact hj
          refine own_st (T' := T17) (g' := (mkF m 118 #[.val (.int p1), .val (.int p2), .val (.int q), .val (.ref w_DECODE), .val (.int (if p2 < (3 : Int32) then (0 : Int32) else (1 : Int32)))] [])) (fun _ kq => XS.istore X17.here hx rfl (hb hby at_116) rfl (l' := #[.val (.int p1), .val (.int p2), .val (.int q), .val (.ref w_DECODE), .val (.int (if p2 < (3 : Int32) then (0 : Int32) else (1 : Int32)))]) rfl kq) ?_
          refine own_st (T' := T17) (g' := (mkF m 119 #[.val (.int p1), .val (.int p2), .val (.int q), .val (.ref w_DECODE), .val (.int (if p2 < (3 : Int32) then (0 : Int32) else (1 : Int32)))] [(.ref w_DECODE)])) (fun _ kq => XS.aloadN X17.here hx rfl (hb hby at_118) rfl rfl kq) ?_
          refine own_st (T' := T17) (g' := (mkF m 120 #[.val (.int p1), .val (.int p2), .val (.int q), .val (.ref w_DECODE), .val (.int (if p2 < (3 : Int32) then (0 : Int32) else (1 : Int32)))] [(.int p2), (.ref w_DECODE)])) (fun _ kq => XS.iloadN X17.here hx rfl (hb hby at_119) rfl kq) ?_
          obtain ⟨cq19, kq19, q19a, q19b, q19c⟩ := isOf hZ e17 (E_DECODE.ext O0.2)
          obtain ⟨_, _, ⟨T19, L19, k19, n19⟩, -, X19, ⟨Lc19, hQ19, l19, y19, z19⟩, st19⟩ := X17.virtualBack hx (y := (⟨"com/example/table_rules/tablerules/engine/Choice", "takes", "(I)Z"⟩ : MethodName)) (z := (⟨"com/example/table_rules/tablerules/engine/Choice", "takes", "(I)Z"⟩ : MethodName)) hown (mvT hZ (hw _ (List.mem_of_getElem? (i := 4) rfl))) (mvT hZ (hw _ (List.mem_of_getElem? (i := 5) rfl))) (notFace_of_selects (args := #[]) (mvT hZ (hw _ (List.mem_of_getElem? (i := 7) rfl)))) (mvT hZ (hw _ (List.mem_of_getElem? (i := 7) rfl))) (mvT hZ (hw _ (List.mem_of_getElem? (i := 6) rfl))) (by decide) (backOf (W := 0) (rmtakes l Z a0 hw [] w_DECODE p2 (3 : Int32) (2147483647 : Int32) h0 n0 O0 (L_DECODE.ext O0.2) (H_DECODE.ext O0.2)) hZ (hw _ (List.mem_of_getElem? (i := 8) rfl)) (hw _ (List.mem_of_getElem? (i := 2) rfl)) (by decide) (by decide)) q19a q19c (g := (mkF m 120 #[.val (.int p1), .val (.int p2), .val (.int q), .val (.ref w_DECODE), .val (.int (if p2 < (3 : Int32) then (0 : Int32) else (1 : Int32)))] [(.int p2), (.ref w_DECODE)])) rfl (by rw [hml]; rfl) (Steps.refl _) (argsL := [(.int p2)]) (rest := []) (lenOf pd_I_Z_244 rfl) rfl (by show 2 * 0 + _ ≤ _; exact Nat.le_of_eq rfl) (hb hby at_120) (fun _ _ => ⟨rfl, e17, (by decide : 0 + 0 ≤ _), (by decide : 0 + 0 ≤ _)⟩)
          dsimp only [Pt.U, Pt.locs, Pt.cells, Pt.slots] at X19 l19 y19 z19 st19 hQ19
          subst l19 y19 z19
          obtain ⟨rfl, Nq19, hh19⟩ := hQ19
          have N20 := Fr.app N0 Nq19
          refine own_ts (T' := T19) (g' := (mkF m 123 #[.val (.int p1), .val (.int p2), .val (.int q), .val (.ref w_DECODE), .val (.int (if p2 < (3 : Int32) then (0 : Int32) else (1 : Int32)))] [(.int (own_takes p2 (3 : Int32) (2147483647 : Int32)))])) st19 ?_
          refine own_st (T' := T19) (g' := (mkF m 125 #[.val (.int p1), .val (.int p2), .val (.int q), .val (.ref w_DECODE), .val (.int (if p2 < (3 : Int32) then (0 : Int32) else (1 : Int32)))] [(.int (if p2 < (3 : Int32) then (0 : Int32) else (1 : Int32))), (.int (own_takes p2 (3 : Int32) (2147483647 : Int32)))])) (fun _ kq => XS.iload X19.here hx rfl (hb hby at_123) rfl kq) ?_
          refine own_st (T' := T19) (g' := (mkF m 128 #[.val (.int p1), .val (.int p2), .val (.int q), .val (.ref w_DECODE), .val (.int (if p2 < (3 : Int32) then (0 : Int32) else (1 : Int32)))] [])) (fun _ kq => XS.icmpNo X19.here hx rfl (hb hby at_125) rfl (teq (own_up p2 (3 : Int32) : (own_takes p2 (3 : Int32) (2147483647 : Int32)) = (if p2 < (3 : Int32) then (0 : Int32) else (1 : Int32)))).2 kq) ?_
          refine own_st (T' := T19) (g' := (mkF m 129 #[.val (.int p1), .val (.int p2), .val (.int q), .val (.ref w_DECODE), .val (.int (if p2 < (3 : Int32) then (0 : Int32) else (1 : Int32)))] [(.int (1 : Int32))])) (fun _ kq => XS.iconst X19.here hx rfl (hb hby at_128) kq) ?_
          refine own_st (T' := T19) (g' := (mkF m 133 #[.val (.int p1), .val (.int p2), .val (.int q), .val (.ref w_DECODE), .val (.int (if p2 < (3 : Int32) then (0 : Int32) else (1 : Int32)))] [(.int (1 : Int32))])) (fun _ kq => XS.goto X19.here hx rfl (pc0 := 129) (pc' := 133) rfl (hb hby at_129) (by decide) (by decide) kq) ?_
          refine own_out X19 Bd.notSynchronized (v := (some (.int (1 : Int32)))) (fun h => by rw [Bd.returns] at h; cases h) (fun fs hr => retN X19 hx (t := .boolean) Bd.returns (by simp) (hb hby at_133) hr) ?_ (by decide) (by decide)
          rw [hh19]
          exact ⟨rfl, N20⟩
set_option maxRecDepth 65536 in
set_option maxHeartbeats 40000000 in
theorem comes_1 {Post : Tables → Env → Array Value → State → Outcome → State → Prop} (hpost : ∀ tb e args s v u, (limb_1_1.after args s (.returned v) u = true ∧ limb_1_2.after args s (.returned v) u = true ∧ True) → FrameEnd s (.returned v) u (Jvm.fieldLocs frame_1_writes args s ++ Jvm.arrayLocs frame_1_arrays args s ++ Jvm.staticLocs frame_1_statics s) 0 0 → Post tb e args s (.returned v) u) :
    ArmFor flags0 classFile x code maxLocals ret World_1 tables_1 room_1 Calls_1 rest_1 Pre_1 Post := by
  intro l hfl _ _ p e ha hc hk s m args below hf hA hF happ hP
  obtain ⟨hcalls, hrest, hpre⟩ := hP
  obtain ⟨-, -, -, hnamed, -, -, -, hat⟩ := (Spec.applies_iff hf).mp happ
  obtain ⟨hg, hn⟩ := and_e (Cond.before_iff.mp (show (Jvm.Cond.and given_1 narrow_1).before args s = true from hpre))
  obtain ⟨hcnt, hg0⟩ := and_e hg
  obtain ⟨ha0, hg1⟩ := and_e hg0
  have ha1 := hg1
  obtain ⟨w0, w1, rfl⟩ : ∃ w0 w1 : Value, args = #[w0, w1] := by
    have hs : args.size = 2 := by simpa [Cond.value, given_1] using hcnt
    obtain ⟨L⟩ := args
    match L, hs with
    | [w0, w1], _ => exact ⟨w0, w1, rfl⟩
  have hw := fun d (hd : d ∈ tables_1) => atoms_spec (ws := Jvm.Cond.code x code maxLocals ret :: tables_1) hat d (List.mem_cons_of_mem _ hd)
  have hfit : Fit s := fun {y c} hc i hi => by
    obtain ⟨ha, rfl⟩ := Array.getElem?_eq_some_iff.mp hc
    have q := List.all_eq_true.mp ((Array.all_eq_true_iff_forall_mem.mp hF) _ (Array.getElem_mem ha)) i (List.mem_range.mpr hi)
    simpa [Array.getElem?_eq_getElem hi] using q
  obtain ⟨i0, ei0⟩ := is_v ha0
  obtain rfl : w0 = (.int i0) := Option.some.inj ei0
  obtain ⟨i1, ei1⟩ := is_v ha1
  obtain rfl : w1 = (.int i1) := Option.some.inj ei1
  obtain ⟨hn0, hr0⟩ := and_e hn
  obtain ⟨hn1, hr1⟩ := and_e hr0
  obtain ⟨hn2, hr2⟩ := and_e hr1
  obtain ⟨hn3, hr3⟩ := and_e hr2
  obtain ⟨hn4, hr4⟩ := and_e hr3
  obtain ⟨hn5, hr5⟩ := and_e hr4
  obtain ⟨hn6, hr6⟩ := and_e hr5
  obtain ⟨hn7, hr7⟩ := and_e hr6
  obtain ⟨hn8, hr8⟩ := and_e hr7
  obtain ⟨hn9, hr9⟩ := and_e hr8
  obtain ⟨hn10, hr10⟩ := and_e hr9
  obtain ⟨hn11, hr11⟩ := and_e hr10
  obtain ⟨hn12, hr12⟩ := and_e hr11
  obtain ⟨hn13, hn14⟩ := and_e hr12
  obtain ⟨w_NVL, ev_NVL⟩ := exa_v hn0
  have E_NVL := Exa.start ev_NVL hn0
  have S_NVL := Sta.start ev_NVL (Or.inr ⟨(hw _ (List.mem_of_getElem? (i := 2) rfl)), (hw _ (List.mem_of_getElem? (i := 3) rfl))⟩)
  have L_NVL := Fld.start ((fld_at ev_NVL).symm.trans (own_eqInt hn1))
  have H_NVL := Fld.start ((fld_at ev_NVL).symm.trans (own_eqInt hn2))
  obtain ⟨w_NVL2, ev_NVL2⟩ := exa_v hn8
  have E_NVL2 := Exa.start ev_NVL2 hn8
  have S_NVL2 := Sta.start ev_NVL2 (Or.inr ⟨(hw _ (List.mem_of_getElem? (i := 2) rfl)), (hw _ (List.mem_of_getElem? (i := 18) rfl))⟩)
  have L_NVL2 := Fld.start ((fld_at ev_NVL2).symm.trans (own_eqInt hn9))
  have H_NVL2 := Fld.start ((fld_at ev_NVL2).symm.trans (own_eqInt hn14))
  obtain ⟨w_COALESCE, ev_COALESCE⟩ := exa_v hn11
  have E_COALESCE := Exa.start ev_COALESCE hn11
  have S_COALESCE := Sta.start ev_COALESCE (Or.inr ⟨(hw _ (List.mem_of_getElem? (i := 2) rfl)), (hw _ (List.mem_of_getElem? (i := 20) rfl))⟩)
  have L_COALESCE := Fld.start ((fld_at ev_COALESCE).symm.trans (own_eqInt hn12))
  have H_COALESCE := Fld.start ((fld_at ev_COALESCE).symm.trans (own_eqInt hn13))
  obtain ⟨w_NULLIF, ev_NULLIF⟩ := exa_v hn5
  have E_NULLIF := Exa.start ev_NULLIF hn5
  have S_NULLIF := Sta.start ev_NULLIF (Or.inr ⟨(hw _ (List.mem_of_getElem? (i := 2) rfl)), (hw _ (List.mem_of_getElem? (i := 16) rfl))⟩)
  have L_NULLIF := Fld.start ((fld_at ev_NULLIF).symm.trans (own_eqInt hn6))
  have H_NULLIF := Fld.start ((fld_at ev_NULLIF).symm.trans (own_eqInt hn7))
  obtain ⟨w_DECODE, ev_DECODE⟩ := exa_v hn3
  have E_DECODE := Exa.start ev_DECODE hn3
  have S_DECODE := Sta.start ev_DECODE (Or.inr ⟨(hw _ (List.mem_of_getElem? (i := 2) rfl)), (hw _ (List.mem_of_getElem? (i := 14) rfl))⟩)
  have L_DECODE := Fld.start ((fld_at ev_DECODE).symm.trans (own_eqInt hn4))
  have H_DECODE := Fld.start ((fld_at ev_DECODE).symm.trans (own_eqInt hn10))
  obtain ⟨n, o, h1, h2, h3, _, L, rfl, ⟨rfl, N⟩, hq⟩ := rm0 l s _ hw tables_1 i0 i1 w_NVL w_NVL2 w_COALESCE w_NULLIF w_DECODE s.heap s.heap.size (Old.start s) S_NVL E_NVL L_NVL H_NVL S_NVL2 E_NVL2 L_NVL2 H_NVL2 S_COALESCE E_COALESCE L_COALESCE H_COALESCE S_NULLIF E_NULLIF L_NULLIF H_NULLIF S_DECODE E_DECODE L_DECODE H_DECODE p e ha hc hk s m _ below hf ((Spec.applies_iff_loose hf).mp happ).1 ⟨rfl, State.Warmed39.refl s, rfl⟩ trivial
  refine ⟨n, _, h1, h2, h3, hpost _ _ _ _ _ _ ⟨Cond.after_iff.mpr rfl, Cond.after_iff.mpr (eq_i res_at (Term.int_eval (1)) rfl), trivial⟩ ⟨hq.1, hq.2.1, (hq.2.2.sift fun y hy => Or.inr (N y hy)).mono (by decide) (by decide)⟩⟩
theorem main_1_1 : Claimed_1_1 := comes_1 fun _ _ _ _ _ _ h hF => ⟨h.1, hF⟩
theorem main_1_2 : Claimed_1_2 := comes_1 fun _ _ _ _ _ _ h hF => ⟨h.2.1, hF⟩
end Jvm.Pilot.@@N@@
namespace Jvm.Pilot.@@N@@
open Jvm Jvm.ClassFile Sem Op Lib Jvm.Free Jvm.Stand Jvm.Pilot.@@N@@.Jvm.D
/-! MADE BY PROGRAM (witnessworld.py) out of the Statement's table words and the real class files: 12 classes; the members and pool entries that the words name. The judged class is class 1, her method 1. -/
namespace start1
open Jvm.ClassFile
def u (s : String) : CpInfo := .utf8 (stringToUtf16 s)
/-- a pool by its gaps: so many unusable entries, then the entry; so many at the end -/
def gap : Nat → List CpInfo → List CpInfo
  | 0, r => r
  | n + 1, r => .unusable :: gap n r
def poolList (es : List (Nat × CpInfo)) (last : Nat) : List CpInfo := es.foldr (fun e r => gap e.1 (e.2 :: r)) (gap last [])
def pool (es : List (Nat × CpInfo)) (last : Nat) : Array CpInfo := ⟨poolList es last⟩
def fileOf (pool : Array CpInfo) (this : Nat) (attrs : Array Attribute := #[]) (ms : Array MethodInfo := #[]) (fl : Nat := 33) (sup : Nat := 0) (ifs : Array Nat := #[]) (fds : Array FieldInfo := #[]) : ClassFile where
  minorVersion := 0
  majorVersion := 65
  constantPool := pool
  accessFlags := fl
  thisClass := this
  superClass := sup
  interfaces := ifs
  fields := fds
  methods := ms
  attributes := attrs
def plain (name : String) (sup : Option ClassId) : Class where
  name := name
  kind := .ordinary
  loader := none
  accessFlags := 33
  super := sup
  interfaces := #[]
  cf := none
  fields := #[]
  methods := #[]
  instanceTypes := #[]
  staticTypes := #[]
  resolved := #[]
  callSites := []
  init := .initialized
  statics := none
  mirror := none

def pool0 : Array CpInfo := pool [(5, u "<init>"), (0, u "()V"), (1, .class_ 10), (1, u "java/lang/Object")] 113

def k0m0 : Method := { name := "<init>", desc := "()V", sig := { parameters := [], returnType := none }, accessFlags := 1, code := none }
/-- java/lang/Object -/
def k0 : Class := { plain "java/lang/Object" none with
  accessFlags := 33
  interfaces := #[]
  cf := some (fileOf pool0 8 #[] #[{ accessFlags := 1, nameIndex := 5, descriptorIndex := 6, attributes := #[] }] 33 0 #[] #[])
  fields := #[]
  methods := #[k0m0]
  instanceTypes := #[]
  staticTypes := #[]
  resolved := Array.replicate 124 none
  statics := none }

def pool1 : Array CpInfo := pool [(2, .class_ 4), (1, u "java/lang/Object"), (0, u "<init>"), (0, u "()V"), (0, .integer 2147483647), (0, .fieldref 9 10), (0, .class_ 11), (0, .nameAndType 12 13), (0, u "com/example/table_rules/tablerules/engine/Choice"), (0, u "NVL"), (0, u "Lcom/example/table_rules/tablerules/engine/Choice;"), (0, .fieldref 9 15), (0, .nameAndType 16 13), (0, u "NVL2"), (0, .fieldref 9 18), (0, .nameAndType 19 13), (0, u "COALESCE"), (0, .fieldref 9 21), (0, .nameAndType 22 13), (0, u "NULLIF"), (0, .fieldref 9 24), (0, .nameAndType 25 13), (0, u "DECODE"), (0, .methodref 9 27), (0, .nameAndType 28 29), (0, u "takes"), (0, u "(I)Z"), (0, .class_ 31), (0, u "com/example/table_rules/tablerules/engine/ChoiceTakesPinLaw"), (2, u "law"), (0, u "(II)Z")] 3

def k1m0 : Method := { name := "<init>", desc := "()V", sig := { parameters := [], returnType := none }, accessFlags := 1, code := none }
def k1c1 : Code := { maxStack := 2, maxLocals := 5, code := code, exceptionTable := #[], attributes := #[] }
def k1m1 : Method := { name := "law", desc := "(II)Z", sig := { parameters := [.int, .int], returnType := some .boolean }, accessFlags := 9, code := some k1c1 }
/-- com/example/table_rules/tablerules/engine/ChoiceTakesPinLaw -/
def k1 : Class := { plain "com/example/table_rules/tablerules/engine/ChoiceTakesPinLaw" (some 0) with
  accessFlags := 49
  interfaces := #[]
  cf := some (fileOf pool1 30 #[] #[{ accessFlags := 1, nameIndex := 5, descriptorIndex := 6, attributes := #[] }, { accessFlags := 9, nameIndex := 34, descriptorIndex := 35, attributes := #[] }] 49 2 #[] #[])
  fields := #[]
  methods := #[k1m0, k1m1]
  instanceTypes := #[]
  staticTypes := #[]
  resolved := Array.replicate 39 none
  statics := none }

def pool2 : Array CpInfo := pool [(1, .class_ 2), (0, u "java/lang/constant/Constable"), (0, .class_ 4), (0, u "java/lang/Object")] 6

/-- java/lang/constant/Constable -/
def k2 : Class := { plain "java/lang/constant/Constable" (some 0) with
  accessFlags := 1537
  interfaces := #[]
  cf := some (fileOf pool2 1 #[] #[] 1537 3 #[] #[])
  fields := #[]
  methods := #[]
  instanceTypes := #[]
  staticTypes := #[]
  resolved := Array.replicate 11 none
  statics := none }

def pool3 : Array CpInfo := pool [(1, .class_ 2), (0, u "java/lang/Comparable"), (0, .class_ 4), (0, u "java/lang/Object")] 7

/-- java/lang/Comparable -/
def k3 : Class := { plain "java/lang/Comparable" (some 0) with
  accessFlags := 1537
  interfaces := #[]
  cf := some (fileOf pool3 1 #[] #[] 1537 3 #[] #[])
  fields := #[]
  methods := #[]
  instanceTypes := #[]
  staticTypes := #[]
  resolved := Array.replicate 12 none
  statics := none }

def pool4 : Array CpInfo := pool [(1, .class_ 2), (0, u "java/io/Serializable"), (0, .class_ 4), (0, u "java/lang/Object")] 2

/-- java/io/Serializable -/
def k4 : Class := { plain "java/io/Serializable" (some 0) with
  accessFlags := 1537
  interfaces := #[]
  cf := some (fileOf pool4 1 #[] #[] 1537 3 #[] #[])
  fields := #[]
  methods := #[]
  instanceTypes := #[]
  staticTypes := #[]
  resolved := Array.replicate 7 none
  statics := none }

def pool5 : Array CpInfo := pool [(2, .class_ 4), (1, u "java/lang/Enum"), (0, u "name"), (0, u "Ljava/lang/String;"), (2, u "ordinal"), (0, u "I"), (1, .class_ 14), (1, u "java/lang/Object"), (4, u "hash"), (86, .class_ 108), (1, u "java/lang/Enum$EnumDesc"), (2, .class_ 112), (0, u "java/lang/constant/Constable"), (0, .class_ 114), (0, u "java/lang/Comparable"), (0, .class_ 116), (0, u "java/io/Serializable")] 87

/-- java/lang/Enum -/
def k5 : Class := { plain "java/lang/Enum" (some 0) with
  accessFlags := 1057
  interfaces := #[2, 3, 4]
  cf := some (fileOf pool5 2 #[.nestMembers #[106]] #[] 1057 12 #[111, 113, 115] #[{ accessFlags := 18, nameIndex := 5, descriptorIndex := 6, attributes := #[] }, { accessFlags := 18, nameIndex := 9, descriptorIndex := 10, attributes := #[] }, { accessFlags := 2, nameIndex := 19, descriptorIndex := 10, attributes := #[] }])
  fields := #[{ name := "name", type := (.object "java/lang/String"), accessFlags := 18, slot := 0, constantValue := 0 }, { name := "ordinal", type := .int, accessFlags := 18, slot := 1, constantValue := 0 }, { name := "hash", type := .int, accessFlags := 2, slot := 2, constantValue := 0 }]
  methods := #[]
  instanceTypes := #[(.object "java/lang/String"), .int, .int]
  staticTypes := #[]
  resolved := Array.replicate 204 none
  statics := none }

def pool6 : Array CpInfo := pool [(1, .class_ 2), (0, u "com/example/table_rules/tablerules/engine/Choice"), (2, u "NVL"), (0, u "Lcom/example/table_rules/tablerules/engine/Choice;"), (2, u "NVL2"), (2, u "COALESCE"), (2, u "NULLIF"), (2, u "DECODE"), (2, u "$VALUES"), (0, u "[Lcom/example/table_rules/tablerules/engine/Choice;"), (6, .class_ 31), (1, u "java/lang/Enum"), (6, .fieldref 1 39), (0, .nameAndType 40 41), (0, u "minArguments"), (0, u "I"), (0, .fieldref 1 43), (0, .nameAndType 44 41), (0, u "maxArguments"), (117, u "takes"), (0, u "(I)Z")] 15

def k6c0 : Code := { maxStack := 2, maxLocals := 2, code := prog_7_method_5_code, exceptionTable := #[], attributes := #[] }
def k6m0 : Method := { name := "takes", desc := "(I)Z", sig := { parameters := [.int], returnType := some .boolean }, accessFlags := 1, code := some k6c0 }
/-- com/example/table_rules/tablerules/engine/Choice -/
def k6 : Class := { plain "com/example/table_rules/tablerules/engine/Choice" (some 5) with
  accessFlags := 16433
  interfaces := #[]
  cf := some (fileOf pool6 1 #[] #[{ accessFlags := 1, nameIndex := 162, descriptorIndex := 163, attributes := #[] }] 16433 29 #[] #[{ accessFlags := 16409, nameIndex := 5, descriptorIndex := 6, attributes := #[] }, { accessFlags := 16409, nameIndex := 9, descriptorIndex := 6, attributes := #[] }, { accessFlags := 16409, nameIndex := 12, descriptorIndex := 6, attributes := #[] }, { accessFlags := 16409, nameIndex := 15, descriptorIndex := 6, attributes := #[] }, { accessFlags := 16409, nameIndex := 18, descriptorIndex := 6, attributes := #[] }, { accessFlags := 18, nameIndex := 40, descriptorIndex := 41, attributes := #[] }, { accessFlags := 18, nameIndex := 44, descriptorIndex := 41, attributes := #[] }, { accessFlags := 4122, nameIndex := 21, descriptorIndex := 22, attributes := #[] }])
  fields := #[{ name := "NVL", type := (.object "com/example/table_rules/tablerules/engine/Choice"), accessFlags := 16409, slot := 0, constantValue := 0 }, { name := "NVL2", type := (.object "com/example/table_rules/tablerules/engine/Choice"), accessFlags := 16409, slot := 1, constantValue := 0 }, { name := "COALESCE", type := (.object "com/example/table_rules/tablerules/engine/Choice"), accessFlags := 16409, slot := 2, constantValue := 0 }, { name := "NULLIF", type := (.object "com/example/table_rules/tablerules/engine/Choice"), accessFlags := 16409, slot := 3, constantValue := 0 }, { name := "DECODE", type := (.object "com/example/table_rules/tablerules/engine/Choice"), accessFlags := 16409, slot := 4, constantValue := 0 }, { name := "minArguments", type := .int, accessFlags := 18, slot := 3, constantValue := 0 }, { name := "maxArguments", type := .int, accessFlags := 18, slot := 4, constantValue := 0 }, { name := "$VALUES", type := (.array (.object "com/example/table_rules/tablerules/engine/Choice")), accessFlags := 4122, slot := 5, constantValue := 0 }]
  methods := #[k6m0]
  instanceTypes := #[(.object "java/lang/String"), .int, .int, .int, .int]
  staticTypes := #[(.object "com/example/table_rules/tablerules/engine/Choice"), (.object "com/example/table_rules/tablerules/engine/Choice"), (.object "com/example/table_rules/tablerules/engine/Choice"), (.object "com/example/table_rules/tablerules/engine/Choice"), (.object "com/example/table_rules/tablerules/engine/Choice"), (.array (.object "com/example/table_rules/tablerules/engine/Choice"))]
  resolved := Array.replicate 179 none
  statics := some 0 }

def pool7 : Array CpInfo := pool [(1, u "java/lang/Cloneable"), (0, .class_ 1), (0, u "java/lang/Object"), (0, .class_ 3)] 3

/-- java/lang/Cloneable -/
def k7 : Class := { plain "java/lang/Cloneable" (some 0) with
  accessFlags := 1537
  interfaces := #[]
  cf := some (fileOf pool7 2 #[] #[] 1537 4 #[] #[])
  fields := #[]
  methods := #[]
  instanceTypes := #[]
  staticTypes := #[]
  resolved := Array.replicate 8 none
  statics := none }

/-- the primitive byte -/
def k8 : Class := { plain "byte" none with kind := .primitive 'B', accessFlags := 0x411 }
/-- [B -/
def k9 : Class := { plain "[B" (some 0) with kind := .array 8 .byte, interfaces := #[7, 4], accessFlags := 1041 }

/-- the primitive int -/
def k10 : Class := { plain "int" none with kind := .primitive 'I', accessFlags := 0x411 }
/-- [I -/
def k11 : Class := { plain "[I" (some 0) with kind := .array 10 .int, interfaces := #[7, 4], accessFlags := 1041 }

def heap : Heap := #[{ cls := 6, slots := #[.ref 1, .ref 2, .ref 3, .ref 4, .ref 5, .null], vm := .statics 6 },
  { cls := 6, slots := #[.null, .int 0, .int 0, .int 2, .int 2], vm := .none },
  { cls := 6, slots := #[.null, .int 1, .int 0, .int 3, .int 3], vm := .none },
  { cls := 6, slots := #[.null, .int 2, .int 0, .int 2, .int 2147483647], vm := .none },
  { cls := 6, slots := #[.null, .int 3, .int 0, .int 2, .int 2], vm := .none },
  { cls := 6, slots := #[.null, .int 4, .int 0, .int 3, .int 2147483647], vm := .none }]
def classes : Array Class := #[k0, k1, k2, k3, k4, k5, k6, k7, k8, k9, k10, k11]
def interned : List (Array UInt16 × Addr) := []
def slotsUsed : Nat := 31
def theMethod : MethodId := ⟨1, 1⟩
def args0 : Array Value := #[.int 5, .int 6]
def aboutOver (below : List Frame) : State where
  vm := { classes := classes, interned := interned.toArray }
  heap := heap
  slotsUsed := slotsUsed
  threads := #[{ frames := .invoking theMethod args0 :: below }]
def below0 : List Frame := [.native { method := ⟨0, 0⟩, args := #[] }]
def about1 : State := aboutOver below0
def p0 : Program := .bare "" "" ""
def e0 : Env := launch0.env 0 0 0
theorem w_frames : about1.frames = Frame.invoking theMethod args0 :: below0 := rfl
set_option maxRecDepth 65536 in
theorem w_args : argsFit about1.vm theMethod args0 = true := by decide +kernel
set_option maxRecDepth 65536 in
theorem w_heap : heapFits about1 = true := by decide +kernel
set_option maxRecDepth 65536 in
theorem w_runnable : about1.curStatus? = some .runnable := by decide +kernel
set_option maxRecDepth 65536 in
theorem w_alone : about1.alone = true := by decide +kernel
set_option maxRecDepth 65536 in
theorem w_named : about1.methodNamed? x = some theMethod := by decide +kernel
set_option maxRecDepth 65536 in
theorem w_hears : about1.hears theMethod below0 = true := by decide +kernel
set_option maxRecDepth 65536 in
theorem w_ripe : about1.ripe theMethod args0 below0 = true := by decide +kernel
theorem w_running : about1.status = .running := rfl
set_option maxRecDepth 65536 in
theorem w_room : about1.hasRoom e0.platform room_1 = true :=
  launch0.hasRoom_least _ room_1 (by decide +kernel) (by decide +kernel) (by decide +kernel) (by decide +kernel) (by decide +kernel) (by decide +kernel)
theorem allAtoms_all (ts : List Jvm.Cond) (a : Array Jvm.Value) (st : Jvm.State) : (allAtoms ts).before a st = ts.all (fun c => c.before a st) := by
  induction ts with
  | nil => rfl
  | cons c t ih =>
    show (Jvm.Cond.and c (allAtoms t)).before a st = _
    rw [Jvm.Cond.before_and, ih, List.all_cons]
def words1 : List Jvm.Cond := Jvm.Cond.code x code maxLocals ret :: tables_1
/-- a 'code' word, met by the world's own term for the bytes: nothing is compared byte by byte -/
theorem code_word {y : MethodName} {bytes : ByteArray} {mx : Nat} {rt : Option FieldType} {a : Array Value} {s : State} {m : MethodId} {meth : Method} {c : Code} (h1 : s.methodNamed? y = some m) (h2 : s.vm.method? m = some meth) (h3 : meth.code = some c) (h4 : c.code = bytes)
    (h5 : (c.maxLocals == mx && c.exceptionTable.isEmpty && decide (c.maxStack ≤ mostOperands) && decide (meth.sig.returnType = rt) && !meth.locks && decide (parseMethodDescriptor y.desc = some meth.sig)) = true) : (Jvm.Cond.code y bytes mx rt).before a s = true := by
  simp only [Bool.and_eq_true, beq_iff_eq, Bool.not_eq_true', decide_eq_true_eq] at h5
  obtain ⟨⟨⟨⟨⟨g1, g2⟩, g3⟩, g4⟩, g5⟩, g6⟩ := h5
  simp [Cond.before, Cond.holds, Cond.value, h1, h2, h3, h4, g1, g2, g3, g4, g5, g6]
def isCode : Jvm.Cond → Bool
  | .code _ _ _ _ => true
  | _ => false
theorem all_split {L : List Jvm.Cond} {P : Jvm.Cond → Bool} (h1 : L.all (fun c => isCode c || P c) = true) (h2 : ∀ c ∈ L.filter isCode, P c = true) : L.all P = true := by
  refine List.all_eq_true.mpr fun c hc => ?_
  have h := List.all_eq_true.mp h1 c hc
  rcases Bool.eq_false_or_eq_true (isCode c) with hi | hi
  · exact h2 c (List.mem_filter.mpr ⟨hc, hi⟩)
  · simpa [hi] using h
set_option maxRecDepth 65536 in
theorem w_c0 : (Jvm.Cond.code x code maxLocals ret).before args0 about1 = true := code_word (m := ⟨1, 1⟩) (meth := k1m1) (c := k1c1) (by decide +kernel) rfl rfl rfl (by decide +kernel)
set_option maxRecDepth 65536 in
theorem w_c1 : (Jvm.Cond.code ({ cls := "com/example/table_rules/tablerules/engine/Choice", name := "takes", desc := "(I)Z" } : Jvm.MethodName) prog_7_method_5_code (2 : Nat) (Option.some Jvm.ClassFile.FieldType.boolean)).before args0 about1 = true := code_word (m := ⟨6, 0⟩) (meth := k6m0) (c := k6c0) (by decide +kernel) rfl rfl rfl (by decide +kernel)
def codes1 : List Jvm.Cond := [Jvm.Cond.code x code maxLocals ret, Jvm.Cond.code ({ cls := "com/example/table_rules/tablerules/engine/Choice", name := "takes", desc := "(I)Z" } : Jvm.MethodName) prog_7_method_5_code (2 : Nat) (Option.some Jvm.ClassFile.FieldType.boolean)]
set_option maxRecDepth 65536 in
theorem codes_eq : words1.filter isCode = codes1 := rfl
theorem w_codes : ∀ c ∈ words1.filter isCode, c.before args0 about1 = true := by
  rw [codes_eq]
  intro c hc
  simp only [codes1, List.mem_cons, List.not_mem_nil, or_false] at hc
  rcases hc with rfl | rfl
  · exact w_c0
  · exact w_c1
set_option maxRecDepth 65536 in
theorem w_t1 : words1.all (fun c => isCode c || c.before args0 about1) = true := by decide +kernel
theorem w_tables : (allAtoms (Jvm.Cond.code x code maxLocals ret :: tables_1)).before args0 about1 = true := by
  rw [allAtoms_all]
  show words1.all (fun c => c.before args0 about1) = true
  refine all_split ?_ w_codes
  rw [w_t1]
set_option maxRecDepth 65536 in
theorem w_case : (Jvm.Cond.and given_1 narrow_1).before args0 about1 = true := by decide +kernel
theorem w_applies : (headSpec (Jvm.Cond.code x code maxLocals ret :: tables_1) room_1).applies x e0.platform about1 = true :=
  (Spec.applies_iff w_frames).mpr ⟨w_running, w_runnable, w_alone, w_named, w_hears, w_ripe, w_room, w_tables⟩
theorem atStart : AtStart classFile x code maxLocals ret World_1 tables_1 room_1 Calls_1 rest_1 Pre_1 launch0 p0 e0 about1 theMethod args0 below0 :=
  ⟨lists_1, trivial, launch0.admits_env _ _ _, launch0.least_env, fairChoices_fair.cas, fairChoices_fair.clock, w_frames, w_args, w_heap, w_applies, trivial, trivial, w_case⟩
end start1
theorem witness_1 : WitnessClaimed_1 := ⟨start1.p0, start1.e0, start1.about1, start1.theMethod, start1.args0, start1.below0, start1.atStart⟩
end Jvm.Pilot.@@N@@
