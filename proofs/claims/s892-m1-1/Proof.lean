import JvmDerived
import JvmDerived.Pilot.@@N@@Statement
import JvmDerived.Pilot.@@N@@Code
set_option linter.unusedVariables false
set_option linter.unusedSimpArgs false
namespace Jvm.Pilot.@@N@@
open Jvm Jvm.ClassFile Sem Op Lib Jvm.Free Jvm.Stand Jvm.LawKit Jvm.RoadKit Bundle Jvm.Pilot.@@N@@.Jvm.D
section Own
variable {p : Program} {l : Launch} {e : Env} {R : Room} {s : State} {m : MethodId} {args : Array Value} {below : List Frame} {meth : Method} {c : Code} {T T' : State} {locs : List Loc} {cells slots : Nat} {g g' : JFrame} {Φ : State → Outcome → Prop}
/-- the run from T, at the frame g, comes to an end of which Φ speaks -/
def own_Go (p : Program) (e : Env) (below : List Frame) (Φ : State → Outcome → Prop) (T : State) (g : JFrame) : Prop :=
  ∃ s₂ o, Steps p.tables e below (T.setTop g) s₂ ∧ s₂.status = .running ∧ Ended s₂ below o ∧ Φ s₂ o
theorem own_st (k : ∀ target, Steps p.tables e below (T'.setTop g') target → Steps p.tables e below (T.setTop g) target) (h : own_Go p e below Φ T' g') : own_Go p e below Φ T g := by
  obtain ⟨s2, o, h1, h2⟩ := h
  exact ⟨s2, o, k _ h1, h2⟩
theorem own_ts (k : Steps p.tables e below (T.setTop g) (T'.setTop g')) (h : own_Go p e below Φ T' g') : own_Go p e below Φ T g := own_st (fun _ q => k.trans q) h
theorem own_in (q : g = g') (h : own_Go p e below Φ T g') : ∃ s₂ o, Steps p.tables e below (T.setTop g) s₂ ∧ s₂.status = .running ∧ Ended s₂ below o ∧ Φ s₂ o := by
  subst q; exact h
theorem own_out {Q : Option Value → Heap → List Loc → Prop} {kC kS : Nat} (X : Stand p l e R s m args below meth c T locs cells slots) (hl : meth.locks = false) {v : Option Value} (hv : meth.sig.returnType = none → v = none)
    (k : ∀ fs, (∀ (f : JFrame) (acts : List Action), f.method = m → f.locked = none → f.entered = [] → (doReturn e (T.setTop f) acts v).1 = T.setFrames fs) → Steps p.tables e below (T.setTop g) (T.setFrames fs)) (q : Q v T.heap locs) (hc : cells ≤ kC) (hs : slots ≤ kS) :
    own_Go p e below (fun s₂ o => ∃ v L, o = .returned v ∧ Q v s₂.heap L ∧ FrameEnd s o s₂ L kC kS) T g := by
  obtain ⟨fs, hr, hrun, hended, hW, hsame⟩ := X.leave (v := v) hv hl
  exact ⟨_, _, k fs hr, hrun, hended, _, _, rfl, q, ⟨_, rfl⟩, hW, hsame.mono hc hs⟩
theorem own_retI (X : Stand p l e R s m args below meth c T locs cells slots) (hx : p.tables.exec = Jvm.exec) {pc : Nat} {Ls : Array Slot} {z : Int32} {rest : List Value} (hret : meth.sig.returnType = some .int) (hd : decode c.code pc = .ok (.ireturn, 1)) {fs : List Frame}
    (hl : ∀ (f : JFrame) (acts : List Action), f.method = m → f.locked = none → f.entered = [] → (doReturn e (T.setTop f) acts (some (.int z))).1 = T.setFrames fs) : Steps p.tables e below (T.setTop (mkF m pc Ls (.int z :: rest))) (T.setFrames fs) :=
  retOut X hx hret rfl (Or.inl ⟨rfl, Or.inl rfl, z, rfl⟩) hd hl
theorem own_retA (X : Stand p l e R s m args below meth c T locs cells slots) (hx : p.tables.exec = Jvm.exec) {pc : Nat} {Ls : Array Slot} {w : Value} {t : FieldType} {rest : List Value} (hret : meth.sig.returnType = some t) (ht : t.isReference = true) (hw : w.isRef = true) (hn : narrow t w = w) (hd : decode c.code pc = .ok (.areturn, 1)) {fs : List Frame}
    (hl : ∀ (f : JFrame) (acts : List Action), f.method = m → f.locked = none → f.entered = [] → (doReturn e (T.setTop f) acts (some w)).1 = T.setFrames fs) : Steps p.tables e below (T.setTop (mkF m pc Ls (w :: rest))) (T.setFrames fs) :=
  retOut X hx hret hn (Or.inr (Or.inr (Or.inr (Or.inr ⟨rfl, ht, hw⟩)))) hd hl
theorem own_reX {a b : Vm} (X : Stand p l e R ((s.setVm a).setVm b) m args below meth c T locs cells slots) : Stand p l e R (s.setVm b) m args below meth c T locs cells slots := X
theorem own_outW {Q : Option Value → Heap → List Loc → Prop} {kC kS : Nat} {vm0 : Vm} (X : Stand p l e R (s.setVm vm0) m args below meth c T locs cells slots) {n : Nat} (hS : s.Since vm0 n) (hn : n ≤ T.heap.size) (hl : meth.locks = false) {v : Option Value} (hv : meth.sig.returnType = none → v = none)
    (k : ∀ fs, (∀ (f : JFrame) (acts : List Action), f.method = m → f.locked = none → f.entered = [] → (doReturn e (T.setTop f) acts v).1 = T.setFrames fs) → Steps p.tables e below (T.setTop g) (T.setFrames fs)) (q : Q v T.heap locs) (hc : cells ≤ kC) (hs : slots ≤ kS) :
    own_Go p e below (fun s₂ o => ∃ v L, o = .returned v ∧ Q v s₂.heap L ∧ ReturnedEndW s o s₂ L kC kS) T g := by
  obtain ⟨fs, hr, hrun, hended, h1, h2, h3, h4⟩ := X.leaveW hS hn (v := v) hv hl
  exact ⟨_, _, k fs hr, hrun, hended, _, _, rfl, q, h1, h2, h3, h4.mono hc hs⟩
theorem own_alen (X : Stand p l e R s m args below meth c T locs cells slots) (hx : p.tables.exec = Jvm.exec) {Z : State} (hZ : Z.Warmed39 s.vm) {h : Heap} (eT : T.heap = h) {a : Addr} {k : ClassId} {ty : FieldType} {z : Int32} {vs : List Value} {dv : Value} (F : Arv Z h a k ty z vs dv) {g : JFrame} (hg : g.method = m) {rest : List Value} (hs : g.stack = .ref a :: rest)
    (hd : decode c.code g.pc = .ok (.arraylength, 1)) : ∀ target, Steps p.tables e below (T.setTop { g with pc := g.pc + 1, stack := .int z :: rest }) target → Steps p.tables e below (T.setTop g) target := by
  obtain ⟨cl, A, q, S, N, H, G⟩ := F
  rw [← len_of S N]
  exact X.arraylength hx (by rw [eT]; exact A.1) (State.isArrayOf_alike hZ.alike A.2.1) hg hs hd
theorem own_old {Z : State} {n0 : Nat} {h : Heap} (O : Old Z n0 h) : n0 ≤ h.size := O.1 ▸ O.2.1
end Own
def own_lp : Nat → Int32 → Int32
  | 0, a => a
  | k + 1, a => own_lp k (a * 10)
theorem own_rng (x : Int32) : 0 ≤ ((x &&& 2147483647) % 10).toInt ∧ ((x &&& 2147483647) % 10).toInt ≤ 9 := by
  have h0 := (c_and x 2147483647 (by decide)).1
  have h := (c_irem (x &&& 2147483647) 10 10 rfl).1 h0
  omega
theorem own_nlt {x : Int32} (h : 0 ≤ x.toInt) : ¬ (x < (0 : Int32)) := fun q => by
  have := Int32.lt_iff_toInt_lt.mp q
  have k : (0 : Int32).toInt = 0 := rfl
  omega
theorem own_lt10 {x : Int32} (h : x.toInt ≤ 9) : x < (10 : Int32) := by
  apply Int32.lt_iff_toInt_lt.mpr
  have k : (10 : Int32).toInt = 10 := rfl
  omega
theorem own_tab (q : Int32) (h0 : 0 ≤ q.toInt) (h1 : q.toInt ≤ 9) : ([.int 1000000000, .int 100000000, .int 10000000, .int 1000000, .int 100000, .int 10000, .int 1000, .int 100, .int 10, .int 1] : List Value).getD q.toNatClampNeg (.int 0) = .int (own_lp (9 - q.toInt.toNat) 1) := by
  have hq : q.toInt = 0 ∨ q.toInt = 1 ∨ q.toInt = 2 ∨ q.toInt = 3 ∨ q.toInt = 4 ∨ q.toInt = 5 ∨ q.toInt = 6 ∨ q.toInt = 7 ∨ q.toInt = 8 ∨ q.toInt = 9 := by omega
  have k : ∀ z : Int32, q.toInt = z.toInt → q = z := fun z h => Int32.toInt_inj.mp h
  rcases hq with h | h | h | h | h | h | h | h | h | h
  · rw [k 0 h]; rfl
  · rw [k 1 h]; rfl
  · rw [k 2 h]; rfl
  · rw [k 3 h]; rfl
  · rw [k 4 h]; rfl
  · rw [k 5 h]; rfl
  · rw [k 6 h]; rfl
  · rw [k 7 h]; rfl
  · rw [k 8 h]; rfl
  · rw [k 9 h]; rfl
theorem d_prog_146_method_14_0 : decode prog_146_method_14_code 0 = .ok (.iconst 1, 1) := by decide +kernel
theorem d_prog_146_method_14_1 : decode prog_146_method_14_code 1 = .ok (.istore_n 1, 1) := by decide +kernel
theorem d_prog_146_method_14_2 : decode prog_146_method_14_code 2 = .ok (.iload_n 0, 1) := by decide +kernel
theorem d_prog_146_method_14_3 : decode prog_146_method_14_code 3 = .ok (.istore_n 2, 1) := by decide +kernel
theorem d_prog_146_method_14_4 : decode prog_146_method_14_code 4 = .ok (.iload_n 2, 1) := by decide +kernel
theorem d_prog_146_method_14_5 : decode prog_146_method_14_code 5 = .ok (.bipush 9, 2) := by decide +kernel
theorem d_prog_146_method_14_7 : decode prog_146_method_14_code 7 = .ok (.if_icmp .ge 14, 3) := by decide +kernel
theorem d_prog_146_method_14_21 : decode prog_146_method_14_code 21 = .ok (.iload_n 1, 1) := by decide +kernel
theorem d_prog_146_method_14_22 : decode prog_146_method_14_code 22 = .ok (.ireturn, 1) := by decide +kernel
theorem d_prog_146_method_14_10 : decode prog_146_method_14_code 10 = .ok (.iload_n 1, 1) := by decide +kernel
theorem d_prog_146_method_14_11 : decode prog_146_method_14_code 11 = .ok (.bipush 10, 2) := by decide +kernel
theorem d_prog_146_method_14_13 : decode prog_146_method_14_code 13 = .ok (.imul, 1) := by decide +kernel
theorem d_prog_146_method_14_14 : decode prog_146_method_14_code 14 = .ok (.istore_n 1, 1) := by decide +kernel
theorem d_prog_146_method_14_15 : decode prog_146_method_14_code 15 = .ok (.iinc 2 1, 3) := by decide +kernel
theorem d_prog_146_method_14_18 : decode prog_146_method_14_code 18 = .ok (.goto (-14), 3) := by decide +kernel
theorem ef_unit (m : MethodId) (x0 : Int32) : entryFrame m #[(.int x0)] 3 = mkF m 0 #[.val (.int x0), .unset, .unset] [] := by first | (simp [entryFrame, mkF, argsToLocals, Value.category]; done) | rfl
def Qunit (Z : State) (q : Int32) (h0 : Heap) (n0 : Nat) (v : Option Value) (h : Heap) (L : List Loc) : Prop := v = some (.int (own_lp (9 - q.toInt.toNat) 1)) ∧ Fr n0 L ∧ h = h0
theorem pn_com_example_table_rules_tablerules_engine_TimestampValue : plainName "com/example/table_rules/tablerules/engine/TimestampValue" = true := by first | (simp [plainName, overriddenIn]; done) | decide +kernel
set_option maxRecDepth 65536 in
set_option maxHeartbeats 40000000 in
theorem rmunit (l : Launch) (Z : State) (a0 : Array Value) (hw : ∀ d ∈ tables_1, d.before a0 Z = true) (ws : List Jvm.Cond) (q : Int32) (h0 : Heap) (n0 : Nat) (O0 : Old Z n0 h0) (hp0 : 0 ≤ q.toInt) (hp1 : q.toInt ≤ 9) :
    MetFree l (⟨"com/example/table_rules/tablerules/engine/TimestampValue", "unit", "(I)I"⟩ : MethodName) (head1 (Jvm.Cond.code (⟨"com/example/table_rules/tablerules/engine/TimestampValue", "unit", "(I)I"⟩ : MethodName) prog_146_method_14_code 3 (some .int) :: ws) ({ frames := 0, cells := 0, slots := 0, locals := 0 } : Room)) (fun a U => a = #[(.int q)] ∧ Z.Warmed39 U.vm ∧ U.heap = h0) (fun _ _ _ _ _ => True) (fun _ U o U' => ∃ v L, o = .returned v ∧ Qunit Z q h0 n0 v U'.heap L ∧ FrameEnd U o U' L ({ frames := 0, cells := 0, slots := 0, locals := 0 } : Room).cells ({ frames := 0, cells := 0, slots := 0, locals := 0 } : Room).slots) := by
  refine MetFree.of_bodySF (plainFor_of_name pn_com_example_table_rules_tablerules_engine_TimestampValue) hisR ?_
  intro p e s m args below meth c s₁ Bd hml0 hP hK
  obtain ⟨rfl, hZ, hh⟩ := hP
  have hx := Bd.exec
  have hby := Bd.bytes
  have hml : c.maxLocals = 3 := hml0
  have hown : s.vm.findClass "com/example/table_rules/tablerules/engine/TimestampValue" = some m.cls := findClass_of_methodNamed Bd.named
  have hnm := (name_of_methodNamed Bd.named Bd.method).1
  have X0 : Stand p l e ({ frames := 0, cells := 0, slots := 0, locals := 0 } : Room) s m #[(.int q)] below meth c s₁ [] 0 0 := Stand.of_body Bd
  have e0 : s₁.heap = h0 := by rw [← hh, Bd.state]; rfl
  have N0 := Fr.nil n0
  have hS0 : s.Since s.vm h0.size := State.WarmedH.since (State.WarmedH.refl s) _
  refine own_in (ef_unit m q) ?_
  refine own_st (T' := s₁) (g' := (mkF m 1 #[.val (.int q), .unset, .unset] [(.int (1 : Int32))])) (fun _ kq => XS.iconst X0.here hx rfl (hb hby d_prog_146_method_14_0) kq) ?_
  refine own_st (T' := s₁) (g' := (mkF m 2 #[.val (.int q), .val (.int (1 : Int32)), .unset] [])) (fun _ kq => XS.istoreN X0.here hx rfl (hb hby d_prog_146_method_14_1) rfl (l' := #[.val (.int q), .val (.int (1 : Int32)), .unset]) rfl kq) ?_
  refine own_st (T' := s₁) (g' := (mkF m 3 #[.val (.int q), .val (.int (1 : Int32)), .unset] [(.int q)])) (fun _ kq => XS.iloadN X0.here hx rfl (hb hby d_prog_146_method_14_2) rfl kq) ?_
  refine own_st (T' := s₁) (g' := (mkF m 4 #[.val (.int q), .val (.int (1 : Int32)), .val (.int q)] [])) (fun _ kq => XS.istoreN X0.here hx rfl (hb hby d_prog_146_method_14_3) rfl (l' := #[.val (.int q), .val (.int (1 : Int32)), .val (.int q)]) rfl kq) ?_
  have loop : ∀ (k : Nat) (a i : Int32), i.toInt + k = 9 → 0 ≤ i.toInt → own_lp k a = own_lp (9 - q.toInt.toNat) 1 → own_Go p e below (fun s₂ o => ∃ v L, o = .returned v ∧ Qunit Z q h0 n0 v s₂.heap L ∧ FrameEnd s o s₂ L ({ frames := 0, cells := 0, slots := 0, locals := 0 } : Room).cells ({ frames := 0, cells := 0, slots := 0, locals := 0 } : Room).slots) s₁ (mkF m 4 #[.val (.int q), .val (.int a), .val (.int i)] []) := by
    intro k
    induction k with
    | zero =>
      intro a i hk hi hr
      refine own_st (T' := s₁) (g' := (mkF m 5 #[.val (.int q), .val (.int a), .val (.int i)] [(.int i)])) (fun _ kq => XS.iloadN X0.here hx rfl (hb hby d_prog_146_method_14_4) rfl kq) ?_
      refine own_st (T' := s₁) (g' := (mkF m 7 #[.val (.int q), .val (.int a), .val (.int i)] [(.int (9 : Int32)), (.int i)])) (fun _ kq => XS.bipush X0.here hx rfl (hb hby d_prog_146_method_14_5) kq) ?_
      have hge : ¬ (i < (9 : Int32)) := fun q => by
        have := Int32.lt_iff_toInt_lt.mp q
        have k : (9 : Int32).toInt = 9 := rfl
        omega
      refine own_st (T' := s₁) (g' := (mkF m 21 #[.val (.int q), .val (.int a), .val (.int i)] [])) (fun _ kq => XS.icmpYes X0.here hx rfl (pc0 := 7) (pc' := 21) rfl (hb hby d_prog_146_method_14_7) rfl (flt (hge : ¬ (i < (9 : Int32)))).2.1 (by decide) (by decide) kq) ?_
      refine own_st (T' := s₁) (g' := (mkF m 22 #[.val (.int q), .val (.int a), .val (.int i)] [(.int a)])) (fun _ kq => XS.iloadN X0.here hx rfl (hb hby d_prog_146_method_14_21) rfl kq) ?_
      refine own_out X0 Bd.notSynchronized (v := (some (.int a))) (fun h => by rw [Bd.returns] at h; cases h) (fun fs hr => own_retI X0 hx Bd.returns (hb hby d_prog_146_method_14_22) hr) ?_ (by decide) (by decide)
      rw [e0]
      exact ⟨by rw [← hr]; rfl, N0, rfl⟩
    | succ k ih =>
      intro a i hk hi hr
      refine own_st (T' := s₁) (g' := (mkF m 5 #[.val (.int q), .val (.int a), .val (.int i)] [(.int i)])) (fun _ kq => XS.iloadN X0.here hx rfl (hb hby d_prog_146_method_14_4) rfl kq) ?_
      refine own_st (T' := s₁) (g' := (mkF m 7 #[.val (.int q), .val (.int a), .val (.int i)] [(.int (9 : Int32)), (.int i)])) (fun _ kq => XS.bipush X0.here hx rfl (hb hby d_prog_146_method_14_5) kq) ?_
      have hlt : i < (9 : Int32) := by
        apply Int32.lt_iff_toInt_lt.mpr
        have k : (9 : Int32).toInt = 9 := rfl
        omega
      refine own_st (T' := s₁) (g' := (mkF m 10 #[.val (.int q), .val (.int a), .val (.int i)] [])) (fun _ kq => XS.icmpNo X0.here hx rfl (hb hby d_prog_146_method_14_7) rfl (tlt (hlt : i < (9 : Int32))).2.1 kq) ?_
      refine own_st (T' := s₁) (g' := (mkF m 11 #[.val (.int q), .val (.int a), .val (.int i)] [(.int a)])) (fun _ kq => XS.iloadN X0.here hx rfl (hb hby d_prog_146_method_14_10) rfl kq) ?_
      refine own_st (T' := s₁) (g' := (mkF m 13 #[.val (.int q), .val (.int a), .val (.int i)] [(.int (10 : Int32)), (.int a)])) (fun _ kq => XS.bipush X0.here hx rfl (hb hby d_prog_146_method_14_11) kq) ?_
      refine own_st (T' := s₁) (g' := (mkF m 14 #[.val (.int q), .val (.int a), .val (.int i)] [(.int (a * (10 : Int32)))])) (fun _ kq => XS.imul X0.here hx rfl (hb hby d_prog_146_method_14_13) rfl kq) ?_
      refine own_st (T' := s₁) (g' := (mkF m 15 #[.val (.int q), .val (.int (a * (10 : Int32))), .val (.int i)] [])) (fun _ kq => XS.istoreN X0.here hx rfl (hb hby d_prog_146_method_14_14) rfl (l' := #[.val (.int q), .val (.int (a * (10 : Int32))), .val (.int i)]) rfl kq) ?_
      refine own_st (T' := s₁) (g' := (mkF m 18 #[.val (.int q), .val (.int (a * (10 : Int32))), .val (.int (i + (1 : Int32)))] [])) (fun _ kq => XS.iinc X0.here hx rfl (hb hby d_prog_146_method_14_15) rfl (l' := #[.val (.int q), .val (.int (a * (10 : Int32))), .val (.int (i + (1 : Int32)))]) rfl kq) ?_
      refine own_st (T' := s₁) (g' := (mkF m 4 #[.val (.int q), .val (.int (a * (10 : Int32))), .val (.int (i + (1 : Int32)))] [])) (fun _ kq => XS.goto X0.here hx rfl (pc0 := 18) (pc' := 4) rfl (hb hby d_prog_146_method_14_18) (by decide) (by decide) kq) ?_
      have e1 := c_iadd i 1
      have k1 : (1 : Int32).toInt = 1 := rfl
      have r1 := rng32 (i + 1)
      rw [k1] at e1
      exact ih _ _ (by omega) (by omega) hr
  exact loop (9 - q.toInt.toNat) 1 q (by omega) hp0 rfl
theorem pd_I_I_227 : parseMethodDescriptor "(I)I" = some ⟨[.int], some .int⟩ := by decide +kernel
theorem ef_0 (m : MethodId) (x0 : Int32) : entryFrame m #[(.int x0)] maxLocals = mkF m 0 #[.val (.int x0), .unset, .unset] [] := by first | (simp [entryFrame, mkF, argsToLocals, Value.category, maxLocals]; done) | rfl
def Q0 (Z : State) (p1 : Int32) (h0 : Heap) (n0 : Nat) (v : Option Value) (h : Heap) (L : List Loc) : Prop := v = some (.int 1) ∧ Fr n0 L
theorem pn_com_example_table_rules_tablerules_engine_TimestampValueUnitPinLaw : plainName "com/example/table_rules/tablerules/engine/TimestampValueUnitPinLaw" = true := by first | (simp [plainName, overriddenIn]; done) | decide +kernel
set_option maxRecDepth 65536 in
set_option maxHeartbeats 40000000 in
theorem rm0 (l : Launch) (Z : State) (a0 : Array Value) (hw : ∀ d ∈ tables_1, d.before a0 Z = true) (ws : List Jvm.Cond) (p1 : Int32) (h0 : Heap) (n0 : Nat) (O0 : Old Z n0 h0) :
    MetFree l x (head1 (Jvm.Cond.code x code maxLocals ret :: ws) room_1) (fun a U => a = #[(.int p1)] ∧ Z.Warmed39 U.vm ∧ U.heap = h0) (fun _ _ _ _ _ => True) (fun _ U o U' => ∃ v L, o = .returned v ∧ Q0 Z p1 h0 n0 v U'.heap L ∧ FrameEnd U o U' L room_1.cells room_1.slots) := by
  refine MetFree.of_bodySF (plainFor_of_name pn_com_example_table_rules_tablerules_engine_TimestampValueUnitPinLaw) hisR ?_
  intro p e s m args below meth c s₁ Bd hml0 hP hK
  obtain ⟨rfl, hZ, hh⟩ := hP
  have hx := Bd.exec
  have hby := Bd.bytes
  have hml : c.maxLocals = 3 := hml0
  have hown : s.vm.findClass "com/example/table_rules/tablerules/engine/TimestampValueUnitPinLaw" = some m.cls := findClass_of_methodNamed Bd.named
  have hnm := (name_of_methodNamed Bd.named Bd.method).1
  have X0 : Stand p l e room_1 s m #[(.int p1)] below meth c s₁ [] 0 0 := Stand.of_body Bd
  have e0 : s₁.heap = h0 := by rw [← hh, Bd.state]; rfl
  have N0 := Fr.nil n0
  have hS0 : s.Since s.vm h0.size := State.WarmedH.since (State.WarmedH.refl s) _
  refine own_in (ef_0 m p1) ?_
  have hq := own_rng p1
  refine own_st (T' := s₁) (g' := (mkF m 1 #[.val (.int p1), .unset, .unset] [(.int p1)])) (fun _ kq => XS.iloadN X0.here hx rfl (hb hby at_0) rfl kq) ?_
  refine own_st (T' := s₁) (g' := (mkF m 3 #[.val (.int p1), .unset, .unset] [(.int (2147483647 : Int32)), (.int p1)])) (X0.ldcInt hx hown (mvT hZ (hw _ (List.mem_of_getElem? (i := 0) rfl))) (g := (mkF m 1 #[.val (.int p1), .unset, .unset] [(.int p1)])) rfl (hb hby at_1)) ?_
  refine own_st (T' := s₁) (g' := (mkF m 4 #[.val (.int p1), .unset, .unset] [(.int (p1 &&& (2147483647 : Int32)))])) (fun _ kq => XS.iand X0.here hx rfl (hb hby at_3) rfl kq) ?_
  refine own_st (T' := s₁) (g' := (mkF m 6 #[.val (.int p1), .unset, .unset] [(.int (10 : Int32)), (.int (p1 &&& (2147483647 : Int32)))])) (fun _ kq => XS.bipush X0.here hx rfl (hb hby at_4) kq) ?_
  refine own_st (T' := s₁) (g' := (mkF m 7 #[.val (.int p1), .unset, .unset] [(.int ((p1 &&& (2147483647 : Int32)) % (10 : Int32)))])) (fun _ kq => iremM X0 hx rfl (hb hby at_6) rfl (by decide) kq) ?_
  refine own_st (T' := s₁) (g' := (mkF m 8 #[.val (.int p1), .val (.int ((p1 &&& (2147483647 : Int32)) % (10 : Int32))), .unset] [])) (fun _ kq => XS.istoreN X0.here hx rfl (hb hby at_7) rfl (l' := #[.val (.int p1), .val (.int ((p1 &&& (2147483647 : Int32)) % (10 : Int32))), .unset]) rfl kq) ?_
  generalize ((p1 &&& (2147483647 : Int32)) % (10 : Int32)) = q at hq ⊢
  obtain ⟨h0', h1'⟩ := hq
  refine own_st (T' := s₁) (g' := (mkF m 10 #[.val (.int p1), .val (.int q), .unset] [(.int (10 : Int32))])) (fun _ kq => XS.bipush X0.here hx rfl (hb hby at_8) kq) ?_
  obtain ⟨T1, h1, k1, X1, e1, E1, A1, Ax1, st1⟩ := newPE X0 hx hZ (hw _ (List.mem_of_getElem? (i := 1) rfl)) e0 (g := (mkF m 10 #[.val (.int p1), .val (.int q), .unset] [(.int (10 : Int32))])) rfl (hb hby at_10) rfl (by decide) (cap := 10) (by decide) (by decide) (by decide) (by decide) (ad := "[I") rfl
  obtain ⟨b1, g1⟩ : ∃ z, z = h0.size := ⟨_, rfl⟩
  rw [← g1] at A1 Ax1 st1
  have g_b1 : n0 ≤ b1 := Nat.le_trans (own_old O0) (Nat.le_of_eq g1.symm)
  have sz_b1 : h0.size ≤ b1 := Nat.le_trans (Keep.refl h0 []).1 (Nat.le_of_eq g1.symm)
  have V1 : Arv Z h1 b1 k1 .int (10 : Int32) [(.int (0 : Int32)), (.int (0 : Int32)), (.int (0 : Int32)), (.int (0 : Int32)), (.int (0 : Int32)), (.int (0 : Int32)), (.int (0 : Int32)), (.int (0 : Int32)), (.int (0 : Int32)), (.int (0 : Int32))] (.int (0 : Int32)) := (Arv.new A1 (by decide)).pad (pad_rep [] (.int (0 : Int32)) 10)
  refine own_st (T' := T1) (g' := (mkF m 12 #[.val (.int p1), .val (.int q), .unset] [(.ref b1)])) (st1) ?_
  refine own_st (T' := T1) (g' := (mkF m 13 #[.val (.int p1), .val (.int q), .unset] [(.ref b1), (.ref b1)])) (fun _ kq => XS.dup X1.here hx rfl (hb hby at_12) rfl rfl kq) ?_
  refine own_st (T' := T1) (g' := (mkF m 14 #[.val (.int p1), .val (.int q), .unset] [(.int (0 : Int32)), (.ref b1), (.ref b1)])) (fun _ kq => XS.iconst X1.here hx rfl (hb hby at_13) kq) ?_
  refine own_st (T' := T1) (g' := (mkF m 16 #[.val (.int p1), .val (.int q), .unset] [(.int (1000000000 : Int32)), (.int (0 : Int32)), (.ref b1), (.ref b1)])) (X1.ldcInt hx hown (mvT hZ (hw _ (List.mem_of_getElem? (i := 2) rfl))) (g := (mkF m 14 #[.val (.int p1), .val (.int q), .unset] [(.int (0 : Int32)), (.ref b1), (.ref b1)])) rfl (hb hby at_14)) ?_
  obtain ⟨cl2, Ar2, q2, S2, Nn2, H2, G2⟩ := id V1
  have hin3 : ¬ ((0 : Int32) < 0 ∨ cl2.slots.size ≤ ((0 : Int32)).toNatClampNeg) := inb_of S2 ⟨by decide, by decide⟩
  obtain ⟨T3, h3, X3, e3, W3, st3⟩ := stI X1 hx hZ e1 Ar2 (j := (0 : Int32)) hin3 (g := (mkF m 16 #[.val (.int p1), .val (.int q), .unset] [(.int (1000000000 : Int32)), (.int (0 : Int32)), (.ref b1), (.ref b1)])) rfl rfl (hb hby at_16)
  have V3 : Arv Z h3 b1 k1 .int (10 : Int32) [(.int (1000000000 : Int32)), (.int (0 : Int32)), (.int (0 : Int32)), (.int (0 : Int32)), (.int (0 : Int32)), (.int (0 : Int32)), (.int (0 : Int32)), (.int (0 : Int32)), (.int (0 : Int32)), (.int (0 : Int32))] (.int (0 : Int32)) := Arv.set Ar2 q2 S2 Nn2 H2 G2 rfl W3 0 rfl (Nat.le_of_ble_eq_true rfl)
  have N4 := Fr.snoc X3 N0 g_b1
  refine own_st (T' := T3) (g' := (mkF m 17 #[.val (.int p1), .val (.int q), .unset] [(.ref b1)])) (st3) ?_
  refine own_st (T' := T3) (g' := (mkF m 18 #[.val (.int p1), .val (.int q), .unset] [(.ref b1), (.ref b1)])) (fun _ kq => XS.dup X3.here hx rfl (hb hby at_17) rfl rfl kq) ?_
  refine own_st (T' := T3) (g' := (mkF m 19 #[.val (.int p1), .val (.int q), .unset] [(.int (1 : Int32)), (.ref b1), (.ref b1)])) (fun _ kq => XS.iconst X3.here hx rfl (hb hby at_18) kq) ?_
  refine own_st (T' := T3) (g' := (mkF m 21 #[.val (.int p1), .val (.int q), .unset] [(.int (100000000 : Int32)), (.int (1 : Int32)), (.ref b1), (.ref b1)])) (X3.ldcInt hx hown (mvT hZ (hw _ (List.mem_of_getElem? (i := 3) rfl))) (g := (mkF m 19 #[.val (.int p1), .val (.int q), .unset] [(.int (1 : Int32)), (.ref b1), (.ref b1)])) rfl (hb hby at_19)) ?_
  obtain ⟨cl5, Ar5, q5, S5, Nn5, H5, G5⟩ := id V3
  have hin6 : ¬ ((1 : Int32) < 0 ∨ cl5.slots.size ≤ ((1 : Int32)).toNatClampNeg) := inb_of S5 ⟨by decide, by decide⟩
  obtain ⟨T6, h6, X6, e6, W6, st6⟩ := stI X3 hx hZ e3 Ar5 (j := (1 : Int32)) hin6 (g := (mkF m 21 #[.val (.int p1), .val (.int q), .unset] [(.int (100000000 : Int32)), (.int (1 : Int32)), (.ref b1), (.ref b1)])) rfl rfl (hb hby at_21)
  have V6 : Arv Z h6 b1 k1 .int (10 : Int32) [(.int (1000000000 : Int32)), (.int (100000000 : Int32)), (.int (0 : Int32)), (.int (0 : Int32)), (.int (0 : Int32)), (.int (0 : Int32)), (.int (0 : Int32)), (.int (0 : Int32)), (.int (0 : Int32)), (.int (0 : Int32))] (.int (0 : Int32)) := Arv.set Ar5 q5 S5 Nn5 H5 G5 rfl W6 1 rfl (Nat.le_of_ble_eq_true rfl)
  have N7 := Fr.snoc X6 N4 g_b1
  refine own_st (T' := T6) (g' := (mkF m 22 #[.val (.int p1), .val (.int q), .unset] [(.ref b1)])) (st6) ?_
  refine own_st (T' := T6) (g' := (mkF m 23 #[.val (.int p1), .val (.int q), .unset] [(.ref b1), (.ref b1)])) (fun _ kq => XS.dup X6.here hx rfl (hb hby at_22) rfl rfl kq) ?_
  refine own_st (T' := T6) (g' := (mkF m 24 #[.val (.int p1), .val (.int q), .unset] [(.int (2 : Int32)), (.ref b1), (.ref b1)])) (fun _ kq => XS.iconst X6.here hx rfl (hb hby at_23) kq) ?_
  refine own_st (T' := T6) (g' := (mkF m 26 #[.val (.int p1), .val (.int q), .unset] [(.int (10000000 : Int32)), (.int (2 : Int32)), (.ref b1), (.ref b1)])) (X6.ldcInt hx hown (mvT hZ (hw _ (List.mem_of_getElem? (i := 4) rfl))) (g := (mkF m 24 #[.val (.int p1), .val (.int q), .unset] [(.int (2 : Int32)), (.ref b1), (.ref b1)])) rfl (hb hby at_24)) ?_
  obtain ⟨cl8, Ar8, q8, S8, Nn8, H8, G8⟩ := id V6
  have hin9 : ¬ ((2 : Int32) < 0 ∨ cl8.slots.size ≤ ((2 : Int32)).toNatClampNeg) := inb_of S8 ⟨by decide, by decide⟩
  obtain ⟨T9, h9, X9, e9, W9, st9⟩ := stI X6 hx hZ e6 Ar8 (j := (2 : Int32)) hin9 (g := (mkF m 26 #[.val (.int p1), .val (.int q), .unset] [(.int (10000000 : Int32)), (.int (2 : Int32)), (.ref b1), (.ref b1)])) rfl rfl (hb hby at_26)
  have V9 : Arv Z h9 b1 k1 .int (10 : Int32) [(.int (1000000000 : Int32)), (.int (100000000 : Int32)), (.int (10000000 : Int32)), (.int (0 : Int32)), (.int (0 : Int32)), (.int (0 : Int32)), (.int (0 : Int32)), (.int (0 : Int32)), (.int (0 : Int32)), (.int (0 : Int32))] (.int (0 : Int32)) := Arv.set Ar8 q8 S8 Nn8 H8 G8 rfl W9 2 rfl (Nat.le_of_ble_eq_true rfl)
  have N10 := Fr.snoc X9 N7 g_b1
  refine own_st (T' := T9) (g' := (mkF m 27 #[.val (.int p1), .val (.int q), .unset] [(.ref b1)])) (st9) ?_
  refine own_st (T' := T9) (g' := (mkF m 28 #[.val (.int p1), .val (.int q), .unset] [(.ref b1), (.ref b1)])) (fun _ kq => XS.dup X9.here hx rfl (hb hby at_27) rfl rfl kq) ?_
  refine own_st (T' := T9) (g' := (mkF m 29 #[.val (.int p1), .val (.int q), .unset] [(.int (3 : Int32)), (.ref b1), (.ref b1)])) (fun _ kq => XS.iconst X9.here hx rfl (hb hby at_28) kq) ?_
  refine own_st (T' := T9) (g' := (mkF m 31 #[.val (.int p1), .val (.int q), .unset] [(.int (1000000 : Int32)), (.int (3 : Int32)), (.ref b1), (.ref b1)])) (X9.ldcInt hx hown (mvT hZ (hw _ (List.mem_of_getElem? (i := 5) rfl))) (g := (mkF m 29 #[.val (.int p1), .val (.int q), .unset] [(.int (3 : Int32)), (.ref b1), (.ref b1)])) rfl (hb hby at_29)) ?_
  obtain ⟨cl11, Ar11, q11, S11, Nn11, H11, G11⟩ := id V9
  have hin12 : ¬ ((3 : Int32) < 0 ∨ cl11.slots.size ≤ ((3 : Int32)).toNatClampNeg) := inb_of S11 ⟨by decide, by decide⟩
  obtain ⟨T12, h12, X12, e12, W12, st12⟩ := stI X9 hx hZ e9 Ar11 (j := (3 : Int32)) hin12 (g := (mkF m 31 #[.val (.int p1), .val (.int q), .unset] [(.int (1000000 : Int32)), (.int (3 : Int32)), (.ref b1), (.ref b1)])) rfl rfl (hb hby at_31)
  have V12 : Arv Z h12 b1 k1 .int (10 : Int32) [(.int (1000000000 : Int32)), (.int (100000000 : Int32)), (.int (10000000 : Int32)), (.int (1000000 : Int32)), (.int (0 : Int32)), (.int (0 : Int32)), (.int (0 : Int32)), (.int (0 : Int32)), (.int (0 : Int32)), (.int (0 : Int32))] (.int (0 : Int32)) := Arv.set Ar11 q11 S11 Nn11 H11 G11 rfl W12 3 rfl (Nat.le_of_ble_eq_true rfl)
  have N13 := Fr.snoc X12 N10 g_b1
  refine own_st (T' := T12) (g' := (mkF m 32 #[.val (.int p1), .val (.int q), .unset] [(.ref b1)])) (st12) ?_
  refine own_st (T' := T12) (g' := (mkF m 33 #[.val (.int p1), .val (.int q), .unset] [(.ref b1), (.ref b1)])) (fun _ kq => XS.dup X12.here hx rfl (hb hby at_32) rfl rfl kq) ?_
  refine own_st (T' := T12) (g' := (mkF m 34 #[.val (.int p1), .val (.int q), .unset] [(.int (4 : Int32)), (.ref b1), (.ref b1)])) (fun _ kq => XS.iconst X12.here hx rfl (hb hby at_33) kq) ?_
  refine own_st (T' := T12) (g' := (mkF m 36 #[.val (.int p1), .val (.int q), .unset] [(.int (100000 : Int32)), (.int (4 : Int32)), (.ref b1), (.ref b1)])) (X12.ldcInt hx hown (mvT hZ (hw _ (List.mem_of_getElem? (i := 6) rfl))) (g := (mkF m 34 #[.val (.int p1), .val (.int q), .unset] [(.int (4 : Int32)), (.ref b1), (.ref b1)])) rfl (hb hby at_34)) ?_
  obtain ⟨cl14, Ar14, q14, S14, Nn14, H14, G14⟩ := id V12
  have hin15 : ¬ ((4 : Int32) < 0 ∨ cl14.slots.size ≤ ((4 : Int32)).toNatClampNeg) := inb_of S14 ⟨by decide, by decide⟩
  obtain ⟨T15, h15, X15, e15, W15, st15⟩ := stI X12 hx hZ e12 Ar14 (j := (4 : Int32)) hin15 (g := (mkF m 36 #[.val (.int p1), .val (.int q), .unset] [(.int (100000 : Int32)), (.int (4 : Int32)), (.ref b1), (.ref b1)])) rfl rfl (hb hby at_36)
  have V15 : Arv Z h15 b1 k1 .int (10 : Int32) [(.int (1000000000 : Int32)), (.int (100000000 : Int32)), (.int (10000000 : Int32)), (.int (1000000 : Int32)), (.int (100000 : Int32)), (.int (0 : Int32)), (.int (0 : Int32)), (.int (0 : Int32)), (.int (0 : Int32)), (.int (0 : Int32))] (.int (0 : Int32)) := Arv.set Ar14 q14 S14 Nn14 H14 G14 rfl W15 4 rfl (Nat.le_of_ble_eq_true rfl)
  have N16 := Fr.snoc X15 N13 g_b1
  refine own_st (T' := T15) (g' := (mkF m 37 #[.val (.int p1), .val (.int q), .unset] [(.ref b1)])) (st15) ?_
  refine own_st (T' := T15) (g' := (mkF m 38 #[.val (.int p1), .val (.int q), .unset] [(.ref b1), (.ref b1)])) (fun _ kq => XS.dup X15.here hx rfl (hb hby at_37) rfl rfl kq) ?_
  refine own_st (T' := T15) (g' := (mkF m 39 #[.val (.int p1), .val (.int q), .unset] [(.int (5 : Int32)), (.ref b1), (.ref b1)])) (fun _ kq => XS.iconst X15.here hx rfl (hb hby at_38) kq) ?_
  refine own_st (T' := T15) (g' := (mkF m 42 #[.val (.int p1), .val (.int q), .unset] [(.int (10000 : Int32)), (.int (5 : Int32)), (.ref b1), (.ref b1)])) (fun _ kq => XS.sipush X15.here hx rfl (hb hby at_39) kq) ?_
  obtain ⟨cl17, Ar17, q17, S17, Nn17, H17, G17⟩ := id V15
  have hin18 : ¬ ((5 : Int32) < 0 ∨ cl17.slots.size ≤ ((5 : Int32)).toNatClampNeg) := inb_of S17 ⟨by decide, by decide⟩
  obtain ⟨T18, h18, X18, e18, W18, st18⟩ := stI X15 hx hZ e15 Ar17 (j := (5 : Int32)) hin18 (g := (mkF m 42 #[.val (.int p1), .val (.int q), .unset] [(.int (10000 : Int32)), (.int (5 : Int32)), (.ref b1), (.ref b1)])) rfl rfl (hb hby at_42)
  have V18 : Arv Z h18 b1 k1 .int (10 : Int32) [(.int (1000000000 : Int32)), (.int (100000000 : Int32)), (.int (10000000 : Int32)), (.int (1000000 : Int32)), (.int (100000 : Int32)), (.int (10000 : Int32)), (.int (0 : Int32)), (.int (0 : Int32)), (.int (0 : Int32)), (.int (0 : Int32))] (.int (0 : Int32)) := Arv.set Ar17 q17 S17 Nn17 H17 G17 rfl W18 5 rfl (Nat.le_of_ble_eq_true rfl)
  have N19 := Fr.snoc X18 N16 g_b1
  refine own_st (T' := T18) (g' := (mkF m 43 #[.val (.int p1), .val (.int q), .unset] [(.ref b1)])) (st18) ?_
  refine own_st (T' := T18) (g' := (mkF m 44 #[.val (.int p1), .val (.int q), .unset] [(.ref b1), (.ref b1)])) (fun _ kq => XS.dup X18.here hx rfl (hb hby at_43) rfl rfl kq) ?_
  refine own_st (T' := T18) (g' := (mkF m 46 #[.val (.int p1), .val (.int q), .unset] [(.int (6 : Int32)), (.ref b1), (.ref b1)])) (fun _ kq => XS.bipush X18.here hx rfl (hb hby at_44) kq) ?_
  refine own_st (T' := T18) (g' := (mkF m 49 #[.val (.int p1), .val (.int q), .unset] [(.int (1000 : Int32)), (.int (6 : Int32)), (.ref b1), (.ref b1)])) (fun _ kq => XS.sipush X18.here hx rfl (hb hby at_46) kq) ?_
  obtain ⟨cl20, Ar20, q20, S20, Nn20, H20, G20⟩ := id V18
  have hin21 : ¬ ((6 : Int32) < 0 ∨ cl20.slots.size ≤ ((6 : Int32)).toNatClampNeg) := inb_of S20 ⟨by decide, by decide⟩
  obtain ⟨T21, h21, X21, e21, W21, st21⟩ := stI X18 hx hZ e18 Ar20 (j := (6 : Int32)) hin21 (g := (mkF m 49 #[.val (.int p1), .val (.int q), .unset] [(.int (1000 : Int32)), (.int (6 : Int32)), (.ref b1), (.ref b1)])) rfl rfl (hb hby at_49)
  have V21 : Arv Z h21 b1 k1 .int (10 : Int32) [(.int (1000000000 : Int32)), (.int (100000000 : Int32)), (.int (10000000 : Int32)), (.int (1000000 : Int32)), (.int (100000 : Int32)), (.int (10000 : Int32)), (.int (1000 : Int32)), (.int (0 : Int32)), (.int (0 : Int32)), (.int (0 : Int32))] (.int (0 : Int32)) := Arv.set Ar20 q20 S20 Nn20 H20 G20 rfl W21 6 rfl (Nat.le_of_ble_eq_true rfl)
  have N22 := Fr.snoc X21 N19 g_b1
  refine own_st (T' := T21) (g' := (mkF m 50 #[.val (.int p1), .val (.int q), .unset] [(.ref b1)])) (st21) ?_
  refine own_st (T' := T21) (g' := (mkF m 51 #[.val (.int p1), .val (.int q), .unset] [(.ref b1), (.ref b1)])) (fun _ kq => XS.dup X21.here hx rfl (hb hby at_50) rfl rfl kq) ?_
  refine own_st (T' := T21) (g' := (mkF m 53 #[.val (.int p1), .val (.int q), .unset] [(.int (7 : Int32)), (.ref b1), (.ref b1)])) (fun _ kq => XS.bipush X21.here hx rfl (hb hby at_51) kq) ?_
  refine own_st (T' := T21) (g' := (mkF m 55 #[.val (.int p1), .val (.int q), .unset] [(.int (100 : Int32)), (.int (7 : Int32)), (.ref b1), (.ref b1)])) (fun _ kq => XS.bipush X21.here hx rfl (hb hby at_53) kq) ?_
  obtain ⟨cl23, Ar23, q23, S23, Nn23, H23, G23⟩ := id V21
  have hin24 : ¬ ((7 : Int32) < 0 ∨ cl23.slots.size ≤ ((7 : Int32)).toNatClampNeg) := inb_of S23 ⟨by decide, by decide⟩
  obtain ⟨T24, h24, X24, e24, W24, st24⟩ := stI X21 hx hZ e21 Ar23 (j := (7 : Int32)) hin24 (g := (mkF m 55 #[.val (.int p1), .val (.int q), .unset] [(.int (100 : Int32)), (.int (7 : Int32)), (.ref b1), (.ref b1)])) rfl rfl (hb hby at_55)
  have V24 : Arv Z h24 b1 k1 .int (10 : Int32) [(.int (1000000000 : Int32)), (.int (100000000 : Int32)), (.int (10000000 : Int32)), (.int (1000000 : Int32)), (.int (100000 : Int32)), (.int (10000 : Int32)), (.int (1000 : Int32)), (.int (100 : Int32)), (.int (0 : Int32)), (.int (0 : Int32))] (.int (0 : Int32)) := Arv.set Ar23 q23 S23 Nn23 H23 G23 rfl W24 7 rfl (Nat.le_of_ble_eq_true rfl)
  have N25 := Fr.snoc X24 N22 g_b1
  refine own_st (T' := T24) (g' := (mkF m 56 #[.val (.int p1), .val (.int q), .unset] [(.ref b1)])) (st24) ?_
  refine own_st (T' := T24) (g' := (mkF m 57 #[.val (.int p1), .val (.int q), .unset] [(.ref b1), (.ref b1)])) (fun _ kq => XS.dup X24.here hx rfl (hb hby at_56) rfl rfl kq) ?_
  refine own_st (T' := T24) (g' := (mkF m 59 #[.val (.int p1), .val (.int q), .unset] [(.int (8 : Int32)), (.ref b1), (.ref b1)])) (fun _ kq => XS.bipush X24.here hx rfl (hb hby at_57) kq) ?_
  refine own_st (T' := T24) (g' := (mkF m 61 #[.val (.int p1), .val (.int q), .unset] [(.int (10 : Int32)), (.int (8 : Int32)), (.ref b1), (.ref b1)])) (fun _ kq => XS.bipush X24.here hx rfl (hb hby at_59) kq) ?_
  obtain ⟨cl26, Ar26, q26, S26, Nn26, H26, G26⟩ := id V24
  have hin27 : ¬ ((8 : Int32) < 0 ∨ cl26.slots.size ≤ ((8 : Int32)).toNatClampNeg) := inb_of S26 ⟨by decide, by decide⟩
  obtain ⟨T27, h27, X27, e27, W27, st27⟩ := stI X24 hx hZ e24 Ar26 (j := (8 : Int32)) hin27 (g := (mkF m 61 #[.val (.int p1), .val (.int q), .unset] [(.int (10 : Int32)), (.int (8 : Int32)), (.ref b1), (.ref b1)])) rfl rfl (hb hby at_61)
  have V27 : Arv Z h27 b1 k1 .int (10 : Int32) [(.int (1000000000 : Int32)), (.int (100000000 : Int32)), (.int (10000000 : Int32)), (.int (1000000 : Int32)), (.int (100000 : Int32)), (.int (10000 : Int32)), (.int (1000 : Int32)), (.int (100 : Int32)), (.int (10 : Int32)), (.int (0 : Int32))] (.int (0 : Int32)) := Arv.set Ar26 q26 S26 Nn26 H26 G26 rfl W27 8 rfl (Nat.le_of_ble_eq_true rfl)
  have N28 := Fr.snoc X27 N25 g_b1
  refine own_st (T' := T27) (g' := (mkF m 62 #[.val (.int p1), .val (.int q), .unset] [(.ref b1)])) (st27) ?_
  refine own_st (T' := T27) (g' := (mkF m 63 #[.val (.int p1), .val (.int q), .unset] [(.ref b1), (.ref b1)])) (fun _ kq => XS.dup X27.here hx rfl (hb hby at_62) rfl rfl kq) ?_
  refine own_st (T' := T27) (g' := (mkF m 65 #[.val (.int p1), .val (.int q), .unset] [(.int (9 : Int32)), (.ref b1), (.ref b1)])) (fun _ kq => XS.bipush X27.here hx rfl (hb hby at_63) kq) ?_
  refine own_st (T' := T27) (g' := (mkF m 66 #[.val (.int p1), .val (.int q), .unset] [(.int (1 : Int32)), (.int (9 : Int32)), (.ref b1), (.ref b1)])) (fun _ kq => XS.iconst X27.here hx rfl (hb hby at_65) kq) ?_
  obtain ⟨cl29, Ar29, q29, S29, Nn29, H29, G29⟩ := id V27
  have hin30 : ¬ ((9 : Int32) < 0 ∨ cl29.slots.size ≤ ((9 : Int32)).toNatClampNeg) := inb_of S29 ⟨by decide, by decide⟩
  obtain ⟨T30, h30, X30, e30, W30, st30⟩ := stI X27 hx hZ e27 Ar29 (j := (9 : Int32)) hin30 (g := (mkF m 66 #[.val (.int p1), .val (.int q), .unset] [(.int (1 : Int32)), (.int (9 : Int32)), (.ref b1), (.ref b1)])) rfl rfl (hb hby at_66)
  have V30 : Arv Z h30 b1 k1 .int (10 : Int32) [(.int (1000000000 : Int32)), (.int (100000000 : Int32)), (.int (10000000 : Int32)), (.int (1000000 : Int32)), (.int (100000 : Int32)), (.int (10000 : Int32)), (.int (1000 : Int32)), (.int (100 : Int32)), (.int (10 : Int32)), (.int (1 : Int32))] (.int (0 : Int32)) := Arv.set Ar29 q29 S29 Nn29 H29 G29 rfl W30 9 rfl (Nat.le_of_ble_eq_true rfl)
  have N31 := Fr.snoc X30 N28 g_b1
  refine own_st (T' := T30) (g' := (mkF m 67 #[.val (.int p1), .val (.int q), .unset] [(.ref b1)])) (st30) ?_
  refine own_st (T' := T30) (g' := (mkF m 68 #[.val (.int p1), .val (.int q), .val (.ref b1)] [])) (fun _ kq => XS.astoreN X30.here hx rfl (hb hby at_67) rfl rfl (l' := #[.val (.int p1), .val (.int q), .val (.ref b1)]) rfl kq) ?_
  refine own_st (T' := T30) (g' := (mkF m 69 #[.val (.int p1), .val (.int q), .val (.ref b1)] [(.int q)])) (fun _ kq => XS.iloadN X30.here hx rfl (hb hby at_68) rfl kq) ?_
  have O32 : Old Z n0 h30 := (((((((((((O0.ext E1).wr W3 g_b1).wr W6 g_b1).wr W9 g_b1).wr W12 g_b1).wr W15 g_b1).wr W18 g_b1).wr W21 g_b1).wr W24 g_b1).wr W27 g_b1).wr W30 g_b1)
  obtain ⟨_, _, ⟨T33, L33, k33, n33⟩, -, X33, ⟨Lc33, hQ33, l33, y33, z33⟩, st33⟩ := Jvm.LawKit.callS X30 hx (y := (⟨"com/example/table_rules/tablerules/engine/TimestampValue", "unit", "(I)I"⟩ : MethodName)) hown (mvT hZ (hw _ (List.mem_of_getElem? (i := 7) rfl))) (mvT hZ (hw _ (List.mem_of_getElem? (i := 8) rfl))) (mvT hZ (hw _ (List.mem_of_getElem? (i := 9) rfl))) (mvT hZ (hw _ (List.mem_of_getElem? (i := 10) rfl))) (by decide) (backOf (W := 0) (rmunit l Z a0 hw [] q h30 n0 O32 h0' h1') hZ (hw _ (List.mem_of_getElem? (i := 10) rfl)) (hw _ (List.mem_of_getElem? (i := 9) rfl)) (by decide) (by decide)) (g := (mkF m 69 #[.val (.int p1), .val (.int q), .val (.ref b1)] [(.int q)])) rfl (by rw [hml]; rfl) (argsL := [(.int q)]) (rest := []) (lenOf pd_I_I_227 rfl) rfl (by show 2 * 0 + _ ≤ _; exact Nat.le_of_eq rfl) (hb hby at_69) (fun _ _ => ⟨rfl, e30, (by decide : 1 + 0 ≤ _), (by decide : 10 + 0 ≤ _)⟩)
  dsimp only [Pt.U, Pt.locs, Pt.cells, Pt.slots] at X33 l33 y33 z33 st33 hQ33
  subst l33 y33 z33
  obtain ⟨rfl, Nq33, hh33⟩ := hQ33
  have N34 := Fr.app N31 Nq33
  refine own_st (T' := T33) (g' := (mkF m 72 #[.val (.int p1), .val (.int q), .val (.ref b1)] [(.int (own_lp (9 - q.toInt.toNat) 1))])) st33 ?_
  refine own_st (T' := T33) (g' := (mkF m 73 #[.val (.int p1), .val (.int q), .val (.ref b1)] [(.ref b1), (.int (own_lp (9 - q.toInt.toNat) 1))])) (fun _ kq => XS.aloadN X33.here hx rfl (hb hby at_72) rfl rfl kq) ?_
  refine own_st (T' := T33) (g' := (mkF m 74 #[.val (.int p1), .val (.int q), .val (.ref b1)] [(.int q), (.ref b1), (.int (own_lp (9 - q.toInt.toNat) 1))])) (fun _ kq => XS.iloadN X33.here hx rfl (hb hby at_73) rfl kq) ?_
  obtain ⟨cl35, Ar35, q35, S35, Nn35, H35, G35⟩ := id V30
  have hin36 : ¬ (q < 0 ∨ cl35.slots.size ≤ (q).toNatClampNeg) := inb_of S35 ⟨own_nlt h0', own_lt10 h1'⟩
  have hat36 : cl35.slots[(q).toNatClampNeg]? = some (.int (own_lp (9 - q.toInt.toNat) 1)) := Has.at H35 hin36 (own_tab q h0' h1')
  refine own_st (T' := T33) (g' := (mkF m 75 #[.val (.int p1), .val (.int q), .val (.ref b1)] [(.int (own_lp (9 - q.toInt.toNat) 1)), (.int (own_lp (9 - q.toInt.toNat) 1))])) (X33.iaload hx (j := q) (v := (.int (own_lp (9 - q.toInt.toNat) 1))) (by rw [hh33]; exact Ar35.1) (State.isArrayOf_alike hZ.alike Ar35.2.1) Ar35.2.2 hin36 hat36 (g := (mkF m 74 #[.val (.int p1), .val (.int q), .val (.ref b1)] [(.int q), (.ref b1), (.int (own_lp (9 - q.toInt.toNat) 1))])) rfl rfl (hb hby at_74)) ?_
  refine own_st (T' := T33) (g' := (mkF m 78 #[.val (.int p1), .val (.int q), .val (.ref b1)] [])) (fun _ kq => XS.icmpNo X33.here hx rfl (hb hby at_75) rfl (teq (rfl : (own_lp (9 - q.toInt.toNat) 1) = (own_lp (9 - q.toInt.toNat) 1))).2 kq) ?_
  refine own_st (T' := T33) (g' := (mkF m 79 #[.val (.int p1), .val (.int q), .val (.ref b1)] [(.int (1 : Int32))])) (fun _ kq => XS.iconst X33.here hx rfl (hb hby at_78) kq) ?_
  refine own_st (T' := T33) (g' := (mkF m 83 #[.val (.int p1), .val (.int q), .val (.ref b1)] [(.int (1 : Int32))])) (fun _ kq => XS.goto X33.here hx rfl (pc0 := 79) (pc' := 83) rfl (hb hby at_79) (by decide) (by decide) kq) ?_
  refine own_out X33 Bd.notSynchronized (v := (some (.int (1 : Int32)))) (fun h => by rw [Bd.returns] at h; cases h) (fun fs hr => retN X33 hx (t := .boolean) Bd.returns (by simp) (hb hby at_83) hr) ?_ (by decide) (by decide)
  rw [hh33]
  exact ⟨rfl, N34⟩
set_option maxRecDepth 65536 in
set_option maxHeartbeats 40000000 in
theorem comes_1 {Post : Tables → Env → Array Value → State → Outcome → State → Prop} (hpost : ∀ tb e args s v u, (limb_1_1.after args s (.returned v) u = true ∧ limb_1_2.after args s (.returned v) u = true ∧ True) → FrameEnd s (.returned v) u (Jvm.fieldLocs frame_1_writes args s ++ Jvm.arrayLocs frame_1_arrays args s ++ Jvm.staticLocs frame_1_statics s) 16 128 → Post tb e args s (.returned v) u) :
    ArmFor flags0 classFile x code maxLocals ret World_1 tables_1 room_1 Calls_1 rest_1 Pre_1 Post := by
  intro l hfl _ _ p e ha hc hk s m args below hf hA hF happ hP
  obtain ⟨hcalls, hrest, hpre⟩ := hP
  obtain ⟨-, -, -, hnamed, -, -, -, hat⟩ := (Spec.applies_iff hf).mp happ
  obtain ⟨hg, hn⟩ := and_e (Cond.before_iff.mp (show (Jvm.Cond.and given_1 narrow_1).before args s = true from hpre))
  obtain ⟨hcnt, hg0⟩ := and_e hg
  have ha0 := hg0
  obtain ⟨w0, rfl⟩ : ∃ w0 : Value, args = #[w0] := by
    have hs : args.size = 1 := by simpa [Cond.value, given_1] using hcnt
    obtain ⟨L⟩ := args
    match L, hs with
    | [w0], _ => exact ⟨w0, rfl⟩
  have hw := fun d (hd : d ∈ tables_1) => atoms_spec (ws := Jvm.Cond.code x code maxLocals ret :: tables_1) hat d (List.mem_cons_of_mem _ hd)
  have hfit : Fit s := fun {y c} hc i hi => by
    obtain ⟨ha, rfl⟩ := Array.getElem?_eq_some_iff.mp hc
    have q := List.all_eq_true.mp ((Array.all_eq_true_iff_forall_mem.mp hF) _ (Array.getElem_mem ha)) i (List.mem_range.mpr hi)
    simpa [Array.getElem?_eq_getElem hi] using q
  obtain ⟨i0, ei0⟩ := is_v ha0
  obtain rfl : w0 = (.int i0) := Option.some.inj ei0
  obtain ⟨n, o, h1, h2, h3, _, L, rfl, ⟨rfl, N⟩, hq⟩ := rm0 l s _ hw tables_1 i0 s.heap s.heap.size (Old.start s) p e ha hc hk s m _ below hf ((Spec.applies_iff_loose hf).mp happ).1 ⟨rfl, State.Warmed39.refl s, rfl⟩ trivial
  refine ⟨n, _, h1, h2, h3, hpost _ _ _ _ _ _ ⟨Cond.after_iff.mpr rfl, Cond.after_iff.mpr (eq_i res_at (Term.int_eval (1)) rfl), trivial⟩ ⟨hq.1, hq.2.1, (hq.2.2.sift fun y hy => Or.inr (N y hy)).mono (by decide) (by decide)⟩⟩
theorem main_1_1 : Claimed_1_1 := comes_1 fun _ _ _ _ _ _ h hF => ⟨h.1, hF⟩
theorem main_1_2 : Claimed_1_2 := comes_1 fun _ _ _ _ _ _ h hF => ⟨h.2.1, hF⟩
end Jvm.Pilot.@@N@@
namespace Jvm.Pilot.@@N@@
open Jvm Jvm.ClassFile Sem Op Lib Jvm.Free Jvm.Stand Jvm.Pilot.@@N@@.Jvm.D
/-! MADE BY PROGRAM (witnessworld.py) out of the Statement's table words and the real class files: 10 classes; the members and pool entries that the words name. The judged class is class 1, her method 1. -/
namespace start1
open Jvm.ClassFile
def u (s : String) : CpInfo := .utf8 (stringToUtf16 s)
/-- a pool by its gaps: so many unusable entries, then the entry; so many at the end -/
def gap : Nat → List CpInfo → List CpInfo
  | 0, r => r
  | n + 1, r => .unusable :: gap n r
def poolList (es : List (Nat × CpInfo)) (last : Nat) : List CpInfo := es.foldr (fun e r => gap e.1 (e.2 :: r)) (gap last [])
def pool (es : List (Nat × CpInfo)) (last : Nat) : Array CpInfo := ⟨poolList es last⟩
def fileOf (pool : Array CpInfo) (this : Nat) (attrs : Array Attribute := #[]) (ms : Array MethodInfo := #[]) (fl : Nat := 33) (sup : Nat := 0) (ifs : Array Nat := #[]) (fds : Array FieldInfo := #[]) : ClassFile where
  minorVersion := 0
  majorVersion := 65
  constantPool := pool
  accessFlags := fl
  thisClass := this
  superClass := sup
  interfaces := ifs
  fields := fds
  methods := ms
  attributes := attrs
def plain (name : String) (sup : Option ClassId) : Class where
  name := name
  kind := .ordinary
  loader := none
  accessFlags := 33
  super := sup
  interfaces := #[]
  cf := none
  fields := #[]
  methods := #[]
  instanceTypes := #[]
  staticTypes := #[]
  resolved := #[]
  callSites := []
  init := .initialized
  statics := none
  mirror := none

def pool0 : Array CpInfo := pool [(5, u "<init>"), (0, u "()V"), (1, .class_ 10), (1, u "java/lang/Object")] 113

def k0m0 : Method := { name := "<init>", desc := "()V", sig := { parameters := [], returnType := none }, accessFlags := 1, code := none }
/-- java/lang/Object -/
def k0 : Class := { plain "java/lang/Object" none with
  accessFlags := 33
  interfaces := #[]
  cf := some (fileOf pool0 8 #[] #[{ accessFlags := 1, nameIndex := 5, descriptorIndex := 6, attributes := #[] }] 33 0 #[] #[])
  fields := #[]
  methods := #[k0m0]
  instanceTypes := #[]
  staticTypes := #[]
  resolved := Array.replicate 124 none
  statics := none }

def pool1 : Array CpInfo := pool [(2, .class_ 4), (1, u "java/lang/Object"), (0, u "<init>"), (0, u "()V"), (0, .integer 2147483647), (0, .integer 1000000000), (0, .integer 100000000), (0, .integer 10000000), (0, .integer 1000000), (0, .integer 100000), (0, .methodref 14 15), (0, .class_ 16), (0, .nameAndType 17 18), (0, u "com/example/table_rules/tablerules/engine/TimestampValue"), (0, u "unit"), (0, u "(I)I"), (0, .class_ 20), (0, u "com/example/table_rules/tablerules/engine/TimestampValueUnitPinLaw"), (2, u "law"), (0, u "(I)Z")] 5

def k1m0 : Method := { name := "<init>", desc := "()V", sig := { parameters := [], returnType := none }, accessFlags := 2, code := none }
def k1c1 : Code := { maxStack := 4, maxLocals := 3, code := code, exceptionTable := #[], attributes := #[] }
def k1m1 : Method := { name := "law", desc := "(I)Z", sig := { parameters := [.int], returnType := some .boolean }, accessFlags := 9, code := some k1c1 }
/-- com/example/table_rules/tablerules/engine/TimestampValueUnitPinLaw -/
def k1 : Class := { plain "com/example/table_rules/tablerules/engine/TimestampValueUnitPinLaw" (some 0) with
  accessFlags := 49
  interfaces := #[]
  cf := some (fileOf pool1 19 #[] #[{ accessFlags := 2, nameIndex := 5, descriptorIndex := 6, attributes := #[] }, { accessFlags := 9, nameIndex := 23, descriptorIndex := 24, attributes := #[] }] 49 2 #[] #[])
  fields := #[]
  methods := #[k1m0, k1m1]
  instanceTypes := #[]
  staticTypes := #[]
  resolved := Array.replicate 30 none
  statics := none }

def pool2 : Array CpInfo := pool [(1, .class_ 2), (0, u "java/lang/Comparable"), (0, .class_ 4), (0, u "java/lang/Object")] 7

/-- java/lang/Comparable -/
def k2 : Class := { plain "java/lang/Comparable" (some 0) with
  accessFlags := 1537
  interfaces := #[]
  cf := some (fileOf pool2 1 #[] #[] 1537 3 #[] #[])
  fields := #[]
  methods := #[]
  instanceTypes := #[]
  staticTypes := #[]
  resolved := Array.replicate 12 none
  statics := none }

def pool3 : Array CpInfo := pool [(2, .class_ 4), (1, u "java/lang/Object"), (3, .class_ 10), (1, u "com/example/table_rules/tablerules/engine/TimestampValue"), (0, u "second"), (0, u "Lcom/example/table_rules/tablerules/engine/DateValue;"), (2, u "nanos"), (0, u "I"), (2, u "precision"), (12, u "unit"), (0, u "(I)I"), (72, .class_ 107), (0, u "java/lang/Comparable"), (0, u "MAX_PRECISION"), (2, u "NANOS_PER_SECOND")] 36

def k3c0 : Code := { maxStack := 2, maxLocals := 3, code := prog_146_method_14_code, exceptionTable := #[], attributes := #[] }
def k3m0 : Method := { name := "unit", desc := "(I)I", sig := { parameters := [.int], returnType := some .int }, accessFlags := 8, code := some k3c0 }
/-- com/example/table_rules/tablerules/engine/TimestampValue -/
def k3 : Class := { plain "com/example/table_rules/tablerules/engine/TimestampValue" (some 0) with
  accessFlags := 33
  interfaces := #[2]
  cf := some (fileOf pool3 8 #[] #[{ accessFlags := 8, nameIndex := 32, descriptorIndex := 33, attributes := #[] }] 33 2 #[106] #[{ accessFlags := 25, nameIndex := 108, descriptorIndex := 16, attributes := #[] }, { accessFlags := 26, nameIndex := 111, descriptorIndex := 16, attributes := #[] }, { accessFlags := 18, nameIndex := 11, descriptorIndex := 12, attributes := #[] }, { accessFlags := 18, nameIndex := 15, descriptorIndex := 16, attributes := #[] }, { accessFlags := 18, nameIndex := 19, descriptorIndex := 16, attributes := #[] }])
  fields := #[{ name := "MAX_PRECISION", type := .int, accessFlags := 25, slot := 0, constantValue := 0 }, { name := "NANOS_PER_SECOND", type := .int, accessFlags := 26, slot := 1, constantValue := 0 }, { name := "second", type := (.object "com/example/table_rules/tablerules/engine/DateValue"), accessFlags := 18, slot := 0, constantValue := 0 }, { name := "nanos", type := .int, accessFlags := 18, slot := 1, constantValue := 0 }, { name := "precision", type := .int, accessFlags := 18, slot := 2, constantValue := 0 }]
  methods := #[k3m0]
  instanceTypes := #[(.object "com/example/table_rules/tablerules/engine/DateValue"), .int, .int]
  staticTypes := #[.int, .int]
  resolved := Array.replicate 148 none
  statics := none }

def pool4 : Array CpInfo := pool [(1, u "java/lang/Cloneable"), (0, .class_ 1), (0, u "java/lang/Object"), (0, .class_ 3)] 3

/-- java/lang/Cloneable -/
def k4 : Class := { plain "java/lang/Cloneable" (some 0) with
  accessFlags := 1537
  interfaces := #[]
  cf := some (fileOf pool4 2 #[] #[] 1537 4 #[] #[])
  fields := #[]
  methods := #[]
  instanceTypes := #[]
  staticTypes := #[]
  resolved := Array.replicate 8 none
  statics := none }

def pool5 : Array CpInfo := pool [(1, u "java/io/Serializable"), (0, .class_ 1), (0, u "java/lang/Object"), (0, .class_ 3)] 3

/-- java/io/Serializable -/
def k5 : Class := { plain "java/io/Serializable" (some 0) with
  accessFlags := 1537
  interfaces := #[]
  cf := some (fileOf pool5 2 #[] #[] 1537 4 #[] #[])
  fields := #[]
  methods := #[]
  instanceTypes := #[]
  staticTypes := #[]
  resolved := Array.replicate 8 none
  statics := none }

/-- the primitive byte -/
def k6 : Class := { plain "byte" none with kind := .primitive 'B', accessFlags := 0x411 }
/-- [B -/
def k7 : Class := { plain "[B" (some 0) with kind := .array 6 .byte, interfaces := #[4, 5], accessFlags := 1041 }

/-- the primitive int -/
def k8 : Class := { plain "int" none with kind := .primitive 'I', accessFlags := 0x411 }
/-- [I -/
def k9 : Class := { plain "[I" (some 0) with kind := .array 8 .int, interfaces := #[4, 5], accessFlags := 1041 }

def heap : Heap := #[]
def classes : Array Class := #[k0, k1, k2, k3, k4, k5, k6, k7, k8, k9]
def interned : List (Array UInt16 × Addr) := []
def slotsUsed : Nat := 0
def theMethod : MethodId := ⟨1, 1⟩
def args0 : Array Value := #[.int 5]
def aboutOver (below : List Frame) : State where
  vm := { classes := classes, interned := interned.toArray }
  heap := heap
  slotsUsed := slotsUsed
  threads := #[{ frames := .invoking theMethod args0 :: below }]
def below0 : List Frame := [.native { method := ⟨0, 0⟩, args := #[] }]
def about1 : State := aboutOver below0
def p0 : Program := .bare "" "" ""
def e0 : Env := launch0.env 0 0 0
theorem w_frames : about1.frames = Frame.invoking theMethod args0 :: below0 := rfl
set_option maxRecDepth 65536 in
theorem w_args : argsFit about1.vm theMethod args0 = true := by decide +kernel
set_option maxRecDepth 65536 in
theorem w_heap : heapFits about1 = true := by decide +kernel
set_option maxRecDepth 65536 in
theorem w_runnable : about1.curStatus? = some .runnable := by decide +kernel
set_option maxRecDepth 65536 in
theorem w_alone : about1.alone = true := by decide +kernel
set_option maxRecDepth 65536 in
theorem w_named : about1.methodNamed? x = some theMethod := by decide +kernel
set_option maxRecDepth 65536 in
theorem w_hears : about1.hears theMethod below0 = true := by decide +kernel
set_option maxRecDepth 65536 in
theorem w_ripe : about1.ripe theMethod args0 below0 = true := by decide +kernel
theorem w_running : about1.status = .running := rfl
set_option maxRecDepth 65536 in
theorem w_room : about1.hasRoom e0.platform room_1 = true :=
  launch0.hasRoom_least _ room_1 (by decide +kernel) (by decide +kernel) (by decide +kernel) (by decide +kernel) (by decide +kernel) (by decide +kernel)
theorem allAtoms_all (ts : List Jvm.Cond) (a : Array Jvm.Value) (st : Jvm.State) : (allAtoms ts).before a st = ts.all (fun c => c.before a st) := by
  induction ts with
  | nil => rfl
  | cons c t ih =>
    show (Jvm.Cond.and c (allAtoms t)).before a st = _
    rw [Jvm.Cond.before_and, ih, List.all_cons]
def words1 : List Jvm.Cond := Jvm.Cond.code x code maxLocals ret :: tables_1
/-- a 'code' word, met by the world's own term for the bytes: nothing is compared byte by byte -/
theorem code_word {y : MethodName} {bytes : ByteArray} {mx : Nat} {rt : Option FieldType} {a : Array Value} {s : State} {m : MethodId} {meth : Method} {c : Code} (h1 : s.methodNamed? y = some m) (h2 : s.vm.method? m = some meth) (h3 : meth.code = some c) (h4 : c.code = bytes)
    (h5 : (c.maxLocals == mx && c.exceptionTable.isEmpty && decide (c.maxStack ≤ mostOperands) && decide (meth.sig.returnType = rt) && !meth.locks && decide (parseMethodDescriptor y.desc = some meth.sig)) = true) : (Jvm.Cond.code y bytes mx rt).before a s = true := by
  simp only [Bool.and_eq_true, beq_iff_eq, Bool.not_eq_true', decide_eq_true_eq] at h5
  obtain ⟨⟨⟨⟨⟨g1, g2⟩, g3⟩, g4⟩, g5⟩, g6⟩ := h5
  simp [Cond.before, Cond.holds, Cond.value, h1, h2, h3, h4, g1, g2, g3, g4, g5, g6]
def isCode : Jvm.Cond → Bool
  | .code _ _ _ _ => true
  | _ => false
theorem all_split {L : List Jvm.Cond} {P : Jvm.Cond → Bool} (h1 : L.all (fun c => isCode c || P c) = true) (h2 : ∀ c ∈ L.filter isCode, P c = true) : L.all P = true := by
  refine List.all_eq_true.mpr fun c hc => ?_
  have h := List.all_eq_true.mp h1 c hc
  rcases Bool.eq_false_or_eq_true (isCode c) with hi | hi
  · exact h2 c (List.mem_filter.mpr ⟨hc, hi⟩)
  · simpa [hi] using h
set_option maxRecDepth 65536 in
theorem w_c0 : (Jvm.Cond.code x code maxLocals ret).before args0 about1 = true := code_word (m := ⟨1, 1⟩) (meth := k1m1) (c := k1c1) (by decide +kernel) rfl rfl rfl (by decide +kernel)
set_option maxRecDepth 65536 in
theorem w_c1 : (Jvm.Cond.code ({ cls := "com/example/table_rules/tablerules/engine/TimestampValue", name := "unit", desc := "(I)I" } : Jvm.MethodName) prog_146_method_14_code (3 : Nat) (Option.some Jvm.ClassFile.FieldType.int)).before args0 about1 = true := code_word (m := ⟨3, 0⟩) (meth := k3m0) (c := k3c0) (by decide +kernel) rfl rfl rfl (by decide +kernel)
def codes1 : List Jvm.Cond := [Jvm.Cond.code x code maxLocals ret, Jvm.Cond.code ({ cls := "com/example/table_rules/tablerules/engine/TimestampValue", name := "unit", desc := "(I)I" } : Jvm.MethodName) prog_146_method_14_code (3 : Nat) (Option.some Jvm.ClassFile.FieldType.int)]
set_option maxRecDepth 65536 in
theorem codes_eq : words1.filter isCode = codes1 := rfl
theorem w_codes : ∀ c ∈ words1.filter isCode, c.before args0 about1 = true := by
  rw [codes_eq]
  intro c hc
  simp only [codes1, List.mem_cons, List.not_mem_nil, or_false] at hc
  rcases hc with rfl | rfl
  · exact w_c0
  · exact w_c1
set_option maxRecDepth 65536 in
theorem w_t1 : words1.all (fun c => isCode c || c.before args0 about1) = true := by decide +kernel
theorem w_tables : (allAtoms (Jvm.Cond.code x code maxLocals ret :: tables_1)).before args0 about1 = true := by
  rw [allAtoms_all]
  show words1.all (fun c => c.before args0 about1) = true
  refine all_split ?_ w_codes
  rw [w_t1]
set_option maxRecDepth 65536 in
theorem w_case : (Jvm.Cond.and given_1 narrow_1).before args0 about1 = true := by decide +kernel
theorem w_applies : (headSpec (Jvm.Cond.code x code maxLocals ret :: tables_1) room_1).applies x e0.platform about1 = true :=
  (Spec.applies_iff w_frames).mpr ⟨w_running, w_runnable, w_alone, w_named, w_hears, w_ripe, w_room, w_tables⟩
theorem atStart : AtStart classFile x code maxLocals ret World_1 tables_1 room_1 Calls_1 rest_1 Pre_1 launch0 p0 e0 about1 theMethod args0 below0 :=
  ⟨lists_1, trivial, launch0.admits_env _ _ _, launch0.least_env, fairChoices_fair.cas, fairChoices_fair.clock, w_frames, w_args, w_heap, w_applies, trivial, trivial, w_case⟩
end start1
theorem witness_1 : WitnessClaimed_1 := ⟨start1.p0, start1.e0, start1.about1, start1.theMethod, start1.args0, start1.below0, start1.atStart⟩
end Jvm.Pilot.@@N@@
