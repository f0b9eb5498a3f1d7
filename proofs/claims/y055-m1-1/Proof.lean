import JvmDerived
import JvmDerived.Pilot.@@N@@Statement
import JvmDerived.Pilot.@@N@@Code
set_option linter.unusedVariables false
set_option linter.unusedSimpArgs false
namespace Jvm.Pilot.@@N@@
open Jvm Jvm.ClassFile Sem Op Lib Jvm.Free Jvm.Stand Jvm.LawKit Jvm.RoadKit Bundle Jvm.Pilot.@@N@@.Jvm.D
/-! the run comes to an end that answers Q -/
def Go (p : Program) (e : Env) (below : List Frame) (Q : Outcome → State → Prop) (T : State) (g : JFrame) : Prop :=
  ∃ s₂ o, Steps p.tables e below (T.setTop g) s₂ ∧ s₂.status = .running ∧ Ended s₂ below o ∧ Q o s₂
section Own
variable {p : Program} {l : Launch} {e : Env} {R : Room} {s : State} {m : MethodId} {args : Array Value} {below : List Frame} {meth : Method} {c : Code} {T T' : State} {locs : List Loc} {cells slots : Nat} {Q : Outcome → State → Prop} {g g' : JFrame}
theorem Go.of (k : ∀ t, Steps p.tables e below (T'.setTop g') t → Steps p.tables e below (T.setTop g) t) (h : Go p e below Q T' g') : Go p e below Q T g := by
  obtain ⟨u, o, h1, h2⟩ := h
  exact ⟨u, o, k _ h1, h2⟩
theorem Go.via (k : Steps p.tables e below (T.setTop g) (T'.setTop g')) (h : Go p e below Q T' g') : Go p e below Q T g := by
  obtain ⟨u, o, h1, h2⟩ := h
  exact ⟨u, o, k.trans h1, h2⟩
theorem Go.cast (q : g = g') (h : Go p e below Q T g') : Go p e below Q T g := q ▸ h
theorem own_out (X : Stand p l e R s m args below meth c T locs cells slots) {v : Option Value} (hv : meth.sig.returnType = none → v = none) (hlocks : meth.locks = false)
    (k : ∀ fs : List Frame, (∀ (f : JFrame) (acts : List Action), f.method = m → f.locked = none → f.entered = [] → (doReturn e (T.setTop f) acts v).1 = T.setFrames fs) → Steps p.tables e below (T.setTop g) (T.setFrames fs))
    (hQ : ∀ u : State, u.heap = T.heap → FrameEnd s (.returned v) u locs cells slots → Q (.returned v) u) : Go p e below Q T g := by
  obtain ⟨fs, hr, hrun, hended, hW, hsame⟩ := X.leave hv hlocks
  exact ⟨_, _, k fs hr, hrun, hended, hQ _ rfl ⟨⟨_, rfl⟩, hW, hsame⟩⟩
theorem own_retN (X : Stand p l e R s m args below meth c T locs cells slots) (hx : p.tables.exec = Jvm.exec) (hlocks : meth.locks = false) {pc : Nat} {Ls : Array Slot} {z : Int32} {t : FieldType} {rest : List Value} (hret : meth.sig.returnType = some t) (ht : t = .boolean ∨ t = .byte ∨ t = .char ∨ t = .short)
    (hd : decode c.code pc = .ok (.ireturn, 1)) (hQ : ∀ u : State, u.heap = T.heap → FrameEnd s (.returned (some (.int (nar t z)))) u locs cells slots → Q (.returned (some (.int (nar t z)))) u) : Go p e below Q T (mkF m pc Ls (.int z :: rest)) :=
  own_out X (fun h => by rw [hret] at h; cases h) hlocks (fun fs hr => retN X hx hret ht hd hr) hQ
theorem own_retW (X : Stand p l e R s m args below meth c T locs cells slots) (hx : p.tables.exec = Jvm.exec) (hlocks : meth.locks = false) {pc : Nat} {Ls : Array Slot} {w : Value} {t : FieldType} {i : Instr} {rest : List Value} (hret : meth.sig.returnType = some t) (hn : narrow t w = w)
    (hi : (i = .ireturn ∧ (t = .int ∨ t = .boolean ∨ t = .byte ∨ t = .char ∨ t = .short) ∧ ∃ z, w = .int z) ∨ (i = .lreturn ∧ t = .long ∧ ∃ z, w = .long z) ∨ (i = .dreturn ∧ t = .double ∧ ∃ z, w = .double z) ∨ (i = .freturn ∧ t = .float ∧ ∃ z, w = .float z) ∨ (i = .areturn ∧ t.isReference = true ∧ w.isRef = true))
    (hd : decode c.code pc = .ok (i, 1)) (hQ : ∀ u : State, u.heap = T.heap → FrameEnd s (.returned (some w)) u locs cells slots → Q (.returned (some w)) u) : Go p e below Q T (mkF m pc Ls (w :: rest)) :=
  own_out X (fun h => by rw [hret] at h; cases h) hlocks (fun fs hr => retOut X hx hret hn hi hd hr) hQ
theorem own_ret0 (X : Stand p l e R s m args below meth c T locs cells slots) (hx : p.tables.exec = Jvm.exec) (hlocks : meth.locks = false) {pc : Nat} {Ls : Array Slot} (hret : meth.sig.returnType = none)
    (hd : decode c.code pc = .ok (.return_, 1)) (hQ : ∀ u : State, u.heap = T.heap → FrameEnd s (.returned none) u locs cells slots → Q (.returned none) u) : Go p e below Q T (mkF m pc Ls []) :=
  own_out X (fun _ => rfl) hlocks (fun fs hr => X.returnOut hx hret hd hr) hQ
theorem own_mono {o : Outcome} {u : State} {k n k' n' : Nat} (h : FrameEnd s o u locs k n) (hk : k ≤ k') (hn : n ≤ n') : FrameEnd s o u locs k' n' := ⟨h.1, h.2.1, h.2.2.mono hk hn⟩
end Own
theorem own_eqI {args : Array Value} {s : State} {t : Term} {k : Int32} (h : (Cond.eq t (.int k)).value args s none s [] = some true) : t.eval args s none [] s = some (.int k) := by
  simp only [Cond.value, Term.eval] at h
  cases ht : t.eval args s none [] s with
  | none => simp [ht] at h
  | some x => cases x <;> simp [ht] at h ⊢; exact h
theorem own_staKeep {Z : State} {h h' : Heap} {C n d : String} {v : Value} {ws : List Addr} (F : Sta Z h C n d v) (K : Keep h h' ws) (q : ∀ x ∈ ws, ∀ cell : Cell, h[x]? = some cell → cell.vm.isStatics = false) : Sta Z h' C n d v := by
  obtain ⟨cf, i, k, f, st, cell, h1, h2, h3, h4, h5, h6, h7⟩ := F
  have hn : st ∉ ws := fun y => by have := q st y cell h5; rw [this] at h6; cases h6
  exact ⟨cf, i, k, f, st, cell, h1, h2, h3, h4, K.2.1 st cell h5 hn, h6, h7⟩
theorem own_plainE {Z : State} {h : Heap} {a : Addr} {C : String} (F : Exa Z h a C) : ∀ cell : Cell, h[a]? = some cell → cell.vm.isStatics = false := fun cell hc => by
  obtain ⟨c, _, h1, -, -, h4, -⟩ := F
  cases h1.symm.trans hc; exact h4
theorem own_plainV {Z : State} {h : Heap} {a : Addr} {k : ClassId} {ty : FieldType} {n : Int32} {vs : List Value} {d : Value} (F : Arv Z h a k ty n vs d) : ∀ cell : Cell, h[a]? = some cell → cell.vm.isStatics = false := fun cell hc => by
  obtain ⟨c, A, -⟩ := F
  cases A.1.symm.trans hc; exact A.plain
theorem d1_0 : decode prog_27_method_6_code 0 = .ok (.aload_n 0, 1) := by decide +kernel
theorem d1_1 : decode prog_27_method_6_code 1 = .ok (.getfield 45, 3) := by decide +kernel
theorem d1_4 : decode prog_27_method_6_code 4 = .ok (.ifCond .ne 10, 3) := by decide +kernel
theorem d1_7 : decode prog_27_method_6_code 7 = .ok (.aload_n 0, 1) := by decide +kernel
theorem d1_8 : decode prog_27_method_6_code 8 = .ok (.getfield 53, 3) := by decide +kernel
theorem d1_11 : decode prog_27_method_6_code 11 = .ok (.ifCond .eq 7, 3) := by decide +kernel
theorem d1_14 : decode prog_27_method_6_code 14 = .ok (.iconst 1, 1) := by decide +kernel
theorem d1_15 : decode prog_27_method_6_code 15 = .ok (.goto 4, 3) := by decide +kernel
theorem d1_18 : decode prog_27_method_6_code 18 = .ok (.iconst 0, 1) := by decide +kernel
theorem d1_19 : decode prog_27_method_6_code 19 = .ok (.ireturn, 1) := by decide +kernel
theorem pn_0 : plainName "com/example/prompter/prompter/suggest/Ranking" = true := by first | (simp [plainName, overriddenIn]; done) | decide +kernel
theorem ef_1 (m : MethodId) (r1 : Addr)  : entryFrame m #[(.ref r1)] 1 = mkF m 0 #[.val (.ref r1)] [] := by
  first | (simp [entryFrame, mkF, argsToLocals, Value.category]; done) | rfl
def F1 (w1 : Int32) (w2 : Int32) : Int32 := (if w1 = (0 : Int32) then (if w2 = (0 : Int32) then (nar .boolean (0 : Int32)) else (nar .boolean (1 : Int32))) else (nar .boolean (1 : Int32)))
def Q1 (Z : State) (r1 : Addr) (w1 : Int32) (w2 : Int32) (h0 : Heap) (n0 : Nat) (v : Option Value) (h : Heap) (L : List Loc) : Prop := v = some (.int (F1 w1 w2)) ∧ Fr n0 L ∧ h = h0
set_option maxRecDepth 65536 in
set_option maxHeartbeats 40000000 in
theorem rm1 (l : Launch) (Z : State) (a0 : Array Value) (hw : ∀ d ∈ tables_1, d.before a0 Z = true) (ws : List Jvm.Cond) (r1 : Addr) (w1 : Int32) (w2 : Int32) (h0 : Heap) (n0 : Nat) (Z0 : n0 ≤ h0.size) (f0 : Fld Z h0 r1 "com/example/prompter/prompter/suggest/Ranking" "spreads" "Z" (.int w1)) (f1 : Fld Z h0 r1 "com/example/prompter/prompter/suggest/Ranking" "boosts" "Z" (.int w2)) :
    MetFree l (⟨"com/example/prompter/prompter/suggest/Ranking", "weighsFields", "()Z"⟩ : MethodName) (head1 (Jvm.Cond.code (⟨"com/example/prompter/prompter/suggest/Ranking", "weighsFields", "()Z"⟩ : MethodName) prog_27_method_6_code 1 (some .boolean) :: ws) ({ frames := 0, cells := 0, slots := 0, locals := 0 } : Room)) (fun a U => a = #[(.ref r1)] ∧ Z.Warmed39 U.vm ∧ U.heap = h0) (fun _ _ _ _ _ => True) (fun _ U o U' => ∃ v L, o = .returned v ∧ Q1 Z r1 w1 w2 h0 n0 v U'.heap L ∧ FrameEnd U o U' L ({ frames := 0, cells := 0, slots := 0, locals := 0 } : Room).cells ({ frames := 0, cells := 0, slots := 0, locals := 0 } : Room).slots) := by
  refine MetFree.of_bodySF (plainFor_of_name pn_0) hisR ?_
  intro p e s m args below meth c s₁ Bd hml0 hP hK
  obtain ⟨rfl, hZ, hh⟩ := hP
  have hx := Bd.exec
  have hby := Bd.bytes
  have hml : c.maxLocals = 1 := hml0
  have hown : s.vm.findClass "com/example/prompter/prompter/suggest/Ranking" = some m.cls := findClass_of_methodNamed Bd.named
  have hnm := (name_of_methodNamed Bd.named Bd.method).1
  have X0 : Stand p l e ({ frames := 0, cells := 0, slots := 0, locals := 0 } : Room) s m #[(.ref r1)] below meth c s₁ [] 0 0 := Stand.of_body Bd
  have e0 : s₁.heap = h0 := by rw [← hh, Bd.state]; rfl
  have N0 := Fr.nil n0
  suffices H : ∀ Qo : Outcome → State → Prop, (∀ (v : Option Value) (u : State) (L : List Loc), Q1 Z r1 w1 w2 h0 n0 v u.heap L → FrameEnd s (.returned v) u L ({ frames := 0, cells := 0, slots := 0, locals := 0 } : Room).cells ({ frames := 0, cells := 0, slots := 0, locals := 0 } : Room).slots → Qo (.returned v) u) → Go p e below Qo s₁ (mkF m 0 #[.val (.ref r1)] []) from
    Go.cast (ef_1 m r1) (H _ fun v u L h1 h2 => ⟨v, L, rfl, h1, h2⟩)
  intro Qo hQo
  show Go p e below Qo s₁ (mkF m 0 #[.val (.ref r1)] [])
  refine Go.of (fun t k => XS.aloadN X0.here hx rfl (hb hby d1_0) rfl rfl k) ?_
  show Go p e below Qo s₁ (mkF m 1 #[.val (.ref r1)] [(.ref r1)])
  obtain ⟨T1, X1, e1, st1⟩ := getF X0 hx hZ hown (host := "") (Or.inl (hw _ (List.mem_of_getElem? (i := 9) rfl))) Via.refl e0 f0 (g := (mkF m 1 #[.val (.ref r1)] [(.ref r1)])) rfl rfl (hb hby d1_1)
  refine Go.of st1 ?_
  show Go p e below Qo T1 (mkF m 4 #[.val (.ref r1)] [(.int w1)])
  by_cases hc4_2 : w1 = (0 : Int32)
  · refine Go.of (fun t k => XS.ifNo X1.here hx rfl (hb hby d1_4) rfl ((if0 _ _).trans (teq hc4_2).2) k) ?_
    show Go p e below Qo T1 (mkF m 7 #[.val (.ref r1)] [])
    refine Go.of (fun t k => XS.aloadN X1.here hx rfl (hb hby d1_7) rfl rfl k) ?_
    show Go p e below Qo T1 (mkF m 8 #[.val (.ref r1)] [(.ref r1)])
    obtain ⟨T3, X3, e3, st3⟩ := getF X1 hx hZ hown (host := "") (Or.inl (hw _ (List.mem_of_getElem? (i := 11) rfl))) Via.refl e1 f1 (g := (mkF m 8 #[.val (.ref r1)] [(.ref r1)])) rfl rfl (hb hby d1_8)
    refine Go.of st3 ?_
    show Go p e below Qo T3 (mkF m 11 #[.val (.ref r1)] [(.int w2)])
    by_cases hc11_4 : w2 = (0 : Int32)
    · refine Go.of (fun t k => XS.ifYes X3.here hx rfl (pc0 := 11) (pc' := 18) rfl (hb hby d1_11) rfl ((if0 _ _).trans (teq hc11_4).1) (by decide) (by decide) k) ?_
      show Go p e below Qo T3 (mkF m 18 #[.val (.ref r1)] [])
      refine Go.of (fun t k => XS.iconst X3.here hx rfl (hb hby d1_18) k) ?_
      show Go p e below Qo T3 (mkF m 19 #[.val (.ref r1)] [(.int (0 : Int32))])
      exact own_retN X3 hx Bd.notSynchronized (t := .boolean) Bd.returns (by simp) (hb hby d1_19) (fun u hu hF => hQo _ _ _ ⟨by rw [show (F1 w1 w2) = nar .boolean (0 : Int32) from by rw [F1, if_pos hc4_2, if_pos hc11_4]], N0, by rw [hu, e3]⟩ (own_mono hF (by decide) (by decide)))
    · refine Go.of (fun t k => XS.ifNo X3.here hx rfl (hb hby d1_11) rfl ((if0 _ _).trans (feq hc11_4).1) k) ?_
      show Go p e below Qo T3 (mkF m 14 #[.val (.ref r1)] [])
      refine Go.of (fun t k => XS.iconst X3.here hx rfl (hb hby d1_14) k) ?_
      show Go p e below Qo T3 (mkF m 15 #[.val (.ref r1)] [(.int (1 : Int32))])
      refine Go.of (fun t k => XS.goto X3.here hx rfl (pc0 := 15) (pc' := 19) rfl (hb hby d1_15) (by decide) (by decide) k) ?_
      show Go p e below Qo T3 (mkF m 19 #[.val (.ref r1)] [(.int (1 : Int32))])
      exact own_retN X3 hx Bd.notSynchronized (t := .boolean) Bd.returns (by simp) (hb hby d1_19) (fun u hu hF => hQo _ _ _ ⟨by rw [show (F1 w1 w2) = nar .boolean (1 : Int32) from by rw [F1, if_pos hc4_2, if_neg hc11_4]], N0, by rw [hu, e3]⟩ (own_mono hF (by decide) (by decide)))
  · refine Go.of (fun t k => XS.ifYes X1.here hx rfl (pc0 := 4) (pc' := 14) rfl (hb hby d1_4) rfl ((if0 _ _).trans (feq hc4_2).2) (by decide) (by decide) k) ?_
    show Go p e below Qo T1 (mkF m 14 #[.val (.ref r1)] [])
    refine Go.of (fun t k => XS.iconst X1.here hx rfl (hb hby d1_14) k) ?_
    show Go p e below Qo T1 (mkF m 15 #[.val (.ref r1)] [(.int (1 : Int32))])
    refine Go.of (fun t k => XS.goto X1.here hx rfl (pc0 := 15) (pc' := 19) rfl (hb hby d1_15) (by decide) (by decide) k) ?_
    show Go p e below Qo T1 (mkF m 19 #[.val (.ref r1)] [(.int (1 : Int32))])
    exact own_retN X1 hx Bd.notSynchronized (t := .boolean) Bd.returns (by simp) (hb hby d1_19) (fun u hu hF => hQo _ _ _ ⟨by rw [show (F1 w1 w2) = nar .boolean (1 : Int32) from by rw [F1, if_neg hc4_2]], N0, by rw [hu, e1]⟩ (own_mono hF (by decide) (by decide)))
theorem d2_0 : decode prog_27_method_7_code 0 = .ok (.aload_n 0, 1) := by decide +kernel
theorem d2_1 : decode prog_27_method_7_code 1 = .ok (.getfield 53, 3) := by decide +kernel
theorem d2_4 : decode prog_27_method_7_code 4 = .ok (.ireturn, 1) := by decide +kernel
theorem ef_2 (m : MethodId) (r1 : Addr)  : entryFrame m #[(.ref r1)] 1 = mkF m 0 #[.val (.ref r1)] [] := by
  first | (simp [entryFrame, mkF, argsToLocals, Value.category]; done) | rfl
def F2 (w2 : Int32) : Int32 := (nar .boolean w2)
def Q2 (Z : State) (r1 : Addr) (w2 : Int32) (h0 : Heap) (n0 : Nat) (v : Option Value) (h : Heap) (L : List Loc) : Prop := v = some (.int (F2 w2)) ∧ Fr n0 L ∧ h = h0
set_option maxRecDepth 65536 in
set_option maxHeartbeats 40000000 in
theorem rm2 (l : Launch) (Z : State) (a0 : Array Value) (hw : ∀ d ∈ tables_1, d.before a0 Z = true) (ws : List Jvm.Cond) (r1 : Addr) (w2 : Int32) (h0 : Heap) (n0 : Nat) (Z0 : n0 ≤ h0.size) (f0 : Fld Z h0 r1 "com/example/prompter/prompter/suggest/Ranking" "boosts" "Z" (.int w2)) :
    MetFree l (⟨"com/example/prompter/prompter/suggest/Ranking", "boostsFields", "()Z"⟩ : MethodName) (head1 (Jvm.Cond.code (⟨"com/example/prompter/prompter/suggest/Ranking", "boostsFields", "()Z"⟩ : MethodName) prog_27_method_7_code 1 (some .boolean) :: ws) ({ frames := 0, cells := 0, slots := 0, locals := 0 } : Room)) (fun a U => a = #[(.ref r1)] ∧ Z.Warmed39 U.vm ∧ U.heap = h0) (fun _ _ _ _ _ => True) (fun _ U o U' => ∃ v L, o = .returned v ∧ Q2 Z r1 w2 h0 n0 v U'.heap L ∧ FrameEnd U o U' L ({ frames := 0, cells := 0, slots := 0, locals := 0 } : Room).cells ({ frames := 0, cells := 0, slots := 0, locals := 0 } : Room).slots) := by
  refine MetFree.of_bodySF (plainFor_of_name pn_0) hisR ?_
  intro p e s m args below meth c s₁ Bd hml0 hP hK
  obtain ⟨rfl, hZ, hh⟩ := hP
  have hx := Bd.exec
  have hby := Bd.bytes
  have hml : c.maxLocals = 1 := hml0
  have hown : s.vm.findClass "com/example/prompter/prompter/suggest/Ranking" = some m.cls := findClass_of_methodNamed Bd.named
  have hnm := (name_of_methodNamed Bd.named Bd.method).1
  have X0 : Stand p l e ({ frames := 0, cells := 0, slots := 0, locals := 0 } : Room) s m #[(.ref r1)] below meth c s₁ [] 0 0 := Stand.of_body Bd
  have e0 : s₁.heap = h0 := by rw [← hh, Bd.state]; rfl
  have N0 := Fr.nil n0
  suffices H : ∀ Qo : Outcome → State → Prop, (∀ (v : Option Value) (u : State) (L : List Loc), Q2 Z r1 w2 h0 n0 v u.heap L → FrameEnd s (.returned v) u L ({ frames := 0, cells := 0, slots := 0, locals := 0 } : Room).cells ({ frames := 0, cells := 0, slots := 0, locals := 0 } : Room).slots → Qo (.returned v) u) → Go p e below Qo s₁ (mkF m 0 #[.val (.ref r1)] []) from
    Go.cast (ef_2 m r1) (H _ fun v u L h1 h2 => ⟨v, L, rfl, h1, h2⟩)
  intro Qo hQo
  show Go p e below Qo s₁ (mkF m 0 #[.val (.ref r1)] [])
  refine Go.of (fun t k => XS.aloadN X0.here hx rfl (hb hby d2_0) rfl rfl k) ?_
  show Go p e below Qo s₁ (mkF m 1 #[.val (.ref r1)] [(.ref r1)])
  obtain ⟨T1, X1, e1, st1⟩ := getF X0 hx hZ hown (host := "") (Or.inl (hw _ (List.mem_of_getElem? (i := 11) rfl))) Via.refl e0 f0 (g := (mkF m 1 #[.val (.ref r1)] [(.ref r1)])) rfl rfl (hb hby d2_1)
  refine Go.of st1 ?_
  show Go p e below Qo T1 (mkF m 4 #[.val (.ref r1)] [(.int w2)])
  exact own_retN X1 hx Bd.notSynchronized (t := .boolean) Bd.returns (by simp) (hb hby d2_4) (fun u hu hF => hQo _ _ _ ⟨by rw [show (F2 w2) = nar .boolean w2 from by rfl], N0, by rw [hu, e1]⟩ (own_mono hF (by decide) (by decide)))
theorem pd_0 : parseMethodDescriptor "()Z" = some ⟨[], some .boolean⟩ := by decide +kernel
theorem pn_1 : plainName "com/example/prompter/prompter/suggest/RankingWeighsFieldsPinLaw" = true := by first | (simp [plainName, overriddenIn]; done) | decide +kernel
theorem ef_0 (m : MethodId) (i1 : Int32)  : entryFrame m #[(.int i1)] maxLocals = mkF m 0 #[.val (.int i1), .unset, .unset, .unset, .unset] [] := by
  first | (simp [entryFrame, mkF, argsToLocals, Value.category, maxLocals]; done) | rfl
def Q0 (Z : State) (i1 : Int32) (z_MOST_COMMON : Addr) (z_LOG_DAMPENED : Addr) (z_FACET_AWARE : Addr) (z_EXPERIMENTAL : Addr) (z_NEXT_WORD : Addr) (z_SQRT_DAMPENED : Addr) (h0 : Heap) (n0 : Nat) (v : Option Value) (h : Heap) (L : List Loc) : Prop := v = some (.int 1) ∧ Fr n0 L
set_option maxRecDepth 65536 in
set_option maxHeartbeats 40000000 in
theorem rm0 (l : Launch) (Z : State) (a0 : Array Value) (hw : ∀ d ∈ tables_1, d.before a0 Z = true) (ws : List Jvm.Cond) (i1 : Int32) (z_MOST_COMMON : Addr) (z_LOG_DAMPENED : Addr) (z_FACET_AWARE : Addr) (z_EXPERIMENTAL : Addr) (z_NEXT_WORD : Addr) (z_SQRT_DAMPENED : Addr) (h0 : Heap) (n0 : Nat) (Z0 : n0 ≤ h0.size) (f0 : Sta Z h0 "com/example/prompter/prompter/suggest/Ranking" "MOST_COMMON" "Lcom/example/prompter/prompter/suggest/Ranking;" (.ref z_MOST_COMMON)) (f1 : Exa Z h0 z_MOST_COMMON "com/example/prompter/prompter/suggest/Ranking") (f2 : Sta Z h0 "com/example/prompter/prompter/suggest/Ranking" "LOG_DAMPENED" "Lcom/example/prompter/prompter/suggest/Ranking;" (.ref z_LOG_DAMPENED)) (f3 : Exa Z h0 z_LOG_DAMPENED "com/example/prompter/prompter/suggest/Ranking") (f4 : Sta Z h0 "com/example/prompter/prompter/suggest/Ranking" "FACET_AWARE" "Lcom/example/prompter/prompter/suggest/Ranking;" (.ref z_FACET_AWARE)) (f5 : Exa Z h0 z_FACET_AWARE "com/example/prompter/prompter/suggest/Ranking") (f6 : Sta Z h0 "com/example/prompter/prompter/suggest/Ranking" "EXPERIMENTAL" "Lcom/example/prompter/prompter/suggest/Ranking;" (.ref z_EXPERIMENTAL)) (f7 : Exa Z h0 z_EXPERIMENTAL "com/example/prompter/prompter/suggest/Ranking") (f8 : Sta Z h0 "com/example/prompter/prompter/suggest/Ranking" "NEXT_WORD" "Lcom/example/prompter/prompter/suggest/Ranking;" (.ref z_NEXT_WORD)) (f9 : Exa Z h0 z_NEXT_WORD "com/example/prompter/prompter/suggest/Ranking") (f10 : Sta Z h0 "com/example/prompter/prompter/suggest/Ranking" "SQRT_DAMPENED" "Lcom/example/prompter/prompter/suggest/Ranking;" (.ref z_SQRT_DAMPENED)) (f11 : Exa Z h0 z_SQRT_DAMPENED "com/example/prompter/prompter/suggest/Ranking") (f12 : Fld Z h0 z_MOST_COMMON "com/example/prompter/prompter/suggest/Ranking" "spreads" "Z" (.int (0 : Int32))) (f13 : Fld Z h0 z_MOST_COMMON "com/example/prompter/prompter/suggest/Ranking" "boosts" "Z" (.int (0 : Int32))) (f14 : Fld Z h0 z_LOG_DAMPENED "com/example/prompter/prompter/suggest/Ranking" "spreads" "Z" (.int (1 : Int32))) (f15 : Fld Z h0 z_LOG_DAMPENED "com/example/prompter/prompter/suggest/Ranking" "boosts" "Z" (.int (1 : Int32))) (f16 : Fld Z h0 z_FACET_AWARE "com/example/prompter/prompter/suggest/Ranking" "spreads" "Z" (.int (1 : Int32))) (f17 : Fld Z h0 z_FACET_AWARE "com/example/prompter/prompter/suggest/Ranking" "boosts" "Z" (.int (1 : Int32))) (f18 : Fld Z h0 z_EXPERIMENTAL "com/example/prompter/prompter/suggest/Ranking" "spreads" "Z" (.int (1 : Int32))) (f19 : Fld Z h0 z_EXPERIMENTAL "com/example/prompter/prompter/suggest/Ranking" "boosts" "Z" (.int (0 : Int32))) (f20 : Fld Z h0 z_NEXT_WORD "com/example/prompter/prompter/suggest/Ranking" "spreads" "Z" (.int (0 : Int32))) (f21 : Fld Z h0 z_NEXT_WORD "com/example/prompter/prompter/suggest/Ranking" "boosts" "Z" (.int (0 : Int32))) (f22 : Fld Z h0 z_SQRT_DAMPENED "com/example/prompter/prompter/suggest/Ranking" "spreads" "Z" (.int (1 : Int32))) (f23 : Fld Z h0 z_SQRT_DAMPENED "com/example/prompter/prompter/suggest/Ranking" "boosts" "Z" (.int (1 : Int32))) :
    MetFree l x (head1 (Jvm.Cond.code x code maxLocals ret :: ws) room_1) (fun a U => a = #[(.int i1)] ∧ Z.Warmed39 U.vm ∧ U.heap = h0) (fun _ _ _ _ _ => True) (fun _ U o U' => ∃ v L, o = .returned v ∧ Q0 Z i1 z_MOST_COMMON z_LOG_DAMPENED z_FACET_AWARE z_EXPERIMENTAL z_NEXT_WORD z_SQRT_DAMPENED h0 n0 v U'.heap L ∧ FrameEnd U o U' L 0 0) := by
  refine MetFree.of_bodySF (plainFor_of_name pn_1) hisR ?_
  intro p e s m args below meth c s₁ Bd hml0 hP hK
  obtain ⟨rfl, hZ, hh⟩ := hP
  have hx := Bd.exec
  have hby := Bd.bytes
  have hml : c.maxLocals = 5 := hml0
  have hown : s.vm.findClass "com/example/prompter/prompter/suggest/RankingWeighsFieldsPinLaw" = some m.cls := findClass_of_methodNamed Bd.named
  have hnm := (name_of_methodNamed Bd.named Bd.method).1
  have X0 : Stand p l e room_1 s m #[(.int i1)] below meth c s₁ [] 0 0 := Stand.of_body Bd
  have e0 : s₁.heap = h0 := by rw [← hh, Bd.state]; rfl
  have N0 := Fr.nil n0
  suffices H : ∀ Qo : Outcome → State → Prop, (∀ (v : Option Value) (u : State) (L : List Loc), Q0 Z i1 z_MOST_COMMON z_LOG_DAMPENED z_FACET_AWARE z_EXPERIMENTAL z_NEXT_WORD z_SQRT_DAMPENED h0 n0 v u.heap L → FrameEnd s (.returned v) u L 0 0 → Qo (.returned v) u) → Go p e below Qo s₁ (mkF m 0 #[.val (.int i1), .unset, .unset, .unset, .unset] []) from
    Go.cast (ef_0 m i1) (H _ fun v u L h1 h2 => ⟨v, L, rfl, h1, h2⟩)
  intro Qo hQo
  show Go p e below Qo s₁ (mkF m 0 #[.val (.int i1), .unset, .unset, .unset, .unset] [])
  refine Go.of (fun t k => XS.iloadN X0.here hx rfl (hb hby at_0) rfl  k) ?_
  show Go p e below Qo s₁ (mkF m 1 #[.val (.int i1), .unset, .unset, .unset, .unset] [(.int i1)])
  refine Go.of (fun t k => X0.ldcInt hx hown (mvT hZ (hw _ (List.mem_of_getElem? (i := 0) rfl))) (g := (mkF m 1 #[.val (.int i1), .unset, .unset, .unset, .unset] [(.int i1)])) rfl (hb hby at_1) t k) ?_
  show Go p e below Qo s₁ (mkF m 3 #[.val (.int i1), .unset, .unset, .unset, .unset] [(.int (2147483647 : Int32)), (.int i1)])
  refine Go.of (fun t k => XS.iand X0.here hx rfl (hb hby at_3) rfl k) ?_
  show Go p e below Qo s₁ (mkF m 4 #[.val (.int i1), .unset, .unset, .unset, .unset] [(.int (i1 &&& (2147483647 : Int32)))])
  refine Go.of (fun t k => XS.bipush X0.here hx rfl (hb hby at_4) k) ?_
  show Go p e below Qo s₁ (mkF m 6 #[.val (.int i1), .unset, .unset, .unset, .unset] [(.int (6 : Int32)), (.int (i1 &&& (2147483647 : Int32)))])
  refine Go.of (fun t k => iremM X0 hx rfl (hb hby at_6) rfl (by decide) k) ?_
  show Go p e below Qo s₁ (mkF m 7 #[.val (.int i1), .unset, .unset, .unset, .unset] [(.int ((i1 &&& (2147483647 : Int32)) % (6 : Int32)))])
  refine Go.of (fun t k => XS.istoreN X0.here hx rfl (hb hby at_7) rfl (l' := #[.val (.int i1), .val (.int ((i1 &&& (2147483647 : Int32)) % (6 : Int32))), .unset, .unset, .unset]) rfl k) ?_
  show Go p e below Qo s₁ (mkF m 8 #[.val (.int i1), .val (.int ((i1 &&& (2147483647 : Int32)) % (6 : Int32))), .unset, .unset, .unset] [])
  refine Go.of (fun t k => XS.iloadN X0.here hx rfl (hb hby at_8) rfl  k) ?_
  show Go p e below Qo s₁ (mkF m 9 #[.val (.int i1), .val (.int ((i1 &&& (2147483647 : Int32)) % (6 : Int32))), .unset, .unset, .unset] [(.int ((i1 &&& (2147483647 : Int32)) % (6 : Int32)))])
  by_cases hc9_1 : ((i1 &&& (2147483647 : Int32)) % (6 : Int32)) = (0 : Int32)
  · refine Go.of (fun t k => XS.ifNo X0.here hx rfl (hb hby at_9) rfl ((if0 _ _).trans (teq hc9_1).2) k) ?_
    show Go p e below Qo s₁ (mkF m 12 #[.val (.int i1), .val (.int ((i1 &&& (2147483647 : Int32)) % (6 : Int32))), .unset, .unset, .unset] [])
    obtain ⟨T2, X2, e2, st2⟩ := getS X0 hx hZ (host := "") hown (hw _ (List.mem_of_getElem? (i := 1) rfl)) Via.refl e0 f0 (g := (mkF m 12 #[.val (.int i1), .val (.int ((i1 &&& (2147483647 : Int32)) % (6 : Int32))), .unset, .unset, .unset] [])) rfl (hb hby at_12)
    refine Go.of st2 ?_
    show Go p e below Qo T2 (mkF m 15 #[.val (.int i1), .val (.int ((i1 &&& (2147483647 : Int32)) % (6 : Int32))), .unset, .unset, .unset] [(.ref z_MOST_COMMON)])
    refine Go.of (fun t k => XS.astoreN X2.here hx rfl (hb hby at_15) rfl rfl (l' := #[.val (.int i1), .val (.int ((i1 &&& (2147483647 : Int32)) % (6 : Int32))), .val (.ref z_MOST_COMMON), .unset, .unset]) rfl k) ?_
    show Go p e below Qo T2 (mkF m 16 #[.val (.int i1), .val (.int ((i1 &&& (2147483647 : Int32)) % (6 : Int32))), .val (.ref z_MOST_COMMON), .unset, .unset] [])
    refine Go.of (fun t k => XS.iconst X2.here hx rfl (hb hby at_16) k) ?_
    show Go p e below Qo T2 (mkF m 17 #[.val (.int i1), .val (.int ((i1 &&& (2147483647 : Int32)) % (6 : Int32))), .val (.ref z_MOST_COMMON), .unset, .unset] [(.int (0 : Int32))])
    refine Go.of (fun t k => XS.istoreN X2.here hx rfl (hb hby at_17) rfl (l' := #[.val (.int i1), .val (.int ((i1 &&& (2147483647 : Int32)) % (6 : Int32))), .val (.ref z_MOST_COMMON), .val (.int (0 : Int32)), .unset]) rfl k) ?_
    show Go p e below Qo T2 (mkF m 18 #[.val (.int i1), .val (.int ((i1 &&& (2147483647 : Int32)) % (6 : Int32))), .val (.ref z_MOST_COMMON), .val (.int (0 : Int32)), .unset] [])
    refine Go.of (fun t k => XS.goto X2.here hx rfl (pc0 := 18) (pc' := 83) rfl (hb hby at_18) (by decide) (by decide) k) ?_
    show Go p e below Qo T2 (mkF m 83 #[.val (.int i1), .val (.int ((i1 &&& (2147483647 : Int32)) % (6 : Int32))), .val (.ref z_MOST_COMMON), .val (.int (0 : Int32)), .unset] [])
    refine Go.of (fun t k => XS.aloadN X2.here hx rfl (hb hby at_83) rfl rfl k) ?_
    show Go p e below Qo T2 (mkF m 84 #[.val (.int i1), .val (.int ((i1 &&& (2147483647 : Int32)) % (6 : Int32))), .val (.ref z_MOST_COMMON), .val (.int (0 : Int32)), .unset] [(.ref z_MOST_COMMON)])
    obtain ⟨ciq4, kiq4, iq4a, iq4b, iq4c⟩ := isOf hZ e2 f1
    obtain ⟨_, _, ⟨T3, L3, k3, n3⟩, -, X3, ⟨Lc3, hQ3, l3, y3, z3⟩, st3⟩ := X2.virtualBack hx (y := (⟨"com/example/prompter/prompter/suggest/Ranking", "weighsFields", "()Z"⟩ : MethodName)) (z := (⟨"com/example/prompter/prompter/suggest/Ranking", "weighsFields", "()Z"⟩ : MethodName)) hown (mvT hZ (hw _ (List.mem_of_getElem? (i := 4) rfl))) (mvT hZ (hw _ (List.mem_of_getElem? (i := 5) rfl))) (notFace_of_selects (args := #[]) (mvT hZ (hw _ (List.mem_of_getElem? (i := 7) rfl)))) (mvT hZ (hw _ (List.mem_of_getElem? (i := 7) rfl))) (mvT hZ (hw _ (List.mem_of_getElem? (i := 6) rfl))) (by decide) (backOf (W := 0) (rm1 l Z a0 hw [] z_MOST_COMMON (0 : Int32) (0 : Int32) h0 n0 Z0 f12 f13) hZ (hw _ (List.mem_of_getElem? (i := 8) rfl)) (hw _ (List.mem_of_getElem? (i := 2) rfl)) (by decide) (by decide)) iq4a iq4c (g := (mkF m 84 #[.val (.int i1), .val (.int ((i1 &&& (2147483647 : Int32)) % (6 : Int32))), .val (.ref z_MOST_COMMON), .val (.int (0 : Int32)), .unset] [(.ref z_MOST_COMMON)])) rfl (by rw [hml]; rfl) (Steps.refl _) (argsL := []) (rest := []) (lenOf pd_0 rfl) rfl (by show 2 * 0 + _ ≤ _; exact Nat.le_of_eq rfl) (hb hby at_84) (fun _ _ => ⟨rfl, e2, (by decide : 0 + 0 ≤ _), (by decide : 0 + 0 ≤ _)⟩)
    dsimp only [Pt.U, Pt.locs, Pt.cells, Pt.slots] at X3 l3 y3 z3 st3 hQ3
    subst l3 y3 z3
    obtain ⟨rfl, N5, eh6⟩ := hQ3
    have N7 := Fr.app N0 N5
    refine Go.via st3 ?_
    show Go p e below Qo T3 (mkF m 87 #[.val (.int i1), .val (.int ((i1 &&& (2147483647 : Int32)) % (6 : Int32))), .val (.ref z_MOST_COMMON), .val (.int (0 : Int32)), .unset] [(.int (F1 (0 : Int32) (0 : Int32)))])
    refine Go.of (fun t k => XS.istore X3.here hx rfl (hb hby at_87) rfl (l' := #[.val (.int i1), .val (.int ((i1 &&& (2147483647 : Int32)) % (6 : Int32))), .val (.ref z_MOST_COMMON), .val (.int (0 : Int32)), .val (.int (F1 (0 : Int32) (0 : Int32)))]) rfl k) ?_
    show Go p e below Qo T3 (mkF m 89 #[.val (.int i1), .val (.int ((i1 &&& (2147483647 : Int32)) % (6 : Int32))), .val (.ref z_MOST_COMMON), .val (.int (0 : Int32)), .val (.int (F1 (0 : Int32) (0 : Int32)))] [])
    refine Go.of (fun t k => XS.aloadN X3.here hx rfl (hb hby at_89) rfl rfl k) ?_
    show Go p e below Qo T3 (mkF m 90 #[.val (.int i1), .val (.int ((i1 &&& (2147483647 : Int32)) % (6 : Int32))), .val (.ref z_MOST_COMMON), .val (.int (0 : Int32)), .val (.int (F1 (0 : Int32) (0 : Int32)))] [(.ref z_MOST_COMMON)])
    obtain ⟨ciq9, kiq9, iq9a, iq9b, iq9c⟩ := isOf hZ eh6 f1
    obtain ⟨_, _, ⟨T8, L8, k8, n8⟩, -, X8, ⟨Lc8, hQ8, l8, y8, z8⟩, st8⟩ := X3.virtualBack hx (y := (⟨"com/example/prompter/prompter/suggest/Ranking", "boostsFields", "()Z"⟩ : MethodName)) (z := (⟨"com/example/prompter/prompter/suggest/Ranking", "boostsFields", "()Z"⟩ : MethodName)) hown (mvT hZ (hw _ (List.mem_of_getElem? (i := 13) rfl))) (mvT hZ (hw _ (List.mem_of_getElem? (i := 14) rfl))) (notFace_of_selects (args := #[]) (mvT hZ (hw _ (List.mem_of_getElem? (i := 16) rfl)))) (mvT hZ (hw _ (List.mem_of_getElem? (i := 16) rfl))) (mvT hZ (hw _ (List.mem_of_getElem? (i := 15) rfl))) (by decide) (backOf (W := 0) (rm2 l Z a0 hw [] z_MOST_COMMON (0 : Int32) h0 n0 Z0 f13) hZ (hw _ (List.mem_of_getElem? (i := 17) rfl)) (hw _ (List.mem_of_getElem? (i := 2) rfl)) (by decide) (by decide)) iq9a iq9c (g := (mkF m 90 #[.val (.int i1), .val (.int ((i1 &&& (2147483647 : Int32)) % (6 : Int32))), .val (.ref z_MOST_COMMON), .val (.int (0 : Int32)), .val (.int (F1 (0 : Int32) (0 : Int32)))] [(.ref z_MOST_COMMON)])) rfl (by rw [hml]; rfl) (Steps.refl _) (argsL := []) (rest := []) (lenOf pd_0 rfl) rfl (by show 2 * 0 + _ ≤ _; exact Nat.le_of_eq rfl) (hb hby at_90) (fun _ _ => ⟨rfl, eh6, (by decide : 0 + 0 ≤ _), (by decide : 0 + 0 ≤ _)⟩)
    dsimp only [Pt.U, Pt.locs, Pt.cells, Pt.slots] at X8 l8 y8 z8 st8 hQ8
    subst l8 y8 z8
    obtain ⟨rfl, N10, eh11⟩ := hQ8
    have N12 := Fr.app N7 N10
    refine Go.via st8 ?_
    show Go p e below Qo T8 (mkF m 93 #[.val (.int i1), .val (.int ((i1 &&& (2147483647 : Int32)) % (6 : Int32))), .val (.ref z_MOST_COMMON), .val (.int (0 : Int32)), .val (.int (F1 (0 : Int32) (0 : Int32)))] [(.int (F2 (0 : Int32)))])
    by_cases hc93_13 : (F2 (0 : Int32)) = (0 : Int32)
    · refine Go.of (fun t k => XS.ifYes X8.here hx rfl (pc0 := 93) (pc' := 103) rfl (hb hby at_93) rfl ((if0 _ _).trans (teq hc93_13).1) (by decide) (by decide) k) ?_
      show Go p e below Qo T8 (mkF m 103 #[.val (.int i1), .val (.int ((i1 &&& (2147483647 : Int32)) % (6 : Int32))), .val (.ref z_MOST_COMMON), .val (.int (0 : Int32)), .val (.int (F1 (0 : Int32) (0 : Int32)))] [])
      refine Go.of (fun t k => XS.iload X8.here hx rfl (hb hby at_103) rfl  k) ?_
      show Go p e below Qo T8 (mkF m 105 #[.val (.int i1), .val (.int ((i1 &&& (2147483647 : Int32)) % (6 : Int32))), .val (.ref z_MOST_COMMON), .val (.int (0 : Int32)), .val (.int (F1 (0 : Int32) (0 : Int32)))] [(.int (F1 (0 : Int32) (0 : Int32)))])
      refine Go.of (fun t k => XS.iloadN X8.here hx rfl (hb hby at_105) rfl  k) ?_
      show Go p e below Qo T8 (mkF m 106 #[.val (.int i1), .val (.int ((i1 &&& (2147483647 : Int32)) % (6 : Int32))), .val (.ref z_MOST_COMMON), .val (.int (0 : Int32)), .val (.int (F1 (0 : Int32) (0 : Int32)))] [(.int (0 : Int32)), (.int (F1 (0 : Int32) (0 : Int32)))])
      have J106_16 : ∀ (v106_15 : Int32), v106_15 = (if (F1 (0 : Int32) (0 : Int32)) = (0 : Int32) then (1 : Int32) else (0 : Int32)) → Go p e below Qo T8 (mkF m 114 #[.val (.int i1), .val (.int ((i1 &&& (2147483647 : Int32)) % (6 : Int32))), .val (.ref z_MOST_COMMON), .val (.int (0 : Int32)), .val (.int (F1 (0 : Int32) (0 : Int32)))] [(.int v106_15)]) := by
        intro v106_15 hv106_15
        show Go p e below Qo T8 (mkF m 114 #[.val (.int i1), .val (.int ((i1 &&& (2147483647 : Int32)) % (6 : Int32))), .val (.ref z_MOST_COMMON), .val (.int (0 : Int32)), .val (.int (F1 (0 : Int32) (0 : Int32)))] [(.int v106_15)])
        have hfin : v106_15 = 1 := by
          exact hv106_15.trans (by decide)
        exact own_retN X8 hx Bd.notSynchronized (t := .boolean) Bd.returns (by simp) (hb hby at_114) (fun u hu hF => hQo _ _ _ ⟨by rw [hfin]; rfl, N12⟩ (own_mono hF (by decide) (by decide)))
      by_cases hc106_17 : (F1 (0 : Int32) (0 : Int32)) = (0 : Int32)
      · refine Go.of (fun t k => XS.icmpNo X8.here hx rfl (hb hby at_106) rfl (teq hc106_17).2 k) ?_
        show Go p e below Qo T8 (mkF m 109 #[.val (.int i1), .val (.int ((i1 &&& (2147483647 : Int32)) % (6 : Int32))), .val (.ref z_MOST_COMMON), .val (.int (0 : Int32)), .val (.int (F1 (0 : Int32) (0 : Int32)))] [])
        refine Go.of (fun t k => XS.iconst X8.here hx rfl (hb hby at_109) k) ?_
        show Go p e below Qo T8 (mkF m 110 #[.val (.int i1), .val (.int ((i1 &&& (2147483647 : Int32)) % (6 : Int32))), .val (.ref z_MOST_COMMON), .val (.int (0 : Int32)), .val (.int (F1 (0 : Int32) (0 : Int32)))] [(.int (1 : Int32))])
        refine Go.of (fun t k => XS.goto X8.here hx rfl (pc0 := 110) (pc' := 114) rfl (hb hby at_110) (by decide) (by decide) k) ?_
        show Go p e below Qo T8 (mkF m 114 #[.val (.int i1), .val (.int ((i1 &&& (2147483647 : Int32)) % (6 : Int32))), .val (.ref z_MOST_COMMON), .val (.int (0 : Int32)), .val (.int (F1 (0 : Int32) (0 : Int32)))] [(.int (1 : Int32))])
        exact J106_16 _ (by first | rfl | (rw [if_pos hc106_17]) | (simp only [hc106_17, if_true, if_false]; done) | simp [hc106_17])
      · refine Go.of (fun t k => XS.icmpYes X8.here hx rfl (pc0 := 106) (pc' := 113) rfl (hb hby at_106) rfl (feq hc106_17).2 (by decide) (by decide) k) ?_
        show Go p e below Qo T8 (mkF m 113 #[.val (.int i1), .val (.int ((i1 &&& (2147483647 : Int32)) % (6 : Int32))), .val (.ref z_MOST_COMMON), .val (.int (0 : Int32)), .val (.int (F1 (0 : Int32) (0 : Int32)))] [])
        refine Go.of (fun t k => XS.iconst X8.here hx rfl (hb hby at_113) k) ?_
        show Go p e below Qo T8 (mkF m 114 #[.val (.int i1), .val (.int ((i1 &&& (2147483647 : Int32)) % (6 : Int32))), .val (.ref z_MOST_COMMON), .val (.int (0 : Int32)), .val (.int (F1 (0 : Int32) (0 : Int32)))] [(.int (0 : Int32))])
        exact J106_16 _ (by first | rfl | (rw [if_neg hc106_17]) | (simp only [hc106_17, if_true, if_false]; done) | simp [hc106_17])
    · refine Go.of (fun t k => XS.ifNo X8.here hx rfl (hb hby at_93) rfl ((if0 _ _).trans (feq hc93_13).1) k) ?_
      show Go p e below Qo T8 (mkF m 96 #[.val (.int i1), .val (.int ((i1 &&& (2147483647 : Int32)) % (6 : Int32))), .val (.ref z_MOST_COMMON), .val (.int (0 : Int32)), .val (.int (F1 (0 : Int32) (0 : Int32)))] [])
      refine Go.of (fun t k => XS.iload X8.here hx rfl (hb hby at_96) rfl  k) ?_
      show Go p e below Qo T8 (mkF m 98 #[.val (.int i1), .val (.int ((i1 &&& (2147483647 : Int32)) % (6 : Int32))), .val (.ref z_MOST_COMMON), .val (.int (0 : Int32)), .val (.int (F1 (0 : Int32) (0 : Int32)))] [(.int (F1 (0 : Int32) (0 : Int32)))])
      by_cases hc98_18 : (F1 (0 : Int32) (0 : Int32)) = (0 : Int32)
      · refine Go.of (fun t k => XS.ifNo X8.here hx rfl (hb hby at_98) rfl ((if0 _ _).trans (teq hc98_18).2) k) ?_
        show Go p e below Qo T8 (mkF m 101 #[.val (.int i1), .val (.int ((i1 &&& (2147483647 : Int32)) % (6 : Int32))), .val (.ref z_MOST_COMMON), .val (.int (0 : Int32)), .val (.int (F1 (0 : Int32) (0 : Int32)))] [])
        refine Go.of (fun t k => XS.iconst X8.here hx rfl (hb hby at_101) k) ?_
        show Go p e below Qo T8 (mkF m 102 #[.val (.int i1), .val (.int ((i1 &&& (2147483647 : Int32)) % (6 : Int32))), .val (.ref z_MOST_COMMON), .val (.int (0 : Int32)), .val (.int (F1 (0 : Int32) (0 : Int32)))] [(.int (0 : Int32))])
        exfalso
        revert hc93_13 hc98_18
        decide
      · refine Go.of (fun t k => XS.ifYes X8.here hx rfl (pc0 := 98) (pc' := 103) rfl (hb hby at_98) rfl ((if0 _ _).trans (feq hc98_18).2) (by decide) (by decide) k) ?_
        show Go p e below Qo T8 (mkF m 103 #[.val (.int i1), .val (.int ((i1 &&& (2147483647 : Int32)) % (6 : Int32))), .val (.ref z_MOST_COMMON), .val (.int (0 : Int32)), .val (.int (F1 (0 : Int32) (0 : Int32)))] [])
        refine Go.of (fun t k => XS.iload X8.here hx rfl (hb hby at_103) rfl  k) ?_
        show Go p e below Qo T8 (mkF m 105 #[.val (.int i1), .val (.int ((i1 &&& (2147483647 : Int32)) % (6 : Int32))), .val (.ref z_MOST_COMMON), .val (.int (0 : Int32)), .val (.int (F1 (0 : Int32) (0 : Int32)))] [(.int (F1 (0 : Int32) (0 : Int32)))])
        refine Go.of (fun t k => XS.iloadN X8.here hx rfl (hb hby at_105) rfl  k) ?_
        show Go p e below Qo T8 (mkF m 106 #[.val (.int i1), .val (.int ((i1 &&& (2147483647 : Int32)) % (6 : Int32))), .val (.ref z_MOST_COMMON), .val (.int (0 : Int32)), .val (.int (F1 (0 : Int32) (0 : Int32)))] [(.int (0 : Int32)), (.int (F1 (0 : Int32) (0 : Int32)))])
        refine Go.of (fun t k => XS.icmpYes X8.here hx rfl (pc0 := 106) (pc' := 113) rfl (hb hby at_106) rfl (feq hc98_18).2 (by decide) (by decide) k) ?_
        show Go p e below Qo T8 (mkF m 113 #[.val (.int i1), .val (.int ((i1 &&& (2147483647 : Int32)) % (6 : Int32))), .val (.ref z_MOST_COMMON), .val (.int (0 : Int32)), .val (.int (F1 (0 : Int32) (0 : Int32)))] [])
        refine Go.of (fun t k => XS.iconst X8.here hx rfl (hb hby at_113) k) ?_
        show Go p e below Qo T8 (mkF m 114 #[.val (.int i1), .val (.int ((i1 &&& (2147483647 : Int32)) % (6 : Int32))), .val (.ref z_MOST_COMMON), .val (.int (0 : Int32)), .val (.int (F1 (0 : Int32) (0 : Int32)))] [(.int (0 : Int32))])
        exfalso
        revert hc93_13 hc98_18
        decide
  · refine Go.of (fun t k => XS.ifYes X0.here hx rfl (pc0 := 9) (pc' := 21) rfl (hb hby at_9) rfl ((if0 _ _).trans (feq hc9_1).2) (by decide) (by decide) k) ?_
    show Go p e below Qo s₁ (mkF m 21 #[.val (.int i1), .val (.int ((i1 &&& (2147483647 : Int32)) % (6 : Int32))), .unset, .unset, .unset] [])
    refine Go.of (fun t k => XS.iloadN X0.here hx rfl (hb hby at_21) rfl  k) ?_
    show Go p e below Qo s₁ (mkF m 22 #[.val (.int i1), .val (.int ((i1 &&& (2147483647 : Int32)) % (6 : Int32))), .unset, .unset, .unset] [(.int ((i1 &&& (2147483647 : Int32)) % (6 : Int32)))])
    refine Go.of (fun t k => XS.iconst X0.here hx rfl (hb hby at_22) k) ?_
    show Go p e below Qo s₁ (mkF m 23 #[.val (.int i1), .val (.int ((i1 &&& (2147483647 : Int32)) % (6 : Int32))), .unset, .unset, .unset] [(.int (1 : Int32)), (.int ((i1 &&& (2147483647 : Int32)) % (6 : Int32)))])
    by_cases hc23_19 : ((i1 &&& (2147483647 : Int32)) % (6 : Int32)) = (1 : Int32)
    · refine Go.of (fun t k => XS.icmpNo X0.here hx rfl (hb hby at_23) rfl (teq hc23_19).2 k) ?_
      show Go p e below Qo s₁ (mkF m 26 #[.val (.int i1), .val (.int ((i1 &&& (2147483647 : Int32)) % (6 : Int32))), .unset, .unset, .unset] [])
      obtain ⟨T20, X20, e20, st20⟩ := getS X0 hx hZ (host := "") hown (hw _ (List.mem_of_getElem? (i := 22) rfl)) Via.refl e0 f6 (g := (mkF m 26 #[.val (.int i1), .val (.int ((i1 &&& (2147483647 : Int32)) % (6 : Int32))), .unset, .unset, .unset] [])) rfl (hb hby at_26)
      refine Go.of st20 ?_
      show Go p e below Qo T20 (mkF m 29 #[.val (.int i1), .val (.int ((i1 &&& (2147483647 : Int32)) % (6 : Int32))), .unset, .unset, .unset] [(.ref z_EXPERIMENTAL)])
      refine Go.of (fun t k => XS.astoreN X20.here hx rfl (hb hby at_29) rfl rfl (l' := #[.val (.int i1), .val (.int ((i1 &&& (2147483647 : Int32)) % (6 : Int32))), .val (.ref z_EXPERIMENTAL), .unset, .unset]) rfl k) ?_
      show Go p e below Qo T20 (mkF m 30 #[.val (.int i1), .val (.int ((i1 &&& (2147483647 : Int32)) % (6 : Int32))), .val (.ref z_EXPERIMENTAL), .unset, .unset] [])
      refine Go.of (fun t k => XS.iconst X20.here hx rfl (hb hby at_30) k) ?_
      show Go p e below Qo T20 (mkF m 31 #[.val (.int i1), .val (.int ((i1 &&& (2147483647 : Int32)) % (6 : Int32))), .val (.ref z_EXPERIMENTAL), .unset, .unset] [(.int (1 : Int32))])
      refine Go.of (fun t k => XS.istoreN X20.here hx rfl (hb hby at_31) rfl (l' := #[.val (.int i1), .val (.int ((i1 &&& (2147483647 : Int32)) % (6 : Int32))), .val (.ref z_EXPERIMENTAL), .val (.int (1 : Int32)), .unset]) rfl k) ?_
      show Go p e below Qo T20 (mkF m 32 #[.val (.int i1), .val (.int ((i1 &&& (2147483647 : Int32)) % (6 : Int32))), .val (.ref z_EXPERIMENTAL), .val (.int (1 : Int32)), .unset] [])
      refine Go.of (fun t k => XS.goto X20.here hx rfl (pc0 := 32) (pc' := 83) rfl (hb hby at_32) (by decide) (by decide) k) ?_
      show Go p e below Qo T20 (mkF m 83 #[.val (.int i1), .val (.int ((i1 &&& (2147483647 : Int32)) % (6 : Int32))), .val (.ref z_EXPERIMENTAL), .val (.int (1 : Int32)), .unset] [])
      refine Go.of (fun t k => XS.aloadN X20.here hx rfl (hb hby at_83) rfl rfl k) ?_
      show Go p e below Qo T20 (mkF m 84 #[.val (.int i1), .val (.int ((i1 &&& (2147483647 : Int32)) % (6 : Int32))), .val (.ref z_EXPERIMENTAL), .val (.int (1 : Int32)), .unset] [(.ref z_EXPERIMENTAL)])
      obtain ⟨ciq22, kiq22, iq22a, iq22b, iq22c⟩ := isOf hZ e20 f7
      obtain ⟨_, _, ⟨T21, L21, k21, n21⟩, -, X21, ⟨Lc21, hQ21, l21, y21, z21⟩, st21⟩ := X20.virtualBack hx (y := (⟨"com/example/prompter/prompter/suggest/Ranking", "weighsFields", "()Z"⟩ : MethodName)) (z := (⟨"com/example/prompter/prompter/suggest/Ranking", "weighsFields", "()Z"⟩ : MethodName)) hown (mvT hZ (hw _ (List.mem_of_getElem? (i := 4) rfl))) (mvT hZ (hw _ (List.mem_of_getElem? (i := 5) rfl))) (notFace_of_selects (args := #[]) (mvT hZ (hw _ (List.mem_of_getElem? (i := 7) rfl)))) (mvT hZ (hw _ (List.mem_of_getElem? (i := 7) rfl))) (mvT hZ (hw _ (List.mem_of_getElem? (i := 6) rfl))) (by decide) (backOf (W := 0) (rm1 l Z a0 hw [] z_EXPERIMENTAL (1 : Int32) (0 : Int32) h0 n0 Z0 f18 f19) hZ (hw _ (List.mem_of_getElem? (i := 8) rfl)) (hw _ (List.mem_of_getElem? (i := 2) rfl)) (by decide) (by decide)) iq22a iq22c (g := (mkF m 84 #[.val (.int i1), .val (.int ((i1 &&& (2147483647 : Int32)) % (6 : Int32))), .val (.ref z_EXPERIMENTAL), .val (.int (1 : Int32)), .unset] [(.ref z_EXPERIMENTAL)])) rfl (by rw [hml]; rfl) (Steps.refl _) (argsL := []) (rest := []) (lenOf pd_0 rfl) rfl (by show 2 * 0 + _ ≤ _; exact Nat.le_of_eq rfl) (hb hby at_84) (fun _ _ => ⟨rfl, e20, (by decide : 0 + 0 ≤ _), (by decide : 0 + 0 ≤ _)⟩)
      dsimp only [Pt.U, Pt.locs, Pt.cells, Pt.slots] at X21 l21 y21 z21 st21 hQ21
      subst l21 y21 z21
      obtain ⟨rfl, N23, eh24⟩ := hQ21
      have N25 := Fr.app N0 N23
      refine Go.via st21 ?_
      show Go p e below Qo T21 (mkF m 87 #[.val (.int i1), .val (.int ((i1 &&& (2147483647 : Int32)) % (6 : Int32))), .val (.ref z_EXPERIMENTAL), .val (.int (1 : Int32)), .unset] [(.int (F1 (1 : Int32) (0 : Int32)))])
      refine Go.of (fun t k => XS.istore X21.here hx rfl (hb hby at_87) rfl (l' := #[.val (.int i1), .val (.int ((i1 &&& (2147483647 : Int32)) % (6 : Int32))), .val (.ref z_EXPERIMENTAL), .val (.int (1 : Int32)), .val (.int (F1 (1 : Int32) (0 : Int32)))]) rfl k) ?_
      show Go p e below Qo T21 (mkF m 89 #[.val (.int i1), .val (.int ((i1 &&& (2147483647 : Int32)) % (6 : Int32))), .val (.ref z_EXPERIMENTAL), .val (.int (1 : Int32)), .val (.int (F1 (1 : Int32) (0 : Int32)))] [])
      refine Go.of (fun t k => XS.aloadN X21.here hx rfl (hb hby at_89) rfl rfl k) ?_
      show Go p e below Qo T21 (mkF m 90 #[.val (.int i1), .val (.int ((i1 &&& (2147483647 : Int32)) % (6 : Int32))), .val (.ref z_EXPERIMENTAL), .val (.int (1 : Int32)), .val (.int (F1 (1 : Int32) (0 : Int32)))] [(.ref z_EXPERIMENTAL)])
      obtain ⟨ciq27, kiq27, iq27a, iq27b, iq27c⟩ := isOf hZ eh24 f7
      obtain ⟨_, _, ⟨T26, L26, k26, n26⟩, -, X26, ⟨Lc26, hQ26, l26, y26, z26⟩, st26⟩ := X21.virtualBack hx (y := (⟨"com/example/prompter/prompter/suggest/Ranking", "boostsFields", "()Z"⟩ : MethodName)) (z := (⟨"com/example/prompter/prompter/suggest/Ranking", "boostsFields", "()Z"⟩ : MethodName)) hown (mvT hZ (hw _ (List.mem_of_getElem? (i := 13) rfl))) (mvT hZ (hw _ (List.mem_of_getElem? (i := 14) rfl))) (notFace_of_selects (args := #[]) (mvT hZ (hw _ (List.mem_of_getElem? (i := 16) rfl)))) (mvT hZ (hw _ (List.mem_of_getElem? (i := 16) rfl))) (mvT hZ (hw _ (List.mem_of_getElem? (i := 15) rfl))) (by decide) (backOf (W := 0) (rm2 l Z a0 hw [] z_EXPERIMENTAL (0 : Int32) h0 n0 Z0 f19) hZ (hw _ (List.mem_of_getElem? (i := 17) rfl)) (hw _ (List.mem_of_getElem? (i := 2) rfl)) (by decide) (by decide)) iq27a iq27c (g := (mkF m 90 #[.val (.int i1), .val (.int ((i1 &&& (2147483647 : Int32)) % (6 : Int32))), .val (.ref z_EXPERIMENTAL), .val (.int (1 : Int32)), .val (.int (F1 (1 : Int32) (0 : Int32)))] [(.ref z_EXPERIMENTAL)])) rfl (by rw [hml]; rfl) (Steps.refl _) (argsL := []) (rest := []) (lenOf pd_0 rfl) rfl (by show 2 * 0 + _ ≤ _; exact Nat.le_of_eq rfl) (hb hby at_90) (fun _ _ => ⟨rfl, eh24, (by decide : 0 + 0 ≤ _), (by decide : 0 + 0 ≤ _)⟩)
      dsimp only [Pt.U, Pt.locs, Pt.cells, Pt.slots] at X26 l26 y26 z26 st26 hQ26
      subst l26 y26 z26
      obtain ⟨rfl, N28, eh29⟩ := hQ26
      have N30 := Fr.app N25 N28
      refine Go.via st26 ?_
      show Go p e below Qo T26 (mkF m 93 #[.val (.int i1), .val (.int ((i1 &&& (2147483647 : Int32)) % (6 : Int32))), .val (.ref z_EXPERIMENTAL), .val (.int (1 : Int32)), .val (.int (F1 (1 : Int32) (0 : Int32)))] [(.int (F2 (0 : Int32)))])
      by_cases hc93_31 : (F2 (0 : Int32)) = (0 : Int32)
      · refine Go.of (fun t k => XS.ifYes X26.here hx rfl (pc0 := 93) (pc' := 103) rfl (hb hby at_93) rfl ((if0 _ _).trans (teq hc93_31).1) (by decide) (by decide) k) ?_
        show Go p e below Qo T26 (mkF m 103 #[.val (.int i1), .val (.int ((i1 &&& (2147483647 : Int32)) % (6 : Int32))), .val (.ref z_EXPERIMENTAL), .val (.int (1 : Int32)), .val (.int (F1 (1 : Int32) (0 : Int32)))] [])
        refine Go.of (fun t k => XS.iload X26.here hx rfl (hb hby at_103) rfl  k) ?_
        show Go p e below Qo T26 (mkF m 105 #[.val (.int i1), .val (.int ((i1 &&& (2147483647 : Int32)) % (6 : Int32))), .val (.ref z_EXPERIMENTAL), .val (.int (1 : Int32)), .val (.int (F1 (1 : Int32) (0 : Int32)))] [(.int (F1 (1 : Int32) (0 : Int32)))])
        refine Go.of (fun t k => XS.iloadN X26.here hx rfl (hb hby at_105) rfl  k) ?_
        show Go p e below Qo T26 (mkF m 106 #[.val (.int i1), .val (.int ((i1 &&& (2147483647 : Int32)) % (6 : Int32))), .val (.ref z_EXPERIMENTAL), .val (.int (1 : Int32)), .val (.int (F1 (1 : Int32) (0 : Int32)))] [(.int (1 : Int32)), (.int (F1 (1 : Int32) (0 : Int32)))])
        have J106_34 : ∀ (v106_33 : Int32), v106_33 = (if (F1 (1 : Int32) (0 : Int32)) = (1 : Int32) then (1 : Int32) else (0 : Int32)) → Go p e below Qo T26 (mkF m 114 #[.val (.int i1), .val (.int ((i1 &&& (2147483647 : Int32)) % (6 : Int32))), .val (.ref z_EXPERIMENTAL), .val (.int (1 : Int32)), .val (.int (F1 (1 : Int32) (0 : Int32)))] [(.int v106_33)]) := by
          intro v106_33 hv106_33
          show Go p e below Qo T26 (mkF m 114 #[.val (.int i1), .val (.int ((i1 &&& (2147483647 : Int32)) % (6 : Int32))), .val (.ref z_EXPERIMENTAL), .val (.int (1 : Int32)), .val (.int (F1 (1 : Int32) (0 : Int32)))] [(.int v106_33)])
          have hfin : v106_33 = 1 := by
            exact hv106_33.trans (by decide)
          exact own_retN X26 hx Bd.notSynchronized (t := .boolean) Bd.returns (by simp) (hb hby at_114) (fun u hu hF => hQo _ _ _ ⟨by rw [hfin]; rfl, N30⟩ (own_mono hF (by decide) (by decide)))
        by_cases hc106_35 : (F1 (1 : Int32) (0 : Int32)) = (1 : Int32)
        · refine Go.of (fun t k => XS.icmpNo X26.here hx rfl (hb hby at_106) rfl (teq hc106_35).2 k) ?_
          show Go p e below Qo T26 (mkF m 109 #[.val (.int i1), .val (.int ((i1 &&& (2147483647 : Int32)) % (6 : Int32))), .val (.ref z_EXPERIMENTAL), .val (.int (1 : Int32)), .val (.int (F1 (1 : Int32) (0 : Int32)))] [])
          refine Go.of (fun t k => XS.iconst X26.here hx rfl (hb hby at_109) k) ?_
          show Go p e below Qo T26 (mkF m 110 #[.val (.int i1), .val (.int ((i1 &&& (2147483647 : Int32)) % (6 : Int32))), .val (.ref z_EXPERIMENTAL), .val (.int (1 : Int32)), .val (.int (F1 (1 : Int32) (0 : Int32)))] [(.int (1 : Int32))])
          refine Go.of (fun t k => XS.goto X26.here hx rfl (pc0 := 110) (pc' := 114) rfl (hb hby at_110) (by decide) (by decide) k) ?_
          show Go p e below Qo T26 (mkF m 114 #[.val (.int i1), .val (.int ((i1 &&& (2147483647 : Int32)) % (6 : Int32))), .val (.ref z_EXPERIMENTAL), .val (.int (1 : Int32)), .val (.int (F1 (1 : Int32) (0 : Int32)))] [(.int (1 : Int32))])
          exact J106_34 _ (by first | rfl | (rw [if_pos hc106_35]) | (simp only [hc106_35, if_true, if_false]; done) | simp [hc106_35])
        · refine Go.of (fun t k => XS.icmpYes X26.here hx rfl (pc0 := 106) (pc' := 113) rfl (hb hby at_106) rfl (feq hc106_35).2 (by decide) (by decide) k) ?_
          show Go p e below Qo T26 (mkF m 113 #[.val (.int i1), .val (.int ((i1 &&& (2147483647 : Int32)) % (6 : Int32))), .val (.ref z_EXPERIMENTAL), .val (.int (1 : Int32)), .val (.int (F1 (1 : Int32) (0 : Int32)))] [])
          refine Go.of (fun t k => XS.iconst X26.here hx rfl (hb hby at_113) k) ?_
          show Go p e below Qo T26 (mkF m 114 #[.val (.int i1), .val (.int ((i1 &&& (2147483647 : Int32)) % (6 : Int32))), .val (.ref z_EXPERIMENTAL), .val (.int (1 : Int32)), .val (.int (F1 (1 : Int32) (0 : Int32)))] [(.int (0 : Int32))])
          exact J106_34 _ (by first | rfl | (rw [if_neg hc106_35]) | (simp only [hc106_35, if_true, if_false]; done) | simp [hc106_35])
      · refine Go.of (fun t k => XS.ifNo X26.here hx rfl (hb hby at_93) rfl ((if0 _ _).trans (feq hc93_31).1) k) ?_
        show Go p e below Qo T26 (mkF m 96 #[.val (.int i1), .val (.int ((i1 &&& (2147483647 : Int32)) % (6 : Int32))), .val (.ref z_EXPERIMENTAL), .val (.int (1 : Int32)), .val (.int (F1 (1 : Int32) (0 : Int32)))] [])
        refine Go.of (fun t k => XS.iload X26.here hx rfl (hb hby at_96) rfl  k) ?_
        show Go p e below Qo T26 (mkF m 98 #[.val (.int i1), .val (.int ((i1 &&& (2147483647 : Int32)) % (6 : Int32))), .val (.ref z_EXPERIMENTAL), .val (.int (1 : Int32)), .val (.int (F1 (1 : Int32) (0 : Int32)))] [(.int (F1 (1 : Int32) (0 : Int32)))])
        by_cases hc98_36 : (F1 (1 : Int32) (0 : Int32)) = (0 : Int32)
        · refine Go.of (fun t k => XS.ifNo X26.here hx rfl (hb hby at_98) rfl ((if0 _ _).trans (teq hc98_36).2) k) ?_
          show Go p e below Qo T26 (mkF m 101 #[.val (.int i1), .val (.int ((i1 &&& (2147483647 : Int32)) % (6 : Int32))), .val (.ref z_EXPERIMENTAL), .val (.int (1 : Int32)), .val (.int (F1 (1 : Int32) (0 : Int32)))] [])
          refine Go.of (fun t k => XS.iconst X26.here hx rfl (hb hby at_101) k) ?_
          show Go p e below Qo T26 (mkF m 102 #[.val (.int i1), .val (.int ((i1 &&& (2147483647 : Int32)) % (6 : Int32))), .val (.ref z_EXPERIMENTAL), .val (.int (1 : Int32)), .val (.int (F1 (1 : Int32) (0 : Int32)))] [(.int (0 : Int32))])
          exfalso
          revert hc93_31 hc98_36
          decide
        · refine Go.of (fun t k => XS.ifYes X26.here hx rfl (pc0 := 98) (pc' := 103) rfl (hb hby at_98) rfl ((if0 _ _).trans (feq hc98_36).2) (by decide) (by decide) k) ?_
          show Go p e below Qo T26 (mkF m 103 #[.val (.int i1), .val (.int ((i1 &&& (2147483647 : Int32)) % (6 : Int32))), .val (.ref z_EXPERIMENTAL), .val (.int (1 : Int32)), .val (.int (F1 (1 : Int32) (0 : Int32)))] [])
          refine Go.of (fun t k => XS.iload X26.here hx rfl (hb hby at_103) rfl  k) ?_
          show Go p e below Qo T26 (mkF m 105 #[.val (.int i1), .val (.int ((i1 &&& (2147483647 : Int32)) % (6 : Int32))), .val (.ref z_EXPERIMENTAL), .val (.int (1 : Int32)), .val (.int (F1 (1 : Int32) (0 : Int32)))] [(.int (F1 (1 : Int32) (0 : Int32)))])
          refine Go.of (fun t k => XS.iloadN X26.here hx rfl (hb hby at_105) rfl  k) ?_
          show Go p e below Qo T26 (mkF m 106 #[.val (.int i1), .val (.int ((i1 &&& (2147483647 : Int32)) % (6 : Int32))), .val (.ref z_EXPERIMENTAL), .val (.int (1 : Int32)), .val (.int (F1 (1 : Int32) (0 : Int32)))] [(.int (1 : Int32)), (.int (F1 (1 : Int32) (0 : Int32)))])
          have J106_39 : ∀ (v106_38 : Int32), v106_38 = (if (F1 (1 : Int32) (0 : Int32)) = (1 : Int32) then (1 : Int32) else (0 : Int32)) → Go p e below Qo T26 (mkF m 114 #[.val (.int i1), .val (.int ((i1 &&& (2147483647 : Int32)) % (6 : Int32))), .val (.ref z_EXPERIMENTAL), .val (.int (1 : Int32)), .val (.int (F1 (1 : Int32) (0 : Int32)))] [(.int v106_38)]) := by
            intro v106_38 hv106_38
            show Go p e below Qo T26 (mkF m 114 #[.val (.int i1), .val (.int ((i1 &&& (2147483647 : Int32)) % (6 : Int32))), .val (.ref z_EXPERIMENTAL), .val (.int (1 : Int32)), .val (.int (F1 (1 : Int32) (0 : Int32)))] [(.int v106_38)])
            have hfin : v106_38 = 1 := by
              exact hv106_38.trans (by decide)
            exact own_retN X26 hx Bd.notSynchronized (t := .boolean) Bd.returns (by simp) (hb hby at_114) (fun u hu hF => hQo _ _ _ ⟨by rw [hfin]; rfl, N30⟩ (own_mono hF (by decide) (by decide)))
          by_cases hc106_40 : (F1 (1 : Int32) (0 : Int32)) = (1 : Int32)
          · refine Go.of (fun t k => XS.icmpNo X26.here hx rfl (hb hby at_106) rfl (teq hc106_40).2 k) ?_
            show Go p e below Qo T26 (mkF m 109 #[.val (.int i1), .val (.int ((i1 &&& (2147483647 : Int32)) % (6 : Int32))), .val (.ref z_EXPERIMENTAL), .val (.int (1 : Int32)), .val (.int (F1 (1 : Int32) (0 : Int32)))] [])
            refine Go.of (fun t k => XS.iconst X26.here hx rfl (hb hby at_109) k) ?_
            show Go p e below Qo T26 (mkF m 110 #[.val (.int i1), .val (.int ((i1 &&& (2147483647 : Int32)) % (6 : Int32))), .val (.ref z_EXPERIMENTAL), .val (.int (1 : Int32)), .val (.int (F1 (1 : Int32) (0 : Int32)))] [(.int (1 : Int32))])
            refine Go.of (fun t k => XS.goto X26.here hx rfl (pc0 := 110) (pc' := 114) rfl (hb hby at_110) (by decide) (by decide) k) ?_
            show Go p e below Qo T26 (mkF m 114 #[.val (.int i1), .val (.int ((i1 &&& (2147483647 : Int32)) % (6 : Int32))), .val (.ref z_EXPERIMENTAL), .val (.int (1 : Int32)), .val (.int (F1 (1 : Int32) (0 : Int32)))] [(.int (1 : Int32))])
            exact J106_39 _ (by first | rfl | (rw [if_pos hc106_40]) | (simp only [hc106_40, if_true, if_false]; done) | simp [hc106_40])
          · refine Go.of (fun t k => XS.icmpYes X26.here hx rfl (pc0 := 106) (pc' := 113) rfl (hb hby at_106) rfl (feq hc106_40).2 (by decide) (by decide) k) ?_
            show Go p e below Qo T26 (mkF m 113 #[.val (.int i1), .val (.int ((i1 &&& (2147483647 : Int32)) % (6 : Int32))), .val (.ref z_EXPERIMENTAL), .val (.int (1 : Int32)), .val (.int (F1 (1 : Int32) (0 : Int32)))] [])
            refine Go.of (fun t k => XS.iconst X26.here hx rfl (hb hby at_113) k) ?_
            show Go p e below Qo T26 (mkF m 114 #[.val (.int i1), .val (.int ((i1 &&& (2147483647 : Int32)) % (6 : Int32))), .val (.ref z_EXPERIMENTAL), .val (.int (1 : Int32)), .val (.int (F1 (1 : Int32) (0 : Int32)))] [(.int (0 : Int32))])
            exact J106_39 _ (by first | rfl | (rw [if_neg hc106_40]) | (simp only [hc106_40, if_true, if_false]; done) | simp [hc106_40])
    · refine Go.of (fun t k => XS.icmpYes X0.here hx rfl (pc0 := 23) (pc' := 35) rfl (hb hby at_23) rfl (feq hc23_19).2 (by decide) (by decide) k) ?_
      show Go p e below Qo s₁ (mkF m 35 #[.val (.int i1), .val (.int ((i1 &&& (2147483647 : Int32)) % (6 : Int32))), .unset, .unset, .unset] [])
      refine Go.of (fun t k => XS.iloadN X0.here hx rfl (hb hby at_35) rfl  k) ?_
      show Go p e below Qo s₁ (mkF m 36 #[.val (.int i1), .val (.int ((i1 &&& (2147483647 : Int32)) % (6 : Int32))), .unset, .unset, .unset] [(.int ((i1 &&& (2147483647 : Int32)) % (6 : Int32)))])
      refine Go.of (fun t k => XS.iconst X0.here hx rfl (hb hby at_36) k) ?_
      show Go p e below Qo s₁ (mkF m 37 #[.val (.int i1), .val (.int ((i1 &&& (2147483647 : Int32)) % (6 : Int32))), .unset, .unset, .unset] [(.int (2 : Int32)), (.int ((i1 &&& (2147483647 : Int32)) % (6 : Int32)))])
      by_cases hc37_41 : ((i1 &&& (2147483647 : Int32)) % (6 : Int32)) = (2 : Int32)
      · refine Go.of (fun t k => XS.icmpNo X0.here hx rfl (hb hby at_37) rfl (teq hc37_41).2 k) ?_
        show Go p e below Qo s₁ (mkF m 40 #[.val (.int i1), .val (.int ((i1 &&& (2147483647 : Int32)) % (6 : Int32))), .unset, .unset, .unset] [])
        obtain ⟨T42, X42, e42, st42⟩ := getS X0 hx hZ (host := "") hown (hw _ (List.mem_of_getElem? (i := 20) rfl)) Via.refl e0 f4 (g := (mkF m 40 #[.val (.int i1), .val (.int ((i1 &&& (2147483647 : Int32)) % (6 : Int32))), .unset, .unset, .unset] [])) rfl (hb hby at_40)
        refine Go.of st42 ?_
        show Go p e below Qo T42 (mkF m 43 #[.val (.int i1), .val (.int ((i1 &&& (2147483647 : Int32)) % (6 : Int32))), .unset, .unset, .unset] [(.ref z_FACET_AWARE)])
        refine Go.of (fun t k => XS.astoreN X42.here hx rfl (hb hby at_43) rfl rfl (l' := #[.val (.int i1), .val (.int ((i1 &&& (2147483647 : Int32)) % (6 : Int32))), .val (.ref z_FACET_AWARE), .unset, .unset]) rfl k) ?_
        show Go p e below Qo T42 (mkF m 44 #[.val (.int i1), .val (.int ((i1 &&& (2147483647 : Int32)) % (6 : Int32))), .val (.ref z_FACET_AWARE), .unset, .unset] [])
        refine Go.of (fun t k => XS.iconst X42.here hx rfl (hb hby at_44) k) ?_
        show Go p e below Qo T42 (mkF m 45 #[.val (.int i1), .val (.int ((i1 &&& (2147483647 : Int32)) % (6 : Int32))), .val (.ref z_FACET_AWARE), .unset, .unset] [(.int (1 : Int32))])
        refine Go.of (fun t k => XS.istoreN X42.here hx rfl (hb hby at_45) rfl (l' := #[.val (.int i1), .val (.int ((i1 &&& (2147483647 : Int32)) % (6 : Int32))), .val (.ref z_FACET_AWARE), .val (.int (1 : Int32)), .unset]) rfl k) ?_
        show Go p e below Qo T42 (mkF m 46 #[.val (.int i1), .val (.int ((i1 &&& (2147483647 : Int32)) % (6 : Int32))), .val (.ref z_FACET_AWARE), .val (.int (1 : Int32)), .unset] [])
        refine Go.of (fun t k => XS.goto X42.here hx rfl (pc0 := 46) (pc' := 83) rfl (hb hby at_46) (by decide) (by decide) k) ?_
        show Go p e below Qo T42 (mkF m 83 #[.val (.int i1), .val (.int ((i1 &&& (2147483647 : Int32)) % (6 : Int32))), .val (.ref z_FACET_AWARE), .val (.int (1 : Int32)), .unset] [])
        refine Go.of (fun t k => XS.aloadN X42.here hx rfl (hb hby at_83) rfl rfl k) ?_
        show Go p e below Qo T42 (mkF m 84 #[.val (.int i1), .val (.int ((i1 &&& (2147483647 : Int32)) % (6 : Int32))), .val (.ref z_FACET_AWARE), .val (.int (1 : Int32)), .unset] [(.ref z_FACET_AWARE)])
        obtain ⟨ciq44, kiq44, iq44a, iq44b, iq44c⟩ := isOf hZ e42 f5
        obtain ⟨_, _, ⟨T43, L43, k43, n43⟩, -, X43, ⟨Lc43, hQ43, l43, y43, z43⟩, st43⟩ := X42.virtualBack hx (y := (⟨"com/example/prompter/prompter/suggest/Ranking", "weighsFields", "()Z"⟩ : MethodName)) (z := (⟨"com/example/prompter/prompter/suggest/Ranking", "weighsFields", "()Z"⟩ : MethodName)) hown (mvT hZ (hw _ (List.mem_of_getElem? (i := 4) rfl))) (mvT hZ (hw _ (List.mem_of_getElem? (i := 5) rfl))) (notFace_of_selects (args := #[]) (mvT hZ (hw _ (List.mem_of_getElem? (i := 7) rfl)))) (mvT hZ (hw _ (List.mem_of_getElem? (i := 7) rfl))) (mvT hZ (hw _ (List.mem_of_getElem? (i := 6) rfl))) (by decide) (backOf (W := 0) (rm1 l Z a0 hw [] z_FACET_AWARE (1 : Int32) (1 : Int32) h0 n0 Z0 f16 f17) hZ (hw _ (List.mem_of_getElem? (i := 8) rfl)) (hw _ (List.mem_of_getElem? (i := 2) rfl)) (by decide) (by decide)) iq44a iq44c (g := (mkF m 84 #[.val (.int i1), .val (.int ((i1 &&& (2147483647 : Int32)) % (6 : Int32))), .val (.ref z_FACET_AWARE), .val (.int (1 : Int32)), .unset] [(.ref z_FACET_AWARE)])) rfl (by rw [hml]; rfl) (Steps.refl _) (argsL := []) (rest := []) (lenOf pd_0 rfl) rfl (by show 2 * 0 + _ ≤ _; exact Nat.le_of_eq rfl) (hb hby at_84) (fun _ _ => ⟨rfl, e42, (by decide : 0 + 0 ≤ _), (by decide : 0 + 0 ≤ _)⟩)
        dsimp only [Pt.U, Pt.locs, Pt.cells, Pt.slots] at X43 l43 y43 z43 st43 hQ43
        subst l43 y43 z43
        obtain ⟨rfl, N45, eh46⟩ := hQ43
        have N47 := Fr.app N0 N45
        refine Go.via st43 ?_
        show Go p e below Qo T43 (mkF m 87 #[.val (.int i1), .val (.int ((i1 &&& (2147483647 : Int32)) % (6 : Int32))), .val (.ref z_FACET_AWARE), .val (.int (1 : Int32)), .unset] [(.int (F1 (1 : Int32) (1 : Int32)))])
        refine Go.of (fun t k => XS.istore X43.here hx rfl (hb hby at_87) rfl (l' := #[.val (.int i1), .val (.int ((i1 &&& (2147483647 : Int32)) % (6 : Int32))), .val (.ref z_FACET_AWARE), .val (.int (1 : Int32)), .val (.int (F1 (1 : Int32) (1 : Int32)))]) rfl k) ?_
        show Go p e below Qo T43 (mkF m 89 #[.val (.int i1), .val (.int ((i1 &&& (2147483647 : Int32)) % (6 : Int32))), .val (.ref z_FACET_AWARE), .val (.int (1 : Int32)), .val (.int (F1 (1 : Int32) (1 : Int32)))] [])
        refine Go.of (fun t k => XS.aloadN X43.here hx rfl (hb hby at_89) rfl rfl k) ?_
        show Go p e below Qo T43 (mkF m 90 #[.val (.int i1), .val (.int ((i1 &&& (2147483647 : Int32)) % (6 : Int32))), .val (.ref z_FACET_AWARE), .val (.int (1 : Int32)), .val (.int (F1 (1 : Int32) (1 : Int32)))] [(.ref z_FACET_AWARE)])
        obtain ⟨ciq49, kiq49, iq49a, iq49b, iq49c⟩ := isOf hZ eh46 f5
        obtain ⟨_, _, ⟨T48, L48, k48, n48⟩, -, X48, ⟨Lc48, hQ48, l48, y48, z48⟩, st48⟩ := X43.virtualBack hx (y := (⟨"com/example/prompter/prompter/suggest/Ranking", "boostsFields", "()Z"⟩ : MethodName)) (z := (⟨"com/example/prompter/prompter/suggest/Ranking", "boostsFields", "()Z"⟩ : MethodName)) hown (mvT hZ (hw _ (List.mem_of_getElem? (i := 13) rfl))) (mvT hZ (hw _ (List.mem_of_getElem? (i := 14) rfl))) (notFace_of_selects (args := #[]) (mvT hZ (hw _ (List.mem_of_getElem? (i := 16) rfl)))) (mvT hZ (hw _ (List.mem_of_getElem? (i := 16) rfl))) (mvT hZ (hw _ (List.mem_of_getElem? (i := 15) rfl))) (by decide) (backOf (W := 0) (rm2 l Z a0 hw [] z_FACET_AWARE (1 : Int32) h0 n0 Z0 f17) hZ (hw _ (List.mem_of_getElem? (i := 17) rfl)) (hw _ (List.mem_of_getElem? (i := 2) rfl)) (by decide) (by decide)) iq49a iq49c (g := (mkF m 90 #[.val (.int i1), .val (.int ((i1 &&& (2147483647 : Int32)) % (6 : Int32))), .val (.ref z_FACET_AWARE), .val (.int (1 : Int32)), .val (.int (F1 (1 : Int32) (1 : Int32)))] [(.ref z_FACET_AWARE)])) rfl (by rw [hml]; rfl) (Steps.refl _) (argsL := []) (rest := []) (lenOf pd_0 rfl) rfl (by show 2 * 0 + _ ≤ _; exact Nat.le_of_eq rfl) (hb hby at_90) (fun _ _ => ⟨rfl, eh46, (by decide : 0 + 0 ≤ _), (by decide : 0 + 0 ≤ _)⟩)
        dsimp only [Pt.U, Pt.locs, Pt.cells, Pt.slots] at X48 l48 y48 z48 st48 hQ48
        subst l48 y48 z48
        obtain ⟨rfl, N50, eh51⟩ := hQ48
        have N52 := Fr.app N47 N50
        refine Go.via st48 ?_
        show Go p e below Qo T48 (mkF m 93 #[.val (.int i1), .val (.int ((i1 &&& (2147483647 : Int32)) % (6 : Int32))), .val (.ref z_FACET_AWARE), .val (.int (1 : Int32)), .val (.int (F1 (1 : Int32) (1 : Int32)))] [(.int (F2 (1 : Int32)))])
        by_cases hc93_53 : (F2 (1 : Int32)) = (0 : Int32)
        · refine Go.of (fun t k => XS.ifYes X48.here hx rfl (pc0 := 93) (pc' := 103) rfl (hb hby at_93) rfl ((if0 _ _).trans (teq hc93_53).1) (by decide) (by decide) k) ?_
          show Go p e below Qo T48 (mkF m 103 #[.val (.int i1), .val (.int ((i1 &&& (2147483647 : Int32)) % (6 : Int32))), .val (.ref z_FACET_AWARE), .val (.int (1 : Int32)), .val (.int (F1 (1 : Int32) (1 : Int32)))] [])
          refine Go.of (fun t k => XS.iload X48.here hx rfl (hb hby at_103) rfl  k) ?_
          show Go p e below Qo T48 (mkF m 105 #[.val (.int i1), .val (.int ((i1 &&& (2147483647 : Int32)) % (6 : Int32))), .val (.ref z_FACET_AWARE), .val (.int (1 : Int32)), .val (.int (F1 (1 : Int32) (1 : Int32)))] [(.int (F1 (1 : Int32) (1 : Int32)))])
          refine Go.of (fun t k => XS.iloadN X48.here hx rfl (hb hby at_105) rfl  k) ?_
          show Go p e below Qo T48 (mkF m 106 #[.val (.int i1), .val (.int ((i1 &&& (2147483647 : Int32)) % (6 : Int32))), .val (.ref z_FACET_AWARE), .val (.int (1 : Int32)), .val (.int (F1 (1 : Int32) (1 : Int32)))] [(.int (1 : Int32)), (.int (F1 (1 : Int32) (1 : Int32)))])
          have J106_56 : ∀ (v106_55 : Int32), v106_55 = (if (F1 (1 : Int32) (1 : Int32)) = (1 : Int32) then (1 : Int32) else (0 : Int32)) → Go p e below Qo T48 (mkF m 114 #[.val (.int i1), .val (.int ((i1 &&& (2147483647 : Int32)) % (6 : Int32))), .val (.ref z_FACET_AWARE), .val (.int (1 : Int32)), .val (.int (F1 (1 : Int32) (1 : Int32)))] [(.int v106_55)]) := by
            intro v106_55 hv106_55
            show Go p e below Qo T48 (mkF m 114 #[.val (.int i1), .val (.int ((i1 &&& (2147483647 : Int32)) % (6 : Int32))), .val (.ref z_FACET_AWARE), .val (.int (1 : Int32)), .val (.int (F1 (1 : Int32) (1 : Int32)))] [(.int v106_55)])
            have hfin : v106_55 = 1 := by
              exact hv106_55.trans (by decide)
            exact own_retN X48 hx Bd.notSynchronized (t := .boolean) Bd.returns (by simp) (hb hby at_114) (fun u hu hF => hQo _ _ _ ⟨by rw [hfin]; rfl, N52⟩ (own_mono hF (by decide) (by decide)))
          by_cases hc106_57 : (F1 (1 : Int32) (1 : Int32)) = (1 : Int32)
          · refine Go.of (fun t k => XS.icmpNo X48.here hx rfl (hb hby at_106) rfl (teq hc106_57).2 k) ?_
            show Go p e below Qo T48 (mkF m 109 #[.val (.int i1), .val (.int ((i1 &&& (2147483647 : Int32)) % (6 : Int32))), .val (.ref z_FACET_AWARE), .val (.int (1 : Int32)), .val (.int (F1 (1 : Int32) (1 : Int32)))] [])
            refine Go.of (fun t k => XS.iconst X48.here hx rfl (hb hby at_109) k) ?_
            show Go p e below Qo T48 (mkF m 110 #[.val (.int i1), .val (.int ((i1 &&& (2147483647 : Int32)) % (6 : Int32))), .val (.ref z_FACET_AWARE), .val (.int (1 : Int32)), .val (.int (F1 (1 : Int32) (1 : Int32)))] [(.int (1 : Int32))])
            refine Go.of (fun t k => XS.goto X48.here hx rfl (pc0 := 110) (pc' := 114) rfl (hb hby at_110) (by decide) (by decide) k) ?_
            show Go p e below Qo T48 (mkF m 114 #[.val (.int i1), .val (.int ((i1 &&& (2147483647 : Int32)) % (6 : Int32))), .val (.ref z_FACET_AWARE), .val (.int (1 : Int32)), .val (.int (F1 (1 : Int32) (1 : Int32)))] [(.int (1 : Int32))])
            exact J106_56 _ (by first | rfl | (rw [if_pos hc106_57]) | (simp only [hc106_57, if_true, if_false]; done) | simp [hc106_57])
          · refine Go.of (fun t k => XS.icmpYes X48.here hx rfl (pc0 := 106) (pc' := 113) rfl (hb hby at_106) rfl (feq hc106_57).2 (by decide) (by decide) k) ?_
            show Go p e below Qo T48 (mkF m 113 #[.val (.int i1), .val (.int ((i1 &&& (2147483647 : Int32)) % (6 : Int32))), .val (.ref z_FACET_AWARE), .val (.int (1 : Int32)), .val (.int (F1 (1 : Int32) (1 : Int32)))] [])
            refine Go.of (fun t k => XS.iconst X48.here hx rfl (hb hby at_113) k) ?_
            show Go p e below Qo T48 (mkF m 114 #[.val (.int i1), .val (.int ((i1 &&& (2147483647 : Int32)) % (6 : Int32))), .val (.ref z_FACET_AWARE), .val (.int (1 : Int32)), .val (.int (F1 (1 : Int32) (1 : Int32)))] [(.int (0 : Int32))])
            exact J106_56 _ (by first | rfl | (rw [if_neg hc106_57]) | (simp only [hc106_57, if_true, if_false]; done) | simp [hc106_57])
        · refine Go.of (fun t k => XS.ifNo X48.here hx rfl (hb hby at_93) rfl ((if0 _ _).trans (feq hc93_53).1) k) ?_
          show Go p e below Qo T48 (mkF m 96 #[.val (.int i1), .val (.int ((i1 &&& (2147483647 : Int32)) % (6 : Int32))), .val (.ref z_FACET_AWARE), .val (.int (1 : Int32)), .val (.int (F1 (1 : Int32) (1 : Int32)))] [])
          refine Go.of (fun t k => XS.iload X48.here hx rfl (hb hby at_96) rfl  k) ?_
          show Go p e below Qo T48 (mkF m 98 #[.val (.int i1), .val (.int ((i1 &&& (2147483647 : Int32)) % (6 : Int32))), .val (.ref z_FACET_AWARE), .val (.int (1 : Int32)), .val (.int (F1 (1 : Int32) (1 : Int32)))] [(.int (F1 (1 : Int32) (1 : Int32)))])
          by_cases hc98_58 : (F1 (1 : Int32) (1 : Int32)) = (0 : Int32)
          · refine Go.of (fun t k => XS.ifNo X48.here hx rfl (hb hby at_98) rfl ((if0 _ _).trans (teq hc98_58).2) k) ?_
            show Go p e below Qo T48 (mkF m 101 #[.val (.int i1), .val (.int ((i1 &&& (2147483647 : Int32)) % (6 : Int32))), .val (.ref z_FACET_AWARE), .val (.int (1 : Int32)), .val (.int (F1 (1 : Int32) (1 : Int32)))] [])
            refine Go.of (fun t k => XS.iconst X48.here hx rfl (hb hby at_101) k) ?_
            show Go p e below Qo T48 (mkF m 102 #[.val (.int i1), .val (.int ((i1 &&& (2147483647 : Int32)) % (6 : Int32))), .val (.ref z_FACET_AWARE), .val (.int (1 : Int32)), .val (.int (F1 (1 : Int32) (1 : Int32)))] [(.int (0 : Int32))])
            exfalso
            revert hc93_53 hc98_58
            decide
          · refine Go.of (fun t k => XS.ifYes X48.here hx rfl (pc0 := 98) (pc' := 103) rfl (hb hby at_98) rfl ((if0 _ _).trans (feq hc98_58).2) (by decide) (by decide) k) ?_
            show Go p e below Qo T48 (mkF m 103 #[.val (.int i1), .val (.int ((i1 &&& (2147483647 : Int32)) % (6 : Int32))), .val (.ref z_FACET_AWARE), .val (.int (1 : Int32)), .val (.int (F1 (1 : Int32) (1 : Int32)))] [])
            refine Go.of (fun t k => XS.iload X48.here hx rfl (hb hby at_103) rfl  k) ?_
            show Go p e below Qo T48 (mkF m 105 #[.val (.int i1), .val (.int ((i1 &&& (2147483647 : Int32)) % (6 : Int32))), .val (.ref z_FACET_AWARE), .val (.int (1 : Int32)), .val (.int (F1 (1 : Int32) (1 : Int32)))] [(.int (F1 (1 : Int32) (1 : Int32)))])
            refine Go.of (fun t k => XS.iloadN X48.here hx rfl (hb hby at_105) rfl  k) ?_
            show Go p e below Qo T48 (mkF m 106 #[.val (.int i1), .val (.int ((i1 &&& (2147483647 : Int32)) % (6 : Int32))), .val (.ref z_FACET_AWARE), .val (.int (1 : Int32)), .val (.int (F1 (1 : Int32) (1 : Int32)))] [(.int (1 : Int32)), (.int (F1 (1 : Int32) (1 : Int32)))])
            have J106_61 : ∀ (v106_60 : Int32), v106_60 = (if (F1 (1 : Int32) (1 : Int32)) = (1 : Int32) then (1 : Int32) else (0 : Int32)) → Go p e below Qo T48 (mkF m 114 #[.val (.int i1), .val (.int ((i1 &&& (2147483647 : Int32)) % (6 : Int32))), .val (.ref z_FACET_AWARE), .val (.int (1 : Int32)), .val (.int (F1 (1 : Int32) (1 : Int32)))] [(.int v106_60)]) := by
              intro v106_60 hv106_60
              show Go p e below Qo T48 (mkF m 114 #[.val (.int i1), .val (.int ((i1 &&& (2147483647 : Int32)) % (6 : Int32))), .val (.ref z_FACET_AWARE), .val (.int (1 : Int32)), .val (.int (F1 (1 : Int32) (1 : Int32)))] [(.int v106_60)])
              have hfin : v106_60 = 1 := by
                exact hv106_60.trans (by decide)
              exact own_retN X48 hx Bd.notSynchronized (t := .boolean) Bd.returns (by simp) (hb hby at_114) (fun u hu hF => hQo _ _ _ ⟨by rw [hfin]; rfl, N52⟩ (own_mono hF (by decide) (by decide)))
            by_cases hc106_62 : (F1 (1 : Int32) (1 : Int32)) = (1 : Int32)
            · refine Go.of (fun t k => XS.icmpNo X48.here hx rfl (hb hby at_106) rfl (teq hc106_62).2 k) ?_
              show Go p e below Qo T48 (mkF m 109 #[.val (.int i1), .val (.int ((i1 &&& (2147483647 : Int32)) % (6 : Int32))), .val (.ref z_FACET_AWARE), .val (.int (1 : Int32)), .val (.int (F1 (1 : Int32) (1 : Int32)))] [])
              refine Go.of (fun t k => XS.iconst X48.here hx rfl (hb hby at_109) k) ?_
              show Go p e below Qo T48 (mkF m 110 #[.val (.int i1), .val (.int ((i1 &&& (2147483647 : Int32)) % (6 : Int32))), .val (.ref z_FACET_AWARE), .val (.int (1 : Int32)), .val (.int (F1 (1 : Int32) (1 : Int32)))] [(.int (1 : Int32))])
              refine Go.of (fun t k => XS.goto X48.here hx rfl (pc0 := 110) (pc' := 114) rfl (hb hby at_110) (by decide) (by decide) k) ?_
              show Go p e below Qo T48 (mkF m 114 #[.val (.int i1), .val (.int ((i1 &&& (2147483647 : Int32)) % (6 : Int32))), .val (.ref z_FACET_AWARE), .val (.int (1 : Int32)), .val (.int (F1 (1 : Int32) (1 : Int32)))] [(.int (1 : Int32))])
              exact J106_61 _ (by first | rfl | (rw [if_pos hc106_62]) | (simp only [hc106_62, if_true, if_false]; done) | simp [hc106_62])
            · refine Go.of (fun t k => XS.icmpYes X48.here hx rfl (pc0 := 106) (pc' := 113) rfl (hb hby at_106) rfl (feq hc106_62).2 (by decide) (by decide) k) ?_
              show Go p e below Qo T48 (mkF m 113 #[.val (.int i1), .val (.int ((i1 &&& (2147483647 : Int32)) % (6 : Int32))), .val (.ref z_FACET_AWARE), .val (.int (1 : Int32)), .val (.int (F1 (1 : Int32) (1 : Int32)))] [])
              refine Go.of (fun t k => XS.iconst X48.here hx rfl (hb hby at_113) k) ?_
              show Go p e below Qo T48 (mkF m 114 #[.val (.int i1), .val (.int ((i1 &&& (2147483647 : Int32)) % (6 : Int32))), .val (.ref z_FACET_AWARE), .val (.int (1 : Int32)), .val (.int (F1 (1 : Int32) (1 : Int32)))] [(.int (0 : Int32))])
              exact J106_61 _ (by first | rfl | (rw [if_neg hc106_62]) | (simp only [hc106_62, if_true, if_false]; done) | simp [hc106_62])
      · refine Go.of (fun t k => XS.icmpYes X0.here hx rfl (pc0 := 37) (pc' := 49) rfl (hb hby at_37) rfl (feq hc37_41).2 (by decide) (by decide) k) ?_
        show Go p e below Qo s₁ (mkF m 49 #[.val (.int i1), .val (.int ((i1 &&& (2147483647 : Int32)) % (6 : Int32))), .unset, .unset, .unset] [])
        refine Go.of (fun t k => XS.iloadN X0.here hx rfl (hb hby at_49) rfl  k) ?_
        show Go p e below Qo s₁ (mkF m 50 #[.val (.int i1), .val (.int ((i1 &&& (2147483647 : Int32)) % (6 : Int32))), .unset, .unset, .unset] [(.int ((i1 &&& (2147483647 : Int32)) % (6 : Int32)))])
        refine Go.of (fun t k => XS.iconst X0.here hx rfl (hb hby at_50) k) ?_
        show Go p e below Qo s₁ (mkF m 51 #[.val (.int i1), .val (.int ((i1 &&& (2147483647 : Int32)) % (6 : Int32))), .unset, .unset, .unset] [(.int (3 : Int32)), (.int ((i1 &&& (2147483647 : Int32)) % (6 : Int32)))])
        by_cases hc51_63 : ((i1 &&& (2147483647 : Int32)) % (6 : Int32)) = (3 : Int32)
        · refine Go.of (fun t k => XS.icmpNo X0.here hx rfl (hb hby at_51) rfl (teq hc51_63).2 k) ?_
          show Go p e below Qo s₁ (mkF m 54 #[.val (.int i1), .val (.int ((i1 &&& (2147483647 : Int32)) % (6 : Int32))), .unset, .unset, .unset] [])
          obtain ⟨T64, X64, e64, st64⟩ := getS X0 hx hZ (host := "") hown (hw _ (List.mem_of_getElem? (i := 18) rfl)) Via.refl e0 f2 (g := (mkF m 54 #[.val (.int i1), .val (.int ((i1 &&& (2147483647 : Int32)) % (6 : Int32))), .unset, .unset, .unset] [])) rfl (hb hby at_54)
          refine Go.of st64 ?_
          show Go p e below Qo T64 (mkF m 57 #[.val (.int i1), .val (.int ((i1 &&& (2147483647 : Int32)) % (6 : Int32))), .unset, .unset, .unset] [(.ref z_LOG_DAMPENED)])
          refine Go.of (fun t k => XS.astoreN X64.here hx rfl (hb hby at_57) rfl rfl (l' := #[.val (.int i1), .val (.int ((i1 &&& (2147483647 : Int32)) % (6 : Int32))), .val (.ref z_LOG_DAMPENED), .unset, .unset]) rfl k) ?_
          show Go p e below Qo T64 (mkF m 58 #[.val (.int i1), .val (.int ((i1 &&& (2147483647 : Int32)) % (6 : Int32))), .val (.ref z_LOG_DAMPENED), .unset, .unset] [])
          refine Go.of (fun t k => XS.iconst X64.here hx rfl (hb hby at_58) k) ?_
          show Go p e below Qo T64 (mkF m 59 #[.val (.int i1), .val (.int ((i1 &&& (2147483647 : Int32)) % (6 : Int32))), .val (.ref z_LOG_DAMPENED), .unset, .unset] [(.int (1 : Int32))])
          refine Go.of (fun t k => XS.istoreN X64.here hx rfl (hb hby at_59) rfl (l' := #[.val (.int i1), .val (.int ((i1 &&& (2147483647 : Int32)) % (6 : Int32))), .val (.ref z_LOG_DAMPENED), .val (.int (1 : Int32)), .unset]) rfl k) ?_
          show Go p e below Qo T64 (mkF m 60 #[.val (.int i1), .val (.int ((i1 &&& (2147483647 : Int32)) % (6 : Int32))), .val (.ref z_LOG_DAMPENED), .val (.int (1 : Int32)), .unset] [])
          refine Go.of (fun t k => XS.goto X64.here hx rfl (pc0 := 60) (pc' := 83) rfl (hb hby at_60) (by decide) (by decide) k) ?_
          show Go p e below Qo T64 (mkF m 83 #[.val (.int i1), .val (.int ((i1 &&& (2147483647 : Int32)) % (6 : Int32))), .val (.ref z_LOG_DAMPENED), .val (.int (1 : Int32)), .unset] [])
          refine Go.of (fun t k => XS.aloadN X64.here hx rfl (hb hby at_83) rfl rfl k) ?_
          show Go p e below Qo T64 (mkF m 84 #[.val (.int i1), .val (.int ((i1 &&& (2147483647 : Int32)) % (6 : Int32))), .val (.ref z_LOG_DAMPENED), .val (.int (1 : Int32)), .unset] [(.ref z_LOG_DAMPENED)])
          obtain ⟨ciq66, kiq66, iq66a, iq66b, iq66c⟩ := isOf hZ e64 f3
          obtain ⟨_, _, ⟨T65, L65, k65, n65⟩, -, X65, ⟨Lc65, hQ65, l65, y65, z65⟩, st65⟩ := X64.virtualBack hx (y := (⟨"com/example/prompter/prompter/suggest/Ranking", "weighsFields", "()Z"⟩ : MethodName)) (z := (⟨"com/example/prompter/prompter/suggest/Ranking", "weighsFields", "()Z"⟩ : MethodName)) hown (mvT hZ (hw _ (List.mem_of_getElem? (i := 4) rfl))) (mvT hZ (hw _ (List.mem_of_getElem? (i := 5) rfl))) (notFace_of_selects (args := #[]) (mvT hZ (hw _ (List.mem_of_getElem? (i := 7) rfl)))) (mvT hZ (hw _ (List.mem_of_getElem? (i := 7) rfl))) (mvT hZ (hw _ (List.mem_of_getElem? (i := 6) rfl))) (by decide) (backOf (W := 0) (rm1 l Z a0 hw [] z_LOG_DAMPENED (1 : Int32) (1 : Int32) h0 n0 Z0 f14 f15) hZ (hw _ (List.mem_of_getElem? (i := 8) rfl)) (hw _ (List.mem_of_getElem? (i := 2) rfl)) (by decide) (by decide)) iq66a iq66c (g := (mkF m 84 #[.val (.int i1), .val (.int ((i1 &&& (2147483647 : Int32)) % (6 : Int32))), .val (.ref z_LOG_DAMPENED), .val (.int (1 : Int32)), .unset] [(.ref z_LOG_DAMPENED)])) rfl (by rw [hml]; rfl) (Steps.refl _) (argsL := []) (rest := []) (lenOf pd_0 rfl) rfl (by show 2 * 0 + _ ≤ _; exact Nat.le_of_eq rfl) (hb hby at_84) (fun _ _ => ⟨rfl, e64, (by decide : 0 + 0 ≤ _), (by decide : 0 + 0 ≤ _)⟩)
          dsimp only [Pt.U, Pt.locs, Pt.cells, Pt.slots] at X65 l65 y65 z65 st65 hQ65
          subst l65 y65 z65
          obtain ⟨rfl, N67, eh68⟩ := hQ65
          have N69 := Fr.app N0 N67
          refine Go.via st65 ?_
          show Go p e below Qo T65 (mkF m 87 #[.val (.int i1), .val (.int ((i1 &&& (2147483647 : Int32)) % (6 : Int32))), .val (.ref z_LOG_DAMPENED), .val (.int (1 : Int32)), .unset] [(.int (F1 (1 : Int32) (1 : Int32)))])
          refine Go.of (fun t k => XS.istore X65.here hx rfl (hb hby at_87) rfl (l' := #[.val (.int i1), .val (.int ((i1 &&& (2147483647 : Int32)) % (6 : Int32))), .val (.ref z_LOG_DAMPENED), .val (.int (1 : Int32)), .val (.int (F1 (1 : Int32) (1 : Int32)))]) rfl k) ?_
          show Go p e below Qo T65 (mkF m 89 #[.val (.int i1), .val (.int ((i1 &&& (2147483647 : Int32)) % (6 : Int32))), .val (.ref z_LOG_DAMPENED), .val (.int (1 : Int32)), .val (.int (F1 (1 : Int32) (1 : Int32)))] [])
          refine Go.of (fun t k => XS.aloadN X65.here hx rfl (hb hby at_89) rfl rfl k) ?_
          show Go p e below Qo T65 (mkF m 90 #[.val (.int i1), .val (.int ((i1 &&& (2147483647 : Int32)) % (6 : Int32))), .val (.ref z_LOG_DAMPENED), .val (.int (1 : Int32)), .val (.int (F1 (1 : Int32) (1 : Int32)))] [(.ref z_LOG_DAMPENED)])
          obtain ⟨ciq71, kiq71, iq71a, iq71b, iq71c⟩ := isOf hZ eh68 f3
          obtain ⟨_, _, ⟨T70, L70, k70, n70⟩, -, X70, ⟨Lc70, hQ70, l70, y70, z70⟩, st70⟩ := X65.virtualBack hx (y := (⟨"com/example/prompter/prompter/suggest/Ranking", "boostsFields", "()Z"⟩ : MethodName)) (z := (⟨"com/example/prompter/prompter/suggest/Ranking", "boostsFields", "()Z"⟩ : MethodName)) hown (mvT hZ (hw _ (List.mem_of_getElem? (i := 13) rfl))) (mvT hZ (hw _ (List.mem_of_getElem? (i := 14) rfl))) (notFace_of_selects (args := #[]) (mvT hZ (hw _ (List.mem_of_getElem? (i := 16) rfl)))) (mvT hZ (hw _ (List.mem_of_getElem? (i := 16) rfl))) (mvT hZ (hw _ (List.mem_of_getElem? (i := 15) rfl))) (by decide) (backOf (W := 0) (rm2 l Z a0 hw [] z_LOG_DAMPENED (1 : Int32) h0 n0 Z0 f15) hZ (hw _ (List.mem_of_getElem? (i := 17) rfl)) (hw _ (List.mem_of_getElem? (i := 2) rfl)) (by decide) (by decide)) iq71a iq71c (g := (mkF m 90 #[.val (.int i1), .val (.int ((i1 &&& (2147483647 : Int32)) % (6 : Int32))), .val (.ref z_LOG_DAMPENED), .val (.int (1 : Int32)), .val (.int (F1 (1 : Int32) (1 : Int32)))] [(.ref z_LOG_DAMPENED)])) rfl (by rw [hml]; rfl) (Steps.refl _) (argsL := []) (rest := []) (lenOf pd_0 rfl) rfl (by show 2 * 0 + _ ≤ _; exact Nat.le_of_eq rfl) (hb hby at_90) (fun _ _ => ⟨rfl, eh68, (by decide : 0 + 0 ≤ _), (by decide : 0 + 0 ≤ _)⟩)
          dsimp only [Pt.U, Pt.locs, Pt.cells, Pt.slots] at X70 l70 y70 z70 st70 hQ70
          subst l70 y70 z70
          obtain ⟨rfl, N72, eh73⟩ := hQ70
          have N74 := Fr.app N69 N72
          refine Go.via st70 ?_
          show Go p e below Qo T70 (mkF m 93 #[.val (.int i1), .val (.int ((i1 &&& (2147483647 : Int32)) % (6 : Int32))), .val (.ref z_LOG_DAMPENED), .val (.int (1 : Int32)), .val (.int (F1 (1 : Int32) (1 : Int32)))] [(.int (F2 (1 : Int32)))])
          by_cases hc93_75 : (F2 (1 : Int32)) = (0 : Int32)
          · refine Go.of (fun t k => XS.ifYes X70.here hx rfl (pc0 := 93) (pc' := 103) rfl (hb hby at_93) rfl ((if0 _ _).trans (teq hc93_75).1) (by decide) (by decide) k) ?_
            show Go p e below Qo T70 (mkF m 103 #[.val (.int i1), .val (.int ((i1 &&& (2147483647 : Int32)) % (6 : Int32))), .val (.ref z_LOG_DAMPENED), .val (.int (1 : Int32)), .val (.int (F1 (1 : Int32) (1 : Int32)))] [])
            refine Go.of (fun t k => XS.iload X70.here hx rfl (hb hby at_103) rfl  k) ?_
            show Go p e below Qo T70 (mkF m 105 #[.val (.int i1), .val (.int ((i1 &&& (2147483647 : Int32)) % (6 : Int32))), .val (.ref z_LOG_DAMPENED), .val (.int (1 : Int32)), .val (.int (F1 (1 : Int32) (1 : Int32)))] [(.int (F1 (1 : Int32) (1 : Int32)))])
            refine Go.of (fun t k => XS.iloadN X70.here hx rfl (hb hby at_105) rfl  k) ?_
            show Go p e below Qo T70 (mkF m 106 #[.val (.int i1), .val (.int ((i1 &&& (2147483647 : Int32)) % (6 : Int32))), .val (.ref z_LOG_DAMPENED), .val (.int (1 : Int32)), .val (.int (F1 (1 : Int32) (1 : Int32)))] [(.int (1 : Int32)), (.int (F1 (1 : Int32) (1 : Int32)))])
            have J106_78 : ∀ (v106_77 : Int32), v106_77 = (if (F1 (1 : Int32) (1 : Int32)) = (1 : Int32) then (1 : Int32) else (0 : Int32)) → Go p e below Qo T70 (mkF m 114 #[.val (.int i1), .val (.int ((i1 &&& (2147483647 : Int32)) % (6 : Int32))), .val (.ref z_LOG_DAMPENED), .val (.int (1 : Int32)), .val (.int (F1 (1 : Int32) (1 : Int32)))] [(.int v106_77)]) := by
              intro v106_77 hv106_77
              show Go p e below Qo T70 (mkF m 114 #[.val (.int i1), .val (.int ((i1 &&& (2147483647 : Int32)) % (6 : Int32))), .val (.ref z_LOG_DAMPENED), .val (.int (1 : Int32)), .val (.int (F1 (1 : Int32) (1 : Int32)))] [(.int v106_77)])
              have hfin : v106_77 = 1 := by
                exact hv106_77.trans (by decide)
              exact own_retN X70 hx Bd.notSynchronized (t := .boolean) Bd.returns (by simp) (hb hby at_114) (fun u hu hF => hQo _ _ _ ⟨by rw [hfin]; rfl, N74⟩ (own_mono hF (by decide) (by decide)))
            by_cases hc106_79 : (F1 (1 : Int32) (1 : Int32)) = (1 : Int32)
            · refine Go.of (fun t k => XS.icmpNo X70.here hx rfl (hb hby at_106) rfl (teq hc106_79).2 k) ?_
              show Go p e below Qo T70 (mkF m 109 #[.val (.int i1), .val (.int ((i1 &&& (2147483647 : Int32)) % (6 : Int32))), .val (.ref z_LOG_DAMPENED), .val (.int (1 : Int32)), .val (.int (F1 (1 : Int32) (1 : Int32)))] [])
              refine Go.of (fun t k => XS.iconst X70.here hx rfl (hb hby at_109) k) ?_
              show Go p e below Qo T70 (mkF m 110 #[.val (.int i1), .val (.int ((i1 &&& (2147483647 : Int32)) % (6 : Int32))), .val (.ref z_LOG_DAMPENED), .val (.int (1 : Int32)), .val (.int (F1 (1 : Int32) (1 : Int32)))] [(.int (1 : Int32))])
              refine Go.of (fun t k => XS.goto X70.here hx rfl (pc0 := 110) (pc' := 114) rfl (hb hby at_110) (by decide) (by decide) k) ?_
              show Go p e below Qo T70 (mkF m 114 #[.val (.int i1), .val (.int ((i1 &&& (2147483647 : Int32)) % (6 : Int32))), .val (.ref z_LOG_DAMPENED), .val (.int (1 : Int32)), .val (.int (F1 (1 : Int32) (1 : Int32)))] [(.int (1 : Int32))])
              exact J106_78 _ (by first | rfl | (rw [if_pos hc106_79]) | (simp only [hc106_79, if_true, if_false]; done) | simp [hc106_79])
            · refine Go.of (fun t k => XS.icmpYes X70.here hx rfl (pc0 := 106) (pc' := 113) rfl (hb hby at_106) rfl (feq hc106_79).2 (by decide) (by decide) k) ?_
              show Go p e below Qo T70 (mkF m 113 #[.val (.int i1), .val (.int ((i1 &&& (2147483647 : Int32)) % (6 : Int32))), .val (.ref z_LOG_DAMPENED), .val (.int (1 : Int32)), .val (.int (F1 (1 : Int32) (1 : Int32)))] [])
              refine Go.of (fun t k => XS.iconst X70.here hx rfl (hb hby at_113) k) ?_
              show Go p e below Qo T70 (mkF m 114 #[.val (.int i1), .val (.int ((i1 &&& (2147483647 : Int32)) % (6 : Int32))), .val (.ref z_LOG_DAMPENED), .val (.int (1 : Int32)), .val (.int (F1 (1 : Int32) (1 : Int32)))] [(.int (0 : Int32))])
              exact J106_78 _ (by first | rfl | (rw [if_neg hc106_79]) | (simp only [hc106_79, if_true, if_false]; done) | simp [hc106_79])
          · refine Go.of (fun t k => XS.ifNo X70.here hx rfl (hb hby at_93) rfl ((if0 _ _).trans (feq hc93_75).1) k) ?_
            show Go p e below Qo T70 (mkF m 96 #[.val (.int i1), .val (.int ((i1 &&& (2147483647 : Int32)) % (6 : Int32))), .val (.ref z_LOG_DAMPENED), .val (.int (1 : Int32)), .val (.int (F1 (1 : Int32) (1 : Int32)))] [])
            refine Go.of (fun t k => XS.iload X70.here hx rfl (hb hby at_96) rfl  k) ?_
            show Go p e below Qo T70 (mkF m 98 #[.val (.int i1), .val (.int ((i1 &&& (2147483647 : Int32)) % (6 : Int32))), .val (.ref z_LOG_DAMPENED), .val (.int (1 : Int32)), .val (.int (F1 (1 : Int32) (1 : Int32)))] [(.int (F1 (1 : Int32) (1 : Int32)))])
            by_cases hc98_80 : (F1 (1 : Int32) (1 : Int32)) = (0 : Int32)
            · refine Go.of (fun t k => XS.ifNo X70.here hx rfl (hb hby at_98) rfl ((if0 _ _).trans (teq hc98_80).2) k) ?_
              show Go p e below Qo T70 (mkF m 101 #[.val (.int i1), .val (.int ((i1 &&& (2147483647 : Int32)) % (6 : Int32))), .val (.ref z_LOG_DAMPENED), .val (.int (1 : Int32)), .val (.int (F1 (1 : Int32) (1 : Int32)))] [])
              refine Go.of (fun t k => XS.iconst X70.here hx rfl (hb hby at_101) k) ?_
              show Go p e below Qo T70 (mkF m 102 #[.val (.int i1), .val (.int ((i1 &&& (2147483647 : Int32)) % (6 : Int32))), .val (.ref z_LOG_DAMPENED), .val (.int (1 : Int32)), .val (.int (F1 (1 : Int32) (1 : Int32)))] [(.int (0 : Int32))])
              exfalso
              revert hc93_75 hc98_80
              decide
            · refine Go.of (fun t k => XS.ifYes X70.here hx rfl (pc0 := 98) (pc' := 103) rfl (hb hby at_98) rfl ((if0 _ _).trans (feq hc98_80).2) (by decide) (by decide) k) ?_
              show Go p e below Qo T70 (mkF m 103 #[.val (.int i1), .val (.int ((i1 &&& (2147483647 : Int32)) % (6 : Int32))), .val (.ref z_LOG_DAMPENED), .val (.int (1 : Int32)), .val (.int (F1 (1 : Int32) (1 : Int32)))] [])
              refine Go.of (fun t k => XS.iload X70.here hx rfl (hb hby at_103) rfl  k) ?_
              show Go p e below Qo T70 (mkF m 105 #[.val (.int i1), .val (.int ((i1 &&& (2147483647 : Int32)) % (6 : Int32))), .val (.ref z_LOG_DAMPENED), .val (.int (1 : Int32)), .val (.int (F1 (1 : Int32) (1 : Int32)))] [(.int (F1 (1 : Int32) (1 : Int32)))])
              refine Go.of (fun t k => XS.iloadN X70.here hx rfl (hb hby at_105) rfl  k) ?_
              show Go p e below Qo T70 (mkF m 106 #[.val (.int i1), .val (.int ((i1 &&& (2147483647 : Int32)) % (6 : Int32))), .val (.ref z_LOG_DAMPENED), .val (.int (1 : Int32)), .val (.int (F1 (1 : Int32) (1 : Int32)))] [(.int (1 : Int32)), (.int (F1 (1 : Int32) (1 : Int32)))])
              have J106_83 : ∀ (v106_82 : Int32), v106_82 = (if (F1 (1 : Int32) (1 : Int32)) = (1 : Int32) then (1 : Int32) else (0 : Int32)) → Go p e below Qo T70 (mkF m 114 #[.val (.int i1), .val (.int ((i1 &&& (2147483647 : Int32)) % (6 : Int32))), .val (.ref z_LOG_DAMPENED), .val (.int (1 : Int32)), .val (.int (F1 (1 : Int32) (1 : Int32)))] [(.int v106_82)]) := by
                intro v106_82 hv106_82
                show Go p e below Qo T70 (mkF m 114 #[.val (.int i1), .val (.int ((i1 &&& (2147483647 : Int32)) % (6 : Int32))), .val (.ref z_LOG_DAMPENED), .val (.int (1 : Int32)), .val (.int (F1 (1 : Int32) (1 : Int32)))] [(.int v106_82)])
                have hfin : v106_82 = 1 := by
                  exact hv106_82.trans (by decide)
                exact own_retN X70 hx Bd.notSynchronized (t := .boolean) Bd.returns (by simp) (hb hby at_114) (fun u hu hF => hQo _ _ _ ⟨by rw [hfin]; rfl, N74⟩ (own_mono hF (by decide) (by decide)))
              by_cases hc106_84 : (F1 (1 : Int32) (1 : Int32)) = (1 : Int32)
              · refine Go.of (fun t k => XS.icmpNo X70.here hx rfl (hb hby at_106) rfl (teq hc106_84).2 k) ?_
                show Go p e below Qo T70 (mkF m 109 #[.val (.int i1), .val (.int ((i1 &&& (2147483647 : Int32)) % (6 : Int32))), .val (.ref z_LOG_DAMPENED), .val (.int (1 : Int32)), .val (.int (F1 (1 : Int32) (1 : Int32)))] [])
                refine Go.of (fun t k => XS.iconst X70.here hx rfl (hb hby at_109) k) ?_
                show Go p e below Qo T70 (mkF m 110 #[.val (.int i1), .val (.int ((i1 &&& (2147483647 : Int32)) % (6 : Int32))), .val (.ref z_LOG_DAMPENED), .val (.int (1 : Int32)), .val (.int (F1 (1 : Int32) (1 : Int32)))] [(.int (1 : Int32))])
                refine Go.of (fun t k => XS.goto X70.here hx rfl (pc0 := 110) (pc' := 114) rfl (hb hby at_110) (by decide) (by decide) k) ?_
                show Go p e below Qo T70 (mkF m 114 #[.val (.int i1), .val (.int ((i1 &&& (2147483647 : Int32)) % (6 : Int32))), .val (.ref z_LOG_DAMPENED), .val (.int (1 : Int32)), .val (.int (F1 (1 : Int32) (1 : Int32)))] [(.int (1 : Int32))])
                exact J106_83 _ (by first | rfl | (rw [if_pos hc106_84]) | (simp only [hc106_84, if_true, if_false]; done) | simp [hc106_84])
              · refine Go.of (fun t k => XS.icmpYes X70.here hx rfl (pc0 := 106) (pc' := 113) rfl (hb hby at_106) rfl (feq hc106_84).2 (by decide) (by decide) k) ?_
                show Go p e below Qo T70 (mkF m 113 #[.val (.int i1), .val (.int ((i1 &&& (2147483647 : Int32)) % (6 : Int32))), .val (.ref z_LOG_DAMPENED), .val (.int (1 : Int32)), .val (.int (F1 (1 : Int32) (1 : Int32)))] [])
                refine Go.of (fun t k => XS.iconst X70.here hx rfl (hb hby at_113) k) ?_
                show Go p e below Qo T70 (mkF m 114 #[.val (.int i1), .val (.int ((i1 &&& (2147483647 : Int32)) % (6 : Int32))), .val (.ref z_LOG_DAMPENED), .val (.int (1 : Int32)), .val (.int (F1 (1 : Int32) (1 : Int32)))] [(.int (0 : Int32))])
                exact J106_83 _ (by first | rfl | (rw [if_neg hc106_84]) | (simp only [hc106_84, if_true, if_false]; done) | simp [hc106_84])
        · refine Go.of (fun t k => XS.icmpYes X0.here hx rfl (pc0 := 51) (pc' := 63) rfl (hb hby at_51) rfl (feq hc51_63).2 (by decide) (by decide) k) ?_
          show Go p e below Qo s₁ (mkF m 63 #[.val (.int i1), .val (.int ((i1 &&& (2147483647 : Int32)) % (6 : Int32))), .unset, .unset, .unset] [])
          refine Go.of (fun t k => XS.iloadN X0.here hx rfl (hb hby at_63) rfl  k) ?_
          show Go p e below Qo s₁ (mkF m 64 #[.val (.int i1), .val (.int ((i1 &&& (2147483647 : Int32)) % (6 : Int32))), .unset, .unset, .unset] [(.int ((i1 &&& (2147483647 : Int32)) % (6 : Int32)))])
          refine Go.of (fun t k => XS.iconst X0.here hx rfl (hb hby at_64) k) ?_
          show Go p e below Qo s₁ (mkF m 65 #[.val (.int i1), .val (.int ((i1 &&& (2147483647 : Int32)) % (6 : Int32))), .unset, .unset, .unset] [(.int (4 : Int32)), (.int ((i1 &&& (2147483647 : Int32)) % (6 : Int32)))])
          by_cases hc65_85 : ((i1 &&& (2147483647 : Int32)) % (6 : Int32)) = (4 : Int32)
          · refine Go.of (fun t k => XS.icmpNo X0.here hx rfl (hb hby at_65) rfl (teq hc65_85).2 k) ?_
            show Go p e below Qo s₁ (mkF m 68 #[.val (.int i1), .val (.int ((i1 &&& (2147483647 : Int32)) % (6 : Int32))), .unset, .unset, .unset] [])
            obtain ⟨T86, X86, e86, st86⟩ := getS X0 hx hZ (host := "") hown (hw _ (List.mem_of_getElem? (i := 26) rfl)) Via.refl e0 f10 (g := (mkF m 68 #[.val (.int i1), .val (.int ((i1 &&& (2147483647 : Int32)) % (6 : Int32))), .unset, .unset, .unset] [])) rfl (hb hby at_68)
            refine Go.of st86 ?_
            show Go p e below Qo T86 (mkF m 71 #[.val (.int i1), .val (.int ((i1 &&& (2147483647 : Int32)) % (6 : Int32))), .unset, .unset, .unset] [(.ref z_SQRT_DAMPENED)])
            refine Go.of (fun t k => XS.astoreN X86.here hx rfl (hb hby at_71) rfl rfl (l' := #[.val (.int i1), .val (.int ((i1 &&& (2147483647 : Int32)) % (6 : Int32))), .val (.ref z_SQRT_DAMPENED), .unset, .unset]) rfl k) ?_
            show Go p e below Qo T86 (mkF m 72 #[.val (.int i1), .val (.int ((i1 &&& (2147483647 : Int32)) % (6 : Int32))), .val (.ref z_SQRT_DAMPENED), .unset, .unset] [])
            refine Go.of (fun t k => XS.iconst X86.here hx rfl (hb hby at_72) k) ?_
            show Go p e below Qo T86 (mkF m 73 #[.val (.int i1), .val (.int ((i1 &&& (2147483647 : Int32)) % (6 : Int32))), .val (.ref z_SQRT_DAMPENED), .unset, .unset] [(.int (1 : Int32))])
            refine Go.of (fun t k => XS.istoreN X86.here hx rfl (hb hby at_73) rfl (l' := #[.val (.int i1), .val (.int ((i1 &&& (2147483647 : Int32)) % (6 : Int32))), .val (.ref z_SQRT_DAMPENED), .val (.int (1 : Int32)), .unset]) rfl k) ?_
            show Go p e below Qo T86 (mkF m 74 #[.val (.int i1), .val (.int ((i1 &&& (2147483647 : Int32)) % (6 : Int32))), .val (.ref z_SQRT_DAMPENED), .val (.int (1 : Int32)), .unset] [])
            refine Go.of (fun t k => XS.goto X86.here hx rfl (pc0 := 74) (pc' := 83) rfl (hb hby at_74) (by decide) (by decide) k) ?_
            show Go p e below Qo T86 (mkF m 83 #[.val (.int i1), .val (.int ((i1 &&& (2147483647 : Int32)) % (6 : Int32))), .val (.ref z_SQRT_DAMPENED), .val (.int (1 : Int32)), .unset] [])
            refine Go.of (fun t k => XS.aloadN X86.here hx rfl (hb hby at_83) rfl rfl k) ?_
            show Go p e below Qo T86 (mkF m 84 #[.val (.int i1), .val (.int ((i1 &&& (2147483647 : Int32)) % (6 : Int32))), .val (.ref z_SQRT_DAMPENED), .val (.int (1 : Int32)), .unset] [(.ref z_SQRT_DAMPENED)])
            obtain ⟨ciq88, kiq88, iq88a, iq88b, iq88c⟩ := isOf hZ e86 f11
            obtain ⟨_, _, ⟨T87, L87, k87, n87⟩, -, X87, ⟨Lc87, hQ87, l87, y87, z87⟩, st87⟩ := X86.virtualBack hx (y := (⟨"com/example/prompter/prompter/suggest/Ranking", "weighsFields", "()Z"⟩ : MethodName)) (z := (⟨"com/example/prompter/prompter/suggest/Ranking", "weighsFields", "()Z"⟩ : MethodName)) hown (mvT hZ (hw _ (List.mem_of_getElem? (i := 4) rfl))) (mvT hZ (hw _ (List.mem_of_getElem? (i := 5) rfl))) (notFace_of_selects (args := #[]) (mvT hZ (hw _ (List.mem_of_getElem? (i := 7) rfl)))) (mvT hZ (hw _ (List.mem_of_getElem? (i := 7) rfl))) (mvT hZ (hw _ (List.mem_of_getElem? (i := 6) rfl))) (by decide) (backOf (W := 0) (rm1 l Z a0 hw [] z_SQRT_DAMPENED (1 : Int32) (1 : Int32) h0 n0 Z0 f22 f23) hZ (hw _ (List.mem_of_getElem? (i := 8) rfl)) (hw _ (List.mem_of_getElem? (i := 2) rfl)) (by decide) (by decide)) iq88a iq88c (g := (mkF m 84 #[.val (.int i1), .val (.int ((i1 &&& (2147483647 : Int32)) % (6 : Int32))), .val (.ref z_SQRT_DAMPENED), .val (.int (1 : Int32)), .unset] [(.ref z_SQRT_DAMPENED)])) rfl (by rw [hml]; rfl) (Steps.refl _) (argsL := []) (rest := []) (lenOf pd_0 rfl) rfl (by show 2 * 0 + _ ≤ _; exact Nat.le_of_eq rfl) (hb hby at_84) (fun _ _ => ⟨rfl, e86, (by decide : 0 + 0 ≤ _), (by decide : 0 + 0 ≤ _)⟩)
            dsimp only [Pt.U, Pt.locs, Pt.cells, Pt.slots] at X87 l87 y87 z87 st87 hQ87
            subst l87 y87 z87
            obtain ⟨rfl, N89, eh90⟩ := hQ87
            have N91 := Fr.app N0 N89
            refine Go.via st87 ?_
            show Go p e below Qo T87 (mkF m 87 #[.val (.int i1), .val (.int ((i1 &&& (2147483647 : Int32)) % (6 : Int32))), .val (.ref z_SQRT_DAMPENED), .val (.int (1 : Int32)), .unset] [(.int (F1 (1 : Int32) (1 : Int32)))])
            refine Go.of (fun t k => XS.istore X87.here hx rfl (hb hby at_87) rfl (l' := #[.val (.int i1), .val (.int ((i1 &&& (2147483647 : Int32)) % (6 : Int32))), .val (.ref z_SQRT_DAMPENED), .val (.int (1 : Int32)), .val (.int (F1 (1 : Int32) (1 : Int32)))]) rfl k) ?_
            show Go p e below Qo T87 (mkF m 89 #[.val (.int i1), .val (.int ((i1 &&& (2147483647 : Int32)) % (6 : Int32))), .val (.ref z_SQRT_DAMPENED), .val (.int (1 : Int32)), .val (.int (F1 (1 : Int32) (1 : Int32)))] [])
            refine Go.of (fun t k => XS.aloadN X87.here hx rfl (hb hby at_89) rfl rfl k) ?_
            show Go p e below Qo T87 (mkF m 90 #[.val (.int i1), .val (.int ((i1 &&& (2147483647 : Int32)) % (6 : Int32))), .val (.ref z_SQRT_DAMPENED), .val (.int (1 : Int32)), .val (.int (F1 (1 : Int32) (1 : Int32)))] [(.ref z_SQRT_DAMPENED)])
            obtain ⟨ciq93, kiq93, iq93a, iq93b, iq93c⟩ := isOf hZ eh90 f11
            obtain ⟨_, _, ⟨T92, L92, k92, n92⟩, -, X92, ⟨Lc92, hQ92, l92, y92, z92⟩, st92⟩ := X87.virtualBack hx (y := (⟨"com/example/prompter/prompter/suggest/Ranking", "boostsFields", "()Z"⟩ : MethodName)) (z := (⟨"com/example/prompter/prompter/suggest/Ranking", "boostsFields", "()Z"⟩ : MethodName)) hown (mvT hZ (hw _ (List.mem_of_getElem? (i := 13) rfl))) (mvT hZ (hw _ (List.mem_of_getElem? (i := 14) rfl))) (notFace_of_selects (args := #[]) (mvT hZ (hw _ (List.mem_of_getElem? (i := 16) rfl)))) (mvT hZ (hw _ (List.mem_of_getElem? (i := 16) rfl))) (mvT hZ (hw _ (List.mem_of_getElem? (i := 15) rfl))) (by decide) (backOf (W := 0) (rm2 l Z a0 hw [] z_SQRT_DAMPENED (1 : Int32) h0 n0 Z0 f23) hZ (hw _ (List.mem_of_getElem? (i := 17) rfl)) (hw _ (List.mem_of_getElem? (i := 2) rfl)) (by decide) (by decide)) iq93a iq93c (g := (mkF m 90 #[.val (.int i1), .val (.int ((i1 &&& (2147483647 : Int32)) % (6 : Int32))), .val (.ref z_SQRT_DAMPENED), .val (.int (1 : Int32)), .val (.int (F1 (1 : Int32) (1 : Int32)))] [(.ref z_SQRT_DAMPENED)])) rfl (by rw [hml]; rfl) (Steps.refl _) (argsL := []) (rest := []) (lenOf pd_0 rfl) rfl (by show 2 * 0 + _ ≤ _; exact Nat.le_of_eq rfl) (hb hby at_90) (fun _ _ => ⟨rfl, eh90, (by decide : 0 + 0 ≤ _), (by decide : 0 + 0 ≤ _)⟩)
            dsimp only [Pt.U, Pt.locs, Pt.cells, Pt.slots] at X92 l92 y92 z92 st92 hQ92
            subst l92 y92 z92
            obtain ⟨rfl, N94, eh95⟩ := hQ92
            have N96 := Fr.app N91 N94
            refine Go.via st92 ?_
            show Go p e below Qo T92 (mkF m 93 #[.val (.int i1), .val (.int ((i1 &&& (2147483647 : Int32)) % (6 : Int32))), .val (.ref z_SQRT_DAMPENED), .val (.int (1 : Int32)), .val (.int (F1 (1 : Int32) (1 : Int32)))] [(.int (F2 (1 : Int32)))])
            by_cases hc93_97 : (F2 (1 : Int32)) = (0 : Int32)
            · refine Go.of (fun t k => XS.ifYes X92.here hx rfl (pc0 := 93) (pc' := 103) rfl (hb hby at_93) rfl ((if0 _ _).trans (teq hc93_97).1) (by decide) (by decide) k) ?_
              show Go p e below Qo T92 (mkF m 103 #[.val (.int i1), .val (.int ((i1 &&& (2147483647 : Int32)) % (6 : Int32))), .val (.ref z_SQRT_DAMPENED), .val (.int (1 : Int32)), .val (.int (F1 (1 : Int32) (1 : Int32)))] [])
              refine Go.of (fun t k => XS.iload X92.here hx rfl (hb hby at_103) rfl  k) ?_
              show Go p e below Qo T92 (mkF m 105 #[.val (.int i1), .val (.int ((i1 &&& (2147483647 : Int32)) % (6 : Int32))), .val (.ref z_SQRT_DAMPENED), .val (.int (1 : Int32)), .val (.int (F1 (1 : Int32) (1 : Int32)))] [(.int (F1 (1 : Int32) (1 : Int32)))])
              refine Go.of (fun t k => XS.iloadN X92.here hx rfl (hb hby at_105) rfl  k) ?_
              show Go p e below Qo T92 (mkF m 106 #[.val (.int i1), .val (.int ((i1 &&& (2147483647 : Int32)) % (6 : Int32))), .val (.ref z_SQRT_DAMPENED), .val (.int (1 : Int32)), .val (.int (F1 (1 : Int32) (1 : Int32)))] [(.int (1 : Int32)), (.int (F1 (1 : Int32) (1 : Int32)))])
              have J106_100 : ∀ (v106_99 : Int32), v106_99 = (if (F1 (1 : Int32) (1 : Int32)) = (1 : Int32) then (1 : Int32) else (0 : Int32)) → Go p e below Qo T92 (mkF m 114 #[.val (.int i1), .val (.int ((i1 &&& (2147483647 : Int32)) % (6 : Int32))), .val (.ref z_SQRT_DAMPENED), .val (.int (1 : Int32)), .val (.int (F1 (1 : Int32) (1 : Int32)))] [(.int v106_99)]) := by
                intro v106_99 hv106_99
                show Go p e below Qo T92 (mkF m 114 #[.val (.int i1), .val (.int ((i1 &&& (2147483647 : Int32)) % (6 : Int32))), .val (.ref z_SQRT_DAMPENED), .val (.int (1 : Int32)), .val (.int (F1 (1 : Int32) (1 : Int32)))] [(.int v106_99)])
                have hfin : v106_99 = 1 := by
                  exact hv106_99.trans (by decide)
                exact own_retN X92 hx Bd.notSynchronized (t := .boolean) Bd.returns (by simp) (hb hby at_114) (fun u hu hF => hQo _ _ _ ⟨by rw [hfin]; rfl, N96⟩ (own_mono hF (by decide) (by decide)))
              by_cases hc106_101 : (F1 (1 : Int32) (1 : Int32)) = (1 : Int32)
              · refine Go.of (fun t k => XS.icmpNo X92.here hx rfl (hb hby at_106) rfl (teq hc106_101).2 k) ?_
                show Go p e below Qo T92 (mkF m 109 #[.val (.int i1), .val (.int ((i1 &&& (2147483647 : Int32)) % (6 : Int32))), .val (.ref z_SQRT_DAMPENED), .val (.int (1 : Int32)), .val (.int (F1 (1 : Int32) (1 : Int32)))] [])
                refine Go.of (fun t k => XS.iconst X92.here hx rfl (hb hby at_109) k) ?_
                show Go p e below Qo T92 (mkF m 110 #[.val (.int i1), .val (.int ((i1 &&& (2147483647 : Int32)) % (6 : Int32))), .val (.ref z_SQRT_DAMPENED), .val (.int (1 : Int32)), .val (.int (F1 (1 : Int32) (1 : Int32)))] [(.int (1 : Int32))])
                refine Go.of (fun t k => XS.goto X92.here hx rfl (pc0 := 110) (pc' := 114) rfl (hb hby at_110) (by decide) (by decide) k) ?_
                show Go p e below Qo T92 (mkF m 114 #[.val (.int i1), .val (.int ((i1 &&& (2147483647 : Int32)) % (6 : Int32))), .val (.ref z_SQRT_DAMPENED), .val (.int (1 : Int32)), .val (.int (F1 (1 : Int32) (1 : Int32)))] [(.int (1 : Int32))])
                exact J106_100 _ (by first | rfl | (rw [if_pos hc106_101]) | (simp only [hc106_101, if_true, if_false]; done) | simp [hc106_101])
              · refine Go.of (fun t k => XS.icmpYes X92.here hx rfl (pc0 := 106) (pc' := 113) rfl (hb hby at_106) rfl (feq hc106_101).2 (by decide) (by decide) k) ?_
                show Go p e below Qo T92 (mkF m 113 #[.val (.int i1), .val (.int ((i1 &&& (2147483647 : Int32)) % (6 : Int32))), .val (.ref z_SQRT_DAMPENED), .val (.int (1 : Int32)), .val (.int (F1 (1 : Int32) (1 : Int32)))] [])
                refine Go.of (fun t k => XS.iconst X92.here hx rfl (hb hby at_113) k) ?_
                show Go p e below Qo T92 (mkF m 114 #[.val (.int i1), .val (.int ((i1 &&& (2147483647 : Int32)) % (6 : Int32))), .val (.ref z_SQRT_DAMPENED), .val (.int (1 : Int32)), .val (.int (F1 (1 : Int32) (1 : Int32)))] [(.int (0 : Int32))])
                exact J106_100 _ (by first | rfl | (rw [if_neg hc106_101]) | (simp only [hc106_101, if_true, if_false]; done) | simp [hc106_101])
            · refine Go.of (fun t k => XS.ifNo X92.here hx rfl (hb hby at_93) rfl ((if0 _ _).trans (feq hc93_97).1) k) ?_
              show Go p e below Qo T92 (mkF m 96 #[.val (.int i1), .val (.int ((i1 &&& (2147483647 : Int32)) % (6 : Int32))), .val (.ref z_SQRT_DAMPENED), .val (.int (1 : Int32)), .val (.int (F1 (1 : Int32) (1 : Int32)))] [])
              refine Go.of (fun t k => XS.iload X92.here hx rfl (hb hby at_96) rfl  k) ?_
              show Go p e below Qo T92 (mkF m 98 #[.val (.int i1), .val (.int ((i1 &&& (2147483647 : Int32)) % (6 : Int32))), .val (.ref z_SQRT_DAMPENED), .val (.int (1 : Int32)), .val (.int (F1 (1 : Int32) (1 : Int32)))] [(.int (F1 (1 : Int32) (1 : Int32)))])
              by_cases hc98_102 : (F1 (1 : Int32) (1 : Int32)) = (0 : Int32)
              · refine Go.of (fun t k => XS.ifNo X92.here hx rfl (hb hby at_98) rfl ((if0 _ _).trans (teq hc98_102).2) k) ?_
                show Go p e below Qo T92 (mkF m 101 #[.val (.int i1), .val (.int ((i1 &&& (2147483647 : Int32)) % (6 : Int32))), .val (.ref z_SQRT_DAMPENED), .val (.int (1 : Int32)), .val (.int (F1 (1 : Int32) (1 : Int32)))] [])
                refine Go.of (fun t k => XS.iconst X92.here hx rfl (hb hby at_101) k) ?_
                show Go p e below Qo T92 (mkF m 102 #[.val (.int i1), .val (.int ((i1 &&& (2147483647 : Int32)) % (6 : Int32))), .val (.ref z_SQRT_DAMPENED), .val (.int (1 : Int32)), .val (.int (F1 (1 : Int32) (1 : Int32)))] [(.int (0 : Int32))])
                exfalso
                revert hc93_97 hc98_102
                decide
              · refine Go.of (fun t k => XS.ifYes X92.here hx rfl (pc0 := 98) (pc' := 103) rfl (hb hby at_98) rfl ((if0 _ _).trans (feq hc98_102).2) (by decide) (by decide) k) ?_
                show Go p e below Qo T92 (mkF m 103 #[.val (.int i1), .val (.int ((i1 &&& (2147483647 : Int32)) % (6 : Int32))), .val (.ref z_SQRT_DAMPENED), .val (.int (1 : Int32)), .val (.int (F1 (1 : Int32) (1 : Int32)))] [])
                refine Go.of (fun t k => XS.iload X92.here hx rfl (hb hby at_103) rfl  k) ?_
                show Go p e below Qo T92 (mkF m 105 #[.val (.int i1), .val (.int ((i1 &&& (2147483647 : Int32)) % (6 : Int32))), .val (.ref z_SQRT_DAMPENED), .val (.int (1 : Int32)), .val (.int (F1 (1 : Int32) (1 : Int32)))] [(.int (F1 (1 : Int32) (1 : Int32)))])
                refine Go.of (fun t k => XS.iloadN X92.here hx rfl (hb hby at_105) rfl  k) ?_
                show Go p e below Qo T92 (mkF m 106 #[.val (.int i1), .val (.int ((i1 &&& (2147483647 : Int32)) % (6 : Int32))), .val (.ref z_SQRT_DAMPENED), .val (.int (1 : Int32)), .val (.int (F1 (1 : Int32) (1 : Int32)))] [(.int (1 : Int32)), (.int (F1 (1 : Int32) (1 : Int32)))])
                have J106_105 : ∀ (v106_104 : Int32), v106_104 = (if (F1 (1 : Int32) (1 : Int32)) = (1 : Int32) then (1 : Int32) else (0 : Int32)) → Go p e below Qo T92 (mkF m 114 #[.val (.int i1), .val (.int ((i1 &&& (2147483647 : Int32)) % (6 : Int32))), .val (.ref z_SQRT_DAMPENED), .val (.int (1 : Int32)), .val (.int (F1 (1 : Int32) (1 : Int32)))] [(.int v106_104)]) := by
                  intro v106_104 hv106_104
                  show Go p e below Qo T92 (mkF m 114 #[.val (.int i1), .val (.int ((i1 &&& (2147483647 : Int32)) % (6 : Int32))), .val (.ref z_SQRT_DAMPENED), .val (.int (1 : Int32)), .val (.int (F1 (1 : Int32) (1 : Int32)))] [(.int v106_104)])
                  have hfin : v106_104 = 1 := by
                    exact hv106_104.trans (by decide)
                  exact own_retN X92 hx Bd.notSynchronized (t := .boolean) Bd.returns (by simp) (hb hby at_114) (fun u hu hF => hQo _ _ _ ⟨by rw [hfin]; rfl, N96⟩ (own_mono hF (by decide) (by decide)))
                by_cases hc106_106 : (F1 (1 : Int32) (1 : Int32)) = (1 : Int32)
                · refine Go.of (fun t k => XS.icmpNo X92.here hx rfl (hb hby at_106) rfl (teq hc106_106).2 k) ?_
                  show Go p e below Qo T92 (mkF m 109 #[.val (.int i1), .val (.int ((i1 &&& (2147483647 : Int32)) % (6 : Int32))), .val (.ref z_SQRT_DAMPENED), .val (.int (1 : Int32)), .val (.int (F1 (1 : Int32) (1 : Int32)))] [])
                  refine Go.of (fun t k => XS.iconst X92.here hx rfl (hb hby at_109) k) ?_
                  show Go p e below Qo T92 (mkF m 110 #[.val (.int i1), .val (.int ((i1 &&& (2147483647 : Int32)) % (6 : Int32))), .val (.ref z_SQRT_DAMPENED), .val (.int (1 : Int32)), .val (.int (F1 (1 : Int32) (1 : Int32)))] [(.int (1 : Int32))])
                  refine Go.of (fun t k => XS.goto X92.here hx rfl (pc0 := 110) (pc' := 114) rfl (hb hby at_110) (by decide) (by decide) k) ?_
                  show Go p e below Qo T92 (mkF m 114 #[.val (.int i1), .val (.int ((i1 &&& (2147483647 : Int32)) % (6 : Int32))), .val (.ref z_SQRT_DAMPENED), .val (.int (1 : Int32)), .val (.int (F1 (1 : Int32) (1 : Int32)))] [(.int (1 : Int32))])
                  exact J106_105 _ (by first | rfl | (rw [if_pos hc106_106]) | (simp only [hc106_106, if_true, if_false]; done) | simp [hc106_106])
                · refine Go.of (fun t k => XS.icmpYes X92.here hx rfl (pc0 := 106) (pc' := 113) rfl (hb hby at_106) rfl (feq hc106_106).2 (by decide) (by decide) k) ?_
                  show Go p e below Qo T92 (mkF m 113 #[.val (.int i1), .val (.int ((i1 &&& (2147483647 : Int32)) % (6 : Int32))), .val (.ref z_SQRT_DAMPENED), .val (.int (1 : Int32)), .val (.int (F1 (1 : Int32) (1 : Int32)))] [])
                  refine Go.of (fun t k => XS.iconst X92.here hx rfl (hb hby at_113) k) ?_
                  show Go p e below Qo T92 (mkF m 114 #[.val (.int i1), .val (.int ((i1 &&& (2147483647 : Int32)) % (6 : Int32))), .val (.ref z_SQRT_DAMPENED), .val (.int (1 : Int32)), .val (.int (F1 (1 : Int32) (1 : Int32)))] [(.int (0 : Int32))])
                  exact J106_105 _ (by first | rfl | (rw [if_neg hc106_106]) | (simp only [hc106_106, if_true, if_false]; done) | simp [hc106_106])
          · refine Go.of (fun t k => XS.icmpYes X0.here hx rfl (pc0 := 65) (pc' := 77) rfl (hb hby at_65) rfl (feq hc65_85).2 (by decide) (by decide) k) ?_
            show Go p e below Qo s₁ (mkF m 77 #[.val (.int i1), .val (.int ((i1 &&& (2147483647 : Int32)) % (6 : Int32))), .unset, .unset, .unset] [])
            obtain ⟨T107, X107, e107, st107⟩ := getS X0 hx hZ (host := "") hown (hw _ (List.mem_of_getElem? (i := 24) rfl)) Via.refl e0 f8 (g := (mkF m 77 #[.val (.int i1), .val (.int ((i1 &&& (2147483647 : Int32)) % (6 : Int32))), .unset, .unset, .unset] [])) rfl (hb hby at_77)
            refine Go.of st107 ?_
            show Go p e below Qo T107 (mkF m 80 #[.val (.int i1), .val (.int ((i1 &&& (2147483647 : Int32)) % (6 : Int32))), .unset, .unset, .unset] [(.ref z_NEXT_WORD)])
            refine Go.of (fun t k => XS.astoreN X107.here hx rfl (hb hby at_80) rfl rfl (l' := #[.val (.int i1), .val (.int ((i1 &&& (2147483647 : Int32)) % (6 : Int32))), .val (.ref z_NEXT_WORD), .unset, .unset]) rfl k) ?_
            show Go p e below Qo T107 (mkF m 81 #[.val (.int i1), .val (.int ((i1 &&& (2147483647 : Int32)) % (6 : Int32))), .val (.ref z_NEXT_WORD), .unset, .unset] [])
            refine Go.of (fun t k => XS.iconst X107.here hx rfl (hb hby at_81) k) ?_
            show Go p e below Qo T107 (mkF m 82 #[.val (.int i1), .val (.int ((i1 &&& (2147483647 : Int32)) % (6 : Int32))), .val (.ref z_NEXT_WORD), .unset, .unset] [(.int (0 : Int32))])
            refine Go.of (fun t k => XS.istoreN X107.here hx rfl (hb hby at_82) rfl (l' := #[.val (.int i1), .val (.int ((i1 &&& (2147483647 : Int32)) % (6 : Int32))), .val (.ref z_NEXT_WORD), .val (.int (0 : Int32)), .unset]) rfl k) ?_
            show Go p e below Qo T107 (mkF m 83 #[.val (.int i1), .val (.int ((i1 &&& (2147483647 : Int32)) % (6 : Int32))), .val (.ref z_NEXT_WORD), .val (.int (0 : Int32)), .unset] [])
            refine Go.of (fun t k => XS.aloadN X107.here hx rfl (hb hby at_83) rfl rfl k) ?_
            show Go p e below Qo T107 (mkF m 84 #[.val (.int i1), .val (.int ((i1 &&& (2147483647 : Int32)) % (6 : Int32))), .val (.ref z_NEXT_WORD), .val (.int (0 : Int32)), .unset] [(.ref z_NEXT_WORD)])
            obtain ⟨ciq109, kiq109, iq109a, iq109b, iq109c⟩ := isOf hZ e107 f9
            obtain ⟨_, _, ⟨T108, L108, k108, n108⟩, -, X108, ⟨Lc108, hQ108, l108, y108, z108⟩, st108⟩ := X107.virtualBack hx (y := (⟨"com/example/prompter/prompter/suggest/Ranking", "weighsFields", "()Z"⟩ : MethodName)) (z := (⟨"com/example/prompter/prompter/suggest/Ranking", "weighsFields", "()Z"⟩ : MethodName)) hown (mvT hZ (hw _ (List.mem_of_getElem? (i := 4) rfl))) (mvT hZ (hw _ (List.mem_of_getElem? (i := 5) rfl))) (notFace_of_selects (args := #[]) (mvT hZ (hw _ (List.mem_of_getElem? (i := 7) rfl)))) (mvT hZ (hw _ (List.mem_of_getElem? (i := 7) rfl))) (mvT hZ (hw _ (List.mem_of_getElem? (i := 6) rfl))) (by decide) (backOf (W := 0) (rm1 l Z a0 hw [] z_NEXT_WORD (0 : Int32) (0 : Int32) h0 n0 Z0 f20 f21) hZ (hw _ (List.mem_of_getElem? (i := 8) rfl)) (hw _ (List.mem_of_getElem? (i := 2) rfl)) (by decide) (by decide)) iq109a iq109c (g := (mkF m 84 #[.val (.int i1), .val (.int ((i1 &&& (2147483647 : Int32)) % (6 : Int32))), .val (.ref z_NEXT_WORD), .val (.int (0 : Int32)), .unset] [(.ref z_NEXT_WORD)])) rfl (by rw [hml]; rfl) (Steps.refl _) (argsL := []) (rest := []) (lenOf pd_0 rfl) rfl (by show 2 * 0 + _ ≤ _; exact Nat.le_of_eq rfl) (hb hby at_84) (fun _ _ => ⟨rfl, e107, (by decide : 0 + 0 ≤ _), (by decide : 0 + 0 ≤ _)⟩)
            dsimp only [Pt.U, Pt.locs, Pt.cells, Pt.slots] at X108 l108 y108 z108 st108 hQ108
            subst l108 y108 z108
            obtain ⟨rfl, N110, eh111⟩ := hQ108
            have N112 := Fr.app N0 N110
            refine Go.via st108 ?_
            show Go p e below Qo T108 (mkF m 87 #[.val (.int i1), .val (.int ((i1 &&& (2147483647 : Int32)) % (6 : Int32))), .val (.ref z_NEXT_WORD), .val (.int (0 : Int32)), .unset] [(.int (F1 (0 : Int32) (0 : Int32)))])
            refine Go.of (fun t k => XS.istore X108.here hx rfl (hb hby at_87) rfl (l' := #[.val (.int i1), .val (.int ((i1 &&& (2147483647 : Int32)) % (6 : Int32))), .val (.ref z_NEXT_WORD), .val (.int (0 : Int32)), .val (.int (F1 (0 : Int32) (0 : Int32)))]) rfl k) ?_
            show Go p e below Qo T108 (mkF m 89 #[.val (.int i1), .val (.int ((i1 &&& (2147483647 : Int32)) % (6 : Int32))), .val (.ref z_NEXT_WORD), .val (.int (0 : Int32)), .val (.int (F1 (0 : Int32) (0 : Int32)))] [])
            refine Go.of (fun t k => XS.aloadN X108.here hx rfl (hb hby at_89) rfl rfl k) ?_
            show Go p e below Qo T108 (mkF m 90 #[.val (.int i1), .val (.int ((i1 &&& (2147483647 : Int32)) % (6 : Int32))), .val (.ref z_NEXT_WORD), .val (.int (0 : Int32)), .val (.int (F1 (0 : Int32) (0 : Int32)))] [(.ref z_NEXT_WORD)])
            obtain ⟨ciq114, kiq114, iq114a, iq114b, iq114c⟩ := isOf hZ eh111 f9
            obtain ⟨_, _, ⟨T113, L113, k113, n113⟩, -, X113, ⟨Lc113, hQ113, l113, y113, z113⟩, st113⟩ := X108.virtualBack hx (y := (⟨"com/example/prompter/prompter/suggest/Ranking", "boostsFields", "()Z"⟩ : MethodName)) (z := (⟨"com/example/prompter/prompter/suggest/Ranking", "boostsFields", "()Z"⟩ : MethodName)) hown (mvT hZ (hw _ (List.mem_of_getElem? (i := 13) rfl))) (mvT hZ (hw _ (List.mem_of_getElem? (i := 14) rfl))) (notFace_of_selects (args := #[]) (mvT hZ (hw _ (List.mem_of_getElem? (i := 16) rfl)))) (mvT hZ (hw _ (List.mem_of_getElem? (i := 16) rfl))) (mvT hZ (hw _ (List.mem_of_getElem? (i := 15) rfl))) (by decide) (backOf (W := 0) (rm2 l Z a0 hw [] z_NEXT_WORD (0 : Int32) h0 n0 Z0 f21) hZ (hw _ (List.mem_of_getElem? (i := 17) rfl)) (hw _ (List.mem_of_getElem? (i := 2) rfl)) (by decide) (by decide)) iq114a iq114c (g := (mkF m 90 #[.val (.int i1), .val (.int ((i1 &&& (2147483647 : Int32)) % (6 : Int32))), .val (.ref z_NEXT_WORD), .val (.int (0 : Int32)), .val (.int (F1 (0 : Int32) (0 : Int32)))] [(.ref z_NEXT_WORD)])) rfl (by rw [hml]; rfl) (Steps.refl _) (argsL := []) (rest := []) (lenOf pd_0 rfl) rfl (by show 2 * 0 + _ ≤ _; exact Nat.le_of_eq rfl) (hb hby at_90) (fun _ _ => ⟨rfl, eh111, (by decide : 0 + 0 ≤ _), (by decide : 0 + 0 ≤ _)⟩)
            dsimp only [Pt.U, Pt.locs, Pt.cells, Pt.slots] at X113 l113 y113 z113 st113 hQ113
            subst l113 y113 z113
            obtain ⟨rfl, N115, eh116⟩ := hQ113
            have N117 := Fr.app N112 N115
            refine Go.via st113 ?_
            show Go p e below Qo T113 (mkF m 93 #[.val (.int i1), .val (.int ((i1 &&& (2147483647 : Int32)) % (6 : Int32))), .val (.ref z_NEXT_WORD), .val (.int (0 : Int32)), .val (.int (F1 (0 : Int32) (0 : Int32)))] [(.int (F2 (0 : Int32)))])
            by_cases hc93_118 : (F2 (0 : Int32)) = (0 : Int32)
            · refine Go.of (fun t k => XS.ifYes X113.here hx rfl (pc0 := 93) (pc' := 103) rfl (hb hby at_93) rfl ((if0 _ _).trans (teq hc93_118).1) (by decide) (by decide) k) ?_
              show Go p e below Qo T113 (mkF m 103 #[.val (.int i1), .val (.int ((i1 &&& (2147483647 : Int32)) % (6 : Int32))), .val (.ref z_NEXT_WORD), .val (.int (0 : Int32)), .val (.int (F1 (0 : Int32) (0 : Int32)))] [])
              refine Go.of (fun t k => XS.iload X113.here hx rfl (hb hby at_103) rfl  k) ?_
              show Go p e below Qo T113 (mkF m 105 #[.val (.int i1), .val (.int ((i1 &&& (2147483647 : Int32)) % (6 : Int32))), .val (.ref z_NEXT_WORD), .val (.int (0 : Int32)), .val (.int (F1 (0 : Int32) (0 : Int32)))] [(.int (F1 (0 : Int32) (0 : Int32)))])
              refine Go.of (fun t k => XS.iloadN X113.here hx rfl (hb hby at_105) rfl  k) ?_
              show Go p e below Qo T113 (mkF m 106 #[.val (.int i1), .val (.int ((i1 &&& (2147483647 : Int32)) % (6 : Int32))), .val (.ref z_NEXT_WORD), .val (.int (0 : Int32)), .val (.int (F1 (0 : Int32) (0 : Int32)))] [(.int (0 : Int32)), (.int (F1 (0 : Int32) (0 : Int32)))])
              have J106_121 : ∀ (v106_120 : Int32), v106_120 = (if (F1 (0 : Int32) (0 : Int32)) = (0 : Int32) then (1 : Int32) else (0 : Int32)) → Go p e below Qo T113 (mkF m 114 #[.val (.int i1), .val (.int ((i1 &&& (2147483647 : Int32)) % (6 : Int32))), .val (.ref z_NEXT_WORD), .val (.int (0 : Int32)), .val (.int (F1 (0 : Int32) (0 : Int32)))] [(.int v106_120)]) := by
                intro v106_120 hv106_120
                show Go p e below Qo T113 (mkF m 114 #[.val (.int i1), .val (.int ((i1 &&& (2147483647 : Int32)) % (6 : Int32))), .val (.ref z_NEXT_WORD), .val (.int (0 : Int32)), .val (.int (F1 (0 : Int32) (0 : Int32)))] [(.int v106_120)])
                have hfin : v106_120 = 1 := by
                  exact hv106_120.trans (by decide)
                exact own_retN X113 hx Bd.notSynchronized (t := .boolean) Bd.returns (by simp) (hb hby at_114) (fun u hu hF => hQo _ _ _ ⟨by rw [hfin]; rfl, N117⟩ (own_mono hF (by decide) (by decide)))
              by_cases hc106_122 : (F1 (0 : Int32) (0 : Int32)) = (0 : Int32)
              · refine Go.of (fun t k => XS.icmpNo X113.here hx rfl (hb hby at_106) rfl (teq hc106_122).2 k) ?_
                show Go p e below Qo T113 (mkF m 109 #[.val (.int i1), .val (.int ((i1 &&& (2147483647 : Int32)) % (6 : Int32))), .val (.ref z_NEXT_WORD), .val (.int (0 : Int32)), .val (.int (F1 (0 : Int32) (0 : Int32)))] [])
                refine Go.of (fun t k => XS.iconst X113.here hx rfl (hb hby at_109) k) ?_
                show Go p e below Qo T113 (mkF m 110 #[.val (.int i1), .val (.int ((i1 &&& (2147483647 : Int32)) % (6 : Int32))), .val (.ref z_NEXT_WORD), .val (.int (0 : Int32)), .val (.int (F1 (0 : Int32) (0 : Int32)))] [(.int (1 : Int32))])
                refine Go.of (fun t k => XS.goto X113.here hx rfl (pc0 := 110) (pc' := 114) rfl (hb hby at_110) (by decide) (by decide) k) ?_
                show Go p e below Qo T113 (mkF m 114 #[.val (.int i1), .val (.int ((i1 &&& (2147483647 : Int32)) % (6 : Int32))), .val (.ref z_NEXT_WORD), .val (.int (0 : Int32)), .val (.int (F1 (0 : Int32) (0 : Int32)))] [(.int (1 : Int32))])
                exact J106_121 _ (by first | rfl | (rw [if_pos hc106_122]) | (simp only [hc106_122, if_true, if_false]; done) | simp [hc106_122])
              · refine Go.of (fun t k => XS.icmpYes X113.here hx rfl (pc0 := 106) (pc' := 113) rfl (hb hby at_106) rfl (feq hc106_122).2 (by decide) (by decide) k) ?_
                show Go p e below Qo T113 (mkF m 113 #[.val (.int i1), .val (.int ((i1 &&& (2147483647 : Int32)) % (6 : Int32))), .val (.ref z_NEXT_WORD), .val (.int (0 : Int32)), .val (.int (F1 (0 : Int32) (0 : Int32)))] [])
                refine Go.of (fun t k => XS.iconst X113.here hx rfl (hb hby at_113) k) ?_
                show Go p e below Qo T113 (mkF m 114 #[.val (.int i1), .val (.int ((i1 &&& (2147483647 : Int32)) % (6 : Int32))), .val (.ref z_NEXT_WORD), .val (.int (0 : Int32)), .val (.int (F1 (0 : Int32) (0 : Int32)))] [(.int (0 : Int32))])
                exact J106_121 _ (by first | rfl | (rw [if_neg hc106_122]) | (simp only [hc106_122, if_true, if_false]; done) | simp [hc106_122])
            · refine Go.of (fun t k => XS.ifNo X113.here hx rfl (hb hby at_93) rfl ((if0 _ _).trans (feq hc93_118).1) k) ?_
              show Go p e below Qo T113 (mkF m 96 #[.val (.int i1), .val (.int ((i1 &&& (2147483647 : Int32)) % (6 : Int32))), .val (.ref z_NEXT_WORD), .val (.int (0 : Int32)), .val (.int (F1 (0 : Int32) (0 : Int32)))] [])
              refine Go.of (fun t k => XS.iload X113.here hx rfl (hb hby at_96) rfl  k) ?_
              show Go p e below Qo T113 (mkF m 98 #[.val (.int i1), .val (.int ((i1 &&& (2147483647 : Int32)) % (6 : Int32))), .val (.ref z_NEXT_WORD), .val (.int (0 : Int32)), .val (.int (F1 (0 : Int32) (0 : Int32)))] [(.int (F1 (0 : Int32) (0 : Int32)))])
              by_cases hc98_123 : (F1 (0 : Int32) (0 : Int32)) = (0 : Int32)
              · refine Go.of (fun t k => XS.ifNo X113.here hx rfl (hb hby at_98) rfl ((if0 _ _).trans (teq hc98_123).2) k) ?_
                show Go p e below Qo T113 (mkF m 101 #[.val (.int i1), .val (.int ((i1 &&& (2147483647 : Int32)) % (6 : Int32))), .val (.ref z_NEXT_WORD), .val (.int (0 : Int32)), .val (.int (F1 (0 : Int32) (0 : Int32)))] [])
                refine Go.of (fun t k => XS.iconst X113.here hx rfl (hb hby at_101) k) ?_
                show Go p e below Qo T113 (mkF m 102 #[.val (.int i1), .val (.int ((i1 &&& (2147483647 : Int32)) % (6 : Int32))), .val (.ref z_NEXT_WORD), .val (.int (0 : Int32)), .val (.int (F1 (0 : Int32) (0 : Int32)))] [(.int (0 : Int32))])
                exfalso
                revert hc93_118 hc98_123
                decide
              · refine Go.of (fun t k => XS.ifYes X113.here hx rfl (pc0 := 98) (pc' := 103) rfl (hb hby at_98) rfl ((if0 _ _).trans (feq hc98_123).2) (by decide) (by decide) k) ?_
                show Go p e below Qo T113 (mkF m 103 #[.val (.int i1), .val (.int ((i1 &&& (2147483647 : Int32)) % (6 : Int32))), .val (.ref z_NEXT_WORD), .val (.int (0 : Int32)), .val (.int (F1 (0 : Int32) (0 : Int32)))] [])
                refine Go.of (fun t k => XS.iload X113.here hx rfl (hb hby at_103) rfl  k) ?_
                show Go p e below Qo T113 (mkF m 105 #[.val (.int i1), .val (.int ((i1 &&& (2147483647 : Int32)) % (6 : Int32))), .val (.ref z_NEXT_WORD), .val (.int (0 : Int32)), .val (.int (F1 (0 : Int32) (0 : Int32)))] [(.int (F1 (0 : Int32) (0 : Int32)))])
                refine Go.of (fun t k => XS.iloadN X113.here hx rfl (hb hby at_105) rfl  k) ?_
                show Go p e below Qo T113 (mkF m 106 #[.val (.int i1), .val (.int ((i1 &&& (2147483647 : Int32)) % (6 : Int32))), .val (.ref z_NEXT_WORD), .val (.int (0 : Int32)), .val (.int (F1 (0 : Int32) (0 : Int32)))] [(.int (0 : Int32)), (.int (F1 (0 : Int32) (0 : Int32)))])
                refine Go.of (fun t k => XS.icmpYes X113.here hx rfl (pc0 := 106) (pc' := 113) rfl (hb hby at_106) rfl (feq hc98_123).2 (by decide) (by decide) k) ?_
                show Go p e below Qo T113 (mkF m 113 #[.val (.int i1), .val (.int ((i1 &&& (2147483647 : Int32)) % (6 : Int32))), .val (.ref z_NEXT_WORD), .val (.int (0 : Int32)), .val (.int (F1 (0 : Int32) (0 : Int32)))] [])
                refine Go.of (fun t k => XS.iconst X113.here hx rfl (hb hby at_113) k) ?_
                show Go p e below Qo T113 (mkF m 114 #[.val (.int i1), .val (.int ((i1 &&& (2147483647 : Int32)) % (6 : Int32))), .val (.ref z_NEXT_WORD), .val (.int (0 : Int32)), .val (.int (F1 (0 : Int32) (0 : Int32)))] [(.int (0 : Int32))])
                exfalso
                revert hc93_118 hc98_123
                decide
set_option maxRecDepth 65536 in
set_option maxHeartbeats 40000000 in
theorem comes_1 {Post : Tables → Env → Array Value → State → Outcome → State → Prop} (hpost : ∀ tb e args s v u, (limb_1_1.after args s (.returned v) u = true ∧ limb_1_2.after args s (.returned v) u = true ∧ True) → FrameEnd s (.returned v) u (Jvm.fieldLocs frame_1_writes args s ++ Jvm.arrayLocs frame_1_arrays args s ++ Jvm.staticLocs frame_1_statics s) 0 0 → Post tb e args s (.returned v) u) :
    ArmFor flags0 classFile x code maxLocals ret World_1 tables_1 room_1 Calls_1 rest_1 Pre_1 Post := by
  intro l hfl _ _ p e ha hc hk s m args below hf hA hF happ hP
  obtain ⟨hcalls, hrest, hpre⟩ := hP
  obtain ⟨-, -, -, hnamed, -, -, -, hat⟩ := (Spec.applies_iff hf).mp happ
  obtain ⟨hg, hn⟩ := and_e (Cond.before_iff.mp (show (Jvm.Cond.and given_1 narrow_1).before args s = true from hpre))
  obtain ⟨hg0, hgr0⟩ := and_e hg
  obtain ⟨w0, rfl⟩ : ∃ w0 : Value, args = #[w0] := by
    have hs : args.size = 1 := by simpa [Cond.value, given_1] using hg0
    obtain ⟨L⟩ := args
    match L, hs with
    | [w0], _ => exact ⟨w0, rfl⟩
  have hw := fun d (hd : d ∈ tables_1) => atoms_spec (ws := Jvm.Cond.code x code maxLocals ret :: tables_1) hat d (List.mem_cons_of_mem _ hd)
  have hfit : Fit s := fun {y c} hc i hi => by
    obtain ⟨ha, rfl⟩ := Array.getElem?_eq_some_iff.mp hc
    have q := List.all_eq_true.mp ((Array.all_eq_true_iff_forall_mem.mp hF) _ (Array.getElem_mem ha)) i (List.mem_range.mpr hi)
    simpa [Array.getElem?_eq_getElem hi] using q
  obtain ⟨i0, ei0⟩ := is_v hgr0
  obtain rfl : w0 = (.int i0) := Option.some.inj ei0
  obtain ⟨hs0, hr0⟩ := and_e hn
  obtain ⟨hs1, hr1⟩ := and_e hr0
  obtain ⟨hs2, hr2⟩ := and_e hr1
  obtain ⟨hs3, hr3⟩ := and_e hr2
  obtain ⟨hs4, hr4⟩ := and_e hr3
  obtain ⟨hs5, hr5⟩ := and_e hr4
  obtain ⟨hs6, hr6⟩ := and_e hr5
  obtain ⟨hs7, hr7⟩ := and_e hr6
  obtain ⟨hs8, hr8⟩ := and_e hr7
  obtain ⟨hs9, hr9⟩ := and_e hr8
  obtain ⟨hs10, hr10⟩ := and_e hr9
  obtain ⟨hs11, hr11⟩ := and_e hr10
  obtain ⟨hs12, hr12⟩ := and_e hr11
  obtain ⟨hs13, hr13⟩ := and_e hr12
  obtain ⟨hs14, hr14⟩ := and_e hr13
  obtain ⟨hs15, hr15⟩ := and_e hr14
  obtain ⟨hs16, hr16⟩ := and_e hr15
  obtain ⟨z_MOST_COMMON, ev_MOST_COMMON⟩ := exa_v hs0
  have S_MOST_COMMON : Sta s s.heap "com/example/prompter/prompter/suggest/Ranking" "MOST_COMMON" "Lcom/example/prompter/prompter/suggest/Ranking;" (.ref z_MOST_COMMON) := Sta.start ev_MOST_COMMON (Or.inr ⟨(hw _ (List.mem_of_getElem? (i := 2) rfl)), (hw _ (List.mem_of_getElem? (i := 3) rfl))⟩)
  have E_MOST_COMMON := Exa.start ev_MOST_COMMON hs0
  obtain ⟨z_LOG_DAMPENED, ev_LOG_DAMPENED⟩ := exa_v hs3
  have S_LOG_DAMPENED : Sta s s.heap "com/example/prompter/prompter/suggest/Ranking" "LOG_DAMPENED" "Lcom/example/prompter/prompter/suggest/Ranking;" (.ref z_LOG_DAMPENED) := Sta.start ev_LOG_DAMPENED (Or.inr ⟨(hw _ (List.mem_of_getElem? (i := 2) rfl)), (hw _ (List.mem_of_getElem? (i := 19) rfl))⟩)
  have E_LOG_DAMPENED := Exa.start ev_LOG_DAMPENED hs3
  obtain ⟨z_FACET_AWARE, ev_FACET_AWARE⟩ := exa_v hs6
  have S_FACET_AWARE : Sta s s.heap "com/example/prompter/prompter/suggest/Ranking" "FACET_AWARE" "Lcom/example/prompter/prompter/suggest/Ranking;" (.ref z_FACET_AWARE) := Sta.start ev_FACET_AWARE (Or.inr ⟨(hw _ (List.mem_of_getElem? (i := 2) rfl)), (hw _ (List.mem_of_getElem? (i := 21) rfl))⟩)
  have E_FACET_AWARE := Exa.start ev_FACET_AWARE hs6
  obtain ⟨z_EXPERIMENTAL, ev_EXPERIMENTAL⟩ := exa_v hs9
  have S_EXPERIMENTAL : Sta s s.heap "com/example/prompter/prompter/suggest/Ranking" "EXPERIMENTAL" "Lcom/example/prompter/prompter/suggest/Ranking;" (.ref z_EXPERIMENTAL) := Sta.start ev_EXPERIMENTAL (Or.inr ⟨(hw _ (List.mem_of_getElem? (i := 2) rfl)), (hw _ (List.mem_of_getElem? (i := 23) rfl))⟩)
  have E_EXPERIMENTAL := Exa.start ev_EXPERIMENTAL hs9
  obtain ⟨z_NEXT_WORD, ev_NEXT_WORD⟩ := exa_v hs12
  have S_NEXT_WORD : Sta s s.heap "com/example/prompter/prompter/suggest/Ranking" "NEXT_WORD" "Lcom/example/prompter/prompter/suggest/Ranking;" (.ref z_NEXT_WORD) := Sta.start ev_NEXT_WORD (Or.inr ⟨(hw _ (List.mem_of_getElem? (i := 2) rfl)), (hw _ (List.mem_of_getElem? (i := 25) rfl))⟩)
  have E_NEXT_WORD := Exa.start ev_NEXT_WORD hs12
  obtain ⟨z_SQRT_DAMPENED, ev_SQRT_DAMPENED⟩ := exa_v hs15
  have S_SQRT_DAMPENED : Sta s s.heap "com/example/prompter/prompter/suggest/Ranking" "SQRT_DAMPENED" "Lcom/example/prompter/prompter/suggest/Ranking;" (.ref z_SQRT_DAMPENED) := Sta.start ev_SQRT_DAMPENED (Or.inr ⟨(hw _ (List.mem_of_getElem? (i := 2) rfl)), (hw _ (List.mem_of_getElem? (i := 27) rfl))⟩)
  have E_SQRT_DAMPENED := Exa.start ev_SQRT_DAMPENED hs15
  have O_MOST_COMMON_spreads : Fld s s.heap z_MOST_COMMON "com/example/prompter/prompter/suggest/Ranking" "spreads" "Z" (.int (0 : Int32)) := Fld.start ((fld_at ev_MOST_COMMON).symm.trans (own_eqI hs1))
  have O_MOST_COMMON_boosts : Fld s s.heap z_MOST_COMMON "com/example/prompter/prompter/suggest/Ranking" "boosts" "Z" (.int (0 : Int32)) := Fld.start ((fld_at ev_MOST_COMMON).symm.trans (own_eqI hs2))
  have O_LOG_DAMPENED_spreads : Fld s s.heap z_LOG_DAMPENED "com/example/prompter/prompter/suggest/Ranking" "spreads" "Z" (.int (1 : Int32)) := Fld.start ((fld_at ev_LOG_DAMPENED).symm.trans (own_eqI hs4))
  have O_LOG_DAMPENED_boosts : Fld s s.heap z_LOG_DAMPENED "com/example/prompter/prompter/suggest/Ranking" "boosts" "Z" (.int (1 : Int32)) := Fld.start ((fld_at ev_LOG_DAMPENED).symm.trans (own_eqI hs5))
  have O_FACET_AWARE_spreads : Fld s s.heap z_FACET_AWARE "com/example/prompter/prompter/suggest/Ranking" "spreads" "Z" (.int (1 : Int32)) := Fld.start ((fld_at ev_FACET_AWARE).symm.trans (own_eqI hs7))
  have O_FACET_AWARE_boosts : Fld s s.heap z_FACET_AWARE "com/example/prompter/prompter/suggest/Ranking" "boosts" "Z" (.int (1 : Int32)) := Fld.start ((fld_at ev_FACET_AWARE).symm.trans (own_eqI hs8))
  have O_EXPERIMENTAL_spreads : Fld s s.heap z_EXPERIMENTAL "com/example/prompter/prompter/suggest/Ranking" "spreads" "Z" (.int (1 : Int32)) := Fld.start ((fld_at ev_EXPERIMENTAL).symm.trans (own_eqI hs10))
  have O_EXPERIMENTAL_boosts : Fld s s.heap z_EXPERIMENTAL "com/example/prompter/prompter/suggest/Ranking" "boosts" "Z" (.int (0 : Int32)) := Fld.start ((fld_at ev_EXPERIMENTAL).symm.trans (own_eqI hs11))
  have O_NEXT_WORD_spreads : Fld s s.heap z_NEXT_WORD "com/example/prompter/prompter/suggest/Ranking" "spreads" "Z" (.int (0 : Int32)) := Fld.start ((fld_at ev_NEXT_WORD).symm.trans (own_eqI hs13))
  have O_NEXT_WORD_boosts : Fld s s.heap z_NEXT_WORD "com/example/prompter/prompter/suggest/Ranking" "boosts" "Z" (.int (0 : Int32)) := Fld.start ((fld_at ev_NEXT_WORD).symm.trans (own_eqI hs14))
  have O_SQRT_DAMPENED_spreads : Fld s s.heap z_SQRT_DAMPENED "com/example/prompter/prompter/suggest/Ranking" "spreads" "Z" (.int (1 : Int32)) := Fld.start ((fld_at ev_SQRT_DAMPENED).symm.trans (own_eqI hs16))
  have O_SQRT_DAMPENED_boosts : Fld s s.heap z_SQRT_DAMPENED "com/example/prompter/prompter/suggest/Ranking" "boosts" "Z" (.int (1 : Int32)) := Fld.start ((fld_at ev_SQRT_DAMPENED).symm.trans (own_eqI hr16))
  obtain ⟨n, o, h1, h2, h3, _, L, rfl, ⟨rfl, N⟩, hq⟩ := rm0 l s _ hw tables_1 i0 z_MOST_COMMON z_LOG_DAMPENED z_FACET_AWARE z_EXPERIMENTAL z_NEXT_WORD z_SQRT_DAMPENED s.heap s.heap.size (Nat.le_refl _) S_MOST_COMMON E_MOST_COMMON S_LOG_DAMPENED E_LOG_DAMPENED S_FACET_AWARE E_FACET_AWARE S_EXPERIMENTAL E_EXPERIMENTAL S_NEXT_WORD E_NEXT_WORD S_SQRT_DAMPENED E_SQRT_DAMPENED O_MOST_COMMON_spreads O_MOST_COMMON_boosts O_LOG_DAMPENED_spreads O_LOG_DAMPENED_boosts O_FACET_AWARE_spreads O_FACET_AWARE_boosts O_EXPERIMENTAL_spreads O_EXPERIMENTAL_boosts O_NEXT_WORD_spreads O_NEXT_WORD_boosts O_SQRT_DAMPENED_spreads O_SQRT_DAMPENED_boosts p e ha hc hk s m _ below hf ((Spec.applies_iff_loose hf).mp happ).1 ⟨rfl, State.Warmed39.refl s, rfl⟩ trivial
  refine ⟨n, _, h1, h2, h3, hpost _ _ _ _ _ _ ⟨Cond.after_iff.mpr rfl, Cond.after_iff.mpr (eq_i res_at (Term.int_eval (1)) rfl), trivial⟩ ⟨hq.1, hq.2.1, (hq.2.2.sift fun y hy => Or.inr (N y hy)).mono (by decide) (by decide)⟩⟩
theorem main_1_1 : Claimed_1_1 := comes_1 fun _ _ _ _ _ _ h hF => ⟨h.1, hF⟩
theorem main_1_2 : Claimed_1_2 := comes_1 fun _ _ _ _ _ _ h hF => ⟨h.2.1, hF⟩
end Jvm.Pilot.@@N@@
namespace Jvm.Pilot.@@N@@
open Jvm Jvm.ClassFile Sem Op Lib Jvm.Free Jvm.Stand Jvm.Pilot.@@N@@.Jvm.D
/-! MADE BY PROGRAM (witnessworld.py) out of the Statement's table words and the real class files: 12 classes; the members and pool entries that the words name. The judged class is class 1, her method 1. -/
namespace start1
open Jvm.ClassFile
def u (s : String) : CpInfo := .utf8 (stringToUtf16 s)
/-- a pool by its gaps: so many unusable entries, then the entry; so many at the end -/
def gap : Nat → List CpInfo → List CpInfo
  | 0, r => r
  | n + 1, r => .unusable :: gap n r
def poolList (es : List (Nat × CpInfo)) (last : Nat) : List CpInfo := es.foldr (fun e r => gap e.1 (e.2 :: r)) (gap last [])
def pool (es : List (Nat × CpInfo)) (last : Nat) : Array CpInfo := ⟨poolList es last⟩
def fileOf (pool : Array CpInfo) (this : Nat) (attrs : Array Attribute := #[]) (ms : Array MethodInfo := #[]) (fl : Nat := 33) (sup : Nat := 0) (ifs : Array Nat := #[]) (fds : Array FieldInfo := #[]) : ClassFile where
  minorVersion := 0
  majorVersion := 65
  constantPool := pool
  accessFlags := fl
  thisClass := this
  superClass := sup
  interfaces := ifs
  fields := fds
  methods := ms
  attributes := attrs
def plain (name : String) (sup : Option ClassId) : Class where
  name := name
  kind := .ordinary
  loader := none
  accessFlags := 33
  super := sup
  interfaces := #[]
  cf := none
  fields := #[]
  methods := #[]
  instanceTypes := #[]
  staticTypes := #[]
  resolved := #[]
  callSites := []
  init := .initialized
  statics := none
  mirror := none

def pool0 : Array CpInfo := pool [(5, u "<init>"), (0, u "()V"), (1, .class_ 10), (1, u "java/lang/Object")] 113

def k0m0 : Method := { name := "<init>", desc := "()V", sig := { parameters := [], returnType := none }, accessFlags := 1, code := none }
/-- java/lang/Object -/
def k0 : Class := { plain "java/lang/Object" none with
  accessFlags := 33
  interfaces := #[]
  cf := some (fileOf pool0 8 #[] #[{ accessFlags := 1, nameIndex := 5, descriptorIndex := 6, attributes := #[] }] 33 0 #[] #[])
  fields := #[]
  methods := #[k0m0]
  instanceTypes := #[]
  staticTypes := #[]
  resolved := Array.replicate 124 none
  statics := none }

def pool1 : Array CpInfo := pool [(2, .class_ 4), (1, u "java/lang/Object"), (0, u "<init>"), (0, u "()V"), (0, .integer 2147483647), (0, .fieldref 9 10), (0, .class_ 11), (0, .nameAndType 12 13), (0, u "com/example/prompter/prompter/suggest/Ranking"), (0, u "MOST_COMMON"), (0, u "Lcom/example/prompter/prompter/suggest/Ranking;"), (0, .fieldref 9 15), (0, .nameAndType 16 13), (0, u "EXPERIMENTAL"), (0, .fieldref 9 18), (0, .nameAndType 19 13), (0, u "FACET_AWARE"), (0, .fieldref 9 21), (0, .nameAndType 22 13), (0, u "LOG_DAMPENED"), (0, .fieldref 9 24), (0, .nameAndType 25 13), (0, u "SQRT_DAMPENED"), (0, .fieldref 9 27), (0, .nameAndType 28 13), (0, u "NEXT_WORD"), (0, .methodref 9 30), (0, .nameAndType 31 32), (0, u "weighsFields"), (0, u "()Z"), (0, .methodref 9 34), (0, .nameAndType 35 32), (0, u "boostsFields"), (0, .class_ 37), (0, u "com/example/prompter/prompter/suggest/RankingWeighsFieldsPinLaw"), (2, u "law"), (0, u "(I)Z")] 3

def k1m0 : Method := { name := "<init>", desc := "()V", sig := { parameters := [], returnType := none }, accessFlags := 1, code := none }
def k1c1 : Code := { maxStack := 2, maxLocals := 5, code := code, exceptionTable := #[], attributes := #[] }
def k1m1 : Method := { name := "law", desc := "(I)Z", sig := { parameters := [.int], returnType := some .boolean }, accessFlags := 9, code := some k1c1 }
/-- com/example/prompter/prompter/suggest/RankingWeighsFieldsPinLaw -/
def k1 : Class := { plain "com/example/prompter/prompter/suggest/RankingWeighsFieldsPinLaw" (some 0) with
  accessFlags := 49
  interfaces := #[]
  cf := some (fileOf pool1 36 #[] #[{ accessFlags := 1, nameIndex := 5, descriptorIndex := 6, attributes := #[] }, { accessFlags := 9, nameIndex := 40, descriptorIndex := 41, attributes := #[] }] 49 2 #[] #[])
  fields := #[]
  methods := #[k1m0, k1m1]
  instanceTypes := #[]
  staticTypes := #[]
  resolved := Array.replicate 45 none
  statics := none }

def pool2 : Array CpInfo := pool [(1, .class_ 2), (0, u "java/lang/constant/Constable"), (0, .class_ 4), (0, u "java/lang/Object")] 6

/-- java/lang/constant/Constable -/
def k2 : Class := { plain "java/lang/constant/Constable" (some 0) with
  accessFlags := 1537
  interfaces := #[]
  cf := some (fileOf pool2 1 #[] #[] 1537 3 #[] #[])
  fields := #[]
  methods := #[]
  instanceTypes := #[]
  staticTypes := #[]
  resolved := Array.replicate 11 none
  statics := none }

def pool3 : Array CpInfo := pool [(1, .class_ 2), (0, u "java/lang/Comparable"), (0, .class_ 4), (0, u "java/lang/Object")] 7

/-- java/lang/Comparable -/
def k3 : Class := { plain "java/lang/Comparable" (some 0) with
  accessFlags := 1537
  interfaces := #[]
  cf := some (fileOf pool3 1 #[] #[] 1537 3 #[] #[])
  fields := #[]
  methods := #[]
  instanceTypes := #[]
  staticTypes := #[]
  resolved := Array.replicate 12 none
  statics := none }

def pool4 : Array CpInfo := pool [(1, .class_ 2), (0, u "java/io/Serializable"), (0, .class_ 4), (0, u "java/lang/Object")] 2

/-- java/io/Serializable -/
def k4 : Class := { plain "java/io/Serializable" (some 0) with
  accessFlags := 1537
  interfaces := #[]
  cf := some (fileOf pool4 1 #[] #[] 1537 3 #[] #[])
  fields := #[]
  methods := #[]
  instanceTypes := #[]
  staticTypes := #[]
  resolved := Array.replicate 7 none
  statics := none }

def pool5 : Array CpInfo := pool [(2, .class_ 4), (1, u "java/lang/Enum"), (0, u "name"), (0, u "Ljava/lang/String;"), (2, u "ordinal"), (0, u "I"), (1, .class_ 14), (1, u "java/lang/Object"), (4, u "hash"), (86, .class_ 108), (1, u "java/lang/Enum$EnumDesc"), (2, .class_ 112), (0, u "java/lang/constant/Constable"), (0, .class_ 114), (0, u "java/lang/Comparable"), (0, .class_ 116), (0, u "java/io/Serializable")] 87

/-- java/lang/Enum -/
def k5 : Class := { plain "java/lang/Enum" (some 0) with
  accessFlags := 1057
  interfaces := #[2, 3, 4]
  cf := some (fileOf pool5 2 #[.nestMembers #[106]] #[] 1057 12 #[111, 113, 115] #[{ accessFlags := 18, nameIndex := 5, descriptorIndex := 6, attributes := #[] }, { accessFlags := 18, nameIndex := 9, descriptorIndex := 10, attributes := #[] }, { accessFlags := 2, nameIndex := 19, descriptorIndex := 10, attributes := #[] }])
  fields := #[{ name := "name", type := (.object "java/lang/String"), accessFlags := 18, slot := 0, constantValue := 0 }, { name := "ordinal", type := .int, accessFlags := 18, slot := 1, constantValue := 0 }, { name := "hash", type := .int, accessFlags := 2, slot := 2, constantValue := 0 }]
  methods := #[]
  instanceTypes := #[(.object "java/lang/String"), .int, .int]
  staticTypes := #[]
  resolved := Array.replicate 204 none
  statics := none }

def pool6 : Array CpInfo := pool [(1, .class_ 2), (0, u "com/example/prompter/prompter/suggest/Ranking"), (2, u "MOST_COMMON"), (0, u "Lcom/example/prompter/prompter/suggest/Ranking;"), (2, u "EXPERIMENTAL"), (2, u "FACET_AWARE"), (2, u "LOG_DAMPENED"), (2, u "SQRT_DAMPENED"), (2, u "NEXT_WORD"), (2, u "$VALUES"), (0, u "[Lcom/example/prompter/prompter/suggest/Ranking;"), (6, .class_ 34), (1, u "java/lang/Enum"), (8, u "label"), (0, u "Ljava/lang/String;"), (0, .fieldref 1 46), (0, .nameAndType 47 48), (0, u "spreads"), (0, u "Z"), (2, u "heldByAll"), (0, u "Ljava/util/function/IntToDoubleFunction;"), (0, .fieldref 1 54), (0, .nameAndType 55 48), (0, u "boosts"), (2, u "follows"), (66, u "weighsFields"), (0, u "()Z"), (0, u "boostsFields")] 47

def k6c0 : Code := { maxStack := 1, maxLocals := 1, code := prog_27_method_6_code, exceptionTable := #[], attributes := #[] }
def k6m0 : Method := { name := "weighsFields", desc := "()Z", sig := { parameters := [], returnType := some .boolean }, accessFlags := 0, code := some k6c0 }
def k6c1 : Code := { maxStack := 1, maxLocals := 1, code := prog_27_method_7_code, exceptionTable := #[], attributes := #[] }
def k6m1 : Method := { name := "boostsFields", desc := "()Z", sig := { parameters := [], returnType := some .boolean }, accessFlags := 0, code := some k6c1 }
/-- com/example/prompter/prompter/suggest/Ranking -/
def k6 : Class := { plain "com/example/prompter/prompter/suggest/Ranking" (some 5) with
  accessFlags := 16433
  interfaces := #[]
  cf := some (fileOf pool6 1 #[] #[{ accessFlags := 0, nameIndex := 125, descriptorIndex := 126, attributes := #[] }, { accessFlags := 0, nameIndex := 127, descriptorIndex := 126, attributes := #[] }] 16433 32 #[] #[{ accessFlags := 16409, nameIndex := 5, descriptorIndex := 6, attributes := #[] }, { accessFlags := 16409, nameIndex := 9, descriptorIndex := 6, attributes := #[] }, { accessFlags := 16409, nameIndex := 12, descriptorIndex := 6, attributes := #[] }, { accessFlags := 16409, nameIndex := 15, descriptorIndex := 6, attributes := #[] }, { accessFlags := 16409, nameIndex := 18, descriptorIndex := 6, attributes := #[] }, { accessFlags := 16409, nameIndex := 21, descriptorIndex := 6, attributes := #[] }, { accessFlags := 18, nameIndex := 43, descriptorIndex := 44, attributes := #[] }, { accessFlags := 18, nameIndex := 47, descriptorIndex := 48, attributes := #[] }, { accessFlags := 18, nameIndex := 51, descriptorIndex := 52, attributes := #[] }, { accessFlags := 18, nameIndex := 55, descriptorIndex := 48, attributes := #[] }, { accessFlags := 18, nameIndex := 58, descriptorIndex := 48, attributes := #[] }, { accessFlags := 4122, nameIndex := 24, descriptorIndex := 25, attributes := #[] }])
  fields := #[{ name := "MOST_COMMON", type := (.object "com/example/prompter/prompter/suggest/Ranking"), accessFlags := 16409, slot := 0, constantValue := 0 }, { name := "EXPERIMENTAL", type := (.object "com/example/prompter/prompter/suggest/Ranking"), accessFlags := 16409, slot := 1, constantValue := 0 }, { name := "FACET_AWARE", type := (.object "com/example/prompter/prompter/suggest/Ranking"), accessFlags := 16409, slot := 2, constantValue := 0 }, { name := "LOG_DAMPENED", type := (.object "com/example/prompter/prompter/suggest/Ranking"), accessFlags := 16409, slot := 3, constantValue := 0 }, { name := "SQRT_DAMPENED", type := (.object "com/example/prompter/prompter/suggest/Ranking"), accessFlags := 16409, slot := 4, constantValue := 0 }, { name := "NEXT_WORD", type := (.object "com/example/prompter/prompter/suggest/Ranking"), accessFlags := 16409, slot := 5, constantValue := 0 }, { name := "label", type := (.object "java/lang/String"), accessFlags := 18, slot := 3, constantValue := 0 }, { name := "spreads", type := .boolean, accessFlags := 18, slot := 4, constantValue := 0 }, { name := "heldByAll", type := (.object "java/util/function/IntToDoubleFunction"), accessFlags := 18, slot := 5, constantValue := 0 }, { name := "boosts", type := .boolean, accessFlags := 18, slot := 6, constantValue := 0 }, { name := "follows", type := .boolean, accessFlags := 18, slot := 7, constantValue := 0 }, { name := "$VALUES", type := (.array (.object "com/example/prompter/prompter/suggest/Ranking")), accessFlags := 4122, slot := 6, constantValue := 0 }]
  methods := #[k6m0, k6m1]
  instanceTypes := #[(.object "java/lang/String"), .int, .int, (.object "java/lang/String"), .boolean, (.object "java/util/function/IntToDoubleFunction"), .boolean, .boolean]
  staticTypes := #[(.object "com/example/prompter/prompter/suggest/Ranking"), (.object "com/example/prompter/prompter/suggest/Ranking"), (.object "com/example/prompter/prompter/suggest/Ranking"), (.object "com/example/prompter/prompter/suggest/Ranking"), (.object "com/example/prompter/prompter/suggest/Ranking"), (.object "com/example/prompter/prompter/suggest/Ranking"), (.array (.object "com/example/prompter/prompter/suggest/Ranking"))]
  resolved := Array.replicate 175 none
  statics := some 0 }

def pool7 : Array CpInfo := pool [(1, u "java/lang/Cloneable"), (0, .class_ 1), (0, u "java/lang/Object"), (0, .class_ 3)] 3

/-- java/lang/Cloneable -/
def k7 : Class := { plain "java/lang/Cloneable" (some 0) with
  accessFlags := 1537
  interfaces := #[]
  cf := some (fileOf pool7 2 #[] #[] 1537 4 #[] #[])
  fields := #[]
  methods := #[]
  instanceTypes := #[]
  staticTypes := #[]
  resolved := Array.replicate 8 none
  statics := none }

/-- the primitive byte -/
def k8 : Class := { plain "byte" none with kind := .primitive 'B', accessFlags := 0x411 }
/-- [B -/
def k9 : Class := { plain "[B" (some 0) with kind := .array 8 .byte, interfaces := #[7, 4], accessFlags := 1041 }

/-- the primitive int -/
def k10 : Class := { plain "int" none with kind := .primitive 'I', accessFlags := 0x411 }
/-- [I -/
def k11 : Class := { plain "[I" (some 0) with kind := .array 10 .int, interfaces := #[7, 4], accessFlags := 1041 }

def heap : Heap := #[{ cls := 6, slots := #[.ref 1, .ref 2, .ref 3, .ref 4, .ref 5, .ref 6, .null], vm := .statics 6 },
  { cls := 6, slots := #[.null, .int 0, .int 0, .null, .int 0, .null, .int 0, .int 0], vm := .none },
  { cls := 6, slots := #[.null, .int 1, .int 0, .null, .int 1, .null, .int 0, .int 0], vm := .none },
  { cls := 6, slots := #[.null, .int 2, .int 0, .null, .int 1, .null, .int 1, .int 0], vm := .none },
  { cls := 6, slots := #[.null, .int 3, .int 0, .null, .int 1, .null, .int 1, .int 0], vm := .none },
  { cls := 6, slots := #[.null, .int 4, .int 0, .null, .int 1, .null, .int 1, .int 0], vm := .none },
  { cls := 6, slots := #[.null, .int 5, .int 0, .null, .int 0, .null, .int 0, .int 0], vm := .none }]
def classes : Array Class := #[k0, k1, k2, k3, k4, k5, k6, k7, k8, k9, k10, k11]
def interned : List (Array UInt16 × Addr) := []
def slotsUsed : Nat := 55
def theMethod : MethodId := ⟨1, 1⟩
def args0 : Array Value := #[.int 5]
def aboutOver (below : List Frame) : State where
  vm := { classes := classes, interned := interned.toArray }
  heap := heap
  slotsUsed := slotsUsed
  threads := #[{ frames := .invoking theMethod args0 :: below }]
def below0 : List Frame := [.native { method := ⟨0, 0⟩, args := #[] }]
def about1 : State := aboutOver below0
def p0 : Program := .bare "" "" ""
def e0 : Env := launch0.env 0 0 0
theorem w_frames : about1.frames = Frame.invoking theMethod args0 :: below0 := rfl
set_option maxRecDepth 65536 in
theorem w_args : argsFit about1.vm theMethod args0 = true := by decide +kernel
set_option maxRecDepth 65536 in
theorem w_heap : heapFits about1 = true := by decide +kernel
set_option maxRecDepth 65536 in
theorem w_runnable : about1.curStatus? = some .runnable := by decide +kernel
set_option maxRecDepth 65536 in
theorem w_alone : about1.alone = true := by decide +kernel
set_option maxRecDepth 65536 in
theorem w_named : about1.methodNamed? x = some theMethod := by decide +kernel
set_option maxRecDepth 65536 in
theorem w_hears : about1.hears theMethod below0 = true := by decide +kernel
set_option maxRecDepth 65536 in
theorem w_ripe : about1.ripe theMethod args0 below0 = true := by decide +kernel
theorem w_running : about1.status = .running := rfl
set_option maxRecDepth 65536 in
theorem w_room : about1.hasRoom e0.platform room_1 = true :=
  launch0.hasRoom_least _ room_1 (by decide +kernel) (by decide +kernel) (by decide +kernel) (by decide +kernel) (by decide +kernel) (by decide +kernel)
theorem allAtoms_all (ts : List Jvm.Cond) (a : Array Jvm.Value) (st : Jvm.State) : (allAtoms ts).before a st = ts.all (fun c => c.before a st) := by
  induction ts with
  | nil => rfl
  | cons c t ih =>
    show (Jvm.Cond.and c (allAtoms t)).before a st = _
    rw [Jvm.Cond.before_and, ih, List.all_cons]
def words1 : List Jvm.Cond := Jvm.Cond.code x code maxLocals ret :: tables_1
/-- a 'code' word, met by the world's own term for the bytes: nothing is compared byte by byte -/
theorem code_word {y : MethodName} {bytes : ByteArray} {mx : Nat} {rt : Option FieldType} {a : Array Value} {s : State} {m : MethodId} {meth : Method} {c : Code} (h1 : s.methodNamed? y = some m) (h2 : s.vm.method? m = some meth) (h3 : meth.code = some c) (h4 : c.code = bytes)
    (h5 : (c.maxLocals == mx && c.exceptionTable.isEmpty && decide (c.maxStack ≤ mostOperands) && decide (meth.sig.returnType = rt) && !meth.locks && decide (parseMethodDescriptor y.desc = some meth.sig)) = true) : (Jvm.Cond.code y bytes mx rt).before a s = true := by
  simp only [Bool.and_eq_true, beq_iff_eq, Bool.not_eq_true', decide_eq_true_eq] at h5
  obtain ⟨⟨⟨⟨⟨g1, g2⟩, g3⟩, g4⟩, g5⟩, g6⟩ := h5
  simp [Cond.before, Cond.holds, Cond.value, h1, h2, h3, h4, g1, g2, g3, g4, g5, g6]
def isCode : Jvm.Cond → Bool
  | .code _ _ _ _ => true
  | _ => false
theorem all_split {L : List Jvm.Cond} {P : Jvm.Cond → Bool} (h1 : L.all (fun c => isCode c || P c) = true) (h2 : ∀ c ∈ L.filter isCode, P c = true) : L.all P = true := by
  refine List.all_eq_true.mpr fun c hc => ?_
  have h := List.all_eq_true.mp h1 c hc
  rcases Bool.eq_false_or_eq_true (isCode c) with hi | hi
  · exact h2 c (List.mem_filter.mpr ⟨hc, hi⟩)
  · simpa [hi] using h
set_option maxRecDepth 65536 in
theorem w_c0 : (Jvm.Cond.code x code maxLocals ret).before args0 about1 = true := code_word (m := ⟨1, 1⟩) (meth := k1m1) (c := k1c1) (by decide +kernel) rfl rfl rfl (by decide +kernel)
set_option maxRecDepth 65536 in
theorem w_c1 : (Jvm.Cond.code ({ cls := "com/example/prompter/prompter/suggest/Ranking", name := "weighsFields", desc := "()Z" } : Jvm.MethodName) prog_27_method_6_code (1 : Nat) (Option.some Jvm.ClassFile.FieldType.boolean)).before args0 about1 = true := code_word (m := ⟨6, 0⟩) (meth := k6m0) (c := k6c0) (by decide +kernel) rfl rfl rfl (by decide +kernel)
set_option maxRecDepth 65536 in
theorem w_c2 : (Jvm.Cond.code ({ cls := "com/example/prompter/prompter/suggest/Ranking", name := "boostsFields", desc := "()Z" } : Jvm.MethodName) prog_27_method_7_code (1 : Nat) (Option.some Jvm.ClassFile.FieldType.boolean)).before args0 about1 = true := code_word (m := ⟨6, 1⟩) (meth := k6m1) (c := k6c1) (by decide +kernel) rfl rfl rfl (by decide +kernel)
def codes1 : List Jvm.Cond := [Jvm.Cond.code x code maxLocals ret, Jvm.Cond.code ({ cls := "com/example/prompter/prompter/suggest/Ranking", name := "weighsFields", desc := "()Z" } : Jvm.MethodName) prog_27_method_6_code (1 : Nat) (Option.some Jvm.ClassFile.FieldType.boolean), Jvm.Cond.code ({ cls := "com/example/prompter/prompter/suggest/Ranking", name := "boostsFields", desc := "()Z" } : Jvm.MethodName) prog_27_method_7_code (1 : Nat) (Option.some Jvm.ClassFile.FieldType.boolean)]
set_option maxRecDepth 65536 in
theorem codes_eq : words1.filter isCode = codes1 := rfl
theorem w_codes : ∀ c ∈ words1.filter isCode, c.before args0 about1 = true := by
  rw [codes_eq]
  intro c hc
  simp only [codes1, List.mem_cons, List.not_mem_nil, or_false] at hc
  rcases hc with rfl | rfl | rfl
  · exact w_c0
  · exact w_c1
  · exact w_c2
set_option maxRecDepth 65536 in
theorem w_t1 : (words1.take 24).all (fun c => isCode c || c.before args0 about1) = true := by decide +kernel
set_option maxRecDepth 65536 in
theorem w_t2 : (words1.drop 24).all (fun c => isCode c || c.before args0 about1) = true := by decide +kernel
theorem w_tables : (allAtoms (Jvm.Cond.code x code maxLocals ret :: tables_1)).before args0 about1 = true := by
  rw [allAtoms_all]
  show words1.all (fun c => c.before args0 about1) = true
  refine all_split ?_ w_codes
  rw [← List.take_append_drop 24 words1, List.all_append, w_t1, w_t2]
  rfl
set_option maxRecDepth 65536 in
theorem w_case : (Jvm.Cond.and given_1 narrow_1).before args0 about1 = true := by decide +kernel
theorem w_applies : (headSpec (Jvm.Cond.code x code maxLocals ret :: tables_1) room_1).applies x e0.platform about1 = true :=
  (Spec.applies_iff w_frames).mpr ⟨w_running, w_runnable, w_alone, w_named, w_hears, w_ripe, w_room, w_tables⟩
theorem atStart : AtStart classFile x code maxLocals ret World_1 tables_1 room_1 Calls_1 rest_1 Pre_1 launch0 p0 e0 about1 theMethod args0 below0 :=
  ⟨lists_1, trivial, launch0.admits_env _ _ _, launch0.least_env, fairChoices_fair.cas, fairChoices_fair.clock, w_frames, w_args, w_heap, w_applies, trivial, trivial, w_case⟩
end start1
theorem witness_1 : WitnessClaimed_1 := ⟨start1.p0, start1.e0, start1.about1, start1.theMethod, start1.args0, start1.below0, start1.atStart⟩
end Jvm.Pilot.@@N@@
