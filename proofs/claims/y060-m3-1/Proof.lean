import JvmDerived
import JvmDerived.Pilot.@@N@@Statement
import JvmDerived.Pilot.@@N@@Code
set_option linter.unusedVariables false
set_option linter.unusedSimpArgs false
namespace Jvm.Pilot.@@N@@
open Jvm Jvm.ClassFile Sem Op Lib Jvm.Free Jvm.Stand Jvm.LawKit Jvm.RoadKit Bundle Jvm.Pilot.@@N@@.Jvm.D
/-! the run comes to an end that answers Q -/
def Go (p : Program) (e : Env) (below : List Frame) (Q : Outcome → State → Prop) (T : State) (g : JFrame) : Prop :=
  ∃ s₂ o, Steps p.tables e below (T.setTop g) s₂ ∧ s₂.status = .running ∧ Ended s₂ below o ∧ Q o s₂
section Own
variable {p : Program} {l : Launch} {e : Env} {R : Room} {s : State} {m : MethodId} {args : Array Value} {below : List Frame} {meth : Method} {c : Code} {T T' : State} {locs : List Loc} {cells slots : Nat} {Q : Outcome → State → Prop} {g g' : JFrame}
theorem Go.of (k : ∀ t, Steps p.tables e below (T'.setTop g') t → Steps p.tables e below (T.setTop g) t) (h : Go p e below Q T' g') : Go p e below Q T g := by
  obtain ⟨u, o, h1, h2⟩ := h
  exact ⟨u, o, k _ h1, h2⟩
theorem Go.via (k : Steps p.tables e below (T.setTop g) (T'.setTop g')) (h : Go p e below Q T' g') : Go p e below Q T g := by
  obtain ⟨u, o, h1, h2⟩ := h
  exact ⟨u, o, k.trans h1, h2⟩
theorem Go.cast (q : g = g') (h : Go p e below Q T g') : Go p e below Q T g := q ▸ h
theorem own_out (X : Stand p l e R s m args below meth c T locs cells slots) {v : Option Value} (hv : meth.sig.returnType = none → v = none) (hlocks : meth.locks = false)
    (k : ∀ fs : List Frame, (∀ (f : JFrame) (acts : List Action), f.method = m → f.locked = none → f.entered = [] → (doReturn e (T.setTop f) acts v).1 = T.setFrames fs) → Steps p.tables e below (T.setTop g) (T.setFrames fs))
    (hQ : ∀ u : State, u.heap = T.heap → FrameEnd s (.returned v) u locs cells slots → Q (.returned v) u) : Go p e below Q T g := by
  obtain ⟨fs, hr, hrun, hended, hW, hsame⟩ := X.leave hv hlocks
  exact ⟨_, _, k fs hr, hrun, hended, hQ _ rfl ⟨⟨_, rfl⟩, hW, hsame⟩⟩
theorem own_retN (X : Stand p l e R s m args below meth c T locs cells slots) (hx : p.tables.exec = Jvm.exec) (hlocks : meth.locks = false) {pc : Nat} {Ls : Array Slot} {z : Int32} {t : FieldType} {rest : List Value} (hret : meth.sig.returnType = some t) (ht : t = .boolean ∨ t = .byte ∨ t = .char ∨ t = .short)
    (hd : decode c.code pc = .ok (.ireturn, 1)) (hQ : ∀ u : State, u.heap = T.heap → FrameEnd s (.returned (some (.int (nar t z)))) u locs cells slots → Q (.returned (some (.int (nar t z)))) u) : Go p e below Q T (mkF m pc Ls (.int z :: rest)) :=
  own_out X (fun h => by rw [hret] at h; cases h) hlocks (fun fs hr => retN X hx hret ht hd hr) hQ
theorem own_retW (X : Stand p l e R s m args below meth c T locs cells slots) (hx : p.tables.exec = Jvm.exec) (hlocks : meth.locks = false) {pc : Nat} {Ls : Array Slot} {w : Value} {t : FieldType} {i : Instr} {rest : List Value} (hret : meth.sig.returnType = some t) (hn : narrow t w = w)
    (hi : (i = .ireturn ∧ (t = .int ∨ t = .boolean ∨ t = .byte ∨ t = .char ∨ t = .short) ∧ ∃ z, w = .int z) ∨ (i = .lreturn ∧ t = .long ∧ ∃ z, w = .long z) ∨ (i = .dreturn ∧ t = .double ∧ ∃ z, w = .double z) ∨ (i = .freturn ∧ t = .float ∧ ∃ z, w = .float z) ∨ (i = .areturn ∧ t.isReference = true ∧ w.isRef = true))
    (hd : decode c.code pc = .ok (i, 1)) (hQ : ∀ u : State, u.heap = T.heap → FrameEnd s (.returned (some w)) u locs cells slots → Q (.returned (some w)) u) : Go p e below Q T (mkF m pc Ls (w :: rest)) :=
  own_out X (fun h => by rw [hret] at h; cases h) hlocks (fun fs hr => retOut X hx hret hn hi hd hr) hQ
theorem own_ret0 (X : Stand p l e R s m args below meth c T locs cells slots) (hx : p.tables.exec = Jvm.exec) (hlocks : meth.locks = false) {pc : Nat} {Ls : Array Slot} (hret : meth.sig.returnType = none)
    (hd : decode c.code pc = .ok (.return_, 1)) (hQ : ∀ u : State, u.heap = T.heap → FrameEnd s (.returned none) u locs cells slots → Q (.returned none) u) : Go p e below Q T (mkF m pc Ls []) :=
  own_out X (fun _ => rfl) hlocks (fun fs hr => X.returnOut hx hret hd hr) hQ
theorem own_mono {o : Outcome} {u : State} {k n k' n' : Nat} (h : FrameEnd s o u locs k n) (hk : k ≤ k') (hn : n ≤ n') : FrameEnd s o u locs k' n' := ⟨h.1, h.2.1, h.2.2.mono hk hn⟩
end Own
theorem own_eqI {args : Array Value} {s : State} {t : Term} {k : Int32} (h : (Cond.eq t (.int k)).value args s none s [] = some true) : t.eval args s none [] s = some (.int k) := by
  simp only [Cond.value, Term.eval] at h
  cases ht : t.eval args s none [] s with
  | none => simp [ht] at h
  | some x => cases x <;> simp [ht] at h ⊢; exact h
theorem own_staKeep {Z : State} {h h' : Heap} {C n d : String} {v : Value} {ws : List Addr} (F : Sta Z h C n d v) (K : Keep h h' ws) (q : ∀ x ∈ ws, ∀ cell : Cell, h[x]? = some cell → cell.vm.isStatics = false) : Sta Z h' C n d v := by
  obtain ⟨cf, i, k, f, st, cell, h1, h2, h3, h4, h5, h6, h7⟩ := F
  have hn : st ∉ ws := fun y => by have := q st y cell h5; rw [this] at h6; cases h6
  exact ⟨cf, i, k, f, st, cell, h1, h2, h3, h4, K.2.1 st cell h5 hn, h6, h7⟩
theorem own_plainE {Z : State} {h : Heap} {a : Addr} {C : String} (F : Exa Z h a C) : ∀ cell : Cell, h[a]? = some cell → cell.vm.isStatics = false := fun cell hc => by
  obtain ⟨c, _, h1, -, -, h4, -⟩ := F
  cases h1.symm.trans hc; exact h4
theorem own_plainV {Z : State} {h : Heap} {a : Addr} {k : ClassId} {ty : FieldType} {n : Int32} {vs : List Value} {d : Value} (F : Arv Z h a k ty n vs d) : ∀ cell : Cell, h[a]? = some cell → cell.vm.isStatics = false := fun cell hc => by
  obtain ⟨c, A, -⟩ := F
  cases A.1.symm.trans hc; exact A.plain
theorem d8_0 : decode jdk_30_method_1_code 0 = .ok (.aload_n 0, 1) := by decide +kernel
theorem d8_1 : decode jdk_30_method_1_code 1 = .ok (.invokespecial 1, 3) := by decide +kernel
theorem d8_4 : decode jdk_30_method_1_code 4 = .ok (.return_, 1) := by decide +kernel
theorem pn_0 : plainName "java/lang/Record" = true := by first | (simp [plainName, overriddenIn]; done) | decide +kernel
theorem ef_8 (m : MethodId) (r1 : Addr)  : entryFrame m #[(.ref r1)] 1 = mkF m 0 #[.val (.ref r1)] [] := by
  first | (simp [entryFrame, mkF, argsToLocals, Value.category]; done) | rfl
def Q8 (Z : State) (r1 : Addr) (h0 : Heap) (n0 : Nat) (v : Option Value) (h : Heap) (L : List Loc) : Prop := v = none ∧ Fr n0 L ∧ h = h0
set_option maxRecDepth 65536 in
set_option maxHeartbeats 40000000 in
theorem rm8 (l : Launch) (Z : State) (a0 : Array Value) (hw : ∀ d ∈ tables_1, d.before a0 Z = true) (ws : List Jvm.Cond) (r1 : Addr) (h0 : Heap) (n0 : Nat) (Z0 : n0 ≤ h0.size)  :
    MetFree l (⟨"java/lang/Record", "<init>", "()V"⟩ : MethodName) (head1 (Jvm.Cond.code (⟨"java/lang/Record", "<init>", "()V"⟩ : MethodName) jdk_30_method_1_code 1 none :: ws) ({ frames := 1, cells := 0, slots := 0, locals := 12 } : Room)) (fun a U => a = #[(.ref r1)] ∧ Z.Warmed39 U.vm ∧ U.heap = h0) (fun _ _ _ _ _ => True) (fun _ U o U' => ∃ v L, o = .returned v ∧ Q8 Z r1 h0 n0 v U'.heap L ∧ FrameEnd U o U' L ({ frames := 1, cells := 0, slots := 0, locals := 12 } : Room).cells ({ frames := 1, cells := 0, slots := 0, locals := 12 } : Room).slots) := by
  refine MetFree.of_bodySF (plainFor_of_name pn_0) hisR ?_
  intro p e s m args below meth c s₁ Bd hml0 hP hK
  obtain ⟨rfl, hZ, hh⟩ := hP
  have hx := Bd.exec
  have hby := Bd.bytes
  have hml : c.maxLocals = 1 := hml0
  have hown : s.vm.findClass "java/lang/Record" = some m.cls := findClass_of_methodNamed Bd.named
  have hnm := (name_of_methodNamed Bd.named Bd.method).1
  have X0 : Stand p l e ({ frames := 1, cells := 0, slots := 0, locals := 12 } : Room) s m #[(.ref r1)] below meth c s₁ [] 0 0 := Stand.of_body Bd
  have e0 : s₁.heap = h0 := by rw [← hh, Bd.state]; rfl
  have N0 := Fr.nil n0
  suffices H : ∀ Qo : Outcome → State → Prop, (∀ (v : Option Value) (u : State) (L : List Loc), Q8 Z r1 h0 n0 v u.heap L → FrameEnd s (.returned v) u L ({ frames := 1, cells := 0, slots := 0, locals := 12 } : Room).cells ({ frames := 1, cells := 0, slots := 0, locals := 12 } : Room).slots → Qo (.returned v) u) → Go p e below Qo s₁ (mkF m 0 #[.val (.ref r1)] []) from
    Go.cast (ef_8 m r1) (H _ fun v u L h1 h2 => ⟨v, L, rfl, h1, h2⟩)
  intro Qo hQo
  show Go p e below Qo s₁ (mkF m 0 #[.val (.ref r1)] [])
  refine Go.of (fun t k => XS.aloadN X0.here hx rfl (hb hby d8_0) rfl rfl k) ?_
  show Go p e below Qo s₁ (mkF m 1 #[.val (.ref r1)] [(.ref r1)])
  obtain ⟨T1, X1, e1, st1⟩ := initO X0 hx hZ hown (hw _ (List.mem_of_getElem? (i := 46) rfl)) (hw _ (List.mem_of_getElem? (i := 29) rfl)) (hw _ (List.mem_of_getElem? (i := 30) rfl)) e0 (g := (mkF m 1 #[.val (.ref r1)] [(.ref r1)])) rfl (by rw [hml]; rfl) rfl (hb hby d8_1) (by decide) (W := 0) (by show 2 * 0 + _ ≤ _; exact Nat.le_of_eq rfl) (by decide)
  refine Go.of st1 ?_
  show Go p e below Qo T1 (mkF m 4 #[.val (.ref r1)] [])
  exact own_ret0 X1 hx Bd.notSynchronized Bd.returns (hb hby d8_4) (fun u hu hF => hQo _ _ _ ⟨rfl, N0, by rw [hu, e1]⟩ (own_mono hF (by decide) (by decide)))
theorem d1_0 : decode method_2_code 0 = .ok (.iload_n 0, 1) := by decide +kernel
theorem d1_1 : decode method_2_code 1 = .ok (.ifCond .ne 7, 3) := by decide +kernel
theorem d1_4 : decode method_2_code 4 = .ok (.getstatic 7, 3) := by decide +kernel
theorem d1_7 : decode method_2_code 7 = .ok (.areturn, 1) := by decide +kernel
theorem d1_8 : decode method_2_code 8 = .ok (.iload_n 0, 1) := by decide +kernel
theorem d1_9 : decode method_2_code 9 = .ok (.iconst 1, 1) := by decide +kernel
theorem d1_10 : decode method_2_code 10 = .ok (.if_icmp .ne 7, 3) := by decide +kernel
theorem d1_13 : decode method_2_code 13 = .ok (.getstatic 13, 3) := by decide +kernel
theorem d1_16 : decode method_2_code 16 = .ok (.areturn, 1) := by decide +kernel
theorem d1_17 : decode method_2_code 17 = .ok (.iload_n 0, 1) := by decide +kernel
theorem d1_18 : decode method_2_code 18 = .ok (.iconst 2, 1) := by decide +kernel
theorem d1_19 : decode method_2_code 19 = .ok (.if_icmp .ne 7, 3) := by decide +kernel
theorem d1_22 : decode method_2_code 22 = .ok (.getstatic 16, 3) := by decide +kernel
theorem d1_25 : decode method_2_code 25 = .ok (.areturn, 1) := by decide +kernel
theorem d1_26 : decode method_2_code 26 = .ok (.getstatic 19, 3) := by decide +kernel
theorem d1_29 : decode method_2_code 29 = .ok (.areturn, 1) := by decide +kernel
theorem pn_1 : plainName "com/example/werktag/werktag/PersonWorkerPinLaw" = true := by first | (simp [plainName, overriddenIn]; done) | decide +kernel
theorem ef_1 (m : MethodId) (i1 : Int32)  : entryFrame m #[(.int i1)] 1 = mkF m 0 #[.val (.int i1)] [] := by
  first | (simp [entryFrame, mkF, argsToLocals, Value.category]; done) | rfl
def F1 (i1 : Int32) (z_STUDENT : Addr) (z_NONE : Addr) (z_APPRENTICE : Addr) (z_PUPIL : Addr) : Addr := (if i1 = (0 : Int32) then z_NONE else (if i1 = (1 : Int32) then z_PUPIL else (if i1 = (2 : Int32) then z_STUDENT else z_APPRENTICE)))
def Q1 (Z : State) (i1 : Int32) (z_STUDENT : Addr) (z_NONE : Addr) (z_APPRENTICE : Addr) (z_PUPIL : Addr) (h0 : Heap) (n0 : Nat) (v : Option Value) (h : Heap) (L : List Loc) : Prop := v = some (.ref (F1 i1 z_STUDENT z_NONE z_APPRENTICE z_PUPIL)) ∧ Fr n0 L ∧ h = h0
set_option maxRecDepth 65536 in
set_option maxHeartbeats 40000000 in
theorem rm1 (l : Launch) (Z : State) (a0 : Array Value) (hw : ∀ d ∈ tables_1, d.before a0 Z = true) (ws : List Jvm.Cond) (i1 : Int32) (z_STUDENT : Addr) (z_NONE : Addr) (z_APPRENTICE : Addr) (z_PUPIL : Addr) (h0 : Heap) (n0 : Nat) (Z0 : n0 ≤ h0.size) (f0 : Sta Z h0 "com/example/werktag/werktag/Education" "STUDENT" "Lcom/example/werktag/werktag/Education;" (.ref z_STUDENT)) (f1 : Sta Z h0 "com/example/werktag/werktag/Education" "NONE" "Lcom/example/werktag/werktag/Education;" (.ref z_NONE)) (f2 : Sta Z h0 "com/example/werktag/werktag/Education" "APPRENTICE" "Lcom/example/werktag/werktag/Education;" (.ref z_APPRENTICE)) (f3 : Sta Z h0 "com/example/werktag/werktag/Education" "PUPIL" "Lcom/example/werktag/werktag/Education;" (.ref z_PUPIL)) :
    MetFree l (⟨"com/example/werktag/werktag/PersonWorkerPinLaw", "pick", "(I)Lcom/example/werktag/werktag/Education;"⟩ : MethodName) (head1 (Jvm.Cond.code (⟨"com/example/werktag/werktag/PersonWorkerPinLaw", "pick", "(I)Lcom/example/werktag/werktag/Education;"⟩ : MethodName) method_2_code 1 (some (.object "com/example/werktag/werktag/Education")) :: ws) ({ frames := 0, cells := 0, slots := 0, locals := 0 } : Room)) (fun a U => a = #[(.int i1)] ∧ Z.Warmed39 U.vm ∧ U.heap = h0) (fun _ _ _ _ _ => True) (fun _ U o U' => ∃ v L, o = .returned v ∧ Q1 Z i1 z_STUDENT z_NONE z_APPRENTICE z_PUPIL h0 n0 v U'.heap L ∧ FrameEnd U o U' L ({ frames := 0, cells := 0, slots := 0, locals := 0 } : Room).cells ({ frames := 0, cells := 0, slots := 0, locals := 0 } : Room).slots) := by
  refine MetFree.of_bodySF (plainFor_of_name pn_1) hisR ?_
  intro p e s m args below meth c s₁ Bd hml0 hP hK
  obtain ⟨rfl, hZ, hh⟩ := hP
  have hx := Bd.exec
  have hby := Bd.bytes
  have hml : c.maxLocals = 1 := hml0
  have hown : s.vm.findClass "com/example/werktag/werktag/PersonWorkerPinLaw" = some m.cls := findClass_of_methodNamed Bd.named
  have hnm := (name_of_methodNamed Bd.named Bd.method).1
  have X0 : Stand p l e ({ frames := 0, cells := 0, slots := 0, locals := 0 } : Room) s m #[(.int i1)] below meth c s₁ [] 0 0 := Stand.of_body Bd
  have e0 : s₁.heap = h0 := by rw [← hh, Bd.state]; rfl
  have N0 := Fr.nil n0
  suffices H : ∀ Qo : Outcome → State → Prop, (∀ (v : Option Value) (u : State) (L : List Loc), Q1 Z i1 z_STUDENT z_NONE z_APPRENTICE z_PUPIL h0 n0 v u.heap L → FrameEnd s (.returned v) u L ({ frames := 0, cells := 0, slots := 0, locals := 0 } : Room).cells ({ frames := 0, cells := 0, slots := 0, locals := 0 } : Room).slots → Qo (.returned v) u) → Go p e below Qo s₁ (mkF m 0 #[.val (.int i1)] []) from
    Go.cast (ef_1 m i1) (H _ fun v u L h1 h2 => ⟨v, L, rfl, h1, h2⟩)
  intro Qo hQo
  show Go p e below Qo s₁ (mkF m 0 #[.val (.int i1)] [])
  refine Go.of (fun t k => XS.iloadN X0.here hx rfl (hb hby d1_0) rfl  k) ?_
  show Go p e below Qo s₁ (mkF m 1 #[.val (.int i1)] [(.int i1)])
  by_cases hc1_1 : i1 = (0 : Int32)
  · refine Go.of (fun t k => XS.ifNo X0.here hx rfl (hb hby d1_1) rfl ((if0 _ _).trans (teq hc1_1).2) k) ?_
    show Go p e below Qo s₁ (mkF m 4 #[.val (.int i1)] [])
    obtain ⟨T2, X2, e2, st2⟩ := getS X0 hx hZ (host := "") hown (hw _ (List.mem_of_getElem? (i := 70) rfl)) Via.refl e0 f1 (g := (mkF m 4 #[.val (.int i1)] [])) rfl (hb hby d1_4)
    refine Go.of st2 ?_
    show Go p e below Qo T2 (mkF m 7 #[.val (.int i1)] [(.ref z_NONE)])
    exact own_retW X2 hx Bd.notSynchronized Bd.returns rfl (Or.inr (Or.inr (Or.inr (Or.inr ⟨rfl, rfl, rfl⟩)))) (hb hby d1_7) (fun u hu hF => hQo _ _ _ ⟨by rw [show (F1 i1 z_STUDENT z_NONE z_APPRENTICE z_PUPIL) = z_NONE from by rw [F1, if_pos hc1_1]], N0, by rw [hu, e2]⟩ (own_mono hF (by decide) (by decide)))
  · refine Go.of (fun t k => XS.ifYes X0.here hx rfl (pc0 := 1) (pc' := 8) rfl (hb hby d1_1) rfl ((if0 _ _).trans (feq hc1_1).2) (by decide) (by decide) k) ?_
    show Go p e below Qo s₁ (mkF m 8 #[.val (.int i1)] [])
    refine Go.of (fun t k => XS.iloadN X0.here hx rfl (hb hby d1_8) rfl  k) ?_
    show Go p e below Qo s₁ (mkF m 9 #[.val (.int i1)] [(.int i1)])
    refine Go.of (fun t k => XS.iconst X0.here hx rfl (hb hby d1_9) k) ?_
    show Go p e below Qo s₁ (mkF m 10 #[.val (.int i1)] [(.int (1 : Int32)), (.int i1)])
    by_cases hc10_3 : i1 = (1 : Int32)
    · refine Go.of (fun t k => XS.icmpNo X0.here hx rfl (hb hby d1_10) rfl (teq hc10_3).2 k) ?_
      show Go p e below Qo s₁ (mkF m 13 #[.val (.int i1)] [])
      obtain ⟨T4, X4, e4, st4⟩ := getS X0 hx hZ (host := "") hown (hw _ (List.mem_of_getElem? (i := 74) rfl)) Via.refl e0 f3 (g := (mkF m 13 #[.val (.int i1)] [])) rfl (hb hby d1_13)
      refine Go.of st4 ?_
      show Go p e below Qo T4 (mkF m 16 #[.val (.int i1)] [(.ref z_PUPIL)])
      exact own_retW X4 hx Bd.notSynchronized Bd.returns rfl (Or.inr (Or.inr (Or.inr (Or.inr ⟨rfl, rfl, rfl⟩)))) (hb hby d1_16) (fun u hu hF => hQo _ _ _ ⟨by rw [show (F1 i1 z_STUDENT z_NONE z_APPRENTICE z_PUPIL) = z_PUPIL from by rw [F1, if_neg hc1_1, if_pos hc10_3]], N0, by rw [hu, e4]⟩ (own_mono hF (by decide) (by decide)))
    · refine Go.of (fun t k => XS.icmpYes X0.here hx rfl (pc0 := 10) (pc' := 17) rfl (hb hby d1_10) rfl (feq hc10_3).2 (by decide) (by decide) k) ?_
      show Go p e below Qo s₁ (mkF m 17 #[.val (.int i1)] [])
      refine Go.of (fun t k => XS.iloadN X0.here hx rfl (hb hby d1_17) rfl  k) ?_
      show Go p e below Qo s₁ (mkF m 18 #[.val (.int i1)] [(.int i1)])
      refine Go.of (fun t k => XS.iconst X0.here hx rfl (hb hby d1_18) k) ?_
      show Go p e below Qo s₁ (mkF m 19 #[.val (.int i1)] [(.int (2 : Int32)), (.int i1)])
      by_cases hc19_5 : i1 = (2 : Int32)
      · refine Go.of (fun t k => XS.icmpNo X0.here hx rfl (hb hby d1_19) rfl (teq hc19_5).2 k) ?_
        show Go p e below Qo s₁ (mkF m 22 #[.val (.int i1)] [])
        obtain ⟨T6, X6, e6, st6⟩ := getS X0 hx hZ (host := "") hown (hw _ (List.mem_of_getElem? (i := 6) rfl)) Via.refl e0 f0 (g := (mkF m 22 #[.val (.int i1)] [])) rfl (hb hby d1_22)
        refine Go.of st6 ?_
        show Go p e below Qo T6 (mkF m 25 #[.val (.int i1)] [(.ref z_STUDENT)])
        exact own_retW X6 hx Bd.notSynchronized Bd.returns rfl (Or.inr (Or.inr (Or.inr (Or.inr ⟨rfl, rfl, rfl⟩)))) (hb hby d1_25) (fun u hu hF => hQo _ _ _ ⟨by rw [show (F1 i1 z_STUDENT z_NONE z_APPRENTICE z_PUPIL) = z_STUDENT from by rw [F1, if_neg hc1_1, if_neg hc10_3, if_pos hc19_5]], N0, by rw [hu, e6]⟩ (own_mono hF (by decide) (by decide)))
      · refine Go.of (fun t k => XS.icmpYes X0.here hx rfl (pc0 := 19) (pc' := 26) rfl (hb hby d1_19) rfl (feq hc19_5).2 (by decide) (by decide) k) ?_
        show Go p e below Qo s₁ (mkF m 26 #[.val (.int i1)] [])
        obtain ⟨T7, X7, e7, st7⟩ := getS X0 hx hZ (host := "") hown (hw _ (List.mem_of_getElem? (i := 72) rfl)) Via.refl e0 f2 (g := (mkF m 26 #[.val (.int i1)] [])) rfl (hb hby d1_26)
        refine Go.of st7 ?_
        show Go p e below Qo T7 (mkF m 29 #[.val (.int i1)] [(.ref z_APPRENTICE)])
        exact own_retW X7 hx Bd.notSynchronized Bd.returns rfl (Or.inr (Or.inr (Or.inr (Or.inr ⟨rfl, rfl, rfl⟩)))) (hb hby d1_29) (fun u hu hF => hQo _ _ _ ⟨by rw [show (F1 i1 z_STUDENT z_NONE z_APPRENTICE z_PUPIL) = z_APPRENTICE from by rw [F1, if_neg hc1_1, if_neg hc10_3, if_neg hc19_5]], N0, by rw [hu, e7]⟩ (own_mono hF (by decide) (by decide)))
theorem d3_0 : decode jdk_43_method_3_code 0 = .ok (.iload_n 0, 1) := by decide +kernel
theorem d3_1 : decode jdk_43_method_3_code 1 = .ok (.sipush 255, 3) := by decide +kernel
theorem d3_4 : decode jdk_43_method_3_code 4 = .ok (.if_icmp .gt 7, 3) := by decide +kernel
theorem d3_7 : decode jdk_43_method_3_code 7 = .ok (.iconst 1, 1) := by decide +kernel
theorem d3_8 : decode jdk_43_method_3_code 8 = .ok (.goto 4, 3) := by decide +kernel
theorem d3_11 : decode jdk_43_method_3_code 11 = .ok (.iconst 0, 1) := by decide +kernel
theorem d3_12 : decode jdk_43_method_3_code 12 = .ok (.ireturn, 1) := by decide +kernel
theorem pn_2 : plainName "java/lang/StringLatin1" = true := by first | (simp [plainName, overriddenIn]; done) | decide +kernel
theorem ef_3 (m : MethodId) (i1 : Int32)  : entryFrame m #[(.int i1)] 1 = mkF m 0 #[.val (.int i1)] [] := by
  first | (simp [entryFrame, mkF, argsToLocals, Value.category]; done) | rfl
def F3 (i1 : Int32) : Int32 := (if (255 : Int32) < i1 then (nar .boolean (0 : Int32)) else (nar .boolean (1 : Int32)))
def Q3 (Z : State) (i1 : Int32) (h0 : Heap) (n0 : Nat) (v : Option Value) (h : Heap) (L : List Loc) : Prop := v = some (.int (F3 i1)) ∧ Fr n0 L ∧ h = h0
set_option maxRecDepth 65536 in
set_option maxHeartbeats 40000000 in
theorem rm3 (l : Launch) (Z : State) (a0 : Array Value) (hw : ∀ d ∈ tables_1, d.before a0 Z = true) (ws : List Jvm.Cond) (i1 : Int32) (h0 : Heap) (n0 : Nat) (Z0 : n0 ≤ h0.size)  :
    MetFree l (⟨"java/lang/StringLatin1", "canEncode", "(C)Z"⟩ : MethodName) (head1 (Jvm.Cond.code (⟨"java/lang/StringLatin1", "canEncode", "(C)Z"⟩ : MethodName) jdk_43_method_3_code 1 (some .boolean) :: ws) ({ frames := 0, cells := 0, slots := 0, locals := 0 } : Room)) (fun a U => a = #[(.int i1)] ∧ Z.Warmed39 U.vm ∧ U.heap = h0) (fun _ _ _ _ _ => True) (fun _ U o U' => ∃ v L, o = .returned v ∧ Q3 Z i1 h0 n0 v U'.heap L ∧ FrameEnd U o U' L ({ frames := 0, cells := 0, slots := 0, locals := 0 } : Room).cells ({ frames := 0, cells := 0, slots := 0, locals := 0 } : Room).slots) := by
  refine MetFree.of_bodySF (plainFor_of_name pn_2) hisR ?_
  intro p e s m args below meth c s₁ Bd hml0 hP hK
  obtain ⟨rfl, hZ, hh⟩ := hP
  have hx := Bd.exec
  have hby := Bd.bytes
  have hml : c.maxLocals = 1 := hml0
  have hown : s.vm.findClass "java/lang/StringLatin1" = some m.cls := findClass_of_methodNamed Bd.named
  have hnm := (name_of_methodNamed Bd.named Bd.method).1
  have X0 : Stand p l e ({ frames := 0, cells := 0, slots := 0, locals := 0 } : Room) s m #[(.int i1)] below meth c s₁ [] 0 0 := Stand.of_body Bd
  have e0 : s₁.heap = h0 := by rw [← hh, Bd.state]; rfl
  have N0 := Fr.nil n0
  suffices H : ∀ Qo : Outcome → State → Prop, (∀ (v : Option Value) (u : State) (L : List Loc), Q3 Z i1 h0 n0 v u.heap L → FrameEnd s (.returned v) u L ({ frames := 0, cells := 0, slots := 0, locals := 0 } : Room).cells ({ frames := 0, cells := 0, slots := 0, locals := 0 } : Room).slots → Qo (.returned v) u) → Go p e below Qo s₁ (mkF m 0 #[.val (.int i1)] []) from
    Go.cast (ef_3 m i1) (H _ fun v u L h1 h2 => ⟨v, L, rfl, h1, h2⟩)
  intro Qo hQo
  show Go p e below Qo s₁ (mkF m 0 #[.val (.int i1)] [])
  refine Go.of (fun t k => XS.iloadN X0.here hx rfl (hb hby d3_0) rfl  k) ?_
  show Go p e below Qo s₁ (mkF m 1 #[.val (.int i1)] [(.int i1)])
  refine Go.of (fun t k => XS.sipush X0.here hx rfl (hb hby d3_1) k) ?_
  show Go p e below Qo s₁ (mkF m 4 #[.val (.int i1)] [(.int (255 : Int32)), (.int i1)])
  by_cases hc4_1 : (255 : Int32) < i1
  · refine Go.of (fun t k => XS.icmpYes X0.here hx rfl (pc0 := 4) (pc' := 11) rfl (hb hby d3_4) rfl (tlt hc4_1).2.2.1 (by decide) (by decide) k) ?_
    show Go p e below Qo s₁ (mkF m 11 #[.val (.int i1)] [])
    refine Go.of (fun t k => XS.iconst X0.here hx rfl (hb hby d3_11) k) ?_
    show Go p e below Qo s₁ (mkF m 12 #[.val (.int i1)] [(.int (0 : Int32))])
    exact own_retN X0 hx Bd.notSynchronized (t := .boolean) Bd.returns (by simp) (hb hby d3_12) (fun u hu hF => hQo _ _ _ ⟨by rw [show (F3 i1) = nar .boolean (0 : Int32) from by rw [F3, if_pos hc4_1]], N0, by rw [hu, e0]⟩ (own_mono hF (by decide) (by decide)))
  · refine Go.of (fun t k => XS.icmpNo X0.here hx rfl (hb hby d3_4) rfl (flt hc4_1).2.2.1 k) ?_
    show Go p e below Qo s₁ (mkF m 7 #[.val (.int i1)] [])
    refine Go.of (fun t k => XS.iconst X0.here hx rfl (hb hby d3_7) k) ?_
    show Go p e below Qo s₁ (mkF m 8 #[.val (.int i1)] [(.int (1 : Int32))])
    refine Go.of (fun t k => XS.goto X0.here hx rfl (pc0 := 8) (pc' := 12) rfl (hb hby d3_8) (by decide) (by decide) k) ?_
    show Go p e below Qo s₁ (mkF m 12 #[.val (.int i1)] [(.int (1 : Int32))])
    exact own_retN X0 hx Bd.notSynchronized (t := .boolean) Bd.returns (by simp) (hb hby d3_12) (fun u hu hF => hQo _ _ _ ⟨by rw [show (F3 i1) = nar .boolean (1 : Int32) from by rw [F3, if_neg hc4_1]], N0, by rw [hu, e0]⟩ (own_mono hF (by decide) (by decide)))
theorem d4_0 : decode jdk_43_method_46_code 0 = .ok (.iconst 1, 1) := by decide +kernel
theorem d4_1 : decode jdk_43_method_46_code 1 = .ok (.newarray .byte, 2) := by decide +kernel
theorem d4_3 : decode jdk_43_method_46_code 3 = .ok (.dup, 1) := by decide +kernel
theorem d4_4 : decode jdk_43_method_46_code 4 = .ok (.iconst 0, 1) := by decide +kernel
theorem d4_5 : decode jdk_43_method_46_code 5 = .ok (.iload_n 0, 1) := by decide +kernel
theorem d4_6 : decode jdk_43_method_46_code 6 = .ok (.i2b, 1) := by decide +kernel
theorem d4_7 : decode jdk_43_method_46_code 7 = .ok (.bastore, 1) := by decide +kernel
theorem d4_8 : decode jdk_43_method_46_code 8 = .ok (.areturn, 1) := by decide +kernel
theorem ef_4 (m : MethodId) (i1 : Int32)  : entryFrame m #[(.int i1)] 1 = mkF m 0 #[.val (.int i1)] [] := by
  first | (simp [entryFrame, mkF, argsToLocals, Value.category]; done) | rfl
def Q4 (Z : State) (i1 : Int32) (h0 : Heap) (n0 : Nat) (v : Option Value) (h : Heap) (L : List Loc) : Prop := ∃ rb : Addr, ∃ kb : ClassId, v = some (.ref rb) ∧ Fr n0 L ∧ Keep h0 h [] ∧ h0.size ≤ rb ∧ Arv Z h rb kb .byte (1 : Int32) [(.int (nar .byte (i1.toInt8.toInt32)))] (.int (0 : Int32))
set_option maxRecDepth 65536 in
set_option maxHeartbeats 40000000 in
theorem rm4 (l : Launch) (Z : State) (a0 : Array Value) (hw : ∀ d ∈ tables_1, d.before a0 Z = true) (ws : List Jvm.Cond) (i1 : Int32) (h0 : Heap) (n0 : Nat) (Z0 : n0 ≤ h0.size)  :
    MetFree l (⟨"java/lang/StringLatin1", "toBytes", "(C)[B"⟩ : MethodName) (head1 (Jvm.Cond.code (⟨"java/lang/StringLatin1", "toBytes", "(C)[B"⟩ : MethodName) jdk_43_method_46_code 1 (some (.array .byte)) :: ws) ({ frames := 0, cells := 1, slots := 1, locals := 0 } : Room)) (fun a U => a = #[(.int i1)] ∧ Z.Warmed39 U.vm ∧ U.heap = h0) (fun _ _ _ _ _ => True) (fun _ U o U' => ∃ v L, o = .returned v ∧ Q4 Z i1 h0 n0 v U'.heap L ∧ FrameEnd U o U' L ({ frames := 0, cells := 1, slots := 1, locals := 0 } : Room).cells ({ frames := 0, cells := 1, slots := 1, locals := 0 } : Room).slots) := by
  refine MetFree.of_bodySF (plainFor_of_name pn_2) hisR ?_
  intro p e s m args below meth c s₁ Bd hml0 hP hK
  obtain ⟨rfl, hZ, hh⟩ := hP
  have hx := Bd.exec
  have hby := Bd.bytes
  have hml : c.maxLocals = 1 := hml0
  have hown : s.vm.findClass "java/lang/StringLatin1" = some m.cls := findClass_of_methodNamed Bd.named
  have hnm := (name_of_methodNamed Bd.named Bd.method).1
  have X0 : Stand p l e ({ frames := 0, cells := 1, slots := 1, locals := 0 } : Room) s m #[(.int i1)] below meth c s₁ [] 0 0 := Stand.of_body Bd
  have e0 : s₁.heap = h0 := by rw [← hh, Bd.state]; rfl
  have N0 := Fr.nil n0
  suffices H : ∀ Qo : Outcome → State → Prop, (∀ (v : Option Value) (u : State) (L : List Loc), Q4 Z i1 h0 n0 v u.heap L → FrameEnd s (.returned v) u L ({ frames := 0, cells := 1, slots := 1, locals := 0 } : Room).cells ({ frames := 0, cells := 1, slots := 1, locals := 0 } : Room).slots → Qo (.returned v) u) → Go p e below Qo s₁ (mkF m 0 #[.val (.int i1)] []) from
    Go.cast (ef_4 m i1) (H _ fun v u L h1 h2 => ⟨v, L, rfl, h1, h2⟩)
  intro Qo hQo
  show Go p e below Qo s₁ (mkF m 0 #[.val (.int i1)] [])
  refine Go.of (fun t k => XS.iconst X0.here hx rfl (hb hby d4_0) k) ?_
  show Go p e below Qo s₁ (mkF m 1 #[.val (.int i1)] [(.int (1 : Int32))])
  obtain ⟨T1, h1, k1, X1, e1, E1, A1, st1⟩ := newP X0 hx hZ (hw _ (List.mem_of_getElem? (i := 23) rfl)) e0 (g := (mkF m 1 #[.val (.int i1)] [(.int (1 : Int32))])) rfl (hb hby d4_1) rfl (by decide) (cap := 1) (by decide) (by decide) (by decide) (by decide)
  obtain ⟨b1, g1⟩ : ∃ z, z = h0.size := ⟨_, rfl⟩
  rw [← g1] at A1 st1
  have g2 : n0 ≤ b1 := Nat.le_trans Z0 (Nat.le_of_eq g1.symm)
  have sz3 : h0.size ≤ b1 := Nat.le_trans (Keep.refl h0 []).1 (Nat.le_of_eq g1.symm)
  have Z4 : n0 ≤ h1.size := Nat.le_trans Z0 E1.1
  have K5 : Keep h0 h1 [] := (Keep.refl h0 []).ext E1
  have q6 : Arv Z h1 b1 k1 .byte (1 : Int32) [(.int (0 : Int32))] (.int (0 : Int32)) := (Arv.new A1 (by decide)).pad (pad_rep [] (.int (0 : Int32)) 1)
  refine Go.of st1 ?_
  show Go p e below Qo T1 (mkF m 3 #[.val (.int i1)] [(.ref b1)])
  refine Go.of (fun t k => XS.dup X1.here hx rfl (hb hby d4_3) rfl rfl k) ?_
  show Go p e below Qo T1 (mkF m 4 #[.val (.int i1)] [(.ref b1), (.ref b1)])
  refine Go.of (fun t k => XS.iconst X1.here hx rfl (hb hby d4_4) k) ?_
  show Go p e below Qo T1 (mkF m 5 #[.val (.int i1)] [(.int (0 : Int32)), (.ref b1), (.ref b1)])
  refine Go.of (fun t k => XS.iloadN X1.here hx rfl (hb hby d4_5) rfl  k) ?_
  show Go p e below Qo T1 (mkF m 6 #[.val (.int i1)] [(.int i1), (.int (0 : Int32)), (.ref b1), (.ref b1)])
  refine Go.of (fun t k => XS.i2b X1.here hx rfl (hb hby d4_6) rfl k) ?_
  show Go p e below Qo T1 (mkF m 7 #[.val (.int i1)] [(.int (i1.toInt8.toInt32)), (.int (0 : Int32)), (.ref b1), (.ref b1)])
  have cpo7 := q6
  obtain ⟨clo7, Aro7, qco7, So7, Mo7, Ho7, Go7⟩ := cpo7
  have hin8 : ¬ ((0 : Int32) < 0 ∨ clo7.slots.size ≤ (0 : Int32).toNatClampNeg) := (inb_of So7 ⟨by decide, by decide⟩)
  obtain ⟨T9, h9, X9, e9, W9, st9⟩ := stB X1 hx hZ e1 Aro7 (j := (0 : Int32)) hin8 (g := (mkF m 7 #[.val (.int i1)] [(.int (i1.toInt8.toInt32)), (.int (0 : Int32)), (.ref b1), (.ref b1)])) rfl rfl (hb hby d4_7)
  have q10 : Arv Z h9 b1 k1 .byte (1 : Int32) [(.int (nar .byte (i1.toInt8.toInt32)))] (.int (0 : Int32)) := Arv.set Aro7 qco7 So7 Mo7 Ho7 Go7 (fits_nar_byte _) W9 0 rfl (Nat.le_of_ble_eq_true rfl)
  have Z11 : n0 ≤ h9.size := Nat.le_trans Z4 (Keep.of_wr W9).1
  have K12 : Keep h0 h9 [] := K5.wr W9 (Or.inr sz3)
  have N13 := Fr.snoc X9 N0 g2
  refine Go.of st9 ?_
  show Go p e below Qo T9 (mkF m 8 #[.val (.int i1)] [(.ref b1)])
  exact own_retW X9 hx Bd.notSynchronized Bd.returns rfl (Or.inr (Or.inr (Or.inr (Or.inr ⟨rfl, rfl, rfl⟩)))) (hb hby d4_8) (fun u hu hF => hQo _ _ _ ⟨b1, k1, rfl, N13, by rw [hu, e9]; exact K12, sz3, by rw [hu, e9]; exact q10⟩ (own_mono hF (by decide) (by decide)))
theorem d5_0 : decode jdk_42_method_151_code 0 = .ok (.aload_n 0, 1) := by decide +kernel
theorem d5_1 : decode jdk_42_method_151_code 1 = .ok (.invokespecial 1, 3) := by decide +kernel
theorem d5_4 : decode jdk_42_method_151_code 4 = .ok (.aload_n 0, 1) := by decide +kernel
theorem d5_5 : decode jdk_42_method_151_code 5 = .ok (.aload_n 1, 1) := by decide +kernel
theorem d5_6 : decode jdk_42_method_151_code 6 = .ok (.putfield 9, 3) := by decide +kernel
theorem d5_9 : decode jdk_42_method_151_code 9 = .ok (.aload_n 0, 1) := by decide +kernel
theorem d5_10 : decode jdk_42_method_151_code 10 = .ok (.iload_n 2, 1) := by decide +kernel
theorem d5_11 : decode jdk_42_method_151_code 11 = .ok (.putfield 15, 3) := by decide +kernel
theorem d5_14 : decode jdk_42_method_151_code 14 = .ok (.return_, 1) := by decide +kernel
theorem pn_3 : plainName "java/lang/String" = true := by first | (simp [plainName, overriddenIn]; done) | decide +kernel
theorem ef_5 (m : MethodId) (r1 : Addr) (r2 : Addr) (i1 : Int32)  : entryFrame m #[(.ref r1), (.ref r2), (.int i1)] 3 = mkF m 0 #[.val (.ref r1), .val (.ref r2), .val (.int i1)] [] := by
  first | (simp [entryFrame, mkF, argsToLocals, Value.category]; done) | rfl
def Q5 (Z : State) (r1 : Addr) (r2 : Addr) (i1 : Int32) (u_0 : Value) (u_1 : Value) (h0 : Heap) (n0 : Nat) (v : Option Value) (h : Heap) (L : List Loc) : Prop := v = none ∧ Fr n0 L ∧ Keep h0 h [r1] ∧ Exa Z h r1 "java/lang/String" ∧ Fld Z h r1 "java/lang/String" "value" "[B" (.ref r2) ∧ Fld Z h r1 "java/lang/String" "coder" "B" (.int (nar .byte i1))
set_option maxRecDepth 65536 in
set_option maxHeartbeats 40000000 in
theorem rm5 (l : Launch) (Z : State) (a0 : Array Value) (hw : ∀ d ∈ tables_1, d.before a0 Z = true) (ws : List Jvm.Cond) (r1 : Addr) (r2 : Addr) (i1 : Int32) (u_0 : Value) (u_1 : Value) (h0 : Heap) (n0 : Nat) (Z0 : n0 ≤ h0.size) (f0 : Exa Z h0 r1 "java/lang/String") (f1 : Fld Z h0 r1 "java/lang/String" "value" "[B" u_0) (f2 : Fld Z h0 r1 "java/lang/String" "coder" "B" u_1) (g_r1 : n0 ≤ r1) :
    MetFree l (⟨"java/lang/String", "<init>", "([BB)V"⟩ : MethodName) (head1 (Jvm.Cond.code (⟨"java/lang/String", "<init>", "([BB)V"⟩ : MethodName) jdk_42_method_151_code 3 none :: ws) ({ frames := 1, cells := 0, slots := 0, locals := 12 } : Room)) (fun a U => a = #[(.ref r1), (.ref r2), (.int i1)] ∧ Z.Warmed39 U.vm ∧ U.heap = h0) (fun _ _ _ _ _ => True) (fun _ U o U' => ∃ v L, o = .returned v ∧ Q5 Z r1 r2 i1 u_0 u_1 h0 n0 v U'.heap L ∧ FrameEnd U o U' L ({ frames := 1, cells := 0, slots := 0, locals := 12 } : Room).cells ({ frames := 1, cells := 0, slots := 0, locals := 12 } : Room).slots) := by
  refine MetFree.of_bodySF (plainFor_of_name pn_3) hisR ?_
  intro p e s m args below meth c s₁ Bd hml0 hP hK
  obtain ⟨rfl, hZ, hh⟩ := hP
  have hx := Bd.exec
  have hby := Bd.bytes
  have hml : c.maxLocals = 3 := hml0
  have hown : s.vm.findClass "java/lang/String" = some m.cls := findClass_of_methodNamed Bd.named
  have hnm := (name_of_methodNamed Bd.named Bd.method).1
  have X0 : Stand p l e ({ frames := 1, cells := 0, slots := 0, locals := 12 } : Room) s m #[(.ref r1), (.ref r2), (.int i1)] below meth c s₁ [] 0 0 := Stand.of_body Bd
  have e0 : s₁.heap = h0 := by rw [← hh, Bd.state]; rfl
  have N0 := Fr.nil n0
  suffices H : ∀ Qo : Outcome → State → Prop, (∀ (v : Option Value) (u : State) (L : List Loc), Q5 Z r1 r2 i1 u_0 u_1 h0 n0 v u.heap L → FrameEnd s (.returned v) u L ({ frames := 1, cells := 0, slots := 0, locals := 12 } : Room).cells ({ frames := 1, cells := 0, slots := 0, locals := 12 } : Room).slots → Qo (.returned v) u) → Go p e below Qo s₁ (mkF m 0 #[.val (.ref r1), .val (.ref r2), .val (.int i1)] []) from
    Go.cast (ef_5 m r1 r2 i1) (H _ fun v u L h1 h2 => ⟨v, L, rfl, h1, h2⟩)
  intro Qo hQo
  show Go p e below Qo s₁ (mkF m 0 #[.val (.ref r1), .val (.ref r2), .val (.int i1)] [])
  refine Go.of (fun t k => XS.aloadN X0.here hx rfl (hb hby d5_0) rfl rfl k) ?_
  show Go p e below Qo s₁ (mkF m 1 #[.val (.ref r1), .val (.ref r2), .val (.int i1)] [(.ref r1)])
  obtain ⟨T1, X1, e1, st1⟩ := initO X0 hx hZ hown (hw _ (List.mem_of_getElem? (i := 28) rfl)) (hw _ (List.mem_of_getElem? (i := 29) rfl)) (hw _ (List.mem_of_getElem? (i := 30) rfl)) e0 (g := (mkF m 1 #[.val (.ref r1), .val (.ref r2), .val (.int i1)] [(.ref r1)])) rfl (by rw [hml]; rfl) rfl (hb hby d5_1) (by decide) (W := 0) (by show 2 * 0 + _ ≤ _; exact Nat.le_of_eq rfl) (by decide)
  refine Go.of st1 ?_
  show Go p e below Qo T1 (mkF m 4 #[.val (.ref r1), .val (.ref r2), .val (.int i1)] [])
  refine Go.of (fun t k => XS.aloadN X1.here hx rfl (hb hby d5_4) rfl rfl k) ?_
  show Go p e below Qo T1 (mkF m 5 #[.val (.ref r1), .val (.ref r2), .val (.int i1)] [(.ref r1)])
  refine Go.of (fun t k => XS.aloadN X1.here hx rfl (hb hby d5_5) rfl rfl k) ?_
  show Go p e below Qo T1 (mkF m 6 #[.val (.ref r1), .val (.ref r2), .val (.int i1)] [(.ref r2), (.ref r1)])
  obtain ⟨T2, h2, X2, e2, W2, st2⟩ := putF X1 hx hZ hown (host := "") (Or.inl (hw _ (List.mem_of_getElem? (i := 31) rfl))) Via.refl e1 f1 f0 (Or.inr ⟨(hw _ (List.mem_of_getElem? (i := 32) rfl)), rfl, hnm⟩) (hw _ (List.mem_of_getElem? (i := 19) rfl)) (ty := (.array .byte)) (by decide) rfl rfl (g := (mkF m 6 #[.val (.ref r1), .val (.ref r2), .val (.int i1)] [(.ref r2), (.ref r1)])) rfl rfl (hb hby d5_6)
  have q3 : Exa Z h2 r1 "java/lang/String" := f0.wr W2
  have q4 : Fld Z h2 r1 "java/lang/String" "value" "[B" (.ref r2) := f1.same W2
  have q5 : Fld Z h2 r1 "java/lang/String" "coder" "B" u_1 := f2.other W2 (Or.inr (slot_ne (Or.inr (hw _ (List.mem_of_getElem? (i := 34) rfl))) (Or.inr (hw _ (List.mem_of_getElem? (i := 32) rfl))) (by decide) (t := .byte) (t' := (.array .byte)) (by decide) (by decide)))
  have Z6 : n0 ≤ h2.size := Nat.le_trans Z0 (Keep.of_wr W2).1
  have K7 : Keep h0 h2 [r1] := (Keep.refl h0 [r1]).wr W2 (Or.inl (List.mem_of_getElem? (i := 0) rfl))
  have N8 := Fr.snoc X2 N0 g_r1
  refine Go.of st2 ?_
  show Go p e below Qo T2 (mkF m 9 #[.val (.ref r1), .val (.ref r2), .val (.int i1)] [])
  refine Go.of (fun t k => XS.aloadN X2.here hx rfl (hb hby d5_9) rfl rfl k) ?_
  show Go p e below Qo T2 (mkF m 10 #[.val (.ref r1), .val (.ref r2), .val (.int i1)] [(.ref r1)])
  refine Go.of (fun t k => XS.iloadN X2.here hx rfl (hb hby d5_10) rfl  k) ?_
  show Go p e below Qo T2 (mkF m 11 #[.val (.ref r1), .val (.ref r2), .val (.int i1)] [(.int i1), (.ref r1)])
  obtain ⟨T9, h9, X9, e9, W9, st9⟩ := putFN X2 hx hZ hown (hw _ (List.mem_of_getElem? (i := 33) rfl)) Via.refl e2 q5 q3 (Or.inr ⟨(hw _ (List.mem_of_getElem? (i := 34) rfl)), rfl, hnm⟩) (hw _ (List.mem_of_getElem? (i := 19) rfl)) (ty := .byte) (v' := (.int (nar .byte i1))) (by decide) rfl (fits_nar_byte _) (g := (mkF m 11 #[.val (.ref r1), .val (.ref r2), .val (.int i1)] [(.int i1), (.ref r1)])) rfl rfl (hb hby d5_11)
  have q10 : Exa Z h9 r1 "java/lang/String" := q3.wr W9
  have q11 : Fld Z h9 r1 "java/lang/String" "value" "[B" (.ref r2) := q4.other W9 (Or.inr (slot_ne (Or.inr (hw _ (List.mem_of_getElem? (i := 32) rfl))) (Or.inr (hw _ (List.mem_of_getElem? (i := 34) rfl))) (by decide) (t := (.array .byte)) (t' := .byte) (by decide) (by decide)))
  have q12 : Fld Z h9 r1 "java/lang/String" "coder" "B" (.int (nar .byte i1)) := q5.same W9
  have Z13 : n0 ≤ h9.size := Nat.le_trans Z6 (Keep.of_wr W9).1
  have K14 : Keep h0 h9 [r1] := K7.wr W9 (Or.inl (List.mem_of_getElem? (i := 0) rfl))
  have N15 := Fr.snoc X9 N8 g_r1
  refine Go.of st9 ?_
  show Go p e below Qo T9 (mkF m 14 #[.val (.ref r1), .val (.ref r2), .val (.int i1)] [])
  exact own_ret0 X9 hx Bd.notSynchronized Bd.returns (hb hby d5_14) (fun u hu hF => hQo _ _ _ ⟨rfl, N15, by rw [hu, e9]; exact K14, by rw [hu, e9]; exact q10, by rw [hu, e9]; exact q11, by rw [hu, e9]; exact q12⟩ (own_mono hF (by decide) (by decide)))
theorem pd_0 : parseMethodDescriptor "(C)Z" = some ⟨[.char], some .boolean⟩ := by decide +kernel
theorem pd_1 : parseMethodDescriptor "(C)[B" = some ⟨[.char], some (.array .byte)⟩ := by decide +kernel
theorem pd_2 : parseMethodDescriptor "([BB)V" = some ⟨[(.array .byte), .byte], none⟩ := by decide +kernel
theorem d2_0 : decode jdk_42_method_139_code 0 = .ok (.getstatic 38, 3) := by decide +kernel
theorem d2_3 : decode jdk_42_method_139_code 3 = .ok (.ifCond .eq 23, 3) := by decide +kernel
theorem d2_6 : decode jdk_42_method_139_code 6 = .ok (.iload_n 0, 1) := by decide +kernel
theorem d2_7 : decode jdk_42_method_139_code 7 = .ok (.invokestatic 1015, 3) := by decide +kernel
theorem d2_10 : decode jdk_42_method_139_code 10 = .ok (.ifCond .eq 16, 3) := by decide +kernel
theorem d2_13 : decode jdk_42_method_139_code 13 = .ok (.new 10, 3) := by decide +kernel
theorem d2_16 : decode jdk_42_method_139_code 16 = .ok (.dup, 1) := by decide +kernel
theorem d2_17 : decode jdk_42_method_139_code 17 = .ok (.iload_n 0, 1) := by decide +kernel
theorem d2_18 : decode jdk_42_method_139_code 18 = .ok (.invokestatic 1018, 3) := by decide +kernel
theorem d2_21 : decode jdk_42_method_139_code 21 = .ok (.iconst 0, 1) := by decide +kernel
theorem d2_22 : decode jdk_42_method_139_code 22 = .ok (.invokespecial 209, 3) := by decide +kernel
theorem d2_25 : decode jdk_42_method_139_code 25 = .ok (.areturn, 1) := by decide +kernel
theorem ef_2 (m : MethodId) (i1 : Int32)  : entryFrame m #[(.int i1)] 1 = mkF m 0 #[.val (.int i1)] [] := by
  first | (simp [entryFrame, mkF, argsToLocals, Value.category]; done) | rfl
def Q2 (Z : State) (i1 : Int32) (zc : Int32) (h0 : Heap) (n0 : Nat) (v : Option Value) (h : Heap) (L : List Loc) : Prop := ∃ rb : Addr, v = some (.ref rb) ∧ Fr n0 L ∧ Keep h0 h [] ∧ h0.size ≤ rb ∧ Exa Z h rb "java/lang/String"
set_option maxRecDepth 65536 in
set_option maxHeartbeats 40000000 in
theorem rm2 (l : Launch) (Z : State) (a0 : Array Value) (hw : ∀ d ∈ tables_1, d.before a0 Z = true) (ws : List Jvm.Cond) (i1 : Int32) (zc : Int32) (h0 : Heap) (n0 : Nat) (Z0 : n0 ≤ h0.size) (f0 : Sta Z h0 "java/lang/String" "COMPACT_STRINGS" "Z" (.int zc)) (hz : ¬ (zc = (0 : Int32))) (hf : ¬ ((F3 i1) = (0 : Int32))) :
    MetFree l (⟨"java/lang/String", "valueOf", "(C)Ljava/lang/String;"⟩ : MethodName) (head1 (Jvm.Cond.code (⟨"java/lang/String", "valueOf", "(C)Ljava/lang/String;"⟩ : MethodName) jdk_42_method_139_code 1 (some (.object "java/lang/String")) :: ws) ({ frames := 2, cells := 2, slots := 5, locals := 27 } : Room)) (fun a U => a = #[(.int i1)] ∧ Z.Warmed39 U.vm ∧ U.heap = h0) (fun _ _ _ _ _ => True) (fun _ U o U' => ∃ v L, o = .returned v ∧ Q2 Z i1 zc h0 n0 v U'.heap L ∧ FrameEnd U o U' L ({ frames := 2, cells := 2, slots := 5, locals := 27 } : Room).cells ({ frames := 2, cells := 2, slots := 5, locals := 27 } : Room).slots) := by
  refine MetFree.of_bodySF (plainFor_of_name pn_3) hisR ?_
  intro p e s m args below meth c s₁ Bd hml0 hP hK
  obtain ⟨rfl, hZ, hh⟩ := hP
  have hx := Bd.exec
  have hby := Bd.bytes
  have hml : c.maxLocals = 1 := hml0
  have hown : s.vm.findClass "java/lang/String" = some m.cls := findClass_of_methodNamed Bd.named
  have hnm := (name_of_methodNamed Bd.named Bd.method).1
  have X0 : Stand p l e ({ frames := 2, cells := 2, slots := 5, locals := 27 } : Room) s m #[(.int i1)] below meth c s₁ [] 0 0 := Stand.of_body Bd
  have e0 : s₁.heap = h0 := by rw [← hh, Bd.state]; rfl
  have N0 := Fr.nil n0
  suffices H : ∀ Qo : Outcome → State → Prop, (∀ (v : Option Value) (u : State) (L : List Loc), Q2 Z i1 zc h0 n0 v u.heap L → FrameEnd s (.returned v) u L ({ frames := 2, cells := 2, slots := 5, locals := 27 } : Room).cells ({ frames := 2, cells := 2, slots := 5, locals := 27 } : Room).slots → Qo (.returned v) u) → Go p e below Qo s₁ (mkF m 0 #[.val (.int i1)] []) from
    Go.cast (ef_2 m i1) (H _ fun v u L h1 h2 => ⟨v, L, rfl, h1, h2⟩)
  intro Qo hQo
  show Go p e below Qo s₁ (mkF m 0 #[.val (.int i1)] [])
  obtain ⟨T1, X1, e1, st1⟩ := getS X0 hx hZ (host := "") hown (hw _ (List.mem_of_getElem? (i := 13) rfl)) Via.refl e0 f0 (g := (mkF m 0 #[.val (.int i1)] [])) rfl (hb hby d2_0)
  refine Go.of st1 ?_
  show Go p e below Qo T1 (mkF m 3 #[.val (.int i1)] [(.int zc)])
  refine Go.of (fun t k => XS.ifNo X1.here hx rfl (hb hby d2_3) rfl ((if0 _ _).trans (feq hz).1) k) ?_
  show Go p e below Qo T1 (mkF m 6 #[.val (.int i1)] [])
  refine Go.of (fun t k => XS.iloadN X1.here hx rfl (hb hby d2_6) rfl  k) ?_
  show Go p e below Qo T1 (mkF m 7 #[.val (.int i1)] [(.int i1)])
  obtain ⟨_, _, ⟨T2, L2, k2, n2⟩, -, X2, ⟨Lc2, hQ2, l2, y2, z2⟩, st2⟩ := Jvm.LawKit.callS X1 hx (y := (⟨"java/lang/StringLatin1", "canEncode", "(C)Z"⟩ : MethodName)) hown (mvT hZ (hw _ (List.mem_of_getElem? (i := 14) rfl))) (mvT hZ (hw _ (List.mem_of_getElem? (i := 15) rfl))) (mvT hZ (hw _ (List.mem_of_getElem? (i := 16) rfl))) (mvT hZ (hw _ (List.mem_of_getElem? (i := 17) rfl))) (by decide) (backOf (W := 0) (rm3 l Z a0 hw [] i1 h0 n0 Z0 ) hZ (hw _ (List.mem_of_getElem? (i := 17) rfl)) (hw _ (List.mem_of_getElem? (i := 16) rfl)) (by decide) (by decide)) (g := (mkF m 7 #[.val (.int i1)] [(.int i1)])) rfl (by rw [hml]; rfl) (argsL := [(.int i1)]) (rest := []) (lenOf pd_0 rfl) rfl (by show 2 * 0 + _ ≤ _; exact Nat.le_of_eq rfl) (hb hby d2_7) (fun _ _ => ⟨rfl, e1, (by decide : 0 + 0 ≤ _), (by decide : 0 + 0 ≤ _)⟩)
  dsimp only [Pt.U, Pt.locs, Pt.cells, Pt.slots] at X2 l2 y2 z2 st2 hQ2
  subst l2 y2 z2
  obtain ⟨rfl, N3, eh4⟩ := hQ2
  have N5 := Fr.app N0 N3
  refine Go.of st2 ?_
  show Go p e below Qo T2 (mkF m 10 #[.val (.int i1)] [(.int (F3 i1))])
  refine Go.of (fun t k => XS.ifNo X2.here hx rfl (hb hby d2_10) rfl ((if0 _ _).trans (feq hf).1) k) ?_
  show Go p e below Qo T2 (mkF m 13 #[.val (.int i1)] [])
  obtain ⟨T6, h6, X6, e6, E6, A6, D6, -, st6⟩ := newO X2 hx hZ hown (hw _ (List.mem_of_getElem? (i := 18) rfl)) (hw _ (List.mem_of_getElem? (i := 19) rfl)) (hw _ (List.mem_of_getElem? (i := 11) rfl)) eh4 (g := (mkF m 13 #[.val (.int i1)] [])) rfl (hb hby d2_13) (by decide) (by decide)
  obtain ⟨b6, g6⟩ : ∃ z, z = h0.size := ⟨_, rfl⟩
  rw [← g6] at A6 D6 st6
  have g7 : n0 ≤ b6 := Nat.le_trans Z0 (Nat.le_of_eq g6.symm)
  have sz8 : h0.size ≤ b6 := Nat.le_trans (Keep.refl h0 []).1 (Nat.le_of_eq g6.symm)
  have q9 : Sta Z h6 "java/lang/String" "COMPACT_STRINGS" "Z" (.int zc) := f0.ext E6
  have Z10 : n0 ≤ h6.size := Nat.le_trans Z0 E6.1
  have K11 : Keep h0 h6 [] := (Keep.refl h0 []).ext E6
  have q12 : Fld Z h6 b6 "java/lang/String" "value" "[B" .null := D6 (Or.inr (hw _ (List.mem_of_getElem? (i := 32) rfl))) (ty := (.array .byte)) (by decide)
  have q13 : Fld Z h6 b6 "java/lang/String" "coder" "B" (.int (0 : Int32)) := D6 (Or.inr (hw _ (List.mem_of_getElem? (i := 34) rfl))) (ty := .byte) (by decide)
  refine Go.of st6 ?_
  show Go p e below Qo T6 (mkF m 16 #[.val (.int i1)] [(.ref b6)])
  refine Go.of (fun t k => XS.dup X6.here hx rfl (hb hby d2_16) rfl rfl k) ?_
  show Go p e below Qo T6 (mkF m 17 #[.val (.int i1)] [(.ref b6), (.ref b6)])
  refine Go.of (fun t k => XS.iloadN X6.here hx rfl (hb hby d2_17) rfl  k) ?_
  show Go p e below Qo T6 (mkF m 18 #[.val (.int i1)] [(.int i1), (.ref b6), (.ref b6)])
  obtain ⟨_, _, ⟨T14, L14, k14, n14⟩, -, X14, ⟨Lc14, hQ14, l14, y14, z14⟩, st14⟩ := Jvm.LawKit.callS X6 hx (y := (⟨"java/lang/StringLatin1", "toBytes", "(C)[B"⟩ : MethodName)) hown (mvT hZ (hw _ (List.mem_of_getElem? (i := 20) rfl))) (mvT hZ (hw _ (List.mem_of_getElem? (i := 21) rfl))) (mvT hZ (hw _ (List.mem_of_getElem? (i := 16) rfl))) (mvT hZ (hw _ (List.mem_of_getElem? (i := 22) rfl))) (by decide) (backOf (W := 2) (rm4 l Z a0 hw [] i1 h6 n0 Z10 ) hZ (hw _ (List.mem_of_getElem? (i := 22) rfl)) (hw _ (List.mem_of_getElem? (i := 16) rfl)) (by decide) (by decide)) (g := (mkF m 18 #[.val (.int i1)] [(.int i1), (.ref b6), (.ref b6)])) rfl (by rw [hml]; rfl) (argsL := [(.int i1)]) (rest := [(.ref b6), (.ref b6)]) (lenOf pd_1 rfl) rfl (by show 2 * 0 + _ ≤ _; exact Nat.le_of_eq rfl) (hb hby d2_18) (fun _ _ => ⟨rfl, e6, (by decide : 1 + 1 ≤ _), (by decide : 4 + 1 ≤ _)⟩)
  dsimp only [Pt.U, Pt.locs, Pt.cells, Pt.slots] at X14 l14 y14 z14 st14 hQ14
  subst l14 y14 z14
  obtain ⟨x16, x17, rfl, N15, Kc18, g20, q19⟩ := hQ14
  have N21 := Fr.app N5 N15
  have ne22 : b6 ≠ x16 := Nat.ne_of_lt (Nat.lt_of_lt_of_le A6.lt g20)
  have g23 : n0 ≤ x16 := Nat.le_trans Z10 g20
  have sz24 : h0.size ≤ x16 := Nat.le_trans K11.1 g20
  have q25 : Sta Z T14.heap "java/lang/String" "COMPACT_STRINGS" "Z" (.int zc) := own_staKeep q9 Kc18 all0
  have q26 : Exa Z T14.heap b6 "java/lang/String" := A6.keep Kc18
  have q27 : Fld Z T14.heap b6 "java/lang/String" "value" "[B" .null := q12.keep Kc18 nin0
  have q28 : Fld Z T14.heap b6 "java/lang/String" "coder" "B" (.int (0 : Int32)) := q13.keep Kc18 nin0
  have Z29 : n0 ≤ T14.heap.size := Nat.le_trans Z10 Kc18.1
  have K30 : Keep h0 T14.heap [] := K11.trans Kc18 all0
  refine Go.of st14 ?_
  show Go p e below Qo T14 (mkF m 21 #[.val (.int i1)] [(.ref x16), (.ref b6), (.ref b6)])
  refine Go.of (fun t k => XS.iconst X14.here hx rfl (hb hby d2_21) k) ?_
  show Go p e below Qo T14 (mkF m 22 #[.val (.int i1)] [(.int (0 : Int32)), (.ref x16), (.ref b6), (.ref b6)])
  obtain ⟨_, _, ⟨T31, L31, k31, n31⟩, -, X31, ⟨Lc31, hQ31, l31, y31, z31⟩, st31⟩ := X14.specialBack hx (y := (⟨"java/lang/String", "<init>", "([BB)V"⟩ : MethodName)) rfl hown (mvT hZ (hw _ (List.mem_of_getElem? (i := 24) rfl))) (mvT hZ (hw _ (List.mem_of_getElem? (i := 25) rfl))) (mvT hZ (hw _ (List.mem_of_getElem? (i := 27) rfl))) (by decide) (backOf (W := 1) (rm5 l Z a0 hw [] b6 x16 (0 : Int32) .null (.int (0 : Int32)) T14.heap n0 Z29 q26 q27 q28 g7) hZ (hw _ (List.mem_of_getElem? (i := 27) rfl)) (hw _ (List.mem_of_getElem? (i := 11) rfl)) (by decide) (by decide)) (g := (mkF m 22 #[.val (.int i1)] [(.int (0 : Int32)), (.ref x16), (.ref b6), (.ref b6)])) rfl (by rw [hml]; rfl) (Steps.refl _) (a := b6) (argsL := [(.ref x16), (.int (0 : Int32))]) (rest := [(.ref b6)]) (lenOf pd_2 rfl) rfl (by show 2 * 0 + _ ≤ _; exact Nat.le_of_eq rfl) (hb hby d2_22) (fun _ _ => ⟨rfl, rfl, (by decide : 2 + 0 ≤ _), (by decide : 5 + 0 ≤ _)⟩)
  dsimp only [Pt.U, Pt.locs, Pt.cells, Pt.slots] at X31 l31 y31 z31 st31 hQ31
  subst l31 y31 z31
  obtain ⟨rfl, N32, Kc33, q34, q35, q36⟩ := hQ31
  have N37 := Fr.app N21 N32
  have q38 : Sta Z T31.heap "java/lang/String" "COMPACT_STRINGS" "Z" (.int zc) := own_staKeep q25 Kc33 (allS (own_plainE q26) all0)
  have q39 : Arv Z T31.heap x16 x17 .byte (1 : Int32) [(.int (nar .byte (i1.toInt8.toInt32)))] (.int (0 : Int32)) := q19.keep Kc33 (ninS (Ne.symm ne22) nin0)
  have Z40 : n0 ≤ T31.heap.size := Nat.le_trans Z29 Kc33.1
  have K41 : Keep h0 T31.heap [] := K30.trans Kc33 (allS (Or.inr sz8) all0)
  refine Go.via st31 ?_
  show Go p e below Qo T31 (mkF m 25 #[.val (.int i1)] [(.ref b6)])
  exact own_retW X31 hx Bd.notSynchronized Bd.returns rfl (Or.inr (Or.inr (Or.inr (Or.inr ⟨rfl, rfl, rfl⟩)))) (hb hby d2_25) (fun u hu hF => hQo _ _ _ ⟨b6, rfl, N37, by rw [hu]; exact K41, sz8, by rw [hu]; exact q34⟩ (own_mono hF (by decide) (by decide)))
theorem pd_3 : parseMethodDescriptor "()V" = some ⟨[], none⟩ := by decide +kernel
theorem d7_0 : decode prog_27_method_1_code 0 = .ok (.aload_n 0, 1) := by decide +kernel
theorem d7_1 : decode prog_27_method_1_code 1 = .ok (.invokespecial 1, 3) := by decide +kernel
theorem d7_4 : decode prog_27_method_1_code 4 = .ok (.aload_n 0, 1) := by decide +kernel
theorem d7_5 : decode prog_27_method_1_code 5 = .ok (.aload_n 1, 1) := by decide +kernel
theorem d7_6 : decode prog_27_method_1_code 6 = .ok (.putfield 7, 3) := by decide +kernel
theorem d7_9 : decode prog_27_method_1_code 9 = .ok (.aload_n 0, 1) := by decide +kernel
theorem d7_10 : decode prog_27_method_1_code 10 = .ok (.aload_n 2, 1) := by decide +kernel
theorem d7_11 : decode prog_27_method_1_code 11 = .ok (.putfield 13, 3) := by decide +kernel
theorem d7_14 : decode prog_27_method_1_code 14 = .ok (.aload_n 0, 1) := by decide +kernel
theorem d7_15 : decode prog_27_method_1_code 15 = .ok (.aload_n 3, 1) := by decide +kernel
theorem d7_16 : decode prog_27_method_1_code 16 = .ok (.putfield 16, 3) := by decide +kernel
theorem d7_19 : decode prog_27_method_1_code 19 = .ok (.aload_n 0, 1) := by decide +kernel
theorem d7_20 : decode prog_27_method_1_code 20 = .ok (.iload 4, 2) := by decide +kernel
theorem d7_22 : decode prog_27_method_1_code 22 = .ok (.putfield 19, 3) := by decide +kernel
theorem d7_25 : decode prog_27_method_1_code 25 = .ok (.aload_n 0, 1) := by decide +kernel
theorem d7_26 : decode prog_27_method_1_code 26 = .ok (.dload 5, 2) := by decide +kernel
theorem d7_28 : decode prog_27_method_1_code 28 = .ok (.putfield 23, 3) := by decide +kernel
theorem d7_31 : decode prog_27_method_1_code 31 = .ok (.aload_n 0, 1) := by decide +kernel
theorem d7_32 : decode prog_27_method_1_code 32 = .ok (.aload 7, 2) := by decide +kernel
theorem d7_34 : decode prog_27_method_1_code 34 = .ok (.putfield 27, 3) := by decide +kernel
theorem d7_37 : decode prog_27_method_1_code 37 = .ok (.aload_n 0, 1) := by decide +kernel
theorem d7_38 : decode prog_27_method_1_code 38 = .ok (.iload 8, 2) := by decide +kernel
theorem d7_40 : decode prog_27_method_1_code 40 = .ok (.putfield 31, 3) := by decide +kernel
theorem d7_43 : decode prog_27_method_1_code 43 = .ok (.aload_n 0, 1) := by decide +kernel
theorem d7_44 : decode prog_27_method_1_code 44 = .ok (.iload 9, 2) := by decide +kernel
theorem d7_46 : decode prog_27_method_1_code 46 = .ok (.putfield 35, 3) := by decide +kernel
theorem d7_49 : decode prog_27_method_1_code 49 = .ok (.aload_n 0, 1) := by decide +kernel
theorem d7_50 : decode prog_27_method_1_code 50 = .ok (.iload 10, 2) := by decide +kernel
theorem d7_52 : decode prog_27_method_1_code 52 = .ok (.putfield 38, 3) := by decide +kernel
theorem d7_55 : decode prog_27_method_1_code 55 = .ok (.return_, 1) := by decide +kernel
theorem pn_4 : plainName "com/example/werktag/werktag/Person" = true := by first | (simp [plainName, overriddenIn]; done) | decide +kernel
theorem ef_7 (m : MethodId) (r1 : Addr) (r2 : Addr) (r3 : Addr) (r4 : Addr) (i1 : Int32) (d1 : UInt64) (r5 : Addr) (i2 : Int32) (i3 : Int32) (i4 : Int32)  : entryFrame m #[(.ref r1), (.ref r2), (.ref r3), (.ref r4), (.int i1), (.double d1), (.ref r5), (.int i2), (.int i3), (.int i4)] 11 = mkF m 0 #[.val (.ref r1), .val (.ref r2), .val (.ref r3), .val (.ref r4), .val (.int i1), .val (.double d1), .second, .val (.ref r5), .val (.int i2), .val (.int i3), .val (.int i4)] [] := by
  first | (simp [entryFrame, mkF, argsToLocals, Value.category]; done) | rfl
def Q7 (Z : State) (r1 : Addr) (r2 : Addr) (r3 : Addr) (r4 : Addr) (i1 : Int32) (d1 : UInt64) (r5 : Addr) (i2 : Int32) (i3 : Int32) (i4 : Int32) (u_0 : Value) (u_1 : Value) (u_2 : Value) (u_3 : Value) (u_4 : Value) (u_5 : Value) (u_6 : Value) (u_7 : Value) (u_8 : Value) (h0 : Heap) (n0 : Nat) (v : Option Value) (h : Heap) (L : List Loc) : Prop := v = none ∧ Fr n0 L ∧ Keep h0 h [r1] ∧ Exa Z h r1 "com/example/werktag/werktag/Person" ∧ Fld Z h r1 "com/example/werktag/werktag/Person" "id" "Ljava/lang/String;" (.ref r2) ∧ Fld Z h r1 "com/example/werktag/werktag/Person" "householdId" "Ljava/lang/String;" (.ref r3) ∧ Fld Z h r1 "com/example/werktag/werktag/Person" "homeZone" "Ljava/lang/String;" (.ref r4) ∧ Fld Z h r1 "com/example/werktag/werktag/Person" "age" "I" (.int i1) ∧ Fld Z h r1 "com/example/werktag/werktag/Person" "employmentPct" "D" (.double d1) ∧ Fld Z h r1 "com/example/werktag/werktag/Person" "education" "Lcom/example/werktag/werktag/Education;" (.ref r5) ∧ Fld Z h r1 "com/example/werktag/werktag/Person" "carAvailable" "Z" (.int (nar .boolean i2)) ∧ Fld Z h r1 "com/example/werktag/werktag/Person" "ptSubscription" "Z" (.int (nar .boolean i3)) ∧ Fld Z h r1 "com/example/werktag/werktag/Person" "kidsInHousehold" "Z" (.int (nar .boolean i4))
set_option maxRecDepth 65536 in
set_option maxHeartbeats 40000000 in
theorem rm7 (l : Launch) (Z : State) (a0 : Array Value) (hw : ∀ d ∈ tables_1, d.before a0 Z = true) (ws : List Jvm.Cond) (r1 : Addr) (r2 : Addr) (r3 : Addr) (r4 : Addr) (i1 : Int32) (d1 : UInt64) (r5 : Addr) (i2 : Int32) (i3 : Int32) (i4 : Int32) (u_0 : Value) (u_1 : Value) (u_2 : Value) (u_3 : Value) (u_4 : Value) (u_5 : Value) (u_6 : Value) (u_7 : Value) (u_8 : Value) (h0 : Heap) (n0 : Nat) (Z0 : n0 ≤ h0.size) (f0 : Exa Z h0 r1 "com/example/werktag/werktag/Person") (f1 : Fld Z h0 r1 "com/example/werktag/werktag/Person" "id" "Ljava/lang/String;" u_0) (f2 : Fld Z h0 r1 "com/example/werktag/werktag/Person" "householdId" "Ljava/lang/String;" u_1) (f3 : Fld Z h0 r1 "com/example/werktag/werktag/Person" "homeZone" "Ljava/lang/String;" u_2) (f4 : Fld Z h0 r1 "com/example/werktag/werktag/Person" "age" "I" u_3) (f5 : Fld Z h0 r1 "com/example/werktag/werktag/Person" "employmentPct" "D" u_4) (f6 : Fld Z h0 r1 "com/example/werktag/werktag/Person" "education" "Lcom/example/werktag/werktag/Education;" u_5) (f7 : Fld Z h0 r1 "com/example/werktag/werktag/Person" "carAvailable" "Z" u_6) (f8 : Fld Z h0 r1 "com/example/werktag/werktag/Person" "ptSubscription" "Z" u_7) (f9 : Fld Z h0 r1 "com/example/werktag/werktag/Person" "kidsInHousehold" "Z" u_8) (g_r1 : n0 ≤ r1) :
    MetFree l (⟨"com/example/werktag/werktag/Person", "<init>", "(Ljava/lang/String;Ljava/lang/String;Ljava/lang/String;IDLcom/example/werktag/werktag/Education;ZZZ)V"⟩ : MethodName) (head1 (Jvm.Cond.code (⟨"com/example/werktag/werktag/Person", "<init>", "(Ljava/lang/String;Ljava/lang/String;Ljava/lang/String;IDLcom/example/werktag/werktag/Education;ZZZ)V"⟩ : MethodName) prog_27_method_1_code 11 none :: ws) ({ frames := 2, cells := 0, slots := 0, locals := 24 } : Room)) (fun a U => a = #[(.ref r1), (.ref r2), (.ref r3), (.ref r4), (.int i1), (.double d1), (.ref r5), (.int i2), (.int i3), (.int i4)] ∧ Z.Warmed39 U.vm ∧ U.heap = h0) (fun _ _ _ _ _ => True) (fun _ U o U' => ∃ v L, o = .returned v ∧ Q7 Z r1 r2 r3 r4 i1 d1 r5 i2 i3 i4 u_0 u_1 u_2 u_3 u_4 u_5 u_6 u_7 u_8 h0 n0 v U'.heap L ∧ FrameEnd U o U' L ({ frames := 2, cells := 0, slots := 0, locals := 24 } : Room).cells ({ frames := 2, cells := 0, slots := 0, locals := 24 } : Room).slots) := by
  refine MetFree.of_bodySF (plainFor_of_name pn_4) hisR ?_
  intro p e s m args below meth c s₁ Bd hml0 hP hK
  obtain ⟨rfl, hZ, hh⟩ := hP
  have hx := Bd.exec
  have hby := Bd.bytes
  have hml : c.maxLocals = 11 := hml0
  have hown : s.vm.findClass "com/example/werktag/werktag/Person" = some m.cls := findClass_of_methodNamed Bd.named
  have hnm := (name_of_methodNamed Bd.named Bd.method).1
  have X0 : Stand p l e ({ frames := 2, cells := 0, slots := 0, locals := 24 } : Room) s m #[(.ref r1), (.ref r2), (.ref r3), (.ref r4), (.int i1), (.double d1), (.ref r5), (.int i2), (.int i3), (.int i4)] below meth c s₁ [] 0 0 := Stand.of_body Bd
  have e0 : s₁.heap = h0 := by rw [← hh, Bd.state]; rfl
  have N0 := Fr.nil n0
  suffices H : ∀ Qo : Outcome → State → Prop, (∀ (v : Option Value) (u : State) (L : List Loc), Q7 Z r1 r2 r3 r4 i1 d1 r5 i2 i3 i4 u_0 u_1 u_2 u_3 u_4 u_5 u_6 u_7 u_8 h0 n0 v u.heap L → FrameEnd s (.returned v) u L ({ frames := 2, cells := 0, slots := 0, locals := 24 } : Room).cells ({ frames := 2, cells := 0, slots := 0, locals := 24 } : Room).slots → Qo (.returned v) u) → Go p e below Qo s₁ (mkF m 0 #[.val (.ref r1), .val (.ref r2), .val (.ref r3), .val (.ref r4), .val (.int i1), .val (.double d1), .second, .val (.ref r5), .val (.int i2), .val (.int i3), .val (.int i4)] []) from
    Go.cast (ef_7 m r1 r2 r3 r4 i1 d1 r5 i2 i3 i4) (H _ fun v u L h1 h2 => ⟨v, L, rfl, h1, h2⟩)
  intro Qo hQo
  show Go p e below Qo s₁ (mkF m 0 #[.val (.ref r1), .val (.ref r2), .val (.ref r3), .val (.ref r4), .val (.int i1), .val (.double d1), .second, .val (.ref r5), .val (.int i2), .val (.int i3), .val (.int i4)] [])
  refine Go.of (fun t k => XS.aloadN X0.here hx rfl (hb hby d7_0) rfl rfl k) ?_
  show Go p e below Qo s₁ (mkF m 1 #[.val (.ref r1), .val (.ref r2), .val (.ref r3), .val (.ref r4), .val (.int i1), .val (.double d1), .second, .val (.ref r5), .val (.int i2), .val (.int i3), .val (.int i4)] [(.ref r1)])
  obtain ⟨_, _, ⟨T1, L1, k1, n1⟩, -, X1, ⟨Lc1, hQ1, l1, y1, z1⟩, st1⟩ := X0.specialBack hx (y := (⟨"java/lang/Record", "<init>", "()V"⟩ : MethodName)) rfl hown (mvT hZ (hw _ (List.mem_of_getElem? (i := 41) rfl))) (mvT hZ (hw _ (List.mem_of_getElem? (i := 42) rfl))) (mvT hZ (hw _ (List.mem_of_getElem? (i := 45) rfl))) (by decide) (backOf (W := 0) (rm8 l Z a0 hw [] r1 h0 n0 Z0 ) hZ (hw _ (List.mem_of_getElem? (i := 45) rfl)) (hw _ (List.mem_of_getElem? (i := 44) rfl)) (by decide) (by decide)) (g := (mkF m 1 #[.val (.ref r1), .val (.ref r2), .val (.ref r3), .val (.ref r4), .val (.int i1), .val (.double d1), .second, .val (.ref r5), .val (.int i2), .val (.int i3), .val (.int i4)] [(.ref r1)])) rfl (by rw [hml]; rfl) (Steps.refl _) (a := r1) (argsL := []) (rest := []) (lenOf pd_3 rfl) rfl (by show 2 * 0 + _ ≤ _; exact Nat.le_of_eq rfl) (hb hby d7_1) (fun _ _ => ⟨rfl, e0, (by decide : 0 + 0 ≤ _), (by decide : 0 + 0 ≤ _)⟩)
  dsimp only [Pt.U, Pt.locs, Pt.cells, Pt.slots] at X1 l1 y1 z1 st1 hQ1
  subst l1 y1 z1
  obtain ⟨rfl, N2, eh3⟩ := hQ1
  have N4 := Fr.app N0 N2
  refine Go.via st1 ?_
  show Go p e below Qo T1 (mkF m 4 #[.val (.ref r1), .val (.ref r2), .val (.ref r3), .val (.ref r4), .val (.int i1), .val (.double d1), .second, .val (.ref r5), .val (.int i2), .val (.int i3), .val (.int i4)] [])
  refine Go.of (fun t k => XS.aloadN X1.here hx rfl (hb hby d7_4) rfl rfl k) ?_
  show Go p e below Qo T1 (mkF m 5 #[.val (.ref r1), .val (.ref r2), .val (.ref r3), .val (.ref r4), .val (.int i1), .val (.double d1), .second, .val (.ref r5), .val (.int i2), .val (.int i3), .val (.int i4)] [(.ref r1)])
  refine Go.of (fun t k => XS.aloadN X1.here hx rfl (hb hby d7_5) rfl rfl k) ?_
  show Go p e below Qo T1 (mkF m 6 #[.val (.ref r1), .val (.ref r2), .val (.ref r3), .val (.ref r4), .val (.int i1), .val (.double d1), .second, .val (.ref r5), .val (.int i2), .val (.int i3), .val (.int i4)] [(.ref r2), (.ref r1)])
  obtain ⟨T5, h5, X5, e5, W5, st5⟩ := putF X1 hx hZ hown (host := "") (Or.inl (hw _ (List.mem_of_getElem? (i := 47) rfl))) Via.refl eh3 f1 f0 (Or.inr ⟨(hw _ (List.mem_of_getElem? (i := 48) rfl)), rfl, hnm⟩) (hw _ (List.mem_of_getElem? (i := 36) rfl)) (ty := (.object "java/lang/String")) (by decide) rfl rfl (g := (mkF m 6 #[.val (.ref r1), .val (.ref r2), .val (.ref r3), .val (.ref r4), .val (.int i1), .val (.double d1), .second, .val (.ref r5), .val (.int i2), .val (.int i3), .val (.int i4)] [(.ref r2), (.ref r1)])) rfl rfl (hb hby d7_6)
  have q6 : Exa Z h5 r1 "com/example/werktag/werktag/Person" := f0.wr W5
  have q7 : Fld Z h5 r1 "com/example/werktag/werktag/Person" "id" "Ljava/lang/String;" (.ref r2) := f1.same W5
  have q8 : Fld Z h5 r1 "com/example/werktag/werktag/Person" "householdId" "Ljava/lang/String;" u_1 := f2.other W5 (Or.inr (slot_ne (Or.inr (hw _ (List.mem_of_getElem? (i := 50) rfl))) (Or.inr (hw _ (List.mem_of_getElem? (i := 48) rfl))) (by decide) (t := (.object "java/lang/String")) (t' := (.object "java/lang/String")) (by decide) (by decide)))
  have q9 : Fld Z h5 r1 "com/example/werktag/werktag/Person" "homeZone" "Ljava/lang/String;" u_2 := f3.other W5 (Or.inr (slot_ne (Or.inr (hw _ (List.mem_of_getElem? (i := 52) rfl))) (Or.inr (hw _ (List.mem_of_getElem? (i := 48) rfl))) (by decide) (t := (.object "java/lang/String")) (t' := (.object "java/lang/String")) (by decide) (by decide)))
  have q10 : Fld Z h5 r1 "com/example/werktag/werktag/Person" "age" "I" u_3 := f4.other W5 (Or.inr (slot_ne (Or.inr (hw _ (List.mem_of_getElem? (i := 54) rfl))) (Or.inr (hw _ (List.mem_of_getElem? (i := 48) rfl))) (by decide) (t := .int) (t' := (.object "java/lang/String")) (by decide) (by decide)))
  have q11 : Fld Z h5 r1 "com/example/werktag/werktag/Person" "employmentPct" "D" u_4 := f5.other W5 (Or.inr (slot_ne (Or.inr (hw _ (List.mem_of_getElem? (i := 56) rfl))) (Or.inr (hw _ (List.mem_of_getElem? (i := 48) rfl))) (by decide) (t := .double) (t' := (.object "java/lang/String")) (by decide) (by decide)))
  have q12 : Fld Z h5 r1 "com/example/werktag/werktag/Person" "education" "Lcom/example/werktag/werktag/Education;" u_5 := f6.other W5 (Or.inr (slot_ne (Or.inr (hw _ (List.mem_of_getElem? (i := 58) rfl))) (Or.inr (hw _ (List.mem_of_getElem? (i := 48) rfl))) (by decide) (t := (.object "com/example/werktag/werktag/Education")) (t' := (.object "java/lang/String")) (by decide) (by decide)))
  have q13 : Fld Z h5 r1 "com/example/werktag/werktag/Person" "carAvailable" "Z" u_6 := f7.other W5 (Or.inr (slot_ne (Or.inr (hw _ (List.mem_of_getElem? (i := 60) rfl))) (Or.inr (hw _ (List.mem_of_getElem? (i := 48) rfl))) (by decide) (t := .boolean) (t' := (.object "java/lang/String")) (by decide) (by decide)))
  have q14 : Fld Z h5 r1 "com/example/werktag/werktag/Person" "ptSubscription" "Z" u_7 := f8.other W5 (Or.inr (slot_ne (Or.inr (hw _ (List.mem_of_getElem? (i := 62) rfl))) (Or.inr (hw _ (List.mem_of_getElem? (i := 48) rfl))) (by decide) (t := .boolean) (t' := (.object "java/lang/String")) (by decide) (by decide)))
  have q15 : Fld Z h5 r1 "com/example/werktag/werktag/Person" "kidsInHousehold" "Z" u_8 := f9.other W5 (Or.inr (slot_ne (Or.inr (hw _ (List.mem_of_getElem? (i := 64) rfl))) (Or.inr (hw _ (List.mem_of_getElem? (i := 48) rfl))) (by decide) (t := .boolean) (t' := (.object "java/lang/String")) (by decide) (by decide)))
  have Z16 : n0 ≤ h5.size := Nat.le_trans Z0 (Keep.of_wr W5).1
  have K17 : Keep h0 h5 [r1] := (Keep.refl h0 [r1]).wr W5 (Or.inl (List.mem_of_getElem? (i := 0) rfl))
  have N18 := Fr.snoc X5 N4 g_r1
  refine Go.of st5 ?_
  show Go p e below Qo T5 (mkF m 9 #[.val (.ref r1), .val (.ref r2), .val (.ref r3), .val (.ref r4), .val (.int i1), .val (.double d1), .second, .val (.ref r5), .val (.int i2), .val (.int i3), .val (.int i4)] [])
  refine Go.of (fun t k => XS.aloadN X5.here hx rfl (hb hby d7_9) rfl rfl k) ?_
  show Go p e below Qo T5 (mkF m 10 #[.val (.ref r1), .val (.ref r2), .val (.ref r3), .val (.ref r4), .val (.int i1), .val (.double d1), .second, .val (.ref r5), .val (.int i2), .val (.int i3), .val (.int i4)] [(.ref r1)])
  refine Go.of (fun t k => XS.aloadN X5.here hx rfl (hb hby d7_10) rfl rfl k) ?_
  show Go p e below Qo T5 (mkF m 11 #[.val (.ref r1), .val (.ref r2), .val (.ref r3), .val (.ref r4), .val (.int i1), .val (.double d1), .second, .val (.ref r5), .val (.int i2), .val (.int i3), .val (.int i4)] [(.ref r3), (.ref r1)])
  obtain ⟨T19, h19, X19, e19, W19, st19⟩ := putF X5 hx hZ hown (host := "") (Or.inl (hw _ (List.mem_of_getElem? (i := 49) rfl))) Via.refl e5 q8 q6 (Or.inr ⟨(hw _ (List.mem_of_getElem? (i := 50) rfl)), rfl, hnm⟩) (hw _ (List.mem_of_getElem? (i := 36) rfl)) (ty := (.object "java/lang/String")) (by decide) rfl rfl (g := (mkF m 11 #[.val (.ref r1), .val (.ref r2), .val (.ref r3), .val (.ref r4), .val (.int i1), .val (.double d1), .second, .val (.ref r5), .val (.int i2), .val (.int i3), .val (.int i4)] [(.ref r3), (.ref r1)])) rfl rfl (hb hby d7_11)
  have q20 : Exa Z h19 r1 "com/example/werktag/werktag/Person" := q6.wr W19
  have q21 : Fld Z h19 r1 "com/example/werktag/werktag/Person" "id" "Ljava/lang/String;" (.ref r2) := q7.other W19 (Or.inr (slot_ne (Or.inr (hw _ (List.mem_of_getElem? (i := 48) rfl))) (Or.inr (hw _ (List.mem_of_getElem? (i := 50) rfl))) (by decide) (t := (.object "java/lang/String")) (t' := (.object "java/lang/String")) (by decide) (by decide)))
  have q22 : Fld Z h19 r1 "com/example/werktag/werktag/Person" "householdId" "Ljava/lang/String;" (.ref r3) := q8.same W19
  have q23 : Fld Z h19 r1 "com/example/werktag/werktag/Person" "homeZone" "Ljava/lang/String;" u_2 := q9.other W19 (Or.inr (slot_ne (Or.inr (hw _ (List.mem_of_getElem? (i := 52) rfl))) (Or.inr (hw _ (List.mem_of_getElem? (i := 50) rfl))) (by decide) (t := (.object "java/lang/String")) (t' := (.object "java/lang/String")) (by decide) (by decide)))
  have q24 : Fld Z h19 r1 "com/example/werktag/werktag/Person" "age" "I" u_3 := q10.other W19 (Or.inr (slot_ne (Or.inr (hw _ (List.mem_of_getElem? (i := 54) rfl))) (Or.inr (hw _ (List.mem_of_getElem? (i := 50) rfl))) (by decide) (t := .int) (t' := (.object "java/lang/String")) (by decide) (by decide)))
  have q25 : Fld Z h19 r1 "com/example/werktag/werktag/Person" "employmentPct" "D" u_4 := q11.other W19 (Or.inr (slot_ne (Or.inr (hw _ (List.mem_of_getElem? (i := 56) rfl))) (Or.inr (hw _ (List.mem_of_getElem? (i := 50) rfl))) (by decide) (t := .double) (t' := (.object "java/lang/String")) (by decide) (by decide)))
  have q26 : Fld Z h19 r1 "com/example/werktag/werktag/Person" "education" "Lcom/example/werktag/werktag/Education;" u_5 := q12.other W19 (Or.inr (slot_ne (Or.inr (hw _ (List.mem_of_getElem? (i := 58) rfl))) (Or.inr (hw _ (List.mem_of_getElem? (i := 50) rfl))) (by decide) (t := (.object "com/example/werktag/werktag/Education")) (t' := (.object "java/lang/String")) (by decide) (by decide)))
  have q27 : Fld Z h19 r1 "com/example/werktag/werktag/Person" "carAvailable" "Z" u_6 := q13.other W19 (Or.inr (slot_ne (Or.inr (hw _ (List.mem_of_getElem? (i := 60) rfl))) (Or.inr (hw _ (List.mem_of_getElem? (i := 50) rfl))) (by decide) (t := .boolean) (t' := (.object "java/lang/String")) (by decide) (by decide)))
  have q28 : Fld Z h19 r1 "com/example/werktag/werktag/Person" "ptSubscription" "Z" u_7 := q14.other W19 (Or.inr (slot_ne (Or.inr (hw _ (List.mem_of_getElem? (i := 62) rfl))) (Or.inr (hw _ (List.mem_of_getElem? (i := 50) rfl))) (by decide) (t := .boolean) (t' := (.object "java/lang/String")) (by decide) (by decide)))
  have q29 : Fld Z h19 r1 "com/example/werktag/werktag/Person" "kidsInHousehold" "Z" u_8 := q15.other W19 (Or.inr (slot_ne (Or.inr (hw _ (List.mem_of_getElem? (i := 64) rfl))) (Or.inr (hw _ (List.mem_of_getElem? (i := 50) rfl))) (by decide) (t := .boolean) (t' := (.object "java/lang/String")) (by decide) (by decide)))
  have Z30 : n0 ≤ h19.size := Nat.le_trans Z16 (Keep.of_wr W19).1
  have K31 : Keep h0 h19 [r1] := K17.wr W19 (Or.inl (List.mem_of_getElem? (i := 0) rfl))
  have N32 := Fr.snoc X19 N18 g_r1
  refine Go.of st19 ?_
  show Go p e below Qo T19 (mkF m 14 #[.val (.ref r1), .val (.ref r2), .val (.ref r3), .val (.ref r4), .val (.int i1), .val (.double d1), .second, .val (.ref r5), .val (.int i2), .val (.int i3), .val (.int i4)] [])
  refine Go.of (fun t k => XS.aloadN X19.here hx rfl (hb hby d7_14) rfl rfl k) ?_
  show Go p e below Qo T19 (mkF m 15 #[.val (.ref r1), .val (.ref r2), .val (.ref r3), .val (.ref r4), .val (.int i1), .val (.double d1), .second, .val (.ref r5), .val (.int i2), .val (.int i3), .val (.int i4)] [(.ref r1)])
  refine Go.of (fun t k => XS.aloadN X19.here hx rfl (hb hby d7_15) rfl rfl k) ?_
  show Go p e below Qo T19 (mkF m 16 #[.val (.ref r1), .val (.ref r2), .val (.ref r3), .val (.ref r4), .val (.int i1), .val (.double d1), .second, .val (.ref r5), .val (.int i2), .val (.int i3), .val (.int i4)] [(.ref r4), (.ref r1)])
  obtain ⟨T33, h33, X33, e33, W33, st33⟩ := putF X19 hx hZ hown (host := "") (Or.inl (hw _ (List.mem_of_getElem? (i := 51) rfl))) Via.refl e19 q23 q20 (Or.inr ⟨(hw _ (List.mem_of_getElem? (i := 52) rfl)), rfl, hnm⟩) (hw _ (List.mem_of_getElem? (i := 36) rfl)) (ty := (.object "java/lang/String")) (by decide) rfl rfl (g := (mkF m 16 #[.val (.ref r1), .val (.ref r2), .val (.ref r3), .val (.ref r4), .val (.int i1), .val (.double d1), .second, .val (.ref r5), .val (.int i2), .val (.int i3), .val (.int i4)] [(.ref r4), (.ref r1)])) rfl rfl (hb hby d7_16)
  have q34 : Exa Z h33 r1 "com/example/werktag/werktag/Person" := q20.wr W33
  have q35 : Fld Z h33 r1 "com/example/werktag/werktag/Person" "id" "Ljava/lang/String;" (.ref r2) := q21.other W33 (Or.inr (slot_ne (Or.inr (hw _ (List.mem_of_getElem? (i := 48) rfl))) (Or.inr (hw _ (List.mem_of_getElem? (i := 52) rfl))) (by decide) (t := (.object "java/lang/String")) (t' := (.object "java/lang/String")) (by decide) (by decide)))
  have q36 : Fld Z h33 r1 "com/example/werktag/werktag/Person" "householdId" "Ljava/lang/String;" (.ref r3) := q22.other W33 (Or.inr (slot_ne (Or.inr (hw _ (List.mem_of_getElem? (i := 50) rfl))) (Or.inr (hw _ (List.mem_of_getElem? (i := 52) rfl))) (by decide) (t := (.object "java/lang/String")) (t' := (.object "java/lang/String")) (by decide) (by decide)))
  have q37 : Fld Z h33 r1 "com/example/werktag/werktag/Person" "homeZone" "Ljava/lang/String;" (.ref r4) := q23.same W33
  have q38 : Fld Z h33 r1 "com/example/werktag/werktag/Person" "age" "I" u_3 := q24.other W33 (Or.inr (slot_ne (Or.inr (hw _ (List.mem_of_getElem? (i := 54) rfl))) (Or.inr (hw _ (List.mem_of_getElem? (i := 52) rfl))) (by decide) (t := .int) (t' := (.object "java/lang/String")) (by decide) (by decide)))
  have q39 : Fld Z h33 r1 "com/example/werktag/werktag/Person" "employmentPct" "D" u_4 := q25.other W33 (Or.inr (slot_ne (Or.inr (hw _ (List.mem_of_getElem? (i := 56) rfl))) (Or.inr (hw _ (List.mem_of_getElem? (i := 52) rfl))) (by decide) (t := .double) (t' := (.object "java/lang/String")) (by decide) (by decide)))
  have q40 : Fld Z h33 r1 "com/example/werktag/werktag/Person" "education" "Lcom/example/werktag/werktag/Education;" u_5 := q26.other W33 (Or.inr (slot_ne (Or.inr (hw _ (List.mem_of_getElem? (i := 58) rfl))) (Or.inr (hw _ (List.mem_of_getElem? (i := 52) rfl))) (by decide) (t := (.object "com/example/werktag/werktag/Education")) (t' := (.object "java/lang/String")) (by decide) (by decide)))
  have q41 : Fld Z h33 r1 "com/example/werktag/werktag/Person" "carAvailable" "Z" u_6 := q27.other W33 (Or.inr (slot_ne (Or.inr (hw _ (List.mem_of_getElem? (i := 60) rfl))) (Or.inr (hw _ (List.mem_of_getElem? (i := 52) rfl))) (by decide) (t := .boolean) (t' := (.object "java/lang/String")) (by decide) (by decide)))
  have q42 : Fld Z h33 r1 "com/example/werktag/werktag/Person" "ptSubscription" "Z" u_7 := q28.other W33 (Or.inr (slot_ne (Or.inr (hw _ (List.mem_of_getElem? (i := 62) rfl))) (Or.inr (hw _ (List.mem_of_getElem? (i := 52) rfl))) (by decide) (t := .boolean) (t' := (.object "java/lang/String")) (by decide) (by decide)))
  have q43 : Fld Z h33 r1 "com/example/werktag/werktag/Person" "kidsInHousehold" "Z" u_8 := q29.other W33 (Or.inr (slot_ne (Or.inr (hw _ (List.mem_of_getElem? (i := 64) rfl))) (Or.inr (hw _ (List.mem_of_getElem? (i := 52) rfl))) (by decide) (t := .boolean) (t' := (.object "java/lang/String")) (by decide) (by decide)))
  have Z44 : n0 ≤ h33.size := Nat.le_trans Z30 (Keep.of_wr W33).1
  have K45 : Keep h0 h33 [r1] := K31.wr W33 (Or.inl (List.mem_of_getElem? (i := 0) rfl))
  have N46 := Fr.snoc X33 N32 g_r1
  refine Go.of st33 ?_
  show Go p e below Qo T33 (mkF m 19 #[.val (.ref r1), .val (.ref r2), .val (.ref r3), .val (.ref r4), .val (.int i1), .val (.double d1), .second, .val (.ref r5), .val (.int i2), .val (.int i3), .val (.int i4)] [])
  refine Go.of (fun t k => XS.aloadN X33.here hx rfl (hb hby d7_19) rfl rfl k) ?_
  show Go p e below Qo T33 (mkF m 20 #[.val (.ref r1), .val (.ref r2), .val (.ref r3), .val (.ref r4), .val (.int i1), .val (.double d1), .second, .val (.ref r5), .val (.int i2), .val (.int i3), .val (.int i4)] [(.ref r1)])
  refine Go.of (fun t k => XS.iload X33.here hx rfl (hb hby d7_20) rfl  k) ?_
  show Go p e below Qo T33 (mkF m 22 #[.val (.ref r1), .val (.ref r2), .val (.ref r3), .val (.ref r4), .val (.int i1), .val (.double d1), .second, .val (.ref r5), .val (.int i2), .val (.int i3), .val (.int i4)] [(.int i1), (.ref r1)])
  obtain ⟨T47, h47, X47, e47, W47, st47⟩ := putF X33 hx hZ hown (host := "") (Or.inl (hw _ (List.mem_of_getElem? (i := 53) rfl))) Via.refl e33 q38 q34 (Or.inr ⟨(hw _ (List.mem_of_getElem? (i := 54) rfl)), rfl, hnm⟩) (hw _ (List.mem_of_getElem? (i := 36) rfl)) (ty := .int) (by decide) rfl rfl (g := (mkF m 22 #[.val (.ref r1), .val (.ref r2), .val (.ref r3), .val (.ref r4), .val (.int i1), .val (.double d1), .second, .val (.ref r5), .val (.int i2), .val (.int i3), .val (.int i4)] [(.int i1), (.ref r1)])) rfl rfl (hb hby d7_22)
  have q48 : Exa Z h47 r1 "com/example/werktag/werktag/Person" := q34.wr W47
  have q49 : Fld Z h47 r1 "com/example/werktag/werktag/Person" "id" "Ljava/lang/String;" (.ref r2) := q35.other W47 (Or.inr (slot_ne (Or.inr (hw _ (List.mem_of_getElem? (i := 48) rfl))) (Or.inr (hw _ (List.mem_of_getElem? (i := 54) rfl))) (by decide) (t := (.object "java/lang/String")) (t' := .int) (by decide) (by decide)))
  have q50 : Fld Z h47 r1 "com/example/werktag/werktag/Person" "householdId" "Ljava/lang/String;" (.ref r3) := q36.other W47 (Or.inr (slot_ne (Or.inr (hw _ (List.mem_of_getElem? (i := 50) rfl))) (Or.inr (hw _ (List.mem_of_getElem? (i := 54) rfl))) (by decide) (t := (.object "java/lang/String")) (t' := .int) (by decide) (by decide)))
  have q51 : Fld Z h47 r1 "com/example/werktag/werktag/Person" "homeZone" "Ljava/lang/String;" (.ref r4) := q37.other W47 (Or.inr (slot_ne (Or.inr (hw _ (List.mem_of_getElem? (i := 52) rfl))) (Or.inr (hw _ (List.mem_of_getElem? (i := 54) rfl))) (by decide) (t := (.object "java/lang/String")) (t' := .int) (by decide) (by decide)))
  have q52 : Fld Z h47 r1 "com/example/werktag/werktag/Person" "age" "I" (.int i1) := q38.same W47
  have q53 : Fld Z h47 r1 "com/example/werktag/werktag/Person" "employmentPct" "D" u_4 := q39.other W47 (Or.inr (slot_ne (Or.inr (hw _ (List.mem_of_getElem? (i := 56) rfl))) (Or.inr (hw _ (List.mem_of_getElem? (i := 54) rfl))) (by decide) (t := .double) (t' := .int) (by decide) (by decide)))
  have q54 : Fld Z h47 r1 "com/example/werktag/werktag/Person" "education" "Lcom/example/werktag/werktag/Education;" u_5 := q40.other W47 (Or.inr (slot_ne (Or.inr (hw _ (List.mem_of_getElem? (i := 58) rfl))) (Or.inr (hw _ (List.mem_of_getElem? (i := 54) rfl))) (by decide) (t := (.object "com/example/werktag/werktag/Education")) (t' := .int) (by decide) (by decide)))
  have q55 : Fld Z h47 r1 "com/example/werktag/werktag/Person" "carAvailable" "Z" u_6 := q41.other W47 (Or.inr (slot_ne (Or.inr (hw _ (List.mem_of_getElem? (i := 60) rfl))) (Or.inr (hw _ (List.mem_of_getElem? (i := 54) rfl))) (by decide) (t := .boolean) (t' := .int) (by decide) (by decide)))
  have q56 : Fld Z h47 r1 "com/example/werktag/werktag/Person" "ptSubscription" "Z" u_7 := q42.other W47 (Or.inr (slot_ne (Or.inr (hw _ (List.mem_of_getElem? (i := 62) rfl))) (Or.inr (hw _ (List.mem_of_getElem? (i := 54) rfl))) (by decide) (t := .boolean) (t' := .int) (by decide) (by decide)))
  have q57 : Fld Z h47 r1 "com/example/werktag/werktag/Person" "kidsInHousehold" "Z" u_8 := q43.other W47 (Or.inr (slot_ne (Or.inr (hw _ (List.mem_of_getElem? (i := 64) rfl))) (Or.inr (hw _ (List.mem_of_getElem? (i := 54) rfl))) (by decide) (t := .boolean) (t' := .int) (by decide) (by decide)))
  have Z58 : n0 ≤ h47.size := Nat.le_trans Z44 (Keep.of_wr W47).1
  have K59 : Keep h0 h47 [r1] := K45.wr W47 (Or.inl (List.mem_of_getElem? (i := 0) rfl))
  have N60 := Fr.snoc X47 N46 g_r1
  refine Go.of st47 ?_
  show Go p e below Qo T47 (mkF m 25 #[.val (.ref r1), .val (.ref r2), .val (.ref r3), .val (.ref r4), .val (.int i1), .val (.double d1), .second, .val (.ref r5), .val (.int i2), .val (.int i3), .val (.int i4)] [])
  refine Go.of (fun t k => XS.aloadN X47.here hx rfl (hb hby d7_25) rfl rfl k) ?_
  show Go p e below Qo T47 (mkF m 26 #[.val (.ref r1), .val (.ref r2), .val (.ref r3), .val (.ref r4), .val (.int i1), .val (.double d1), .second, .val (.ref r5), .val (.int i2), .val (.int i3), .val (.int i4)] [(.ref r1)])
  refine Go.of (fun t k => XS.dload X47.here hx rfl (hb hby d7_26) rfl  k) ?_
  show Go p e below Qo T47 (mkF m 28 #[.val (.ref r1), .val (.ref r2), .val (.ref r3), .val (.ref r4), .val (.int i1), .val (.double d1), .second, .val (.ref r5), .val (.int i2), .val (.int i3), .val (.int i4)] [(.double d1), (.ref r1)])
  obtain ⟨T61, h61, X61, e61, W61, st61⟩ := putF X47 hx hZ hown (host := "") (Or.inl (hw _ (List.mem_of_getElem? (i := 55) rfl))) Via.refl e47 q53 q48 (Or.inr ⟨(hw _ (List.mem_of_getElem? (i := 56) rfl)), rfl, hnm⟩) (hw _ (List.mem_of_getElem? (i := 36) rfl)) (ty := .double) (by decide) rfl rfl (g := (mkF m 28 #[.val (.ref r1), .val (.ref r2), .val (.ref r3), .val (.ref r4), .val (.int i1), .val (.double d1), .second, .val (.ref r5), .val (.int i2), .val (.int i3), .val (.int i4)] [(.double d1), (.ref r1)])) rfl rfl (hb hby d7_28)
  have q62 : Exa Z h61 r1 "com/example/werktag/werktag/Person" := q48.wr W61
  have q63 : Fld Z h61 r1 "com/example/werktag/werktag/Person" "id" "Ljava/lang/String;" (.ref r2) := q49.other W61 (Or.inr (slot_ne (Or.inr (hw _ (List.mem_of_getElem? (i := 48) rfl))) (Or.inr (hw _ (List.mem_of_getElem? (i := 56) rfl))) (by decide) (t := (.object "java/lang/String")) (t' := .double) (by decide) (by decide)))
  have q64 : Fld Z h61 r1 "com/example/werktag/werktag/Person" "householdId" "Ljava/lang/String;" (.ref r3) := q50.other W61 (Or.inr (slot_ne (Or.inr (hw _ (List.mem_of_getElem? (i := 50) rfl))) (Or.inr (hw _ (List.mem_of_getElem? (i := 56) rfl))) (by decide) (t := (.object "java/lang/String")) (t' := .double) (by decide) (by decide)))
  have q65 : Fld Z h61 r1 "com/example/werktag/werktag/Person" "homeZone" "Ljava/lang/String;" (.ref r4) := q51.other W61 (Or.inr (slot_ne (Or.inr (hw _ (List.mem_of_getElem? (i := 52) rfl))) (Or.inr (hw _ (List.mem_of_getElem? (i := 56) rfl))) (by decide) (t := (.object "java/lang/String")) (t' := .double) (by decide) (by decide)))
  have q66 : Fld Z h61 r1 "com/example/werktag/werktag/Person" "age" "I" (.int i1) := q52.other W61 (Or.inr (slot_ne (Or.inr (hw _ (List.mem_of_getElem? (i := 54) rfl))) (Or.inr (hw _ (List.mem_of_getElem? (i := 56) rfl))) (by decide) (t := .int) (t' := .double) (by decide) (by decide)))
  have q67 : Fld Z h61 r1 "com/example/werktag/werktag/Person" "employmentPct" "D" (.double d1) := q53.same W61
  have q68 : Fld Z h61 r1 "com/example/werktag/werktag/Person" "education" "Lcom/example/werktag/werktag/Education;" u_5 := q54.other W61 (Or.inr (slot_ne (Or.inr (hw _ (List.mem_of_getElem? (i := 58) rfl))) (Or.inr (hw _ (List.mem_of_getElem? (i := 56) rfl))) (by decide) (t := (.object "com/example/werktag/werktag/Education")) (t' := .double) (by decide) (by decide)))
  have q69 : Fld Z h61 r1 "com/example/werktag/werktag/Person" "carAvailable" "Z" u_6 := q55.other W61 (Or.inr (slot_ne (Or.inr (hw _ (List.mem_of_getElem? (i := 60) rfl))) (Or.inr (hw _ (List.mem_of_getElem? (i := 56) rfl))) (by decide) (t := .boolean) (t' := .double) (by decide) (by decide)))
  have q70 : Fld Z h61 r1 "com/example/werktag/werktag/Person" "ptSubscription" "Z" u_7 := q56.other W61 (Or.inr (slot_ne (Or.inr (hw _ (List.mem_of_getElem? (i := 62) rfl))) (Or.inr (hw _ (List.mem_of_getElem? (i := 56) rfl))) (by decide) (t := .boolean) (t' := .double) (by decide) (by decide)))
  have q71 : Fld Z h61 r1 "com/example/werktag/werktag/Person" "kidsInHousehold" "Z" u_8 := q57.other W61 (Or.inr (slot_ne (Or.inr (hw _ (List.mem_of_getElem? (i := 64) rfl))) (Or.inr (hw _ (List.mem_of_getElem? (i := 56) rfl))) (by decide) (t := .boolean) (t' := .double) (by decide) (by decide)))
  have Z72 : n0 ≤ h61.size := Nat.le_trans Z58 (Keep.of_wr W61).1
  have K73 : Keep h0 h61 [r1] := K59.wr W61 (Or.inl (List.mem_of_getElem? (i := 0) rfl))
  have N74 := Fr.snoc X61 N60 g_r1
  refine Go.of st61 ?_
  show Go p e below Qo T61 (mkF m 31 #[.val (.ref r1), .val (.ref r2), .val (.ref r3), .val (.ref r4), .val (.int i1), .val (.double d1), .second, .val (.ref r5), .val (.int i2), .val (.int i3), .val (.int i4)] [])
  refine Go.of (fun t k => XS.aloadN X61.here hx rfl (hb hby d7_31) rfl rfl k) ?_
  show Go p e below Qo T61 (mkF m 32 #[.val (.ref r1), .val (.ref r2), .val (.ref r3), .val (.ref r4), .val (.int i1), .val (.double d1), .second, .val (.ref r5), .val (.int i2), .val (.int i3), .val (.int i4)] [(.ref r1)])
  refine Go.of (fun t k => XS.aload X61.here hx rfl (hb hby d7_32) rfl rfl k) ?_
  show Go p e below Qo T61 (mkF m 34 #[.val (.ref r1), .val (.ref r2), .val (.ref r3), .val (.ref r4), .val (.int i1), .val (.double d1), .second, .val (.ref r5), .val (.int i2), .val (.int i3), .val (.int i4)] [(.ref r5), (.ref r1)])
  obtain ⟨T75, h75, X75, e75, W75, st75⟩ := putF X61 hx hZ hown (host := "") (Or.inl (hw _ (List.mem_of_getElem? (i := 57) rfl))) Via.refl e61 q68 q62 (Or.inr ⟨(hw _ (List.mem_of_getElem? (i := 58) rfl)), rfl, hnm⟩) (hw _ (List.mem_of_getElem? (i := 36) rfl)) (ty := (.object "com/example/werktag/werktag/Education")) (by decide) rfl rfl (g := (mkF m 34 #[.val (.ref r1), .val (.ref r2), .val (.ref r3), .val (.ref r4), .val (.int i1), .val (.double d1), .second, .val (.ref r5), .val (.int i2), .val (.int i3), .val (.int i4)] [(.ref r5), (.ref r1)])) rfl rfl (hb hby d7_34)
  have q76 : Exa Z h75 r1 "com/example/werktag/werktag/Person" := q62.wr W75
  have q77 : Fld Z h75 r1 "com/example/werktag/werktag/Person" "id" "Ljava/lang/String;" (.ref r2) := q63.other W75 (Or.inr (slot_ne (Or.inr (hw _ (List.mem_of_getElem? (i := 48) rfl))) (Or.inr (hw _ (List.mem_of_getElem? (i := 58) rfl))) (by decide) (t := (.object "java/lang/String")) (t' := (.object "com/example/werktag/werktag/Education")) (by decide) (by decide)))
  have q78 : Fld Z h75 r1 "com/example/werktag/werktag/Person" "householdId" "Ljava/lang/String;" (.ref r3) := q64.other W75 (Or.inr (slot_ne (Or.inr (hw _ (List.mem_of_getElem? (i := 50) rfl))) (Or.inr (hw _ (List.mem_of_getElem? (i := 58) rfl))) (by decide) (t := (.object "java/lang/String")) (t' := (.object "com/example/werktag/werktag/Education")) (by decide) (by decide)))
  have q79 : Fld Z h75 r1 "com/example/werktag/werktag/Person" "homeZone" "Ljava/lang/String;" (.ref r4) := q65.other W75 (Or.inr (slot_ne (Or.inr (hw _ (List.mem_of_getElem? (i := 52) rfl))) (Or.inr (hw _ (List.mem_of_getElem? (i := 58) rfl))) (by decide) (t := (.object "java/lang/String")) (t' := (.object "com/example/werktag/werktag/Education")) (by decide) (by decide)))
  have q80 : Fld Z h75 r1 "com/example/werktag/werktag/Person" "age" "I" (.int i1) := q66.other W75 (Or.inr (slot_ne (Or.inr (hw _ (List.mem_of_getElem? (i := 54) rfl))) (Or.inr (hw _ (List.mem_of_getElem? (i := 58) rfl))) (by decide) (t := .int) (t' := (.object "com/example/werktag/werktag/Education")) (by decide) (by decide)))
  have q81 : Fld Z h75 r1 "com/example/werktag/werktag/Person" "employmentPct" "D" (.double d1) := q67.other W75 (Or.inr (slot_ne (Or.inr (hw _ (List.mem_of_getElem? (i := 56) rfl))) (Or.inr (hw _ (List.mem_of_getElem? (i := 58) rfl))) (by decide) (t := .double) (t' := (.object "com/example/werktag/werktag/Education")) (by decide) (by decide)))
  have q82 : Fld Z h75 r1 "com/example/werktag/werktag/Person" "education" "Lcom/example/werktag/werktag/Education;" (.ref r5) := q68.same W75
  have q83 : Fld Z h75 r1 "com/example/werktag/werktag/Person" "carAvailable" "Z" u_6 := q69.other W75 (Or.inr (slot_ne (Or.inr (hw _ (List.mem_of_getElem? (i := 60) rfl))) (Or.inr (hw _ (List.mem_of_getElem? (i := 58) rfl))) (by decide) (t := .boolean) (t' := (.object "com/example/werktag/werktag/Education")) (by decide) (by decide)))
  have q84 : Fld Z h75 r1 "com/example/werktag/werktag/Person" "ptSubscription" "Z" u_7 := q70.other W75 (Or.inr (slot_ne (Or.inr (hw _ (List.mem_of_getElem? (i := 62) rfl))) (Or.inr (hw _ (List.mem_of_getElem? (i := 58) rfl))) (by decide) (t := .boolean) (t' := (.object "com/example/werktag/werktag/Education")) (by decide) (by decide)))
  have q85 : Fld Z h75 r1 "com/example/werktag/werktag/Person" "kidsInHousehold" "Z" u_8 := q71.other W75 (Or.inr (slot_ne (Or.inr (hw _ (List.mem_of_getElem? (i := 64) rfl))) (Or.inr (hw _ (List.mem_of_getElem? (i := 58) rfl))) (by decide) (t := .boolean) (t' := (.object "com/example/werktag/werktag/Education")) (by decide) (by decide)))
  have Z86 : n0 ≤ h75.size := Nat.le_trans Z72 (Keep.of_wr W75).1
  have K87 : Keep h0 h75 [r1] := K73.wr W75 (Or.inl (List.mem_of_getElem? (i := 0) rfl))
  have N88 := Fr.snoc X75 N74 g_r1
  refine Go.of st75 ?_
  show Go p e below Qo T75 (mkF m 37 #[.val (.ref r1), .val (.ref r2), .val (.ref r3), .val (.ref r4), .val (.int i1), .val (.double d1), .second, .val (.ref r5), .val (.int i2), .val (.int i3), .val (.int i4)] [])
  refine Go.of (fun t k => XS.aloadN X75.here hx rfl (hb hby d7_37) rfl rfl k) ?_
  show Go p e below Qo T75 (mkF m 38 #[.val (.ref r1), .val (.ref r2), .val (.ref r3), .val (.ref r4), .val (.int i1), .val (.double d1), .second, .val (.ref r5), .val (.int i2), .val (.int i3), .val (.int i4)] [(.ref r1)])
  refine Go.of (fun t k => XS.iload X75.here hx rfl (hb hby d7_38) rfl  k) ?_
  show Go p e below Qo T75 (mkF m 40 #[.val (.ref r1), .val (.ref r2), .val (.ref r3), .val (.ref r4), .val (.int i1), .val (.double d1), .second, .val (.ref r5), .val (.int i2), .val (.int i3), .val (.int i4)] [(.int i2), (.ref r1)])
  obtain ⟨T89, h89, X89, e89, W89, st89⟩ := putFN X75 hx hZ hown (hw _ (List.mem_of_getElem? (i := 59) rfl)) Via.refl e75 q83 q76 (Or.inr ⟨(hw _ (List.mem_of_getElem? (i := 60) rfl)), rfl, hnm⟩) (hw _ (List.mem_of_getElem? (i := 36) rfl)) (ty := .boolean) (v' := (.int (nar .boolean i2))) (by decide) rfl (fits_nar_bool _) (g := (mkF m 40 #[.val (.ref r1), .val (.ref r2), .val (.ref r3), .val (.ref r4), .val (.int i1), .val (.double d1), .second, .val (.ref r5), .val (.int i2), .val (.int i3), .val (.int i4)] [(.int i2), (.ref r1)])) rfl rfl (hb hby d7_40)
  have q90 : Exa Z h89 r1 "com/example/werktag/werktag/Person" := q76.wr W89
  have q91 : Fld Z h89 r1 "com/example/werktag/werktag/Person" "id" "Ljava/lang/String;" (.ref r2) := q77.other W89 (Or.inr (slot_ne (Or.inr (hw _ (List.mem_of_getElem? (i := 48) rfl))) (Or.inr (hw _ (List.mem_of_getElem? (i := 60) rfl))) (by decide) (t := (.object "java/lang/String")) (t' := .boolean) (by decide) (by decide)))
  have q92 : Fld Z h89 r1 "com/example/werktag/werktag/Person" "householdId" "Ljava/lang/String;" (.ref r3) := q78.other W89 (Or.inr (slot_ne (Or.inr (hw _ (List.mem_of_getElem? (i := 50) rfl))) (Or.inr (hw _ (List.mem_of_getElem? (i := 60) rfl))) (by decide) (t := (.object "java/lang/String")) (t' := .boolean) (by decide) (by decide)))
  have q93 : Fld Z h89 r1 "com/example/werktag/werktag/Person" "homeZone" "Ljava/lang/String;" (.ref r4) := q79.other W89 (Or.inr (slot_ne (Or.inr (hw _ (List.mem_of_getElem? (i := 52) rfl))) (Or.inr (hw _ (List.mem_of_getElem? (i := 60) rfl))) (by decide) (t := (.object "java/lang/String")) (t' := .boolean) (by decide) (by decide)))
  have q94 : Fld Z h89 r1 "com/example/werktag/werktag/Person" "age" "I" (.int i1) := q80.other W89 (Or.inr (slot_ne (Or.inr (hw _ (List.mem_of_getElem? (i := 54) rfl))) (Or.inr (hw _ (List.mem_of_getElem? (i := 60) rfl))) (by decide) (t := .int) (t' := .boolean) (by decide) (by decide)))
  have q95 : Fld Z h89 r1 "com/example/werktag/werktag/Person" "employmentPct" "D" (.double d1) := q81.other W89 (Or.inr (slot_ne (Or.inr (hw _ (List.mem_of_getElem? (i := 56) rfl))) (Or.inr (hw _ (List.mem_of_getElem? (i := 60) rfl))) (by decide) (t := .double) (t' := .boolean) (by decide) (by decide)))
  have q96 : Fld Z h89 r1 "com/example/werktag/werktag/Person" "education" "Lcom/example/werktag/werktag/Education;" (.ref r5) := q82.other W89 (Or.inr (slot_ne (Or.inr (hw _ (List.mem_of_getElem? (i := 58) rfl))) (Or.inr (hw _ (List.mem_of_getElem? (i := 60) rfl))) (by decide) (t := (.object "com/example/werktag/werktag/Education")) (t' := .boolean) (by decide) (by decide)))
  have q97 : Fld Z h89 r1 "com/example/werktag/werktag/Person" "carAvailable" "Z" (.int (nar .boolean i2)) := q83.same W89
  have q98 : Fld Z h89 r1 "com/example/werktag/werktag/Person" "ptSubscription" "Z" u_7 := q84.other W89 (Or.inr (slot_ne (Or.inr (hw _ (List.mem_of_getElem? (i := 62) rfl))) (Or.inr (hw _ (List.mem_of_getElem? (i := 60) rfl))) (by decide) (t := .boolean) (t' := .boolean) (by decide) (by decide)))
  have q99 : Fld Z h89 r1 "com/example/werktag/werktag/Person" "kidsInHousehold" "Z" u_8 := q85.other W89 (Or.inr (slot_ne (Or.inr (hw _ (List.mem_of_getElem? (i := 64) rfl))) (Or.inr (hw _ (List.mem_of_getElem? (i := 60) rfl))) (by decide) (t := .boolean) (t' := .boolean) (by decide) (by decide)))
  have Z100 : n0 ≤ h89.size := Nat.le_trans Z86 (Keep.of_wr W89).1
  have K101 : Keep h0 h89 [r1] := K87.wr W89 (Or.inl (List.mem_of_getElem? (i := 0) rfl))
  have N102 := Fr.snoc X89 N88 g_r1
  refine Go.of st89 ?_
  show Go p e below Qo T89 (mkF m 43 #[.val (.ref r1), .val (.ref r2), .val (.ref r3), .val (.ref r4), .val (.int i1), .val (.double d1), .second, .val (.ref r5), .val (.int i2), .val (.int i3), .val (.int i4)] [])
  refine Go.of (fun t k => XS.aloadN X89.here hx rfl (hb hby d7_43) rfl rfl k) ?_
  show Go p e below Qo T89 (mkF m 44 #[.val (.ref r1), .val (.ref r2), .val (.ref r3), .val (.ref r4), .val (.int i1), .val (.double d1), .second, .val (.ref r5), .val (.int i2), .val (.int i3), .val (.int i4)] [(.ref r1)])
  refine Go.of (fun t k => XS.iload X89.here hx rfl (hb hby d7_44) rfl  k) ?_
  show Go p e below Qo T89 (mkF m 46 #[.val (.ref r1), .val (.ref r2), .val (.ref r3), .val (.ref r4), .val (.int i1), .val (.double d1), .second, .val (.ref r5), .val (.int i2), .val (.int i3), .val (.int i4)] [(.int i3), (.ref r1)])
  obtain ⟨T103, h103, X103, e103, W103, st103⟩ := putFN X89 hx hZ hown (hw _ (List.mem_of_getElem? (i := 61) rfl)) Via.refl e89 q98 q90 (Or.inr ⟨(hw _ (List.mem_of_getElem? (i := 62) rfl)), rfl, hnm⟩) (hw _ (List.mem_of_getElem? (i := 36) rfl)) (ty := .boolean) (v' := (.int (nar .boolean i3))) (by decide) rfl (fits_nar_bool _) (g := (mkF m 46 #[.val (.ref r1), .val (.ref r2), .val (.ref r3), .val (.ref r4), .val (.int i1), .val (.double d1), .second, .val (.ref r5), .val (.int i2), .val (.int i3), .val (.int i4)] [(.int i3), (.ref r1)])) rfl rfl (hb hby d7_46)
  have q104 : Exa Z h103 r1 "com/example/werktag/werktag/Person" := q90.wr W103
  have q105 : Fld Z h103 r1 "com/example/werktag/werktag/Person" "id" "Ljava/lang/String;" (.ref r2) := q91.other W103 (Or.inr (slot_ne (Or.inr (hw _ (List.mem_of_getElem? (i := 48) rfl))) (Or.inr (hw _ (List.mem_of_getElem? (i := 62) rfl))) (by decide) (t := (.object "java/lang/String")) (t' := .boolean) (by decide) (by decide)))
  have q106 : Fld Z h103 r1 "com/example/werktag/werktag/Person" "householdId" "Ljava/lang/String;" (.ref r3) := q92.other W103 (Or.inr (slot_ne (Or.inr (hw _ (List.mem_of_getElem? (i := 50) rfl))) (Or.inr (hw _ (List.mem_of_getElem? (i := 62) rfl))) (by decide) (t := (.object "java/lang/String")) (t' := .boolean) (by decide) (by decide)))
  have q107 : Fld Z h103 r1 "com/example/werktag/werktag/Person" "homeZone" "Ljava/lang/String;" (.ref r4) := q93.other W103 (Or.inr (slot_ne (Or.inr (hw _ (List.mem_of_getElem? (i := 52) rfl))) (Or.inr (hw _ (List.mem_of_getElem? (i := 62) rfl))) (by decide) (t := (.object "java/lang/String")) (t' := .boolean) (by decide) (by decide)))
  have q108 : Fld Z h103 r1 "com/example/werktag/werktag/Person" "age" "I" (.int i1) := q94.other W103 (Or.inr (slot_ne (Or.inr (hw _ (List.mem_of_getElem? (i := 54) rfl))) (Or.inr (hw _ (List.mem_of_getElem? (i := 62) rfl))) (by decide) (t := .int) (t' := .boolean) (by decide) (by decide)))
  have q109 : Fld Z h103 r1 "com/example/werktag/werktag/Person" "employmentPct" "D" (.double d1) := q95.other W103 (Or.inr (slot_ne (Or.inr (hw _ (List.mem_of_getElem? (i := 56) rfl))) (Or.inr (hw _ (List.mem_of_getElem? (i := 62) rfl))) (by decide) (t := .double) (t' := .boolean) (by decide) (by decide)))
  have q110 : Fld Z h103 r1 "com/example/werktag/werktag/Person" "education" "Lcom/example/werktag/werktag/Education;" (.ref r5) := q96.other W103 (Or.inr (slot_ne (Or.inr (hw _ (List.mem_of_getElem? (i := 58) rfl))) (Or.inr (hw _ (List.mem_of_getElem? (i := 62) rfl))) (by decide) (t := (.object "com/example/werktag/werktag/Education")) (t' := .boolean) (by decide) (by decide)))
  have q111 : Fld Z h103 r1 "com/example/werktag/werktag/Person" "carAvailable" "Z" (.int (nar .boolean i2)) := q97.other W103 (Or.inr (slot_ne (Or.inr (hw _ (List.mem_of_getElem? (i := 60) rfl))) (Or.inr (hw _ (List.mem_of_getElem? (i := 62) rfl))) (by decide) (t := .boolean) (t' := .boolean) (by decide) (by decide)))
  have q112 : Fld Z h103 r1 "com/example/werktag/werktag/Person" "ptSubscription" "Z" (.int (nar .boolean i3)) := q98.same W103
  have q113 : Fld Z h103 r1 "com/example/werktag/werktag/Person" "kidsInHousehold" "Z" u_8 := q99.other W103 (Or.inr (slot_ne (Or.inr (hw _ (List.mem_of_getElem? (i := 64) rfl))) (Or.inr (hw _ (List.mem_of_getElem? (i := 62) rfl))) (by decide) (t := .boolean) (t' := .boolean) (by decide) (by decide)))
  have Z114 : n0 ≤ h103.size := Nat.le_trans Z100 (Keep.of_wr W103).1
  have K115 : Keep h0 h103 [r1] := K101.wr W103 (Or.inl (List.mem_of_getElem? (i := 0) rfl))
  have N116 := Fr.snoc X103 N102 g_r1
  refine Go.of st103 ?_
  show Go p e below Qo T103 (mkF m 49 #[.val (.ref r1), .val (.ref r2), .val (.ref r3), .val (.ref r4), .val (.int i1), .val (.double d1), .second, .val (.ref r5), .val (.int i2), .val (.int i3), .val (.int i4)] [])
  refine Go.of (fun t k => XS.aloadN X103.here hx rfl (hb hby d7_49) rfl rfl k) ?_
  show Go p e below Qo T103 (mkF m 50 #[.val (.ref r1), .val (.ref r2), .val (.ref r3), .val (.ref r4), .val (.int i1), .val (.double d1), .second, .val (.ref r5), .val (.int i2), .val (.int i3), .val (.int i4)] [(.ref r1)])
  refine Go.of (fun t k => XS.iload X103.here hx rfl (hb hby d7_50) rfl  k) ?_
  show Go p e below Qo T103 (mkF m 52 #[.val (.ref r1), .val (.ref r2), .val (.ref r3), .val (.ref r4), .val (.int i1), .val (.double d1), .second, .val (.ref r5), .val (.int i2), .val (.int i3), .val (.int i4)] [(.int i4), (.ref r1)])
  obtain ⟨T117, h117, X117, e117, W117, st117⟩ := putFN X103 hx hZ hown (hw _ (List.mem_of_getElem? (i := 63) rfl)) Via.refl e103 q113 q104 (Or.inr ⟨(hw _ (List.mem_of_getElem? (i := 64) rfl)), rfl, hnm⟩) (hw _ (List.mem_of_getElem? (i := 36) rfl)) (ty := .boolean) (v' := (.int (nar .boolean i4))) (by decide) rfl (fits_nar_bool _) (g := (mkF m 52 #[.val (.ref r1), .val (.ref r2), .val (.ref r3), .val (.ref r4), .val (.int i1), .val (.double d1), .second, .val (.ref r5), .val (.int i2), .val (.int i3), .val (.int i4)] [(.int i4), (.ref r1)])) rfl rfl (hb hby d7_52)
  have q118 : Exa Z h117 r1 "com/example/werktag/werktag/Person" := q104.wr W117
  have q119 : Fld Z h117 r1 "com/example/werktag/werktag/Person" "id" "Ljava/lang/String;" (.ref r2) := q105.other W117 (Or.inr (slot_ne (Or.inr (hw _ (List.mem_of_getElem? (i := 48) rfl))) (Or.inr (hw _ (List.mem_of_getElem? (i := 64) rfl))) (by decide) (t := (.object "java/lang/String")) (t' := .boolean) (by decide) (by decide)))
  have q120 : Fld Z h117 r1 "com/example/werktag/werktag/Person" "householdId" "Ljava/lang/String;" (.ref r3) := q106.other W117 (Or.inr (slot_ne (Or.inr (hw _ (List.mem_of_getElem? (i := 50) rfl))) (Or.inr (hw _ (List.mem_of_getElem? (i := 64) rfl))) (by decide) (t := (.object "java/lang/String")) (t' := .boolean) (by decide) (by decide)))
  have q121 : Fld Z h117 r1 "com/example/werktag/werktag/Person" "homeZone" "Ljava/lang/String;" (.ref r4) := q107.other W117 (Or.inr (slot_ne (Or.inr (hw _ (List.mem_of_getElem? (i := 52) rfl))) (Or.inr (hw _ (List.mem_of_getElem? (i := 64) rfl))) (by decide) (t := (.object "java/lang/String")) (t' := .boolean) (by decide) (by decide)))
  have q122 : Fld Z h117 r1 "com/example/werktag/werktag/Person" "age" "I" (.int i1) := q108.other W117 (Or.inr (slot_ne (Or.inr (hw _ (List.mem_of_getElem? (i := 54) rfl))) (Or.inr (hw _ (List.mem_of_getElem? (i := 64) rfl))) (by decide) (t := .int) (t' := .boolean) (by decide) (by decide)))
  have q123 : Fld Z h117 r1 "com/example/werktag/werktag/Person" "employmentPct" "D" (.double d1) := q109.other W117 (Or.inr (slot_ne (Or.inr (hw _ (List.mem_of_getElem? (i := 56) rfl))) (Or.inr (hw _ (List.mem_of_getElem? (i := 64) rfl))) (by decide) (t := .double) (t' := .boolean) (by decide) (by decide)))
  have q124 : Fld Z h117 r1 "com/example/werktag/werktag/Person" "education" "Lcom/example/werktag/werktag/Education;" (.ref r5) := q110.other W117 (Or.inr (slot_ne (Or.inr (hw _ (List.mem_of_getElem? (i := 58) rfl))) (Or.inr (hw _ (List.mem_of_getElem? (i := 64) rfl))) (by decide) (t := (.object "com/example/werktag/werktag/Education")) (t' := .boolean) (by decide) (by decide)))
  have q125 : Fld Z h117 r1 "com/example/werktag/werktag/Person" "carAvailable" "Z" (.int (nar .boolean i2)) := q111.other W117 (Or.inr (slot_ne (Or.inr (hw _ (List.mem_of_getElem? (i := 60) rfl))) (Or.inr (hw _ (List.mem_of_getElem? (i := 64) rfl))) (by decide) (t := .boolean) (t' := .boolean) (by decide) (by decide)))
  have q126 : Fld Z h117 r1 "com/example/werktag/werktag/Person" "ptSubscription" "Z" (.int (nar .boolean i3)) := q112.other W117 (Or.inr (slot_ne (Or.inr (hw _ (List.mem_of_getElem? (i := 62) rfl))) (Or.inr (hw _ (List.mem_of_getElem? (i := 64) rfl))) (by decide) (t := .boolean) (t' := .boolean) (by decide) (by decide)))
  have q127 : Fld Z h117 r1 "com/example/werktag/werktag/Person" "kidsInHousehold" "Z" (.int (nar .boolean i4)) := q113.same W117
  have Z128 : n0 ≤ h117.size := Nat.le_trans Z114 (Keep.of_wr W117).1
  have K129 : Keep h0 h117 [r1] := K115.wr W117 (Or.inl (List.mem_of_getElem? (i := 0) rfl))
  have N130 := Fr.snoc X117 N116 g_r1
  refine Go.of st117 ?_
  show Go p e below Qo T117 (mkF m 55 #[.val (.ref r1), .val (.ref r2), .val (.ref r3), .val (.ref r4), .val (.int i1), .val (.double d1), .second, .val (.ref r5), .val (.int i2), .val (.int i3), .val (.int i4)] [])
  exact own_ret0 X117 hx Bd.notSynchronized Bd.returns (hb hby d7_55) (fun u hu hF => hQo _ _ _ ⟨rfl, N130, by rw [hu, e117]; exact K129, by rw [hu, e117]; exact q118, by rw [hu, e117]; exact q119, by rw [hu, e117]; exact q120, by rw [hu, e117]; exact q121, by rw [hu, e117]; exact q122, by rw [hu, e117]; exact q123, by rw [hu, e117]; exact q124, by rw [hu, e117]; exact q125, by rw [hu, e117]; exact q126, by rw [hu, e117]; exact q127⟩ (own_mono hF (by decide) (by decide)))
theorem d9_0 : decode prog_27_method_2_code 0 = .ok (.aload_n 0, 1) := by decide +kernel
theorem d9_1 : decode prog_27_method_2_code 1 = .ok (.getfield 23, 3) := by decide +kernel
theorem d9_4 : decode prog_27_method_2_code 4 = .ok (.dconst 0, 1) := by decide +kernel
theorem d9_5 : decode prog_27_method_2_code 5 = .ok (.dcmp .l, 1) := by decide +kernel
theorem d9_6 : decode prog_27_method_2_code 6 = .ok (.ifCond .le 7, 3) := by decide +kernel
theorem d9_9 : decode prog_27_method_2_code 9 = .ok (.iconst 1, 1) := by decide +kernel
theorem d9_10 : decode prog_27_method_2_code 10 = .ok (.goto 4, 3) := by decide +kernel
theorem d9_13 : decode prog_27_method_2_code 13 = .ok (.iconst 0, 1) := by decide +kernel
theorem d9_14 : decode prog_27_method_2_code 14 = .ok (.ireturn, 1) := by decide +kernel
theorem ef_9 (m : MethodId) (r1 : Addr)  : entryFrame m #[(.ref r1)] 1 = mkF m 0 #[.val (.ref r1)] [] := by
  first | (simp [entryFrame, mkF, argsToLocals, Value.category]; done) | rfl
def F9 (d1 : UInt64) : Int32 := (if (0 : Int32) < (cmpValue (FP.dcmp d1 FP.dconst0) .l) then (nar .boolean (1 : Int32)) else (nar .boolean (0 : Int32)))
def Q9 (Z : State) (r1 : Addr) (d1 : UInt64) (h0 : Heap) (n0 : Nat) (v : Option Value) (h : Heap) (L : List Loc) : Prop := v = some (.int (F9 d1)) ∧ Fr n0 L ∧ h = h0
set_option maxRecDepth 65536 in
set_option maxHeartbeats 40000000 in
theorem rm9 (l : Launch) (Z : State) (a0 : Array Value) (hw : ∀ d ∈ tables_1, d.before a0 Z = true) (ws : List Jvm.Cond) (r1 : Addr) (d1 : UInt64) (h0 : Heap) (n0 : Nat) (Z0 : n0 ≤ h0.size) (f0 : Fld Z h0 r1 "com/example/werktag/werktag/Person" "employmentPct" "D" (.double d1)) :
    MetFree l (⟨"com/example/werktag/werktag/Person", "worker", "()Z"⟩ : MethodName) (head1 (Jvm.Cond.code (⟨"com/example/werktag/werktag/Person", "worker", "()Z"⟩ : MethodName) prog_27_method_2_code 1 (some .boolean) :: ws) ({ frames := 0, cells := 0, slots := 0, locals := 0 } : Room)) (fun a U => a = #[(.ref r1)] ∧ Z.Warmed39 U.vm ∧ U.heap = h0) (fun _ _ _ _ _ => True) (fun _ U o U' => ∃ v L, o = .returned v ∧ Q9 Z r1 d1 h0 n0 v U'.heap L ∧ FrameEnd U o U' L ({ frames := 0, cells := 0, slots := 0, locals := 0 } : Room).cells ({ frames := 0, cells := 0, slots := 0, locals := 0 } : Room).slots) := by
  refine MetFree.of_bodySF (plainFor_of_name pn_4) hisR ?_
  intro p e s m args below meth c s₁ Bd hml0 hP hK
  obtain ⟨rfl, hZ, hh⟩ := hP
  have hx := Bd.exec
  have hby := Bd.bytes
  have hml : c.maxLocals = 1 := hml0
  have hown : s.vm.findClass "com/example/werktag/werktag/Person" = some m.cls := findClass_of_methodNamed Bd.named
  have hnm := (name_of_methodNamed Bd.named Bd.method).1
  have X0 : Stand p l e ({ frames := 0, cells := 0, slots := 0, locals := 0 } : Room) s m #[(.ref r1)] below meth c s₁ [] 0 0 := Stand.of_body Bd
  have e0 : s₁.heap = h0 := by rw [← hh, Bd.state]; rfl
  have N0 := Fr.nil n0
  suffices H : ∀ Qo : Outcome → State → Prop, (∀ (v : Option Value) (u : State) (L : List Loc), Q9 Z r1 d1 h0 n0 v u.heap L → FrameEnd s (.returned v) u L ({ frames := 0, cells := 0, slots := 0, locals := 0 } : Room).cells ({ frames := 0, cells := 0, slots := 0, locals := 0 } : Room).slots → Qo (.returned v) u) → Go p e below Qo s₁ (mkF m 0 #[.val (.ref r1)] []) from
    Go.cast (ef_9 m r1) (H _ fun v u L h1 h2 => ⟨v, L, rfl, h1, h2⟩)
  intro Qo hQo
  show Go p e below Qo s₁ (mkF m 0 #[.val (.ref r1)] [])
  refine Go.of (fun t k => XS.aloadN X0.here hx rfl (hb hby d9_0) rfl rfl k) ?_
  show Go p e below Qo s₁ (mkF m 1 #[.val (.ref r1)] [(.ref r1)])
  obtain ⟨T1, X1, e1, st1⟩ := getF X0 hx hZ hown (host := "") (Or.inl (hw _ (List.mem_of_getElem? (i := 55) rfl))) Via.refl e0 f0 (g := (mkF m 1 #[.val (.ref r1)] [(.ref r1)])) rfl rfl (hb hby d9_1)
  refine Go.of st1 ?_
  show Go p e below Qo T1 (mkF m 4 #[.val (.ref r1)] [(.double d1)])
  refine Go.of (fun t k => XS.dconst0 X1.here hx rfl (hb hby d9_4) rfl k) ?_
  show Go p e below Qo T1 (mkF m 5 #[.val (.ref r1)] [(.double FP.dconst0), (.double d1)])
  refine Go.of (fun t k => XS.dcmpS X1.here hx rfl (hb hby d9_5) rfl rfl k) ?_
  show Go p e below Qo T1 (mkF m 6 #[.val (.ref r1)] [(.int (cmpValue (FP.dcmp d1 FP.dconst0) .l))])
  by_cases hc6_2 : (0 : Int32) < (cmpValue (FP.dcmp d1 FP.dconst0) .l)
  · refine Go.of (fun t k => XS.ifNo X1.here hx rfl (hb hby d9_6) rfl ((if0 _ _).trans (tlt hc6_2).2.2.2) k) ?_
    show Go p e below Qo T1 (mkF m 9 #[.val (.ref r1)] [])
    refine Go.of (fun t k => XS.iconst X1.here hx rfl (hb hby d9_9) k) ?_
    show Go p e below Qo T1 (mkF m 10 #[.val (.ref r1)] [(.int (1 : Int32))])
    refine Go.of (fun t k => XS.goto X1.here hx rfl (pc0 := 10) (pc' := 14) rfl (hb hby d9_10) (by decide) (by decide) k) ?_
    show Go p e below Qo T1 (mkF m 14 #[.val (.ref r1)] [(.int (1 : Int32))])
    exact own_retN X1 hx Bd.notSynchronized (t := .boolean) Bd.returns (by simp) (hb hby d9_14) (fun u hu hF => hQo _ _ _ ⟨by rw [show (F9 d1) = nar .boolean (1 : Int32) from by rw [F9, if_pos hc6_2]], N0, by rw [hu, e1]⟩ (own_mono hF (by decide) (by decide)))
  · refine Go.of (fun t k => XS.ifYes X1.here hx rfl (pc0 := 6) (pc' := 13) rfl (hb hby d9_6) rfl ((if0 _ _).trans (flt hc6_2).2.2.2) (by decide) (by decide) k) ?_
    show Go p e below Qo T1 (mkF m 13 #[.val (.ref r1)] [])
    refine Go.of (fun t k => XS.iconst X1.here hx rfl (hb hby d9_13) k) ?_
    show Go p e below Qo T1 (mkF m 14 #[.val (.ref r1)] [(.int (0 : Int32))])
    exact own_retN X1 hx Bd.notSynchronized (t := .boolean) Bd.returns (by simp) (hb hby d9_14) (fun u hu hF => hQo _ _ _ ⟨by rw [show (F9 d1) = nar .boolean (0 : Int32) from by rw [F9, if_neg hc6_2]], N0, by rw [hu, e1]⟩ (own_mono hF (by decide) (by decide)))
theorem own_all : ∀ k : Fin 401, Jvm.Free.Fl.NoNaN64 (FP.ddiv (FP.i2d (Int32.ofNat k.1)) (4616189618054758400 : UInt64)) ∧ F9 (FP.ddiv (FP.i2d (Int32.ofNat k.1)) (4616189618054758400 : UInt64)) = if Int32.ofNat k.1 = 0 then 0 else 1 := by
  unfold Jvm.Free.Fl.NoNaN64
  decide +kernel
theorem own_q (x : Int32) : ∃ k : Fin 401, ((x &&& (2147483647 : Int32)) % (401 : Int32)) = Int32.ofNat k.1 := by
  have h := c_and x 2147483647 (by decide)
  have e6 : (401 : Int32).toInt = 401 := by decide
  have k := (c_irem (x &&& 2147483647) 401 401 e6).1 h.1
  generalize ((x &&& (2147483647 : Int32)) % (401 : Int32)) = y at *
  refine ⟨⟨y.toInt.toNat, by omega⟩, ?_⟩
  rw [← Int32.toInt_inj]
  show y.toInt = (Int32.ofNat y.toInt.toNat).toInt
  rw [Int32.toInt_ofNat_small (by omega)]
  omega
theorem own_nan (x : Int32) : Jvm.Free.Fl.NoNaN64 (FP.ddiv (FP.i2d ((x &&& (2147483647 : Int32)) % (401 : Int32))) (4616189618054758400 : UInt64)) := by
  obtain ⟨k, h⟩ := own_q x
  rw [h]; exact (own_all k).1
theorem own_law (x : Int32) : F9 (FP.ddiv (FP.i2d ((x &&& (2147483647 : Int32)) % (401 : Int32))) (4616189618054758400 : UInt64)) = if ((x &&& (2147483647 : Int32)) % (401 : Int32)) = 0 then 0 else 1 := by
  obtain ⟨k, h⟩ := own_q x
  rw [h]; exact (own_all k).2
theorem own_enc (x : Int32) : ¬ F3 ((x &&& (255 : Int32)).toUInt32.toUInt16.toUInt32.toInt32) = 0 := by
  rw [i2c_mask]
  unfold F3
  have h := c_and x 255 (by decide)
  have e : (255 : Int32).toInt = 255 := by decide
  have k : ¬ (255 : Int32) < (x &&& (255 : Int32)) := by rw [Int32.lt_iff_toInt_lt]; omega
  rw [if_neg k]; decide
theorem own_neI {args : Array Value} {s : State} {t : Term} {z k : Int32} (ev : t.eval args s none [] s = some (.int z)) (h : (Cond.not (.eq t (.int k))).before args s = true) : ¬ z = k := by
  have h1 := not_v (Cond.before_iff.mp h)
  intro e
  subst e
  rw [eq_i ev (Term.int_eval _) rfl] at h1
  cases h1
theorem pd_4 : parseMethodDescriptor "(I)Lcom/example/werktag/werktag/Education;" = some ⟨[.int], some (.object "com/example/werktag/werktag/Education")⟩ := by decide +kernel
theorem pd_5 : parseMethodDescriptor "(C)Ljava/lang/String;" = some ⟨[.char], some (.object "java/lang/String")⟩ := by decide +kernel
theorem pd_6 : parseMethodDescriptor "(Ljava/lang/String;Ljava/lang/String;Ljava/lang/String;IDLcom/example/werktag/werktag/Education;ZZZ)V" = some ⟨[(.object "java/lang/String"), (.object "java/lang/String"), (.object "java/lang/String"), .int, .double, (.object "com/example/werktag/werktag/Education"), .boolean, .boolean, .boolean], none⟩ := by decide +kernel
theorem pd_7 : parseMethodDescriptor "()Z" = some ⟨[], some .boolean⟩ := by decide +kernel
theorem ef_0 (m : MethodId) (i1 : Int32) (i2 : Int32) (i3 : Int32) (i4 : Int32)  : entryFrame m #[(.int i1), (.int i2), (.int i3), (.int i4)] maxLocals = mkF m 0 #[.val (.int i1), .val (.int i2), .val (.int i3), .val (.int i4), .unset, .unset, .unset, .unset, .unset, .unset, .unset, .unset, .unset, .unset, .unset] [] := by
  first | (simp [entryFrame, mkF, argsToLocals, Value.category, maxLocals]; done) | rfl
def Q0 (Z : State) (i1 : Int32) (i2 : Int32) (i3 : Int32) (i4 : Int32) (z_STUDENT : Addr) (z_NONE : Addr) (z_APPRENTICE : Addr) (z_PUPIL : Addr) (zc : Int32) (h0 : Heap) (n0 : Nat) (v : Option Value) (h : Heap) (L : List Loc) : Prop := v = some (.int 1) ∧ Fr n0 L
set_option maxRecDepth 65536 in
set_option maxHeartbeats 40000000 in
theorem rm0 (l : Launch) (Z : State) (a0 : Array Value) (hw : ∀ d ∈ tables_1, d.before a0 Z = true) (ws : List Jvm.Cond) (i1 : Int32) (i2 : Int32) (i3 : Int32) (i4 : Int32) (z_STUDENT : Addr) (z_NONE : Addr) (z_APPRENTICE : Addr) (z_PUPIL : Addr) (zc : Int32) (h0 : Heap) (n0 : Nat) (Z0 : n0 ≤ h0.size) (f0 : Sta Z h0 "com/example/werktag/werktag/Education" "STUDENT" "Lcom/example/werktag/werktag/Education;" (.ref z_STUDENT)) (f1 : Exa Z h0 z_STUDENT "com/example/werktag/werktag/Education") (f2 : Sta Z h0 "com/example/werktag/werktag/Education" "NONE" "Lcom/example/werktag/werktag/Education;" (.ref z_NONE)) (f3 : Exa Z h0 z_NONE "com/example/werktag/werktag/Education") (f4 : Sta Z h0 "com/example/werktag/werktag/Education" "APPRENTICE" "Lcom/example/werktag/werktag/Education;" (.ref z_APPRENTICE)) (f5 : Exa Z h0 z_APPRENTICE "com/example/werktag/werktag/Education") (f6 : Sta Z h0 "com/example/werktag/werktag/Education" "PUPIL" "Lcom/example/werktag/werktag/Education;" (.ref z_PUPIL)) (f7 : Exa Z h0 z_PUPIL "com/example/werktag/werktag/Education") (f8 : Sta Z h0 "java/lang/String" "COMPACT_STRINGS" "Z" (.int zc)) (hz : ¬ (zc = (0 : Int32))) :
    MetFree l x (head1 (Jvm.Cond.code x code maxLocals ret :: ws) room_1) (fun a U => a = #[(.int i1), (.int i2), (.int i3), (.int i4)] ∧ Z.Warmed39 U.vm ∧ U.heap = h0) (fun _ _ _ _ _ => True) (fun _ U o U' => ∃ v L, o = .returned v ∧ Q0 Z i1 i2 i3 i4 z_STUDENT z_NONE z_APPRENTICE z_PUPIL zc h0 n0 v U'.heap L ∧ FrameEnd U o U' L 7 24) := by
  refine MetFree.of_bodySF (plainFor_of_name pn_1) hisR ?_
  intro p e s m args below meth c s₁ Bd hml0 hP hK
  obtain ⟨rfl, hZ, hh⟩ := hP
  have hx := Bd.exec
  have hby := Bd.bytes
  have hml : c.maxLocals = 15 := hml0
  have hown : s.vm.findClass "com/example/werktag/werktag/PersonWorkerPinLaw" = some m.cls := findClass_of_methodNamed Bd.named
  have hnm := (name_of_methodNamed Bd.named Bd.method).1
  have X0 : Stand p l e room_1 s m #[(.int i1), (.int i2), (.int i3), (.int i4)] below meth c s₁ [] 0 0 := Stand.of_body Bd
  have e0 : s₁.heap = h0 := by rw [← hh, Bd.state]; rfl
  have N0 := Fr.nil n0
  suffices H : ∀ Qo : Outcome → State → Prop, (∀ (v : Option Value) (u : State) (L : List Loc), Q0 Z i1 i2 i3 i4 z_STUDENT z_NONE z_APPRENTICE z_PUPIL zc h0 n0 v u.heap L → FrameEnd s (.returned v) u L 7 24 → Qo (.returned v) u) → Go p e below Qo s₁ (mkF m 0 #[.val (.int i1), .val (.int i2), .val (.int i3), .val (.int i4), .unset, .unset, .unset, .unset, .unset, .unset, .unset, .unset, .unset, .unset, .unset] []) from
    Go.cast (ef_0 m i1 i2 i3 i4) (H _ fun v u L h1 h2 => ⟨v, L, rfl, h1, h2⟩)
  intro Qo hQo
  show Go p e below Qo s₁ (mkF m 0 #[.val (.int i1), .val (.int i2), .val (.int i3), .val (.int i4), .unset, .unset, .unset, .unset, .unset, .unset, .unset, .unset, .unset, .unset, .unset] [])
  refine Go.of (fun t k => XS.iloadN X0.here hx rfl (hb hby at_0) rfl  k) ?_
  show Go p e below Qo s₁ (mkF m 1 #[.val (.int i1), .val (.int i2), .val (.int i3), .val (.int i4), .unset, .unset, .unset, .unset, .unset, .unset, .unset, .unset, .unset, .unset, .unset] [(.int i1)])
  refine Go.of (fun t k => X0.ldcInt hx hown (mvT hZ (hw _ (List.mem_of_getElem? (i := 0) rfl))) (g := (mkF m 1 #[.val (.int i1), .val (.int i2), .val (.int i3), .val (.int i4), .unset, .unset, .unset, .unset, .unset, .unset, .unset, .unset, .unset, .unset, .unset] [(.int i1)])) rfl (hb hby at_1) t k) ?_
  show Go p e below Qo s₁ (mkF m 3 #[.val (.int i1), .val (.int i2), .val (.int i3), .val (.int i4), .unset, .unset, .unset, .unset, .unset, .unset, .unset, .unset, .unset, .unset, .unset] [(.int (2147483647 : Int32)), (.int i1)])
  refine Go.of (fun t k => XS.iand X0.here hx rfl (hb hby at_3) rfl k) ?_
  show Go p e below Qo s₁ (mkF m 4 #[.val (.int i1), .val (.int i2), .val (.int i3), .val (.int i4), .unset, .unset, .unset, .unset, .unset, .unset, .unset, .unset, .unset, .unset, .unset] [(.int (i1 &&& (2147483647 : Int32)))])
  refine Go.of (fun t k => XS.sipush X0.here hx rfl (hb hby at_4) k) ?_
  show Go p e below Qo s₁ (mkF m 7 #[.val (.int i1), .val (.int i2), .val (.int i3), .val (.int i4), .unset, .unset, .unset, .unset, .unset, .unset, .unset, .unset, .unset, .unset, .unset] [(.int (401 : Int32)), (.int (i1 &&& (2147483647 : Int32)))])
  refine Go.of (fun t k => iremM X0 hx rfl (hb hby at_7) rfl (by decide) k) ?_
  show Go p e below Qo s₁ (mkF m 8 #[.val (.int i1), .val (.int i2), .val (.int i3), .val (.int i4), .unset, .unset, .unset, .unset, .unset, .unset, .unset, .unset, .unset, .unset, .unset] [(.int ((i1 &&& (2147483647 : Int32)) % (401 : Int32)))])
  refine Go.of (fun t k => XS.istore X0.here hx rfl (hb hby at_8) rfl (l' := #[.val (.int i1), .val (.int i2), .val (.int i3), .val (.int i4), .val (.int ((i1 &&& (2147483647 : Int32)) % (401 : Int32))), .unset, .unset, .unset, .unset, .unset, .unset, .unset, .unset, .unset, .unset]) rfl k) ?_
  show Go p e below Qo s₁ (mkF m 10 #[.val (.int i1), .val (.int i2), .val (.int i3), .val (.int i4), .val (.int ((i1 &&& (2147483647 : Int32)) % (401 : Int32))), .unset, .unset, .unset, .unset, .unset, .unset, .unset, .unset, .unset, .unset] [])
  refine Go.of (fun t k => XS.iload X0.here hx rfl (hb hby at_10) rfl  k) ?_
  show Go p e below Qo s₁ (mkF m 12 #[.val (.int i1), .val (.int i2), .val (.int i3), .val (.int i4), .val (.int ((i1 &&& (2147483647 : Int32)) % (401 : Int32))), .unset, .unset, .unset, .unset, .unset, .unset, .unset, .unset, .unset, .unset] [(.int ((i1 &&& (2147483647 : Int32)) % (401 : Int32)))])
  refine Go.of (fun t k => XS.i2dS X0.here hx rfl (hb hby at_12) rfl rfl k) ?_
  show Go p e below Qo s₁ (mkF m 13 #[.val (.int i1), .val (.int i2), .val (.int i3), .val (.int i4), .val (.int ((i1 &&& (2147483647 : Int32)) % (401 : Int32))), .unset, .unset, .unset, .unset, .unset, .unset, .unset, .unset, .unset, .unset] [(.double (FP.i2d ((i1 &&& (2147483647 : Int32)) % (401 : Int32))))])
  refine Go.of (fun t k => X0.ldc2DoubleC hx hown (mvT hZ (hw _ (List.mem_of_getElem? (i := 1) rfl))) (g := (mkF m 13 #[.val (.int i1), .val (.int i2), .val (.int i3), .val (.int i4), .val (.int ((i1 &&& (2147483647 : Int32)) % (401 : Int32))), .unset, .unset, .unset, .unset, .unset, .unset, .unset, .unset, .unset, .unset] [(.double (FP.i2d ((i1 &&& (2147483647 : Int32)) % (401 : Int32))))])) rfl (hb hby at_13) t k) ?_
  show Go p e below Qo s₁ (mkF m 16 #[.val (.int i1), .val (.int i2), .val (.int i3), .val (.int i4), .val (.int ((i1 &&& (2147483647 : Int32)) % (401 : Int32))), .unset, .unset, .unset, .unset, .unset, .unset, .unset, .unset, .unset, .unset] [(.double (4616189618054758400 : UInt64)), (.double (FP.i2d ((i1 &&& (2147483647 : Int32)) % (401 : Int32))))])
  refine Go.of (fun t k => XS.ddivS X0.here hx rfl (hb hby at_16) rfl (own_nan i1) rfl k) ?_
  show Go p e below Qo s₁ (mkF m 17 #[.val (.int i1), .val (.int i2), .val (.int i3), .val (.int i4), .val (.int ((i1 &&& (2147483647 : Int32)) % (401 : Int32))), .unset, .unset, .unset, .unset, .unset, .unset, .unset, .unset, .unset, .unset] [(.double (FP.ddiv (FP.i2d ((i1 &&& (2147483647 : Int32)) % (401 : Int32))) (4616189618054758400 : UInt64)))])
  refine Go.of (fun t k => XS.dstore X0.here hx rfl (hb hby at_17) rfl (l' := #[.val (.int i1), .val (.int i2), .val (.int i3), .val (.int i4), .val (.int ((i1 &&& (2147483647 : Int32)) % (401 : Int32))), .val (.double (FP.ddiv (FP.i2d ((i1 &&& (2147483647 : Int32)) % (401 : Int32))) (4616189618054758400 : UInt64))), .second, .unset, .unset, .unset, .unset, .unset, .unset, .unset, .unset]) rfl k) ?_
  show Go p e below Qo s₁ (mkF m 19 #[.val (.int i1), .val (.int i2), .val (.int i3), .val (.int i4), .val (.int ((i1 &&& (2147483647 : Int32)) % (401 : Int32))), .val (.double (FP.ddiv (FP.i2d ((i1 &&& (2147483647 : Int32)) % (401 : Int32))) (4616189618054758400 : UInt64))), .second, .unset, .unset, .unset, .unset, .unset, .unset, .unset, .unset] [])
  refine Go.of (fun t k => XS.iloadN X0.here hx rfl (hb hby at_19) rfl  k) ?_
  show Go p e below Qo s₁ (mkF m 20 #[.val (.int i1), .val (.int i2), .val (.int i3), .val (.int i4), .val (.int ((i1 &&& (2147483647 : Int32)) % (401 : Int32))), .val (.double (FP.ddiv (FP.i2d ((i1 &&& (2147483647 : Int32)) % (401 : Int32))) (4616189618054758400 : UInt64))), .second, .unset, .unset, .unset, .unset, .unset, .unset, .unset, .unset] [(.int i3)])
  refine Go.of (fun t k => XS.iconst X0.here hx rfl (hb hby at_20) k) ?_
  show Go p e below Qo s₁ (mkF m 21 #[.val (.int i1), .val (.int i2), .val (.int i3), .val (.int i4), .val (.int ((i1 &&& (2147483647 : Int32)) % (401 : Int32))), .val (.double (FP.ddiv (FP.i2d ((i1 &&& (2147483647 : Int32)) % (401 : Int32))) (4616189618054758400 : UInt64))), .second, .unset, .unset, .unset, .unset, .unset, .unset, .unset, .unset] [(.int (3 : Int32)), (.int i3)])
  refine Go.of (fun t k => XS.iand X0.here hx rfl (hb hby at_21) rfl k) ?_
  show Go p e below Qo s₁ (mkF m 22 #[.val (.int i1), .val (.int i2), .val (.int i3), .val (.int i4), .val (.int ((i1 &&& (2147483647 : Int32)) % (401 : Int32))), .val (.double (FP.ddiv (FP.i2d ((i1 &&& (2147483647 : Int32)) % (401 : Int32))) (4616189618054758400 : UInt64))), .second, .unset, .unset, .unset, .unset, .unset, .unset, .unset, .unset] [(.int (i3 &&& (3 : Int32)))])
  obtain ⟨_, _, ⟨T1, L1, k1, n1⟩, -, X1, ⟨Lc1, hQ1, l1, y1, z1⟩, st1⟩ := Jvm.LawKit.callS X0 hx (y := (⟨"com/example/werktag/werktag/PersonWorkerPinLaw", "pick", "(I)Lcom/example/werktag/werktag/Education;"⟩ : MethodName)) hown (mvT hZ (hw _ (List.mem_of_getElem? (i := 2) rfl))) (mvT hZ (hw _ (List.mem_of_getElem? (i := 3) rfl))) (mvT hZ (hw _ (List.mem_of_getElem? (i := 4) rfl))) (mvT hZ (hw _ (List.mem_of_getElem? (i := 5) rfl))) (by decide) (backOf (W := 0) (rm1 l Z a0 hw [] (i3 &&& (3 : Int32)) z_STUDENT z_NONE z_APPRENTICE z_PUPIL h0 n0 Z0 f0 f2 f4 f6) hZ (hw _ (List.mem_of_getElem? (i := 5) rfl)) (hw _ (List.mem_of_getElem? (i := 4) rfl)) (by decide) (by decide)) (g := (mkF m 22 #[.val (.int i1), .val (.int i2), .val (.int i3), .val (.int i4), .val (.int ((i1 &&& (2147483647 : Int32)) % (401 : Int32))), .val (.double (FP.ddiv (FP.i2d ((i1 &&& (2147483647 : Int32)) % (401 : Int32))) (4616189618054758400 : UInt64))), .second, .unset, .unset, .unset, .unset, .unset, .unset, .unset, .unset] [(.int (i3 &&& (3 : Int32)))])) rfl (by rw [hml]; rfl) (argsL := [(.int (i3 &&& (3 : Int32)))]) (rest := []) (lenOf pd_4 rfl) rfl (by show 2 * 0 + _ ≤ _; exact Nat.le_of_eq rfl) (hb hby at_22) (fun _ _ => ⟨rfl, e0, (by decide : 0 + 0 ≤ _), (by decide : 0 + 0 ≤ _)⟩)
  dsimp only [Pt.U, Pt.locs, Pt.cells, Pt.slots] at X1 l1 y1 z1 st1 hQ1
  subst l1 y1 z1
  obtain ⟨rfl, N2, eh3⟩ := hQ1
  have N4 := Fr.app N0 N2
  refine Go.of st1 ?_
  show Go p e below Qo T1 (mkF m 25 #[.val (.int i1), .val (.int i2), .val (.int i3), .val (.int i4), .val (.int ((i1 &&& (2147483647 : Int32)) % (401 : Int32))), .val (.double (FP.ddiv (FP.i2d ((i1 &&& (2147483647 : Int32)) % (401 : Int32))) (4616189618054758400 : UInt64))), .second, .unset, .unset, .unset, .unset, .unset, .unset, .unset, .unset] [(.ref (F1 (i3 &&& (3 : Int32)) z_STUDENT z_NONE z_APPRENTICE z_PUPIL))])
  refine Go.of (fun t k => XS.astore X1.here hx rfl (hb hby at_25) rfl rfl (l' := #[.val (.int i1), .val (.int i2), .val (.int i3), .val (.int i4), .val (.int ((i1 &&& (2147483647 : Int32)) % (401 : Int32))), .val (.double (FP.ddiv (FP.i2d ((i1 &&& (2147483647 : Int32)) % (401 : Int32))) (4616189618054758400 : UInt64))), .second, .val (.ref (F1 (i3 &&& (3 : Int32)) z_STUDENT z_NONE z_APPRENTICE z_PUPIL)), .unset, .unset, .unset, .unset, .unset, .unset, .unset]) rfl k) ?_
  show Go p e below Qo T1 (mkF m 27 #[.val (.int i1), .val (.int i2), .val (.int i3), .val (.int i4), .val (.int ((i1 &&& (2147483647 : Int32)) % (401 : Int32))), .val (.double (FP.ddiv (FP.i2d ((i1 &&& (2147483647 : Int32)) % (401 : Int32))) (4616189618054758400 : UInt64))), .second, .val (.ref (F1 (i3 &&& (3 : Int32)) z_STUDENT z_NONE z_APPRENTICE z_PUPIL)), .unset, .unset, .unset, .unset, .unset, .unset, .unset] [])
  refine Go.of (fun t k => XS.iloadN X1.here hx rfl (hb hby at_27) rfl  k) ?_
  show Go p e below Qo T1 (mkF m 28 #[.val (.int i1), .val (.int i2), .val (.int i3), .val (.int i4), .val (.int ((i1 &&& (2147483647 : Int32)) % (401 : Int32))), .val (.double (FP.ddiv (FP.i2d ((i1 &&& (2147483647 : Int32)) % (401 : Int32))) (4616189618054758400 : UInt64))), .second, .val (.ref (F1 (i3 &&& (3 : Int32)) z_STUDENT z_NONE z_APPRENTICE z_PUPIL)), .unset, .unset, .unset, .unset, .unset, .unset, .unset] [(.int i3)])
  refine Go.of (fun t k => XS.iconst X1.here hx rfl (hb hby at_28) k) ?_
  show Go p e below Qo T1 (mkF m 29 #[.val (.int i1), .val (.int i2), .val (.int i3), .val (.int i4), .val (.int ((i1 &&& (2147483647 : Int32)) % (401 : Int32))), .val (.double (FP.ddiv (FP.i2d ((i1 &&& (2147483647 : Int32)) % (401 : Int32))) (4616189618054758400 : UInt64))), .second, .val (.ref (F1 (i3 &&& (3 : Int32)) z_STUDENT z_NONE z_APPRENTICE z_PUPIL)), .unset, .unset, .unset, .unset, .unset, .unset, .unset] [(.int (4 : Int32)), (.int i3)])
  refine Go.of (fun t k => XS.iand X1.here hx rfl (hb hby at_29) rfl k) ?_
  show Go p e below Qo T1 (mkF m 30 #[.val (.int i1), .val (.int i2), .val (.int i3), .val (.int i4), .val (.int ((i1 &&& (2147483647 : Int32)) % (401 : Int32))), .val (.double (FP.ddiv (FP.i2d ((i1 &&& (2147483647 : Int32)) % (401 : Int32))) (4616189618054758400 : UInt64))), .second, .val (.ref (F1 (i3 &&& (3 : Int32)) z_STUDENT z_NONE z_APPRENTICE z_PUPIL)), .unset, .unset, .unset, .unset, .unset, .unset, .unset] [(.int (i3 &&& (4 : Int32)))])
  have J30_7 : ∀ (v30_6 : Int32), v30_6 = (if (i3 &&& (4 : Int32)) = (0 : Int32) then (0 : Int32) else (1 : Int32)) → Go p e below Qo T1 (mkF m 38 #[.val (.int i1), .val (.int i2), .val (.int i3), .val (.int i4), .val (.int ((i1 &&& (2147483647 : Int32)) % (401 : Int32))), .val (.double (FP.ddiv (FP.i2d ((i1 &&& (2147483647 : Int32)) % (401 : Int32))) (4616189618054758400 : UInt64))), .second, .val (.ref (F1 (i3 &&& (3 : Int32)) z_STUDENT z_NONE z_APPRENTICE z_PUPIL)), .unset, .unset, .unset, .unset, .unset, .unset, .unset] [(.int v30_6)]) := by
    intro v30_6 hv30_6
    show Go p e below Qo T1 (mkF m 38 #[.val (.int i1), .val (.int i2), .val (.int i3), .val (.int i4), .val (.int ((i1 &&& (2147483647 : Int32)) % (401 : Int32))), .val (.double (FP.ddiv (FP.i2d ((i1 &&& (2147483647 : Int32)) % (401 : Int32))) (4616189618054758400 : UInt64))), .second, .val (.ref (F1 (i3 &&& (3 : Int32)) z_STUDENT z_NONE z_APPRENTICE z_PUPIL)), .unset, .unset, .unset, .unset, .unset, .unset, .unset] [(.int v30_6)])
    refine Go.of (fun t k => XS.istore X1.here hx rfl (hb hby at_38) rfl (l' := #[.val (.int i1), .val (.int i2), .val (.int i3), .val (.int i4), .val (.int ((i1 &&& (2147483647 : Int32)) % (401 : Int32))), .val (.double (FP.ddiv (FP.i2d ((i1 &&& (2147483647 : Int32)) % (401 : Int32))) (4616189618054758400 : UInt64))), .second, .val (.ref (F1 (i3 &&& (3 : Int32)) z_STUDENT z_NONE z_APPRENTICE z_PUPIL)), .val (.int v30_6), .unset, .unset, .unset, .unset, .unset, .unset]) rfl k) ?_
    show Go p e below Qo T1 (mkF m 40 #[.val (.int i1), .val (.int i2), .val (.int i3), .val (.int i4), .val (.int ((i1 &&& (2147483647 : Int32)) % (401 : Int32))), .val (.double (FP.ddiv (FP.i2d ((i1 &&& (2147483647 : Int32)) % (401 : Int32))) (4616189618054758400 : UInt64))), .second, .val (.ref (F1 (i3 &&& (3 : Int32)) z_STUDENT z_NONE z_APPRENTICE z_PUPIL)), .val (.int v30_6), .unset, .unset, .unset, .unset, .unset, .unset] [])
    refine Go.of (fun t k => XS.iloadN X1.here hx rfl (hb hby at_40) rfl  k) ?_
    show Go p e below Qo T1 (mkF m 41 #[.val (.int i1), .val (.int i2), .val (.int i3), .val (.int i4), .val (.int ((i1 &&& (2147483647 : Int32)) % (401 : Int32))), .val (.double (FP.ddiv (FP.i2d ((i1 &&& (2147483647 : Int32)) % (401 : Int32))) (4616189618054758400 : UInt64))), .second, .val (.ref (F1 (i3 &&& (3 : Int32)) z_STUDENT z_NONE z_APPRENTICE z_PUPIL)), .val (.int v30_6), .unset, .unset, .unset, .unset, .unset, .unset] [(.int i3)])
    refine Go.of (fun t k => XS.bipush X1.here hx rfl (hb hby at_41) k) ?_
    show Go p e below Qo T1 (mkF m 43 #[.val (.int i1), .val (.int i2), .val (.int i3), .val (.int i4), .val (.int ((i1 &&& (2147483647 : Int32)) % (401 : Int32))), .val (.double (FP.ddiv (FP.i2d ((i1 &&& (2147483647 : Int32)) % (401 : Int32))) (4616189618054758400 : UInt64))), .second, .val (.ref (F1 (i3 &&& (3 : Int32)) z_STUDENT z_NONE z_APPRENTICE z_PUPIL)), .val (.int v30_6), .unset, .unset, .unset, .unset, .unset, .unset] [(.int (8 : Int32)), (.int i3)])
    refine Go.of (fun t k => XS.iand X1.here hx rfl (hb hby at_43) rfl k) ?_
    show Go p e below Qo T1 (mkF m 44 #[.val (.int i1), .val (.int i2), .val (.int i3), .val (.int i4), .val (.int ((i1 &&& (2147483647 : Int32)) % (401 : Int32))), .val (.double (FP.ddiv (FP.i2d ((i1 &&& (2147483647 : Int32)) % (401 : Int32))) (4616189618054758400 : UInt64))), .second, .val (.ref (F1 (i3 &&& (3 : Int32)) z_STUDENT z_NONE z_APPRENTICE z_PUPIL)), .val (.int v30_6), .unset, .unset, .unset, .unset, .unset, .unset] [(.int (i3 &&& (8 : Int32)))])
    have J44_10 : ∀ (v44_9 : Int32), v44_9 = (if (i3 &&& (8 : Int32)) = (0 : Int32) then (0 : Int32) else (1 : Int32)) → Go p e below Qo T1 (mkF m 52 #[.val (.int i1), .val (.int i2), .val (.int i3), .val (.int i4), .val (.int ((i1 &&& (2147483647 : Int32)) % (401 : Int32))), .val (.double (FP.ddiv (FP.i2d ((i1 &&& (2147483647 : Int32)) % (401 : Int32))) (4616189618054758400 : UInt64))), .second, .val (.ref (F1 (i3 &&& (3 : Int32)) z_STUDENT z_NONE z_APPRENTICE z_PUPIL)), .val (.int v30_6), .unset, .unset, .unset, .unset, .unset, .unset] [(.int v44_9)]) := by
      intro v44_9 hv44_9
      show Go p e below Qo T1 (mkF m 52 #[.val (.int i1), .val (.int i2), .val (.int i3), .val (.int i4), .val (.int ((i1 &&& (2147483647 : Int32)) % (401 : Int32))), .val (.double (FP.ddiv (FP.i2d ((i1 &&& (2147483647 : Int32)) % (401 : Int32))) (4616189618054758400 : UInt64))), .second, .val (.ref (F1 (i3 &&& (3 : Int32)) z_STUDENT z_NONE z_APPRENTICE z_PUPIL)), .val (.int v30_6), .unset, .unset, .unset, .unset, .unset, .unset] [(.int v44_9)])
      refine Go.of (fun t k => XS.istore X1.here hx rfl (hb hby at_52) rfl (l' := #[.val (.int i1), .val (.int i2), .val (.int i3), .val (.int i4), .val (.int ((i1 &&& (2147483647 : Int32)) % (401 : Int32))), .val (.double (FP.ddiv (FP.i2d ((i1 &&& (2147483647 : Int32)) % (401 : Int32))) (4616189618054758400 : UInt64))), .second, .val (.ref (F1 (i3 &&& (3 : Int32)) z_STUDENT z_NONE z_APPRENTICE z_PUPIL)), .val (.int v30_6), .val (.int v44_9), .unset, .unset, .unset, .unset, .unset]) rfl k) ?_
      show Go p e below Qo T1 (mkF m 54 #[.val (.int i1), .val (.int i2), .val (.int i3), .val (.int i4), .val (.int ((i1 &&& (2147483647 : Int32)) % (401 : Int32))), .val (.double (FP.ddiv (FP.i2d ((i1 &&& (2147483647 : Int32)) % (401 : Int32))) (4616189618054758400 : UInt64))), .second, .val (.ref (F1 (i3 &&& (3 : Int32)) z_STUDENT z_NONE z_APPRENTICE z_PUPIL)), .val (.int v30_6), .val (.int v44_9), .unset, .unset, .unset, .unset, .unset] [])
      refine Go.of (fun t k => XS.iloadN X1.here hx rfl (hb hby at_54) rfl  k) ?_
      show Go p e below Qo T1 (mkF m 55 #[.val (.int i1), .val (.int i2), .val (.int i3), .val (.int i4), .val (.int ((i1 &&& (2147483647 : Int32)) % (401 : Int32))), .val (.double (FP.ddiv (FP.i2d ((i1 &&& (2147483647 : Int32)) % (401 : Int32))) (4616189618054758400 : UInt64))), .second, .val (.ref (F1 (i3 &&& (3 : Int32)) z_STUDENT z_NONE z_APPRENTICE z_PUPIL)), .val (.int v30_6), .val (.int v44_9), .unset, .unset, .unset, .unset, .unset] [(.int i3)])
      refine Go.of (fun t k => XS.bipush X1.here hx rfl (hb hby at_55) k) ?_
      show Go p e below Qo T1 (mkF m 57 #[.val (.int i1), .val (.int i2), .val (.int i3), .val (.int i4), .val (.int ((i1 &&& (2147483647 : Int32)) % (401 : Int32))), .val (.double (FP.ddiv (FP.i2d ((i1 &&& (2147483647 : Int32)) % (401 : Int32))) (4616189618054758400 : UInt64))), .second, .val (.ref (F1 (i3 &&& (3 : Int32)) z_STUDENT z_NONE z_APPRENTICE z_PUPIL)), .val (.int v30_6), .val (.int v44_9), .unset, .unset, .unset, .unset, .unset] [(.int (16 : Int32)), (.int i3)])
      refine Go.of (fun t k => XS.iand X1.here hx rfl (hb hby at_57) rfl k) ?_
      show Go p e below Qo T1 (mkF m 58 #[.val (.int i1), .val (.int i2), .val (.int i3), .val (.int i4), .val (.int ((i1 &&& (2147483647 : Int32)) % (401 : Int32))), .val (.double (FP.ddiv (FP.i2d ((i1 &&& (2147483647 : Int32)) % (401 : Int32))) (4616189618054758400 : UInt64))), .second, .val (.ref (F1 (i3 &&& (3 : Int32)) z_STUDENT z_NONE z_APPRENTICE z_PUPIL)), .val (.int v30_6), .val (.int v44_9), .unset, .unset, .unset, .unset, .unset] [(.int (i3 &&& (16 : Int32)))])
      have J58_13 : ∀ (v58_12 : Int32), v58_12 = (if (i3 &&& (16 : Int32)) = (0 : Int32) then (0 : Int32) else (1 : Int32)) → Go p e below Qo T1 (mkF m 66 #[.val (.int i1), .val (.int i2), .val (.int i3), .val (.int i4), .val (.int ((i1 &&& (2147483647 : Int32)) % (401 : Int32))), .val (.double (FP.ddiv (FP.i2d ((i1 &&& (2147483647 : Int32)) % (401 : Int32))) (4616189618054758400 : UInt64))), .second, .val (.ref (F1 (i3 &&& (3 : Int32)) z_STUDENT z_NONE z_APPRENTICE z_PUPIL)), .val (.int v30_6), .val (.int v44_9), .unset, .unset, .unset, .unset, .unset] [(.int v58_12)]) := by
        intro v58_12 hv58_12
        show Go p e below Qo T1 (mkF m 66 #[.val (.int i1), .val (.int i2), .val (.int i3), .val (.int i4), .val (.int ((i1 &&& (2147483647 : Int32)) % (401 : Int32))), .val (.double (FP.ddiv (FP.i2d ((i1 &&& (2147483647 : Int32)) % (401 : Int32))) (4616189618054758400 : UInt64))), .second, .val (.ref (F1 (i3 &&& (3 : Int32)) z_STUDENT z_NONE z_APPRENTICE z_PUPIL)), .val (.int v30_6), .val (.int v44_9), .unset, .unset, .unset, .unset, .unset] [(.int v58_12)])
        refine Go.of (fun t k => XS.istore X1.here hx rfl (hb hby at_66) rfl (l' := #[.val (.int i1), .val (.int i2), .val (.int i3), .val (.int i4), .val (.int ((i1 &&& (2147483647 : Int32)) % (401 : Int32))), .val (.double (FP.ddiv (FP.i2d ((i1 &&& (2147483647 : Int32)) % (401 : Int32))) (4616189618054758400 : UInt64))), .second, .val (.ref (F1 (i3 &&& (3 : Int32)) z_STUDENT z_NONE z_APPRENTICE z_PUPIL)), .val (.int v30_6), .val (.int v44_9), .val (.int v58_12), .unset, .unset, .unset, .unset]) rfl k) ?_
        show Go p e below Qo T1 (mkF m 68 #[.val (.int i1), .val (.int i2), .val (.int i3), .val (.int i4), .val (.int ((i1 &&& (2147483647 : Int32)) % (401 : Int32))), .val (.double (FP.ddiv (FP.i2d ((i1 &&& (2147483647 : Int32)) % (401 : Int32))) (4616189618054758400 : UInt64))), .second, .val (.ref (F1 (i3 &&& (3 : Int32)) z_STUDENT z_NONE z_APPRENTICE z_PUPIL)), .val (.int v30_6), .val (.int v44_9), .val (.int v58_12), .unset, .unset, .unset, .unset] [])
        refine Go.of (fun t k => XS.iloadN X1.here hx rfl (hb hby at_68) rfl  k) ?_
        show Go p e below Qo T1 (mkF m 69 #[.val (.int i1), .val (.int i2), .val (.int i3), .val (.int i4), .val (.int ((i1 &&& (2147483647 : Int32)) % (401 : Int32))), .val (.double (FP.ddiv (FP.i2d ((i1 &&& (2147483647 : Int32)) % (401 : Int32))) (4616189618054758400 : UInt64))), .second, .val (.ref (F1 (i3 &&& (3 : Int32)) z_STUDENT z_NONE z_APPRENTICE z_PUPIL)), .val (.int v30_6), .val (.int v44_9), .val (.int v58_12), .unset, .unset, .unset, .unset] [(.int i4)])
        refine Go.of (fun t k => XS.sipush X1.here hx rfl (hb hby at_69) k) ?_
        show Go p e below Qo T1 (mkF m 72 #[.val (.int i1), .val (.int i2), .val (.int i3), .val (.int i4), .val (.int ((i1 &&& (2147483647 : Int32)) % (401 : Int32))), .val (.double (FP.ddiv (FP.i2d ((i1 &&& (2147483647 : Int32)) % (401 : Int32))) (4616189618054758400 : UInt64))), .second, .val (.ref (F1 (i3 &&& (3 : Int32)) z_STUDENT z_NONE z_APPRENTICE z_PUPIL)), .val (.int v30_6), .val (.int v44_9), .val (.int v58_12), .unset, .unset, .unset, .unset] [(.int (255 : Int32)), (.int i4)])
        refine Go.of (fun t k => XS.iand X1.here hx rfl (hb hby at_72) rfl k) ?_
        show Go p e below Qo T1 (mkF m 73 #[.val (.int i1), .val (.int i2), .val (.int i3), .val (.int i4), .val (.int ((i1 &&& (2147483647 : Int32)) % (401 : Int32))), .val (.double (FP.ddiv (FP.i2d ((i1 &&& (2147483647 : Int32)) % (401 : Int32))) (4616189618054758400 : UInt64))), .second, .val (.ref (F1 (i3 &&& (3 : Int32)) z_STUDENT z_NONE z_APPRENTICE z_PUPIL)), .val (.int v30_6), .val (.int v44_9), .val (.int v58_12), .unset, .unset, .unset, .unset] [(.int (i4 &&& (255 : Int32)))])
        refine Go.of (fun t k => XS.i2c X1.here hx rfl (hb hby at_73) rfl k) ?_
        show Go p e below Qo T1 (mkF m 74 #[.val (.int i1), .val (.int i2), .val (.int i3), .val (.int i4), .val (.int ((i1 &&& (2147483647 : Int32)) % (401 : Int32))), .val (.double (FP.ddiv (FP.i2d ((i1 &&& (2147483647 : Int32)) % (401 : Int32))) (4616189618054758400 : UInt64))), .second, .val (.ref (F1 (i3 &&& (3 : Int32)) z_STUDENT z_NONE z_APPRENTICE z_PUPIL)), .val (.int v30_6), .val (.int v44_9), .val (.int v58_12), .unset, .unset, .unset, .unset] [(.int ((i4 &&& (255 : Int32)).toUInt32.toUInt16.toUInt32.toInt32))])
        obtain ⟨_, _, ⟨T14, L14, k14, n14⟩, -, X14, ⟨Lc14, hQ14, l14, y14, z14⟩, st14⟩ := Jvm.LawKit.callS X1 hx (y := (⟨"java/lang/String", "valueOf", "(C)Ljava/lang/String;"⟩ : MethodName)) hown (mvT hZ (hw _ (List.mem_of_getElem? (i := 9) rfl))) (mvT hZ (hw _ (List.mem_of_getElem? (i := 10) rfl))) (mvT hZ (hw _ (List.mem_of_getElem? (i := 11) rfl))) (mvT hZ (hw _ (List.mem_of_getElem? (i := 12) rfl))) (by decide) (backOf (W := 0) (rm2 l Z a0 hw [] ((i4 &&& (255 : Int32)).toUInt32.toUInt16.toUInt32.toInt32) zc h0 n0 Z0 f8 (hz) (own_enc _)) hZ (hw _ (List.mem_of_getElem? (i := 12) rfl)) (hw _ (List.mem_of_getElem? (i := 11) rfl)) (by decide) (by decide)) (g := (mkF m 74 #[.val (.int i1), .val (.int i2), .val (.int i3), .val (.int i4), .val (.int ((i1 &&& (2147483647 : Int32)) % (401 : Int32))), .val (.double (FP.ddiv (FP.i2d ((i1 &&& (2147483647 : Int32)) % (401 : Int32))) (4616189618054758400 : UInt64))), .second, .val (.ref (F1 (i3 &&& (3 : Int32)) z_STUDENT z_NONE z_APPRENTICE z_PUPIL)), .val (.int v30_6), .val (.int v44_9), .val (.int v58_12), .unset, .unset, .unset, .unset] [(.int ((i4 &&& (255 : Int32)).toUInt32.toUInt16.toUInt32.toInt32))])) rfl (by rw [hml]; rfl) (argsL := [(.int ((i4 &&& (255 : Int32)).toUInt32.toUInt16.toUInt32.toInt32))]) (rest := []) (lenOf pd_5 rfl) rfl (by show 2 * 0 + _ ≤ _; exact Nat.le_of_eq rfl) (hb hby at_74) (fun _ _ => ⟨rfl, eh3, (by decide : 0 + 2 ≤ _), (by decide : 0 + 5 ≤ _)⟩)
        dsimp only [Pt.U, Pt.locs, Pt.cells, Pt.slots] at X14 l14 y14 z14 st14 hQ14
        subst l14 y14 z14
        obtain ⟨x16, rfl, N15, Kc17, g19, q18⟩ := hQ14
        have N20 := Fr.app N4 N15
        have ne21 : z_STUDENT ≠ x16 := Nat.ne_of_lt (Nat.lt_of_lt_of_le f1.lt g19)
        have ne22 : z_NONE ≠ x16 := Nat.ne_of_lt (Nat.lt_of_lt_of_le f3.lt g19)
        have ne23 : z_APPRENTICE ≠ x16 := Nat.ne_of_lt (Nat.lt_of_lt_of_le f5.lt g19)
        have ne24 : z_PUPIL ≠ x16 := Nat.ne_of_lt (Nat.lt_of_lt_of_le f7.lt g19)
        have g25 : n0 ≤ x16 := Nat.le_trans Z0 g19
        have q26 : Sta Z T14.heap "com/example/werktag/werktag/Education" "STUDENT" "Lcom/example/werktag/werktag/Education;" (.ref z_STUDENT) := own_staKeep f0 Kc17 all0
        have q27 : Exa Z T14.heap z_STUDENT "com/example/werktag/werktag/Education" := f1.keep Kc17
        have q28 : Sta Z T14.heap "com/example/werktag/werktag/Education" "NONE" "Lcom/example/werktag/werktag/Education;" (.ref z_NONE) := own_staKeep f2 Kc17 all0
        have q29 : Exa Z T14.heap z_NONE "com/example/werktag/werktag/Education" := f3.keep Kc17
        have q30 : Sta Z T14.heap "com/example/werktag/werktag/Education" "APPRENTICE" "Lcom/example/werktag/werktag/Education;" (.ref z_APPRENTICE) := own_staKeep f4 Kc17 all0
        have q31 : Exa Z T14.heap z_APPRENTICE "com/example/werktag/werktag/Education" := f5.keep Kc17
        have q32 : Sta Z T14.heap "com/example/werktag/werktag/Education" "PUPIL" "Lcom/example/werktag/werktag/Education;" (.ref z_PUPIL) := own_staKeep f6 Kc17 all0
        have q33 : Exa Z T14.heap z_PUPIL "com/example/werktag/werktag/Education" := f7.keep Kc17
        have q34 : Sta Z T14.heap "java/lang/String" "COMPACT_STRINGS" "Z" (.int zc) := own_staKeep f8 Kc17 all0
        have Z35 : n0 ≤ T14.heap.size := Nat.le_trans Z0 Kc17.1
        refine Go.of st14 ?_
        show Go p e below Qo T14 (mkF m 77 #[.val (.int i1), .val (.int i2), .val (.int i3), .val (.int i4), .val (.int ((i1 &&& (2147483647 : Int32)) % (401 : Int32))), .val (.double (FP.ddiv (FP.i2d ((i1 &&& (2147483647 : Int32)) % (401 : Int32))) (4616189618054758400 : UInt64))), .second, .val (.ref (F1 (i3 &&& (3 : Int32)) z_STUDENT z_NONE z_APPRENTICE z_PUPIL)), .val (.int v30_6), .val (.int v44_9), .val (.int v58_12), .unset, .unset, .unset, .unset] [(.ref x16)])
        refine Go.of (fun t k => XS.astore X14.here hx rfl (hb hby at_77) rfl rfl (l' := #[.val (.int i1), .val (.int i2), .val (.int i3), .val (.int i4), .val (.int ((i1 &&& (2147483647 : Int32)) % (401 : Int32))), .val (.double (FP.ddiv (FP.i2d ((i1 &&& (2147483647 : Int32)) % (401 : Int32))) (4616189618054758400 : UInt64))), .second, .val (.ref (F1 (i3 &&& (3 : Int32)) z_STUDENT z_NONE z_APPRENTICE z_PUPIL)), .val (.int v30_6), .val (.int v44_9), .val (.int v58_12), .val (.ref x16), .unset, .unset, .unset]) rfl k) ?_
        show Go p e below Qo T14 (mkF m 79 #[.val (.int i1), .val (.int i2), .val (.int i3), .val (.int i4), .val (.int ((i1 &&& (2147483647 : Int32)) % (401 : Int32))), .val (.double (FP.ddiv (FP.i2d ((i1 &&& (2147483647 : Int32)) % (401 : Int32))) (4616189618054758400 : UInt64))), .second, .val (.ref (F1 (i3 &&& (3 : Int32)) z_STUDENT z_NONE z_APPRENTICE z_PUPIL)), .val (.int v30_6), .val (.int v44_9), .val (.int v58_12), .val (.ref x16), .unset, .unset, .unset] [])
        refine Go.of (fun t k => XS.iloadN X14.here hx rfl (hb hby at_79) rfl  k) ?_
        show Go p e below Qo T14 (mkF m 80 #[.val (.int i1), .val (.int i2), .val (.int i3), .val (.int i4), .val (.int ((i1 &&& (2147483647 : Int32)) % (401 : Int32))), .val (.double (FP.ddiv (FP.i2d ((i1 &&& (2147483647 : Int32)) % (401 : Int32))) (4616189618054758400 : UInt64))), .second, .val (.ref (F1 (i3 &&& (3 : Int32)) z_STUDENT z_NONE z_APPRENTICE z_PUPIL)), .val (.int v30_6), .val (.int v44_9), .val (.int v58_12), .val (.ref x16), .unset, .unset, .unset] [(.int i4)])
        refine Go.of (fun t k => XS.bipush X14.here hx rfl (hb hby at_80) k) ?_
        show Go p e below Qo T14 (mkF m 82 #[.val (.int i1), .val (.int i2), .val (.int i3), .val (.int i4), .val (.int ((i1 &&& (2147483647 : Int32)) % (401 : Int32))), .val (.double (FP.ddiv (FP.i2d ((i1 &&& (2147483647 : Int32)) % (401 : Int32))) (4616189618054758400 : UInt64))), .second, .val (.ref (F1 (i3 &&& (3 : Int32)) z_STUDENT z_NONE z_APPRENTICE z_PUPIL)), .val (.int v30_6), .val (.int v44_9), .val (.int v58_12), .val (.ref x16), .unset, .unset, .unset] [(.int (8 : Int32)), (.int i4)])
        refine Go.of (fun t k => XS.iushr X14.here hx rfl (hb hby at_82) rfl k) ?_
        show Go p e below Qo T14 (mkF m 83 #[.val (.int i1), .val (.int i2), .val (.int i3), .val (.int i4), .val (.int ((i1 &&& (2147483647 : Int32)) % (401 : Int32))), .val (.double (FP.ddiv (FP.i2d ((i1 &&& (2147483647 : Int32)) % (401 : Int32))) (4616189618054758400 : UInt64))), .second, .val (.ref (F1 (i3 &&& (3 : Int32)) z_STUDENT z_NONE z_APPRENTICE z_PUPIL)), .val (.int v30_6), .val (.int v44_9), .val (.int v58_12), .val (.ref x16), .unset, .unset, .unset] [(.int ((i4.toUInt32 >>> ((8 : Int32) &&& 31).toUInt32).toInt32))])
        refine Go.of (fun t k => XS.sipush X14.here hx rfl (hb hby at_83) k) ?_
        show Go p e below Qo T14 (mkF m 86 #[.val (.int i1), .val (.int i2), .val (.int i3), .val (.int i4), .val (.int ((i1 &&& (2147483647 : Int32)) % (401 : Int32))), .val (.double (FP.ddiv (FP.i2d ((i1 &&& (2147483647 : Int32)) % (401 : Int32))) (4616189618054758400 : UInt64))), .second, .val (.ref (F1 (i3 &&& (3 : Int32)) z_STUDENT z_NONE z_APPRENTICE z_PUPIL)), .val (.int v30_6), .val (.int v44_9), .val (.int v58_12), .val (.ref x16), .unset, .unset, .unset] [(.int (255 : Int32)), (.int ((i4.toUInt32 >>> ((8 : Int32) &&& 31).toUInt32).toInt32))])
        refine Go.of (fun t k => XS.iand X14.here hx rfl (hb hby at_86) rfl k) ?_
        show Go p e below Qo T14 (mkF m 87 #[.val (.int i1), .val (.int i2), .val (.int i3), .val (.int i4), .val (.int ((i1 &&& (2147483647 : Int32)) % (401 : Int32))), .val (.double (FP.ddiv (FP.i2d ((i1 &&& (2147483647 : Int32)) % (401 : Int32))) (4616189618054758400 : UInt64))), .second, .val (.ref (F1 (i3 &&& (3 : Int32)) z_STUDENT z_NONE z_APPRENTICE z_PUPIL)), .val (.int v30_6), .val (.int v44_9), .val (.int v58_12), .val (.ref x16), .unset, .unset, .unset] [(.int (((i4.toUInt32 >>> ((8 : Int32) &&& 31).toUInt32).toInt32) &&& (255 : Int32)))])
        refine Go.of (fun t k => XS.i2c X14.here hx rfl (hb hby at_87) rfl k) ?_
        show Go p e below Qo T14 (mkF m 88 #[.val (.int i1), .val (.int i2), .val (.int i3), .val (.int i4), .val (.int ((i1 &&& (2147483647 : Int32)) % (401 : Int32))), .val (.double (FP.ddiv (FP.i2d ((i1 &&& (2147483647 : Int32)) % (401 : Int32))) (4616189618054758400 : UInt64))), .second, .val (.ref (F1 (i3 &&& (3 : Int32)) z_STUDENT z_NONE z_APPRENTICE z_PUPIL)), .val (.int v30_6), .val (.int v44_9), .val (.int v58_12), .val (.ref x16), .unset, .unset, .unset] [(.int ((((i4.toUInt32 >>> ((8 : Int32) &&& 31).toUInt32).toInt32) &&& (255 : Int32)).toUInt32.toUInt16.toUInt32.toInt32))])
        obtain ⟨_, _, ⟨T36, L36, k36, n36⟩, -, X36, ⟨Lc36, hQ36, l36, y36, z36⟩, st36⟩ := Jvm.LawKit.callS X14 hx (y := (⟨"java/lang/String", "valueOf", "(C)Ljava/lang/String;"⟩ : MethodName)) hown (mvT hZ (hw _ (List.mem_of_getElem? (i := 9) rfl))) (mvT hZ (hw _ (List.mem_of_getElem? (i := 10) rfl))) (mvT hZ (hw _ (List.mem_of_getElem? (i := 11) rfl))) (mvT hZ (hw _ (List.mem_of_getElem? (i := 12) rfl))) (by decide) (backOf (W := 0) (rm2 l Z a0 hw [] ((((i4.toUInt32 >>> ((8 : Int32) &&& 31).toUInt32).toInt32) &&& (255 : Int32)).toUInt32.toUInt16.toUInt32.toInt32) zc T14.heap n0 Z35 q34 (hz) (own_enc _)) hZ (hw _ (List.mem_of_getElem? (i := 12) rfl)) (hw _ (List.mem_of_getElem? (i := 11) rfl)) (by decide) (by decide)) (g := (mkF m 88 #[.val (.int i1), .val (.int i2), .val (.int i3), .val (.int i4), .val (.int ((i1 &&& (2147483647 : Int32)) % (401 : Int32))), .val (.double (FP.ddiv (FP.i2d ((i1 &&& (2147483647 : Int32)) % (401 : Int32))) (4616189618054758400 : UInt64))), .second, .val (.ref (F1 (i3 &&& (3 : Int32)) z_STUDENT z_NONE z_APPRENTICE z_PUPIL)), .val (.int v30_6), .val (.int v44_9), .val (.int v58_12), .val (.ref x16), .unset, .unset, .unset] [(.int ((((i4.toUInt32 >>> ((8 : Int32) &&& 31).toUInt32).toInt32) &&& (255 : Int32)).toUInt32.toUInt16.toUInt32.toInt32))])) rfl (by rw [hml]; rfl) (argsL := [(.int ((((i4.toUInt32 >>> ((8 : Int32) &&& 31).toUInt32).toInt32) &&& (255 : Int32)).toUInt32.toUInt16.toUInt32.toInt32))]) (rest := []) (lenOf pd_5 rfl) rfl (by show 2 * 0 + _ ≤ _; exact Nat.le_of_eq rfl) (hb hby at_88) (fun _ _ => ⟨rfl, rfl, (by decide : 2 + 2 ≤ _), (by decide : 5 + 5 ≤ _)⟩)
        dsimp only [Pt.U, Pt.locs, Pt.cells, Pt.slots] at X36 l36 y36 z36 st36 hQ36
        subst l36 y36 z36
        obtain ⟨x38, rfl, N37, Kc39, g41, q40⟩ := hQ36
        have N42 := Fr.app N20 N37
        have ne43 : z_STUDENT ≠ x38 := Nat.ne_of_lt (Nat.lt_of_lt_of_le q27.lt g41)
        have ne44 : z_NONE ≠ x38 := Nat.ne_of_lt (Nat.lt_of_lt_of_le q29.lt g41)
        have ne45 : z_APPRENTICE ≠ x38 := Nat.ne_of_lt (Nat.lt_of_lt_of_le q31.lt g41)
        have ne46 : z_PUPIL ≠ x38 := Nat.ne_of_lt (Nat.lt_of_lt_of_le q33.lt g41)
        have ne47 : x16 ≠ x38 := Nat.ne_of_lt (Nat.lt_of_lt_of_le q18.lt g41)
        have g48 : n0 ≤ x38 := Nat.le_trans Z35 g41
        have q49 : Sta Z T36.heap "com/example/werktag/werktag/Education" "STUDENT" "Lcom/example/werktag/werktag/Education;" (.ref z_STUDENT) := own_staKeep q26 Kc39 all0
        have q50 : Exa Z T36.heap z_STUDENT "com/example/werktag/werktag/Education" := q27.keep Kc39
        have q51 : Sta Z T36.heap "com/example/werktag/werktag/Education" "NONE" "Lcom/example/werktag/werktag/Education;" (.ref z_NONE) := own_staKeep q28 Kc39 all0
        have q52 : Exa Z T36.heap z_NONE "com/example/werktag/werktag/Education" := q29.keep Kc39
        have q53 : Sta Z T36.heap "com/example/werktag/werktag/Education" "APPRENTICE" "Lcom/example/werktag/werktag/Education;" (.ref z_APPRENTICE) := own_staKeep q30 Kc39 all0
        have q54 : Exa Z T36.heap z_APPRENTICE "com/example/werktag/werktag/Education" := q31.keep Kc39
        have q55 : Sta Z T36.heap "com/example/werktag/werktag/Education" "PUPIL" "Lcom/example/werktag/werktag/Education;" (.ref z_PUPIL) := own_staKeep q32 Kc39 all0
        have q56 : Exa Z T36.heap z_PUPIL "com/example/werktag/werktag/Education" := q33.keep Kc39
        have q57 : Sta Z T36.heap "java/lang/String" "COMPACT_STRINGS" "Z" (.int zc) := own_staKeep q34 Kc39 all0
        have q58 : Exa Z T36.heap x16 "java/lang/String" := q18.keep Kc39
        have Z59 : n0 ≤ T36.heap.size := Nat.le_trans Z35 Kc39.1
        refine Go.of st36 ?_
        show Go p e below Qo T36 (mkF m 91 #[.val (.int i1), .val (.int i2), .val (.int i3), .val (.int i4), .val (.int ((i1 &&& (2147483647 : Int32)) % (401 : Int32))), .val (.double (FP.ddiv (FP.i2d ((i1 &&& (2147483647 : Int32)) % (401 : Int32))) (4616189618054758400 : UInt64))), .second, .val (.ref (F1 (i3 &&& (3 : Int32)) z_STUDENT z_NONE z_APPRENTICE z_PUPIL)), .val (.int v30_6), .val (.int v44_9), .val (.int v58_12), .val (.ref x16), .unset, .unset, .unset] [(.ref x38)])
        refine Go.of (fun t k => XS.astore X36.here hx rfl (hb hby at_91) rfl rfl (l' := #[.val (.int i1), .val (.int i2), .val (.int i3), .val (.int i4), .val (.int ((i1 &&& (2147483647 : Int32)) % (401 : Int32))), .val (.double (FP.ddiv (FP.i2d ((i1 &&& (2147483647 : Int32)) % (401 : Int32))) (4616189618054758400 : UInt64))), .second, .val (.ref (F1 (i3 &&& (3 : Int32)) z_STUDENT z_NONE z_APPRENTICE z_PUPIL)), .val (.int v30_6), .val (.int v44_9), .val (.int v58_12), .val (.ref x16), .val (.ref x38), .unset, .unset]) rfl k) ?_
        show Go p e below Qo T36 (mkF m 93 #[.val (.int i1), .val (.int i2), .val (.int i3), .val (.int i4), .val (.int ((i1 &&& (2147483647 : Int32)) % (401 : Int32))), .val (.double (FP.ddiv (FP.i2d ((i1 &&& (2147483647 : Int32)) % (401 : Int32))) (4616189618054758400 : UInt64))), .second, .val (.ref (F1 (i3 &&& (3 : Int32)) z_STUDENT z_NONE z_APPRENTICE z_PUPIL)), .val (.int v30_6), .val (.int v44_9), .val (.int v58_12), .val (.ref x16), .val (.ref x38), .unset, .unset] [])
        refine Go.of (fun t k => XS.iloadN X36.here hx rfl (hb hby at_93) rfl  k) ?_
        show Go p e below Qo T36 (mkF m 94 #[.val (.int i1), .val (.int i2), .val (.int i3), .val (.int i4), .val (.int ((i1 &&& (2147483647 : Int32)) % (401 : Int32))), .val (.double (FP.ddiv (FP.i2d ((i1 &&& (2147483647 : Int32)) % (401 : Int32))) (4616189618054758400 : UInt64))), .second, .val (.ref (F1 (i3 &&& (3 : Int32)) z_STUDENT z_NONE z_APPRENTICE z_PUPIL)), .val (.int v30_6), .val (.int v44_9), .val (.int v58_12), .val (.ref x16), .val (.ref x38), .unset, .unset] [(.int i4)])
        refine Go.of (fun t k => XS.bipush X36.here hx rfl (hb hby at_94) k) ?_
        show Go p e below Qo T36 (mkF m 96 #[.val (.int i1), .val (.int i2), .val (.int i3), .val (.int i4), .val (.int ((i1 &&& (2147483647 : Int32)) % (401 : Int32))), .val (.double (FP.ddiv (FP.i2d ((i1 &&& (2147483647 : Int32)) % (401 : Int32))) (4616189618054758400 : UInt64))), .second, .val (.ref (F1 (i3 &&& (3 : Int32)) z_STUDENT z_NONE z_APPRENTICE z_PUPIL)), .val (.int v30_6), .val (.int v44_9), .val (.int v58_12), .val (.ref x16), .val (.ref x38), .unset, .unset] [(.int (16 : Int32)), (.int i4)])
        refine Go.of (fun t k => XS.iushr X36.here hx rfl (hb hby at_96) rfl k) ?_
        show Go p e below Qo T36 (mkF m 97 #[.val (.int i1), .val (.int i2), .val (.int i3), .val (.int i4), .val (.int ((i1 &&& (2147483647 : Int32)) % (401 : Int32))), .val (.double (FP.ddiv (FP.i2d ((i1 &&& (2147483647 : Int32)) % (401 : Int32))) (4616189618054758400 : UInt64))), .second, .val (.ref (F1 (i3 &&& (3 : Int32)) z_STUDENT z_NONE z_APPRENTICE z_PUPIL)), .val (.int v30_6), .val (.int v44_9), .val (.int v58_12), .val (.ref x16), .val (.ref x38), .unset, .unset] [(.int ((i4.toUInt32 >>> ((16 : Int32) &&& 31).toUInt32).toInt32))])
        refine Go.of (fun t k => XS.sipush X36.here hx rfl (hb hby at_97) k) ?_
        show Go p e below Qo T36 (mkF m 100 #[.val (.int i1), .val (.int i2), .val (.int i3), .val (.int i4), .val (.int ((i1 &&& (2147483647 : Int32)) % (401 : Int32))), .val (.double (FP.ddiv (FP.i2d ((i1 &&& (2147483647 : Int32)) % (401 : Int32))) (4616189618054758400 : UInt64))), .second, .val (.ref (F1 (i3 &&& (3 : Int32)) z_STUDENT z_NONE z_APPRENTICE z_PUPIL)), .val (.int v30_6), .val (.int v44_9), .val (.int v58_12), .val (.ref x16), .val (.ref x38), .unset, .unset] [(.int (255 : Int32)), (.int ((i4.toUInt32 >>> ((16 : Int32) &&& 31).toUInt32).toInt32))])
        refine Go.of (fun t k => XS.iand X36.here hx rfl (hb hby at_100) rfl k) ?_
        show Go p e below Qo T36 (mkF m 101 #[.val (.int i1), .val (.int i2), .val (.int i3), .val (.int i4), .val (.int ((i1 &&& (2147483647 : Int32)) % (401 : Int32))), .val (.double (FP.ddiv (FP.i2d ((i1 &&& (2147483647 : Int32)) % (401 : Int32))) (4616189618054758400 : UInt64))), .second, .val (.ref (F1 (i3 &&& (3 : Int32)) z_STUDENT z_NONE z_APPRENTICE z_PUPIL)), .val (.int v30_6), .val (.int v44_9), .val (.int v58_12), .val (.ref x16), .val (.ref x38), .unset, .unset] [(.int (((i4.toUInt32 >>> ((16 : Int32) &&& 31).toUInt32).toInt32) &&& (255 : Int32)))])
        refine Go.of (fun t k => XS.i2c X36.here hx rfl (hb hby at_101) rfl k) ?_
        show Go p e below Qo T36 (mkF m 102 #[.val (.int i1), .val (.int i2), .val (.int i3), .val (.int i4), .val (.int ((i1 &&& (2147483647 : Int32)) % (401 : Int32))), .val (.double (FP.ddiv (FP.i2d ((i1 &&& (2147483647 : Int32)) % (401 : Int32))) (4616189618054758400 : UInt64))), .second, .val (.ref (F1 (i3 &&& (3 : Int32)) z_STUDENT z_NONE z_APPRENTICE z_PUPIL)), .val (.int v30_6), .val (.int v44_9), .val (.int v58_12), .val (.ref x16), .val (.ref x38), .unset, .unset] [(.int ((((i4.toUInt32 >>> ((16 : Int32) &&& 31).toUInt32).toInt32) &&& (255 : Int32)).toUInt32.toUInt16.toUInt32.toInt32))])
        obtain ⟨_, _, ⟨T60, L60, k60, n60⟩, -, X60, ⟨Lc60, hQ60, l60, y60, z60⟩, st60⟩ := Jvm.LawKit.callS X36 hx (y := (⟨"java/lang/String", "valueOf", "(C)Ljava/lang/String;"⟩ : MethodName)) hown (mvT hZ (hw _ (List.mem_of_getElem? (i := 9) rfl))) (mvT hZ (hw _ (List.mem_of_getElem? (i := 10) rfl))) (mvT hZ (hw _ (List.mem_of_getElem? (i := 11) rfl))) (mvT hZ (hw _ (List.mem_of_getElem? (i := 12) rfl))) (by decide) (backOf (W := 0) (rm2 l Z a0 hw [] ((((i4.toUInt32 >>> ((16 : Int32) &&& 31).toUInt32).toInt32) &&& (255 : Int32)).toUInt32.toUInt16.toUInt32.toInt32) zc T36.heap n0 Z59 q57 (hz) (own_enc _)) hZ (hw _ (List.mem_of_getElem? (i := 12) rfl)) (hw _ (List.mem_of_getElem? (i := 11) rfl)) (by decide) (by decide)) (g := (mkF m 102 #[.val (.int i1), .val (.int i2), .val (.int i3), .val (.int i4), .val (.int ((i1 &&& (2147483647 : Int32)) % (401 : Int32))), .val (.double (FP.ddiv (FP.i2d ((i1 &&& (2147483647 : Int32)) % (401 : Int32))) (4616189618054758400 : UInt64))), .second, .val (.ref (F1 (i3 &&& (3 : Int32)) z_STUDENT z_NONE z_APPRENTICE z_PUPIL)), .val (.int v30_6), .val (.int v44_9), .val (.int v58_12), .val (.ref x16), .val (.ref x38), .unset, .unset] [(.int ((((i4.toUInt32 >>> ((16 : Int32) &&& 31).toUInt32).toInt32) &&& (255 : Int32)).toUInt32.toUInt16.toUInt32.toInt32))])) rfl (by rw [hml]; rfl) (argsL := [(.int ((((i4.toUInt32 >>> ((16 : Int32) &&& 31).toUInt32).toInt32) &&& (255 : Int32)).toUInt32.toUInt16.toUInt32.toInt32))]) (rest := []) (lenOf pd_5 rfl) rfl (by show 2 * 0 + _ ≤ _; exact Nat.le_of_eq rfl) (hb hby at_102) (fun _ _ => ⟨rfl, rfl, (by decide : 4 + 2 ≤ _), (by decide : 10 + 5 ≤ _)⟩)
        dsimp only [Pt.U, Pt.locs, Pt.cells, Pt.slots] at X60 l60 y60 z60 st60 hQ60
        subst l60 y60 z60
        obtain ⟨x62, rfl, N61, Kc63, g65, q64⟩ := hQ60
        have N66 := Fr.app N42 N61
        have ne67 : z_STUDENT ≠ x62 := Nat.ne_of_lt (Nat.lt_of_lt_of_le q50.lt g65)
        have ne68 : z_NONE ≠ x62 := Nat.ne_of_lt (Nat.lt_of_lt_of_le q52.lt g65)
        have ne69 : z_APPRENTICE ≠ x62 := Nat.ne_of_lt (Nat.lt_of_lt_of_le q54.lt g65)
        have ne70 : z_PUPIL ≠ x62 := Nat.ne_of_lt (Nat.lt_of_lt_of_le q56.lt g65)
        have ne71 : x16 ≠ x62 := Nat.ne_of_lt (Nat.lt_of_lt_of_le q58.lt g65)
        have ne72 : x38 ≠ x62 := Nat.ne_of_lt (Nat.lt_of_lt_of_le q40.lt g65)
        have g73 : n0 ≤ x62 := Nat.le_trans Z59 g65
        have q74 : Sta Z T60.heap "com/example/werktag/werktag/Education" "STUDENT" "Lcom/example/werktag/werktag/Education;" (.ref z_STUDENT) := own_staKeep q49 Kc63 all0
        have q75 : Exa Z T60.heap z_STUDENT "com/example/werktag/werktag/Education" := q50.keep Kc63
        have q76 : Sta Z T60.heap "com/example/werktag/werktag/Education" "NONE" "Lcom/example/werktag/werktag/Education;" (.ref z_NONE) := own_staKeep q51 Kc63 all0
        have q77 : Exa Z T60.heap z_NONE "com/example/werktag/werktag/Education" := q52.keep Kc63
        have q78 : Sta Z T60.heap "com/example/werktag/werktag/Education" "APPRENTICE" "Lcom/example/werktag/werktag/Education;" (.ref z_APPRENTICE) := own_staKeep q53 Kc63 all0
        have q79 : Exa Z T60.heap z_APPRENTICE "com/example/werktag/werktag/Education" := q54.keep Kc63
        have q80 : Sta Z T60.heap "com/example/werktag/werktag/Education" "PUPIL" "Lcom/example/werktag/werktag/Education;" (.ref z_PUPIL) := own_staKeep q55 Kc63 all0
        have q81 : Exa Z T60.heap z_PUPIL "com/example/werktag/werktag/Education" := q56.keep Kc63
        have q82 : Sta Z T60.heap "java/lang/String" "COMPACT_STRINGS" "Z" (.int zc) := own_staKeep q57 Kc63 all0
        have q83 : Exa Z T60.heap x16 "java/lang/String" := q58.keep Kc63
        have q84 : Exa Z T60.heap x38 "java/lang/String" := q40.keep Kc63
        have Z85 : n0 ≤ T60.heap.size := Nat.le_trans Z59 Kc63.1
        refine Go.of st60 ?_
        show Go p e below Qo T60 (mkF m 105 #[.val (.int i1), .val (.int i2), .val (.int i3), .val (.int i4), .val (.int ((i1 &&& (2147483647 : Int32)) % (401 : Int32))), .val (.double (FP.ddiv (FP.i2d ((i1 &&& (2147483647 : Int32)) % (401 : Int32))) (4616189618054758400 : UInt64))), .second, .val (.ref (F1 (i3 &&& (3 : Int32)) z_STUDENT z_NONE z_APPRENTICE z_PUPIL)), .val (.int v30_6), .val (.int v44_9), .val (.int v58_12), .val (.ref x16), .val (.ref x38), .unset, .unset] [(.ref x62)])
        refine Go.of (fun t k => XS.astore X60.here hx rfl (hb hby at_105) rfl rfl (l' := #[.val (.int i1), .val (.int i2), .val (.int i3), .val (.int i4), .val (.int ((i1 &&& (2147483647 : Int32)) % (401 : Int32))), .val (.double (FP.ddiv (FP.i2d ((i1 &&& (2147483647 : Int32)) % (401 : Int32))) (4616189618054758400 : UInt64))), .second, .val (.ref (F1 (i3 &&& (3 : Int32)) z_STUDENT z_NONE z_APPRENTICE z_PUPIL)), .val (.int v30_6), .val (.int v44_9), .val (.int v58_12), .val (.ref x16), .val (.ref x38), .val (.ref x62), .unset]) rfl k) ?_
        show Go p e below Qo T60 (mkF m 107 #[.val (.int i1), .val (.int i2), .val (.int i3), .val (.int i4), .val (.int ((i1 &&& (2147483647 : Int32)) % (401 : Int32))), .val (.double (FP.ddiv (FP.i2d ((i1 &&& (2147483647 : Int32)) % (401 : Int32))) (4616189618054758400 : UInt64))), .second, .val (.ref (F1 (i3 &&& (3 : Int32)) z_STUDENT z_NONE z_APPRENTICE z_PUPIL)), .val (.int v30_6), .val (.int v44_9), .val (.int v58_12), .val (.ref x16), .val (.ref x38), .val (.ref x62), .unset] [])
        obtain ⟨T86, h86, X86, e86, E86, A86, D86, -, st86⟩ := newO X60 hx hZ hown (hw _ (List.mem_of_getElem? (i := 35) rfl)) (hw _ (List.mem_of_getElem? (i := 36) rfl)) (hw _ (List.mem_of_getElem? (i := 37) rfl)) rfl (g := (mkF m 107 #[.val (.int i1), .val (.int i2), .val (.int i3), .val (.int i4), .val (.int ((i1 &&& (2147483647 : Int32)) % (401 : Int32))), .val (.double (FP.ddiv (FP.i2d ((i1 &&& (2147483647 : Int32)) % (401 : Int32))) (4616189618054758400 : UInt64))), .second, .val (.ref (F1 (i3 &&& (3 : Int32)) z_STUDENT z_NONE z_APPRENTICE z_PUPIL)), .val (.int v30_6), .val (.int v44_9), .val (.int v58_12), .val (.ref x16), .val (.ref x38), .val (.ref x62), .unset] [])) rfl (hb hby at_107) (by decide) (by decide)
        obtain ⟨b86, g86⟩ : ∃ z, z = T60.heap.size := ⟨_, rfl⟩
        rw [← g86] at A86 D86 st86
        have ne87 : z_STUDENT ≠ b86 := Nat.ne_of_lt (Nat.lt_of_lt_of_le q75.lt (Nat.le_of_eq g86.symm))
        have ne88 : z_NONE ≠ b86 := Nat.ne_of_lt (Nat.lt_of_lt_of_le q77.lt (Nat.le_of_eq g86.symm))
        have ne89 : z_APPRENTICE ≠ b86 := Nat.ne_of_lt (Nat.lt_of_lt_of_le q79.lt (Nat.le_of_eq g86.symm))
        have ne90 : z_PUPIL ≠ b86 := Nat.ne_of_lt (Nat.lt_of_lt_of_le q81.lt (Nat.le_of_eq g86.symm))
        have ne91 : x16 ≠ b86 := Nat.ne_of_lt (Nat.lt_of_lt_of_le q83.lt (Nat.le_of_eq g86.symm))
        have ne92 : x38 ≠ b86 := Nat.ne_of_lt (Nat.lt_of_lt_of_le q84.lt (Nat.le_of_eq g86.symm))
        have ne93 : x62 ≠ b86 := Nat.ne_of_lt (Nat.lt_of_lt_of_le q64.lt (Nat.le_of_eq g86.symm))
        have g94 : n0 ≤ b86 := Nat.le_trans Z85 (Nat.le_of_eq g86.symm)
        have q95 : Sta Z h86 "com/example/werktag/werktag/Education" "STUDENT" "Lcom/example/werktag/werktag/Education;" (.ref z_STUDENT) := q74.ext E86
        have q96 : Exa Z h86 z_STUDENT "com/example/werktag/werktag/Education" := q75.ext E86
        have q97 : Sta Z h86 "com/example/werktag/werktag/Education" "NONE" "Lcom/example/werktag/werktag/Education;" (.ref z_NONE) := q76.ext E86
        have q98 : Exa Z h86 z_NONE "com/example/werktag/werktag/Education" := q77.ext E86
        have q99 : Sta Z h86 "com/example/werktag/werktag/Education" "APPRENTICE" "Lcom/example/werktag/werktag/Education;" (.ref z_APPRENTICE) := q78.ext E86
        have q100 : Exa Z h86 z_APPRENTICE "com/example/werktag/werktag/Education" := q79.ext E86
        have q101 : Sta Z h86 "com/example/werktag/werktag/Education" "PUPIL" "Lcom/example/werktag/werktag/Education;" (.ref z_PUPIL) := q80.ext E86
        have q102 : Exa Z h86 z_PUPIL "com/example/werktag/werktag/Education" := q81.ext E86
        have q103 : Sta Z h86 "java/lang/String" "COMPACT_STRINGS" "Z" (.int zc) := q82.ext E86
        have q104 : Exa Z h86 x16 "java/lang/String" := q83.ext E86
        have q105 : Exa Z h86 x38 "java/lang/String" := q84.ext E86
        have q106 : Exa Z h86 x62 "java/lang/String" := q64.ext E86
        have Z107 : n0 ≤ h86.size := Nat.le_trans Z85 E86.1
        have q108 : Fld Z h86 b86 "com/example/werktag/werktag/Person" "id" "Ljava/lang/String;" .null := D86 (Or.inr (hw _ (List.mem_of_getElem? (i := 48) rfl))) (ty := (.object "java/lang/String")) (by decide)
        have q109 : Fld Z h86 b86 "com/example/werktag/werktag/Person" "householdId" "Ljava/lang/String;" .null := D86 (Or.inr (hw _ (List.mem_of_getElem? (i := 50) rfl))) (ty := (.object "java/lang/String")) (by decide)
        have q110 : Fld Z h86 b86 "com/example/werktag/werktag/Person" "homeZone" "Ljava/lang/String;" .null := D86 (Or.inr (hw _ (List.mem_of_getElem? (i := 52) rfl))) (ty := (.object "java/lang/String")) (by decide)
        have q111 : Fld Z h86 b86 "com/example/werktag/werktag/Person" "age" "I" (.int (0 : Int32)) := D86 (Or.inr (hw _ (List.mem_of_getElem? (i := 54) rfl))) (ty := .int) (by decide)
        have q112 : Fld Z h86 b86 "com/example/werktag/werktag/Person" "employmentPct" "D" (.double (0 : UInt64)) := D86 (Or.inr (hw _ (List.mem_of_getElem? (i := 56) rfl))) (ty := .double) (by decide)
        have q113 : Fld Z h86 b86 "com/example/werktag/werktag/Person" "education" "Lcom/example/werktag/werktag/Education;" .null := D86 (Or.inr (hw _ (List.mem_of_getElem? (i := 58) rfl))) (ty := (.object "com/example/werktag/werktag/Education")) (by decide)
        have q114 : Fld Z h86 b86 "com/example/werktag/werktag/Person" "carAvailable" "Z" (.int (0 : Int32)) := D86 (Or.inr (hw _ (List.mem_of_getElem? (i := 60) rfl))) (ty := .boolean) (by decide)
        have q115 : Fld Z h86 b86 "com/example/werktag/werktag/Person" "ptSubscription" "Z" (.int (0 : Int32)) := D86 (Or.inr (hw _ (List.mem_of_getElem? (i := 62) rfl))) (ty := .boolean) (by decide)
        have q116 : Fld Z h86 b86 "com/example/werktag/werktag/Person" "kidsInHousehold" "Z" (.int (0 : Int32)) := D86 (Or.inr (hw _ (List.mem_of_getElem? (i := 64) rfl))) (ty := .boolean) (by decide)
        refine Go.of st86 ?_
        show Go p e below Qo T86 (mkF m 110 #[.val (.int i1), .val (.int i2), .val (.int i3), .val (.int i4), .val (.int ((i1 &&& (2147483647 : Int32)) % (401 : Int32))), .val (.double (FP.ddiv (FP.i2d ((i1 &&& (2147483647 : Int32)) % (401 : Int32))) (4616189618054758400 : UInt64))), .second, .val (.ref (F1 (i3 &&& (3 : Int32)) z_STUDENT z_NONE z_APPRENTICE z_PUPIL)), .val (.int v30_6), .val (.int v44_9), .val (.int v58_12), .val (.ref x16), .val (.ref x38), .val (.ref x62), .unset] [(.ref b86)])
        refine Go.of (fun t k => XS.dup X86.here hx rfl (hb hby at_110) rfl rfl k) ?_
        show Go p e below Qo T86 (mkF m 111 #[.val (.int i1), .val (.int i2), .val (.int i3), .val (.int i4), .val (.int ((i1 &&& (2147483647 : Int32)) % (401 : Int32))), .val (.double (FP.ddiv (FP.i2d ((i1 &&& (2147483647 : Int32)) % (401 : Int32))) (4616189618054758400 : UInt64))), .second, .val (.ref (F1 (i3 &&& (3 : Int32)) z_STUDENT z_NONE z_APPRENTICE z_PUPIL)), .val (.int v30_6), .val (.int v44_9), .val (.int v58_12), .val (.ref x16), .val (.ref x38), .val (.ref x62), .unset] [(.ref b86), (.ref b86)])
        refine Go.of (fun t k => XS.aload X86.here hx rfl (hb hby at_111) rfl rfl k) ?_
        show Go p e below Qo T86 (mkF m 113 #[.val (.int i1), .val (.int i2), .val (.int i3), .val (.int i4), .val (.int ((i1 &&& (2147483647 : Int32)) % (401 : Int32))), .val (.double (FP.ddiv (FP.i2d ((i1 &&& (2147483647 : Int32)) % (401 : Int32))) (4616189618054758400 : UInt64))), .second, .val (.ref (F1 (i3 &&& (3 : Int32)) z_STUDENT z_NONE z_APPRENTICE z_PUPIL)), .val (.int v30_6), .val (.int v44_9), .val (.int v58_12), .val (.ref x16), .val (.ref x38), .val (.ref x62), .unset] [(.ref x16), (.ref b86), (.ref b86)])
        refine Go.of (fun t k => XS.aload X86.here hx rfl (hb hby at_113) rfl rfl k) ?_
        show Go p e below Qo T86 (mkF m 115 #[.val (.int i1), .val (.int i2), .val (.int i3), .val (.int i4), .val (.int ((i1 &&& (2147483647 : Int32)) % (401 : Int32))), .val (.double (FP.ddiv (FP.i2d ((i1 &&& (2147483647 : Int32)) % (401 : Int32))) (4616189618054758400 : UInt64))), .second, .val (.ref (F1 (i3 &&& (3 : Int32)) z_STUDENT z_NONE z_APPRENTICE z_PUPIL)), .val (.int v30_6), .val (.int v44_9), .val (.int v58_12), .val (.ref x16), .val (.ref x38), .val (.ref x62), .unset] [(.ref x38), (.ref x16), (.ref b86), (.ref b86)])
        refine Go.of (fun t k => XS.aload X86.here hx rfl (hb hby at_115) rfl rfl k) ?_
        show Go p e below Qo T86 (mkF m 117 #[.val (.int i1), .val (.int i2), .val (.int i3), .val (.int i4), .val (.int ((i1 &&& (2147483647 : Int32)) % (401 : Int32))), .val (.double (FP.ddiv (FP.i2d ((i1 &&& (2147483647 : Int32)) % (401 : Int32))) (4616189618054758400 : UInt64))), .second, .val (.ref (F1 (i3 &&& (3 : Int32)) z_STUDENT z_NONE z_APPRENTICE z_PUPIL)), .val (.int v30_6), .val (.int v44_9), .val (.int v58_12), .val (.ref x16), .val (.ref x38), .val (.ref x62), .unset] [(.ref x62), (.ref x38), (.ref x16), (.ref b86), (.ref b86)])
        refine Go.of (fun t k => XS.iloadN X86.here hx rfl (hb hby at_117) rfl  k) ?_
        show Go p e below Qo T86 (mkF m 118 #[.val (.int i1), .val (.int i2), .val (.int i3), .val (.int i4), .val (.int ((i1 &&& (2147483647 : Int32)) % (401 : Int32))), .val (.double (FP.ddiv (FP.i2d ((i1 &&& (2147483647 : Int32)) % (401 : Int32))) (4616189618054758400 : UInt64))), .second, .val (.ref (F1 (i3 &&& (3 : Int32)) z_STUDENT z_NONE z_APPRENTICE z_PUPIL)), .val (.int v30_6), .val (.int v44_9), .val (.int v58_12), .val (.ref x16), .val (.ref x38), .val (.ref x62), .unset] [(.int i2), (.ref x62), (.ref x38), (.ref x16), (.ref b86), (.ref b86)])
        refine Go.of (fun t k => XS.dload X86.here hx rfl (hb hby at_118) rfl  k) ?_
        show Go p e below Qo T86 (mkF m 120 #[.val (.int i1), .val (.int i2), .val (.int i3), .val (.int i4), .val (.int ((i1 &&& (2147483647 : Int32)) % (401 : Int32))), .val (.double (FP.ddiv (FP.i2d ((i1 &&& (2147483647 : Int32)) % (401 : Int32))) (4616189618054758400 : UInt64))), .second, .val (.ref (F1 (i3 &&& (3 : Int32)) z_STUDENT z_NONE z_APPRENTICE z_PUPIL)), .val (.int v30_6), .val (.int v44_9), .val (.int v58_12), .val (.ref x16), .val (.ref x38), .val (.ref x62), .unset] [(.double (FP.ddiv (FP.i2d ((i1 &&& (2147483647 : Int32)) % (401 : Int32))) (4616189618054758400 : UInt64))), (.int i2), (.ref x62), (.ref x38), (.ref x16), (.ref b86), (.ref b86)])
        refine Go.of (fun t k => XS.aload X86.here hx rfl (hb hby at_120) rfl rfl k) ?_
        show Go p e below Qo T86 (mkF m 122 #[.val (.int i1), .val (.int i2), .val (.int i3), .val (.int i4), .val (.int ((i1 &&& (2147483647 : Int32)) % (401 : Int32))), .val (.double (FP.ddiv (FP.i2d ((i1 &&& (2147483647 : Int32)) % (401 : Int32))) (4616189618054758400 : UInt64))), .second, .val (.ref (F1 (i3 &&& (3 : Int32)) z_STUDENT z_NONE z_APPRENTICE z_PUPIL)), .val (.int v30_6), .val (.int v44_9), .val (.int v58_12), .val (.ref x16), .val (.ref x38), .val (.ref x62), .unset] [(.ref (F1 (i3 &&& (3 : Int32)) z_STUDENT z_NONE z_APPRENTICE z_PUPIL)), (.double (FP.ddiv (FP.i2d ((i1 &&& (2147483647 : Int32)) % (401 : Int32))) (4616189618054758400 : UInt64))), (.int i2), (.ref x62), (.ref x38), (.ref x16), (.ref b86), (.ref b86)])
        refine Go.of (fun t k => XS.iload X86.here hx rfl (hb hby at_122) rfl  k) ?_
        show Go p e below Qo T86 (mkF m 124 #[.val (.int i1), .val (.int i2), .val (.int i3), .val (.int i4), .val (.int ((i1 &&& (2147483647 : Int32)) % (401 : Int32))), .val (.double (FP.ddiv (FP.i2d ((i1 &&& (2147483647 : Int32)) % (401 : Int32))) (4616189618054758400 : UInt64))), .second, .val (.ref (F1 (i3 &&& (3 : Int32)) z_STUDENT z_NONE z_APPRENTICE z_PUPIL)), .val (.int v30_6), .val (.int v44_9), .val (.int v58_12), .val (.ref x16), .val (.ref x38), .val (.ref x62), .unset] [(.int v30_6), (.ref (F1 (i3 &&& (3 : Int32)) z_STUDENT z_NONE z_APPRENTICE z_PUPIL)), (.double (FP.ddiv (FP.i2d ((i1 &&& (2147483647 : Int32)) % (401 : Int32))) (4616189618054758400 : UInt64))), (.int i2), (.ref x62), (.ref x38), (.ref x16), (.ref b86), (.ref b86)])
        refine Go.of (fun t k => XS.iload X86.here hx rfl (hb hby at_124) rfl  k) ?_
        show Go p e below Qo T86 (mkF m 126 #[.val (.int i1), .val (.int i2), .val (.int i3), .val (.int i4), .val (.int ((i1 &&& (2147483647 : Int32)) % (401 : Int32))), .val (.double (FP.ddiv (FP.i2d ((i1 &&& (2147483647 : Int32)) % (401 : Int32))) (4616189618054758400 : UInt64))), .second, .val (.ref (F1 (i3 &&& (3 : Int32)) z_STUDENT z_NONE z_APPRENTICE z_PUPIL)), .val (.int v30_6), .val (.int v44_9), .val (.int v58_12), .val (.ref x16), .val (.ref x38), .val (.ref x62), .unset] [(.int v44_9), (.int v30_6), (.ref (F1 (i3 &&& (3 : Int32)) z_STUDENT z_NONE z_APPRENTICE z_PUPIL)), (.double (FP.ddiv (FP.i2d ((i1 &&& (2147483647 : Int32)) % (401 : Int32))) (4616189618054758400 : UInt64))), (.int i2), (.ref x62), (.ref x38), (.ref x16), (.ref b86), (.ref b86)])
        refine Go.of (fun t k => XS.iload X86.here hx rfl (hb hby at_126) rfl  k) ?_
        show Go p e below Qo T86 (mkF m 128 #[.val (.int i1), .val (.int i2), .val (.int i3), .val (.int i4), .val (.int ((i1 &&& (2147483647 : Int32)) % (401 : Int32))), .val (.double (FP.ddiv (FP.i2d ((i1 &&& (2147483647 : Int32)) % (401 : Int32))) (4616189618054758400 : UInt64))), .second, .val (.ref (F1 (i3 &&& (3 : Int32)) z_STUDENT z_NONE z_APPRENTICE z_PUPIL)), .val (.int v30_6), .val (.int v44_9), .val (.int v58_12), .val (.ref x16), .val (.ref x38), .val (.ref x62), .unset] [(.int v58_12), (.int v44_9), (.int v30_6), (.ref (F1 (i3 &&& (3 : Int32)) z_STUDENT z_NONE z_APPRENTICE z_PUPIL)), (.double (FP.ddiv (FP.i2d ((i1 &&& (2147483647 : Int32)) % (401 : Int32))) (4616189618054758400 : UInt64))), (.int i2), (.ref x62), (.ref x38), (.ref x16), (.ref b86), (.ref b86)])
        obtain ⟨_, _, ⟨T117, L117, k117, n117⟩, -, X117, ⟨Lc117, hQ117, l117, y117, z117⟩, st117⟩ := X86.specialBack hx (y := (⟨"com/example/werktag/werktag/Person", "<init>", "(Ljava/lang/String;Ljava/lang/String;Ljava/lang/String;IDLcom/example/werktag/werktag/Education;ZZZ)V"⟩ : MethodName)) rfl hown (mvT hZ (hw _ (List.mem_of_getElem? (i := 38) rfl))) (mvT hZ (hw _ (List.mem_of_getElem? (i := 39) rfl))) (mvT hZ (hw _ (List.mem_of_getElem? (i := 40) rfl))) (by decide) (backOf (W := 1) (rm7 l Z a0 hw [] b86 x16 x38 x62 i2 (FP.ddiv (FP.i2d ((i1 &&& (2147483647 : Int32)) % (401 : Int32))) (4616189618054758400 : UInt64)) (F1 (i3 &&& (3 : Int32)) z_STUDENT z_NONE z_APPRENTICE z_PUPIL) v30_6 v44_9 v58_12 .null .null .null (.int (0 : Int32)) (.double (0 : UInt64)) .null (.int (0 : Int32)) (.int (0 : Int32)) (.int (0 : Int32)) h86 n0 Z107 A86 q108 q109 q110 q111 q112 q113 q114 q115 q116 g94) hZ (hw _ (List.mem_of_getElem? (i := 40) rfl)) (hw _ (List.mem_of_getElem? (i := 37) rfl)) (by decide) (by decide)) (g := (mkF m 128 #[.val (.int i1), .val (.int i2), .val (.int i3), .val (.int i4), .val (.int ((i1 &&& (2147483647 : Int32)) % (401 : Int32))), .val (.double (FP.ddiv (FP.i2d ((i1 &&& (2147483647 : Int32)) % (401 : Int32))) (4616189618054758400 : UInt64))), .second, .val (.ref (F1 (i3 &&& (3 : Int32)) z_STUDENT z_NONE z_APPRENTICE z_PUPIL)), .val (.int v30_6), .val (.int v44_9), .val (.int v58_12), .val (.ref x16), .val (.ref x38), .val (.ref x62), .unset] [(.int v58_12), (.int v44_9), (.int v30_6), (.ref (F1 (i3 &&& (3 : Int32)) z_STUDENT z_NONE z_APPRENTICE z_PUPIL)), (.double (FP.ddiv (FP.i2d ((i1 &&& (2147483647 : Int32)) % (401 : Int32))) (4616189618054758400 : UInt64))), (.int i2), (.ref x62), (.ref x38), (.ref x16), (.ref b86), (.ref b86)])) rfl (by rw [hml]; rfl) (Steps.refl _) (a := b86) (argsL := [(.ref x16), (.ref x38), (.ref x62), (.int i2), (.double (FP.ddiv (FP.i2d ((i1 &&& (2147483647 : Int32)) % (401 : Int32))) (4616189618054758400 : UInt64))), (.ref (F1 (i3 &&& (3 : Int32)) z_STUDENT z_NONE z_APPRENTICE z_PUPIL)), (.int v30_6), (.int v44_9), (.int v58_12)]) (rest := [(.ref b86)]) (lenOf pd_6 rfl) rfl (by show 2 * 0 + _ ≤ _; exact Nat.le_of_eq rfl) (hb hby at_128) (fun _ _ => ⟨rfl, e86, (by decide : 7 + 0 ≤ _), (by decide : 24 + 0 ≤ _)⟩)
        dsimp only [Pt.U, Pt.locs, Pt.cells, Pt.slots] at X117 l117 y117 z117 st117 hQ117
        subst l117 y117 z117
        obtain ⟨rfl, N118, Kc119, q120, q121, q122, q123, q124, q125, q126, q127, q128, q129⟩ := hQ117
        have N130 := Fr.app N66 N118
        have q131 : Sta Z T117.heap "com/example/werktag/werktag/Education" "STUDENT" "Lcom/example/werktag/werktag/Education;" (.ref z_STUDENT) := own_staKeep q95 Kc119 (allS (own_plainE A86) all0)
        have q132 : Exa Z T117.heap z_STUDENT "com/example/werktag/werktag/Education" := q96.keep Kc119
        have q133 : Sta Z T117.heap "com/example/werktag/werktag/Education" "NONE" "Lcom/example/werktag/werktag/Education;" (.ref z_NONE) := own_staKeep q97 Kc119 (allS (own_plainE A86) all0)
        have q134 : Exa Z T117.heap z_NONE "com/example/werktag/werktag/Education" := q98.keep Kc119
        have q135 : Sta Z T117.heap "com/example/werktag/werktag/Education" "APPRENTICE" "Lcom/example/werktag/werktag/Education;" (.ref z_APPRENTICE) := own_staKeep q99 Kc119 (allS (own_plainE A86) all0)
        have q136 : Exa Z T117.heap z_APPRENTICE "com/example/werktag/werktag/Education" := q100.keep Kc119
        have q137 : Sta Z T117.heap "com/example/werktag/werktag/Education" "PUPIL" "Lcom/example/werktag/werktag/Education;" (.ref z_PUPIL) := own_staKeep q101 Kc119 (allS (own_plainE A86) all0)
        have q138 : Exa Z T117.heap z_PUPIL "com/example/werktag/werktag/Education" := q102.keep Kc119
        have q139 : Sta Z T117.heap "java/lang/String" "COMPACT_STRINGS" "Z" (.int zc) := own_staKeep q103 Kc119 (allS (own_plainE A86) all0)
        have q140 : Exa Z T117.heap x16 "java/lang/String" := q104.keep Kc119
        have q141 : Exa Z T117.heap x38 "java/lang/String" := q105.keep Kc119
        have q142 : Exa Z T117.heap x62 "java/lang/String" := q106.keep Kc119
        have Z143 : n0 ≤ T117.heap.size := Nat.le_trans Z107 Kc119.1
        refine Go.via st117 ?_
        show Go p e below Qo T117 (mkF m 131 #[.val (.int i1), .val (.int i2), .val (.int i3), .val (.int i4), .val (.int ((i1 &&& (2147483647 : Int32)) % (401 : Int32))), .val (.double (FP.ddiv (FP.i2d ((i1 &&& (2147483647 : Int32)) % (401 : Int32))) (4616189618054758400 : UInt64))), .second, .val (.ref (F1 (i3 &&& (3 : Int32)) z_STUDENT z_NONE z_APPRENTICE z_PUPIL)), .val (.int v30_6), .val (.int v44_9), .val (.int v58_12), .val (.ref x16), .val (.ref x38), .val (.ref x62), .unset] [(.ref b86)])
        refine Go.of (fun t k => XS.astore X117.here hx rfl (hb hby at_131) rfl rfl (l' := #[.val (.int i1), .val (.int i2), .val (.int i3), .val (.int i4), .val (.int ((i1 &&& (2147483647 : Int32)) % (401 : Int32))), .val (.double (FP.ddiv (FP.i2d ((i1 &&& (2147483647 : Int32)) % (401 : Int32))) (4616189618054758400 : UInt64))), .second, .val (.ref (F1 (i3 &&& (3 : Int32)) z_STUDENT z_NONE z_APPRENTICE z_PUPIL)), .val (.int v30_6), .val (.int v44_9), .val (.int v58_12), .val (.ref x16), .val (.ref x38), .val (.ref x62), .val (.ref b86)]) rfl k) ?_
        show Go p e below Qo T117 (mkF m 133 #[.val (.int i1), .val (.int i2), .val (.int i3), .val (.int i4), .val (.int ((i1 &&& (2147483647 : Int32)) % (401 : Int32))), .val (.double (FP.ddiv (FP.i2d ((i1 &&& (2147483647 : Int32)) % (401 : Int32))) (4616189618054758400 : UInt64))), .second, .val (.ref (F1 (i3 &&& (3 : Int32)) z_STUDENT z_NONE z_APPRENTICE z_PUPIL)), .val (.int v30_6), .val (.int v44_9), .val (.int v58_12), .val (.ref x16), .val (.ref x38), .val (.ref x62), .val (.ref b86)] [])
        refine Go.of (fun t k => XS.aload X117.here hx rfl (hb hby at_133) rfl rfl k) ?_
        show Go p e below Qo T117 (mkF m 135 #[.val (.int i1), .val (.int i2), .val (.int i3), .val (.int i4), .val (.int ((i1 &&& (2147483647 : Int32)) % (401 : Int32))), .val (.double (FP.ddiv (FP.i2d ((i1 &&& (2147483647 : Int32)) % (401 : Int32))) (4616189618054758400 : UInt64))), .second, .val (.ref (F1 (i3 &&& (3 : Int32)) z_STUDENT z_NONE z_APPRENTICE z_PUPIL)), .val (.int v30_6), .val (.int v44_9), .val (.int v58_12), .val (.ref x16), .val (.ref x38), .val (.ref x62), .val (.ref b86)] [(.ref b86)])
        obtain ⟨ciq145, kiq145, iq145a, iq145b, iq145c⟩ := isOf hZ rfl q120
        obtain ⟨_, _, ⟨T144, L144, k144, n144⟩, -, X144, ⟨Lc144, hQ144, l144, y144, z144⟩, st144⟩ := X117.virtualBack hx (y := (⟨"com/example/werktag/werktag/Person", "worker", "()Z"⟩ : MethodName)) (z := (⟨"com/example/werktag/werktag/Person", "worker", "()Z"⟩ : MethodName)) hown (mvT hZ (hw _ (List.mem_of_getElem? (i := 65) rfl))) (mvT hZ (hw _ (List.mem_of_getElem? (i := 66) rfl))) (notFace_of_selects (args := #[]) (mvT hZ (hw _ (List.mem_of_getElem? (i := 68) rfl)))) (mvT hZ (hw _ (List.mem_of_getElem? (i := 68) rfl))) (mvT hZ (hw _ (List.mem_of_getElem? (i := 67) rfl))) (by decide) (backOf (W := 0) (rm9 l Z a0 hw [] b86 (FP.ddiv (FP.i2d ((i1 &&& (2147483647 : Int32)) % (401 : Int32))) (4616189618054758400 : UInt64)) T117.heap n0 Z143 q125) hZ (hw _ (List.mem_of_getElem? (i := 69) rfl)) (hw _ (List.mem_of_getElem? (i := 37) rfl)) (by decide) (by decide)) iq145a iq145c (g := (mkF m 135 #[.val (.int i1), .val (.int i2), .val (.int i3), .val (.int i4), .val (.int ((i1 &&& (2147483647 : Int32)) % (401 : Int32))), .val (.double (FP.ddiv (FP.i2d ((i1 &&& (2147483647 : Int32)) % (401 : Int32))) (4616189618054758400 : UInt64))), .second, .val (.ref (F1 (i3 &&& (3 : Int32)) z_STUDENT z_NONE z_APPRENTICE z_PUPIL)), .val (.int v30_6), .val (.int v44_9), .val (.int v58_12), .val (.ref x16), .val (.ref x38), .val (.ref x62), .val (.ref b86)] [(.ref b86)])) rfl (by rw [hml]; rfl) (Steps.refl _) (argsL := []) (rest := []) (lenOf pd_7 rfl) rfl (by show 2 * 0 + _ ≤ _; exact Nat.le_of_eq rfl) (hb hby at_135) (fun _ _ => ⟨rfl, rfl, (by decide : 7 + 0 ≤ _), (by decide : 24 + 0 ≤ _)⟩)
        dsimp only [Pt.U, Pt.locs, Pt.cells, Pt.slots] at X144 l144 y144 z144 st144 hQ144
        subst l144 y144 z144
        obtain ⟨rfl, N146, eh147⟩ := hQ144
        have N148 := Fr.app N130 N146
        refine Go.via st144 ?_
        show Go p e below Qo T144 (mkF m 138 #[.val (.int i1), .val (.int i2), .val (.int i3), .val (.int i4), .val (.int ((i1 &&& (2147483647 : Int32)) % (401 : Int32))), .val (.double (FP.ddiv (FP.i2d ((i1 &&& (2147483647 : Int32)) % (401 : Int32))) (4616189618054758400 : UInt64))), .second, .val (.ref (F1 (i3 &&& (3 : Int32)) z_STUDENT z_NONE z_APPRENTICE z_PUPIL)), .val (.int v30_6), .val (.int v44_9), .val (.int v58_12), .val (.ref x16), .val (.ref x38), .val (.ref x62), .val (.ref b86)] [(.int (F9 (FP.ddiv (FP.i2d ((i1 &&& (2147483647 : Int32)) % (401 : Int32))) (4616189618054758400 : UInt64))))])
        refine Go.of (fun t k => XS.iload X144.here hx rfl (hb hby at_138) rfl  k) ?_
        show Go p e below Qo T144 (mkF m 140 #[.val (.int i1), .val (.int i2), .val (.int i3), .val (.int i4), .val (.int ((i1 &&& (2147483647 : Int32)) % (401 : Int32))), .val (.double (FP.ddiv (FP.i2d ((i1 &&& (2147483647 : Int32)) % (401 : Int32))) (4616189618054758400 : UInt64))), .second, .val (.ref (F1 (i3 &&& (3 : Int32)) z_STUDENT z_NONE z_APPRENTICE z_PUPIL)), .val (.int v30_6), .val (.int v44_9), .val (.int v58_12), .val (.ref x16), .val (.ref x38), .val (.ref x62), .val (.ref b86)] [(.int ((i1 &&& (2147483647 : Int32)) % (401 : Int32))), (.int (F9 (FP.ddiv (FP.i2d ((i1 &&& (2147483647 : Int32)) % (401 : Int32))) (4616189618054758400 : UInt64))))])
        have J140_151 : ∀ (v140_150 : Int32), v140_150 = (if ((i1 &&& (2147483647 : Int32)) % (401 : Int32)) = (0 : Int32) then (0 : Int32) else (1 : Int32)) → Go p e below Qo T144 (mkF m 148 #[.val (.int i1), .val (.int i2), .val (.int i3), .val (.int i4), .val (.int ((i1 &&& (2147483647 : Int32)) % (401 : Int32))), .val (.double (FP.ddiv (FP.i2d ((i1 &&& (2147483647 : Int32)) % (401 : Int32))) (4616189618054758400 : UInt64))), .second, .val (.ref (F1 (i3 &&& (3 : Int32)) z_STUDENT z_NONE z_APPRENTICE z_PUPIL)), .val (.int v30_6), .val (.int v44_9), .val (.int v58_12), .val (.ref x16), .val (.ref x38), .val (.ref x62), .val (.ref b86)] [(.int v140_150), (.int (F9 (FP.ddiv (FP.i2d ((i1 &&& (2147483647 : Int32)) % (401 : Int32))) (4616189618054758400 : UInt64))))]) := by
          intro v140_150 hv140_150
          show Go p e below Qo T144 (mkF m 148 #[.val (.int i1), .val (.int i2), .val (.int i3), .val (.int i4), .val (.int ((i1 &&& (2147483647 : Int32)) % (401 : Int32))), .val (.double (FP.ddiv (FP.i2d ((i1 &&& (2147483647 : Int32)) % (401 : Int32))) (4616189618054758400 : UInt64))), .second, .val (.ref (F1 (i3 &&& (3 : Int32)) z_STUDENT z_NONE z_APPRENTICE z_PUPIL)), .val (.int v30_6), .val (.int v44_9), .val (.int v58_12), .val (.ref x16), .val (.ref x38), .val (.ref x62), .val (.ref b86)] [(.int v140_150), (.int (F9 (FP.ddiv (FP.i2d ((i1 &&& (2147483647 : Int32)) % (401 : Int32))) (4616189618054758400 : UInt64))))])
          have J148_154 : ∀ (v148_153 : Int32), v148_153 = (if (F9 (FP.ddiv (FP.i2d ((i1 &&& (2147483647 : Int32)) % (401 : Int32))) (4616189618054758400 : UInt64))) = v140_150 then (1 : Int32) else (0 : Int32)) → Go p e below Qo T144 (mkF m 156 #[.val (.int i1), .val (.int i2), .val (.int i3), .val (.int i4), .val (.int ((i1 &&& (2147483647 : Int32)) % (401 : Int32))), .val (.double (FP.ddiv (FP.i2d ((i1 &&& (2147483647 : Int32)) % (401 : Int32))) (4616189618054758400 : UInt64))), .second, .val (.ref (F1 (i3 &&& (3 : Int32)) z_STUDENT z_NONE z_APPRENTICE z_PUPIL)), .val (.int v30_6), .val (.int v44_9), .val (.int v58_12), .val (.ref x16), .val (.ref x38), .val (.ref x62), .val (.ref b86)] [(.int v148_153)]) := by
            intro v148_153 hv148_153
            show Go p e below Qo T144 (mkF m 156 #[.val (.int i1), .val (.int i2), .val (.int i3), .val (.int i4), .val (.int ((i1 &&& (2147483647 : Int32)) % (401 : Int32))), .val (.double (FP.ddiv (FP.i2d ((i1 &&& (2147483647 : Int32)) % (401 : Int32))) (4616189618054758400 : UInt64))), .second, .val (.ref (F1 (i3 &&& (3 : Int32)) z_STUDENT z_NONE z_APPRENTICE z_PUPIL)), .val (.int v30_6), .val (.int v44_9), .val (.int v58_12), .val (.ref x16), .val (.ref x38), .val (.ref x62), .val (.ref b86)] [(.int v148_153)])
            have hfin : v148_153 = 1 := by
              exact hv148_153.trans (if_pos ((own_law i1).trans hv140_150.symm))
            exact own_retN X144 hx Bd.notSynchronized (t := .boolean) Bd.returns (by simp) (hb hby at_156) (fun u hu hF => hQo _ _ _ ⟨by rw [hfin]; rfl, N148⟩ (own_mono hF (by decide) (by decide)))
          by_cases hc148_155 : (F9 (FP.ddiv (FP.i2d ((i1 &&& (2147483647 : Int32)) % (401 : Int32))) (4616189618054758400 : UInt64))) = v140_150
          · refine Go.of (fun t k => XS.icmpNo X144.here hx rfl (hb hby at_148) rfl (teq hc148_155).2 k) ?_
            show Go p e below Qo T144 (mkF m 151 #[.val (.int i1), .val (.int i2), .val (.int i3), .val (.int i4), .val (.int ((i1 &&& (2147483647 : Int32)) % (401 : Int32))), .val (.double (FP.ddiv (FP.i2d ((i1 &&& (2147483647 : Int32)) % (401 : Int32))) (4616189618054758400 : UInt64))), .second, .val (.ref (F1 (i3 &&& (3 : Int32)) z_STUDENT z_NONE z_APPRENTICE z_PUPIL)), .val (.int v30_6), .val (.int v44_9), .val (.int v58_12), .val (.ref x16), .val (.ref x38), .val (.ref x62), .val (.ref b86)] [])
            refine Go.of (fun t k => XS.iconst X144.here hx rfl (hb hby at_151) k) ?_
            show Go p e below Qo T144 (mkF m 152 #[.val (.int i1), .val (.int i2), .val (.int i3), .val (.int i4), .val (.int ((i1 &&& (2147483647 : Int32)) % (401 : Int32))), .val (.double (FP.ddiv (FP.i2d ((i1 &&& (2147483647 : Int32)) % (401 : Int32))) (4616189618054758400 : UInt64))), .second, .val (.ref (F1 (i3 &&& (3 : Int32)) z_STUDENT z_NONE z_APPRENTICE z_PUPIL)), .val (.int v30_6), .val (.int v44_9), .val (.int v58_12), .val (.ref x16), .val (.ref x38), .val (.ref x62), .val (.ref b86)] [(.int (1 : Int32))])
            refine Go.of (fun t k => XS.goto X144.here hx rfl (pc0 := 152) (pc' := 156) rfl (hb hby at_152) (by decide) (by decide) k) ?_
            show Go p e below Qo T144 (mkF m 156 #[.val (.int i1), .val (.int i2), .val (.int i3), .val (.int i4), .val (.int ((i1 &&& (2147483647 : Int32)) % (401 : Int32))), .val (.double (FP.ddiv (FP.i2d ((i1 &&& (2147483647 : Int32)) % (401 : Int32))) (4616189618054758400 : UInt64))), .second, .val (.ref (F1 (i3 &&& (3 : Int32)) z_STUDENT z_NONE z_APPRENTICE z_PUPIL)), .val (.int v30_6), .val (.int v44_9), .val (.int v58_12), .val (.ref x16), .val (.ref x38), .val (.ref x62), .val (.ref b86)] [(.int (1 : Int32))])
            exact J148_154 _ (by first | rfl | (rw [if_pos hc148_155]) | (simp only [hc148_155, if_true, if_false]; done) | simp [hc148_155])
          · refine Go.of (fun t k => XS.icmpYes X144.here hx rfl (pc0 := 148) (pc' := 155) rfl (hb hby at_148) rfl (feq hc148_155).2 (by decide) (by decide) k) ?_
            show Go p e below Qo T144 (mkF m 155 #[.val (.int i1), .val (.int i2), .val (.int i3), .val (.int i4), .val (.int ((i1 &&& (2147483647 : Int32)) % (401 : Int32))), .val (.double (FP.ddiv (FP.i2d ((i1 &&& (2147483647 : Int32)) % (401 : Int32))) (4616189618054758400 : UInt64))), .second, .val (.ref (F1 (i3 &&& (3 : Int32)) z_STUDENT z_NONE z_APPRENTICE z_PUPIL)), .val (.int v30_6), .val (.int v44_9), .val (.int v58_12), .val (.ref x16), .val (.ref x38), .val (.ref x62), .val (.ref b86)] [])
            refine Go.of (fun t k => XS.iconst X144.here hx rfl (hb hby at_155) k) ?_
            show Go p e below Qo T144 (mkF m 156 #[.val (.int i1), .val (.int i2), .val (.int i3), .val (.int i4), .val (.int ((i1 &&& (2147483647 : Int32)) % (401 : Int32))), .val (.double (FP.ddiv (FP.i2d ((i1 &&& (2147483647 : Int32)) % (401 : Int32))) (4616189618054758400 : UInt64))), .second, .val (.ref (F1 (i3 &&& (3 : Int32)) z_STUDENT z_NONE z_APPRENTICE z_PUPIL)), .val (.int v30_6), .val (.int v44_9), .val (.int v58_12), .val (.ref x16), .val (.ref x38), .val (.ref x62), .val (.ref b86)] [(.int (0 : Int32))])
            exact J148_154 _ (by first | rfl | (rw [if_neg hc148_155]) | (simp only [hc148_155, if_true, if_false]; done) | simp [hc148_155])
        by_cases hc140_156 : ((i1 &&& (2147483647 : Int32)) % (401 : Int32)) = (0 : Int32)
        · refine Go.of (fun t k => XS.ifYes X144.here hx rfl (pc0 := 140) (pc' := 147) rfl (hb hby at_140) rfl ((if0 _ _).trans (teq hc140_156).1) (by decide) (by decide) k) ?_
          show Go p e below Qo T144 (mkF m 147 #[.val (.int i1), .val (.int i2), .val (.int i3), .val (.int i4), .val (.int ((i1 &&& (2147483647 : Int32)) % (401 : Int32))), .val (.double (FP.ddiv (FP.i2d ((i1 &&& (2147483647 : Int32)) % (401 : Int32))) (4616189618054758400 : UInt64))), .second, .val (.ref (F1 (i3 &&& (3 : Int32)) z_STUDENT z_NONE z_APPRENTICE z_PUPIL)), .val (.int v30_6), .val (.int v44_9), .val (.int v58_12), .val (.ref x16), .val (.ref x38), .val (.ref x62), .val (.ref b86)] [(.int (F9 (FP.ddiv (FP.i2d ((i1 &&& (2147483647 : Int32)) % (401 : Int32))) (4616189618054758400 : UInt64))))])
          refine Go.of (fun t k => XS.iconst X144.here hx rfl (hb hby at_147) k) ?_
          show Go p e below Qo T144 (mkF m 148 #[.val (.int i1), .val (.int i2), .val (.int i3), .val (.int i4), .val (.int ((i1 &&& (2147483647 : Int32)) % (401 : Int32))), .val (.double (FP.ddiv (FP.i2d ((i1 &&& (2147483647 : Int32)) % (401 : Int32))) (4616189618054758400 : UInt64))), .second, .val (.ref (F1 (i3 &&& (3 : Int32)) z_STUDENT z_NONE z_APPRENTICE z_PUPIL)), .val (.int v30_6), .val (.int v44_9), .val (.int v58_12), .val (.ref x16), .val (.ref x38), .val (.ref x62), .val (.ref b86)] [(.int (0 : Int32)), (.int (F9 (FP.ddiv (FP.i2d ((i1 &&& (2147483647 : Int32)) % (401 : Int32))) (4616189618054758400 : UInt64))))])
          exact J140_151 _ (by first | rfl | (rw [if_pos hc140_156]) | (simp only [hc140_156, if_true, if_false]; done) | simp [hc140_156])
        · refine Go.of (fun t k => XS.ifNo X144.here hx rfl (hb hby at_140) rfl ((if0 _ _).trans (feq hc140_156).1) k) ?_
          show Go p e below Qo T144 (mkF m 143 #[.val (.int i1), .val (.int i2), .val (.int i3), .val (.int i4), .val (.int ((i1 &&& (2147483647 : Int32)) % (401 : Int32))), .val (.double (FP.ddiv (FP.i2d ((i1 &&& (2147483647 : Int32)) % (401 : Int32))) (4616189618054758400 : UInt64))), .second, .val (.ref (F1 (i3 &&& (3 : Int32)) z_STUDENT z_NONE z_APPRENTICE z_PUPIL)), .val (.int v30_6), .val (.int v44_9), .val (.int v58_12), .val (.ref x16), .val (.ref x38), .val (.ref x62), .val (.ref b86)] [(.int (F9 (FP.ddiv (FP.i2d ((i1 &&& (2147483647 : Int32)) % (401 : Int32))) (4616189618054758400 : UInt64))))])
          refine Go.of (fun t k => XS.iconst X144.here hx rfl (hb hby at_143) k) ?_
          show Go p e below Qo T144 (mkF m 144 #[.val (.int i1), .val (.int i2), .val (.int i3), .val (.int i4), .val (.int ((i1 &&& (2147483647 : Int32)) % (401 : Int32))), .val (.double (FP.ddiv (FP.i2d ((i1 &&& (2147483647 : Int32)) % (401 : Int32))) (4616189618054758400 : UInt64))), .second, .val (.ref (F1 (i3 &&& (3 : Int32)) z_STUDENT z_NONE z_APPRENTICE z_PUPIL)), .val (.int v30_6), .val (.int v44_9), .val (.int v58_12), .val (.ref x16), .val (.ref x38), .val (.ref x62), .val (.ref b86)] [(.int (1 : Int32)), (.int (F9 (FP.ddiv (FP.i2d ((i1 &&& (2147483647 : Int32)) % (401 : Int32))) (4616189618054758400 : UInt64))))])
          refine Go.of (fun t k => XS.goto X144.here hx rfl (pc0 := 144) (pc' := 148) rfl (hb hby at_144) (by decide) (by decide) k) ?_
          show Go p e below Qo T144 (mkF m 148 #[.val (.int i1), .val (.int i2), .val (.int i3), .val (.int i4), .val (.int ((i1 &&& (2147483647 : Int32)) % (401 : Int32))), .val (.double (FP.ddiv (FP.i2d ((i1 &&& (2147483647 : Int32)) % (401 : Int32))) (4616189618054758400 : UInt64))), .second, .val (.ref (F1 (i3 &&& (3 : Int32)) z_STUDENT z_NONE z_APPRENTICE z_PUPIL)), .val (.int v30_6), .val (.int v44_9), .val (.int v58_12), .val (.ref x16), .val (.ref x38), .val (.ref x62), .val (.ref b86)] [(.int (1 : Int32)), (.int (F9 (FP.ddiv (FP.i2d ((i1 &&& (2147483647 : Int32)) % (401 : Int32))) (4616189618054758400 : UInt64))))])
          exact J140_151 _ (by first | rfl | (rw [if_neg hc140_156]) | (simp only [hc140_156, if_true, if_false]; done) | simp [hc140_156])
      by_cases hc58_157 : (i3 &&& (16 : Int32)) = (0 : Int32)
      · refine Go.of (fun t k => XS.ifYes X1.here hx rfl (pc0 := 58) (pc' := 65) rfl (hb hby at_58) rfl ((if0 _ _).trans (teq hc58_157).1) (by decide) (by decide) k) ?_
        show Go p e below Qo T1 (mkF m 65 #[.val (.int i1), .val (.int i2), .val (.int i3), .val (.int i4), .val (.int ((i1 &&& (2147483647 : Int32)) % (401 : Int32))), .val (.double (FP.ddiv (FP.i2d ((i1 &&& (2147483647 : Int32)) % (401 : Int32))) (4616189618054758400 : UInt64))), .second, .val (.ref (F1 (i3 &&& (3 : Int32)) z_STUDENT z_NONE z_APPRENTICE z_PUPIL)), .val (.int v30_6), .val (.int v44_9), .unset, .unset, .unset, .unset, .unset] [])
        refine Go.of (fun t k => XS.iconst X1.here hx rfl (hb hby at_65) k) ?_
        show Go p e below Qo T1 (mkF m 66 #[.val (.int i1), .val (.int i2), .val (.int i3), .val (.int i4), .val (.int ((i1 &&& (2147483647 : Int32)) % (401 : Int32))), .val (.double (FP.ddiv (FP.i2d ((i1 &&& (2147483647 : Int32)) % (401 : Int32))) (4616189618054758400 : UInt64))), .second, .val (.ref (F1 (i3 &&& (3 : Int32)) z_STUDENT z_NONE z_APPRENTICE z_PUPIL)), .val (.int v30_6), .val (.int v44_9), .unset, .unset, .unset, .unset, .unset] [(.int (0 : Int32))])
        exact J58_13 _ (by first | rfl | (rw [if_pos hc58_157]) | (simp only [hc58_157, if_true, if_false]; done) | simp [hc58_157])
      · refine Go.of (fun t k => XS.ifNo X1.here hx rfl (hb hby at_58) rfl ((if0 _ _).trans (feq hc58_157).1) k) ?_
        show Go p e below Qo T1 (mkF m 61 #[.val (.int i1), .val (.int i2), .val (.int i3), .val (.int i4), .val (.int ((i1 &&& (2147483647 : Int32)) % (401 : Int32))), .val (.double (FP.ddiv (FP.i2d ((i1 &&& (2147483647 : Int32)) % (401 : Int32))) (4616189618054758400 : UInt64))), .second, .val (.ref (F1 (i3 &&& (3 : Int32)) z_STUDENT z_NONE z_APPRENTICE z_PUPIL)), .val (.int v30_6), .val (.int v44_9), .unset, .unset, .unset, .unset, .unset] [])
        refine Go.of (fun t k => XS.iconst X1.here hx rfl (hb hby at_61) k) ?_
        show Go p e below Qo T1 (mkF m 62 #[.val (.int i1), .val (.int i2), .val (.int i3), .val (.int i4), .val (.int ((i1 &&& (2147483647 : Int32)) % (401 : Int32))), .val (.double (FP.ddiv (FP.i2d ((i1 &&& (2147483647 : Int32)) % (401 : Int32))) (4616189618054758400 : UInt64))), .second, .val (.ref (F1 (i3 &&& (3 : Int32)) z_STUDENT z_NONE z_APPRENTICE z_PUPIL)), .val (.int v30_6), .val (.int v44_9), .unset, .unset, .unset, .unset, .unset] [(.int (1 : Int32))])
        refine Go.of (fun t k => XS.goto X1.here hx rfl (pc0 := 62) (pc' := 66) rfl (hb hby at_62) (by decide) (by decide) k) ?_
        show Go p e below Qo T1 (mkF m 66 #[.val (.int i1), .val (.int i2), .val (.int i3), .val (.int i4), .val (.int ((i1 &&& (2147483647 : Int32)) % (401 : Int32))), .val (.double (FP.ddiv (FP.i2d ((i1 &&& (2147483647 : Int32)) % (401 : Int32))) (4616189618054758400 : UInt64))), .second, .val (.ref (F1 (i3 &&& (3 : Int32)) z_STUDENT z_NONE z_APPRENTICE z_PUPIL)), .val (.int v30_6), .val (.int v44_9), .unset, .unset, .unset, .unset, .unset] [(.int (1 : Int32))])
        exact J58_13 _ (by first | rfl | (rw [if_neg hc58_157]) | (simp only [hc58_157, if_true, if_false]; done) | simp [hc58_157])
    by_cases hc44_158 : (i3 &&& (8 : Int32)) = (0 : Int32)
    · refine Go.of (fun t k => XS.ifYes X1.here hx rfl (pc0 := 44) (pc' := 51) rfl (hb hby at_44) rfl ((if0 _ _).trans (teq hc44_158).1) (by decide) (by decide) k) ?_
      show Go p e below Qo T1 (mkF m 51 #[.val (.int i1), .val (.int i2), .val (.int i3), .val (.int i4), .val (.int ((i1 &&& (2147483647 : Int32)) % (401 : Int32))), .val (.double (FP.ddiv (FP.i2d ((i1 &&& (2147483647 : Int32)) % (401 : Int32))) (4616189618054758400 : UInt64))), .second, .val (.ref (F1 (i3 &&& (3 : Int32)) z_STUDENT z_NONE z_APPRENTICE z_PUPIL)), .val (.int v30_6), .unset, .unset, .unset, .unset, .unset, .unset] [])
      refine Go.of (fun t k => XS.iconst X1.here hx rfl (hb hby at_51) k) ?_
      show Go p e below Qo T1 (mkF m 52 #[.val (.int i1), .val (.int i2), .val (.int i3), .val (.int i4), .val (.int ((i1 &&& (2147483647 : Int32)) % (401 : Int32))), .val (.double (FP.ddiv (FP.i2d ((i1 &&& (2147483647 : Int32)) % (401 : Int32))) (4616189618054758400 : UInt64))), .second, .val (.ref (F1 (i3 &&& (3 : Int32)) z_STUDENT z_NONE z_APPRENTICE z_PUPIL)), .val (.int v30_6), .unset, .unset, .unset, .unset, .unset, .unset] [(.int (0 : Int32))])
      exact J44_10 _ (by first | rfl | (rw [if_pos hc44_158]) | (simp only [hc44_158, if_true, if_false]; done) | simp [hc44_158])
    · refine Go.of (fun t k => XS.ifNo X1.here hx rfl (hb hby at_44) rfl ((if0 _ _).trans (feq hc44_158).1) k) ?_
      show Go p e below Qo T1 (mkF m 47 #[.val (.int i1), .val (.int i2), .val (.int i3), .val (.int i4), .val (.int ((i1 &&& (2147483647 : Int32)) % (401 : Int32))), .val (.double (FP.ddiv (FP.i2d ((i1 &&& (2147483647 : Int32)) % (401 : Int32))) (4616189618054758400 : UInt64))), .second, .val (.ref (F1 (i3 &&& (3 : Int32)) z_STUDENT z_NONE z_APPRENTICE z_PUPIL)), .val (.int v30_6), .unset, .unset, .unset, .unset, .unset, .unset] [])
      refine Go.of (fun t k => XS.iconst X1.here hx rfl (hb hby at_47) k) ?_
      show Go p e below Qo T1 (mkF m 48 #[.val (.int i1), .val (.int i2), .val (.int i3), .val (.int i4), .val (.int ((i1 &&& (2147483647 : Int32)) % (401 : Int32))), .val (.double (FP.ddiv (FP.i2d ((i1 &&& (2147483647 : Int32)) % (401 : Int32))) (4616189618054758400 : UInt64))), .second, .val (.ref (F1 (i3 &&& (3 : Int32)) z_STUDENT z_NONE z_APPRENTICE z_PUPIL)), .val (.int v30_6), .unset, .unset, .unset, .unset, .unset, .unset] [(.int (1 : Int32))])
      refine Go.of (fun t k => XS.goto X1.here hx rfl (pc0 := 48) (pc' := 52) rfl (hb hby at_48) (by decide) (by decide) k) ?_
      show Go p e below Qo T1 (mkF m 52 #[.val (.int i1), .val (.int i2), .val (.int i3), .val (.int i4), .val (.int ((i1 &&& (2147483647 : Int32)) % (401 : Int32))), .val (.double (FP.ddiv (FP.i2d ((i1 &&& (2147483647 : Int32)) % (401 : Int32))) (4616189618054758400 : UInt64))), .second, .val (.ref (F1 (i3 &&& (3 : Int32)) z_STUDENT z_NONE z_APPRENTICE z_PUPIL)), .val (.int v30_6), .unset, .unset, .unset, .unset, .unset, .unset] [(.int (1 : Int32))])
      exact J44_10 _ (by first | rfl | (rw [if_neg hc44_158]) | (simp only [hc44_158, if_true, if_false]; done) | simp [hc44_158])
  by_cases hc30_159 : (i3 &&& (4 : Int32)) = (0 : Int32)
  · refine Go.of (fun t k => XS.ifYes X1.here hx rfl (pc0 := 30) (pc' := 37) rfl (hb hby at_30) rfl ((if0 _ _).trans (teq hc30_159).1) (by decide) (by decide) k) ?_
    show Go p e below Qo T1 (mkF m 37 #[.val (.int i1), .val (.int i2), .val (.int i3), .val (.int i4), .val (.int ((i1 &&& (2147483647 : Int32)) % (401 : Int32))), .val (.double (FP.ddiv (FP.i2d ((i1 &&& (2147483647 : Int32)) % (401 : Int32))) (4616189618054758400 : UInt64))), .second, .val (.ref (F1 (i3 &&& (3 : Int32)) z_STUDENT z_NONE z_APPRENTICE z_PUPIL)), .unset, .unset, .unset, .unset, .unset, .unset, .unset] [])
    refine Go.of (fun t k => XS.iconst X1.here hx rfl (hb hby at_37) k) ?_
    show Go p e below Qo T1 (mkF m 38 #[.val (.int i1), .val (.int i2), .val (.int i3), .val (.int i4), .val (.int ((i1 &&& (2147483647 : Int32)) % (401 : Int32))), .val (.double (FP.ddiv (FP.i2d ((i1 &&& (2147483647 : Int32)) % (401 : Int32))) (4616189618054758400 : UInt64))), .second, .val (.ref (F1 (i3 &&& (3 : Int32)) z_STUDENT z_NONE z_APPRENTICE z_PUPIL)), .unset, .unset, .unset, .unset, .unset, .unset, .unset] [(.int (0 : Int32))])
    exact J30_7 _ (by first | rfl | (rw [if_pos hc30_159]) | (simp only [hc30_159, if_true, if_false]; done) | simp [hc30_159])
  · refine Go.of (fun t k => XS.ifNo X1.here hx rfl (hb hby at_30) rfl ((if0 _ _).trans (feq hc30_159).1) k) ?_
    show Go p e below Qo T1 (mkF m 33 #[.val (.int i1), .val (.int i2), .val (.int i3), .val (.int i4), .val (.int ((i1 &&& (2147483647 : Int32)) % (401 : Int32))), .val (.double (FP.ddiv (FP.i2d ((i1 &&& (2147483647 : Int32)) % (401 : Int32))) (4616189618054758400 : UInt64))), .second, .val (.ref (F1 (i3 &&& (3 : Int32)) z_STUDENT z_NONE z_APPRENTICE z_PUPIL)), .unset, .unset, .unset, .unset, .unset, .unset, .unset] [])
    refine Go.of (fun t k => XS.iconst X1.here hx rfl (hb hby at_33) k) ?_
    show Go p e below Qo T1 (mkF m 34 #[.val (.int i1), .val (.int i2), .val (.int i3), .val (.int i4), .val (.int ((i1 &&& (2147483647 : Int32)) % (401 : Int32))), .val (.double (FP.ddiv (FP.i2d ((i1 &&& (2147483647 : Int32)) % (401 : Int32))) (4616189618054758400 : UInt64))), .second, .val (.ref (F1 (i3 &&& (3 : Int32)) z_STUDENT z_NONE z_APPRENTICE z_PUPIL)), .unset, .unset, .unset, .unset, .unset, .unset, .unset] [(.int (1 : Int32))])
    refine Go.of (fun t k => XS.goto X1.here hx rfl (pc0 := 34) (pc' := 38) rfl (hb hby at_34) (by decide) (by decide) k) ?_
    show Go p e below Qo T1 (mkF m 38 #[.val (.int i1), .val (.int i2), .val (.int i3), .val (.int i4), .val (.int ((i1 &&& (2147483647 : Int32)) % (401 : Int32))), .val (.double (FP.ddiv (FP.i2d ((i1 &&& (2147483647 : Int32)) % (401 : Int32))) (4616189618054758400 : UInt64))), .second, .val (.ref (F1 (i3 &&& (3 : Int32)) z_STUDENT z_NONE z_APPRENTICE z_PUPIL)), .unset, .unset, .unset, .unset, .unset, .unset, .unset] [(.int (1 : Int32))])
    exact J30_7 _ (by first | rfl | (rw [if_neg hc30_159]) | (simp only [hc30_159, if_true, if_false]; done) | simp [hc30_159])
set_option maxRecDepth 65536 in
set_option maxHeartbeats 40000000 in
theorem comes_1 {Post : Tables → Env → Array Value → State → Outcome → State → Prop} (hpost : ∀ tb e args s v u, (limb_1_1.after args s (.returned v) u = true ∧ limb_1_2.after args s (.returned v) u = true ∧ True) → FrameEnd s (.returned v) u (Jvm.fieldLocs frame_1_writes args s ++ Jvm.arrayLocs frame_1_arrays args s ++ Jvm.staticLocs frame_1_statics s) 24 128 → Post tb e args s (.returned v) u) :
    ArmFor flags0 classFile x code maxLocals ret World_1 tables_1 room_1 Calls_1 rest_1 Pre_1 Post := by
  intro l hfl _ _ p e ha hc hk s m args below hf hA hF happ hP
  obtain ⟨hcalls, hrest, hpre⟩ := hP
  obtain ⟨-, -, -, hnamed, -, -, -, hat⟩ := (Spec.applies_iff hf).mp happ
  obtain ⟨hg, hn⟩ := and_e (Cond.before_iff.mp (show (Jvm.Cond.and given_1 narrow_1).before args s = true from hpre))
  obtain ⟨hg0, hgr0⟩ := and_e hg
  obtain ⟨ha0, hgr1⟩ := and_e hgr0
  obtain ⟨ha1, hgr2⟩ := and_e hgr1
  obtain ⟨ha2, hgr3⟩ := and_e hgr2
  obtain ⟨w0, w1, w2, w3, rfl⟩ : ∃ w0 w1 w2 w3 : Value, args = #[w0, w1, w2, w3] := by
    have hs : args.size = 4 := by simpa [Cond.value, given_1] using hg0
    obtain ⟨L⟩ := args
    match L, hs with
    | [w0, w1, w2, w3], _ => exact ⟨w0, w1, w2, w3, rfl⟩
  have hw := fun d (hd : d ∈ tables_1) => atoms_spec (ws := Jvm.Cond.code x code maxLocals ret :: tables_1) hat d (List.mem_cons_of_mem _ hd)
  have hfit : Fit s := fun {y c} hc i hi => by
    obtain ⟨ha, rfl⟩ := Array.getElem?_eq_some_iff.mp hc
    have q := List.all_eq_true.mp ((Array.all_eq_true_iff_forall_mem.mp hF) _ (Array.getElem_mem ha)) i (List.mem_range.mpr hi)
    simpa [Array.getElem?_eq_getElem hi] using q
  obtain ⟨hsets, hown0⟩ := atoms_of _ (rest_1_c_eq ▸ (show rest_1_c.before _ s = true from hrest))
  obtain ⟨i0, ei0⟩ := is_v ha0
  obtain rfl : w0 = (.int i0) := Option.some.inj ei0
  obtain ⟨i1, ei1⟩ := is_v ha1
  obtain rfl : w1 = (.int i1) := Option.some.inj ei1
  obtain ⟨i2, ei2⟩ := is_v ha2
  obtain rfl : w2 = (.int i2) := Option.some.inj ei2
  obtain ⟨i3, ei3⟩ := is_v hgr3
  obtain rfl : w3 = (.int i3) := Option.some.inj ei3
  obtain ⟨hs0, hr0⟩ := and_e hn
  obtain ⟨hs1, hr1⟩ := and_e hr0
  obtain ⟨hs2, hr2⟩ := and_e hr1
  obtain ⟨z_STUDENT, ev_STUDENT⟩ := exa_v hs0
  have S_STUDENT : Sta s s.heap "com/example/werktag/werktag/Education" "STUDENT" "Lcom/example/werktag/werktag/Education;" (.ref z_STUDENT) := Sta.start ev_STUDENT (Or.inr ⟨(hw _ (List.mem_of_getElem? (i := 7) rfl)), (hw _ (List.mem_of_getElem? (i := 8) rfl))⟩)
  have E_STUDENT := Exa.start ev_STUDENT hs0
  obtain ⟨z_NONE, ev_NONE⟩ := exa_v hs1
  have S_NONE : Sta s s.heap "com/example/werktag/werktag/Education" "NONE" "Lcom/example/werktag/werktag/Education;" (.ref z_NONE) := Sta.start ev_NONE (Or.inr ⟨(hw _ (List.mem_of_getElem? (i := 7) rfl)), (hw _ (List.mem_of_getElem? (i := 71) rfl))⟩)
  have E_NONE := Exa.start ev_NONE hs1
  obtain ⟨z_APPRENTICE, ev_APPRENTICE⟩ := exa_v hs2
  have S_APPRENTICE : Sta s s.heap "com/example/werktag/werktag/Education" "APPRENTICE" "Lcom/example/werktag/werktag/Education;" (.ref z_APPRENTICE) := Sta.start ev_APPRENTICE (Or.inr ⟨(hw _ (List.mem_of_getElem? (i := 7) rfl)), (hw _ (List.mem_of_getElem? (i := 73) rfl))⟩)
  have E_APPRENTICE := Exa.start ev_APPRENTICE hs2
  obtain ⟨z_PUPIL, ev_PUPIL⟩ := exa_v hr2
  have S_PUPIL : Sta s s.heap "com/example/werktag/werktag/Education" "PUPIL" "Lcom/example/werktag/werktag/Education;" (.ref z_PUPIL) := Sta.start ev_PUPIL (Or.inr ⟨(hw _ (List.mem_of_getElem? (i := 7) rfl)), (hw _ (List.mem_of_getElem? (i := 75) rfl))⟩)
  have E_PUPIL := Exa.start ev_PUPIL hr2
  obtain ⟨zc, evz⟩ := is_v (Cond.before_iff.mp (hsets _ (List.mem_of_getElem? (i := 1) rfl)))
  have Sz : Sta s s.heap "java/lang/String" "COMPACT_STRINGS" "Z" (.int zc) := Sta.start evz (Or.inl (hsets _ (List.mem_of_getElem? (i := 0) rfl)))
  have hz : ¬ zc = 0 := own_neI evz (hsets _ (List.mem_of_getElem? (i := 2) rfl))
  obtain ⟨n, o, h1, h2, h3, _, L, rfl, ⟨rfl, N⟩, hq⟩ := rm0 l s _ hw tables_1 i0 i1 i2 i3 z_STUDENT z_NONE z_APPRENTICE z_PUPIL zc s.heap s.heap.size (Nat.le_refl _) S_STUDENT E_STUDENT S_NONE E_NONE S_APPRENTICE E_APPRENTICE S_PUPIL E_PUPIL Sz hz p e ha hc hk s m _ below hf ((Spec.applies_iff_loose hf).mp happ).1 ⟨rfl, State.Warmed39.refl s, rfl⟩ trivial
  refine ⟨n, _, h1, h2, h3, hpost _ _ _ _ _ _ ⟨Cond.after_iff.mpr rfl, Cond.after_iff.mpr (eq_i res_at (Term.int_eval (1)) rfl), trivial⟩ ⟨hq.1, hq.2.1, (hq.2.2.sift fun y hy => Or.inr (N y hy)).mono (by decide) (by decide)⟩⟩
theorem main_1_1 : Claimed_1_1 := comes_1 fun _ _ _ _ _ _ h hF => ⟨h.1, hF⟩
theorem main_1_2 : Claimed_1_2 := comes_1 fun _ _ _ _ _ _ h hF => ⟨h.2.1, hF⟩
end Jvm.Pilot.@@N@@
namespace Jvm.Pilot.@@N@@
open Jvm Jvm.ClassFile Sem Op Lib Jvm.Free Jvm.Stand Jvm.Pilot.@@N@@.Jvm.D
/-! MADE BY PROGRAM (witnessworld.py) out of the Statement's table words and the real class files: 20 classes; the members and pool entries that the words name. The judged class is class 1, her method 2. -/
namespace start1
open Jvm.ClassFile
def u (s : String) : CpInfo := .utf8 (stringToUtf16 s)
/-- a pool by its gaps: so many unusable entries, then the entry; so many at the end -/
def gap : Nat → List CpInfo → List CpInfo
  | 0, r => r
  | n + 1, r => .unusable :: gap n r
def poolList (es : List (Nat × CpInfo)) (last : Nat) : List CpInfo := es.foldr (fun e r => gap e.1 (e.2 :: r)) (gap last [])
def pool (es : List (Nat × CpInfo)) (last : Nat) : Array CpInfo := ⟨poolList es last⟩
def fileOf (pool : Array CpInfo) (this : Nat) (attrs : Array Attribute := #[]) (ms : Array MethodInfo := #[]) (fl : Nat := 33) (sup : Nat := 0) (ifs : Array Nat := #[]) (fds : Array FieldInfo := #[]) : ClassFile where
  minorVersion := 0
  majorVersion := 65
  constantPool := pool
  accessFlags := fl
  thisClass := this
  superClass := sup
  interfaces := ifs
  fields := fds
  methods := ms
  attributes := attrs
def plain (name : String) (sup : Option ClassId) : Class where
  name := name
  kind := .ordinary
  loader := none
  accessFlags := 33
  super := sup
  interfaces := #[]
  cf := none
  fields := #[]
  methods := #[]
  instanceTypes := #[]
  staticTypes := #[]
  resolved := #[]
  callSites := []
  init := .initialized
  statics := none
  mirror := none

def pool0 : Array CpInfo := pool [(5, u "<init>"), (0, u "()V"), (1, .class_ 10), (1, u "java/lang/Object")] 113

def k0c0 : Code := { maxStack := 0, maxLocals := 1, code := object_method_1_code, exceptionTable := #[], attributes := #[] }
def k0m0 : Method := { name := "<init>", desc := "()V", sig := { parameters := [], returnType := none }, accessFlags := 1, code := some k0c0 }
/-- java/lang/Object -/
def k0 : Class := { plain "java/lang/Object" none with
  accessFlags := 33
  interfaces := #[]
  cf := some (fileOf pool0 8 #[] #[{ accessFlags := 1, nameIndex := 5, descriptorIndex := 6, attributes := #[] }] 33 0 #[] #[])
  fields := #[]
  methods := #[k0m0]
  instanceTypes := #[]
  staticTypes := #[]
  resolved := Array.replicate 124 none
  statics := none }

def pool1 : Array CpInfo := pool [(2, .class_ 4), (1, u "java/lang/Object"), (0, u "<init>"), (0, u "()V"), (0, .fieldref 8 9), (0, .class_ 10), (0, .nameAndType 11 12), (0, u "com/example/werktag/werktag/Education"), (0, u "NONE"), (0, u "Lcom/example/werktag/werktag/Education;"), (0, .fieldref 8 14), (0, .nameAndType 15 12), (0, u "PUPIL"), (0, .fieldref 8 17), (0, .nameAndType 18 12), (0, u "STUDENT"), (0, .fieldref 8 20), (0, .nameAndType 21 12), (0, u "APPRENTICE"), (0, .integer 2147483647), (0, .double 4616189618054758400), (1, .methodref 26 27), (0, .class_ 28), (0, .nameAndType 29 30), (0, u "com/example/werktag/werktag/PersonWorkerPinLaw"), (0, u "pick"), (0, u "(I)Lcom/example/werktag/werktag/Education;"), (0, .methodref 32 33), (0, .class_ 34), (0, .nameAndType 35 36), (0, u "java/lang/String"), (0, u "valueOf"), (0, u "(C)Ljava/lang/String;"), (0, .class_ 38), (0, u "com/example/werktag/werktag/Person"), (0, .methodref 37 40), (0, .nameAndType 5 41), (0, u "(Ljava/lang/String;Ljava/lang/String;Ljava/lang/String;IDLcom/example/werktag/werktag/Education;ZZZ)V"), (0, .methodref 37 43), (0, .nameAndType 44 45), (0, u "worker"), (0, u "()Z"), (3, u "law"), (0, u "(IIII)Z")] 2

def k1m0 : Method := { name := "<init>", desc := "()V", sig := { parameters := [], returnType := none }, accessFlags := 2, code := none }
def k1c1 : Code := { maxStack := 2, maxLocals := 1, code := method_2_code, exceptionTable := #[], attributes := #[] }
def k1m1 : Method := { name := "pick", desc := "(I)Lcom/example/werktag/werktag/Education;", sig := { parameters := [.int], returnType := some (.object "com/example/werktag/werktag/Education") }, accessFlags := 10, code := some k1c1 }
def k1c2 : Code := { maxStack := 12, maxLocals := 15, code := code, exceptionTable := #[], attributes := #[] }
def k1m2 : Method := { name := "law", desc := "(IIII)Z", sig := { parameters := [.int, .int, .int, .int], returnType := some .boolean }, accessFlags := 9, code := some k1c2 }
/-- com/example/werktag/werktag/PersonWorkerPinLaw -/
def k1 : Class := { plain "com/example/werktag/werktag/PersonWorkerPinLaw" (some 0) with
  accessFlags := 49
  interfaces := #[]
  cf := some (fileOf pool1 26 #[] #[{ accessFlags := 2, nameIndex := 5, descriptorIndex := 6, attributes := #[] }, { accessFlags := 10, nameIndex := 29, descriptorIndex := 30, attributes := #[] }, { accessFlags := 9, nameIndex := 49, descriptorIndex := 50, attributes := #[] }] 49 2 #[] #[])
  fields := #[]
  methods := #[k1m0, k1m1, k1m2]
  instanceTypes := #[]
  staticTypes := #[]
  resolved := Array.replicate 53 none
  statics := none }

def pool2 : Array CpInfo := pool [(1, .class_ 2), (0, u "java/lang/constant/Constable"), (0, .class_ 4), (0, u "java/lang/Object")] 6

/-- java/lang/constant/Constable -/
def k2 : Class := { plain "java/lang/constant/Constable" (some 0) with
  accessFlags := 1537
  interfaces := #[]
  cf := some (fileOf pool2 1 #[] #[] 1537 3 #[] #[])
  fields := #[]
  methods := #[]
  instanceTypes := #[]
  staticTypes := #[]
  resolved := Array.replicate 11 none
  statics := none }

def pool3 : Array CpInfo := pool [(1, .class_ 2), (0, u "java/lang/Comparable"), (0, .class_ 4), (0, u "java/lang/Object")] 7

/-- java/lang/Comparable -/
def k3 : Class := { plain "java/lang/Comparable" (some 0) with
  accessFlags := 1537
  interfaces := #[]
  cf := some (fileOf pool3 1 #[] #[] 1537 3 #[] #[])
  fields := #[]
  methods := #[]
  instanceTypes := #[]
  staticTypes := #[]
  resolved := Array.replicate 12 none
  statics := none }

def pool4 : Array CpInfo := pool [(1, .class_ 2), (0, u "java/io/Serializable"), (0, .class_ 4), (0, u "java/lang/Object")] 2

/-- java/io/Serializable -/
def k4 : Class := { plain "java/io/Serializable" (some 0) with
  accessFlags := 1537
  interfaces := #[]
  cf := some (fileOf pool4 1 #[] #[] 1537 3 #[] #[])
  fields := #[]
  methods := #[]
  instanceTypes := #[]
  staticTypes := #[]
  resolved := Array.replicate 7 none
  statics := none }

def pool5 : Array CpInfo := pool [(2, .class_ 4), (1, u "java/lang/Enum"), (0, u "name"), (0, u "Ljava/lang/String;"), (2, u "ordinal"), (0, u "I"), (1, .class_ 14), (1, u "java/lang/Object"), (4, u "hash"), (86, .class_ 108), (1, u "java/lang/Enum$EnumDesc"), (2, .class_ 112), (0, u "java/lang/constant/Constable"), (0, .class_ 114), (0, u "java/lang/Comparable"), (0, .class_ 116), (0, u "java/io/Serializable")] 87

/-- java/lang/Enum -/
def k5 : Class := { plain "java/lang/Enum" (some 0) with
  accessFlags := 1057
  interfaces := #[2, 3, 4]
  cf := some (fileOf pool5 2 #[.nestMembers #[106]] #[] 1057 12 #[111, 113, 115] #[{ accessFlags := 18, nameIndex := 5, descriptorIndex := 6, attributes := #[] }, { accessFlags := 18, nameIndex := 9, descriptorIndex := 10, attributes := #[] }, { accessFlags := 2, nameIndex := 19, descriptorIndex := 10, attributes := #[] }])
  fields := #[{ name := "name", type := (.object "java/lang/String"), accessFlags := 18, slot := 0, constantValue := 0 }, { name := "ordinal", type := .int, accessFlags := 18, slot := 1, constantValue := 0 }, { name := "hash", type := .int, accessFlags := 2, slot := 2, constantValue := 0 }]
  methods := #[]
  instanceTypes := #[(.object "java/lang/String"), .int, .int]
  staticTypes := #[]
  resolved := Array.replicate 204 none
  statics := none }

def pool6 : Array CpInfo := pool [(1, .class_ 2), (0, u "com/example/werktag/werktag/Education"), (2, u "NONE"), (0, u "Lcom/example/werktag/werktag/Education;"), (2, u "PUPIL"), (2, u "STUDENT"), (2, u "APPRENTICE"), (2, u "$VALUES"), (0, u "[Lcom/example/werktag/werktag/Education;"), (6, .class_ 28), (1, u "java/lang/Enum")] 40

/-- com/example/werktag/werktag/Education -/
def k6 : Class := { plain "com/example/werktag/werktag/Education" (some 5) with
  accessFlags := 16433
  interfaces := #[]
  cf := some (fileOf pool6 1 #[] #[] 16433 26 #[] #[{ accessFlags := 16409, nameIndex := 5, descriptorIndex := 6, attributes := #[] }, { accessFlags := 16409, nameIndex := 9, descriptorIndex := 6, attributes := #[] }, { accessFlags := 16409, nameIndex := 12, descriptorIndex := 6, attributes := #[] }, { accessFlags := 16409, nameIndex := 15, descriptorIndex := 6, attributes := #[] }, { accessFlags := 4122, nameIndex := 18, descriptorIndex := 19, attributes := #[] }])
  fields := #[{ name := "NONE", type := (.object "com/example/werktag/werktag/Education"), accessFlags := 16409, slot := 0, constantValue := 0 }, { name := "PUPIL", type := (.object "com/example/werktag/werktag/Education"), accessFlags := 16409, slot := 1, constantValue := 0 }, { name := "STUDENT", type := (.object "com/example/werktag/werktag/Education"), accessFlags := 16409, slot := 2, constantValue := 0 }, { name := "APPRENTICE", type := (.object "com/example/werktag/werktag/Education"), accessFlags := 16409, slot := 3, constantValue := 0 }, { name := "$VALUES", type := (.array (.object "com/example/werktag/werktag/Education")), accessFlags := 4122, slot := 4, constantValue := 0 }]
  methods := #[]
  instanceTypes := #[(.object "java/lang/String"), .int, .int]
  staticTypes := #[(.object "com/example/werktag/werktag/Education"), (.object "com/example/werktag/werktag/Education"), (.object "com/example/werktag/werktag/Education"), (.object "com/example/werktag/werktag/Education"), (.array (.object "com/example/werktag/werktag/Education"))]
  resolved := Array.replicate 69 none
  statics := some 0 }

def pool7 : Array CpInfo := pool [(2, .class_ 4), (1, u "java/lang/CharSequence"), (42, .class_ 48), (0, u "java/lang/CharSequence$1CodePointIterator"), (10, .class_ 60), (0, u "java/lang/CharSequence$1CharIterator"), (5, .class_ 67), (0, u "java/lang/Object")] 63

/-- java/lang/CharSequence -/
def k7 : Class := { plain "java/lang/CharSequence" (some 0) with
  accessFlags := 1537
  interfaces := #[]
  cf := some (fileOf pool7 2 #[.nestMembers #[47, 59]] #[] 1537 66 #[] #[])
  fields := #[]
  methods := #[]
  instanceTypes := #[]
  staticTypes := #[]
  resolved := Array.replicate 131 none
  statics := none }

def pool8 : Array CpInfo := pool [(1, .class_ 2), (0, u "java/lang/constant/ConstantDesc"), (0, .class_ 4), (0, u "java/lang/Object")] 32

/-- java/lang/constant/ConstantDesc -/
def k8 : Class := { plain "java/lang/constant/ConstantDesc" (some 0) with
  accessFlags := 1537
  interfaces := #[]
  cf := some (fileOf pool8 1 #[] #[] 1537 3 #[] #[])
  fields := #[]
  methods := #[]
  instanceTypes := #[]
  staticTypes := #[]
  resolved := Array.replicate 37 none
  statics := none }

def pool9 : Array CpInfo := pool [(1, .methodref 2 3), (0, .class_ 4), (0, .nameAndType 5 6), (0, u "java/lang/Object"), (0, u "<init>"), (0, u "()V"), (2, .fieldref 10 11), (0, .class_ 12), (0, .nameAndType 13 14), (0, u "java/lang/String"), (0, u "value"), (0, u "[B"), (0, .fieldref 10 16), (0, .nameAndType 17 18), (0, u "coder"), (0, u "B"), (2, u "hash"), (0, u "I"), (2, u "hashIsZero"), (0, u "Z"), (11, .fieldref 10 39), (0, .nameAndType 40 26), (0, u "COMPACT_STRINGS"), (12, u "toBytes"), (53, .class_ 109), (1, u "java/lang/StringLatin1"), (99, .methodref 10 210), (0, .nameAndType 5 211), (0, u "([BB)V"), (157, u "(C)Z"), (205, .class_ 576), (0, u "java/lang/CharSequence"), (22, u "CASE_INSENSITIVE_ORDER"), (0, u "Ljava/util/Comparator;"), (181, u "valueOf"), (0, u "(C)Ljava/lang/String;"), (231, .methodref 107 1016), (0, .nameAndType 1017 369), (0, u "canEncode"), (0, .methodref 107 1019), (0, .nameAndType 53 1020), (0, u "(C)[B"), (80, u "serialPersistentFields"), (0, u "[Ljava/io/ObjectStreamField;"), (0, .class_ 1104), (0, u "java/lang/String$CaseInsensitiveComparator"), (1, .class_ 1107), (0, u "java/io/Serializable"), (0, .class_ 1109), (0, u "java/lang/Comparable"), (0, .class_ 1111), (0, u "java/lang/constant/Constable"), (0, .class_ 1113), (0, u "java/lang/constant/ConstantDesc"), (2, u "serialVersionUID"), (0, u "J"), (3, u "REPL"), (0, u "C"), (2, u "LATIN1"), (1, u "UTF16")] 323

def k9m0 : Method := { name := "<init>", desc := "()V", sig := { parameters := [], returnType := none }, accessFlags := 1, code := none }
def k9c1 : Code := { maxStack := 4, maxLocals := 1, code := jdk_42_method_139_code, exceptionTable := #[], attributes := #[] }
def k9m1 : Method := { name := "valueOf", desc := "(C)Ljava/lang/String;", sig := { parameters := [.char], returnType := some (.object "java/lang/String") }, accessFlags := 9, code := some k9c1 }
def k9c2 : Code := { maxStack := 2, maxLocals := 3, code := jdk_42_method_151_code, exceptionTable := #[], attributes := #[] }
def k9m2 : Method := { name := "<init>", desc := "([BB)V", sig := { parameters := [(.array .byte), .byte], returnType := none }, accessFlags := 0, code := some k9c2 }
/-- java/lang/String -/
def k9 : Class := { plain "java/lang/String" (some 0) with
  accessFlags := 49
  interfaces := #[4, 3, 7, 2, 8]
  cf := some (fileOf pool9 10 #[.nestMembers #[1103]] #[{ accessFlags := 1, nameIndex := 5, descriptorIndex := 6, attributes := #[] }, { accessFlags := 9, nameIndex := 782, descriptorIndex := 783, attributes := #[] }, { accessFlags := 0, nameIndex := 5, descriptorIndex := 211, attributes := #[] }] 49 2 #[1106, 1108, 575, 1110, 1112] #[{ accessFlags := 18, nameIndex := 13, descriptorIndex := 14, attributes := #[] }, { accessFlags := 18, nameIndex := 17, descriptorIndex := 18, attributes := #[] }, { accessFlags := 2, nameIndex := 21, descriptorIndex := 22, attributes := #[] }, { accessFlags := 2, nameIndex := 25, descriptorIndex := 26, attributes := #[] }, { accessFlags := 26, nameIndex := 1116, descriptorIndex := 1117, attributes := #[] }, { accessFlags := 24, nameIndex := 40, descriptorIndex := 26, attributes := #[] }, { accessFlags := 26, nameIndex := 1101, descriptorIndex := 1102, attributes := #[] }, { accessFlags := 26, nameIndex := 1121, descriptorIndex := 1122, attributes := #[] }, { accessFlags := 25, nameIndex := 599, descriptorIndex := 600, attributes := #[] }, { accessFlags := 24, nameIndex := 1125, descriptorIndex := 18, attributes := #[] }, { accessFlags := 24, nameIndex := 1127, descriptorIndex := 18, attributes := #[] }])
  fields := #[{ name := "value", type := (.array .byte), accessFlags := 18, slot := 0, constantValue := 0 }, { name := "coder", type := .byte, accessFlags := 18, slot := 1, constantValue := 0 }, { name := "hash", type := .int, accessFlags := 2, slot := 2, constantValue := 0 }, { name := "hashIsZero", type := .boolean, accessFlags := 2, slot := 3, constantValue := 0 }, { name := "serialVersionUID", type := .long, accessFlags := 26, slot := 0, constantValue := 0 }, { name := "COMPACT_STRINGS", type := .boolean, accessFlags := 24, slot := 1, constantValue := 0 }, { name := "serialPersistentFields", type := (.array (.object "java/io/ObjectStreamField")), accessFlags := 26, slot := 2, constantValue := 0 }, { name := "REPL", type := .char, accessFlags := 26, slot := 3, constantValue := 0 }, { name := "CASE_INSENSITIVE_ORDER", type := (.object "java/util/Comparator"), accessFlags := 25, slot := 4, constantValue := 0 }, { name := "LATIN1", type := .byte, accessFlags := 24, slot := 5, constantValue := 0 }, { name := "UTF16", type := .byte, accessFlags := 24, slot := 6, constantValue := 0 }]
  methods := #[k9m0, k9m1, k9m2]
  instanceTypes := #[(.array .byte), .byte, .int, .boolean]
  staticTypes := #[.long, .boolean, (.array (.object "java/io/ObjectStreamField")), .char, (.object "java/util/Comparator"), .byte, .byte]
  resolved := Array.replicate 1451 none
  statics := some 1 }

def pool10 : Array CpInfo := pool [(4, .class_ 6), (1, u "java/lang/Object"), (0, u "<init>"), (0, u "()V"), (5, .class_ 16), (1, u "java/lang/StringLatin1"), (73, u "canEncode"), (14, u "(C)Z"), (15, u "$assertionsDisabled"), (0, u "Z"), (98, .class_ 223), (1, u "java/lang/StringLatin1$LinesSpliterator"), (156, u "toBytes"), (1, u "(C)[B"), (7, .class_ 391), (0, u "java/lang/StringLatin1$CharsSpliterator")] 3

def k10m0 : Method := { name := "<init>", desc := "()V", sig := { parameters := [], returnType := none }, accessFlags := 0, code := none }
def k10c1 : Code := { maxStack := 2, maxLocals := 1, code := jdk_43_method_3_code, exceptionTable := #[], attributes := #[] }
def k10m1 : Method := { name := "canEncode", desc := "(C)Z", sig := { parameters := [.char], returnType := some .boolean }, accessFlags := 9, code := some k10c1 }
def k10c2 : Code := { maxStack := 4, maxLocals := 1, code := jdk_43_method_46_code, exceptionTable := #[], attributes := #[] }
def k10m2 : Method := { name := "toBytes", desc := "(C)[B", sig := { parameters := [.char], returnType := some (.array .byte) }, accessFlags := 9, code := some k10c2 }
/-- java/lang/StringLatin1 -/
def k10 : Class := { plain "java/lang/StringLatin1" (some 0) with
  accessFlags := 48
  interfaces := #[]
  cf := some (fileOf pool10 14 #[.nestMembers #[390, 221]] #[{ accessFlags := 0, nameIndex := 7, descriptorIndex := 8, attributes := #[] }, { accessFlags := 9, nameIndex := 90, descriptorIndex := 105, attributes := #[] }, { accessFlags := 9, nameIndex := 380, descriptorIndex := 382, attributes := #[] }] 48 4 #[] #[{ accessFlags := 4120, nameIndex := 121, descriptorIndex := 122, attributes := #[] }])
  fields := #[{ name := "$assertionsDisabled", type := .boolean, accessFlags := 4120, slot := 0, constantValue := 0 }]
  methods := #[k10m0, k10m1, k10m2]
  instanceTypes := #[]
  staticTypes := #[.boolean]
  resolved := Array.replicate 395 none
  statics := none }

def pool11 : Array CpInfo := pool [(1, .methodref 2 3), (0, .class_ 4), (0, .nameAndType 5 6), (0, u "java/lang/Object"), (0, u "<init>"), (0, u "()V"), (0, .class_ 8), (0, u "java/lang/Record")] 13

def k11c0 : Code := { maxStack := 1, maxLocals := 1, code := jdk_30_method_1_code, exceptionTable := #[], attributes := #[] }
def k11m0 : Method := { name := "<init>", desc := "()V", sig := { parameters := [], returnType := none }, accessFlags := 4, code := some k11c0 }
/-- java/lang/Record -/
def k11 : Class := { plain "java/lang/Record" (some 0) with
  accessFlags := 1057
  interfaces := #[]
  cf := some (fileOf pool11 7 #[] #[{ accessFlags := 4, nameIndex := 5, descriptorIndex := 6, attributes := #[] }] 1057 2 #[] #[])
  fields := #[]
  methods := #[k11m0]
  instanceTypes := #[]
  staticTypes := #[]
  resolved := Array.replicate 22 none
  statics := none }

def pool12 : Array CpInfo := pool [(1, .methodref 2 3), (0, .class_ 4), (0, .nameAndType 5 6), (0, u "java/lang/Record"), (0, u "<init>"), (0, u "()V"), (0, .fieldref 8 9), (0, .class_ 10), (0, .nameAndType 11 12), (0, u "com/example/werktag/werktag/Person"), (0, u "id"), (0, u "Ljava/lang/String;"), (0, .fieldref 8 14), (0, .nameAndType 15 12), (0, u "householdId"), (0, .fieldref 8 17), (0, .nameAndType 18 12), (0, u "homeZone"), (0, .fieldref 8 20), (0, .nameAndType 21 22), (0, u "age"), (0, u "I"), (0, .fieldref 8 24), (0, .nameAndType 25 26), (0, u "employmentPct"), (0, u "D"), (0, .fieldref 8 28), (0, .nameAndType 29 30), (0, u "education"), (0, u "Lcom/example/werktag/werktag/Education;"), (0, .fieldref 8 32), (0, .nameAndType 33 34), (0, u "carAvailable"), (0, u "Z"), (0, .fieldref 8 36), (0, .nameAndType 37 34), (0, u "ptSubscription"), (0, .fieldref 8 39), (0, .nameAndType 40 34), (0, u "kidsInHousehold"), (17, u "(Ljava/lang/String;Ljava/lang/String;Ljava/lang/String;IDLcom/example/werktag/werktag/Education;ZZZ)V"), (3, u "worker"), (0, u "()Z")] 35

def k12c0 : Code := { maxStack := 3, maxLocals := 11, code := prog_27_method_1_code, exceptionTable := #[], attributes := #[] }
def k12m0 : Method := { name := "<init>", desc := "(Ljava/lang/String;Ljava/lang/String;Ljava/lang/String;IDLcom/example/werktag/werktag/Education;ZZZ)V", sig := { parameters := [(.object "java/lang/String"), (.object "java/lang/String"), (.object "java/lang/String"), .int, .double, (.object "com/example/werktag/werktag/Education"), .boolean, .boolean, .boolean], returnType := none }, accessFlags := 1, code := some k12c0 }
def k12c1 : Code := { maxStack := 4, maxLocals := 1, code := prog_27_method_2_code, exceptionTable := #[], attributes := #[] }
def k12m1 : Method := { name := "worker", desc := "()Z", sig := { parameters := [], returnType := some .boolean }, accessFlags := 1, code := some k12c1 }
/-- com/example/werktag/werktag/Person -/
def k12 : Class := { plain "com/example/werktag/werktag/Person" (some 11) with
  accessFlags := 49
  interfaces := #[]
  cf := some (fileOf pool12 8 #[] #[{ accessFlags := 1, nameIndex := 5, descriptorIndex := 58, attributes := #[] }, { accessFlags := 1, nameIndex := 62, descriptorIndex := 63, attributes := #[] }] 49 2 #[] #[{ accessFlags := 18, nameIndex := 11, descriptorIndex := 12, attributes := #[] }, { accessFlags := 18, nameIndex := 15, descriptorIndex := 12, attributes := #[] }, { accessFlags := 18, nameIndex := 18, descriptorIndex := 12, attributes := #[] }, { accessFlags := 18, nameIndex := 21, descriptorIndex := 22, attributes := #[] }, { accessFlags := 18, nameIndex := 25, descriptorIndex := 26, attributes := #[] }, { accessFlags := 18, nameIndex := 29, descriptorIndex := 30, attributes := #[] }, { accessFlags := 18, nameIndex := 33, descriptorIndex := 34, attributes := #[] }, { accessFlags := 18, nameIndex := 37, descriptorIndex := 34, attributes := #[] }, { accessFlags := 18, nameIndex := 40, descriptorIndex := 34, attributes := #[] }])
  fields := #[{ name := "id", type := (.object "java/lang/String"), accessFlags := 18, slot := 0, constantValue := 0 }, { name := "householdId", type := (.object "java/lang/String"), accessFlags := 18, slot := 1, constantValue := 0 }, { name := "homeZone", type := (.object "java/lang/String"), accessFlags := 18, slot := 2, constantValue := 0 }, { name := "age", type := .int, accessFlags := 18, slot := 3, constantValue := 0 }, { name := "employmentPct", type := .double, accessFlags := 18, slot := 4, constantValue := 0 }, { name := "education", type := (.object "com/example/werktag/werktag/Education"), accessFlags := 18, slot := 5, constantValue := 0 }, { name := "carAvailable", type := .boolean, accessFlags := 18, slot := 6, constantValue := 0 }, { name := "ptSubscription", type := .boolean, accessFlags := 18, slot := 7, constantValue := 0 }, { name := "kidsInHousehold", type := .boolean, accessFlags := 18, slot := 8, constantValue := 0 }]
  methods := #[k12m0, k12m1]
  instanceTypes := #[(.object "java/lang/String"), (.object "java/lang/String"), (.object "java/lang/String"), .int, .double, (.object "com/example/werktag/werktag/Education"), .boolean, .boolean, .boolean]
  staticTypes := #[]
  resolved := Array.replicate 99 none
  statics := none }

def pool13 : Array CpInfo := pool [(2, .class_ 4), (1, u "java/lang/Object"), (0, u "<init>"), (0, u "()V"), (17, .class_ 26), (1, u "jdk/internal/util/Preconditions"), (28, .class_ 56), (0, u "jdk/internal/util/Preconditions$4"), (57, .class_ 115), (0, u "jdk/internal/util/Preconditions$1"), (7, u "SIOOBE_FORMATTER"), (0, u "Ljava/util/function/BiFunction;"), (0, .class_ 126), (0, u "jdk/internal/util/Preconditions$2"), (3, u "AIOOBE_FORMATTER"), (0, .class_ 132), (0, u "jdk/internal/util/Preconditions$3"), (3, u "IOOBE_FORMATTER")] 57

def k13m0 : Method := { name := "<init>", desc := "()V", sig := { parameters := [], returnType := none }, accessFlags := 1, code := none }
/-- jdk/internal/util/Preconditions -/
def k13 : Class := { plain "jdk/internal/util/Preconditions" (some 0) with
  accessFlags := 33
  interfaces := #[]
  cf := some (fileOf pool13 24 #[.nestMembers #[55, 131, 125, 114]] #[{ accessFlags := 1, nameIndex := 5, descriptorIndex := 6, attributes := #[] }] 33 2 #[] #[{ accessFlags := 25, nameIndex := 123, descriptorIndex := 124, attributes := #[] }, { accessFlags := 25, nameIndex := 130, descriptorIndex := 124, attributes := #[] }, { accessFlags := 25, nameIndex := 136, descriptorIndex := 124, attributes := #[] }])
  fields := #[{ name := "SIOOBE_FORMATTER", type := (.object "java/util/function/BiFunction"), accessFlags := 25, slot := 0, constantValue := 0 }, { name := "AIOOBE_FORMATTER", type := (.object "java/util/function/BiFunction"), accessFlags := 25, slot := 1, constantValue := 0 }, { name := "IOOBE_FORMATTER", type := (.object "java/util/function/BiFunction"), accessFlags := 25, slot := 2, constantValue := 0 }]
  methods := #[k13m0]
  instanceTypes := #[]
  staticTypes := #[(.object "java/util/function/BiFunction"), (.object "java/util/function/BiFunction"), (.object "java/util/function/BiFunction")]
  resolved := Array.replicate 194 none
  statics := some 2 }

def pool14 : Array CpInfo := pool [(9, u "<init>"), (6, .class_ 18), (1, u "java/lang/Object"), (0, u "()V"), (1, .class_ 23), (1, u "jdk/internal/util/ArraysSupport"), (0, u "LOG2_ARRAY_LONG_INDEX_SCALE"), (0, u "I"), (2, u "U"), (0, u "Ljdk/internal/misc/Unsafe;"), (8, u "BIG_ENDIAN"), (0, u "Z"), (8, u "LOG2_BYTE_BIT_SIZE"), (4, u "LOG2_ARRAY_INT_INDEX_SCALE"), (54, u "JLA"), (0, u "Ljdk/internal/access/JavaLangAccess;"), (11, u "LOG2_ARRAY_BOOLEAN_INDEX_SCALE"), (9, u "LOG2_ARRAY_BYTE_INDEX_SCALE"), (5, u "LOG2_ARRAY_CHAR_INDEX_SCALE"), (5, u "LOG2_ARRAY_SHORT_INDEX_SCALE"), (18, u "LOG2_ARRAY_FLOAT_INDEX_SCALE"), (24, u "LOG2_ARRAY_DOUBLE_INDEX_SCALE"), (89, u "T_BOOLEAN"), (2, u "T_CHAR"), (1, u "T_FLOAT"), (1, u "T_DOUBLE"), (1, u "T_BYTE"), (1, u "T_SHORT"), (1, u "T_INT"), (1, u "T_LONG"), (1, u "SOFT_MAX_ARRAY_LENGTH")] 83

def k14m0 : Method := { name := "<init>", desc := "()V", sig := { parameters := [], returnType := none }, accessFlags := 2, code := none }
/-- jdk/internal/util/ArraysSupport -/
def k14 : Class := { plain "jdk/internal/util/ArraysSupport" (some 0) with
  accessFlags := 33
  interfaces := #[]
  cf := some (fileOf pool14 21 #[] #[{ accessFlags := 2, nameIndex := 9, descriptorIndex := 19, attributes := #[] }] 33 16 #[] #[{ accessFlags := 24, nameIndex := 28, descriptorIndex := 29, attributes := #[] }, { accessFlags := 26, nameIndex := 38, descriptorIndex := 39, attributes := #[] }, { accessFlags := 25, nameIndex := 121, descriptorIndex := 25, attributes := #[] }, { accessFlags := 25, nameIndex := 131, descriptorIndex := 25, attributes := #[] }, { accessFlags := 25, nameIndex := 137, descriptorIndex := 25, attributes := #[] }, { accessFlags := 25, nameIndex := 143, descriptorIndex := 25, attributes := #[] }, { accessFlags := 25, nameIndex := 53, descriptorIndex := 25, attributes := #[] }, { accessFlags := 25, nameIndex := 24, descriptorIndex := 25, attributes := #[] }, { accessFlags := 25, nameIndex := 162, descriptorIndex := 25, attributes := #[] }, { accessFlags := 25, nameIndex := 187, descriptorIndex := 25, attributes := #[] }, { accessFlags := 26, nameIndex := 48, descriptorIndex := 25, attributes := #[] }, { accessFlags := 25, nameIndex := 277, descriptorIndex := 25, attributes := #[] }, { accessFlags := 25, nameIndex := 280, descriptorIndex := 25, attributes := #[] }, { accessFlags := 25, nameIndex := 282, descriptorIndex := 25, attributes := #[] }, { accessFlags := 25, nameIndex := 284, descriptorIndex := 25, attributes := #[] }, { accessFlags := 25, nameIndex := 286, descriptorIndex := 25, attributes := #[] }, { accessFlags := 25, nameIndex := 288, descriptorIndex := 25, attributes := #[] }, { accessFlags := 25, nameIndex := 290, descriptorIndex := 25, attributes := #[] }, { accessFlags := 25, nameIndex := 292, descriptorIndex := 25, attributes := #[] }, { accessFlags := 26, nameIndex := 108, descriptorIndex := 109, attributes := #[] }, { accessFlags := 25, nameIndex := 294, descriptorIndex := 25, attributes := #[] }])
  fields := #[{ name := "U", type := (.object "jdk/internal/misc/Unsafe"), accessFlags := 24, slot := 0, constantValue := 0 }, { name := "BIG_ENDIAN", type := .boolean, accessFlags := 26, slot := 1, constantValue := 0 }, { name := "LOG2_ARRAY_BOOLEAN_INDEX_SCALE", type := .int, accessFlags := 25, slot := 2, constantValue := 0 }, { name := "LOG2_ARRAY_BYTE_INDEX_SCALE", type := .int, accessFlags := 25, slot := 3, constantValue := 0 }, { name := "LOG2_ARRAY_CHAR_INDEX_SCALE", type := .int, accessFlags := 25, slot := 4, constantValue := 0 }, { name := "LOG2_ARRAY_SHORT_INDEX_SCALE", type := .int, accessFlags := 25, slot := 5, constantValue := 0 }, { name := "LOG2_ARRAY_INT_INDEX_SCALE", type := .int, accessFlags := 25, slot := 6, constantValue := 0 }, { name := "LOG2_ARRAY_LONG_INDEX_SCALE", type := .int, accessFlags := 25, slot := 7, constantValue := 0 }, { name := "LOG2_ARRAY_FLOAT_INDEX_SCALE", type := .int, accessFlags := 25, slot := 8, constantValue := 0 }, { name := "LOG2_ARRAY_DOUBLE_INDEX_SCALE", type := .int, accessFlags := 25, slot := 9, constantValue := 0 }, { name := "LOG2_BYTE_BIT_SIZE", type := .int, accessFlags := 26, slot := 10, constantValue := 0 }, { name := "T_BOOLEAN", type := .int, accessFlags := 25, slot := 11, constantValue := 0 }, { name := "T_CHAR", type := .int, accessFlags := 25, slot := 12, constantValue := 0 }, { name := "T_FLOAT", type := .int, accessFlags := 25, slot := 13, constantValue := 0 }, { name := "T_DOUBLE", type := .int, accessFlags := 25, slot := 14, constantValue := 0 }, { name := "T_BYTE", type := .int, accessFlags := 25, slot := 15, constantValue := 0 }, { name := "T_SHORT", type := .int, accessFlags := 25, slot := 16, constantValue := 0 }, { name := "T_INT", type := .int, accessFlags := 25, slot := 17, constantValue := 0 }, { name := "T_LONG", type := .int, accessFlags := 25, slot := 18, constantValue := 0 }, { name := "JLA", type := (.object "jdk/internal/access/JavaLangAccess"), accessFlags := 26, slot := 19, constantValue := 0 }, { name := "SOFT_MAX_ARRAY_LENGTH", type := .int, accessFlags := 25, slot := 20, constantValue := 0 }]
  methods := #[k14m0]
  instanceTypes := #[]
  staticTypes := #[(.object "jdk/internal/misc/Unsafe"), .boolean, .int, .int, .int, .int, .int, .int, .int, .int, .int, .int, .int, .int, .int, .int, .int, .int, .int, (.object "jdk/internal/access/JavaLangAccess"), .int]
  resolved := Array.replicate 378 none
  statics := none }

def pool15 : Array CpInfo := pool [(1, u "java/lang/Cloneable"), (0, .class_ 1), (0, u "java/lang/Object"), (0, .class_ 3)] 3

/-- java/lang/Cloneable -/
def k15 : Class := { plain "java/lang/Cloneable" (some 0) with
  accessFlags := 1537
  interfaces := #[]
  cf := some (fileOf pool15 2 #[] #[] 1537 4 #[] #[])
  fields := #[]
  methods := #[]
  instanceTypes := #[]
  staticTypes := #[]
  resolved := Array.replicate 8 none
  statics := none }

/-- the primitive byte -/
def k16 : Class := { plain "byte" none with kind := .primitive 'B', accessFlags := 0x411 }
/-- [B -/
def k17 : Class := { plain "[B" (some 0) with kind := .array 16 .byte, interfaces := #[15, 4], accessFlags := 1041 }

/-- the primitive int -/
def k18 : Class := { plain "int" none with kind := .primitive 'I', accessFlags := 0x411 }
/-- [I -/
def k19 : Class := { plain "[I" (some 0) with kind := .array 18 .int, interfaces := #[15, 4], accessFlags := 1041 }

def heap : Heap := #[{ cls := 6, slots := #[.ref 3, .ref 4, .ref 5, .ref 6, .null], vm := .statics 6 },
  { cls := 9, slots := #[.long 0, .int 1, .null, .int 0, .null, .int 0, .int 0], vm := .statics 9 },
  { cls := 13, slots := #[.null, .null, .null], vm := .statics 13 },
  { cls := 6, slots := #[.null, .int 0, .int 0], vm := .none },
  { cls := 6, slots := #[.null, .int 1, .int 0], vm := .none },
  { cls := 6, slots := #[.null, .int 2, .int 0], vm := .none },
  { cls := 6, slots := #[.null, .int 3, .int 0], vm := .none }]
def classes : Array Class := #[k0, k1, k2, k3, k4, k5, k6, k7, k8, k9, k10, k11, k12, k13, k14, k15, k16, k17, k18, k19]
def interned : List (Array UInt16 × Addr) := []
def slotsUsed : Nat := 27
def theMethod : MethodId := ⟨1, 2⟩
def args0 : Array Value := #[.int 5, .int 6, .int 5, .int 6]
def aboutOver (below : List Frame) : State where
  vm := { classes := classes, interned := interned.toArray }
  heap := heap
  slotsUsed := slotsUsed
  threads := #[{ frames := .invoking theMethod args0 :: below }]
def below0 : List Frame := [.native { method := ⟨0, 0⟩, args := #[] }]
def about1 : State := aboutOver below0
def p0 : Program := .bare "" "" ""
def e0 : Env := launch0.env 0 0 0
theorem w_frames : about1.frames = Frame.invoking theMethod args0 :: below0 := rfl
set_option maxRecDepth 65536 in
theorem w_args : argsFit about1.vm theMethod args0 = true := by decide +kernel
set_option maxRecDepth 65536 in
theorem w_heap : heapFits about1 = true := by decide +kernel
set_option maxRecDepth 65536 in
theorem w_runnable : about1.curStatus? = some .runnable := by decide +kernel
set_option maxRecDepth 65536 in
theorem w_alone : about1.alone = true := by decide +kernel
set_option maxRecDepth 65536 in
theorem w_named : about1.methodNamed? x = some theMethod := by decide +kernel
set_option maxRecDepth 65536 in
theorem w_hears : about1.hears theMethod below0 = true := by decide +kernel
set_option maxRecDepth 65536 in
theorem w_ripe : about1.ripe theMethod args0 below0 = true := by decide +kernel
theorem w_running : about1.status = .running := rfl
set_option maxRecDepth 65536 in
theorem w_room : about1.hasRoom e0.platform room_1 = true :=
  launch0.hasRoom_least _ room_1 (by decide +kernel) (by decide +kernel) (by decide +kernel) (by decide +kernel) (by decide +kernel) (by decide +kernel)
theorem allAtoms_all (ts : List Jvm.Cond) (a : Array Jvm.Value) (st : Jvm.State) : (allAtoms ts).before a st = ts.all (fun c => c.before a st) := by
  induction ts with
  | nil => rfl
  | cons c t ih =>
    show (Jvm.Cond.and c (allAtoms t)).before a st = _
    rw [Jvm.Cond.before_and, ih, List.all_cons]
def words1 : List Jvm.Cond := Jvm.Cond.code x code maxLocals ret :: tables_1
/-- a 'code' word, met by the world's own term for the bytes: nothing is compared byte by byte -/
theorem code_word {y : MethodName} {bytes : ByteArray} {mx : Nat} {rt : Option FieldType} {a : Array Value} {s : State} {m : MethodId} {meth : Method} {c : Code} (h1 : s.methodNamed? y = some m) (h2 : s.vm.method? m = some meth) (h3 : meth.code = some c) (h4 : c.code = bytes)
    (h5 : (c.maxLocals == mx && c.exceptionTable.isEmpty && decide (c.maxStack ≤ mostOperands) && decide (meth.sig.returnType = rt) && !meth.locks && decide (parseMethodDescriptor y.desc = some meth.sig)) = true) : (Jvm.Cond.code y bytes mx rt).before a s = true := by
  simp only [Bool.and_eq_true, beq_iff_eq, Bool.not_eq_true', decide_eq_true_eq] at h5
  obtain ⟨⟨⟨⟨⟨g1, g2⟩, g3⟩, g4⟩, g5⟩, g6⟩ := h5
  simp [Cond.before, Cond.holds, Cond.value, h1, h2, h3, h4, g1, g2, g3, g4, g5, g6]
def isCode : Jvm.Cond → Bool
  | .code _ _ _ _ => true
  | _ => false
theorem all_split {L : List Jvm.Cond} {P : Jvm.Cond → Bool} (h1 : L.all (fun c => isCode c || P c) = true) (h2 : ∀ c ∈ L.filter isCode, P c = true) : L.all P = true := by
  refine List.all_eq_true.mpr fun c hc => ?_
  have h := List.all_eq_true.mp h1 c hc
  rcases Bool.eq_false_or_eq_true (isCode c) with hi | hi
  · exact h2 c (List.mem_filter.mpr ⟨hc, hi⟩)
  · simpa [hi] using h
set_option maxRecDepth 65536 in
theorem w_c0 : (Jvm.Cond.code x code maxLocals ret).before args0 about1 = true := code_word (m := ⟨1, 2⟩) (meth := k1m2) (c := k1c2) (by decide +kernel) rfl rfl rfl (by decide +kernel)
set_option maxRecDepth 65536 in
theorem w_c1 : (Jvm.Cond.code ({ cls := "com/example/werktag/werktag/PersonWorkerPinLaw", name := "pick", desc := "(I)Lcom/example/werktag/werktag/Education;" } : Jvm.MethodName) method_2_code (1 : Nat) (Option.some (Jvm.ClassFile.FieldType.object "com/example/werktag/werktag/Education"))).before args0 about1 = true := code_word (m := ⟨1, 1⟩) (meth := k1m1) (c := k1c1) (by decide +kernel) rfl rfl rfl (by decide +kernel)
set_option maxRecDepth 65536 in
theorem w_c2 : (Jvm.Cond.code ({ cls := "java/lang/String", name := "valueOf", desc := "(C)Ljava/lang/String;" } : Jvm.MethodName) jdk_42_method_139_code (1 : Nat) (Option.some (Jvm.ClassFile.FieldType.object "java/lang/String"))).before args0 about1 = true := code_word (m := ⟨9, 1⟩) (meth := k9m1) (c := k9c1) (by decide +kernel) rfl rfl rfl (by decide +kernel)
set_option maxRecDepth 65536 in
theorem w_c3 : (Jvm.Cond.code ({ cls := "java/lang/StringLatin1", name := "canEncode", desc := "(C)Z" } : Jvm.MethodName) jdk_43_method_3_code (1 : Nat) (Option.some Jvm.ClassFile.FieldType.boolean)).before args0 about1 = true := code_word (m := ⟨10, 1⟩) (meth := k10m1) (c := k10c1) (by decide +kernel) rfl rfl rfl (by decide +kernel)
set_option maxRecDepth 65536 in
theorem w_c4 : (Jvm.Cond.code ({ cls := "java/lang/StringLatin1", name := "toBytes", desc := "(C)[B" } : Jvm.MethodName) jdk_43_method_46_code (1 : Nat) (Option.some (Jvm.ClassFile.FieldType.array Jvm.ClassFile.FieldType.byte))).before args0 about1 = true := code_word (m := ⟨10, 2⟩) (meth := k10m2) (c := k10c2) (by decide +kernel) rfl rfl rfl (by decide +kernel)
set_option maxRecDepth 65536 in
theorem w_c5 : (Jvm.Cond.code ({ cls := "java/lang/String", name := "<init>", desc := "([BB)V" } : Jvm.MethodName) jdk_42_method_151_code (3 : Nat) (Option.none : Option Jvm.ClassFile.FieldType)).before args0 about1 = true := code_word (m := ⟨9, 2⟩) (meth := k9m2) (c := k9c2) (by decide +kernel) rfl rfl rfl (by decide +kernel)
set_option maxRecDepth 65536 in
theorem w_c6 : (Jvm.Cond.code ({ cls := "java/lang/Object", name := "<init>", desc := "()V" } : Jvm.MethodName) object_method_1_code (1 : Nat) (Option.none : Option Jvm.ClassFile.FieldType)).before args0 about1 = true := code_word (m := ⟨0, 0⟩) (meth := k0m0) (c := k0c0) (by decide +kernel) rfl rfl rfl (by decide +kernel)
set_option maxRecDepth 65536 in
theorem w_c7 : (Jvm.Cond.code ({ cls := "com/example/werktag/werktag/Person", name := "<init>", desc := "(Ljava/lang/String;Ljava/lang/String;Ljava/lang/String;IDLcom/example/werktag/werktag/Education;ZZZ)V" } : Jvm.MethodName) prog_27_method_1_code (11 : Nat) (Option.none : Option Jvm.ClassFile.FieldType)).before args0 about1 = true := code_word (m := ⟨12, 0⟩) (meth := k12m0) (c := k12c0) (by decide +kernel) rfl rfl rfl (by decide +kernel)
set_option maxRecDepth 65536 in
theorem w_c8 : (Jvm.Cond.code ({ cls := "java/lang/Record", name := "<init>", desc := "()V" } : Jvm.MethodName) jdk_30_method_1_code (1 : Nat) (Option.none : Option Jvm.ClassFile.FieldType)).before args0 about1 = true := code_word (m := ⟨11, 0⟩) (meth := k11m0) (c := k11c0) (by decide +kernel) rfl rfl rfl (by decide +kernel)
set_option maxRecDepth 65536 in
theorem w_c9 : (Jvm.Cond.code ({ cls := "com/example/werktag/werktag/Person", name := "worker", desc := "()Z" } : Jvm.MethodName) prog_27_method_2_code (1 : Nat) (Option.some Jvm.ClassFile.FieldType.boolean)).before args0 about1 = true := code_word (m := ⟨12, 1⟩) (meth := k12m1) (c := k12c1) (by decide +kernel) rfl rfl rfl (by decide +kernel)
def codes1 : List Jvm.Cond := [Jvm.Cond.code x code maxLocals ret, Jvm.Cond.code ({ cls := "com/example/werktag/werktag/PersonWorkerPinLaw", name := "pick", desc := "(I)Lcom/example/werktag/werktag/Education;" } : Jvm.MethodName) method_2_code (1 : Nat) (Option.some (Jvm.ClassFile.FieldType.object "com/example/werktag/werktag/Education")), Jvm.Cond.code ({ cls := "java/lang/String", name := "valueOf", desc := "(C)Ljava/lang/String;" } : Jvm.MethodName) jdk_42_method_139_code (1 : Nat) (Option.some (Jvm.ClassFile.FieldType.object "java/lang/String")), Jvm.Cond.code ({ cls := "java/lang/StringLatin1", name := "canEncode", desc := "(C)Z" } : Jvm.MethodName) jdk_43_method_3_code (1 : Nat) (Option.some Jvm.ClassFile.FieldType.boolean), Jvm.Cond.code ({ cls := "java/lang/StringLatin1", name := "toBytes", desc := "(C)[B" } : Jvm.MethodName) jdk_43_method_46_code (1 : Nat) (Option.some (Jvm.ClassFile.FieldType.array Jvm.ClassFile.FieldType.byte)), Jvm.Cond.code ({ cls := "java/lang/String", name := "<init>", desc := "([BB)V" } : Jvm.MethodName) jdk_42_method_151_code (3 : Nat) (Option.none : Option Jvm.ClassFile.FieldType), Jvm.Cond.code ({ cls := "java/lang/Object", name := "<init>", desc := "()V" } : Jvm.MethodName) object_method_1_code (1 : Nat) (Option.none : Option Jvm.ClassFile.FieldType), Jvm.Cond.code ({ cls := "com/example/werktag/werktag/Person", name := "<init>", desc := "(Ljava/lang/String;Ljava/lang/String;Ljava/lang/String;IDLcom/example/werktag/werktag/Education;ZZZ)V" } : Jvm.MethodName) prog_27_method_1_code (11 : Nat) (Option.none : Option Jvm.ClassFile.FieldType), Jvm.Cond.code ({ cls := "java/lang/Record", name := "<init>", desc := "()V" } : Jvm.MethodName) jdk_30_method_1_code (1 : Nat) (Option.none : Option Jvm.ClassFile.FieldType), Jvm.Cond.code ({ cls := "com/example/werktag/werktag/Person", name := "worker", desc := "()Z" } : Jvm.MethodName) prog_27_method_2_code (1 : Nat) (Option.some Jvm.ClassFile.FieldType.boolean)]
set_option maxRecDepth 65536 in
theorem codes_eq : words1.filter isCode = codes1 := rfl
theorem w_codes : ∀ c ∈ words1.filter isCode, c.before args0 about1 = true := by
  rw [codes_eq]
  intro c hc
  simp only [codes1, List.mem_cons, List.not_mem_nil, or_false] at hc
  rcases hc with rfl | rfl | rfl | rfl | rfl | rfl | rfl | rfl | rfl | rfl
  · exact w_c0
  · exact w_c1
  · exact w_c2
  · exact w_c3
  · exact w_c4
  · exact w_c5
  · exact w_c6
  · exact w_c7
  · exact w_c8
  · exact w_c9
set_option maxRecDepth 65536 in
theorem w_t1 : (words1.take 24).all (fun c => isCode c || c.before args0 about1) = true := by decide +kernel
set_option maxRecDepth 65536 in
theorem w_t2 : ((words1.drop 24).take 24).all (fun c => isCode c || c.before args0 about1) = true := by decide +kernel
set_option maxRecDepth 65536 in
theorem w_t3 : (((words1.drop 24).drop 24).take 24).all (fun c => isCode c || c.before args0 about1) = true := by decide +kernel
set_option maxRecDepth 65536 in
theorem w_t4 : (((words1.drop 24).drop 24).drop 24).all (fun c => isCode c || c.before args0 about1) = true := by decide +kernel
theorem w_tables : (allAtoms (Jvm.Cond.code x code maxLocals ret :: tables_1)).before args0 about1 = true := by
  rw [allAtoms_all]
  show words1.all (fun c => c.before args0 about1) = true
  refine all_split ?_ w_codes
  rw [← List.take_append_drop 24 words1, List.all_append, w_t1, ← List.take_append_drop 24 (words1.drop 24), List.all_append, w_t2, ← List.take_append_drop 24 ((words1.drop 24).drop 24), List.all_append, w_t3, w_t4]
  rfl
set_option maxRecDepth 65536 in
theorem w_rest : rest_1_c.before args0 about1 = true := by decide +kernel
set_option maxRecDepth 65536 in
theorem w_case : (Jvm.Cond.and given_1 narrow_1).before args0 about1 = true := by decide +kernel
theorem w_applies : (headSpec (Jvm.Cond.code x code maxLocals ret :: tables_1) room_1).applies x e0.platform about1 = true :=
  (Spec.applies_iff w_frames).mpr ⟨w_running, w_runnable, w_alone, w_named, w_hears, w_ripe, w_room, w_tables⟩
theorem atStart : AtStart classFile x code maxLocals ret World_1 tables_1 room_1 Calls_1 rest_1 Pre_1 launch0 p0 e0 about1 theMethod args0 below0 :=
  ⟨lists_1, trivial, launch0.admits_env _ _ _, launch0.least_env, fairChoices_fair.cas, fairChoices_fair.clock, w_frames, w_args, w_heap, w_applies, trivial, w_rest, w_case⟩
end start1
theorem witness_1 : WitnessClaimed_1 := ⟨start1.p0, start1.e0, start1.about1, start1.theMethod, start1.args0, start1.below0, start1.atStart⟩
end Jvm.Pilot.@@N@@
