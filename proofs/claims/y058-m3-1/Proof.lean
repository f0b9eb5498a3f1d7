import JvmDerived
import JvmDerived.Pilot.@@N@@Statement
import JvmDerived.Pilot.@@N@@Code
set_option linter.unusedVariables false
set_option linter.unusedSimpArgs false
namespace Jvm.Pilot.@@N@@
open Jvm Jvm.ClassFile Sem Op Lib Jvm.Free Jvm.Stand Jvm.LawKit Jvm.RoadKit Bundle Jvm.Pilot.@@N@@.Jvm.D
/-! the run comes to an end that answers Q -/
def Go (p : Program) (e : Env) (below : List Frame) (Q : Outcome → State → Prop) (T : State) (g : JFrame) : Prop :=
  ∃ s₂ o, Steps p.tables e below (T.setTop g) s₂ ∧ s₂.status = .running ∧ Ended s₂ below o ∧ Q o s₂
section Own
variable {p : Program} {l : Launch} {e : Env} {R : Room} {s : State} {m : MethodId} {args : Array Value} {below : List Frame} {meth : Method} {c : Code} {T T' : State} {locs : List Loc} {cells slots : Nat} {Q : Outcome → State → Prop} {g g' : JFrame}
theorem Go.of (k : ∀ t, Steps p.tables e below (T'.setTop g') t → Steps p.tables e below (T.setTop g) t) (h : Go p e below Q T' g') : Go p e below Q T g := by
  obtain ⟨u, o, h1, h2⟩ := h
  exact ⟨u, o, k _ h1, h2⟩
theorem Go.via (k : Steps p.tables e below (T.setTop g) (T'.setTop g')) (h : Go p e below Q T' g') : Go p e below Q T g := by
  obtain ⟨u, o, h1, h2⟩ := h
  exact ⟨u, o, k.trans h1, h2⟩
theorem Go.cast (q : g = g') (h : Go p e below Q T g') : Go p e below Q T g := q ▸ h
theorem own_out (X : Stand p l e R s m args below meth c T locs cells slots) {v : Option Value} (hv : meth.sig.returnType = none → v = none) (hlocks : meth.locks = false)
    (k : ∀ fs : List Frame, (∀ (f : JFrame) (acts : List Action), f.method = m → f.locked = none → f.entered = [] → (doReturn e (T.setTop f) acts v).1 = T.setFrames fs) → Steps p.tables e below (T.setTop g) (T.setFrames fs))
    (hQ : ∀ u : State, u.heap = T.heap → FrameEnd s (.returned v) u locs cells slots → Q (.returned v) u) : Go p e below Q T g := by
  obtain ⟨fs, hr, hrun, hended, hW, hsame⟩ := X.leave hv hlocks
  exact ⟨_, _, k fs hr, hrun, hended, hQ _ rfl ⟨⟨_, rfl⟩, hW, hsame⟩⟩
theorem own_retN (X : Stand p l e R s m args below meth c T locs cells slots) (hx : p.tables.exec = Jvm.exec) (hlocks : meth.locks = false) {pc : Nat} {Ls : Array Slot} {z : Int32} {t : FieldType} {rest : List Value} (hret : meth.sig.returnType = some t) (ht : t = .boolean ∨ t = .byte ∨ t = .char ∨ t = .short)
    (hd : decode c.code pc = .ok (.ireturn, 1)) (hQ : ∀ u : State, u.heap = T.heap → FrameEnd s (.returned (some (.int (nar t z)))) u locs cells slots → Q (.returned (some (.int (nar t z)))) u) : Go p e below Q T (mkF m pc Ls (.int z :: rest)) :=
  own_out X (fun h => by rw [hret] at h; cases h) hlocks (fun fs hr => retN X hx hret ht hd hr) hQ
theorem own_retW (X : Stand p l e R s m args below meth c T locs cells slots) (hx : p.tables.exec = Jvm.exec) (hlocks : meth.locks = false) {pc : Nat} {Ls : Array Slot} {w : Value} {t : FieldType} {i : Instr} {rest : List Value} (hret : meth.sig.returnType = some t) (hn : narrow t w = w)
    (hi : (i = .ireturn ∧ (t = .int ∨ t = .boolean ∨ t = .byte ∨ t = .char ∨ t = .short) ∧ ∃ z, w = .int z) ∨ (i = .lreturn ∧ t = .long ∧ ∃ z, w = .long z) ∨ (i = .dreturn ∧ t = .double ∧ ∃ z, w = .double z) ∨ (i = .freturn ∧ t = .float ∧ ∃ z, w = .float z) ∨ (i = .areturn ∧ t.isReference = true ∧ w.isRef = true))
    (hd : decode c.code pc = .ok (i, 1)) (hQ : ∀ u : State, u.heap = T.heap → FrameEnd s (.returned (some w)) u locs cells slots → Q (.returned (some w)) u) : Go p e below Q T (mkF m pc Ls (w :: rest)) :=
  own_out X (fun h => by rw [hret] at h; cases h) hlocks (fun fs hr => retOut X hx hret hn hi hd hr) hQ
theorem own_ret0 (X : Stand p l e R s m args below meth c T locs cells slots) (hx : p.tables.exec = Jvm.exec) (hlocks : meth.locks = false) {pc : Nat} {Ls : Array Slot} (hret : meth.sig.returnType = none)
    (hd : decode c.code pc = .ok (.return_, 1)) (hQ : ∀ u : State, u.heap = T.heap → FrameEnd s (.returned none) u locs cells slots → Q (.returned none) u) : Go p e below Q T (mkF m pc Ls []) :=
  own_out X (fun _ => rfl) hlocks (fun fs hr => X.returnOut hx hret hd hr) hQ
theorem own_mono {o : Outcome} {u : State} {k n k' n' : Nat} (h : FrameEnd s o u locs k n) (hk : k ≤ k') (hn : n ≤ n') : FrameEnd s o u locs k' n' := ⟨h.1, h.2.1, h.2.2.mono hk hn⟩
end Own
theorem own_eqI {args : Array Value} {s : State} {t : Term} {k : Int32} (h : (Cond.eq t (.int k)).value args s none s [] = some true) : t.eval args s none [] s = some (.int k) := by
  simp only [Cond.value, Term.eval] at h
  cases ht : t.eval args s none [] s with
  | none => simp [ht] at h
  | some x => cases x <;> simp [ht] at h ⊢; exact h
theorem own_staKeep {Z : State} {h h' : Heap} {C n d : String} {v : Value} {ws : List Addr} (F : Sta Z h C n d v) (K : Keep h h' ws) (q : ∀ x ∈ ws, ∀ cell : Cell, h[x]? = some cell → cell.vm.isStatics = false) : Sta Z h' C n d v := by
  obtain ⟨cf, i, k, f, st, cell, h1, h2, h3, h4, h5, h6, h7⟩ := F
  have hn : st ∉ ws := fun y => by have := q st y cell h5; rw [this] at h6; cases h6
  exact ⟨cf, i, k, f, st, cell, h1, h2, h3, h4, K.2.1 st cell h5 hn, h6, h7⟩
theorem own_plainE {Z : State} {h : Heap} {a : Addr} {C : String} (F : Exa Z h a C) : ∀ cell : Cell, h[a]? = some cell → cell.vm.isStatics = false := fun cell hc => by
  obtain ⟨c, _, h1, -, -, h4, -⟩ := F
  cases h1.symm.trans hc; exact h4
theorem own_plainV {Z : State} {h : Heap} {a : Addr} {k : ClassId} {ty : FieldType} {n : Int32} {vs : List Value} {d : Value} (F : Arv Z h a k ty n vs d) : ∀ cell : Cell, h[a]? = some cell → cell.vm.isStatics = false := fun cell hc => by
  obtain ⟨c, A, -⟩ := F
  cases A.1.symm.trans hc; exact A.plain
theorem d1_0 : decode method_2_code 0 = .ok (.iload_n 0, 1) := by decide +kernel
theorem d1_1 : decode method_2_code 1 = .ok (.ifCond .ne 7, 3) := by decide +kernel
theorem d1_4 : decode method_2_code 4 = .ok (.getstatic 7, 3) := by decide +kernel
theorem d1_7 : decode method_2_code 7 = .ok (.areturn, 1) := by decide +kernel
theorem d1_8 : decode method_2_code 8 = .ok (.iload_n 0, 1) := by decide +kernel
theorem d1_9 : decode method_2_code 9 = .ok (.iconst 1, 1) := by decide +kernel
theorem d1_10 : decode method_2_code 10 = .ok (.if_icmp .ne 7, 3) := by decide +kernel
theorem d1_13 : decode method_2_code 13 = .ok (.getstatic 13, 3) := by decide +kernel
theorem d1_16 : decode method_2_code 16 = .ok (.areturn, 1) := by decide +kernel
theorem d1_17 : decode method_2_code 17 = .ok (.iload_n 0, 1) := by decide +kernel
theorem d1_18 : decode method_2_code 18 = .ok (.iconst 2, 1) := by decide +kernel
theorem d1_19 : decode method_2_code 19 = .ok (.if_icmp .ne 7, 3) := by decide +kernel
theorem d1_22 : decode method_2_code 22 = .ok (.getstatic 16, 3) := by decide +kernel
theorem d1_25 : decode method_2_code 25 = .ok (.areturn, 1) := by decide +kernel
theorem d1_26 : decode method_2_code 26 = .ok (.iload_n 0, 1) := by decide +kernel
theorem d1_27 : decode method_2_code 27 = .ok (.iconst 3, 1) := by decide +kernel
theorem d1_28 : decode method_2_code 28 = .ok (.if_icmp .ne 7, 3) := by decide +kernel
theorem d1_31 : decode method_2_code 31 = .ok (.getstatic 19, 3) := by decide +kernel
theorem d1_34 : decode method_2_code 34 = .ok (.areturn, 1) := by decide +kernel
theorem d1_35 : decode method_2_code 35 = .ok (.iload_n 0, 1) := by decide +kernel
theorem d1_36 : decode method_2_code 36 = .ok (.iconst 4, 1) := by decide +kernel
theorem d1_37 : decode method_2_code 37 = .ok (.if_icmp .ne 7, 3) := by decide +kernel
theorem d1_40 : decode method_2_code 40 = .ok (.getstatic 22, 3) := by decide +kernel
theorem d1_43 : decode method_2_code 43 = .ok (.areturn, 1) := by decide +kernel
theorem d1_44 : decode method_2_code 44 = .ok (.iload_n 0, 1) := by decide +kernel
theorem d1_45 : decode method_2_code 45 = .ok (.iconst 5, 1) := by decide +kernel
theorem d1_46 : decode method_2_code 46 = .ok (.if_icmp .ne 7, 3) := by decide +kernel
theorem d1_49 : decode method_2_code 49 = .ok (.getstatic 25, 3) := by decide +kernel
theorem d1_52 : decode method_2_code 52 = .ok (.areturn, 1) := by decide +kernel
theorem d1_53 : decode method_2_code 53 = .ok (.iload_n 0, 1) := by decide +kernel
theorem d1_54 : decode method_2_code 54 = .ok (.bipush 6, 2) := by decide +kernel
theorem d1_56 : decode method_2_code 56 = .ok (.if_icmp .ne 7, 3) := by decide +kernel
theorem d1_59 : decode method_2_code 59 = .ok (.getstatic 28, 3) := by decide +kernel
theorem d1_62 : decode method_2_code 62 = .ok (.areturn, 1) := by decide +kernel
theorem d1_63 : decode method_2_code 63 = .ok (.getstatic 31, 3) := by decide +kernel
theorem d1_66 : decode method_2_code 66 = .ok (.areturn, 1) := by decide +kernel
theorem pn_0 : plainName "com/example/lockstep/lockstep/protocol/StatementKindRefusedPinLaw" = true := by first | (simp [plainName, overriddenIn]; done) | decide +kernel
theorem ef_1 (m : MethodId) (i1 : Int32)  : entryFrame m #[(.int i1)] 1 = mkF m 0 #[.val (.int i1)] [] := by
  first | (simp [entryFrame, mkF, argsToLocals, Value.category]; done) | rfl
def F1 (i1 : Int32) (z_BEGIN : Addr) (z_NOT_REPLICATED : Addr) (z_TWO_PHASE_COMMIT : Addr) (z_UTILITY : Addr) (z_OTHER : Addr) (z_ROLLBACK : Addr) (z_COMMIT : Addr) (z_MAINTENANCE : Addr) : Addr := (if i1 = (0 : Int32) then z_BEGIN else (if i1 = (1 : Int32) then z_COMMIT else (if i1 = (2 : Int32) then z_ROLLBACK else (if i1 = (3 : Int32) then z_UTILITY else (if i1 = (4 : Int32) then z_MAINTENANCE else (if i1 = (5 : Int32) then z_NOT_REPLICATED else (if i1 = (6 : Int32) then z_TWO_PHASE_COMMIT else z_OTHER)))))))
def Q1 (Z : State) (i1 : Int32) (z_BEGIN : Addr) (z_NOT_REPLICATED : Addr) (z_TWO_PHASE_COMMIT : Addr) (z_UTILITY : Addr) (z_OTHER : Addr) (z_ROLLBACK : Addr) (z_COMMIT : Addr) (z_MAINTENANCE : Addr) (h0 : Heap) (n0 : Nat) (v : Option Value) (h : Heap) (L : List Loc) : Prop := v = some (.ref (F1 i1 z_BEGIN z_NOT_REPLICATED z_TWO_PHASE_COMMIT z_UTILITY z_OTHER z_ROLLBACK z_COMMIT z_MAINTENANCE)) ∧ Fr n0 L ∧ h = h0
set_option maxRecDepth 65536 in
set_option maxHeartbeats 40000000 in
theorem rm1 (l : Launch) (Z : State) (a0 : Array Value) (hw : ∀ d ∈ tables_1, d.before a0 Z = true) (ws : List Jvm.Cond) (i1 : Int32) (z_BEGIN : Addr) (z_NOT_REPLICATED : Addr) (z_TWO_PHASE_COMMIT : Addr) (z_UTILITY : Addr) (z_OTHER : Addr) (z_ROLLBACK : Addr) (z_COMMIT : Addr) (z_MAINTENANCE : Addr) (h0 : Heap) (n0 : Nat) (Z0 : n0 ≤ h0.size) (f0 : Sta Z h0 "com/example/lockstep/lockstep/protocol/Statement$Kind" "BEGIN" "Lcom/example/lockstep/lockstep/protocol/Statement$Kind;" (.ref z_BEGIN)) (f1 : Sta Z h0 "com/example/lockstep/lockstep/protocol/Statement$Kind" "NOT_REPLICATED" "Lcom/example/lockstep/lockstep/protocol/Statement$Kind;" (.ref z_NOT_REPLICATED)) (f2 : Sta Z h0 "com/example/lockstep/lockstep/protocol/Statement$Kind" "TWO_PHASE_COMMIT" "Lcom/example/lockstep/lockstep/protocol/Statement$Kind;" (.ref z_TWO_PHASE_COMMIT)) (f3 : Sta Z h0 "com/example/lockstep/lockstep/protocol/Statement$Kind" "UTILITY" "Lcom/example/lockstep/lockstep/protocol/Statement$Kind;" (.ref z_UTILITY)) (f4 : Sta Z h0 "com/example/lockstep/lockstep/protocol/Statement$Kind" "OTHER" "Lcom/example/lockstep/lockstep/protocol/Statement$Kind;" (.ref z_OTHER)) (f5 : Sta Z h0 "com/example/lockstep/lockstep/protocol/Statement$Kind" "ROLLBACK" "Lcom/example/lockstep/lockstep/protocol/Statement$Kind;" (.ref z_ROLLBACK)) (f6 : Sta Z h0 "com/example/lockstep/lockstep/protocol/Statement$Kind" "COMMIT" "Lcom/example/lockstep/lockstep/protocol/Statement$Kind;" (.ref z_COMMIT)) (f7 : Sta Z h0 "com/example/lockstep/lockstep/protocol/Statement$Kind" "MAINTENANCE" "Lcom/example/lockstep/lockstep/protocol/Statement$Kind;" (.ref z_MAINTENANCE)) :
    MetFree l (⟨"com/example/lockstep/lockstep/protocol/StatementKindRefusedPinLaw", "pick", "(I)Lcom/example/lockstep/lockstep/protocol/Statement$Kind;"⟩ : MethodName) (head1 (Jvm.Cond.code (⟨"com/example/lockstep/lockstep/protocol/StatementKindRefusedPinLaw", "pick", "(I)Lcom/example/lockstep/lockstep/protocol/Statement$Kind;"⟩ : MethodName) method_2_code 1 (some (.object "com/example/lockstep/lockstep/protocol/Statement$Kind")) :: ws) ({ frames := 0, cells := 0, slots := 0, locals := 0 } : Room)) (fun a U => a = #[(.int i1)] ∧ Z.Warmed39 U.vm ∧ U.heap = h0) (fun _ _ _ _ _ => True) (fun _ U o U' => ∃ v L, o = .returned v ∧ Q1 Z i1 z_BEGIN z_NOT_REPLICATED z_TWO_PHASE_COMMIT z_UTILITY z_OTHER z_ROLLBACK z_COMMIT z_MAINTENANCE h0 n0 v U'.heap L ∧ FrameEnd U o U' L ({ frames := 0, cells := 0, slots := 0, locals := 0 } : Room).cells ({ frames := 0, cells := 0, slots := 0, locals := 0 } : Room).slots) := by
  refine MetFree.of_bodySF (plainFor_of_name pn_0) hisR ?_
  intro p e s m args below meth c s₁ Bd hml0 hP hK
  obtain ⟨rfl, hZ, hh⟩ := hP
  have hx := Bd.exec
  have hby := Bd.bytes
  have hml : c.maxLocals = 1 := hml0
  have hown : s.vm.findClass "com/example/lockstep/lockstep/protocol/StatementKindRefusedPinLaw" = some m.cls := findClass_of_methodNamed Bd.named
  have hnm := (name_of_methodNamed Bd.named Bd.method).1
  have X0 : Stand p l e ({ frames := 0, cells := 0, slots := 0, locals := 0 } : Room) s m #[(.int i1)] below meth c s₁ [] 0 0 := Stand.of_body Bd
  have e0 : s₁.heap = h0 := by rw [← hh, Bd.state]; rfl
  have N0 := Fr.nil n0
  suffices H : ∀ Qo : Outcome → State → Prop, (∀ (v : Option Value) (u : State) (L : List Loc), Q1 Z i1 z_BEGIN z_NOT_REPLICATED z_TWO_PHASE_COMMIT z_UTILITY z_OTHER z_ROLLBACK z_COMMIT z_MAINTENANCE h0 n0 v u.heap L → FrameEnd s (.returned v) u L ({ frames := 0, cells := 0, slots := 0, locals := 0 } : Room).cells ({ frames := 0, cells := 0, slots := 0, locals := 0 } : Room).slots → Qo (.returned v) u) → Go p e below Qo s₁ (mkF m 0 #[.val (.int i1)] []) from
    Go.cast (ef_1 m i1) (H _ fun v u L h1 h2 => ⟨v, L, rfl, h1, h2⟩)
  intro Qo hQo
  show Go p e below Qo s₁ (mkF m 0 #[.val (.int i1)] [])
  refine Go.of (fun t k => XS.iloadN X0.here hx rfl (hb hby d1_0) rfl  k) ?_
  show Go p e below Qo s₁ (mkF m 1 #[.val (.int i1)] [(.int i1)])
  by_cases hc1_1 : i1 = (0 : Int32)
  · refine Go.of (fun t k => XS.ifNo X0.here hx rfl (hb hby d1_1) rfl ((if0 _ _).trans (teq hc1_1).2) k) ?_
    show Go p e below Qo s₁ (mkF m 4 #[.val (.int i1)] [])
    obtain ⟨T2, X2, e2, st2⟩ := getS X0 hx hZ (host := "") hown (hw _ (List.mem_of_getElem? (i := 4) rfl)) Via.refl e0 f0 (g := (mkF m 4 #[.val (.int i1)] [])) rfl (hb hby d1_4)
    refine Go.of st2 ?_
    show Go p e below Qo T2 (mkF m 7 #[.val (.int i1)] [(.ref z_BEGIN)])
    exact own_retW X2 hx Bd.notSynchronized Bd.returns rfl (Or.inr (Or.inr (Or.inr (Or.inr ⟨rfl, rfl, rfl⟩)))) (hb hby d1_7) (fun u hu hF => hQo _ _ _ ⟨by rw [show (F1 i1 z_BEGIN z_NOT_REPLICATED z_TWO_PHASE_COMMIT z_UTILITY z_OTHER z_ROLLBACK z_COMMIT z_MAINTENANCE) = z_BEGIN from by rw [F1, if_pos hc1_1]], N0, by rw [hu, e2]⟩ (own_mono hF (by decide) (by decide)))
  · refine Go.of (fun t k => XS.ifYes X0.here hx rfl (pc0 := 1) (pc' := 8) rfl (hb hby d1_1) rfl ((if0 _ _).trans (feq hc1_1).2) (by decide) (by decide) k) ?_
    show Go p e below Qo s₁ (mkF m 8 #[.val (.int i1)] [])
    refine Go.of (fun t k => XS.iloadN X0.here hx rfl (hb hby d1_8) rfl  k) ?_
    show Go p e below Qo s₁ (mkF m 9 #[.val (.int i1)] [(.int i1)])
    refine Go.of (fun t k => XS.iconst X0.here hx rfl (hb hby d1_9) k) ?_
    show Go p e below Qo s₁ (mkF m 10 #[.val (.int i1)] [(.int (1 : Int32)), (.int i1)])
    by_cases hc10_3 : i1 = (1 : Int32)
    · refine Go.of (fun t k => XS.icmpNo X0.here hx rfl (hb hby d1_10) rfl (teq hc10_3).2 k) ?_
      show Go p e below Qo s₁ (mkF m 13 #[.val (.int i1)] [])
      obtain ⟨T4, X4, e4, st4⟩ := getS X0 hx hZ (host := "") hown (hw _ (List.mem_of_getElem? (i := 26) rfl)) Via.refl e0 f6 (g := (mkF m 13 #[.val (.int i1)] [])) rfl (hb hby d1_13)
      refine Go.of st4 ?_
      show Go p e below Qo T4 (mkF m 16 #[.val (.int i1)] [(.ref z_COMMIT)])
      exact own_retW X4 hx Bd.notSynchronized Bd.returns rfl (Or.inr (Or.inr (Or.inr (Or.inr ⟨rfl, rfl, rfl⟩)))) (hb hby d1_16) (fun u hu hF => hQo _ _ _ ⟨by rw [show (F1 i1 z_BEGIN z_NOT_REPLICATED z_TWO_PHASE_COMMIT z_UTILITY z_OTHER z_ROLLBACK z_COMMIT z_MAINTENANCE) = z_COMMIT from by rw [F1, if_neg hc1_1, if_pos hc10_3]], N0, by rw [hu, e4]⟩ (own_mono hF (by decide) (by decide)))
    · refine Go.of (fun t k => XS.icmpYes X0.here hx rfl (pc0 := 10) (pc' := 17) rfl (hb hby d1_10) rfl (feq hc10_3).2 (by decide) (by decide) k) ?_
      show Go p e below Qo s₁ (mkF m 17 #[.val (.int i1)] [])
      refine Go.of (fun t k => XS.iloadN X0.here hx rfl (hb hby d1_17) rfl  k) ?_
      show Go p e below Qo s₁ (mkF m 18 #[.val (.int i1)] [(.int i1)])
      refine Go.of (fun t k => XS.iconst X0.here hx rfl (hb hby d1_18) k) ?_
      show Go p e below Qo s₁ (mkF m 19 #[.val (.int i1)] [(.int (2 : Int32)), (.int i1)])
      by_cases hc19_5 : i1 = (2 : Int32)
      · refine Go.of (fun t k => XS.icmpNo X0.here hx rfl (hb hby d1_19) rfl (teq hc19_5).2 k) ?_
        show Go p e below Qo s₁ (mkF m 22 #[.val (.int i1)] [])
        obtain ⟨T6, X6, e6, st6⟩ := getS X0 hx hZ (host := "") hown (hw _ (List.mem_of_getElem? (i := 24) rfl)) Via.refl e0 f5 (g := (mkF m 22 #[.val (.int i1)] [])) rfl (hb hby d1_22)
        refine Go.of st6 ?_
        show Go p e below Qo T6 (mkF m 25 #[.val (.int i1)] [(.ref z_ROLLBACK)])
        exact own_retW X6 hx Bd.notSynchronized Bd.returns rfl (Or.inr (Or.inr (Or.inr (Or.inr ⟨rfl, rfl, rfl⟩)))) (hb hby d1_25) (fun u hu hF => hQo _ _ _ ⟨by rw [show (F1 i1 z_BEGIN z_NOT_REPLICATED z_TWO_PHASE_COMMIT z_UTILITY z_OTHER z_ROLLBACK z_COMMIT z_MAINTENANCE) = z_ROLLBACK from by rw [F1, if_neg hc1_1, if_neg hc10_3, if_pos hc19_5]], N0, by rw [hu, e6]⟩ (own_mono hF (by decide) (by decide)))
      · refine Go.of (fun t k => XS.icmpYes X0.here hx rfl (pc0 := 19) (pc' := 26) rfl (hb hby d1_19) rfl (feq hc19_5).2 (by decide) (by decide) k) ?_
        show Go p e below Qo s₁ (mkF m 26 #[.val (.int i1)] [])
        refine Go.of (fun t k => XS.iloadN X0.here hx rfl (hb hby d1_26) rfl  k) ?_
        show Go p e below Qo s₁ (mkF m 27 #[.val (.int i1)] [(.int i1)])
        refine Go.of (fun t k => XS.iconst X0.here hx rfl (hb hby d1_27) k) ?_
        show Go p e below Qo s₁ (mkF m 28 #[.val (.int i1)] [(.int (3 : Int32)), (.int i1)])
        by_cases hc28_7 : i1 = (3 : Int32)
        · refine Go.of (fun t k => XS.icmpNo X0.here hx rfl (hb hby d1_28) rfl (teq hc28_7).2 k) ?_
          show Go p e below Qo s₁ (mkF m 31 #[.val (.int i1)] [])
          obtain ⟨T8, X8, e8, st8⟩ := getS X0 hx hZ (host := "") hown (hw _ (List.mem_of_getElem? (i := 19) rfl)) Via.refl e0 f3 (g := (mkF m 31 #[.val (.int i1)] [])) rfl (hb hby d1_31)
          refine Go.of st8 ?_
          show Go p e below Qo T8 (mkF m 34 #[.val (.int i1)] [(.ref z_UTILITY)])
          exact own_retW X8 hx Bd.notSynchronized Bd.returns rfl (Or.inr (Or.inr (Or.inr (Or.inr ⟨rfl, rfl, rfl⟩)))) (hb hby d1_34) (fun u hu hF => hQo _ _ _ ⟨by rw [show (F1 i1 z_BEGIN z_NOT_REPLICATED z_TWO_PHASE_COMMIT z_UTILITY z_OTHER z_ROLLBACK z_COMMIT z_MAINTENANCE) = z_UTILITY from by rw [F1, if_neg hc1_1, if_neg hc10_3, if_neg hc19_5, if_pos hc28_7]], N0, by rw [hu, e8]⟩ (own_mono hF (by decide) (by decide)))
        · refine Go.of (fun t k => XS.icmpYes X0.here hx rfl (pc0 := 28) (pc' := 35) rfl (hb hby d1_28) rfl (feq hc28_7).2 (by decide) (by decide) k) ?_
          show Go p e below Qo s₁ (mkF m 35 #[.val (.int i1)] [])
          refine Go.of (fun t k => XS.iloadN X0.here hx rfl (hb hby d1_35) rfl  k) ?_
          show Go p e below Qo s₁ (mkF m 36 #[.val (.int i1)] [(.int i1)])
          refine Go.of (fun t k => XS.iconst X0.here hx rfl (hb hby d1_36) k) ?_
          show Go p e below Qo s₁ (mkF m 37 #[.val (.int i1)] [(.int (4 : Int32)), (.int i1)])
          by_cases hc37_9 : i1 = (4 : Int32)
          · refine Go.of (fun t k => XS.icmpNo X0.here hx rfl (hb hby d1_37) rfl (teq hc37_9).2 k) ?_
            show Go p e below Qo s₁ (mkF m 40 #[.val (.int i1)] [])
            obtain ⟨T10, X10, e10, st10⟩ := getS X0 hx hZ (host := "") hown (hw _ (List.mem_of_getElem? (i := 28) rfl)) Via.refl e0 f7 (g := (mkF m 40 #[.val (.int i1)] [])) rfl (hb hby d1_40)
            refine Go.of st10 ?_
            show Go p e below Qo T10 (mkF m 43 #[.val (.int i1)] [(.ref z_MAINTENANCE)])
            exact own_retW X10 hx Bd.notSynchronized Bd.returns rfl (Or.inr (Or.inr (Or.inr (Or.inr ⟨rfl, rfl, rfl⟩)))) (hb hby d1_43) (fun u hu hF => hQo _ _ _ ⟨by rw [show (F1 i1 z_BEGIN z_NOT_REPLICATED z_TWO_PHASE_COMMIT z_UTILITY z_OTHER z_ROLLBACK z_COMMIT z_MAINTENANCE) = z_MAINTENANCE from by rw [F1, if_neg hc1_1, if_neg hc10_3, if_neg hc19_5, if_neg hc28_7, if_pos hc37_9]], N0, by rw [hu, e10]⟩ (own_mono hF (by decide) (by decide)))
          · refine Go.of (fun t k => XS.icmpYes X0.here hx rfl (pc0 := 37) (pc' := 44) rfl (hb hby d1_37) rfl (feq hc37_9).2 (by decide) (by decide) k) ?_
            show Go p e below Qo s₁ (mkF m 44 #[.val (.int i1)] [])
            refine Go.of (fun t k => XS.iloadN X0.here hx rfl (hb hby d1_44) rfl  k) ?_
            show Go p e below Qo s₁ (mkF m 45 #[.val (.int i1)] [(.int i1)])
            refine Go.of (fun t k => XS.iconst X0.here hx rfl (hb hby d1_45) k) ?_
            show Go p e below Qo s₁ (mkF m 46 #[.val (.int i1)] [(.int (5 : Int32)), (.int i1)])
            by_cases hc46_11 : i1 = (5 : Int32)
            · refine Go.of (fun t k => XS.icmpNo X0.here hx rfl (hb hby d1_46) rfl (teq hc46_11).2 k) ?_
              show Go p e below Qo s₁ (mkF m 49 #[.val (.int i1)] [])
              obtain ⟨T12, X12, e12, st12⟩ := getS X0 hx hZ (host := "") hown (hw _ (List.mem_of_getElem? (i := 30) rfl)) Via.refl e0 f1 (g := (mkF m 49 #[.val (.int i1)] [])) rfl (hb hby d1_49)
              refine Go.of st12 ?_
              show Go p e below Qo T12 (mkF m 52 #[.val (.int i1)] [(.ref z_NOT_REPLICATED)])
              exact own_retW X12 hx Bd.notSynchronized Bd.returns rfl (Or.inr (Or.inr (Or.inr (Or.inr ⟨rfl, rfl, rfl⟩)))) (hb hby d1_52) (fun u hu hF => hQo _ _ _ ⟨by rw [show (F1 i1 z_BEGIN z_NOT_REPLICATED z_TWO_PHASE_COMMIT z_UTILITY z_OTHER z_ROLLBACK z_COMMIT z_MAINTENANCE) = z_NOT_REPLICATED from by rw [F1, if_neg hc1_1, if_neg hc10_3, if_neg hc19_5, if_neg hc28_7, if_neg hc37_9, if_pos hc46_11]], N0, by rw [hu, e12]⟩ (own_mono hF (by decide) (by decide)))
            · refine Go.of (fun t k => XS.icmpYes X0.here hx rfl (pc0 := 46) (pc' := 53) rfl (hb hby d1_46) rfl (feq hc46_11).2 (by decide) (by decide) k) ?_
              show Go p e below Qo s₁ (mkF m 53 #[.val (.int i1)] [])
              refine Go.of (fun t k => XS.iloadN X0.here hx rfl (hb hby d1_53) rfl  k) ?_
              show Go p e below Qo s₁ (mkF m 54 #[.val (.int i1)] [(.int i1)])
              refine Go.of (fun t k => XS.bipush X0.here hx rfl (hb hby d1_54) k) ?_
              show Go p e below Qo s₁ (mkF m 56 #[.val (.int i1)] [(.int (6 : Int32)), (.int i1)])
              by_cases hc56_13 : i1 = (6 : Int32)
              · refine Go.of (fun t k => XS.icmpNo X0.here hx rfl (hb hby d1_56) rfl (teq hc56_13).2 k) ?_
                show Go p e below Qo s₁ (mkF m 59 #[.val (.int i1)] [])
                obtain ⟨T14, X14, e14, st14⟩ := getS X0 hx hZ (host := "") hown (hw _ (List.mem_of_getElem? (i := 21) rfl)) Via.refl e0 f2 (g := (mkF m 59 #[.val (.int i1)] [])) rfl (hb hby d1_59)
                refine Go.of st14 ?_
                show Go p e below Qo T14 (mkF m 62 #[.val (.int i1)] [(.ref z_TWO_PHASE_COMMIT)])
                exact own_retW X14 hx Bd.notSynchronized Bd.returns rfl (Or.inr (Or.inr (Or.inr (Or.inr ⟨rfl, rfl, rfl⟩)))) (hb hby d1_62) (fun u hu hF => hQo _ _ _ ⟨by rw [show (F1 i1 z_BEGIN z_NOT_REPLICATED z_TWO_PHASE_COMMIT z_UTILITY z_OTHER z_ROLLBACK z_COMMIT z_MAINTENANCE) = z_TWO_PHASE_COMMIT from by rw [F1, if_neg hc1_1, if_neg hc10_3, if_neg hc19_5, if_neg hc28_7, if_neg hc37_9, if_neg hc46_11, if_pos hc56_13]], N0, by rw [hu, e14]⟩ (own_mono hF (by decide) (by decide)))
              · refine Go.of (fun t k => XS.icmpYes X0.here hx rfl (pc0 := 56) (pc' := 63) rfl (hb hby d1_56) rfl (feq hc56_13).2 (by decide) (by decide) k) ?_
                show Go p e below Qo s₁ (mkF m 63 #[.val (.int i1)] [])
                obtain ⟨T15, X15, e15, st15⟩ := getS X0 hx hZ (host := "") hown (hw _ (List.mem_of_getElem? (i := 22) rfl)) Via.refl e0 f4 (g := (mkF m 63 #[.val (.int i1)] [])) rfl (hb hby d1_63)
                refine Go.of st15 ?_
                show Go p e below Qo T15 (mkF m 66 #[.val (.int i1)] [(.ref z_OTHER)])
                exact own_retW X15 hx Bd.notSynchronized Bd.returns rfl (Or.inr (Or.inr (Or.inr (Or.inr ⟨rfl, rfl, rfl⟩)))) (hb hby d1_66) (fun u hu hF => hQo _ _ _ ⟨by rw [show (F1 i1 z_BEGIN z_NOT_REPLICATED z_TWO_PHASE_COMMIT z_UTILITY z_OTHER z_ROLLBACK z_COMMIT z_MAINTENANCE) = z_OTHER from by rw [F1, if_neg hc1_1, if_neg hc10_3, if_neg hc19_5, if_neg hc28_7, if_neg hc37_9, if_neg hc46_11, if_neg hc56_13]], N0, by rw [hu, e15]⟩ (own_mono hF (by decide) (by decide)))
theorem d2_0 : decode prog_75_method_4_code 0 = .ok (.aload_n 0, 1) := by decide +kernel
theorem d2_1 : decode prog_75_method_4_code 1 = .ok (.getstatic 19, 3) := by decide +kernel
theorem d2_4 : decode prog_75_method_4_code 4 = .ok (.if_acmp .eq 10, 3) := by decide +kernel
theorem d2_7 : decode prog_75_method_4_code 7 = .ok (.aload_n 0, 1) := by decide +kernel
theorem d2_8 : decode prog_75_method_4_code 8 = .ok (.getstatic 22, 3) := by decide +kernel
theorem d2_11 : decode prog_75_method_4_code 11 = .ok (.if_acmp .ne 7, 3) := by decide +kernel
theorem d2_14 : decode prog_75_method_4_code 14 = .ok (.iconst 1, 1) := by decide +kernel
theorem d2_15 : decode prog_75_method_4_code 15 = .ok (.goto 4, 3) := by decide +kernel
theorem d2_18 : decode prog_75_method_4_code 18 = .ok (.iconst 0, 1) := by decide +kernel
theorem d2_19 : decode prog_75_method_4_code 19 = .ok (.ireturn, 1) := by decide +kernel
theorem pn_1 : plainName "com/example/lockstep/lockstep/protocol/Statement$Kind" = true := by first | (simp [plainName, overriddenIn]; done) | decide +kernel
theorem ef_2 (m : MethodId) (r1 : Addr)  : entryFrame m #[(.ref r1)] 1 = mkF m 0 #[.val (.ref r1)] [] := by
  first | (simp [entryFrame, mkF, argsToLocals, Value.category]; done) | rfl
def F2 (r1 : Addr) (z_NOT_REPLICATED : Addr) (z_TWO_PHASE_COMMIT : Addr) : Int32 := (if r1 = z_NOT_REPLICATED then (nar .boolean (1 : Int32)) else (if r1 = z_TWO_PHASE_COMMIT then (nar .boolean (1 : Int32)) else (nar .boolean (0 : Int32))))
def Q2 (Z : State) (r1 : Addr) (z_NOT_REPLICATED : Addr) (z_TWO_PHASE_COMMIT : Addr) (h0 : Heap) (n0 : Nat) (v : Option Value) (h : Heap) (L : List Loc) : Prop := v = some (.int (F2 r1 z_NOT_REPLICATED z_TWO_PHASE_COMMIT)) ∧ Fr n0 L ∧ h = h0
set_option maxRecDepth 65536 in
set_option maxHeartbeats 40000000 in
theorem rm2 (l : Launch) (Z : State) (a0 : Array Value) (hw : ∀ d ∈ tables_1, d.before a0 Z = true) (ws : List Jvm.Cond) (r1 : Addr) (z_NOT_REPLICATED : Addr) (z_TWO_PHASE_COMMIT : Addr) (h0 : Heap) (n0 : Nat) (Z0 : n0 ≤ h0.size) (f0 : Sta Z h0 "com/example/lockstep/lockstep/protocol/Statement$Kind" "NOT_REPLICATED" "Lcom/example/lockstep/lockstep/protocol/Statement$Kind;" (.ref z_NOT_REPLICATED)) (f1 : Sta Z h0 "com/example/lockstep/lockstep/protocol/Statement$Kind" "TWO_PHASE_COMMIT" "Lcom/example/lockstep/lockstep/protocol/Statement$Kind;" (.ref z_TWO_PHASE_COMMIT)) :
    MetFree l (⟨"com/example/lockstep/lockstep/protocol/Statement$Kind", "refused", "()Z"⟩ : MethodName) (head1 (Jvm.Cond.code (⟨"com/example/lockstep/lockstep/protocol/Statement$Kind", "refused", "()Z"⟩ : MethodName) prog_75_method_4_code 1 (some .boolean) :: ws) ({ frames := 0, cells := 0, slots := 0, locals := 0 } : Room)) (fun a U => a = #[(.ref r1)] ∧ Z.Warmed39 U.vm ∧ U.heap = h0) (fun _ _ _ _ _ => True) (fun _ U o U' => ∃ v L, o = .returned v ∧ Q2 Z r1 z_NOT_REPLICATED z_TWO_PHASE_COMMIT h0 n0 v U'.heap L ∧ FrameEnd U o U' L ({ frames := 0, cells := 0, slots := 0, locals := 0 } : Room).cells ({ frames := 0, cells := 0, slots := 0, locals := 0 } : Room).slots) := by
  refine MetFree.of_bodySF (plainFor_of_name pn_1) hisR ?_
  intro p e s m args below meth c s₁ Bd hml0 hP hK
  obtain ⟨rfl, hZ, hh⟩ := hP
  have hx := Bd.exec
  have hby := Bd.bytes
  have hml : c.maxLocals = 1 := hml0
  have hown : s.vm.findClass "com/example/lockstep/lockstep/protocol/Statement$Kind" = some m.cls := findClass_of_methodNamed Bd.named
  have hnm := (name_of_methodNamed Bd.named Bd.method).1
  have X0 : Stand p l e ({ frames := 0, cells := 0, slots := 0, locals := 0 } : Room) s m #[(.ref r1)] below meth c s₁ [] 0 0 := Stand.of_body Bd
  have e0 : s₁.heap = h0 := by rw [← hh, Bd.state]; rfl
  have N0 := Fr.nil n0
  suffices H : ∀ Qo : Outcome → State → Prop, (∀ (v : Option Value) (u : State) (L : List Loc), Q2 Z r1 z_NOT_REPLICATED z_TWO_PHASE_COMMIT h0 n0 v u.heap L → FrameEnd s (.returned v) u L ({ frames := 0, cells := 0, slots := 0, locals := 0 } : Room).cells ({ frames := 0, cells := 0, slots := 0, locals := 0 } : Room).slots → Qo (.returned v) u) → Go p e below Qo s₁ (mkF m 0 #[.val (.ref r1)] []) from
    Go.cast (ef_2 m r1) (H _ fun v u L h1 h2 => ⟨v, L, rfl, h1, h2⟩)
  intro Qo hQo
  show Go p e below Qo s₁ (mkF m 0 #[.val (.ref r1)] [])
  refine Go.of (fun t k => XS.aloadN X0.here hx rfl (hb hby d2_0) rfl rfl k) ?_
  show Go p e below Qo s₁ (mkF m 1 #[.val (.ref r1)] [(.ref r1)])
  obtain ⟨T1, X1, e1, st1⟩ := getS X0 hx hZ (host := "") hown (hw _ (List.mem_of_getElem? (i := 12) rfl)) Via.refl e0 f0 (g := (mkF m 1 #[.val (.ref r1)] [(.ref r1)])) rfl (hb hby d2_1)
  refine Go.of st1 ?_
  show Go p e below Qo T1 (mkF m 4 #[.val (.ref r1)] [(.ref z_NOT_REPLICATED), (.ref r1)])
  by_cases hc4_2 : r1 = z_NOT_REPLICATED
  · refine Go.of (fun t k => Jvm.RoadKit.acmp (g := (mkF m 4 #[.val (.ref r1)] [(.ref z_NOT_REPLICATED), (.ref r1)])) X1 hx rfl rfl rfl (pc0 := 4) (pc' := 14) (same := true) rfl (hb hby d2_4) rfl (decide_eq_true (congrArg Value.ref hc4_2)) (by decide) (by decide) k) ?_
    show Go p e below Qo T1 (mkF m 14 #[.val (.ref r1)] [])
    refine Go.of (fun t k => XS.iconst X1.here hx rfl (hb hby d2_14) k) ?_
    show Go p e below Qo T1 (mkF m 15 #[.val (.ref r1)] [(.int (1 : Int32))])
    refine Go.of (fun t k => XS.goto X1.here hx rfl (pc0 := 15) (pc' := 19) rfl (hb hby d2_15) (by decide) (by decide) k) ?_
    show Go p e below Qo T1 (mkF m 19 #[.val (.ref r1)] [(.int (1 : Int32))])
    exact own_retN X1 hx Bd.notSynchronized (t := .boolean) Bd.returns (by simp) (hb hby d2_19) (fun u hu hF => hQo _ _ _ ⟨by rw [show (F2 r1 z_NOT_REPLICATED z_TWO_PHASE_COMMIT) = nar .boolean (1 : Int32) from by rw [F2, if_pos hc4_2]], N0, by rw [hu, e1]⟩ (own_mono hF (by decide) (by decide)))
  · refine Go.of (fun t k => Jvm.RoadKit.acmp (g := (mkF m 4 #[.val (.ref r1)] [(.ref z_NOT_REPLICATED), (.ref r1)])) X1 hx rfl rfl rfl (pc0 := 4) (pc' := 7) (same := false) rfl (hb hby d2_4) rfl (decide_eq_false fun q => hc4_2 (Value.ref.inj q)) (by decide) (by decide) k) ?_
    show Go p e below Qo T1 (mkF m 7 #[.val (.ref r1)] [])
    refine Go.of (fun t k => XS.aloadN X1.here hx rfl (hb hby d2_7) rfl rfl k) ?_
    show Go p e below Qo T1 (mkF m 8 #[.val (.ref r1)] [(.ref r1)])
    obtain ⟨T3, X3, e3, st3⟩ := getS X1 hx hZ (host := "") hown (hw _ (List.mem_of_getElem? (i := 14) rfl)) Via.refl e1 f1 (g := (mkF m 8 #[.val (.ref r1)] [(.ref r1)])) rfl (hb hby d2_8)
    refine Go.of st3 ?_
    show Go p e below Qo T3 (mkF m 11 #[.val (.ref r1)] [(.ref z_TWO_PHASE_COMMIT), (.ref r1)])
    by_cases hc11_4 : r1 = z_TWO_PHASE_COMMIT
    · refine Go.of (fun t k => Jvm.RoadKit.acmp (g := (mkF m 11 #[.val (.ref r1)] [(.ref z_TWO_PHASE_COMMIT), (.ref r1)])) X3 hx rfl rfl rfl (pc0 := 11) (pc' := 14) (same := true) rfl (hb hby d2_11) rfl (decide_eq_true (congrArg Value.ref hc11_4)) (by decide) (by decide) k) ?_
      show Go p e below Qo T3 (mkF m 14 #[.val (.ref r1)] [])
      refine Go.of (fun t k => XS.iconst X3.here hx rfl (hb hby d2_14) k) ?_
      show Go p e below Qo T3 (mkF m 15 #[.val (.ref r1)] [(.int (1 : Int32))])
      refine Go.of (fun t k => XS.goto X3.here hx rfl (pc0 := 15) (pc' := 19) rfl (hb hby d2_15) (by decide) (by decide) k) ?_
      show Go p e below Qo T3 (mkF m 19 #[.val (.ref r1)] [(.int (1 : Int32))])
      exact own_retN X3 hx Bd.notSynchronized (t := .boolean) Bd.returns (by simp) (hb hby d2_19) (fun u hu hF => hQo _ _ _ ⟨by rw [show (F2 r1 z_NOT_REPLICATED z_TWO_PHASE_COMMIT) = nar .boolean (1 : Int32) from by rw [F2, if_neg hc4_2, if_pos hc11_4]], N0, by rw [hu, e3]⟩ (own_mono hF (by decide) (by decide)))
    · refine Go.of (fun t k => Jvm.RoadKit.acmp (g := (mkF m 11 #[.val (.ref r1)] [(.ref z_TWO_PHASE_COMMIT), (.ref r1)])) X3 hx rfl rfl rfl (pc0 := 11) (pc' := 18) (same := false) rfl (hb hby d2_11) rfl (decide_eq_false fun q => hc11_4 (Value.ref.inj q)) (by decide) (by decide) k) ?_
      show Go p e below Qo T3 (mkF m 18 #[.val (.ref r1)] [])
      refine Go.of (fun t k => XS.iconst X3.here hx rfl (hb hby d2_18) k) ?_
      show Go p e below Qo T3 (mkF m 19 #[.val (.ref r1)] [(.int (0 : Int32))])
      exact own_retN X3 hx Bd.notSynchronized (t := .boolean) Bd.returns (by simp) (hb hby d2_19) (fun u hu hF => hQo _ _ _ ⟨by rw [show (F2 r1 z_NOT_REPLICATED z_TWO_PHASE_COMMIT) = nar .boolean (0 : Int32) from by rw [F2, if_neg hc4_2, if_neg hc11_4]], N0, by rw [hu, e3]⟩ (own_mono hF (by decide) (by decide)))
theorem d3_0 : decode method_3_code 0 = .ok (.iload_n 0, 1) := by decide +kernel
theorem d3_1 : decode method_3_code 1 = .ok (.iconst 5, 1) := by decide +kernel
theorem d3_2 : decode method_3_code 2 = .ok (.if_icmp .ne 5, 3) := by decide +kernel
theorem d3_5 : decode method_3_code 5 = .ok (.iconst 1, 1) := by decide +kernel
theorem d3_6 : decode method_3_code 6 = .ok (.ireturn, 1) := by decide +kernel
theorem d3_7 : decode method_3_code 7 = .ok (.iload_n 0, 1) := by decide +kernel
theorem d3_8 : decode method_3_code 8 = .ok (.bipush 6, 2) := by decide +kernel
theorem d3_10 : decode method_3_code 10 = .ok (.if_icmp .ne 5, 3) := by decide +kernel
theorem d3_13 : decode method_3_code 13 = .ok (.iconst 1, 1) := by decide +kernel
theorem d3_14 : decode method_3_code 14 = .ok (.ireturn, 1) := by decide +kernel
theorem d3_15 : decode method_3_code 15 = .ok (.iconst 0, 1) := by decide +kernel
theorem d3_16 : decode method_3_code 16 = .ok (.ireturn, 1) := by decide +kernel
theorem ef_3 (m : MethodId) (i1 : Int32)  : entryFrame m #[(.int i1)] 1 = mkF m 0 #[.val (.int i1)] [] := by
  first | (simp [entryFrame, mkF, argsToLocals, Value.category]; done) | rfl
def F3 (i1 : Int32) : Int32 := (if i1 = (5 : Int32) then (nar .boolean (1 : Int32)) else (if i1 = (6 : Int32) then (nar .boolean (1 : Int32)) else (nar .boolean (0 : Int32))))
def Q3 (Z : State) (i1 : Int32) (h0 : Heap) (n0 : Nat) (v : Option Value) (h : Heap) (L : List Loc) : Prop := v = some (.int (F3 i1)) ∧ Fr n0 L ∧ h = h0
set_option maxRecDepth 65536 in
set_option maxHeartbeats 40000000 in
theorem rm3 (l : Launch) (Z : State) (a0 : Array Value) (hw : ∀ d ∈ tables_1, d.before a0 Z = true) (ws : List Jvm.Cond) (i1 : Int32) (h0 : Heap) (n0 : Nat) (Z0 : n0 ≤ h0.size)  :
    MetFree l (⟨"com/example/lockstep/lockstep/protocol/StatementKindRefusedPinLaw", "documentedRefused", "(I)Z"⟩ : MethodName) (head1 (Jvm.Cond.code (⟨"com/example/lockstep/lockstep/protocol/StatementKindRefusedPinLaw", "documentedRefused", "(I)Z"⟩ : MethodName) method_3_code 1 (some .boolean) :: ws) ({ frames := 0, cells := 0, slots := 0, locals := 0 } : Room)) (fun a U => a = #[(.int i1)] ∧ Z.Warmed39 U.vm ∧ U.heap = h0) (fun _ _ _ _ _ => True) (fun _ U o U' => ∃ v L, o = .returned v ∧ Q3 Z i1 h0 n0 v U'.heap L ∧ FrameEnd U o U' L ({ frames := 0, cells := 0, slots := 0, locals := 0 } : Room).cells ({ frames := 0, cells := 0, slots := 0, locals := 0 } : Room).slots) := by
  refine MetFree.of_bodySF (plainFor_of_name pn_0) hisR ?_
  intro p e s m args below meth c s₁ Bd hml0 hP hK
  obtain ⟨rfl, hZ, hh⟩ := hP
  have hx := Bd.exec
  have hby := Bd.bytes
  have hml : c.maxLocals = 1 := hml0
  have hown : s.vm.findClass "com/example/lockstep/lockstep/protocol/StatementKindRefusedPinLaw" = some m.cls := findClass_of_methodNamed Bd.named
  have hnm := (name_of_methodNamed Bd.named Bd.method).1
  have X0 : Stand p l e ({ frames := 0, cells := 0, slots := 0, locals := 0 } : Room) s m #[(.int i1)] below meth c s₁ [] 0 0 := Stand.of_body Bd
  have e0 : s₁.heap = h0 := by rw [← hh, Bd.state]; rfl
  have N0 := Fr.nil n0
  suffices H : ∀ Qo : Outcome → State → Prop, (∀ (v : Option Value) (u : State) (L : List Loc), Q3 Z i1 h0 n0 v u.heap L → FrameEnd s (.returned v) u L ({ frames := 0, cells := 0, slots := 0, locals := 0 } : Room).cells ({ frames := 0, cells := 0, slots := 0, locals := 0 } : Room).slots → Qo (.returned v) u) → Go p e below Qo s₁ (mkF m 0 #[.val (.int i1)] []) from
    Go.cast (ef_3 m i1) (H _ fun v u L h1 h2 => ⟨v, L, rfl, h1, h2⟩)
  intro Qo hQo
  show Go p e below Qo s₁ (mkF m 0 #[.val (.int i1)] [])
  refine Go.of (fun t k => XS.iloadN X0.here hx rfl (hb hby d3_0) rfl  k) ?_
  show Go p e below Qo s₁ (mkF m 1 #[.val (.int i1)] [(.int i1)])
  refine Go.of (fun t k => XS.iconst X0.here hx rfl (hb hby d3_1) k) ?_
  show Go p e below Qo s₁ (mkF m 2 #[.val (.int i1)] [(.int (5 : Int32)), (.int i1)])
  by_cases hc2_1 : i1 = (5 : Int32)
  · refine Go.of (fun t k => XS.icmpNo X0.here hx rfl (hb hby d3_2) rfl (teq hc2_1).2 k) ?_
    show Go p e below Qo s₁ (mkF m 5 #[.val (.int i1)] [])
    refine Go.of (fun t k => XS.iconst X0.here hx rfl (hb hby d3_5) k) ?_
    show Go p e below Qo s₁ (mkF m 6 #[.val (.int i1)] [(.int (1 : Int32))])
    exact own_retN X0 hx Bd.notSynchronized (t := .boolean) Bd.returns (by simp) (hb hby d3_6) (fun u hu hF => hQo _ _ _ ⟨by rw [show (F3 i1) = nar .boolean (1 : Int32) from by rw [F3, if_pos hc2_1]], N0, by rw [hu, e0]⟩ (own_mono hF (by decide) (by decide)))
  · refine Go.of (fun t k => XS.icmpYes X0.here hx rfl (pc0 := 2) (pc' := 7) rfl (hb hby d3_2) rfl (feq hc2_1).2 (by decide) (by decide) k) ?_
    show Go p e below Qo s₁ (mkF m 7 #[.val (.int i1)] [])
    refine Go.of (fun t k => XS.iloadN X0.here hx rfl (hb hby d3_7) rfl  k) ?_
    show Go p e below Qo s₁ (mkF m 8 #[.val (.int i1)] [(.int i1)])
    refine Go.of (fun t k => XS.bipush X0.here hx rfl (hb hby d3_8) k) ?_
    show Go p e below Qo s₁ (mkF m 10 #[.val (.int i1)] [(.int (6 : Int32)), (.int i1)])
    by_cases hc10_2 : i1 = (6 : Int32)
    · refine Go.of (fun t k => XS.icmpNo X0.here hx rfl (hb hby d3_10) rfl (teq hc10_2).2 k) ?_
      show Go p e below Qo s₁ (mkF m 13 #[.val (.int i1)] [])
      refine Go.of (fun t k => XS.iconst X0.here hx rfl (hb hby d3_13) k) ?_
      show Go p e below Qo s₁ (mkF m 14 #[.val (.int i1)] [(.int (1 : Int32))])
      exact own_retN X0 hx Bd.notSynchronized (t := .boolean) Bd.returns (by simp) (hb hby d3_14) (fun u hu hF => hQo _ _ _ ⟨by rw [show (F3 i1) = nar .boolean (1 : Int32) from by rw [F3, if_neg hc2_1, if_pos hc10_2]], N0, by rw [hu, e0]⟩ (own_mono hF (by decide) (by decide)))
    · refine Go.of (fun t k => XS.icmpYes X0.here hx rfl (pc0 := 10) (pc' := 15) rfl (hb hby d3_10) rfl (feq hc10_2).2 (by decide) (by decide) k) ?_
      show Go p e below Qo s₁ (mkF m 15 #[.val (.int i1)] [])
      refine Go.of (fun t k => XS.iconst X0.here hx rfl (hb hby d3_15) k) ?_
      show Go p e below Qo s₁ (mkF m 16 #[.val (.int i1)] [(.int (0 : Int32))])
      exact own_retN X0 hx Bd.notSynchronized (t := .boolean) Bd.returns (by simp) (hb hby d3_16) (fun u hu hF => hQo _ _ _ ⟨by rw [show (F3 i1) = nar .boolean (0 : Int32) from by rw [F3, if_neg hc2_1, if_neg hc10_2]], N0, by rw [hu, e0]⟩ (own_mono hF (by decide) (by decide)))
theorem own_pick {P : Addr → Prop} (i1 : Int32) (z_BEGIN z_NOT_REPLICATED z_TWO_PHASE_COMMIT z_UTILITY z_OTHER z_ROLLBACK z_COMMIT z_MAINTENANCE : Addr) (h0 : P z_BEGIN) (h1 : P z_NOT_REPLICATED) (h2 : P z_TWO_PHASE_COMMIT) (h3 : P z_UTILITY) (h4 : P z_OTHER) (h5 : P z_ROLLBACK) (h6 : P z_COMMIT) (h7 : P z_MAINTENANCE) : P (F1 i1 z_BEGIN z_NOT_REPLICATED z_TWO_PHASE_COMMIT z_UTILITY z_OTHER z_ROLLBACK z_COMMIT z_MAINTENANCE) := by
  unfold F1
  (repeat' split) <;> assumption
theorem own_law (i1 : Int32) (z_BEGIN z_NOT_REPLICATED z_TWO_PHASE_COMMIT z_UTILITY z_OTHER z_ROLLBACK z_COMMIT z_MAINTENANCE : Addr) (n0 : z_BEGIN ≠ z_NOT_REPLICATED) (t0 : z_BEGIN ≠ z_TWO_PHASE_COMMIT) (n1 : z_UTILITY ≠ z_NOT_REPLICATED) (t1 : z_UTILITY ≠ z_TWO_PHASE_COMMIT) (n2 : z_OTHER ≠ z_NOT_REPLICATED) (t2 : z_OTHER ≠ z_TWO_PHASE_COMMIT) (n3 : z_ROLLBACK ≠ z_NOT_REPLICATED) (t3 : z_ROLLBACK ≠ z_TWO_PHASE_COMMIT) (n4 : z_COMMIT ≠ z_NOT_REPLICATED) (t4 : z_COMMIT ≠ z_TWO_PHASE_COMMIT) (n5 : z_MAINTENANCE ≠ z_NOT_REPLICATED) (t5 : z_MAINTENANCE ≠ z_TWO_PHASE_COMMIT) (u : z_NOT_REPLICATED ≠ z_TWO_PHASE_COMMIT) : F2 (F1 i1 z_BEGIN z_NOT_REPLICATED z_TWO_PHASE_COMMIT z_UTILITY z_OTHER z_ROLLBACK z_COMMIT z_MAINTENANCE) z_NOT_REPLICATED z_TWO_PHASE_COMMIT = F3 i1 := by
  unfold F1 F2 F3
  by_cases k5 : i1 = 5
  · subst k5; simp
  · by_cases k6 : i1 = 6
    · subst k6; simp [u, u.symm]
    · simp only [k5, k6, if_false]
      (repeat' split) <;> simp_all
theorem pd_0 : parseMethodDescriptor "(I)Lcom/example/lockstep/lockstep/protocol/Statement$Kind;" = some ⟨[.int], some (.object "com/example/lockstep/lockstep/protocol/Statement$Kind")⟩ := by decide +kernel
theorem pd_1 : parseMethodDescriptor "()Z" = some ⟨[], some .boolean⟩ := by decide +kernel
theorem pd_2 : parseMethodDescriptor "(I)Z" = some ⟨[.int], some .boolean⟩ := by decide +kernel
theorem ef_0 (m : MethodId) (i1 : Int32)  : entryFrame m #[(.int i1)] maxLocals = mkF m 0 #[.val (.int i1), .unset, .unset] [] := by
  first | (simp [entryFrame, mkF, argsToLocals, Value.category, maxLocals]; done) | rfl
def Q0 (Z : State) (i1 : Int32) (z_BEGIN : Addr) (z_NOT_REPLICATED : Addr) (z_TWO_PHASE_COMMIT : Addr) (z_UTILITY : Addr) (z_OTHER : Addr) (z_ROLLBACK : Addr) (z_COMMIT : Addr) (z_MAINTENANCE : Addr) (h0 : Heap) (n0 : Nat) (v : Option Value) (h : Heap) (L : List Loc) : Prop := v = some (.int 1) ∧ Fr n0 L
set_option maxRecDepth 65536 in
set_option maxHeartbeats 40000000 in
theorem rm0 (l : Launch) (Z : State) (a0 : Array Value) (hw : ∀ d ∈ tables_1, d.before a0 Z = true) (ws : List Jvm.Cond) (i1 : Int32) (z_BEGIN : Addr) (z_NOT_REPLICATED : Addr) (z_TWO_PHASE_COMMIT : Addr) (z_UTILITY : Addr) (z_OTHER : Addr) (z_ROLLBACK : Addr) (z_COMMIT : Addr) (z_MAINTENANCE : Addr) (h0 : Heap) (n0 : Nat) (Z0 : n0 ≤ h0.size) (f0 : Sta Z h0 "com/example/lockstep/lockstep/protocol/Statement$Kind" "BEGIN" "Lcom/example/lockstep/lockstep/protocol/Statement$Kind;" (.ref z_BEGIN)) (f1 : Exa Z h0 z_BEGIN "com/example/lockstep/lockstep/protocol/Statement$Kind") (f2 : Sta Z h0 "com/example/lockstep/lockstep/protocol/Statement$Kind" "NOT_REPLICATED" "Lcom/example/lockstep/lockstep/protocol/Statement$Kind;" (.ref z_NOT_REPLICATED)) (f3 : Exa Z h0 z_NOT_REPLICATED "com/example/lockstep/lockstep/protocol/Statement$Kind") (f4 : Sta Z h0 "com/example/lockstep/lockstep/protocol/Statement$Kind" "TWO_PHASE_COMMIT" "Lcom/example/lockstep/lockstep/protocol/Statement$Kind;" (.ref z_TWO_PHASE_COMMIT)) (f5 : Exa Z h0 z_TWO_PHASE_COMMIT "com/example/lockstep/lockstep/protocol/Statement$Kind") (f6 : Sta Z h0 "com/example/lockstep/lockstep/protocol/Statement$Kind" "UTILITY" "Lcom/example/lockstep/lockstep/protocol/Statement$Kind;" (.ref z_UTILITY)) (f7 : Exa Z h0 z_UTILITY "com/example/lockstep/lockstep/protocol/Statement$Kind") (f8 : Sta Z h0 "com/example/lockstep/lockstep/protocol/Statement$Kind" "OTHER" "Lcom/example/lockstep/lockstep/protocol/Statement$Kind;" (.ref z_OTHER)) (f9 : Exa Z h0 z_OTHER "com/example/lockstep/lockstep/protocol/Statement$Kind") (f10 : Sta Z h0 "com/example/lockstep/lockstep/protocol/Statement$Kind" "ROLLBACK" "Lcom/example/lockstep/lockstep/protocol/Statement$Kind;" (.ref z_ROLLBACK)) (f11 : Exa Z h0 z_ROLLBACK "com/example/lockstep/lockstep/protocol/Statement$Kind") (f12 : Sta Z h0 "com/example/lockstep/lockstep/protocol/Statement$Kind" "COMMIT" "Lcom/example/lockstep/lockstep/protocol/Statement$Kind;" (.ref z_COMMIT)) (f13 : Exa Z h0 z_COMMIT "com/example/lockstep/lockstep/protocol/Statement$Kind") (f14 : Sta Z h0 "com/example/lockstep/lockstep/protocol/Statement$Kind" "MAINTENANCE" "Lcom/example/lockstep/lockstep/protocol/Statement$Kind;" (.ref z_MAINTENANCE)) (f15 : Exa Z h0 z_MAINTENANCE "com/example/lockstep/lockstep/protocol/Statement$Kind") (f16 : Fld Z h0 z_BEGIN "java/lang/Enum" "ordinal" "I" (.int (0 : Int32))) (f17 : Fld Z h0 z_NOT_REPLICATED "java/lang/Enum" "ordinal" "I" (.int (5 : Int32))) (f18 : Fld Z h0 z_TWO_PHASE_COMMIT "java/lang/Enum" "ordinal" "I" (.int (6 : Int32))) (f19 : Fld Z h0 z_UTILITY "java/lang/Enum" "ordinal" "I" (.int (3 : Int32))) (f20 : Fld Z h0 z_OTHER "java/lang/Enum" "ordinal" "I" (.int (7 : Int32))) (f21 : Fld Z h0 z_ROLLBACK "java/lang/Enum" "ordinal" "I" (.int (2 : Int32))) (f22 : Fld Z h0 z_COMMIT "java/lang/Enum" "ordinal" "I" (.int (1 : Int32))) (f23 : Fld Z h0 z_MAINTENANCE "java/lang/Enum" "ordinal" "I" (.int (4 : Int32))) :
    MetFree l x (head1 (Jvm.Cond.code x code maxLocals ret :: ws) room_1) (fun a U => a = #[(.int i1)] ∧ Z.Warmed39 U.vm ∧ U.heap = h0) (fun _ _ _ _ _ => True) (fun _ U o U' => ∃ v L, o = .returned v ∧ Q0 Z i1 z_BEGIN z_NOT_REPLICATED z_TWO_PHASE_COMMIT z_UTILITY z_OTHER z_ROLLBACK z_COMMIT z_MAINTENANCE h0 n0 v U'.heap L ∧ FrameEnd U o U' L 0 0) := by
  refine MetFree.of_bodySF (plainFor_of_name pn_0) hisR ?_
  intro p e s m args below meth c s₁ Bd hml0 hP hK
  obtain ⟨rfl, hZ, hh⟩ := hP
  have hx := Bd.exec
  have hby := Bd.bytes
  have hml : c.maxLocals = 3 := hml0
  have hown : s.vm.findClass "com/example/lockstep/lockstep/protocol/StatementKindRefusedPinLaw" = some m.cls := findClass_of_methodNamed Bd.named
  have hnm := (name_of_methodNamed Bd.named Bd.method).1
  have X0 : Stand p l e room_1 s m #[(.int i1)] below meth c s₁ [] 0 0 := Stand.of_body Bd
  have e0 : s₁.heap = h0 := by rw [← hh, Bd.state]; rfl
  have N0 := Fr.nil n0
  suffices H : ∀ Qo : Outcome → State → Prop, (∀ (v : Option Value) (u : State) (L : List Loc), Q0 Z i1 z_BEGIN z_NOT_REPLICATED z_TWO_PHASE_COMMIT z_UTILITY z_OTHER z_ROLLBACK z_COMMIT z_MAINTENANCE h0 n0 v u.heap L → FrameEnd s (.returned v) u L 0 0 → Qo (.returned v) u) → Go p e below Qo s₁ (mkF m 0 #[.val (.int i1), .unset, .unset] []) from
    Go.cast (ef_0 m i1) (H _ fun v u L h1 h2 => ⟨v, L, rfl, h1, h2⟩)
  intro Qo hQo
  show Go p e below Qo s₁ (mkF m 0 #[.val (.int i1), .unset, .unset] [])
  refine Go.of (fun t k => XS.iloadN X0.here hx rfl (hb hby at_0) rfl  k) ?_
  show Go p e below Qo s₁ (mkF m 1 #[.val (.int i1), .unset, .unset] [(.int i1)])
  refine Go.of (fun t k => XS.bipush X0.here hx rfl (hb hby at_1) k) ?_
  show Go p e below Qo s₁ (mkF m 3 #[.val (.int i1), .unset, .unset] [(.int (7 : Int32)), (.int i1)])
  refine Go.of (fun t k => XS.iand X0.here hx rfl (hb hby at_3) rfl k) ?_
  show Go p e below Qo s₁ (mkF m 4 #[.val (.int i1), .unset, .unset] [(.int (i1 &&& (7 : Int32)))])
  refine Go.of (fun t k => XS.istoreN X0.here hx rfl (hb hby at_4) rfl (l' := #[.val (.int i1), .val (.int (i1 &&& (7 : Int32))), .unset]) rfl k) ?_
  show Go p e below Qo s₁ (mkF m 5 #[.val (.int i1), .val (.int (i1 &&& (7 : Int32))), .unset] [])
  refine Go.of (fun t k => XS.iloadN X0.here hx rfl (hb hby at_5) rfl  k) ?_
  show Go p e below Qo s₁ (mkF m 6 #[.val (.int i1), .val (.int (i1 &&& (7 : Int32))), .unset] [(.int (i1 &&& (7 : Int32)))])
  obtain ⟨_, _, ⟨T1, L1, k1, n1⟩, -, X1, ⟨Lc1, hQ1, l1, y1, z1⟩, st1⟩ := Jvm.LawKit.callS X0 hx (y := (⟨"com/example/lockstep/lockstep/protocol/StatementKindRefusedPinLaw", "pick", "(I)Lcom/example/lockstep/lockstep/protocol/Statement$Kind;"⟩ : MethodName)) hown (mvT hZ (hw _ (List.mem_of_getElem? (i := 0) rfl))) (mvT hZ (hw _ (List.mem_of_getElem? (i := 1) rfl))) (mvT hZ (hw _ (List.mem_of_getElem? (i := 2) rfl))) (mvT hZ (hw _ (List.mem_of_getElem? (i := 3) rfl))) (by decide) (backOf (W := 0) (rm1 l Z a0 hw [] (i1 &&& (7 : Int32)) z_BEGIN z_NOT_REPLICATED z_TWO_PHASE_COMMIT z_UTILITY z_OTHER z_ROLLBACK z_COMMIT z_MAINTENANCE h0 n0 Z0 f0 f2 f4 f6 f8 f10 f12 f14) hZ (hw _ (List.mem_of_getElem? (i := 3) rfl)) (hw _ (List.mem_of_getElem? (i := 2) rfl)) (by decide) (by decide)) (g := (mkF m 6 #[.val (.int i1), .val (.int (i1 &&& (7 : Int32))), .unset] [(.int (i1 &&& (7 : Int32)))])) rfl (by rw [hml]; rfl) (argsL := [(.int (i1 &&& (7 : Int32)))]) (rest := []) (lenOf pd_0 rfl) rfl (by show 2 * 0 + _ ≤ _; exact Nat.le_of_eq rfl) (hb hby at_6) (fun _ _ => ⟨rfl, e0, (by decide : 0 + 0 ≤ _), (by decide : 0 + 0 ≤ _)⟩)
  dsimp only [Pt.U, Pt.locs, Pt.cells, Pt.slots] at X1 l1 y1 z1 st1 hQ1
  subst l1 y1 z1
  obtain ⟨rfl, N2, eh3⟩ := hQ1
  have N4 := Fr.app N0 N2
  refine Go.of st1 ?_
  show Go p e below Qo T1 (mkF m 9 #[.val (.int i1), .val (.int (i1 &&& (7 : Int32))), .unset] [(.ref (F1 (i1 &&& (7 : Int32)) z_BEGIN z_NOT_REPLICATED z_TWO_PHASE_COMMIT z_UTILITY z_OTHER z_ROLLBACK z_COMMIT z_MAINTENANCE))])
  have EP : Exa Z h0 (F1 (i1 &&& (7 : Int32)) z_BEGIN z_NOT_REPLICATED z_TWO_PHASE_COMMIT z_UTILITY z_OTHER z_ROLLBACK z_COMMIT z_MAINTENANCE) "com/example/lockstep/lockstep/protocol/Statement$Kind" := own_pick (P := fun a => Exa Z h0 a "com/example/lockstep/lockstep/protocol/Statement$Kind") _ z_BEGIN z_NOT_REPLICATED z_TWO_PHASE_COMMIT z_UTILITY z_OTHER z_ROLLBACK z_COMMIT z_MAINTENANCE f1 f3 f5 f7 f9 f11 f13 f15
  refine Go.of (fun t k => XS.astoreN X1.here hx rfl (hb hby at_9) rfl rfl (l' := #[.val (.int i1), .val (.int (i1 &&& (7 : Int32))), .val (.ref (F1 (i1 &&& (7 : Int32)) z_BEGIN z_NOT_REPLICATED z_TWO_PHASE_COMMIT z_UTILITY z_OTHER z_ROLLBACK z_COMMIT z_MAINTENANCE))]) rfl k) ?_
  show Go p e below Qo T1 (mkF m 10 #[.val (.int i1), .val (.int (i1 &&& (7 : Int32))), .val (.ref (F1 (i1 &&& (7 : Int32)) z_BEGIN z_NOT_REPLICATED z_TWO_PHASE_COMMIT z_UTILITY z_OTHER z_ROLLBACK z_COMMIT z_MAINTENANCE))] [])
  refine Go.of (fun t k => XS.aloadN X1.here hx rfl (hb hby at_10) rfl rfl k) ?_
  show Go p e below Qo T1 (mkF m 11 #[.val (.int i1), .val (.int (i1 &&& (7 : Int32))), .val (.ref (F1 (i1 &&& (7 : Int32)) z_BEGIN z_NOT_REPLICATED z_TWO_PHASE_COMMIT z_UTILITY z_OTHER z_ROLLBACK z_COMMIT z_MAINTENANCE))] [(.ref (F1 (i1 &&& (7 : Int32)) z_BEGIN z_NOT_REPLICATED z_TWO_PHASE_COMMIT z_UTILITY z_OTHER z_ROLLBACK z_COMMIT z_MAINTENANCE))])
  obtain ⟨ciq6, kiq6, iq6a, iq6b, iq6c⟩ := isOf hZ eh3 EP
  obtain ⟨_, _, ⟨T5, L5, k5, n5⟩, -, X5, ⟨Lc5, hQ5, l5, y5, z5⟩, st5⟩ := X1.virtualBack hx (y := (⟨"com/example/lockstep/lockstep/protocol/Statement$Kind", "refused", "()Z"⟩ : MethodName)) (z := (⟨"com/example/lockstep/lockstep/protocol/Statement$Kind", "refused", "()Z"⟩ : MethodName)) hown (mvT hZ (hw _ (List.mem_of_getElem? (i := 7) rfl))) (mvT hZ (hw _ (List.mem_of_getElem? (i := 8) rfl))) (notFace_of_selects (args := #[]) (mvT hZ (hw _ (List.mem_of_getElem? (i := 10) rfl)))) (mvT hZ (hw _ (List.mem_of_getElem? (i := 10) rfl))) (mvT hZ (hw _ (List.mem_of_getElem? (i := 9) rfl))) (by decide) (backOf (W := 0) (rm2 l Z a0 hw [] (F1 (i1 &&& (7 : Int32)) z_BEGIN z_NOT_REPLICATED z_TWO_PHASE_COMMIT z_UTILITY z_OTHER z_ROLLBACK z_COMMIT z_MAINTENANCE) z_NOT_REPLICATED z_TWO_PHASE_COMMIT h0 n0 Z0 f2 f4) hZ (hw _ (List.mem_of_getElem? (i := 11) rfl)) (hw _ (List.mem_of_getElem? (i := 5) rfl)) (by decide) (by decide)) iq6a iq6c (g := (mkF m 11 #[.val (.int i1), .val (.int (i1 &&& (7 : Int32))), .val (.ref (F1 (i1 &&& (7 : Int32)) z_BEGIN z_NOT_REPLICATED z_TWO_PHASE_COMMIT z_UTILITY z_OTHER z_ROLLBACK z_COMMIT z_MAINTENANCE))] [(.ref (F1 (i1 &&& (7 : Int32)) z_BEGIN z_NOT_REPLICATED z_TWO_PHASE_COMMIT z_UTILITY z_OTHER z_ROLLBACK z_COMMIT z_MAINTENANCE))])) rfl (by rw [hml]; rfl) (Steps.refl _) (argsL := []) (rest := []) (lenOf pd_1 rfl) rfl (by show 2 * 0 + _ ≤ _; exact Nat.le_of_eq rfl) (hb hby at_11) (fun _ _ => ⟨rfl, eh3, (by decide : 0 + 0 ≤ _), (by decide : 0 + 0 ≤ _)⟩)
  dsimp only [Pt.U, Pt.locs, Pt.cells, Pt.slots] at X5 l5 y5 z5 st5 hQ5
  subst l5 y5 z5
  obtain ⟨rfl, N7, eh8⟩ := hQ5
  have N9 := Fr.app N4 N7
  refine Go.via st5 ?_
  show Go p e below Qo T5 (mkF m 14 #[.val (.int i1), .val (.int (i1 &&& (7 : Int32))), .val (.ref (F1 (i1 &&& (7 : Int32)) z_BEGIN z_NOT_REPLICATED z_TWO_PHASE_COMMIT z_UTILITY z_OTHER z_ROLLBACK z_COMMIT z_MAINTENANCE))] [(.int (F2 (F1 (i1 &&& (7 : Int32)) z_BEGIN z_NOT_REPLICATED z_TWO_PHASE_COMMIT z_UTILITY z_OTHER z_ROLLBACK z_COMMIT z_MAINTENANCE) z_NOT_REPLICATED z_TWO_PHASE_COMMIT))])
  refine Go.of (fun t k => XS.iloadN X5.here hx rfl (hb hby at_14) rfl  k) ?_
  show Go p e below Qo T5 (mkF m 15 #[.val (.int i1), .val (.int (i1 &&& (7 : Int32))), .val (.ref (F1 (i1 &&& (7 : Int32)) z_BEGIN z_NOT_REPLICATED z_TWO_PHASE_COMMIT z_UTILITY z_OTHER z_ROLLBACK z_COMMIT z_MAINTENANCE))] [(.int (i1 &&& (7 : Int32))), (.int (F2 (F1 (i1 &&& (7 : Int32)) z_BEGIN z_NOT_REPLICATED z_TWO_PHASE_COMMIT z_UTILITY z_OTHER z_ROLLBACK z_COMMIT z_MAINTENANCE) z_NOT_REPLICATED z_TWO_PHASE_COMMIT))])
  obtain ⟨_, _, ⟨T10, L10, k10, n10⟩, -, X10, ⟨Lc10, hQ10, l10, y10, z10⟩, st10⟩ := Jvm.LawKit.callS X5 hx (y := (⟨"com/example/lockstep/lockstep/protocol/StatementKindRefusedPinLaw", "documentedRefused", "(I)Z"⟩ : MethodName)) hown (mvT hZ (hw _ (List.mem_of_getElem? (i := 16) rfl))) (mvT hZ (hw _ (List.mem_of_getElem? (i := 17) rfl))) (mvT hZ (hw _ (List.mem_of_getElem? (i := 2) rfl))) (mvT hZ (hw _ (List.mem_of_getElem? (i := 18) rfl))) (by decide) (backOf (W := 1) (rm3 l Z a0 hw [] (i1 &&& (7 : Int32)) h0 n0 Z0 ) hZ (hw _ (List.mem_of_getElem? (i := 18) rfl)) (hw _ (List.mem_of_getElem? (i := 2) rfl)) (by decide) (by decide)) (g := (mkF m 15 #[.val (.int i1), .val (.int (i1 &&& (7 : Int32))), .val (.ref (F1 (i1 &&& (7 : Int32)) z_BEGIN z_NOT_REPLICATED z_TWO_PHASE_COMMIT z_UTILITY z_OTHER z_ROLLBACK z_COMMIT z_MAINTENANCE))] [(.int (i1 &&& (7 : Int32))), (.int (F2 (F1 (i1 &&& (7 : Int32)) z_BEGIN z_NOT_REPLICATED z_TWO_PHASE_COMMIT z_UTILITY z_OTHER z_ROLLBACK z_COMMIT z_MAINTENANCE) z_NOT_REPLICATED z_TWO_PHASE_COMMIT))])) rfl (by rw [hml]; rfl) (argsL := [(.int (i1 &&& (7 : Int32)))]) (rest := [(.int (F2 (F1 (i1 &&& (7 : Int32)) z_BEGIN z_NOT_REPLICATED z_TWO_PHASE_COMMIT z_UTILITY z_OTHER z_ROLLBACK z_COMMIT z_MAINTENANCE) z_NOT_REPLICATED z_TWO_PHASE_COMMIT))]) (lenOf pd_2 rfl) rfl (by show 2 * 0 + _ ≤ _; exact Nat.le_of_eq rfl) (hb hby at_15) (fun _ _ => ⟨rfl, eh8, (by decide : 0 + 0 ≤ _), (by decide : 0 + 0 ≤ _)⟩)
  dsimp only [Pt.U, Pt.locs, Pt.cells, Pt.slots] at X10 l10 y10 z10 st10 hQ10
  subst l10 y10 z10
  obtain ⟨rfl, N11, eh12⟩ := hQ10
  have N13 := Fr.app N9 N11
  refine Go.of st10 ?_
  show Go p e below Qo T10 (mkF m 18 #[.val (.int i1), .val (.int (i1 &&& (7 : Int32))), .val (.ref (F1 (i1 &&& (7 : Int32)) z_BEGIN z_NOT_REPLICATED z_TWO_PHASE_COMMIT z_UTILITY z_OTHER z_ROLLBACK z_COMMIT z_MAINTENANCE))] [(.int (F3 (i1 &&& (7 : Int32)))), (.int (F2 (F1 (i1 &&& (7 : Int32)) z_BEGIN z_NOT_REPLICATED z_TWO_PHASE_COMMIT z_UTILITY z_OTHER z_ROLLBACK z_COMMIT z_MAINTENANCE) z_NOT_REPLICATED z_TWO_PHASE_COMMIT))])
  have J18_16 : ∀ (v18_15 : Int32), v18_15 = (if (F2 (F1 (i1 &&& (7 : Int32)) z_BEGIN z_NOT_REPLICATED z_TWO_PHASE_COMMIT z_UTILITY z_OTHER z_ROLLBACK z_COMMIT z_MAINTENANCE) z_NOT_REPLICATED z_TWO_PHASE_COMMIT) = (F3 (i1 &&& (7 : Int32))) then (1 : Int32) else (0 : Int32)) → Go p e below Qo T10 (mkF m 26 #[.val (.int i1), .val (.int (i1 &&& (7 : Int32))), .val (.ref (F1 (i1 &&& (7 : Int32)) z_BEGIN z_NOT_REPLICATED z_TWO_PHASE_COMMIT z_UTILITY z_OTHER z_ROLLBACK z_COMMIT z_MAINTENANCE))] [(.int v18_15)]) := by
    intro v18_15 hv18_15
    show Go p e below Qo T10 (mkF m 26 #[.val (.int i1), .val (.int (i1 &&& (7 : Int32))), .val (.ref (F1 (i1 &&& (7 : Int32)) z_BEGIN z_NOT_REPLICATED z_TWO_PHASE_COMMIT z_UTILITY z_OTHER z_ROLLBACK z_COMMIT z_MAINTENANCE))] [(.int v18_15)])
    have hfin : v18_15 = 1 := by
      exact hv18_15.trans (if_pos (own_law _ z_BEGIN z_NOT_REPLICATED z_TWO_PHASE_COMMIT z_UTILITY z_OTHER z_ROLLBACK z_COMMIT z_MAINTENANCE (Fld.ne f16 f17 (by simp)) (Fld.ne f16 f18 (by simp)) (Fld.ne f19 f17 (by simp)) (Fld.ne f19 f18 (by simp)) (Fld.ne f20 f17 (by simp)) (Fld.ne f20 f18 (by simp)) (Fld.ne f21 f17 (by simp)) (Fld.ne f21 f18 (by simp)) (Fld.ne f22 f17 (by simp)) (Fld.ne f22 f18 (by simp)) (Fld.ne f23 f17 (by simp)) (Fld.ne f23 f18 (by simp)) (Fld.ne f17 f18 (by simp))))
    exact own_retN X10 hx Bd.notSynchronized (t := .boolean) Bd.returns (by simp) (hb hby at_26) (fun u hu hF => hQo _ _ _ ⟨by rw [hfin]; rfl, N13⟩ (own_mono hF (by decide) (by decide)))
  by_cases hc18_17 : (F2 (F1 (i1 &&& (7 : Int32)) z_BEGIN z_NOT_REPLICATED z_TWO_PHASE_COMMIT z_UTILITY z_OTHER z_ROLLBACK z_COMMIT z_MAINTENANCE) z_NOT_REPLICATED z_TWO_PHASE_COMMIT) = (F3 (i1 &&& (7 : Int32)))
  · refine Go.of (fun t k => XS.icmpNo X10.here hx rfl (hb hby at_18) rfl (teq hc18_17).2 k) ?_
    show Go p e below Qo T10 (mkF m 21 #[.val (.int i1), .val (.int (i1 &&& (7 : Int32))), .val (.ref (F1 (i1 &&& (7 : Int32)) z_BEGIN z_NOT_REPLICATED z_TWO_PHASE_COMMIT z_UTILITY z_OTHER z_ROLLBACK z_COMMIT z_MAINTENANCE))] [])
    refine Go.of (fun t k => XS.iconst X10.here hx rfl (hb hby at_21) k) ?_
    show Go p e below Qo T10 (mkF m 22 #[.val (.int i1), .val (.int (i1 &&& (7 : Int32))), .val (.ref (F1 (i1 &&& (7 : Int32)) z_BEGIN z_NOT_REPLICATED z_TWO_PHASE_COMMIT z_UTILITY z_OTHER z_ROLLBACK z_COMMIT z_MAINTENANCE))] [(.int (1 : Int32))])
    refine Go.of (fun t k => XS.goto X10.here hx rfl (pc0 := 22) (pc' := 26) rfl (hb hby at_22) (by decide) (by decide) k) ?_
    show Go p e below Qo T10 (mkF m 26 #[.val (.int i1), .val (.int (i1 &&& (7 : Int32))), .val (.ref (F1 (i1 &&& (7 : Int32)) z_BEGIN z_NOT_REPLICATED z_TWO_PHASE_COMMIT z_UTILITY z_OTHER z_ROLLBACK z_COMMIT z_MAINTENANCE))] [(.int (1 : Int32))])
    exact J18_16 _ (by first | rfl | (rw [if_pos hc18_17]) | (simp only [hc18_17, if_true, if_false]; done) | simp [hc18_17])
  · refine Go.of (fun t k => XS.icmpYes X10.here hx rfl (pc0 := 18) (pc' := 25) rfl (hb hby at_18) rfl (feq hc18_17).2 (by decide) (by decide) k) ?_
    show Go p e below Qo T10 (mkF m 25 #[.val (.int i1), .val (.int (i1 &&& (7 : Int32))), .val (.ref (F1 (i1 &&& (7 : Int32)) z_BEGIN z_NOT_REPLICATED z_TWO_PHASE_COMMIT z_UTILITY z_OTHER z_ROLLBACK z_COMMIT z_MAINTENANCE))] [])
    refine Go.of (fun t k => XS.iconst X10.here hx rfl (hb hby at_25) k) ?_
    show Go p e below Qo T10 (mkF m 26 #[.val (.int i1), .val (.int (i1 &&& (7 : Int32))), .val (.ref (F1 (i1 &&& (7 : Int32)) z_BEGIN z_NOT_REPLICATED z_TWO_PHASE_COMMIT z_UTILITY z_OTHER z_ROLLBACK z_COMMIT z_MAINTENANCE))] [(.int (0 : Int32))])
    exact J18_16 _ (by first | rfl | (rw [if_neg hc18_17]) | (simp only [hc18_17, if_true, if_false]; done) | simp [hc18_17])
set_option maxRecDepth 65536 in
set_option maxHeartbeats 40000000 in
theorem comes_1 {Post : Tables → Env → Array Value → State → Outcome → State → Prop} (hpost : ∀ tb e args s v u, (limb_1_1.after args s (.returned v) u = true ∧ limb_1_2.after args s (.returned v) u = true ∧ True) → FrameEnd s (.returned v) u (Jvm.fieldLocs frame_1_writes args s ++ Jvm.arrayLocs frame_1_arrays args s ++ Jvm.staticLocs frame_1_statics s) 0 0 → Post tb e args s (.returned v) u) :
    ArmFor flags0 classFile x code maxLocals ret World_1 tables_1 room_1 Calls_1 rest_1 Pre_1 Post := by
  intro l hfl _ _ p e ha hc hk s m args below hf hA hF happ hP
  obtain ⟨hcalls, hrest, hpre⟩ := hP
  obtain ⟨-, -, -, hnamed, -, -, -, hat⟩ := (Spec.applies_iff hf).mp happ
  obtain ⟨hg, hn⟩ := and_e (Cond.before_iff.mp (show (Jvm.Cond.and given_1 narrow_1).before args s = true from hpre))
  obtain ⟨hg0, hgr0⟩ := and_e hg
  obtain ⟨w0, rfl⟩ : ∃ w0 : Value, args = #[w0] := by
    have hs : args.size = 1 := by simpa [Cond.value, given_1] using hg0
    obtain ⟨L⟩ := args
    match L, hs with
    | [w0], _ => exact ⟨w0, rfl⟩
  have hw := fun d (hd : d ∈ tables_1) => atoms_spec (ws := Jvm.Cond.code x code maxLocals ret :: tables_1) hat d (List.mem_cons_of_mem _ hd)
  have hfit : Fit s := fun {y c} hc i hi => by
    obtain ⟨ha, rfl⟩ := Array.getElem?_eq_some_iff.mp hc
    have q := List.all_eq_true.mp ((Array.all_eq_true_iff_forall_mem.mp hF) _ (Array.getElem_mem ha)) i (List.mem_range.mpr hi)
    simpa [Array.getElem?_eq_getElem hi] using q
  obtain ⟨i0, ei0⟩ := is_v hgr0
  obtain rfl : w0 = (.int i0) := Option.some.inj ei0
  obtain ⟨hs0, hr0⟩ := and_e hn
  obtain ⟨hs1, hr1⟩ := and_e hr0
  obtain ⟨hs2, hr2⟩ := and_e hr1
  obtain ⟨hs3, hr3⟩ := and_e hr2
  obtain ⟨hs4, hr4⟩ := and_e hr3
  obtain ⟨hs5, hr5⟩ := and_e hr4
  obtain ⟨hs6, hr6⟩ := and_e hr5
  obtain ⟨hs7, hr7⟩ := and_e hr6
  obtain ⟨hs8, hr8⟩ := and_e hr7
  obtain ⟨hs9, hr9⟩ := and_e hr8
  obtain ⟨hs10, hr10⟩ := and_e hr9
  obtain ⟨hs11, hr11⟩ := and_e hr10
  obtain ⟨hs12, hr12⟩ := and_e hr11
  obtain ⟨hs13, hr13⟩ := and_e hr12
  obtain ⟨hs14, hr14⟩ := and_e hr13
  obtain ⟨z_BEGIN, ev_BEGIN⟩ := exa_v hs0
  have S_BEGIN : Sta s s.heap "com/example/lockstep/lockstep/protocol/Statement$Kind" "BEGIN" "Lcom/example/lockstep/lockstep/protocol/Statement$Kind;" (.ref z_BEGIN) := Sta.start ev_BEGIN (Or.inr ⟨(hw _ (List.mem_of_getElem? (i := 5) rfl)), (hw _ (List.mem_of_getElem? (i := 6) rfl))⟩)
  have E_BEGIN := Exa.start ev_BEGIN hs0
  obtain ⟨z_NOT_REPLICATED, ev_NOT_REPLICATED⟩ := exa_v hs1
  have S_NOT_REPLICATED : Sta s s.heap "com/example/lockstep/lockstep/protocol/Statement$Kind" "NOT_REPLICATED" "Lcom/example/lockstep/lockstep/protocol/Statement$Kind;" (.ref z_NOT_REPLICATED) := Sta.start ev_NOT_REPLICATED (Or.inr ⟨(hw _ (List.mem_of_getElem? (i := 5) rfl)), (hw _ (List.mem_of_getElem? (i := 13) rfl))⟩)
  have E_NOT_REPLICATED := Exa.start ev_NOT_REPLICATED hs1
  obtain ⟨z_TWO_PHASE_COMMIT, ev_TWO_PHASE_COMMIT⟩ := exa_v hs4
  have S_TWO_PHASE_COMMIT : Sta s s.heap "com/example/lockstep/lockstep/protocol/Statement$Kind" "TWO_PHASE_COMMIT" "Lcom/example/lockstep/lockstep/protocol/Statement$Kind;" (.ref z_TWO_PHASE_COMMIT) := Sta.start ev_TWO_PHASE_COMMIT (Or.inr ⟨(hw _ (List.mem_of_getElem? (i := 5) rfl)), (hw _ (List.mem_of_getElem? (i := 15) rfl))⟩)
  have E_TWO_PHASE_COMMIT := Exa.start ev_TWO_PHASE_COMMIT hs4
  obtain ⟨z_UTILITY, ev_UTILITY⟩ := exa_v hs6
  have S_UTILITY : Sta s s.heap "com/example/lockstep/lockstep/protocol/Statement$Kind" "UTILITY" "Lcom/example/lockstep/lockstep/protocol/Statement$Kind;" (.ref z_UTILITY) := Sta.start ev_UTILITY (Or.inr ⟨(hw _ (List.mem_of_getElem? (i := 5) rfl)), (hw _ (List.mem_of_getElem? (i := 20) rfl))⟩)
  have E_UTILITY := Exa.start ev_UTILITY hs6
  obtain ⟨z_OTHER, ev_OTHER⟩ := exa_v hs8
  have S_OTHER : Sta s s.heap "com/example/lockstep/lockstep/protocol/Statement$Kind" "OTHER" "Lcom/example/lockstep/lockstep/protocol/Statement$Kind;" (.ref z_OTHER) := Sta.start ev_OTHER (Or.inr ⟨(hw _ (List.mem_of_getElem? (i := 5) rfl)), (hw _ (List.mem_of_getElem? (i := 23) rfl))⟩)
  have E_OTHER := Exa.start ev_OTHER hs8
  obtain ⟨z_ROLLBACK, ev_ROLLBACK⟩ := exa_v hs10
  have S_ROLLBACK : Sta s s.heap "com/example/lockstep/lockstep/protocol/Statement$Kind" "ROLLBACK" "Lcom/example/lockstep/lockstep/protocol/Statement$Kind;" (.ref z_ROLLBACK) := Sta.start ev_ROLLBACK (Or.inr ⟨(hw _ (List.mem_of_getElem? (i := 5) rfl)), (hw _ (List.mem_of_getElem? (i := 25) rfl))⟩)
  have E_ROLLBACK := Exa.start ev_ROLLBACK hs10
  obtain ⟨z_COMMIT, ev_COMMIT⟩ := exa_v hs12
  have S_COMMIT : Sta s s.heap "com/example/lockstep/lockstep/protocol/Statement$Kind" "COMMIT" "Lcom/example/lockstep/lockstep/protocol/Statement$Kind;" (.ref z_COMMIT) := Sta.start ev_COMMIT (Or.inr ⟨(hw _ (List.mem_of_getElem? (i := 5) rfl)), (hw _ (List.mem_of_getElem? (i := 27) rfl))⟩)
  have E_COMMIT := Exa.start ev_COMMIT hs12
  obtain ⟨z_MAINTENANCE, ev_MAINTENANCE⟩ := exa_v hs14
  have S_MAINTENANCE : Sta s s.heap "com/example/lockstep/lockstep/protocol/Statement$Kind" "MAINTENANCE" "Lcom/example/lockstep/lockstep/protocol/Statement$Kind;" (.ref z_MAINTENANCE) := Sta.start ev_MAINTENANCE (Or.inr ⟨(hw _ (List.mem_of_getElem? (i := 5) rfl)), (hw _ (List.mem_of_getElem? (i := 29) rfl))⟩)
  have E_MAINTENANCE := Exa.start ev_MAINTENANCE hs14
  have O_BEGIN_ordinal : Fld s s.heap z_BEGIN "java/lang/Enum" "ordinal" "I" (.int (0 : Int32)) := Fld.start ((fld_at ev_BEGIN).symm.trans (own_eqI hs2))
  have O_NOT_REPLICATED_ordinal : Fld s s.heap z_NOT_REPLICATED "java/lang/Enum" "ordinal" "I" (.int (5 : Int32)) := Fld.start ((fld_at ev_NOT_REPLICATED).symm.trans (own_eqI hs3))
  have O_TWO_PHASE_COMMIT_ordinal : Fld s s.heap z_TWO_PHASE_COMMIT "java/lang/Enum" "ordinal" "I" (.int (6 : Int32)) := Fld.start ((fld_at ev_TWO_PHASE_COMMIT).symm.trans (own_eqI hs5))
  have O_UTILITY_ordinal : Fld s s.heap z_UTILITY "java/lang/Enum" "ordinal" "I" (.int (3 : Int32)) := Fld.start ((fld_at ev_UTILITY).symm.trans (own_eqI hs7))
  have O_OTHER_ordinal : Fld s s.heap z_OTHER "java/lang/Enum" "ordinal" "I" (.int (7 : Int32)) := Fld.start ((fld_at ev_OTHER).symm.trans (own_eqI hs9))
  have O_ROLLBACK_ordinal : Fld s s.heap z_ROLLBACK "java/lang/Enum" "ordinal" "I" (.int (2 : Int32)) := Fld.start ((fld_at ev_ROLLBACK).symm.trans (own_eqI hs11))
  have O_COMMIT_ordinal : Fld s s.heap z_COMMIT "java/lang/Enum" "ordinal" "I" (.int (1 : Int32)) := Fld.start ((fld_at ev_COMMIT).symm.trans (own_eqI hs13))
  have O_MAINTENANCE_ordinal : Fld s s.heap z_MAINTENANCE "java/lang/Enum" "ordinal" "I" (.int (4 : Int32)) := Fld.start ((fld_at ev_MAINTENANCE).symm.trans (own_eqI hr14))
  obtain ⟨n, o, h1, h2, h3, _, L, rfl, ⟨rfl, N⟩, hq⟩ := rm0 l s _ hw tables_1 i0 z_BEGIN z_NOT_REPLICATED z_TWO_PHASE_COMMIT z_UTILITY z_OTHER z_ROLLBACK z_COMMIT z_MAINTENANCE s.heap s.heap.size (Nat.le_refl _) S_BEGIN E_BEGIN S_NOT_REPLICATED E_NOT_REPLICATED S_TWO_PHASE_COMMIT E_TWO_PHASE_COMMIT S_UTILITY E_UTILITY S_OTHER E_OTHER S_ROLLBACK E_ROLLBACK S_COMMIT E_COMMIT S_MAINTENANCE E_MAINTENANCE O_BEGIN_ordinal O_NOT_REPLICATED_ordinal O_TWO_PHASE_COMMIT_ordinal O_UTILITY_ordinal O_OTHER_ordinal O_ROLLBACK_ordinal O_COMMIT_ordinal O_MAINTENANCE_ordinal p e ha hc hk s m _ below hf ((Spec.applies_iff_loose hf).mp happ).1 ⟨rfl, State.Warmed39.refl s, rfl⟩ trivial
  refine ⟨n, _, h1, h2, h3, hpost _ _ _ _ _ _ ⟨Cond.after_iff.mpr rfl, Cond.after_iff.mpr (eq_i res_at (Term.int_eval (1)) rfl), trivial⟩ ⟨hq.1, hq.2.1, (hq.2.2.sift fun y hy => Or.inr (N y hy)).mono (by decide) (by decide)⟩⟩
theorem main_1_1 : Claimed_1_1 := comes_1 fun _ _ _ _ _ _ h hF => ⟨h.1, hF⟩
theorem main_1_2 : Claimed_1_2 := comes_1 fun _ _ _ _ _ _ h hF => ⟨h.2.1, hF⟩
end Jvm.Pilot.@@N@@
namespace Jvm.Pilot.@@N@@
open Jvm Jvm.ClassFile Sem Op Lib Jvm.Free Jvm.Stand Jvm.Pilot.@@N@@.Jvm.D
/-! MADE BY PROGRAM (witnessworld.py) out of the Statement's table words and the real class files: 12 classes; the members and pool entries that the words name. The judged class is class 1, her method 3. -/
namespace start1
open Jvm.ClassFile
def u (s : String) : CpInfo := .utf8 (stringToUtf16 s)
/-- a pool by its gaps: so many unusable entries, then the entry; so many at the end -/
def gap : Nat → List CpInfo → List CpInfo
  | 0, r => r
  | n + 1, r => .unusable :: gap n r
def poolList (es : List (Nat × CpInfo)) (last : Nat) : List CpInfo := es.foldr (fun e r => gap e.1 (e.2 :: r)) (gap last [])
def pool (es : List (Nat × CpInfo)) (last : Nat) : Array CpInfo := ⟨poolList es last⟩
def fileOf (pool : Array CpInfo) (this : Nat) (attrs : Array Attribute := #[]) (ms : Array MethodInfo := #[]) (fl : Nat := 33) (sup : Nat := 0) (ifs : Array Nat := #[]) (fds : Array FieldInfo := #[]) : ClassFile where
  minorVersion := 0
  majorVersion := 65
  constantPool := pool
  accessFlags := fl
  thisClass := this
  superClass := sup
  interfaces := ifs
  fields := fds
  methods := ms
  attributes := attrs
def plain (name : String) (sup : Option ClassId) : Class where
  name := name
  kind := .ordinary
  loader := none
  accessFlags := 33
  super := sup
  interfaces := #[]
  cf := none
  fields := #[]
  methods := #[]
  instanceTypes := #[]
  staticTypes := #[]
  resolved := #[]
  callSites := []
  init := .initialized
  statics := none
  mirror := none

def pool0 : Array CpInfo := pool [(5, u "<init>"), (0, u "()V"), (1, .class_ 10), (1, u "java/lang/Object")] 113

def k0m0 : Method := { name := "<init>", desc := "()V", sig := { parameters := [], returnType := none }, accessFlags := 1, code := none }
/-- java/lang/Object -/
def k0 : Class := { plain "java/lang/Object" none with
  accessFlags := 33
  interfaces := #[]
  cf := some (fileOf pool0 8 #[] #[{ accessFlags := 1, nameIndex := 5, descriptorIndex := 6, attributes := #[] }] 33 0 #[] #[])
  fields := #[]
  methods := #[k0m0]
  instanceTypes := #[]
  staticTypes := #[]
  resolved := Array.replicate 124 none
  statics := none }

def pool1 : Array CpInfo := pool [(2, .class_ 4), (1, u "java/lang/Object"), (0, u "<init>"), (0, u "()V"), (0, .fieldref 8 9), (0, .class_ 10), (0, .nameAndType 11 12), (0, u "com/example/lockstep/lockstep/protocol/Statement$Kind"), (0, u "BEGIN"), (0, u "Lcom/example/lockstep/lockstep/protocol/Statement$Kind;"), (0, .fieldref 8 14), (0, .nameAndType 15 12), (0, u "COMMIT"), (0, .fieldref 8 17), (0, .nameAndType 18 12), (0, u "ROLLBACK"), (0, .fieldref 8 20), (0, .nameAndType 21 12), (0, u "UTILITY"), (0, .fieldref 8 23), (0, .nameAndType 24 12), (0, u "MAINTENANCE"), (0, .fieldref 8 26), (0, .nameAndType 27 12), (0, u "NOT_REPLICATED"), (0, .fieldref 8 29), (0, .nameAndType 30 12), (0, u "TWO_PHASE_COMMIT"), (0, .fieldref 8 32), (0, .nameAndType 33 12), (0, u "OTHER"), (0, .methodref 35 36), (0, .class_ 37), (0, .nameAndType 38 39), (0, u "com/example/lockstep/lockstep/protocol/StatementKindRefusedPinLaw"), (0, u "pick"), (0, u "(I)Lcom/example/lockstep/lockstep/protocol/Statement$Kind;"), (0, .methodref 8 41), (0, .nameAndType 42 43), (0, u "refused"), (0, u "()Z"), (0, .methodref 35 45), (0, .nameAndType 46 47), (0, u "documentedRefused"), (0, u "(I)Z"), (3, u "law")] 6

def k1m0 : Method := { name := "<init>", desc := "()V", sig := { parameters := [], returnType := none }, accessFlags := 2, code := none }
def k1c1 : Code := { maxStack := 2, maxLocals := 1, code := method_2_code, exceptionTable := #[], attributes := #[] }
def k1m1 : Method := { name := "pick", desc := "(I)Lcom/example/lockstep/lockstep/protocol/Statement$Kind;", sig := { parameters := [.int], returnType := some (.object "com/example/lockstep/lockstep/protocol/Statement$Kind") }, accessFlags := 10, code := some k1c1 }
def k1c2 : Code := { maxStack := 2, maxLocals := 1, code := method_3_code, exceptionTable := #[], attributes := #[] }
def k1m2 : Method := { name := "documentedRefused", desc := "(I)Z", sig := { parameters := [.int], returnType := some .boolean }, accessFlags := 10, code := some k1c2 }
def k1c3 : Code := { maxStack := 2, maxLocals := 3, code := code, exceptionTable := #[], attributes := #[] }
def k1m3 : Method := { name := "law", desc := "(I)Z", sig := { parameters := [.int], returnType := some .boolean }, accessFlags := 9, code := some k1c3 }
/-- com/example/lockstep/lockstep/protocol/StatementKindRefusedPinLaw -/
def k1 : Class := { plain "com/example/lockstep/lockstep/protocol/StatementKindRefusedPinLaw" (some 0) with
  accessFlags := 49
  interfaces := #[]
  cf := some (fileOf pool1 35 #[] #[{ accessFlags := 2, nameIndex := 5, descriptorIndex := 6, attributes := #[] }, { accessFlags := 10, nameIndex := 38, descriptorIndex := 39, attributes := #[] }, { accessFlags := 10, nameIndex := 46, descriptorIndex := 47, attributes := #[] }, { accessFlags := 9, nameIndex := 51, descriptorIndex := 47, attributes := #[] }] 49 2 #[] #[])
  fields := #[]
  methods := #[k1m0, k1m1, k1m2, k1m3]
  instanceTypes := #[]
  staticTypes := #[]
  resolved := Array.replicate 58 none
  statics := none }

def pool2 : Array CpInfo := pool [(1, .class_ 2), (0, u "java/lang/constant/Constable"), (0, .class_ 4), (0, u "java/lang/Object")] 6

/-- java/lang/constant/Constable -/
def k2 : Class := { plain "java/lang/constant/Constable" (some 0) with
  accessFlags := 1537
  interfaces := #[]
  cf := some (fileOf pool2 1 #[] #[] 1537 3 #[] #[])
  fields := #[]
  methods := #[]
  instanceTypes := #[]
  staticTypes := #[]
  resolved := Array.replicate 11 none
  statics := none }

def pool3 : Array CpInfo := pool [(1, .class_ 2), (0, u "java/lang/Comparable"), (0, .class_ 4), (0, u "java/lang/Object")] 7

/-- java/lang/Comparable -/
def k3 : Class := { plain "java/lang/Comparable" (some 0) with
  accessFlags := 1537
  interfaces := #[]
  cf := some (fileOf pool3 1 #[] #[] 1537 3 #[] #[])
  fields := #[]
  methods := #[]
  instanceTypes := #[]
  staticTypes := #[]
  resolved := Array.replicate 12 none
  statics := none }

def pool4 : Array CpInfo := pool [(1, .class_ 2), (0, u "java/io/Serializable"), (0, .class_ 4), (0, u "java/lang/Object")] 2

/-- java/io/Serializable -/
def k4 : Class := { plain "java/io/Serializable" (some 0) with
  accessFlags := 1537
  interfaces := #[]
  cf := some (fileOf pool4 1 #[] #[] 1537 3 #[] #[])
  fields := #[]
  methods := #[]
  instanceTypes := #[]
  staticTypes := #[]
  resolved := Array.replicate 7 none
  statics := none }

def pool5 : Array CpInfo := pool [(2, .class_ 4), (1, u "java/lang/Enum"), (0, u "name"), (0, u "Ljava/lang/String;"), (2, u "ordinal"), (0, u "I"), (1, .class_ 14), (1, u "java/lang/Object"), (4, u "hash"), (86, .class_ 108), (1, u "java/lang/Enum$EnumDesc"), (2, .class_ 112), (0, u "java/lang/constant/Constable"), (0, .class_ 114), (0, u "java/lang/Comparable"), (0, .class_ 116), (0, u "java/io/Serializable")] 87

/-- java/lang/Enum -/
def k5 : Class := { plain "java/lang/Enum" (some 0) with
  accessFlags := 1057
  interfaces := #[2, 3, 4]
  cf := some (fileOf pool5 2 #[.nestMembers #[106]] #[] 1057 12 #[111, 113, 115] #[{ accessFlags := 18, nameIndex := 5, descriptorIndex := 6, attributes := #[] }, { accessFlags := 18, nameIndex := 9, descriptorIndex := 10, attributes := #[] }, { accessFlags := 2, nameIndex := 19, descriptorIndex := 10, attributes := #[] }])
  fields := #[{ name := "name", type := (.object "java/lang/String"), accessFlags := 18, slot := 0, constantValue := 0 }, { name := "ordinal", type := .int, accessFlags := 18, slot := 1, constantValue := 0 }, { name := "hash", type := .int, accessFlags := 2, slot := 2, constantValue := 0 }]
  methods := #[]
  instanceTypes := #[(.object "java/lang/String"), .int, .int]
  staticTypes := #[]
  resolved := Array.replicate 204 none
  statics := none }

def pool6 : Array CpInfo := pool [(1, .class_ 2), (0, u "com/example/lockstep/lockstep/protocol/Statement$Kind"), (2, u "BEGIN"), (0, u "Lcom/example/lockstep/lockstep/protocol/Statement$Kind;"), (2, u "COMMIT"), (2, u "ROLLBACK"), (2, u "UTILITY"), (2, u "MAINTENANCE"), (0, .fieldref 1 20), (0, .nameAndType 21 6), (0, u "NOT_REPLICATED"), (0, .fieldref 1 23), (0, .nameAndType 24 6), (0, u "TWO_PHASE_COMMIT"), (2, u "OTHER"), (2, u "$VALUES"), (0, u "[Lcom/example/lockstep/lockstep/protocol/Statement$Kind;"), (6, .class_ 40), (1, u "java/lang/Enum"), (26, u "refused"), (0, u "()Z"), (6, .class_ 76), (0, u "com/example/lockstep/lockstep/protocol/Statement")] 2

def k6c0 : Code := { maxStack := 2, maxLocals := 1, code := prog_75_method_4_code, exceptionTable := #[], attributes := #[] }
def k6m0 : Method := { name := "refused", desc := "()Z", sig := { parameters := [], returnType := some .boolean }, accessFlags := 1, code := some k6c0 }
/-- com/example/lockstep/lockstep/protocol/Statement$Kind -/
def k6 : Class := { plain "com/example/lockstep/lockstep/protocol/Statement$Kind" (some 5) with
  accessFlags := 16433
  interfaces := #[]
  cf := some (fileOf pool6 1 #[.nestHost 75] #[{ accessFlags := 1, nameIndex := 67, descriptorIndex := 68, attributes := #[] }] 16433 38 #[] #[{ accessFlags := 16409, nameIndex := 5, descriptorIndex := 6, attributes := #[] }, { accessFlags := 16409, nameIndex := 9, descriptorIndex := 6, attributes := #[] }, { accessFlags := 16409, nameIndex := 12, descriptorIndex := 6, attributes := #[] }, { accessFlags := 16409, nameIndex := 15, descriptorIndex := 6, attributes := #[] }, { accessFlags := 16409, nameIndex := 18, descriptorIndex := 6, attributes := #[] }, { accessFlags := 16409, nameIndex := 21, descriptorIndex := 6, attributes := #[] }, { accessFlags := 16409, nameIndex := 24, descriptorIndex := 6, attributes := #[] }, { accessFlags := 16409, nameIndex := 27, descriptorIndex := 6, attributes := #[] }, { accessFlags := 4122, nameIndex := 30, descriptorIndex := 31, attributes := #[] }])
  fields := #[{ name := "BEGIN", type := (.object "com/example/lockstep/lockstep/protocol/Statement$Kind"), accessFlags := 16409, slot := 0, constantValue := 0 }, { name := "COMMIT", type := (.object "com/example/lockstep/lockstep/protocol/Statement$Kind"), accessFlags := 16409, slot := 1, constantValue := 0 }, { name := "ROLLBACK", type := (.object "com/example/lockstep/lockstep/protocol/Statement$Kind"), accessFlags := 16409, slot := 2, constantValue := 0 }, { name := "UTILITY", type := (.object "com/example/lockstep/lockstep/protocol/Statement$Kind"), accessFlags := 16409, slot := 3, constantValue := 0 }, { name := "MAINTENANCE", type := (.object "com/example/lockstep/lockstep/protocol/Statement$Kind"), accessFlags := 16409, slot := 4, constantValue := 0 }, { name := "NOT_REPLICATED", type := (.object "com/example/lockstep/lockstep/protocol/Statement$Kind"), accessFlags := 16409, slot := 5, constantValue := 0 }, { name := "TWO_PHASE_COMMIT", type := (.object "com/example/lockstep/lockstep/protocol/Statement$Kind"), accessFlags := 16409, slot := 6, constantValue := 0 }, { name := "OTHER", type := (.object "com/example/lockstep/lockstep/protocol/Statement$Kind"), accessFlags := 16409, slot := 7, constantValue := 0 }, { name := "$VALUES", type := (.array (.object "com/example/lockstep/lockstep/protocol/Statement$Kind")), accessFlags := 4122, slot := 8, constantValue := 0 }]
  methods := #[k6m0]
  instanceTypes := #[(.object "java/lang/String"), .int, .int]
  staticTypes := #[(.object "com/example/lockstep/lockstep/protocol/Statement$Kind"), (.object "com/example/lockstep/lockstep/protocol/Statement$Kind"), (.object "com/example/lockstep/lockstep/protocol/Statement$Kind"), (.object "com/example/lockstep/lockstep/protocol/Statement$Kind"), (.object "com/example/lockstep/lockstep/protocol/Statement$Kind"), (.object "com/example/lockstep/lockstep/protocol/Statement$Kind"), (.object "com/example/lockstep/lockstep/protocol/Statement$Kind"), (.object "com/example/lockstep/lockstep/protocol/Statement$Kind"), (.array (.object "com/example/lockstep/lockstep/protocol/Statement$Kind"))]
  resolved := Array.replicate 79 none
  statics := some 0 }

def pool7 : Array CpInfo := pool [(1, u "java/lang/Cloneable"), (0, .class_ 1), (0, u "java/lang/Object"), (0, .class_ 3)] 3

/-- java/lang/Cloneable -/
def k7 : Class := { plain "java/lang/Cloneable" (some 0) with
  accessFlags := 1537
  interfaces := #[]
  cf := some (fileOf pool7 2 #[] #[] 1537 4 #[] #[])
  fields := #[]
  methods := #[]
  instanceTypes := #[]
  staticTypes := #[]
  resolved := Array.replicate 8 none
  statics := none }

/-- the primitive byte -/
def k8 : Class := { plain "byte" none with kind := .primitive 'B', accessFlags := 0x411 }
/-- [B -/
def k9 : Class := { plain "[B" (some 0) with kind := .array 8 .byte, interfaces := #[7, 4], accessFlags := 1041 }

/-- the primitive int -/
def k10 : Class := { plain "int" none with kind := .primitive 'I', accessFlags := 0x411 }
/-- [I -/
def k11 : Class := { plain "[I" (some 0) with kind := .array 10 .int, interfaces := #[7, 4], accessFlags := 1041 }

def heap : Heap := #[{ cls := 6, slots := #[.ref 1, .ref 2, .ref 3, .ref 4, .ref 5, .ref 6, .ref 7, .ref 8, .null], vm := .statics 6 },
  { cls := 6, slots := #[.null, .int 0, .int 0], vm := .none },
  { cls := 6, slots := #[.null, .int 1, .int 0], vm := .none },
  { cls := 6, slots := #[.null, .int 2, .int 0], vm := .none },
  { cls := 6, slots := #[.null, .int 3, .int 0], vm := .none },
  { cls := 6, slots := #[.null, .int 4, .int 0], vm := .none },
  { cls := 6, slots := #[.null, .int 5, .int 0], vm := .none },
  { cls := 6, slots := #[.null, .int 6, .int 0], vm := .none },
  { cls := 6, slots := #[.null, .int 7, .int 0], vm := .none }]
def classes : Array Class := #[k0, k1, k2, k3, k4, k5, k6, k7, k8, k9, k10, k11]
def interned : List (Array UInt16 × Addr) := []
def slotsUsed : Nat := 33
def theMethod : MethodId := ⟨1, 3⟩
def args0 : Array Value := #[.int 5]
def aboutOver (below : List Frame) : State where
  vm := { classes := classes, interned := interned.toArray }
  heap := heap
  slotsUsed := slotsUsed
  threads := #[{ frames := .invoking theMethod args0 :: below }]
def below0 : List Frame := [.native { method := ⟨0, 0⟩, args := #[] }]
def about1 : State := aboutOver below0
def p0 : Program := .bare "" "" ""
def e0 : Env := launch0.env 0 0 0
theorem w_frames : about1.frames = Frame.invoking theMethod args0 :: below0 := rfl
set_option maxRecDepth 65536 in
theorem w_args : argsFit about1.vm theMethod args0 = true := by decide +kernel
set_option maxRecDepth 65536 in
theorem w_heap : heapFits about1 = true := by decide +kernel
set_option maxRecDepth 65536 in
theorem w_runnable : about1.curStatus? = some .runnable := by decide +kernel
set_option maxRecDepth 65536 in
theorem w_alone : about1.alone = true := by decide +kernel
set_option maxRecDepth 65536 in
theorem w_named : about1.methodNamed? x = some theMethod := by decide +kernel
set_option maxRecDepth 65536 in
theorem w_hears : about1.hears theMethod below0 = true := by decide +kernel
set_option maxRecDepth 65536 in
theorem w_ripe : about1.ripe theMethod args0 below0 = true := by decide +kernel
theorem w_running : about1.status = .running := rfl
set_option maxRecDepth 65536 in
theorem w_room : about1.hasRoom e0.platform room_1 = true :=
  launch0.hasRoom_least _ room_1 (by decide +kernel) (by decide +kernel) (by decide +kernel) (by decide +kernel) (by decide +kernel) (by decide +kernel)
theorem allAtoms_all (ts : List Jvm.Cond) (a : Array Jvm.Value) (st : Jvm.State) : (allAtoms ts).before a st = ts.all (fun c => c.before a st) := by
  induction ts with
  | nil => rfl
  | cons c t ih =>
    show (Jvm.Cond.and c (allAtoms t)).before a st = _
    rw [Jvm.Cond.before_and, ih, List.all_cons]
def words1 : List Jvm.Cond := Jvm.Cond.code x code maxLocals ret :: tables_1
/-- a 'code' word, met by the world's own term for the bytes: nothing is compared byte by byte -/
theorem code_word {y : MethodName} {bytes : ByteArray} {mx : Nat} {rt : Option FieldType} {a : Array Value} {s : State} {m : MethodId} {meth : Method} {c : Code} (h1 : s.methodNamed? y = some m) (h2 : s.vm.method? m = some meth) (h3 : meth.code = some c) (h4 : c.code = bytes)
    (h5 : (c.maxLocals == mx && c.exceptionTable.isEmpty && decide (c.maxStack ≤ mostOperands) && decide (meth.sig.returnType = rt) && !meth.locks && decide (parseMethodDescriptor y.desc = some meth.sig)) = true) : (Jvm.Cond.code y bytes mx rt).before a s = true := by
  simp only [Bool.and_eq_true, beq_iff_eq, Bool.not_eq_true', decide_eq_true_eq] at h5
  obtain ⟨⟨⟨⟨⟨g1, g2⟩, g3⟩, g4⟩, g5⟩, g6⟩ := h5
  simp [Cond.before, Cond.holds, Cond.value, h1, h2, h3, h4, g1, g2, g3, g4, g5, g6]
def isCode : Jvm.Cond → Bool
  | .code _ _ _ _ => true
  | _ => false
theorem all_split {L : List Jvm.Cond} {P : Jvm.Cond → Bool} (h1 : L.all (fun c => isCode c || P c) = true) (h2 : ∀ c ∈ L.filter isCode, P c = true) : L.all P = true := by
  refine List.all_eq_true.mpr fun c hc => ?_
  have h := List.all_eq_true.mp h1 c hc
  rcases Bool.eq_false_or_eq_true (isCode c) with hi | hi
  · exact h2 c (List.mem_filter.mpr ⟨hc, hi⟩)
  · simpa [hi] using h
set_option maxRecDepth 65536 in
theorem w_c0 : (Jvm.Cond.code x code maxLocals ret).before args0 about1 = true := code_word (m := ⟨1, 3⟩) (meth := k1m3) (c := k1c3) (by decide +kernel) rfl rfl rfl (by decide +kernel)
set_option maxRecDepth 65536 in
theorem w_c1 : (Jvm.Cond.code ({ cls := "com/example/lockstep/lockstep/protocol/StatementKindRefusedPinLaw", name := "pick", desc := "(I)Lcom/example/lockstep/lockstep/protocol/Statement$Kind;" } : Jvm.MethodName) method_2_code (1 : Nat) (Option.some (Jvm.ClassFile.FieldType.object "com/example/lockstep/lockstep/protocol/Statement$Kind"))).before args0 about1 = true := code_word (m := ⟨1, 1⟩) (meth := k1m1) (c := k1c1) (by decide +kernel) rfl rfl rfl (by decide +kernel)
set_option maxRecDepth 65536 in
theorem w_c2 : (Jvm.Cond.code ({ cls := "com/example/lockstep/lockstep/protocol/Statement$Kind", name := "refused", desc := "()Z" } : Jvm.MethodName) prog_75_method_4_code (1 : Nat) (Option.some Jvm.ClassFile.FieldType.boolean)).before args0 about1 = true := code_word (m := ⟨6, 0⟩) (meth := k6m0) (c := k6c0) (by decide +kernel) rfl rfl rfl (by decide +kernel)
set_option maxRecDepth 65536 in
theorem w_c3 : (Jvm.Cond.code ({ cls := "com/example/lockstep/lockstep/protocol/StatementKindRefusedPinLaw", name := "documentedRefused", desc := "(I)Z" } : Jvm.MethodName) method_3_code (1 : Nat) (Option.some Jvm.ClassFile.FieldType.boolean)).before args0 about1 = true := code_word (m := ⟨1, 2⟩) (meth := k1m2) (c := k1c2) (by decide +kernel) rfl rfl rfl (by decide +kernel)
def codes1 : List Jvm.Cond := [Jvm.Cond.code x code maxLocals ret, Jvm.Cond.code ({ cls := "com/example/lockstep/lockstep/protocol/StatementKindRefusedPinLaw", name := "pick", desc := "(I)Lcom/example/lockstep/lockstep/protocol/Statement$Kind;" } : Jvm.MethodName) method_2_code (1 : Nat) (Option.some (Jvm.ClassFile.FieldType.object "com/example/lockstep/lockstep/protocol/Statement$Kind")), Jvm.Cond.code ({ cls := "com/example/lockstep/lockstep/protocol/Statement$Kind", name := "refused", desc := "()Z" } : Jvm.MethodName) prog_75_method_4_code (1 : Nat) (Option.some Jvm.ClassFile.FieldType.boolean), Jvm.Cond.code ({ cls := "com/example/lockstep/lockstep/protocol/StatementKindRefusedPinLaw", name := "documentedRefused", desc := "(I)Z" } : Jvm.MethodName) method_3_code (1 : Nat) (Option.some Jvm.ClassFile.FieldType.boolean)]
set_option maxRecDepth 65536 in
theorem codes_eq : words1.filter isCode = codes1 := rfl
theorem w_codes : ∀ c ∈ words1.filter isCode, c.before args0 about1 = true := by
  rw [codes_eq]
  intro c hc
  simp only [codes1, List.mem_cons, List.not_mem_nil, or_false] at hc
  rcases hc with rfl | rfl | rfl | rfl
  · exact w_c0
  · exact w_c1
  · exact w_c2
  · exact w_c3
set_option maxRecDepth 65536 in
theorem w_t1 : (words1.take 24).all (fun c => isCode c || c.before args0 about1) = true := by decide +kernel
set_option maxRecDepth 65536 in
theorem w_t2 : (words1.drop 24).all (fun c => isCode c || c.before args0 about1) = true := by decide +kernel
theorem w_tables : (allAtoms (Jvm.Cond.code x code maxLocals ret :: tables_1)).before args0 about1 = true := by
  rw [allAtoms_all]
  show words1.all (fun c => c.before args0 about1) = true
  refine all_split ?_ w_codes
  rw [← List.take_append_drop 24 words1, List.all_append, w_t1, w_t2]
  rfl
set_option maxRecDepth 65536 in
theorem w_case : (Jvm.Cond.and given_1 narrow_1).before args0 about1 = true := by decide +kernel
theorem w_applies : (headSpec (Jvm.Cond.code x code maxLocals ret :: tables_1) room_1).applies x e0.platform about1 = true :=
  (Spec.applies_iff w_frames).mpr ⟨w_running, w_runnable, w_alone, w_named, w_hears, w_ripe, w_room, w_tables⟩
theorem atStart : AtStart classFile x code maxLocals ret World_1 tables_1 room_1 Calls_1 rest_1 Pre_1 launch0 p0 e0 about1 theMethod args0 below0 :=
  ⟨lists_1, trivial, launch0.admits_env _ _ _, launch0.least_env, fairChoices_fair.cas, fairChoices_fair.clock, w_frames, w_args, w_heap, w_applies, trivial, trivial, w_case⟩
end start1
theorem witness_1 : WitnessClaimed_1 := ⟨start1.p0, start1.e0, start1.about1, start1.theMethod, start1.args0, start1.below0, start1.atStart⟩
end Jvm.Pilot.@@N@@
