import JvmDerived
import JvmDerived.Pilot.@@N@@Statement
import JvmDerived.Pilot.@@N@@Code
set_option linter.unusedVariables false
set_option linter.unusedSimpArgs false
namespace Jvm.Pilot.@@N@@
open Jvm Jvm.ClassFile Sem Op Lib Jvm.Free Jvm.Stand Jvm.LawKit Jvm.RoadKit Bundle Jvm.Pilot.@@N@@.Jvm.D
/-! the run comes to an end that answers Q -/
def Go (p : Program) (e : Env) (below : List Frame) (Q : Outcome → State → Prop) (T : State) (g : JFrame) : Prop :=
  ∃ s₂ o, Steps p.tables e below (T.setTop g) s₂ ∧ s₂.status = .running ∧ Ended s₂ below o ∧ Q o s₂
section Own
variable {p : Program} {l : Launch} {e : Env} {R : Room} {s : State} {m : MethodId} {args : Array Value} {below : List Frame} {meth : Method} {c : Code} {T T' : State} {locs : List Loc} {cells slots : Nat} {Q : Outcome → State → Prop} {g g' : JFrame}
theorem Go.of (k : ∀ t, Steps p.tables e below (T'.setTop g') t → Steps p.tables e below (T.setTop g) t) (h : Go p e below Q T' g') : Go p e below Q T g := by
  obtain ⟨u, o, h1, h2⟩ := h
  exact ⟨u, o, k _ h1, h2⟩
theorem Go.via (k : Steps p.tables e below (T.setTop g) (T'.setTop g')) (h : Go p e below Q T' g') : Go p e below Q T g := by
  obtain ⟨u, o, h1, h2⟩ := h
  exact ⟨u, o, k.trans h1, h2⟩
theorem Go.cast (q : g = g') (h : Go p e below Q T g') : Go p e below Q T g := q ▸ h
theorem own_out (X : Stand p l e R s m args below meth c T locs cells slots) {v : Option Value} (hv : meth.sig.returnType = none → v = none) (hlocks : meth.locks = false)
    (k : ∀ fs : List Frame, (∀ (f : JFrame) (acts : List Action), f.method = m → f.locked = none → f.entered = [] → (doReturn e (T.setTop f) acts v).1 = T.setFrames fs) → Steps p.tables e below (T.setTop g) (T.setFrames fs))
    (hQ : ∀ u : State, u.heap = T.heap → FrameEnd s (.returned v) u locs cells slots → Q (.returned v) u) : Go p e below Q T g := by
  obtain ⟨fs, hr, hrun, hended, hW, hsame⟩ := X.leave hv hlocks
  exact ⟨_, _, k fs hr, hrun, hended, hQ _ rfl ⟨⟨_, rfl⟩, hW, hsame⟩⟩
theorem own_retN (X : Stand p l e R s m args below meth c T locs cells slots) (hx : p.tables.exec = Jvm.exec) (hlocks : meth.locks = false) {pc : Nat} {Ls : Array Slot} {z : Int32} {t : FieldType} {rest : List Value} (hret : meth.sig.returnType = some t) (ht : t = .boolean ∨ t = .byte ∨ t = .char ∨ t = .short)
    (hd : decode c.code pc = .ok (.ireturn, 1)) (hQ : ∀ u : State, u.heap = T.heap → FrameEnd s (.returned (some (.int (nar t z)))) u locs cells slots → Q (.returned (some (.int (nar t z)))) u) : Go p e below Q T (mkF m pc Ls (.int z :: rest)) :=
  own_out X (fun h => by rw [hret] at h; cases h) hlocks (fun fs hr => retN X hx hret ht hd hr) hQ
theorem own_retW (X : Stand p l e R s m args below meth c T locs cells slots) (hx : p.tables.exec = Jvm.exec) (hlocks : meth.locks = false) {pc : Nat} {Ls : Array Slot} {w : Value} {t : FieldType} {i : Instr} {rest : List Value} (hret : meth.sig.returnType = some t) (hn : narrow t w = w)
    (hi : (i = .ireturn ∧ (t = .int ∨ t = .boolean ∨ t = .byte ∨ t = .char ∨ t = .short) ∧ ∃ z, w = .int z) ∨ (i = .lreturn ∧ t = .long ∧ ∃ z, w = .long z) ∨ (i = .dreturn ∧ t = .double ∧ ∃ z, w = .double z) ∨ (i = .freturn ∧ t = .float ∧ ∃ z, w = .float z) ∨ (i = .areturn ∧ t.isReference = true ∧ w.isRef = true))
    (hd : decode c.code pc = .ok (i, 1)) (hQ : ∀ u : State, u.heap = T.heap → FrameEnd s (.returned (some w)) u locs cells slots → Q (.returned (some w)) u) : Go p e below Q T (mkF m pc Ls (w :: rest)) :=
  own_out X (fun h => by rw [hret] at h; cases h) hlocks (fun fs hr => retOut X hx hret hn hi hd hr) hQ
theorem own_ret0 (X : Stand p l e R s m args below meth c T locs cells slots) (hx : p.tables.exec = Jvm.exec) (hlocks : meth.locks = false) {pc : Nat} {Ls : Array Slot} (hret : meth.sig.returnType = none)
    (hd : decode c.code pc = .ok (.return_, 1)) (hQ : ∀ u : State, u.heap = T.heap → FrameEnd s (.returned none) u locs cells slots → Q (.returned none) u) : Go p e below Q T (mkF m pc Ls []) :=
  own_out X (fun _ => rfl) hlocks (fun fs hr => X.returnOut hx hret hd hr) hQ
theorem own_mono {o : Outcome} {u : State} {k n k' n' : Nat} (h : FrameEnd s o u locs k n) (hk : k ≤ k') (hn : n ≤ n') : FrameEnd s o u locs k' n' := ⟨h.1, h.2.1, h.2.2.mono hk hn⟩
end Own
theorem d1_0 : decode prog_10_method_17_code 0 = .ok (.iload_n 0, 1) := by decide +kernel
theorem d1_1 : decode prog_10_method_17_code 1 = .ok (.bipush 65, 2) := by decide +kernel
theorem d1_3 : decode prog_10_method_17_code 3 = .ok (.if_icmp .lt 9, 3) := by decide +kernel
theorem d1_6 : decode prog_10_method_17_code 6 = .ok (.iload_n 0, 1) := by decide +kernel
theorem d1_7 : decode prog_10_method_17_code 7 = .ok (.bipush 90, 2) := by decide +kernel
theorem d1_9 : decode prog_10_method_17_code 9 = .ok (.if_icmp .le 33, 3) := by decide +kernel
theorem d1_12 : decode prog_10_method_17_code 12 = .ok (.iload_n 0, 1) := by decide +kernel
theorem d1_13 : decode prog_10_method_17_code 13 = .ok (.bipush 97, 2) := by decide +kernel
theorem d1_15 : decode prog_10_method_17_code 15 = .ok (.if_icmp .lt 9, 3) := by decide +kernel
theorem d1_18 : decode prog_10_method_17_code 18 = .ok (.iload_n 0, 1) := by decide +kernel
theorem d1_19 : decode prog_10_method_17_code 19 = .ok (.bipush 122, 2) := by decide +kernel
theorem d1_21 : decode prog_10_method_17_code 21 = .ok (.if_icmp .le 21, 3) := by decide +kernel
theorem d1_24 : decode prog_10_method_17_code 24 = .ok (.iload_n 0, 1) := by decide +kernel
theorem d1_25 : decode prog_10_method_17_code 25 = .ok (.bipush 48, 2) := by decide +kernel
theorem d1_27 : decode prog_10_method_17_code 27 = .ok (.if_icmp .lt 9, 3) := by decide +kernel
theorem d1_30 : decode prog_10_method_17_code 30 = .ok (.iload_n 0, 1) := by decide +kernel
theorem d1_31 : decode prog_10_method_17_code 31 = .ok (.bipush 57, 2) := by decide +kernel
theorem d1_33 : decode prog_10_method_17_code 33 = .ok (.if_icmp .le 9, 3) := by decide +kernel
theorem d1_36 : decode prog_10_method_17_code 36 = .ok (.iload_n 0, 1) := by decide +kernel
theorem d1_37 : decode prog_10_method_17_code 37 = .ok (.bipush 95, 2) := by decide +kernel
theorem d1_39 : decode prog_10_method_17_code 39 = .ok (.if_icmp .ne 7, 3) := by decide +kernel
theorem d1_42 : decode prog_10_method_17_code 42 = .ok (.iconst 1, 1) := by decide +kernel
theorem d1_43 : decode prog_10_method_17_code 43 = .ok (.goto 4, 3) := by decide +kernel
theorem d1_46 : decode prog_10_method_17_code 46 = .ok (.iconst 0, 1) := by decide +kernel
theorem d1_47 : decode prog_10_method_17_code 47 = .ok (.ireturn, 1) := by decide +kernel
theorem pn_0 : plainName "com/example/interleave/interleave/Database" = true := by first | (simp [plainName, overriddenIn]; done) | decide +kernel
theorem ef_1 (m : MethodId) (i1 : Int32)  : entryFrame m #[(.int i1)] 1 = mkF m 0 #[.val (.int i1)] [] := by
  first | (simp [entryFrame, mkF, argsToLocals, Value.category]; done) | rfl
def F1 (i1 : Int32) : Int32 := (if i1 < (65 : Int32) then (if i1 < (97 : Int32) then (if i1 < (48 : Int32) then (if i1 = (95 : Int32) then (nar .boolean (1 : Int32)) else (nar .boolean (0 : Int32))) else (if (57 : Int32) < i1 then (if i1 = (95 : Int32) then (nar .boolean (1 : Int32)) else (nar .boolean (0 : Int32))) else (nar .boolean (1 : Int32)))) else (if (122 : Int32) < i1 then (if i1 < (48 : Int32) then (if i1 = (95 : Int32) then (nar .boolean (1 : Int32)) else (nar .boolean (0 : Int32))) else (if (57 : Int32) < i1 then (if i1 = (95 : Int32) then (nar .boolean (1 : Int32)) else (nar .boolean (0 : Int32))) else (nar .boolean (1 : Int32)))) else (nar .boolean (1 : Int32)))) else (if (90 : Int32) < i1 then (if i1 < (97 : Int32) then (if i1 < (48 : Int32) then (if i1 = (95 : Int32) then (nar .boolean (1 : Int32)) else (nar .boolean (0 : Int32))) else (if (57 : Int32) < i1 then (if i1 = (95 : Int32) then (nar .boolean (1 : Int32)) else (nar .boolean (0 : Int32))) else (nar .boolean (1 : Int32)))) else (if (122 : Int32) < i1 then (if i1 < (48 : Int32) then (if i1 = (95 : Int32) then (nar .boolean (1 : Int32)) else (nar .boolean (0 : Int32))) else (if (57 : Int32) < i1 then (if i1 = (95 : Int32) then (nar .boolean (1 : Int32)) else (nar .boolean (0 : Int32))) else (nar .boolean (1 : Int32)))) else (nar .boolean (1 : Int32)))) else (nar .boolean (1 : Int32))))
def Q1 (Z : State) (i1 : Int32) (h0 : Heap) (n0 : Nat) (v : Option Value) (h : Heap) (L : List Loc) : Prop := v = some (.int (F1 i1)) ∧ Fr n0 L ∧ h = h0
set_option maxRecDepth 65536 in
set_option maxHeartbeats 40000000 in
theorem rm1 (l : Launch) (Z : State) (a0 : Array Value) (hw : ∀ d ∈ tables_1, d.before a0 Z = true) (ws : List Jvm.Cond) (i1 : Int32) (h0 : Heap) (n0 : Nat) (Z0 : n0 ≤ h0.size)  :
    MetFree l (⟨"com/example/interleave/interleave/Database", "isKeyCharacter", "(C)Z"⟩ : MethodName) (head1 (Jvm.Cond.code (⟨"com/example/interleave/interleave/Database", "isKeyCharacter", "(C)Z"⟩ : MethodName) prog_10_method_17_code 1 (some .boolean) :: ws) ({ frames := 0, cells := 0, slots := 0, locals := 0 } : Room)) (fun a U => a = #[(.int i1)] ∧ Z.Warmed39 U.vm ∧ U.heap = h0) (fun _ _ _ _ _ => True) (fun _ U o U' => ∃ v L, o = .returned v ∧ Q1 Z i1 h0 n0 v U'.heap L ∧ FrameEnd U o U' L ({ frames := 0, cells := 0, slots := 0, locals := 0 } : Room).cells ({ frames := 0, cells := 0, slots := 0, locals := 0 } : Room).slots) := by
  refine MetFree.of_bodySF (plainFor_of_name pn_0) hisR ?_
  intro p e s m args below meth c s₁ Bd hml0 hP hK
  obtain ⟨rfl, hZ, hh⟩ := hP
  have hx := Bd.exec
  have hby := Bd.bytes
  have hml : c.maxLocals = 1 := hml0
  have hown : s.vm.findClass "com/example/interleave/interleave/Database" = some m.cls := findClass_of_methodNamed Bd.named
  have hnm := (name_of_methodNamed Bd.named Bd.method).1
  have X0 : Stand p l e ({ frames := 0, cells := 0, slots := 0, locals := 0 } : Room) s m #[(.int i1)] below meth c s₁ [] 0 0 := Stand.of_body Bd
  have e0 : s₁.heap = h0 := by rw [← hh, Bd.state]; rfl
  have N0 := Fr.nil n0
  suffices H : ∀ Qo : Outcome → State → Prop, (∀ (v : Option Value) (u : State) (L : List Loc), Q1 Z i1 h0 n0 v u.heap L → FrameEnd s (.returned v) u L ({ frames := 0, cells := 0, slots := 0, locals := 0 } : Room).cells ({ frames := 0, cells := 0, slots := 0, locals := 0 } : Room).slots → Qo (.returned v) u) → Go p e below Qo s₁ (mkF m 0 #[.val (.int i1)] []) from
    Go.cast (ef_1 m i1) (H _ fun v u L h1 h2 => ⟨v, L, rfl, h1, h2⟩)
  intro Qo hQo
  show Go p e below Qo s₁ (mkF m 0 #[.val (.int i1)] [])
  refine Go.of (fun t k => XS.iloadN X0.here hx rfl (hb hby d1_0) rfl  k) ?_
  show Go p e below Qo s₁ (mkF m 1 #[.val (.int i1)] [(.int i1)])
  refine Go.of (fun t k => XS.bipush X0.here hx rfl (hb hby d1_1) k) ?_
  show Go p e below Qo s₁ (mkF m 3 #[.val (.int i1)] [(.int (65 : Int32)), (.int i1)])
  by_cases hc3_1 : i1 < (65 : Int32)
  · refine Go.of (fun t k => XS.icmpYes X0.here hx rfl (pc0 := 3) (pc' := 12) rfl (hb hby d1_3) rfl (tlt hc3_1).1 (by decide) (by decide) k) ?_
    show Go p e below Qo s₁ (mkF m 12 #[.val (.int i1)] [])
    refine Go.of (fun t k => XS.iloadN X0.here hx rfl (hb hby d1_12) rfl  k) ?_
    show Go p e below Qo s₁ (mkF m 13 #[.val (.int i1)] [(.int i1)])
    refine Go.of (fun t k => XS.bipush X0.here hx rfl (hb hby d1_13) k) ?_
    show Go p e below Qo s₁ (mkF m 15 #[.val (.int i1)] [(.int (97 : Int32)), (.int i1)])
    by_cases hc15_2 : i1 < (97 : Int32)
    · refine Go.of (fun t k => XS.icmpYes X0.here hx rfl (pc0 := 15) (pc' := 24) rfl (hb hby d1_15) rfl (tlt hc15_2).1 (by decide) (by decide) k) ?_
      show Go p e below Qo s₁ (mkF m 24 #[.val (.int i1)] [])
      refine Go.of (fun t k => XS.iloadN X0.here hx rfl (hb hby d1_24) rfl  k) ?_
      show Go p e below Qo s₁ (mkF m 25 #[.val (.int i1)] [(.int i1)])
      refine Go.of (fun t k => XS.bipush X0.here hx rfl (hb hby d1_25) k) ?_
      show Go p e below Qo s₁ (mkF m 27 #[.val (.int i1)] [(.int (48 : Int32)), (.int i1)])
      by_cases hc27_3 : i1 < (48 : Int32)
      · refine Go.of (fun t k => XS.icmpYes X0.here hx rfl (pc0 := 27) (pc' := 36) rfl (hb hby d1_27) rfl (tlt hc27_3).1 (by decide) (by decide) k) ?_
        show Go p e below Qo s₁ (mkF m 36 #[.val (.int i1)] [])
        refine Go.of (fun t k => XS.iloadN X0.here hx rfl (hb hby d1_36) rfl  k) ?_
        show Go p e below Qo s₁ (mkF m 37 #[.val (.int i1)] [(.int i1)])
        refine Go.of (fun t k => XS.bipush X0.here hx rfl (hb hby d1_37) k) ?_
        show Go p e below Qo s₁ (mkF m 39 #[.val (.int i1)] [(.int (95 : Int32)), (.int i1)])
        by_cases hc39_4 : i1 = (95 : Int32)
        · refine Go.of (fun t k => XS.icmpNo X0.here hx rfl (hb hby d1_39) rfl (teq hc39_4).2 k) ?_
          show Go p e below Qo s₁ (mkF m 42 #[.val (.int i1)] [])
          refine Go.of (fun t k => XS.iconst X0.here hx rfl (hb hby d1_42) k) ?_
          show Go p e below Qo s₁ (mkF m 43 #[.val (.int i1)] [(.int (1 : Int32))])
          refine Go.of (fun t k => XS.goto X0.here hx rfl (pc0 := 43) (pc' := 47) rfl (hb hby d1_43) (by decide) (by decide) k) ?_
          show Go p e below Qo s₁ (mkF m 47 #[.val (.int i1)] [(.int (1 : Int32))])
          exact own_retN X0 hx Bd.notSynchronized (t := .boolean) Bd.returns (by simp) (hb hby d1_47) (fun u hu hF => hQo _ _ _ ⟨by rw [show (F1 i1) = nar .boolean (1 : Int32) from by rw [F1, if_pos hc3_1, if_pos hc15_2, if_pos hc27_3, if_pos hc39_4]], N0, by rw [hu, e0]⟩ (own_mono hF (by decide) (by decide)))
        · refine Go.of (fun t k => XS.icmpYes X0.here hx rfl (pc0 := 39) (pc' := 46) rfl (hb hby d1_39) rfl (feq hc39_4).2 (by decide) (by decide) k) ?_
          show Go p e below Qo s₁ (mkF m 46 #[.val (.int i1)] [])
          refine Go.of (fun t k => XS.iconst X0.here hx rfl (hb hby d1_46) k) ?_
          show Go p e below Qo s₁ (mkF m 47 #[.val (.int i1)] [(.int (0 : Int32))])
          exact own_retN X0 hx Bd.notSynchronized (t := .boolean) Bd.returns (by simp) (hb hby d1_47) (fun u hu hF => hQo _ _ _ ⟨by rw [show (F1 i1) = nar .boolean (0 : Int32) from by rw [F1, if_pos hc3_1, if_pos hc15_2, if_pos hc27_3, if_neg hc39_4]], N0, by rw [hu, e0]⟩ (own_mono hF (by decide) (by decide)))
      · refine Go.of (fun t k => XS.icmpNo X0.here hx rfl (hb hby d1_27) rfl (flt hc27_3).1 k) ?_
        show Go p e below Qo s₁ (mkF m 30 #[.val (.int i1)] [])
        refine Go.of (fun t k => XS.iloadN X0.here hx rfl (hb hby d1_30) rfl  k) ?_
        show Go p e below Qo s₁ (mkF m 31 #[.val (.int i1)] [(.int i1)])
        refine Go.of (fun t k => XS.bipush X0.here hx rfl (hb hby d1_31) k) ?_
        show Go p e below Qo s₁ (mkF m 33 #[.val (.int i1)] [(.int (57 : Int32)), (.int i1)])
        by_cases hc33_5 : (57 : Int32) < i1
        · refine Go.of (fun t k => XS.icmpNo X0.here hx rfl (hb hby d1_33) rfl (tlt hc33_5).2.2.2 k) ?_
          show Go p e below Qo s₁ (mkF m 36 #[.val (.int i1)] [])
          refine Go.of (fun t k => XS.iloadN X0.here hx rfl (hb hby d1_36) rfl  k) ?_
          show Go p e below Qo s₁ (mkF m 37 #[.val (.int i1)] [(.int i1)])
          refine Go.of (fun t k => XS.bipush X0.here hx rfl (hb hby d1_37) k) ?_
          show Go p e below Qo s₁ (mkF m 39 #[.val (.int i1)] [(.int (95 : Int32)), (.int i1)])
          by_cases hc39_6 : i1 = (95 : Int32)
          · refine Go.of (fun t k => XS.icmpNo X0.here hx rfl (hb hby d1_39) rfl (teq hc39_6).2 k) ?_
            show Go p e below Qo s₁ (mkF m 42 #[.val (.int i1)] [])
            refine Go.of (fun t k => XS.iconst X0.here hx rfl (hb hby d1_42) k) ?_
            show Go p e below Qo s₁ (mkF m 43 #[.val (.int i1)] [(.int (1 : Int32))])
            refine Go.of (fun t k => XS.goto X0.here hx rfl (pc0 := 43) (pc' := 47) rfl (hb hby d1_43) (by decide) (by decide) k) ?_
            show Go p e below Qo s₁ (mkF m 47 #[.val (.int i1)] [(.int (1 : Int32))])
            exact own_retN X0 hx Bd.notSynchronized (t := .boolean) Bd.returns (by simp) (hb hby d1_47) (fun u hu hF => hQo _ _ _ ⟨by rw [show (F1 i1) = nar .boolean (1 : Int32) from by rw [F1, if_pos hc3_1, if_pos hc15_2, if_neg hc27_3, if_pos hc33_5, if_pos hc39_6]], N0, by rw [hu, e0]⟩ (own_mono hF (by decide) (by decide)))
          · refine Go.of (fun t k => XS.icmpYes X0.here hx rfl (pc0 := 39) (pc' := 46) rfl (hb hby d1_39) rfl (feq hc39_6).2 (by decide) (by decide) k) ?_
            show Go p e below Qo s₁ (mkF m 46 #[.val (.int i1)] [])
            refine Go.of (fun t k => XS.iconst X0.here hx rfl (hb hby d1_46) k) ?_
            show Go p e below Qo s₁ (mkF m 47 #[.val (.int i1)] [(.int (0 : Int32))])
            exact own_retN X0 hx Bd.notSynchronized (t := .boolean) Bd.returns (by simp) (hb hby d1_47) (fun u hu hF => hQo _ _ _ ⟨by rw [show (F1 i1) = nar .boolean (0 : Int32) from by rw [F1, if_pos hc3_1, if_pos hc15_2, if_neg hc27_3, if_pos hc33_5, if_neg hc39_6]], N0, by rw [hu, e0]⟩ (own_mono hF (by decide) (by decide)))
        · refine Go.of (fun t k => XS.icmpYes X0.here hx rfl (pc0 := 33) (pc' := 42) rfl (hb hby d1_33) rfl (flt hc33_5).2.2.2 (by decide) (by decide) k) ?_
          show Go p e below Qo s₁ (mkF m 42 #[.val (.int i1)] [])
          refine Go.of (fun t k => XS.iconst X0.here hx rfl (hb hby d1_42) k) ?_
          show Go p e below Qo s₁ (mkF m 43 #[.val (.int i1)] [(.int (1 : Int32))])
          refine Go.of (fun t k => XS.goto X0.here hx rfl (pc0 := 43) (pc' := 47) rfl (hb hby d1_43) (by decide) (by decide) k) ?_
          show Go p e below Qo s₁ (mkF m 47 #[.val (.int i1)] [(.int (1 : Int32))])
          exact own_retN X0 hx Bd.notSynchronized (t := .boolean) Bd.returns (by simp) (hb hby d1_47) (fun u hu hF => hQo _ _ _ ⟨by rw [show (F1 i1) = nar .boolean (1 : Int32) from by rw [F1, if_pos hc3_1, if_pos hc15_2, if_neg hc27_3, if_neg hc33_5]], N0, by rw [hu, e0]⟩ (own_mono hF (by decide) (by decide)))
    · refine Go.of (fun t k => XS.icmpNo X0.here hx rfl (hb hby d1_15) rfl (flt hc15_2).1 k) ?_
      show Go p e below Qo s₁ (mkF m 18 #[.val (.int i1)] [])
      refine Go.of (fun t k => XS.iloadN X0.here hx rfl (hb hby d1_18) rfl  k) ?_
      show Go p e below Qo s₁ (mkF m 19 #[.val (.int i1)] [(.int i1)])
      refine Go.of (fun t k => XS.bipush X0.here hx rfl (hb hby d1_19) k) ?_
      show Go p e below Qo s₁ (mkF m 21 #[.val (.int i1)] [(.int (122 : Int32)), (.int i1)])
      by_cases hc21_7 : (122 : Int32) < i1
      · refine Go.of (fun t k => XS.icmpNo X0.here hx rfl (hb hby d1_21) rfl (tlt hc21_7).2.2.2 k) ?_
        show Go p e below Qo s₁ (mkF m 24 #[.val (.int i1)] [])
        refine Go.of (fun t k => XS.iloadN X0.here hx rfl (hb hby d1_24) rfl  k) ?_
        show Go p e below Qo s₁ (mkF m 25 #[.val (.int i1)] [(.int i1)])
        refine Go.of (fun t k => XS.bipush X0.here hx rfl (hb hby d1_25) k) ?_
        show Go p e below Qo s₁ (mkF m 27 #[.val (.int i1)] [(.int (48 : Int32)), (.int i1)])
        by_cases hc27_8 : i1 < (48 : Int32)
        · refine Go.of (fun t k => XS.icmpYes X0.here hx rfl (pc0 := 27) (pc' := 36) rfl (hb hby d1_27) rfl (tlt hc27_8).1 (by decide) (by decide) k) ?_
          show Go p e below Qo s₁ (mkF m 36 #[.val (.int i1)] [])
          refine Go.of (fun t k => XS.iloadN X0.here hx rfl (hb hby d1_36) rfl  k) ?_
          show Go p e below Qo s₁ (mkF m 37 #[.val (.int i1)] [(.int i1)])
          refine Go.of (fun t k => XS.bipush X0.here hx rfl (hb hby d1_37) k) ?_
          show Go p e below Qo s₁ (mkF m 39 #[.val (.int i1)] [(.int (95 : Int32)), (.int i1)])
          by_cases hc39_9 : i1 = (95 : Int32)
          · refine Go.of (fun t k => XS.icmpNo X0.here hx rfl (hb hby d1_39) rfl (teq hc39_9).2 k) ?_
            show Go p e below Qo s₁ (mkF m 42 #[.val (.int i1)] [])
            refine Go.of (fun t k => XS.iconst X0.here hx rfl (hb hby d1_42) k) ?_
            show Go p e below Qo s₁ (mkF m 43 #[.val (.int i1)] [(.int (1 : Int32))])
            refine Go.of (fun t k => XS.goto X0.here hx rfl (pc0 := 43) (pc' := 47) rfl (hb hby d1_43) (by decide) (by decide) k) ?_
            show Go p e below Qo s₁ (mkF m 47 #[.val (.int i1)] [(.int (1 : Int32))])
            exact own_retN X0 hx Bd.notSynchronized (t := .boolean) Bd.returns (by simp) (hb hby d1_47) (fun u hu hF => hQo _ _ _ ⟨by rw [show (F1 i1) = nar .boolean (1 : Int32) from by rw [F1, if_pos hc3_1, if_neg hc15_2, if_pos hc21_7, if_pos hc27_8, if_pos hc39_9]], N0, by rw [hu, e0]⟩ (own_mono hF (by decide) (by decide)))
          · refine Go.of (fun t k => XS.icmpYes X0.here hx rfl (pc0 := 39) (pc' := 46) rfl (hb hby d1_39) rfl (feq hc39_9).2 (by decide) (by decide) k) ?_
            show Go p e below Qo s₁ (mkF m 46 #[.val (.int i1)] [])
            refine Go.of (fun t k => XS.iconst X0.here hx rfl (hb hby d1_46) k) ?_
            show Go p e below Qo s₁ (mkF m 47 #[.val (.int i1)] [(.int (0 : Int32))])
            exact own_retN X0 hx Bd.notSynchronized (t := .boolean) Bd.returns (by simp) (hb hby d1_47) (fun u hu hF => hQo _ _ _ ⟨by rw [show (F1 i1) = nar .boolean (0 : Int32) from by rw [F1, if_pos hc3_1, if_neg hc15_2, if_pos hc21_7, if_pos hc27_8, if_neg hc39_9]], N0, by rw [hu, e0]⟩ (own_mono hF (by decide) (by decide)))
        · refine Go.of (fun t k => XS.icmpNo X0.here hx rfl (hb hby d1_27) rfl (flt hc27_8).1 k) ?_
          show Go p e below Qo s₁ (mkF m 30 #[.val (.int i1)] [])
          refine Go.of (fun t k => XS.iloadN X0.here hx rfl (hb hby d1_30) rfl  k) ?_
          show Go p e below Qo s₁ (mkF m 31 #[.val (.int i1)] [(.int i1)])
          refine Go.of (fun t k => XS.bipush X0.here hx rfl (hb hby d1_31) k) ?_
          show Go p e below Qo s₁ (mkF m 33 #[.val (.int i1)] [(.int (57 : Int32)), (.int i1)])
          by_cases hc33_10 : (57 : Int32) < i1
          · refine Go.of (fun t k => XS.icmpNo X0.here hx rfl (hb hby d1_33) rfl (tlt hc33_10).2.2.2 k) ?_
            show Go p e below Qo s₁ (mkF m 36 #[.val (.int i1)] [])
            refine Go.of (fun t k => XS.iloadN X0.here hx rfl (hb hby d1_36) rfl  k) ?_
            show Go p e below Qo s₁ (mkF m 37 #[.val (.int i1)] [(.int i1)])
            refine Go.of (fun t k => XS.bipush X0.here hx rfl (hb hby d1_37) k) ?_
            show Go p e below Qo s₁ (mkF m 39 #[.val (.int i1)] [(.int (95 : Int32)), (.int i1)])
            by_cases hc39_11 : i1 = (95 : Int32)
            · refine Go.of (fun t k => XS.icmpNo X0.here hx rfl (hb hby d1_39) rfl (teq hc39_11).2 k) ?_
              show Go p e below Qo s₁ (mkF m 42 #[.val (.int i1)] [])
              refine Go.of (fun t k => XS.iconst X0.here hx rfl (hb hby d1_42) k) ?_
              show Go p e below Qo s₁ (mkF m 43 #[.val (.int i1)] [(.int (1 : Int32))])
              refine Go.of (fun t k => XS.goto X0.here hx rfl (pc0 := 43) (pc' := 47) rfl (hb hby d1_43) (by decide) (by decide) k) ?_
              show Go p e below Qo s₁ (mkF m 47 #[.val (.int i1)] [(.int (1 : Int32))])
              exact own_retN X0 hx Bd.notSynchronized (t := .boolean) Bd.returns (by simp) (hb hby d1_47) (fun u hu hF => hQo _ _ _ ⟨by rw [show (F1 i1) = nar .boolean (1 : Int32) from by rw [F1, if_pos hc3_1, if_neg hc15_2, if_pos hc21_7, if_neg hc27_8, if_pos hc33_10, if_pos hc39_11]], N0, by rw [hu, e0]⟩ (own_mono hF (by decide) (by decide)))
            · refine Go.of (fun t k => XS.icmpYes X0.here hx rfl (pc0 := 39) (pc' := 46) rfl (hb hby d1_39) rfl (feq hc39_11).2 (by decide) (by decide) k) ?_
              show Go p e below Qo s₁ (mkF m 46 #[.val (.int i1)] [])
              refine Go.of (fun t k => XS.iconst X0.here hx rfl (hb hby d1_46) k) ?_
              show Go p e below Qo s₁ (mkF m 47 #[.val (.int i1)] [(.int (0 : Int32))])
              exact own_retN X0 hx Bd.notSynchronized (t := .boolean) Bd.returns (by simp) (hb hby d1_47) (fun u hu hF => hQo _ _ _ ⟨by rw [show (F1 i1) = nar .boolean (0 : Int32) from by rw [F1, if_pos hc3_1, if_neg hc15_2, if_pos hc21_7, if_neg hc27_8, if_pos hc33_10, if_neg hc39_11]], N0, by rw [hu, e0]⟩ (own_mono hF (by decide) (by decide)))
          · refine Go.of (fun t k => XS.icmpYes X0.here hx rfl (pc0 := 33) (pc' := 42) rfl (hb hby d1_33) rfl (flt hc33_10).2.2.2 (by decide) (by decide) k) ?_
            show Go p e below Qo s₁ (mkF m 42 #[.val (.int i1)] [])
            refine Go.of (fun t k => XS.iconst X0.here hx rfl (hb hby d1_42) k) ?_
            show Go p e below Qo s₁ (mkF m 43 #[.val (.int i1)] [(.int (1 : Int32))])
            refine Go.of (fun t k => XS.goto X0.here hx rfl (pc0 := 43) (pc' := 47) rfl (hb hby d1_43) (by decide) (by decide) k) ?_
            show Go p e below Qo s₁ (mkF m 47 #[.val (.int i1)] [(.int (1 : Int32))])
            exact own_retN X0 hx Bd.notSynchronized (t := .boolean) Bd.returns (by simp) (hb hby d1_47) (fun u hu hF => hQo _ _ _ ⟨by rw [show (F1 i1) = nar .boolean (1 : Int32) from by rw [F1, if_pos hc3_1, if_neg hc15_2, if_pos hc21_7, if_neg hc27_8, if_neg hc33_10]], N0, by rw [hu, e0]⟩ (own_mono hF (by decide) (by decide)))
      · refine Go.of (fun t k => XS.icmpYes X0.here hx rfl (pc0 := 21) (pc' := 42) rfl (hb hby d1_21) rfl (flt hc21_7).2.2.2 (by decide) (by decide) k) ?_
        show Go p e below Qo s₁ (mkF m 42 #[.val (.int i1)] [])
        refine Go.of (fun t k => XS.iconst X0.here hx rfl (hb hby d1_42) k) ?_
        show Go p e below Qo s₁ (mkF m 43 #[.val (.int i1)] [(.int (1 : Int32))])
        refine Go.of (fun t k => XS.goto X0.here hx rfl (pc0 := 43) (pc' := 47) rfl (hb hby d1_43) (by decide) (by decide) k) ?_
        show Go p e below Qo s₁ (mkF m 47 #[.val (.int i1)] [(.int (1 : Int32))])
        exact own_retN X0 hx Bd.notSynchronized (t := .boolean) Bd.returns (by simp) (hb hby d1_47) (fun u hu hF => hQo _ _ _ ⟨by rw [show (F1 i1) = nar .boolean (1 : Int32) from by rw [F1, if_pos hc3_1, if_neg hc15_2, if_neg hc21_7]], N0, by rw [hu, e0]⟩ (own_mono hF (by decide) (by decide)))
  · refine Go.of (fun t k => XS.icmpNo X0.here hx rfl (hb hby d1_3) rfl (flt hc3_1).1 k) ?_
    show Go p e below Qo s₁ (mkF m 6 #[.val (.int i1)] [])
    refine Go.of (fun t k => XS.iloadN X0.here hx rfl (hb hby d1_6) rfl  k) ?_
    show Go p e below Qo s₁ (mkF m 7 #[.val (.int i1)] [(.int i1)])
    refine Go.of (fun t k => XS.bipush X0.here hx rfl (hb hby d1_7) k) ?_
    show Go p e below Qo s₁ (mkF m 9 #[.val (.int i1)] [(.int (90 : Int32)), (.int i1)])
    by_cases hc9_12 : (90 : Int32) < i1
    · refine Go.of (fun t k => XS.icmpNo X0.here hx rfl (hb hby d1_9) rfl (tlt hc9_12).2.2.2 k) ?_
      show Go p e below Qo s₁ (mkF m 12 #[.val (.int i1)] [])
      refine Go.of (fun t k => XS.iloadN X0.here hx rfl (hb hby d1_12) rfl  k) ?_
      show Go p e below Qo s₁ (mkF m 13 #[.val (.int i1)] [(.int i1)])
      refine Go.of (fun t k => XS.bipush X0.here hx rfl (hb hby d1_13) k) ?_
      show Go p e below Qo s₁ (mkF m 15 #[.val (.int i1)] [(.int (97 : Int32)), (.int i1)])
      by_cases hc15_13 : i1 < (97 : Int32)
      · refine Go.of (fun t k => XS.icmpYes X0.here hx rfl (pc0 := 15) (pc' := 24) rfl (hb hby d1_15) rfl (tlt hc15_13).1 (by decide) (by decide) k) ?_
        show Go p e below Qo s₁ (mkF m 24 #[.val (.int i1)] [])
        refine Go.of (fun t k => XS.iloadN X0.here hx rfl (hb hby d1_24) rfl  k) ?_
        show Go p e below Qo s₁ (mkF m 25 #[.val (.int i1)] [(.int i1)])
        refine Go.of (fun t k => XS.bipush X0.here hx rfl (hb hby d1_25) k) ?_
        show Go p e below Qo s₁ (mkF m 27 #[.val (.int i1)] [(.int (48 : Int32)), (.int i1)])
        by_cases hc27_14 : i1 < (48 : Int32)
        · refine Go.of (fun t k => XS.icmpYes X0.here hx rfl (pc0 := 27) (pc' := 36) rfl (hb hby d1_27) rfl (tlt hc27_14).1 (by decide) (by decide) k) ?_
          show Go p e below Qo s₁ (mkF m 36 #[.val (.int i1)] [])
          refine Go.of (fun t k => XS.iloadN X0.here hx rfl (hb hby d1_36) rfl  k) ?_
          show Go p e below Qo s₁ (mkF m 37 #[.val (.int i1)] [(.int i1)])
          refine Go.of (fun t k => XS.bipush X0.here hx rfl (hb hby d1_37) k) ?_
          show Go p e below Qo s₁ (mkF m 39 #[.val (.int i1)] [(.int (95 : Int32)), (.int i1)])
          by_cases hc39_15 : i1 = (95 : Int32)
          · refine Go.of (fun t k => XS.icmpNo X0.here hx rfl (hb hby d1_39) rfl (teq hc39_15).2 k) ?_
            show Go p e below Qo s₁ (mkF m 42 #[.val (.int i1)] [])
            refine Go.of (fun t k => XS.iconst X0.here hx rfl (hb hby d1_42) k) ?_
            show Go p e below Qo s₁ (mkF m 43 #[.val (.int i1)] [(.int (1 : Int32))])
            refine Go.of (fun t k => XS.goto X0.here hx rfl (pc0 := 43) (pc' := 47) rfl (hb hby d1_43) (by decide) (by decide) k) ?_
            show Go p e below Qo s₁ (mkF m 47 #[.val (.int i1)] [(.int (1 : Int32))])
            exact own_retN X0 hx Bd.notSynchronized (t := .boolean) Bd.returns (by simp) (hb hby d1_47) (fun u hu hF => hQo _ _ _ ⟨by rw [show (F1 i1) = nar .boolean (1 : Int32) from by rw [F1, if_neg hc3_1, if_pos hc9_12, if_pos hc15_13, if_pos hc27_14, if_pos hc39_15]], N0, by rw [hu, e0]⟩ (own_mono hF (by decide) (by decide)))
          · refine Go.of (fun t k => XS.icmpYes X0.here hx rfl (pc0 := 39) (pc' := 46) rfl (hb hby d1_39) rfl (feq hc39_15).2 (by decide) (by decide) k) ?_
            show Go p e below Qo s₁ (mkF m 46 #[.val (.int i1)] [])
            refine Go.of (fun t k => XS.iconst X0.here hx rfl (hb hby d1_46) k) ?_
            show Go p e below Qo s₁ (mkF m 47 #[.val (.int i1)] [(.int (0 : Int32))])
            exact own_retN X0 hx Bd.notSynchronized (t := .boolean) Bd.returns (by simp) (hb hby d1_47) (fun u hu hF => hQo _ _ _ ⟨by rw [show (F1 i1) = nar .boolean (0 : Int32) from by rw [F1, if_neg hc3_1, if_pos hc9_12, if_pos hc15_13, if_pos hc27_14, if_neg hc39_15]], N0, by rw [hu, e0]⟩ (own_mono hF (by decide) (by decide)))
        · refine Go.of (fun t k => XS.icmpNo X0.here hx rfl (hb hby d1_27) rfl (flt hc27_14).1 k) ?_
          show Go p e below Qo s₁ (mkF m 30 #[.val (.int i1)] [])
          refine Go.of (fun t k => XS.iloadN X0.here hx rfl (hb hby d1_30) rfl  k) ?_
          show Go p e below Qo s₁ (mkF m 31 #[.val (.int i1)] [(.int i1)])
          refine Go.of (fun t k => XS.bipush X0.here hx rfl (hb hby d1_31) k) ?_
          show Go p e below Qo s₁ (mkF m 33 #[.val (.int i1)] [(.int (57 : Int32)), (.int i1)])
          by_cases hc33_16 : (57 : Int32) < i1
          · refine Go.of (fun t k => XS.icmpNo X0.here hx rfl (hb hby d1_33) rfl (tlt hc33_16).2.2.2 k) ?_
            show Go p e below Qo s₁ (mkF m 36 #[.val (.int i1)] [])
            refine Go.of (fun t k => XS.iloadN X0.here hx rfl (hb hby d1_36) rfl  k) ?_
            show Go p e below Qo s₁ (mkF m 37 #[.val (.int i1)] [(.int i1)])
            refine Go.of (fun t k => XS.bipush X0.here hx rfl (hb hby d1_37) k) ?_
            show Go p e below Qo s₁ (mkF m 39 #[.val (.int i1)] [(.int (95 : Int32)), (.int i1)])
            by_cases hc39_17 : i1 = (95 : Int32)
            · refine Go.of (fun t k => XS.icmpNo X0.here hx rfl (hb hby d1_39) rfl (teq hc39_17).2 k) ?_
              show Go p e below Qo s₁ (mkF m 42 #[.val (.int i1)] [])
              refine Go.of (fun t k => XS.iconst X0.here hx rfl (hb hby d1_42) k) ?_
              show Go p e below Qo s₁ (mkF m 43 #[.val (.int i1)] [(.int (1 : Int32))])
              refine Go.of (fun t k => XS.goto X0.here hx rfl (pc0 := 43) (pc' := 47) rfl (hb hby d1_43) (by decide) (by decide) k) ?_
              show Go p e below Qo s₁ (mkF m 47 #[.val (.int i1)] [(.int (1 : Int32))])
              exact own_retN X0 hx Bd.notSynchronized (t := .boolean) Bd.returns (by simp) (hb hby d1_47) (fun u hu hF => hQo _ _ _ ⟨by rw [show (F1 i1) = nar .boolean (1 : Int32) from by rw [F1, if_neg hc3_1, if_pos hc9_12, if_pos hc15_13, if_neg hc27_14, if_pos hc33_16, if_pos hc39_17]], N0, by rw [hu, e0]⟩ (own_mono hF (by decide) (by decide)))
            · refine Go.of (fun t k => XS.icmpYes X0.here hx rfl (pc0 := 39) (pc' := 46) rfl (hb hby d1_39) rfl (feq hc39_17).2 (by decide) (by decide) k) ?_
              show Go p e below Qo s₁ (mkF m 46 #[.val (.int i1)] [])
              refine Go.of (fun t k => XS.iconst X0.here hx rfl (hb hby d1_46) k) ?_
              show Go p e below Qo s₁ (mkF m 47 #[.val (.int i1)] [(.int (0 : Int32))])
              exact own_retN X0 hx Bd.notSynchronized (t := .boolean) Bd.returns (by simp) (hb hby d1_47) (fun u hu hF => hQo _ _ _ ⟨by rw [show (F1 i1) = nar .boolean (0 : Int32) from by rw [F1, if_neg hc3_1, if_pos hc9_12, if_pos hc15_13, if_neg hc27_14, if_pos hc33_16, if_neg hc39_17]], N0, by rw [hu, e0]⟩ (own_mono hF (by decide) (by decide)))
          · refine Go.of (fun t k => XS.icmpYes X0.here hx rfl (pc0 := 33) (pc' := 42) rfl (hb hby d1_33) rfl (flt hc33_16).2.2.2 (by decide) (by decide) k) ?_
            show Go p e below Qo s₁ (mkF m 42 #[.val (.int i1)] [])
            refine Go.of (fun t k => XS.iconst X0.here hx rfl (hb hby d1_42) k) ?_
            show Go p e below Qo s₁ (mkF m 43 #[.val (.int i1)] [(.int (1 : Int32))])
            refine Go.of (fun t k => XS.goto X0.here hx rfl (pc0 := 43) (pc' := 47) rfl (hb hby d1_43) (by decide) (by decide) k) ?_
            show Go p e below Qo s₁ (mkF m 47 #[.val (.int i1)] [(.int (1 : Int32))])
            exact own_retN X0 hx Bd.notSynchronized (t := .boolean) Bd.returns (by simp) (hb hby d1_47) (fun u hu hF => hQo _ _ _ ⟨by rw [show (F1 i1) = nar .boolean (1 : Int32) from by rw [F1, if_neg hc3_1, if_pos hc9_12, if_pos hc15_13, if_neg hc27_14, if_neg hc33_16]], N0, by rw [hu, e0]⟩ (own_mono hF (by decide) (by decide)))
      · refine Go.of (fun t k => XS.icmpNo X0.here hx rfl (hb hby d1_15) rfl (flt hc15_13).1 k) ?_
        show Go p e below Qo s₁ (mkF m 18 #[.val (.int i1)] [])
        refine Go.of (fun t k => XS.iloadN X0.here hx rfl (hb hby d1_18) rfl  k) ?_
        show Go p e below Qo s₁ (mkF m 19 #[.val (.int i1)] [(.int i1)])
        refine Go.of (fun t k => XS.bipush X0.here hx rfl (hb hby d1_19) k) ?_
        show Go p e below Qo s₁ (mkF m 21 #[.val (.int i1)] [(.int (122 : Int32)), (.int i1)])
        by_cases hc21_18 : (122 : Int32) < i1
        · refine Go.of (fun t k => XS.icmpNo X0.here hx rfl (hb hby d1_21) rfl (tlt hc21_18).2.2.2 k) ?_
          show Go p e below Qo s₁ (mkF m 24 #[.val (.int i1)] [])
          refine Go.of (fun t k => XS.iloadN X0.here hx rfl (hb hby d1_24) rfl  k) ?_
          show Go p e below Qo s₁ (mkF m 25 #[.val (.int i1)] [(.int i1)])
          refine Go.of (fun t k => XS.bipush X0.here hx rfl (hb hby d1_25) k) ?_
          show Go p e below Qo s₁ (mkF m 27 #[.val (.int i1)] [(.int (48 : Int32)), (.int i1)])
          by_cases hc27_19 : i1 < (48 : Int32)
          · refine Go.of (fun t k => XS.icmpYes X0.here hx rfl (pc0 := 27) (pc' := 36) rfl (hb hby d1_27) rfl (tlt hc27_19).1 (by decide) (by decide) k) ?_
            show Go p e below Qo s₁ (mkF m 36 #[.val (.int i1)] [])
            refine Go.of (fun t k => XS.iloadN X0.here hx rfl (hb hby d1_36) rfl  k) ?_
            show Go p e below Qo s₁ (mkF m 37 #[.val (.int i1)] [(.int i1)])
            refine Go.of (fun t k => XS.bipush X0.here hx rfl (hb hby d1_37) k) ?_
            show Go p e below Qo s₁ (mkF m 39 #[.val (.int i1)] [(.int (95 : Int32)), (.int i1)])
            by_cases hc39_20 : i1 = (95 : Int32)
            · refine Go.of (fun t k => XS.icmpNo X0.here hx rfl (hb hby d1_39) rfl (teq hc39_20).2 k) ?_
              show Go p e below Qo s₁ (mkF m 42 #[.val (.int i1)] [])
              refine Go.of (fun t k => XS.iconst X0.here hx rfl (hb hby d1_42) k) ?_
              show Go p e below Qo s₁ (mkF m 43 #[.val (.int i1)] [(.int (1 : Int32))])
              refine Go.of (fun t k => XS.goto X0.here hx rfl (pc0 := 43) (pc' := 47) rfl (hb hby d1_43) (by decide) (by decide) k) ?_
              show Go p e below Qo s₁ (mkF m 47 #[.val (.int i1)] [(.int (1 : Int32))])
              exact own_retN X0 hx Bd.notSynchronized (t := .boolean) Bd.returns (by simp) (hb hby d1_47) (fun u hu hF => hQo _ _ _ ⟨by rw [show (F1 i1) = nar .boolean (1 : Int32) from by rw [F1, if_neg hc3_1, if_pos hc9_12, if_neg hc15_13, if_pos hc21_18, if_pos hc27_19, if_pos hc39_20]], N0, by rw [hu, e0]⟩ (own_mono hF (by decide) (by decide)))
            · refine Go.of (fun t k => XS.icmpYes X0.here hx rfl (pc0 := 39) (pc' := 46) rfl (hb hby d1_39) rfl (feq hc39_20).2 (by decide) (by decide) k) ?_
              show Go p e below Qo s₁ (mkF m 46 #[.val (.int i1)] [])
              refine Go.of (fun t k => XS.iconst X0.here hx rfl (hb hby d1_46) k) ?_
              show Go p e below Qo s₁ (mkF m 47 #[.val (.int i1)] [(.int (0 : Int32))])
              exact own_retN X0 hx Bd.notSynchronized (t := .boolean) Bd.returns (by simp) (hb hby d1_47) (fun u hu hF => hQo _ _ _ ⟨by rw [show (F1 i1) = nar .boolean (0 : Int32) from by rw [F1, if_neg hc3_1, if_pos hc9_12, if_neg hc15_13, if_pos hc21_18, if_pos hc27_19, if_neg hc39_20]], N0, by rw [hu, e0]⟩ (own_mono hF (by decide) (by decide)))
          · refine Go.of (fun t k => XS.icmpNo X0.here hx rfl (hb hby d1_27) rfl (flt hc27_19).1 k) ?_
            show Go p e below Qo s₁ (mkF m 30 #[.val (.int i1)] [])
            refine Go.of (fun t k => XS.iloadN X0.here hx rfl (hb hby d1_30) rfl  k) ?_
            show Go p e below Qo s₁ (mkF m 31 #[.val (.int i1)] [(.int i1)])
            refine Go.of (fun t k => XS.bipush X0.here hx rfl (hb hby d1_31) k) ?_
            show Go p e below Qo s₁ (mkF m 33 #[.val (.int i1)] [(.int (57 : Int32)), (.int i1)])
            by_cases hc33_21 : (57 : Int32) < i1
            · refine Go.of (fun t k => XS.icmpNo X0.here hx rfl (hb hby d1_33) rfl (tlt hc33_21).2.2.2 k) ?_
              show Go p e below Qo s₁ (mkF m 36 #[.val (.int i1)] [])
              refine Go.of (fun t k => XS.iloadN X0.here hx rfl (hb hby d1_36) rfl  k) ?_
              show Go p e below Qo s₁ (mkF m 37 #[.val (.int i1)] [(.int i1)])
              refine Go.of (fun t k => XS.bipush X0.here hx rfl (hb hby d1_37) k) ?_
              show Go p e below Qo s₁ (mkF m 39 #[.val (.int i1)] [(.int (95 : Int32)), (.int i1)])
              by_cases hc39_22 : i1 = (95 : Int32)
              · refine Go.of (fun t k => XS.icmpNo X0.here hx rfl (hb hby d1_39) rfl (teq hc39_22).2 k) ?_
                show Go p e below Qo s₁ (mkF m 42 #[.val (.int i1)] [])
                refine Go.of (fun t k => XS.iconst X0.here hx rfl (hb hby d1_42) k) ?_
                show Go p e below Qo s₁ (mkF m 43 #[.val (.int i1)] [(.int (1 : Int32))])
                refine Go.of (fun t k => XS.goto X0.here hx rfl (pc0 := 43) (pc' := 47) rfl (hb hby d1_43) (by decide) (by decide) k) ?_
                show Go p e below Qo s₁ (mkF m 47 #[.val (.int i1)] [(.int (1 : Int32))])
                exact own_retN X0 hx Bd.notSynchronized (t := .boolean) Bd.returns (by simp) (hb hby d1_47) (fun u hu hF => hQo _ _ _ ⟨by rw [show (F1 i1) = nar .boolean (1 : Int32) from by rw [F1, if_neg hc3_1, if_pos hc9_12, if_neg hc15_13, if_pos hc21_18, if_neg hc27_19, if_pos hc33_21, if_pos hc39_22]], N0, by rw [hu, e0]⟩ (own_mono hF (by decide) (by decide)))
              · refine Go.of (fun t k => XS.icmpYes X0.here hx rfl (pc0 := 39) (pc' := 46) rfl (hb hby d1_39) rfl (feq hc39_22).2 (by decide) (by decide) k) ?_
                show Go p e below Qo s₁ (mkF m 46 #[.val (.int i1)] [])
                refine Go.of (fun t k => XS.iconst X0.here hx rfl (hb hby d1_46) k) ?_
                show Go p e below Qo s₁ (mkF m 47 #[.val (.int i1)] [(.int (0 : Int32))])
                exact own_retN X0 hx Bd.notSynchronized (t := .boolean) Bd.returns (by simp) (hb hby d1_47) (fun u hu hF => hQo _ _ _ ⟨by rw [show (F1 i1) = nar .boolean (0 : Int32) from by rw [F1, if_neg hc3_1, if_pos hc9_12, if_neg hc15_13, if_pos hc21_18, if_neg hc27_19, if_pos hc33_21, if_neg hc39_22]], N0, by rw [hu, e0]⟩ (own_mono hF (by decide) (by decide)))
            · refine Go.of (fun t k => XS.icmpYes X0.here hx rfl (pc0 := 33) (pc' := 42) rfl (hb hby d1_33) rfl (flt hc33_21).2.2.2 (by decide) (by decide) k) ?_
              show Go p e below Qo s₁ (mkF m 42 #[.val (.int i1)] [])
              refine Go.of (fun t k => XS.iconst X0.here hx rfl (hb hby d1_42) k) ?_
              show Go p e below Qo s₁ (mkF m 43 #[.val (.int i1)] [(.int (1 : Int32))])
              refine Go.of (fun t k => XS.goto X0.here hx rfl (pc0 := 43) (pc' := 47) rfl (hb hby d1_43) (by decide) (by decide) k) ?_
              show Go p e below Qo s₁ (mkF m 47 #[.val (.int i1)] [(.int (1 : Int32))])
              exact own_retN X0 hx Bd.notSynchronized (t := .boolean) Bd.returns (by simp) (hb hby d1_47) (fun u hu hF => hQo _ _ _ ⟨by rw [show (F1 i1) = nar .boolean (1 : Int32) from by rw [F1, if_neg hc3_1, if_pos hc9_12, if_neg hc15_13, if_pos hc21_18, if_neg hc27_19, if_neg hc33_21]], N0, by rw [hu, e0]⟩ (own_mono hF (by decide) (by decide)))
        · refine Go.of (fun t k => XS.icmpYes X0.here hx rfl (pc0 := 21) (pc' := 42) rfl (hb hby d1_21) rfl (flt hc21_18).2.2.2 (by decide) (by decide) k) ?_
          show Go p e below Qo s₁ (mkF m 42 #[.val (.int i1)] [])
          refine Go.of (fun t k => XS.iconst X0.here hx rfl (hb hby d1_42) k) ?_
          show Go p e below Qo s₁ (mkF m 43 #[.val (.int i1)] [(.int (1 : Int32))])
          refine Go.of (fun t k => XS.goto X0.here hx rfl (pc0 := 43) (pc' := 47) rfl (hb hby d1_43) (by decide) (by decide) k) ?_
          show Go p e below Qo s₁ (mkF m 47 #[.val (.int i1)] [(.int (1 : Int32))])
          exact own_retN X0 hx Bd.notSynchronized (t := .boolean) Bd.returns (by simp) (hb hby d1_47) (fun u hu hF => hQo _ _ _ ⟨by rw [show (F1 i1) = nar .boolean (1 : Int32) from by rw [F1, if_neg hc3_1, if_pos hc9_12, if_neg hc15_13, if_neg hc21_18]], N0, by rw [hu, e0]⟩ (own_mono hF (by decide) (by decide)))
    · refine Go.of (fun t k => XS.icmpYes X0.here hx rfl (pc0 := 9) (pc' := 42) rfl (hb hby d1_9) rfl (flt hc9_12).2.2.2 (by decide) (by decide) k) ?_
      show Go p e below Qo s₁ (mkF m 42 #[.val (.int i1)] [])
      refine Go.of (fun t k => XS.iconst X0.here hx rfl (hb hby d1_42) k) ?_
      show Go p e below Qo s₁ (mkF m 43 #[.val (.int i1)] [(.int (1 : Int32))])
      refine Go.of (fun t k => XS.goto X0.here hx rfl (pc0 := 43) (pc' := 47) rfl (hb hby d1_43) (by decide) (by decide) k) ?_
      show Go p e below Qo s₁ (mkF m 47 #[.val (.int i1)] [(.int (1 : Int32))])
      exact own_retN X0 hx Bd.notSynchronized (t := .boolean) Bd.returns (by simp) (hb hby d1_47) (fun u hu hF => hQo _ _ _ ⟨by rw [show (F1 i1) = nar .boolean (1 : Int32) from by rw [F1, if_neg hc3_1, if_neg hc9_12]], N0, by rw [hu, e0]⟩ (own_mono hF (by decide) (by decide)))
theorem d2_0 : decode method_3_code 0 = .ok (.iload_n 0, 1) := by decide +kernel
theorem d2_1 : decode method_3_code 1 = .ok (.istore_n 1, 1) := by decide +kernel
theorem d2_2 : decode method_3_code 2 = .ok (.iload_n 1, 1) := by decide +kernel
theorem d2_3 : decode method_3_code 3 = .ok (.bipush 48, 2) := by decide +kernel
theorem d2_5 : decode method_3_code 5 = .ok (.if_icmp .ge 5, 3) := by decide +kernel
theorem d2_8 : decode method_3_code 8 = .ok (.iconst 0, 1) := by decide +kernel
theorem d2_9 : decode method_3_code 9 = .ok (.ireturn, 1) := by decide +kernel
theorem d2_10 : decode method_3_code 10 = .ok (.iload_n 1, 1) := by decide +kernel
theorem d2_11 : decode method_3_code 11 = .ok (.bipush 57, 2) := by decide +kernel
theorem d2_13 : decode method_3_code 13 = .ok (.if_icmp .gt 5, 3) := by decide +kernel
theorem d2_16 : decode method_3_code 16 = .ok (.iconst 1, 1) := by decide +kernel
theorem d2_17 : decode method_3_code 17 = .ok (.ireturn, 1) := by decide +kernel
theorem d2_18 : decode method_3_code 18 = .ok (.iload_n 1, 1) := by decide +kernel
theorem d2_19 : decode method_3_code 19 = .ok (.bipush 65, 2) := by decide +kernel
theorem d2_21 : decode method_3_code 21 = .ok (.if_icmp .ge 5, 3) := by decide +kernel
theorem d2_24 : decode method_3_code 24 = .ok (.iconst 0, 1) := by decide +kernel
theorem d2_25 : decode method_3_code 25 = .ok (.ireturn, 1) := by decide +kernel
theorem d2_26 : decode method_3_code 26 = .ok (.iload_n 1, 1) := by decide +kernel
theorem d2_27 : decode method_3_code 27 = .ok (.bipush 90, 2) := by decide +kernel
theorem d2_29 : decode method_3_code 29 = .ok (.if_icmp .gt 5, 3) := by decide +kernel
theorem d2_32 : decode method_3_code 32 = .ok (.iconst 1, 1) := by decide +kernel
theorem d2_33 : decode method_3_code 33 = .ok (.ireturn, 1) := by decide +kernel
theorem d2_34 : decode method_3_code 34 = .ok (.iload_n 1, 1) := by decide +kernel
theorem d2_35 : decode method_3_code 35 = .ok (.bipush 95, 2) := by decide +kernel
theorem d2_37 : decode method_3_code 37 = .ok (.if_icmp .ge 5, 3) := by decide +kernel
theorem d2_40 : decode method_3_code 40 = .ok (.iconst 0, 1) := by decide +kernel
theorem d2_41 : decode method_3_code 41 = .ok (.ireturn, 1) := by decide +kernel
theorem d2_42 : decode method_3_code 42 = .ok (.iload_n 1, 1) := by decide +kernel
theorem d2_43 : decode method_3_code 43 = .ok (.bipush 95, 2) := by decide +kernel
theorem d2_45 : decode method_3_code 45 = .ok (.if_icmp .ne 5, 3) := by decide +kernel
theorem d2_48 : decode method_3_code 48 = .ok (.iconst 1, 1) := by decide +kernel
theorem d2_49 : decode method_3_code 49 = .ok (.ireturn, 1) := by decide +kernel
theorem d2_50 : decode method_3_code 50 = .ok (.iload_n 1, 1) := by decide +kernel
theorem d2_51 : decode method_3_code 51 = .ok (.bipush 97, 2) := by decide +kernel
theorem d2_53 : decode method_3_code 53 = .ok (.if_icmp .ge 5, 3) := by decide +kernel
theorem d2_56 : decode method_3_code 56 = .ok (.iconst 0, 1) := by decide +kernel
theorem d2_57 : decode method_3_code 57 = .ok (.ireturn, 1) := by decide +kernel
theorem d2_58 : decode method_3_code 58 = .ok (.iload_n 1, 1) := by decide +kernel
theorem d2_59 : decode method_3_code 59 = .ok (.bipush 122, 2) := by decide +kernel
theorem d2_61 : decode method_3_code 61 = .ok (.if_icmp .gt 7, 3) := by decide +kernel
theorem d2_64 : decode method_3_code 64 = .ok (.iconst 1, 1) := by decide +kernel
theorem d2_65 : decode method_3_code 65 = .ok (.goto 4, 3) := by decide +kernel
theorem d2_68 : decode method_3_code 68 = .ok (.iconst 0, 1) := by decide +kernel
theorem d2_69 : decode method_3_code 69 = .ok (.ireturn, 1) := by decide +kernel
theorem pn_1 : plainName "com/example/interleave/interleave/DatabaseIsKeyCharacterPinLaw" = true := by first | (simp [plainName, overriddenIn]; done) | decide +kernel
theorem ef_2 (m : MethodId) (i1 : Int32)  : entryFrame m #[(.int i1)] 2 = mkF m 0 #[.val (.int i1), .unset] [] := by
  first | (simp [entryFrame, mkF, argsToLocals, Value.category]; done) | rfl
def F2 (i1 : Int32) : Int32 := (if i1 < (48 : Int32) then (nar .boolean (0 : Int32)) else (if (57 : Int32) < i1 then (if i1 < (65 : Int32) then (nar .boolean (0 : Int32)) else (if (90 : Int32) < i1 then (if i1 < (95 : Int32) then (nar .boolean (0 : Int32)) else (if i1 = (95 : Int32) then (nar .boolean (1 : Int32)) else (if i1 < (97 : Int32) then (nar .boolean (0 : Int32)) else (if (122 : Int32) < i1 then (nar .boolean (0 : Int32)) else (nar .boolean (1 : Int32)))))) else (nar .boolean (1 : Int32)))) else (nar .boolean (1 : Int32))))
def Q2 (Z : State) (i1 : Int32) (h0 : Heap) (n0 : Nat) (v : Option Value) (h : Heap) (L : List Loc) : Prop := v = some (.int (F2 i1)) ∧ Fr n0 L ∧ h = h0
set_option maxRecDepth 65536 in
set_option maxHeartbeats 40000000 in
theorem rm2 (l : Launch) (Z : State) (a0 : Array Value) (hw : ∀ d ∈ tables_1, d.before a0 Z = true) (ws : List Jvm.Cond) (i1 : Int32) (h0 : Heap) (n0 : Nat) (Z0 : n0 ≤ h0.size)  :
    MetFree l (⟨"com/example/interleave/interleave/DatabaseIsKeyCharacterPinLaw", "expected", "(C)Z"⟩ : MethodName) (head1 (Jvm.Cond.code (⟨"com/example/interleave/interleave/DatabaseIsKeyCharacterPinLaw", "expected", "(C)Z"⟩ : MethodName) method_3_code 2 (some .boolean) :: ws) ({ frames := 0, cells := 0, slots := 0, locals := 0 } : Room)) (fun a U => a = #[(.int i1)] ∧ Z.Warmed39 U.vm ∧ U.heap = h0) (fun _ _ _ _ _ => True) (fun _ U o U' => ∃ v L, o = .returned v ∧ Q2 Z i1 h0 n0 v U'.heap L ∧ FrameEnd U o U' L ({ frames := 0, cells := 0, slots := 0, locals := 0 } : Room).cells ({ frames := 0, cells := 0, slots := 0, locals := 0 } : Room).slots) := by
  refine MetFree.of_bodySF (plainFor_of_name pn_1) hisR ?_
  intro p e s m args below meth c s₁ Bd hml0 hP hK
  obtain ⟨rfl, hZ, hh⟩ := hP
  have hx := Bd.exec
  have hby := Bd.bytes
  have hml : c.maxLocals = 2 := hml0
  have hown : s.vm.findClass "com/example/interleave/interleave/DatabaseIsKeyCharacterPinLaw" = some m.cls := findClass_of_methodNamed Bd.named
  have hnm := (name_of_methodNamed Bd.named Bd.method).1
  have X0 : Stand p l e ({ frames := 0, cells := 0, slots := 0, locals := 0 } : Room) s m #[(.int i1)] below meth c s₁ [] 0 0 := Stand.of_body Bd
  have e0 : s₁.heap = h0 := by rw [← hh, Bd.state]; rfl
  have N0 := Fr.nil n0
  suffices H : ∀ Qo : Outcome → State → Prop, (∀ (v : Option Value) (u : State) (L : List Loc), Q2 Z i1 h0 n0 v u.heap L → FrameEnd s (.returned v) u L ({ frames := 0, cells := 0, slots := 0, locals := 0 } : Room).cells ({ frames := 0, cells := 0, slots := 0, locals := 0 } : Room).slots → Qo (.returned v) u) → Go p e below Qo s₁ (mkF m 0 #[.val (.int i1), .unset] []) from
    Go.cast (ef_2 m i1) (H _ fun v u L h1 h2 => ⟨v, L, rfl, h1, h2⟩)
  intro Qo hQo
  show Go p e below Qo s₁ (mkF m 0 #[.val (.int i1), .unset] [])
  refine Go.of (fun t k => XS.iloadN X0.here hx rfl (hb hby d2_0) rfl  k) ?_
  show Go p e below Qo s₁ (mkF m 1 #[.val (.int i1), .unset] [(.int i1)])
  refine Go.of (fun t k => XS.istoreN X0.here hx rfl (hb hby d2_1) rfl (l' := #[.val (.int i1), .val (.int i1)]) rfl k) ?_
  show Go p e below Qo s₁ (mkF m 2 #[.val (.int i1), .val (.int i1)] [])
  refine Go.of (fun t k => XS.iloadN X0.here hx rfl (hb hby d2_2) rfl  k) ?_
  show Go p e below Qo s₁ (mkF m 3 #[.val (.int i1), .val (.int i1)] [(.int i1)])
  refine Go.of (fun t k => XS.bipush X0.here hx rfl (hb hby d2_3) k) ?_
  show Go p e below Qo s₁ (mkF m 5 #[.val (.int i1), .val (.int i1)] [(.int (48 : Int32)), (.int i1)])
  by_cases hc5_1 : i1 < (48 : Int32)
  · refine Go.of (fun t k => XS.icmpNo X0.here hx rfl (hb hby d2_5) rfl (tlt hc5_1).2.1 k) ?_
    show Go p e below Qo s₁ (mkF m 8 #[.val (.int i1), .val (.int i1)] [])
    refine Go.of (fun t k => XS.iconst X0.here hx rfl (hb hby d2_8) k) ?_
    show Go p e below Qo s₁ (mkF m 9 #[.val (.int i1), .val (.int i1)] [(.int (0 : Int32))])
    exact own_retN X0 hx Bd.notSynchronized (t := .boolean) Bd.returns (by simp) (hb hby d2_9) (fun u hu hF => hQo _ _ _ ⟨by rw [show (F2 i1) = nar .boolean (0 : Int32) from by rw [F2, if_pos hc5_1]], N0, by rw [hu, e0]⟩ (own_mono hF (by decide) (by decide)))
  · refine Go.of (fun t k => XS.icmpYes X0.here hx rfl (pc0 := 5) (pc' := 10) rfl (hb hby d2_5) rfl (flt hc5_1).2.1 (by decide) (by decide) k) ?_
    show Go p e below Qo s₁ (mkF m 10 #[.val (.int i1), .val (.int i1)] [])
    refine Go.of (fun t k => XS.iloadN X0.here hx rfl (hb hby d2_10) rfl  k) ?_
    show Go p e below Qo s₁ (mkF m 11 #[.val (.int i1), .val (.int i1)] [(.int i1)])
    refine Go.of (fun t k => XS.bipush X0.here hx rfl (hb hby d2_11) k) ?_
    show Go p e below Qo s₁ (mkF m 13 #[.val (.int i1), .val (.int i1)] [(.int (57 : Int32)), (.int i1)])
    by_cases hc13_2 : (57 : Int32) < i1
    · refine Go.of (fun t k => XS.icmpYes X0.here hx rfl (pc0 := 13) (pc' := 18) rfl (hb hby d2_13) rfl (tlt hc13_2).2.2.1 (by decide) (by decide) k) ?_
      show Go p e below Qo s₁ (mkF m 18 #[.val (.int i1), .val (.int i1)] [])
      refine Go.of (fun t k => XS.iloadN X0.here hx rfl (hb hby d2_18) rfl  k) ?_
      show Go p e below Qo s₁ (mkF m 19 #[.val (.int i1), .val (.int i1)] [(.int i1)])
      refine Go.of (fun t k => XS.bipush X0.here hx rfl (hb hby d2_19) k) ?_
      show Go p e below Qo s₁ (mkF m 21 #[.val (.int i1), .val (.int i1)] [(.int (65 : Int32)), (.int i1)])
      by_cases hc21_3 : i1 < (65 : Int32)
      · refine Go.of (fun t k => XS.icmpNo X0.here hx rfl (hb hby d2_21) rfl (tlt hc21_3).2.1 k) ?_
        show Go p e below Qo s₁ (mkF m 24 #[.val (.int i1), .val (.int i1)] [])
        refine Go.of (fun t k => XS.iconst X0.here hx rfl (hb hby d2_24) k) ?_
        show Go p e below Qo s₁ (mkF m 25 #[.val (.int i1), .val (.int i1)] [(.int (0 : Int32))])
        exact own_retN X0 hx Bd.notSynchronized (t := .boolean) Bd.returns (by simp) (hb hby d2_25) (fun u hu hF => hQo _ _ _ ⟨by rw [show (F2 i1) = nar .boolean (0 : Int32) from by rw [F2, if_neg hc5_1, if_pos hc13_2, if_pos hc21_3]], N0, by rw [hu, e0]⟩ (own_mono hF (by decide) (by decide)))
      · refine Go.of (fun t k => XS.icmpYes X0.here hx rfl (pc0 := 21) (pc' := 26) rfl (hb hby d2_21) rfl (flt hc21_3).2.1 (by decide) (by decide) k) ?_
        show Go p e below Qo s₁ (mkF m 26 #[.val (.int i1), .val (.int i1)] [])
        refine Go.of (fun t k => XS.iloadN X0.here hx rfl (hb hby d2_26) rfl  k) ?_
        show Go p e below Qo s₁ (mkF m 27 #[.val (.int i1), .val (.int i1)] [(.int i1)])
        refine Go.of (fun t k => XS.bipush X0.here hx rfl (hb hby d2_27) k) ?_
        show Go p e below Qo s₁ (mkF m 29 #[.val (.int i1), .val (.int i1)] [(.int (90 : Int32)), (.int i1)])
        by_cases hc29_4 : (90 : Int32) < i1
        · refine Go.of (fun t k => XS.icmpYes X0.here hx rfl (pc0 := 29) (pc' := 34) rfl (hb hby d2_29) rfl (tlt hc29_4).2.2.1 (by decide) (by decide) k) ?_
          show Go p e below Qo s₁ (mkF m 34 #[.val (.int i1), .val (.int i1)] [])
          refine Go.of (fun t k => XS.iloadN X0.here hx rfl (hb hby d2_34) rfl  k) ?_
          show Go p e below Qo s₁ (mkF m 35 #[.val (.int i1), .val (.int i1)] [(.int i1)])
          refine Go.of (fun t k => XS.bipush X0.here hx rfl (hb hby d2_35) k) ?_
          show Go p e below Qo s₁ (mkF m 37 #[.val (.int i1), .val (.int i1)] [(.int (95 : Int32)), (.int i1)])
          by_cases hc37_5 : i1 < (95 : Int32)
          · refine Go.of (fun t k => XS.icmpNo X0.here hx rfl (hb hby d2_37) rfl (tlt hc37_5).2.1 k) ?_
            show Go p e below Qo s₁ (mkF m 40 #[.val (.int i1), .val (.int i1)] [])
            refine Go.of (fun t k => XS.iconst X0.here hx rfl (hb hby d2_40) k) ?_
            show Go p e below Qo s₁ (mkF m 41 #[.val (.int i1), .val (.int i1)] [(.int (0 : Int32))])
            exact own_retN X0 hx Bd.notSynchronized (t := .boolean) Bd.returns (by simp) (hb hby d2_41) (fun u hu hF => hQo _ _ _ ⟨by rw [show (F2 i1) = nar .boolean (0 : Int32) from by rw [F2, if_neg hc5_1, if_pos hc13_2, if_neg hc21_3, if_pos hc29_4, if_pos hc37_5]], N0, by rw [hu, e0]⟩ (own_mono hF (by decide) (by decide)))
          · refine Go.of (fun t k => XS.icmpYes X0.here hx rfl (pc0 := 37) (pc' := 42) rfl (hb hby d2_37) rfl (flt hc37_5).2.1 (by decide) (by decide) k) ?_
            show Go p e below Qo s₁ (mkF m 42 #[.val (.int i1), .val (.int i1)] [])
            refine Go.of (fun t k => XS.iloadN X0.here hx rfl (hb hby d2_42) rfl  k) ?_
            show Go p e below Qo s₁ (mkF m 43 #[.val (.int i1), .val (.int i1)] [(.int i1)])
            refine Go.of (fun t k => XS.bipush X0.here hx rfl (hb hby d2_43) k) ?_
            show Go p e below Qo s₁ (mkF m 45 #[.val (.int i1), .val (.int i1)] [(.int (95 : Int32)), (.int i1)])
            by_cases hc45_6 : i1 = (95 : Int32)
            · refine Go.of (fun t k => XS.icmpNo X0.here hx rfl (hb hby d2_45) rfl (teq hc45_6).2 k) ?_
              show Go p e below Qo s₁ (mkF m 48 #[.val (.int i1), .val (.int i1)] [])
              refine Go.of (fun t k => XS.iconst X0.here hx rfl (hb hby d2_48) k) ?_
              show Go p e below Qo s₁ (mkF m 49 #[.val (.int i1), .val (.int i1)] [(.int (1 : Int32))])
              exact own_retN X0 hx Bd.notSynchronized (t := .boolean) Bd.returns (by simp) (hb hby d2_49) (fun u hu hF => hQo _ _ _ ⟨by rw [show (F2 i1) = nar .boolean (1 : Int32) from by rw [F2, if_neg hc5_1, if_pos hc13_2, if_neg hc21_3, if_pos hc29_4, if_neg hc37_5, if_pos hc45_6]], N0, by rw [hu, e0]⟩ (own_mono hF (by decide) (by decide)))
            · refine Go.of (fun t k => XS.icmpYes X0.here hx rfl (pc0 := 45) (pc' := 50) rfl (hb hby d2_45) rfl (feq hc45_6).2 (by decide) (by decide) k) ?_
              show Go p e below Qo s₁ (mkF m 50 #[.val (.int i1), .val (.int i1)] [])
              refine Go.of (fun t k => XS.iloadN X0.here hx rfl (hb hby d2_50) rfl  k) ?_
              show Go p e below Qo s₁ (mkF m 51 #[.val (.int i1), .val (.int i1)] [(.int i1)])
              refine Go.of (fun t k => XS.bipush X0.here hx rfl (hb hby d2_51) k) ?_
              show Go p e below Qo s₁ (mkF m 53 #[.val (.int i1), .val (.int i1)] [(.int (97 : Int32)), (.int i1)])
              by_cases hc53_7 : i1 < (97 : Int32)
              · refine Go.of (fun t k => XS.icmpNo X0.here hx rfl (hb hby d2_53) rfl (tlt hc53_7).2.1 k) ?_
                show Go p e below Qo s₁ (mkF m 56 #[.val (.int i1), .val (.int i1)] [])
                refine Go.of (fun t k => XS.iconst X0.here hx rfl (hb hby d2_56) k) ?_
                show Go p e below Qo s₁ (mkF m 57 #[.val (.int i1), .val (.int i1)] [(.int (0 : Int32))])
                exact own_retN X0 hx Bd.notSynchronized (t := .boolean) Bd.returns (by simp) (hb hby d2_57) (fun u hu hF => hQo _ _ _ ⟨by rw [show (F2 i1) = nar .boolean (0 : Int32) from by rw [F2, if_neg hc5_1, if_pos hc13_2, if_neg hc21_3, if_pos hc29_4, if_neg hc37_5, if_neg hc45_6, if_pos hc53_7]], N0, by rw [hu, e0]⟩ (own_mono hF (by decide) (by decide)))
              · refine Go.of (fun t k => XS.icmpYes X0.here hx rfl (pc0 := 53) (pc' := 58) rfl (hb hby d2_53) rfl (flt hc53_7).2.1 (by decide) (by decide) k) ?_
                show Go p e below Qo s₁ (mkF m 58 #[.val (.int i1), .val (.int i1)] [])
                refine Go.of (fun t k => XS.iloadN X0.here hx rfl (hb hby d2_58) rfl  k) ?_
                show Go p e below Qo s₁ (mkF m 59 #[.val (.int i1), .val (.int i1)] [(.int i1)])
                refine Go.of (fun t k => XS.bipush X0.here hx rfl (hb hby d2_59) k) ?_
                show Go p e below Qo s₁ (mkF m 61 #[.val (.int i1), .val (.int i1)] [(.int (122 : Int32)), (.int i1)])
                by_cases hc61_8 : (122 : Int32) < i1
                · refine Go.of (fun t k => XS.icmpYes X0.here hx rfl (pc0 := 61) (pc' := 68) rfl (hb hby d2_61) rfl (tlt hc61_8).2.2.1 (by decide) (by decide) k) ?_
                  show Go p e below Qo s₁ (mkF m 68 #[.val (.int i1), .val (.int i1)] [])
                  refine Go.of (fun t k => XS.iconst X0.here hx rfl (hb hby d2_68) k) ?_
                  show Go p e below Qo s₁ (mkF m 69 #[.val (.int i1), .val (.int i1)] [(.int (0 : Int32))])
                  exact own_retN X0 hx Bd.notSynchronized (t := .boolean) Bd.returns (by simp) (hb hby d2_69) (fun u hu hF => hQo _ _ _ ⟨by rw [show (F2 i1) = nar .boolean (0 : Int32) from by rw [F2, if_neg hc5_1, if_pos hc13_2, if_neg hc21_3, if_pos hc29_4, if_neg hc37_5, if_neg hc45_6, if_neg hc53_7, if_pos hc61_8]], N0, by rw [hu, e0]⟩ (own_mono hF (by decide) (by decide)))
                · refine Go.of (fun t k => XS.icmpNo X0.here hx rfl (hb hby d2_61) rfl (flt hc61_8).2.2.1 k) ?_
                  show Go p e below Qo s₁ (mkF m 64 #[.val (.int i1), .val (.int i1)] [])
                  refine Go.of (fun t k => XS.iconst X0.here hx rfl (hb hby d2_64) k) ?_
                  show Go p e below Qo s₁ (mkF m 65 #[.val (.int i1), .val (.int i1)] [(.int (1 : Int32))])
                  refine Go.of (fun t k => XS.goto X0.here hx rfl (pc0 := 65) (pc' := 69) rfl (hb hby d2_65) (by decide) (by decide) k) ?_
                  show Go p e below Qo s₁ (mkF m 69 #[.val (.int i1), .val (.int i1)] [(.int (1 : Int32))])
                  exact own_retN X0 hx Bd.notSynchronized (t := .boolean) Bd.returns (by simp) (hb hby d2_69) (fun u hu hF => hQo _ _ _ ⟨by rw [show (F2 i1) = nar .boolean (1 : Int32) from by rw [F2, if_neg hc5_1, if_pos hc13_2, if_neg hc21_3, if_pos hc29_4, if_neg hc37_5, if_neg hc45_6, if_neg hc53_7, if_neg hc61_8]], N0, by rw [hu, e0]⟩ (own_mono hF (by decide) (by decide)))
        · refine Go.of (fun t k => XS.icmpNo X0.here hx rfl (hb hby d2_29) rfl (flt hc29_4).2.2.1 k) ?_
          show Go p e below Qo s₁ (mkF m 32 #[.val (.int i1), .val (.int i1)] [])
          refine Go.of (fun t k => XS.iconst X0.here hx rfl (hb hby d2_32) k) ?_
          show Go p e below Qo s₁ (mkF m 33 #[.val (.int i1), .val (.int i1)] [(.int (1 : Int32))])
          exact own_retN X0 hx Bd.notSynchronized (t := .boolean) Bd.returns (by simp) (hb hby d2_33) (fun u hu hF => hQo _ _ _ ⟨by rw [show (F2 i1) = nar .boolean (1 : Int32) from by rw [F2, if_neg hc5_1, if_pos hc13_2, if_neg hc21_3, if_neg hc29_4]], N0, by rw [hu, e0]⟩ (own_mono hF (by decide) (by decide)))
    · refine Go.of (fun t k => XS.icmpNo X0.here hx rfl (hb hby d2_13) rfl (flt hc13_2).2.2.1 k) ?_
      show Go p e below Qo s₁ (mkF m 16 #[.val (.int i1), .val (.int i1)] [])
      refine Go.of (fun t k => XS.iconst X0.here hx rfl (hb hby d2_16) k) ?_
      show Go p e below Qo s₁ (mkF m 17 #[.val (.int i1), .val (.int i1)] [(.int (1 : Int32))])
      exact own_retN X0 hx Bd.notSynchronized (t := .boolean) Bd.returns (by simp) (hb hby d2_17) (fun u hu hF => hQo _ _ _ ⟨by rw [show (F2 i1) = nar .boolean (1 : Int32) from by rw [F2, if_neg hc5_1, if_neg hc13_2]], N0, by rw [hu, e0]⟩ (own_mono hF (by decide) (by decide)))
theorem own_same (p : Int32) : F1 p = F2 p := by
  simp only [F1, F2, Int32.lt_iff_toInt_lt, ← Int32.toInt_inj]
  have e1 : (65 : Int32).toInt = 65 := by decide
  have e2 : (90 : Int32).toInt = 90 := by decide
  have e3 : (97 : Int32).toInt = 97 := by decide
  have e4 : (122 : Int32).toInt = 122 := by decide
  have e5 : (48 : Int32).toInt = 48 := by decide
  have e6 : (57 : Int32).toInt = 57 := by decide
  have e7 : (95 : Int32).toInt = 95 := by decide
  rw [e1, e2, e3, e4, e5, e6, e7]
  generalize p.toInt = z
  (repeat' split) <;> first | rfl | omega
theorem pd_0 : parseMethodDescriptor "(C)Z" = some ⟨[.char], some .boolean⟩ := by decide +kernel
theorem ef_0 (m : MethodId) (i1 : Int32) (i2 : Int32)  : entryFrame m #[(.int i1), (.int i2)] maxLocals = mkF m 0 #[.val (.int i1), .val (.int i2), .unset, .unset] [] := by
  first | (simp [entryFrame, mkF, argsToLocals, Value.category, maxLocals]; done) | rfl
def Q0 (Z : State) (i1 : Int32) (i2 : Int32) (h0 : Heap) (n0 : Nat) (v : Option Value) (h : Heap) (L : List Loc) : Prop := v = some (.int 1) ∧ Fr n0 L
set_option maxRecDepth 65536 in
set_option maxHeartbeats 40000000 in
theorem rm0 (l : Launch) (Z : State) (a0 : Array Value) (hw : ∀ d ∈ tables_1, d.before a0 Z = true) (ws : List Jvm.Cond) (i1 : Int32) (i2 : Int32) (h0 : Heap) (n0 : Nat) (Z0 : n0 ≤ h0.size)  :
    MetFree l x (head1 (Jvm.Cond.code x code maxLocals ret :: ws) room_1) (fun a U => a = #[(.int i1), (.int i2)] ∧ Z.Warmed39 U.vm ∧ U.heap = h0) (fun _ _ _ _ _ => True) (fun _ U o U' => ∃ v L, o = .returned v ∧ Q0 Z i1 i2 h0 n0 v U'.heap L ∧ FrameEnd U o U' L 0 0) := by
  refine MetFree.of_bodySF (plainFor_of_name pn_1) hisR ?_
  intro p e s m args below meth c s₁ Bd hml0 hP hK
  obtain ⟨rfl, hZ, hh⟩ := hP
  have hx := Bd.exec
  have hby := Bd.bytes
  have hml : c.maxLocals = 4 := hml0
  have hown : s.vm.findClass "com/example/interleave/interleave/DatabaseIsKeyCharacterPinLaw" = some m.cls := findClass_of_methodNamed Bd.named
  have hnm := (name_of_methodNamed Bd.named Bd.method).1
  have X0 : Stand p l e room_1 s m #[(.int i1), (.int i2)] below meth c s₁ [] 0 0 := Stand.of_body Bd
  have e0 : s₁.heap = h0 := by rw [← hh, Bd.state]; rfl
  have N0 := Fr.nil n0
  suffices H : ∀ Qo : Outcome → State → Prop, (∀ (v : Option Value) (u : State) (L : List Loc), Q0 Z i1 i2 h0 n0 v u.heap L → FrameEnd s (.returned v) u L 0 0 → Qo (.returned v) u) → Go p e below Qo s₁ (mkF m 0 #[.val (.int i1), .val (.int i2), .unset, .unset] []) from
    Go.cast (ef_0 m i1 i2) (H _ fun v u L h1 h2 => ⟨v, L, rfl, h1, h2⟩)
  intro Qo hQo
  show Go p e below Qo s₁ (mkF m 0 #[.val (.int i1), .val (.int i2), .unset, .unset] [])
  refine Go.of (fun t k => XS.iloadN X0.here hx rfl (hb hby at_0) rfl  k) ?_
  show Go p e below Qo s₁ (mkF m 1 #[.val (.int i1), .val (.int i2), .unset, .unset] [(.int i1)])
  refine Go.of (fun t k => XS.i2c X0.here hx rfl (hb hby at_1) rfl k) ?_
  show Go p e below Qo s₁ (mkF m 2 #[.val (.int i1), .val (.int i2), .unset, .unset] [(.int (i1.toUInt32.toUInt16.toUInt32.toInt32))])
  refine Go.of (fun t k => XS.istoreN X0.here hx rfl (hb hby at_2) rfl (l' := #[.val (.int i1), .val (.int i2), .val (.int (i1.toUInt32.toUInt16.toUInt32.toInt32)), .unset]) rfl k) ?_
  show Go p e below Qo s₁ (mkF m 3 #[.val (.int i1), .val (.int i2), .val (.int (i1.toUInt32.toUInt16.toUInt32.toInt32)), .unset] [])
  refine Go.of (fun t k => XS.iloadN X0.here hx rfl (hb hby at_3) rfl  k) ?_
  show Go p e below Qo s₁ (mkF m 4 #[.val (.int i1), .val (.int i2), .val (.int (i1.toUInt32.toUInt16.toUInt32.toInt32)), .unset] [(.int i2)])
  refine Go.of (fun t k => XS.bipush X0.here hx rfl (hb hby at_4) k) ?_
  show Go p e below Qo s₁ (mkF m 6 #[.val (.int i1), .val (.int i2), .val (.int (i1.toUInt32.toUInt16.toUInt32.toInt32)), .unset] [(.int (127 : Int32)), (.int i2)])
  refine Go.of (fun t k => XS.iand X0.here hx rfl (hb hby at_6) rfl k) ?_
  show Go p e below Qo s₁ (mkF m 7 #[.val (.int i1), .val (.int i2), .val (.int (i1.toUInt32.toUInt16.toUInt32.toInt32)), .unset] [(.int (i2 &&& (127 : Int32)))])
  refine Go.of (fun t k => XS.i2c X0.here hx rfl (hb hby at_7) rfl k) ?_
  show Go p e below Qo s₁ (mkF m 8 #[.val (.int i1), .val (.int i2), .val (.int (i1.toUInt32.toUInt16.toUInt32.toInt32)), .unset] [(.int ((i2 &&& (127 : Int32)).toUInt32.toUInt16.toUInt32.toInt32))])
  refine Go.of (fun t k => XS.istoreN X0.here hx rfl (hb hby at_8) rfl (l' := #[.val (.int i1), .val (.int i2), .val (.int (i1.toUInt32.toUInt16.toUInt32.toInt32)), .val (.int ((i2 &&& (127 : Int32)).toUInt32.toUInt16.toUInt32.toInt32))]) rfl k) ?_
  show Go p e below Qo s₁ (mkF m 9 #[.val (.int i1), .val (.int i2), .val (.int (i1.toUInt32.toUInt16.toUInt32.toInt32)), .val (.int ((i2 &&& (127 : Int32)).toUInt32.toUInt16.toUInt32.toInt32))] [])
  refine Go.of (fun t k => XS.iloadN X0.here hx rfl (hb hby at_9) rfl  k) ?_
  show Go p e below Qo s₁ (mkF m 10 #[.val (.int i1), .val (.int i2), .val (.int (i1.toUInt32.toUInt16.toUInt32.toInt32)), .val (.int ((i2 &&& (127 : Int32)).toUInt32.toUInt16.toUInt32.toInt32))] [(.int (i1.toUInt32.toUInt16.toUInt32.toInt32))])
  obtain ⟨_, _, ⟨T1, L1, k1, n1⟩, -, X1, ⟨Lc1, hQ1, l1, y1, z1⟩, st1⟩ := Jvm.LawKit.callS X0 hx (y := (⟨"com/example/interleave/interleave/Database", "isKeyCharacter", "(C)Z"⟩ : MethodName)) hown (mvT hZ (hw _ (List.mem_of_getElem? (i := 0) rfl))) (mvT hZ (hw _ (List.mem_of_getElem? (i := 1) rfl))) (mvT hZ (hw _ (List.mem_of_getElem? (i := 2) rfl))) (mvT hZ (hw _ (List.mem_of_getElem? (i := 3) rfl))) (by decide) (backOf (W := 0) (rm1 l Z a0 hw [] (i1.toUInt32.toUInt16.toUInt32.toInt32) h0 n0 Z0 ) hZ (hw _ (List.mem_of_getElem? (i := 3) rfl)) (hw _ (List.mem_of_getElem? (i := 2) rfl)) (by decide) (by decide)) (g := (mkF m 10 #[.val (.int i1), .val (.int i2), .val (.int (i1.toUInt32.toUInt16.toUInt32.toInt32)), .val (.int ((i2 &&& (127 : Int32)).toUInt32.toUInt16.toUInt32.toInt32))] [(.int (i1.toUInt32.toUInt16.toUInt32.toInt32))])) rfl (by rw [hml]; rfl) (argsL := [(.int (i1.toUInt32.toUInt16.toUInt32.toInt32))]) (rest := []) (lenOf pd_0 rfl) rfl (by show 2 * 0 + _ ≤ _; exact Nat.le_of_eq rfl) (hb hby at_10) (fun _ _ => ⟨rfl, e0, (by decide : 0 + 0 ≤ _), (by decide : 0 + 0 ≤ _)⟩)
  dsimp only [Pt.U, Pt.locs, Pt.cells, Pt.slots] at X1 l1 y1 z1 st1 hQ1
  subst l1 y1 z1
  obtain ⟨rfl, N2, eh3⟩ := hQ1
  have N4 := Fr.app N0 N2
  refine Go.of st1 ?_
  show Go p e below Qo T1 (mkF m 13 #[.val (.int i1), .val (.int i2), .val (.int (i1.toUInt32.toUInt16.toUInt32.toInt32)), .val (.int ((i2 &&& (127 : Int32)).toUInt32.toUInt16.toUInt32.toInt32))] [(.int (F1 (i1.toUInt32.toUInt16.toUInt32.toInt32)))])
  refine Go.of (fun t k => XS.iloadN X1.here hx rfl (hb hby at_13) rfl  k) ?_
  show Go p e below Qo T1 (mkF m 14 #[.val (.int i1), .val (.int i2), .val (.int (i1.toUInt32.toUInt16.toUInt32.toInt32)), .val (.int ((i2 &&& (127 : Int32)).toUInt32.toUInt16.toUInt32.toInt32))] [(.int (i1.toUInt32.toUInt16.toUInt32.toInt32)), (.int (F1 (i1.toUInt32.toUInt16.toUInt32.toInt32)))])
  obtain ⟨_, _, ⟨T5, L5, k5, n5⟩, -, X5, ⟨Lc5, hQ5, l5, y5, z5⟩, st5⟩ := Jvm.LawKit.callS X1 hx (y := (⟨"com/example/interleave/interleave/DatabaseIsKeyCharacterPinLaw", "expected", "(C)Z"⟩ : MethodName)) hown (mvT hZ (hw _ (List.mem_of_getElem? (i := 4) rfl))) (mvT hZ (hw _ (List.mem_of_getElem? (i := 5) rfl))) (mvT hZ (hw _ (List.mem_of_getElem? (i := 6) rfl))) (mvT hZ (hw _ (List.mem_of_getElem? (i := 7) rfl))) (by decide) (backOf (W := 1) (rm2 l Z a0 hw [] (i1.toUInt32.toUInt16.toUInt32.toInt32) h0 n0 Z0 ) hZ (hw _ (List.mem_of_getElem? (i := 7) rfl)) (hw _ (List.mem_of_getElem? (i := 6) rfl)) (by decide) (by decide)) (g := (mkF m 14 #[.val (.int i1), .val (.int i2), .val (.int (i1.toUInt32.toUInt16.toUInt32.toInt32)), .val (.int ((i2 &&& (127 : Int32)).toUInt32.toUInt16.toUInt32.toInt32))] [(.int (i1.toUInt32.toUInt16.toUInt32.toInt32)), (.int (F1 (i1.toUInt32.toUInt16.toUInt32.toInt32)))])) rfl (by rw [hml]; rfl) (argsL := [(.int (i1.toUInt32.toUInt16.toUInt32.toInt32))]) (rest := [(.int (F1 (i1.toUInt32.toUInt16.toUInt32.toInt32)))]) (lenOf pd_0 rfl) rfl (by show 2 * 0 + _ ≤ _; exact Nat.le_of_eq rfl) (hb hby at_14) (fun _ _ => ⟨rfl, eh3, (by decide : 0 + 0 ≤ _), (by decide : 0 + 0 ≤ _)⟩)
  dsimp only [Pt.U, Pt.locs, Pt.cells, Pt.slots] at X5 l5 y5 z5 st5 hQ5
  subst l5 y5 z5
  obtain ⟨rfl, N6, eh7⟩ := hQ5
  have N8 := Fr.app N4 N6
  refine Go.of st5 ?_
  show Go p e below Qo T5 (mkF m 17 #[.val (.int i1), .val (.int i2), .val (.int (i1.toUInt32.toUInt16.toUInt32.toInt32)), .val (.int ((i2 &&& (127 : Int32)).toUInt32.toUInt16.toUInt32.toInt32))] [(.int (F2 (i1.toUInt32.toUInt16.toUInt32.toInt32))), (.int (F1 (i1.toUInt32.toUInt16.toUInt32.toInt32)))])
  by_cases hc17_9 : (F1 (i1.toUInt32.toUInt16.toUInt32.toInt32)) = (F2 (i1.toUInt32.toUInt16.toUInt32.toInt32))
  · refine Go.of (fun t k => XS.icmpNo X5.here hx rfl (hb hby at_17) rfl (teq hc17_9).2 k) ?_
    show Go p e below Qo T5 (mkF m 20 #[.val (.int i1), .val (.int i2), .val (.int (i1.toUInt32.toUInt16.toUInt32.toInt32)), .val (.int ((i2 &&& (127 : Int32)).toUInt32.toUInt16.toUInt32.toInt32))] [])
    refine Go.of (fun t k => XS.iloadN X5.here hx rfl (hb hby at_20) rfl  k) ?_
    show Go p e below Qo T5 (mkF m 21 #[.val (.int i1), .val (.int i2), .val (.int (i1.toUInt32.toUInt16.toUInt32.toInt32)), .val (.int ((i2 &&& (127 : Int32)).toUInt32.toUInt16.toUInt32.toInt32))] [(.int ((i2 &&& (127 : Int32)).toUInt32.toUInt16.toUInt32.toInt32))])
    obtain ⟨_, _, ⟨T10, L10, k10, n10⟩, -, X10, ⟨Lc10, hQ10, l10, y10, z10⟩, st10⟩ := Jvm.LawKit.callS X5 hx (y := (⟨"com/example/interleave/interleave/Database", "isKeyCharacter", "(C)Z"⟩ : MethodName)) hown (mvT hZ (hw _ (List.mem_of_getElem? (i := 0) rfl))) (mvT hZ (hw _ (List.mem_of_getElem? (i := 1) rfl))) (mvT hZ (hw _ (List.mem_of_getElem? (i := 2) rfl))) (mvT hZ (hw _ (List.mem_of_getElem? (i := 3) rfl))) (by decide) (backOf (W := 0) (rm1 l Z a0 hw [] ((i2 &&& (127 : Int32)).toUInt32.toUInt16.toUInt32.toInt32) h0 n0 Z0 ) hZ (hw _ (List.mem_of_getElem? (i := 3) rfl)) (hw _ (List.mem_of_getElem? (i := 2) rfl)) (by decide) (by decide)) (g := (mkF m 21 #[.val (.int i1), .val (.int i2), .val (.int (i1.toUInt32.toUInt16.toUInt32.toInt32)), .val (.int ((i2 &&& (127 : Int32)).toUInt32.toUInt16.toUInt32.toInt32))] [(.int ((i2 &&& (127 : Int32)).toUInt32.toUInt16.toUInt32.toInt32))])) rfl (by rw [hml]; rfl) (argsL := [(.int ((i2 &&& (127 : Int32)).toUInt32.toUInt16.toUInt32.toInt32))]) (rest := []) (lenOf pd_0 rfl) rfl (by show 2 * 0 + _ ≤ _; exact Nat.le_of_eq rfl) (hb hby at_21) (fun _ _ => ⟨rfl, eh7, (by decide : 0 + 0 ≤ _), (by decide : 0 + 0 ≤ _)⟩)
    dsimp only [Pt.U, Pt.locs, Pt.cells, Pt.slots] at X10 l10 y10 z10 st10 hQ10
    subst l10 y10 z10
    obtain ⟨rfl, N11, eh12⟩ := hQ10
    have N13 := Fr.app N8 N11
    refine Go.of st10 ?_
    show Go p e below Qo T10 (mkF m 24 #[.val (.int i1), .val (.int i2), .val (.int (i1.toUInt32.toUInt16.toUInt32.toInt32)), .val (.int ((i2 &&& (127 : Int32)).toUInt32.toUInt16.toUInt32.toInt32))] [(.int (F1 ((i2 &&& (127 : Int32)).toUInt32.toUInt16.toUInt32.toInt32)))])
    refine Go.of (fun t k => XS.iloadN X10.here hx rfl (hb hby at_24) rfl  k) ?_
    show Go p e below Qo T10 (mkF m 25 #[.val (.int i1), .val (.int i2), .val (.int (i1.toUInt32.toUInt16.toUInt32.toInt32)), .val (.int ((i2 &&& (127 : Int32)).toUInt32.toUInt16.toUInt32.toInt32))] [(.int ((i2 &&& (127 : Int32)).toUInt32.toUInt16.toUInt32.toInt32)), (.int (F1 ((i2 &&& (127 : Int32)).toUInt32.toUInt16.toUInt32.toInt32)))])
    obtain ⟨_, _, ⟨T14, L14, k14, n14⟩, -, X14, ⟨Lc14, hQ14, l14, y14, z14⟩, st14⟩ := Jvm.LawKit.callS X10 hx (y := (⟨"com/example/interleave/interleave/DatabaseIsKeyCharacterPinLaw", "expected", "(C)Z"⟩ : MethodName)) hown (mvT hZ (hw _ (List.mem_of_getElem? (i := 4) rfl))) (mvT hZ (hw _ (List.mem_of_getElem? (i := 5) rfl))) (mvT hZ (hw _ (List.mem_of_getElem? (i := 6) rfl))) (mvT hZ (hw _ (List.mem_of_getElem? (i := 7) rfl))) (by decide) (backOf (W := 1) (rm2 l Z a0 hw [] ((i2 &&& (127 : Int32)).toUInt32.toUInt16.toUInt32.toInt32) h0 n0 Z0 ) hZ (hw _ (List.mem_of_getElem? (i := 7) rfl)) (hw _ (List.mem_of_getElem? (i := 6) rfl)) (by decide) (by decide)) (g := (mkF m 25 #[.val (.int i1), .val (.int i2), .val (.int (i1.toUInt32.toUInt16.toUInt32.toInt32)), .val (.int ((i2 &&& (127 : Int32)).toUInt32.toUInt16.toUInt32.toInt32))] [(.int ((i2 &&& (127 : Int32)).toUInt32.toUInt16.toUInt32.toInt32)), (.int (F1 ((i2 &&& (127 : Int32)).toUInt32.toUInt16.toUInt32.toInt32)))])) rfl (by rw [hml]; rfl) (argsL := [(.int ((i2 &&& (127 : Int32)).toUInt32.toUInt16.toUInt32.toInt32))]) (rest := [(.int (F1 ((i2 &&& (127 : Int32)).toUInt32.toUInt16.toUInt32.toInt32)))]) (lenOf pd_0 rfl) rfl (by show 2 * 0 + _ ≤ _; exact Nat.le_of_eq rfl) (hb hby at_25) (fun _ _ => ⟨rfl, eh12, (by decide : 0 + 0 ≤ _), (by decide : 0 + 0 ≤ _)⟩)
    dsimp only [Pt.U, Pt.locs, Pt.cells, Pt.slots] at X14 l14 y14 z14 st14 hQ14
    subst l14 y14 z14
    obtain ⟨rfl, N15, eh16⟩ := hQ14
    have N17 := Fr.app N13 N15
    refine Go.of st14 ?_
    show Go p e below Qo T14 (mkF m 28 #[.val (.int i1), .val (.int i2), .val (.int (i1.toUInt32.toUInt16.toUInt32.toInt32)), .val (.int ((i2 &&& (127 : Int32)).toUInt32.toUInt16.toUInt32.toInt32))] [(.int (F2 ((i2 &&& (127 : Int32)).toUInt32.toUInt16.toUInt32.toInt32))), (.int (F1 ((i2 &&& (127 : Int32)).toUInt32.toUInt16.toUInt32.toInt32)))])
    have J28_20 : ∀ (v28_19 : Int32), v28_19 = (if (F1 ((i2 &&& (127 : Int32)).toUInt32.toUInt16.toUInt32.toInt32)) = (F2 ((i2 &&& (127 : Int32)).toUInt32.toUInt16.toUInt32.toInt32)) then (1 : Int32) else (0 : Int32)) → Go p e below Qo T14 (mkF m 36 #[.val (.int i1), .val (.int i2), .val (.int (i1.toUInt32.toUInt16.toUInt32.toInt32)), .val (.int ((i2 &&& (127 : Int32)).toUInt32.toUInt16.toUInt32.toInt32))] [(.int v28_19)]) := by
      intro v28_19 hv28_19
      show Go p e below Qo T14 (mkF m 36 #[.val (.int i1), .val (.int i2), .val (.int (i1.toUInt32.toUInt16.toUInt32.toInt32)), .val (.int ((i2 &&& (127 : Int32)).toUInt32.toUInt16.toUInt32.toInt32))] [(.int v28_19)])
      have hfin : v28_19 = 1 := by
        exact hv28_19.trans (if_pos (own_same _))
      exact own_retN X14 hx Bd.notSynchronized (t := .boolean) Bd.returns (by simp) (hb hby at_36) (fun u hu hF => hQo _ _ _ ⟨by rw [hfin]; rfl, N17⟩ (own_mono hF (by decide) (by decide)))
    by_cases hc28_21 : (F1 ((i2 &&& (127 : Int32)).toUInt32.toUInt16.toUInt32.toInt32)) = (F2 ((i2 &&& (127 : Int32)).toUInt32.toUInt16.toUInt32.toInt32))
    · refine Go.of (fun t k => XS.icmpNo X14.here hx rfl (hb hby at_28) rfl (teq hc28_21).2 k) ?_
      show Go p e below Qo T14 (mkF m 31 #[.val (.int i1), .val (.int i2), .val (.int (i1.toUInt32.toUInt16.toUInt32.toInt32)), .val (.int ((i2 &&& (127 : Int32)).toUInt32.toUInt16.toUInt32.toInt32))] [])
      refine Go.of (fun t k => XS.iconst X14.here hx rfl (hb hby at_31) k) ?_
      show Go p e below Qo T14 (mkF m 32 #[.val (.int i1), .val (.int i2), .val (.int (i1.toUInt32.toUInt16.toUInt32.toInt32)), .val (.int ((i2 &&& (127 : Int32)).toUInt32.toUInt16.toUInt32.toInt32))] [(.int (1 : Int32))])
      refine Go.of (fun t k => XS.goto X14.here hx rfl (pc0 := 32) (pc' := 36) rfl (hb hby at_32) (by decide) (by decide) k) ?_
      show Go p e below Qo T14 (mkF m 36 #[.val (.int i1), .val (.int i2), .val (.int (i1.toUInt32.toUInt16.toUInt32.toInt32)), .val (.int ((i2 &&& (127 : Int32)).toUInt32.toUInt16.toUInt32.toInt32))] [(.int (1 : Int32))])
      exact J28_20 _ (by first | rfl | (rw [if_pos hc28_21]) | (simp only [hc28_21, if_true, if_false]; done) | simp [hc28_21])
    · refine Go.of (fun t k => XS.icmpYes X14.here hx rfl (pc0 := 28) (pc' := 35) rfl (hb hby at_28) rfl (feq hc28_21).2 (by decide) (by decide) k) ?_
      show Go p e below Qo T14 (mkF m 35 #[.val (.int i1), .val (.int i2), .val (.int (i1.toUInt32.toUInt16.toUInt32.toInt32)), .val (.int ((i2 &&& (127 : Int32)).toUInt32.toUInt16.toUInt32.toInt32))] [])
      refine Go.of (fun t k => XS.iconst X14.here hx rfl (hb hby at_35) k) ?_
      show Go p e below Qo T14 (mkF m 36 #[.val (.int i1), .val (.int i2), .val (.int (i1.toUInt32.toUInt16.toUInt32.toInt32)), .val (.int ((i2 &&& (127 : Int32)).toUInt32.toUInt16.toUInt32.toInt32))] [(.int (0 : Int32))])
      exact J28_20 _ (by first | rfl | (rw [if_neg hc28_21]) | (simp only [hc28_21, if_true, if_false]; done) | simp [hc28_21])
  · refine Go.of (fun t k => XS.icmpYes X5.here hx rfl (pc0 := 17) (pc' := 35) rfl (hb hby at_17) rfl (feq hc17_9).2 (by decide) (by decide) k) ?_
    show Go p e below Qo T5 (mkF m 35 #[.val (.int i1), .val (.int i2), .val (.int (i1.toUInt32.toUInt16.toUInt32.toInt32)), .val (.int ((i2 &&& (127 : Int32)).toUInt32.toUInt16.toUInt32.toInt32))] [])
    refine Go.of (fun t k => XS.iconst X5.here hx rfl (hb hby at_35) k) ?_
    show Go p e below Qo T5 (mkF m 36 #[.val (.int i1), .val (.int i2), .val (.int (i1.toUInt32.toUInt16.toUInt32.toInt32)), .val (.int ((i2 &&& (127 : Int32)).toUInt32.toUInt16.toUInt32.toInt32))] [(.int (0 : Int32))])
    exfalso
    exact hc17_9 (own_same _)
set_option maxRecDepth 65536 in
set_option maxHeartbeats 40000000 in
theorem comes_1 {Post : Tables → Env → Array Value → State → Outcome → State → Prop} (hpost : ∀ tb e args s v u, (limb_1_1.after args s (.returned v) u = true ∧ limb_1_2.after args s (.returned v) u = true ∧ True) → FrameEnd s (.returned v) u (Jvm.fieldLocs frame_1_writes args s ++ Jvm.arrayLocs frame_1_arrays args s ++ Jvm.staticLocs frame_1_statics s) 0 0 → Post tb e args s (.returned v) u) :
    ArmFor flags0 classFile x code maxLocals ret World_1 tables_1 room_1 Calls_1 rest_1 Pre_1 Post := by
  intro l hfl _ _ p e ha hc hk s m args below hf hA hF happ hP
  obtain ⟨hcalls, hrest, hpre⟩ := hP
  obtain ⟨-, -, -, hnamed, -, -, -, hat⟩ := (Spec.applies_iff hf).mp happ
  obtain ⟨hg, hn⟩ := and_e (Cond.before_iff.mp (show (Jvm.Cond.and given_1 narrow_1).before args s = true from hpre))
  obtain ⟨hg0, hgr0⟩ := and_e hg
  obtain ⟨ha0, hgr1⟩ := and_e hgr0
  obtain ⟨w0, w1, rfl⟩ : ∃ w0 w1 : Value, args = #[w0, w1] := by
    have hs : args.size = 2 := by simpa [Cond.value, given_1] using hg0
    obtain ⟨L⟩ := args
    match L, hs with
    | [w0, w1], _ => exact ⟨w0, w1, rfl⟩
  have hw := fun d (hd : d ∈ tables_1) => atoms_spec (ws := Jvm.Cond.code x code maxLocals ret :: tables_1) hat d (List.mem_cons_of_mem _ hd)
  have hfit : Fit s := fun {y c} hc i hi => by
    obtain ⟨ha, rfl⟩ := Array.getElem?_eq_some_iff.mp hc
    have q := List.all_eq_true.mp ((Array.all_eq_true_iff_forall_mem.mp hF) _ (Array.getElem_mem ha)) i (List.mem_range.mpr hi)
    simpa [Array.getElem?_eq_getElem hi] using q
  obtain ⟨i0, ei0⟩ := is_v ha0
  obtain rfl : w0 = (.int i0) := Option.some.inj ei0
  obtain ⟨i1, ei1⟩ := is_v hgr1
  obtain rfl : w1 = (.int i1) := Option.some.inj ei1
  obtain ⟨n, o, h1, h2, h3, _, L, rfl, ⟨rfl, N⟩, hq⟩ := rm0 l s _ hw tables_1 i0 i1  s.heap s.heap.size (Nat.le_refl _)  p e ha hc hk s m _ below hf ((Spec.applies_iff_loose hf).mp happ).1 ⟨rfl, State.Warmed39.refl s, rfl⟩ trivial
  refine ⟨n, _, h1, h2, h3, hpost _ _ _ _ _ _ ⟨Cond.after_iff.mpr rfl, Cond.after_iff.mpr (eq_i res_at (Term.int_eval (1)) rfl), trivial⟩ ⟨hq.1, hq.2.1, (hq.2.2.sift fun y hy => Or.inr (N y hy)).mono (by decide) (by decide)⟩⟩
theorem main_1_1 : Claimed_1_1 := comes_1 fun _ _ _ _ _ _ h hF => ⟨h.1, hF⟩
theorem main_1_2 : Claimed_1_2 := comes_1 fun _ _ _ _ _ _ h hF => ⟨h.2.1, hF⟩
end Jvm.Pilot.@@N@@
namespace Jvm.Pilot.@@N@@
open Jvm Jvm.ClassFile Sem Op Lib Jvm.Free Jvm.Stand Jvm.Pilot.@@N@@.Jvm.D
/-! MADE BY PROGRAM (witnessworld.py) out of the Statement's table words and the real class files: 10 classes; the members and pool entries that the words name. The judged class is class 1, her method 1. -/
namespace start1
open Jvm.ClassFile
def u (s : String) : CpInfo := .utf8 (stringToUtf16 s)
/-- a pool by its gaps: so many unusable entries, then the entry; so many at the end -/
def gap : Nat → List CpInfo → List CpInfo
  | 0, r => r
  | n + 1, r => .unusable :: gap n r
def poolList (es : List (Nat × CpInfo)) (last : Nat) : List CpInfo := es.foldr (fun e r => gap e.1 (e.2 :: r)) (gap last [])
def pool (es : List (Nat × CpInfo)) (last : Nat) : Array CpInfo := ⟨poolList es last⟩
def fileOf (pool : Array CpInfo) (this : Nat) (attrs : Array Attribute := #[]) (ms : Array MethodInfo := #[]) (fl : Nat := 33) (sup : Nat := 0) (ifs : Array Nat := #[]) (fds : Array FieldInfo := #[]) : ClassFile where
  minorVersion := 0
  majorVersion := 65
  constantPool := pool
  accessFlags := fl
  thisClass := this
  superClass := sup
  interfaces := ifs
  fields := fds
  methods := ms
  attributes := attrs
def plain (name : String) (sup : Option ClassId) : Class where
  name := name
  kind := .ordinary
  loader := none
  accessFlags := 33
  super := sup
  interfaces := #[]
  cf := none
  fields := #[]
  methods := #[]
  instanceTypes := #[]
  staticTypes := #[]
  resolved := #[]
  callSites := []
  init := .initialized
  statics := none
  mirror := none

def pool0 : Array CpInfo := pool [(5, u "<init>"), (0, u "()V"), (1, .class_ 10), (1, u "java/lang/Object")] 113

def k0m0 : Method := { name := "<init>", desc := "()V", sig := { parameters := [], returnType := none }, accessFlags := 1, code := none }
/-- java/lang/Object -/
def k0 : Class := { plain "java/lang/Object" none with
  accessFlags := 33
  interfaces := #[]
  cf := some (fileOf pool0 8 #[] #[{ accessFlags := 1, nameIndex := 5, descriptorIndex := 6, attributes := #[] }] 33 0 #[] #[])
  fields := #[]
  methods := #[k0m0]
  instanceTypes := #[]
  staticTypes := #[]
  resolved := Array.replicate 124 none
  statics := none }

def pool1 : Array CpInfo := pool [(2, .class_ 4), (1, u "java/lang/Object"), (0, u "<init>"), (0, u "()V"), (0, .methodref 8 9), (0, .class_ 10), (0, .nameAndType 11 12), (0, u "com/example/interleave/interleave/Database"), (0, u "isKeyCharacter"), (0, u "(C)Z"), (0, .methodref 14 15), (0, .class_ 16), (0, .nameAndType 17 12), (0, u "com/example/interleave/interleave/DatabaseIsKeyCharacterPinLaw"), (0, u "expected"), (2, u "law"), (0, u "(II)Z")] 3

def k1m0 : Method := { name := "<init>", desc := "()V", sig := { parameters := [], returnType := none }, accessFlags := 1, code := none }
def k1c1 : Code := { maxStack := 2, maxLocals := 4, code := code, exceptionTable := #[], attributes := #[] }
def k1m1 : Method := { name := "law", desc := "(II)Z", sig := { parameters := [.int, .int], returnType := some .boolean }, accessFlags := 9, code := some k1c1 }
def k1c2 : Code := { maxStack := 2, maxLocals := 2, code := method_3_code, exceptionTable := #[], attributes := #[] }
def k1m2 : Method := { name := "expected", desc := "(C)Z", sig := { parameters := [.char], returnType := some .boolean }, accessFlags := 10, code := some k1c2 }
/-- com/example/interleave/interleave/DatabaseIsKeyCharacterPinLaw -/
def k1 : Class := { plain "com/example/interleave/interleave/DatabaseIsKeyCharacterPinLaw" (some 0) with
  accessFlags := 49
  interfaces := #[]
  cf := some (fileOf pool1 14 #[] #[{ accessFlags := 1, nameIndex := 5, descriptorIndex := 6, attributes := #[] }, { accessFlags := 9, nameIndex := 20, descriptorIndex := 21, attributes := #[] }, { accessFlags := 10, nameIndex := 17, descriptorIndex := 12, attributes := #[] }] 49 2 #[] #[])
  fields := #[]
  methods := #[k1m0, k1m1, k1m2]
  instanceTypes := #[]
  staticTypes := #[]
  resolved := Array.replicate 25 none
  statics := none }

def pool2 : Array CpInfo := pool [(1, .class_ 2), (0, u "java/lang/AutoCloseable"), (0, .class_ 4), (0, u "java/lang/Object")] 7

/-- java/lang/AutoCloseable -/
def k2 : Class := { plain "java/lang/AutoCloseable" (some 0) with
  accessFlags := 1537
  interfaces := #[]
  cf := some (fileOf pool2 1 #[] #[] 1537 3 #[] #[])
  fields := #[]
  methods := #[]
  instanceTypes := #[]
  staticTypes := #[]
  resolved := Array.replicate 12 none
  statics := none }

def pool3 : Array CpInfo := pool [(2, .class_ 4), (1, u "java/lang/Object"), (6, .class_ 13), (1, u "com/example/interleave/interleave/Database"), (0, u "lock"), (0, u "Ljava/util/concurrent/locks/ReentrantLock;"), (5, u "committed"), (0, u "Ljava/util/TreeMap;"), (17, u "locks"), (0, u "Lcom/example/interleave/interleave/Locks;"), (5, u "active"), (0, u "Ljava/util/Set;"), (2, u "snapshotReaders"), (1, u "protocol"), (7, u "Lcom/example/interleave/interleave/Protocol;"), (11, u "history"), (0, u "Lcom/example/interleave/interleave/History;"), (2, u "log"), (0, u "Lcom/example/interleave/interleave/WriteAheadLog;"), (38, u "changingCommits"), (0, u "J"), (26, u "lastCommit"), (18, u "closed"), (0, u "Z"), (27, .class_ 194), (0, u "com/example/interleave/interleave/Database$Version"), (46, u "isKeyCharacter"), (0, u "(C)Z"), (23, u "lastBegin"), (205, .class_ 474), (1, u "com/example/interleave/interleave/Database$Outcome"), (259, .class_ 735), (0, u "java/lang/AutoCloseable"), (0, u "MAX_KEY_LENGTH"), (0, u "I")] 124

def k3c0 : Code := { maxStack := 2, maxLocals := 1, code := prog_10_method_17_code, exceptionTable := #[], attributes := #[] }
def k3m0 : Method := { name := "isKeyCharacter", desc := "(C)Z", sig := { parameters := [.char], returnType := some .boolean }, accessFlags := 9, code := some k3c0 }
/-- com/example/interleave/interleave/Database -/
def k3 : Class := { plain "com/example/interleave/interleave/Database" (some 0) with
  accessFlags := 49
  interfaces := #[2]
  cf := some (fileOf pool3 11 #[.nestMembers #[193, 472]] #[{ accessFlags := 9, nameIndex := 241, descriptorIndex := 242, attributes := #[] }] 49 2 #[734] #[{ accessFlags := 25, nameIndex := 736, descriptorIndex := 737, attributes := #[] }, { accessFlags := 18, nameIndex := 53, descriptorIndex := 61, attributes := #[] }, { accessFlags := 18, nameIndex := 14, descriptorIndex := 15, attributes := #[] }, { accessFlags := 18, nameIndex := 21, descriptorIndex := 22, attributes := #[] }, { accessFlags := 18, nameIndex := 40, descriptorIndex := 41, attributes := #[] }, { accessFlags := 18, nameIndex := 47, descriptorIndex := 48, attributes := #[] }, { accessFlags := 18, nameIndex := 51, descriptorIndex := 48, attributes := #[] }, { accessFlags := 2, nameIndex := 145, descriptorIndex := 118, attributes := #[] }, { accessFlags := 2, nameIndex := 266, descriptorIndex := 118, attributes := #[] }, { accessFlags := 2, nameIndex := 117, descriptorIndex := 118, attributes := #[] }, { accessFlags := 2, nameIndex := 164, descriptorIndex := 165, attributes := #[] }, { accessFlags := 18, nameIndex := 73, descriptorIndex := 74, attributes := #[] }, { accessFlags := 18, nameIndex := 77, descriptorIndex := 78, attributes := #[] }])
  fields := #[{ name := "MAX_KEY_LENGTH", type := .int, accessFlags := 25, slot := 0, constantValue := 0 }, { name := "protocol", type := (.object "com/example/interleave/interleave/Protocol"), accessFlags := 18, slot := 0, constantValue := 0 }, { name := "lock", type := (.object "java/util/concurrent/locks/ReentrantLock"), accessFlags := 18, slot := 1, constantValue := 0 }, { name := "committed", type := (.object "java/util/TreeMap"), accessFlags := 18, slot := 2, constantValue := 0 }, { name := "locks", type := (.object "com/example/interleave/interleave/Locks"), accessFlags := 18, slot := 3, constantValue := 0 }, { name := "active", type := (.object "java/util/Set"), accessFlags := 18, slot := 4, constantValue := 0 }, { name := "snapshotReaders", type := (.object "java/util/Set"), accessFlags := 18, slot := 5, constantValue := 0 }, { name := "lastCommit", type := .long, accessFlags := 2, slot := 6, constantValue := 0 }, { name := "lastBegin", type := .long, accessFlags := 2, slot := 7, constantValue := 0 }, { name := "changingCommits", type := .long, accessFlags := 2, slot := 8, constantValue := 0 }, { name := "closed", type := .boolean, accessFlags := 2, slot := 9, constantValue := 0 }, { name := "history", type := (.object "com/example/interleave/interleave/History"), accessFlags := 18, slot := 10, constantValue := 0 }, { name := "log", type := (.object "com/example/interleave/interleave/WriteAheadLog"), accessFlags := 18, slot := 11, constantValue := 0 }]
  methods := #[k3m0]
  instanceTypes := #[(.object "com/example/interleave/interleave/Protocol"), (.object "java/util/concurrent/locks/ReentrantLock"), (.object "java/util/TreeMap"), (.object "com/example/interleave/interleave/Locks"), (.object "java/util/Set"), (.object "java/util/Set"), .long, .long, .long, .boolean, (.object "com/example/interleave/interleave/History"), (.object "com/example/interleave/interleave/WriteAheadLog")]
  staticTypes := #[.int]
  resolved := Array.replicate 862 none
  statics := none }

def pool4 : Array CpInfo := pool [(1, u "java/lang/Cloneable"), (0, .class_ 1), (0, u "java/lang/Object"), (0, .class_ 3)] 3

/-- java/lang/Cloneable -/
def k4 : Class := { plain "java/lang/Cloneable" (some 0) with
  accessFlags := 1537
  interfaces := #[]
  cf := some (fileOf pool4 2 #[] #[] 1537 4 #[] #[])
  fields := #[]
  methods := #[]
  instanceTypes := #[]
  staticTypes := #[]
  resolved := Array.replicate 8 none
  statics := none }

def pool5 : Array CpInfo := pool [(1, u "java/io/Serializable"), (0, .class_ 1), (0, u "java/lang/Object"), (0, .class_ 3)] 3

/-- java/io/Serializable -/
def k5 : Class := { plain "java/io/Serializable" (some 0) with
  accessFlags := 1537
  interfaces := #[]
  cf := some (fileOf pool5 2 #[] #[] 1537 4 #[] #[])
  fields := #[]
  methods := #[]
  instanceTypes := #[]
  staticTypes := #[]
  resolved := Array.replicate 8 none
  statics := none }

/-- the primitive byte -/
def k6 : Class := { plain "byte" none with kind := .primitive 'B', accessFlags := 0x411 }
/-- [B -/
def k7 : Class := { plain "[B" (some 0) with kind := .array 6 .byte, interfaces := #[4, 5], accessFlags := 1041 }

/-- the primitive int -/
def k8 : Class := { plain "int" none with kind := .primitive 'I', accessFlags := 0x411 }
/-- [I -/
def k9 : Class := { plain "[I" (some 0) with kind := .array 8 .int, interfaces := #[4, 5], accessFlags := 1041 }

def heap : Heap := #[]
def classes : Array Class := #[k0, k1, k2, k3, k4, k5, k6, k7, k8, k9]
def interned : List (Array UInt16 × Addr) := []
def slotsUsed : Nat := 0
def theMethod : MethodId := ⟨1, 1⟩
def args0 : Array Value := #[.int 5, .int 7]
def aboutOver (below : List Frame) : State where
  vm := { classes := classes, interned := interned.toArray }
  heap := heap
  slotsUsed := slotsUsed
  threads := #[{ frames := .invoking theMethod args0 :: below }]
def below0 : List Frame := [.native { method := ⟨0, 0⟩, args := #[] }]
def about1 : State := aboutOver below0
def p0 : Program := .bare "" "" ""
def e0 : Env := launch0.env 0 0 0
theorem w_frames : about1.frames = Frame.invoking theMethod args0 :: below0 := rfl
set_option maxRecDepth 65536 in
theorem w_args : argsFit about1.vm theMethod args0 = true := by decide +kernel
set_option maxRecDepth 65536 in
theorem w_heap : heapFits about1 = true := by decide +kernel
set_option maxRecDepth 65536 in
theorem w_runnable : about1.curStatus? = some .runnable := by decide +kernel
set_option maxRecDepth 65536 in
theorem w_alone : about1.alone = true := by decide +kernel
set_option maxRecDepth 65536 in
theorem w_named : about1.methodNamed? x = some theMethod := by decide +kernel
set_option maxRecDepth 65536 in
theorem w_hears : about1.hears theMethod below0 = true := by decide +kernel
set_option maxRecDepth 65536 in
theorem w_ripe : about1.ripe theMethod args0 below0 = true := by decide +kernel
theorem w_running : about1.status = .running := rfl
set_option maxRecDepth 65536 in
theorem w_room : about1.hasRoom e0.platform room_1 = true :=
  launch0.hasRoom_least _ room_1 (by decide +kernel) (by decide +kernel) (by decide +kernel) (by decide +kernel) (by decide +kernel) (by decide +kernel)
theorem allAtoms_all (ts : List Jvm.Cond) (a : Array Jvm.Value) (st : Jvm.State) : (allAtoms ts).before a st = ts.all (fun c => c.before a st) := by
  induction ts with
  | nil => rfl
  | cons c t ih =>
    show (Jvm.Cond.and c (allAtoms t)).before a st = _
    rw [Jvm.Cond.before_and, ih, List.all_cons]
def words1 : List Jvm.Cond := Jvm.Cond.code x code maxLocals ret :: tables_1
/-- a 'code' word, met by the world's own term for the bytes: nothing is compared byte by byte -/
theorem code_word {y : MethodName} {bytes : ByteArray} {mx : Nat} {rt : Option FieldType} {a : Array Value} {s : State} {m : MethodId} {meth : Method} {c : Code} (h1 : s.methodNamed? y = some m) (h2 : s.vm.method? m = some meth) (h3 : meth.code = some c) (h4 : c.code = bytes)
    (h5 : (c.maxLocals == mx && c.exceptionTable.isEmpty && decide (c.maxStack ≤ mostOperands) && decide (meth.sig.returnType = rt) && !meth.locks && decide (parseMethodDescriptor y.desc = some meth.sig)) = true) : (Jvm.Cond.code y bytes mx rt).before a s = true := by
  simp only [Bool.and_eq_true, beq_iff_eq, Bool.not_eq_true', decide_eq_true_eq] at h5
  obtain ⟨⟨⟨⟨⟨g1, g2⟩, g3⟩, g4⟩, g5⟩, g6⟩ := h5
  simp [Cond.before, Cond.holds, Cond.value, h1, h2, h3, h4, g1, g2, g3, g4, g5, g6]
def isCode : Jvm.Cond → Bool
  | .code _ _ _ _ => true
  | _ => false
theorem all_split {L : List Jvm.Cond} {P : Jvm.Cond → Bool} (h1 : L.all (fun c => isCode c || P c) = true) (h2 : ∀ c ∈ L.filter isCode, P c = true) : L.all P = true := by
  refine List.all_eq_true.mpr fun c hc => ?_
  have h := List.all_eq_true.mp h1 c hc
  rcases Bool.eq_false_or_eq_true (isCode c) with hi | hi
  · exact h2 c (List.mem_filter.mpr ⟨hc, hi⟩)
  · simpa [hi] using h
set_option maxRecDepth 65536 in
theorem w_c0 : (Jvm.Cond.code x code maxLocals ret).before args0 about1 = true := code_word (m := ⟨1, 1⟩) (meth := k1m1) (c := k1c1) (by decide +kernel) rfl rfl rfl (by decide +kernel)
set_option maxRecDepth 65536 in
theorem w_c1 : (Jvm.Cond.code ({ cls := "com/example/interleave/interleave/Database", name := "isKeyCharacter", desc := "(C)Z" } : Jvm.MethodName) prog_10_method_17_code (1 : Nat) (Option.some Jvm.ClassFile.FieldType.boolean)).before args0 about1 = true := code_word (m := ⟨3, 0⟩) (meth := k3m0) (c := k3c0) (by decide +kernel) rfl rfl rfl (by decide +kernel)
set_option maxRecDepth 65536 in
theorem w_c2 : (Jvm.Cond.code ({ cls := "com/example/interleave/interleave/DatabaseIsKeyCharacterPinLaw", name := "expected", desc := "(C)Z" } : Jvm.MethodName) method_3_code (2 : Nat) (Option.some Jvm.ClassFile.FieldType.boolean)).before args0 about1 = true := code_word (m := ⟨1, 2⟩) (meth := k1m2) (c := k1c2) (by decide +kernel) rfl rfl rfl (by decide +kernel)
def codes1 : List Jvm.Cond := [Jvm.Cond.code x code maxLocals ret, Jvm.Cond.code ({ cls := "com/example/interleave/interleave/Database", name := "isKeyCharacter", desc := "(C)Z" } : Jvm.MethodName) prog_10_method_17_code (1 : Nat) (Option.some Jvm.ClassFile.FieldType.boolean), Jvm.Cond.code ({ cls := "com/example/interleave/interleave/DatabaseIsKeyCharacterPinLaw", name := "expected", desc := "(C)Z" } : Jvm.MethodName) method_3_code (2 : Nat) (Option.some Jvm.ClassFile.FieldType.boolean)]
set_option maxRecDepth 65536 in
theorem codes_eq : words1.filter isCode = codes1 := rfl
theorem w_codes : ∀ c ∈ words1.filter isCode, c.before args0 about1 = true := by
  rw [codes_eq]
  intro c hc
  simp only [codes1, List.mem_cons, List.not_mem_nil, or_false] at hc
  rcases hc with rfl | rfl | rfl
  · exact w_c0
  · exact w_c1
  · exact w_c2
set_option maxRecDepth 65536 in
theorem w_t1 : words1.all (fun c => isCode c || c.before args0 about1) = true := by decide +kernel
theorem w_tables : (allAtoms (Jvm.Cond.code x code maxLocals ret :: tables_1)).before args0 about1 = true := by
  rw [allAtoms_all]
  show words1.all (fun c => c.before args0 about1) = true
  refine all_split ?_ w_codes
  rw [w_t1]
set_option maxRecDepth 65536 in
theorem w_case : (Jvm.Cond.and given_1 narrow_1).before args0 about1 = true := by decide +kernel
theorem w_applies : (headSpec (Jvm.Cond.code x code maxLocals ret :: tables_1) room_1).applies x e0.platform about1 = true :=
  (Spec.applies_iff w_frames).mpr ⟨w_running, w_runnable, w_alone, w_named, w_hears, w_ripe, w_room, w_tables⟩
theorem atStart : AtStart classFile x code maxLocals ret World_1 tables_1 room_1 Calls_1 rest_1 Pre_1 launch0 p0 e0 about1 theMethod args0 below0 :=
  ⟨lists_1, trivial, launch0.admits_env _ _ _, launch0.least_env, fairChoices_fair.cas, fairChoices_fair.clock, w_frames, w_args, w_heap, w_applies, trivial, trivial, w_case⟩
end start1
theorem witness_1 : WitnessClaimed_1 := ⟨start1.p0, start1.e0, start1.about1, start1.theMethod, start1.args0, start1.below0, start1.atStart⟩
end Jvm.Pilot.@@N@@
