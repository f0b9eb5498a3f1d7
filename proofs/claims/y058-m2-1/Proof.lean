import JvmDerived
import JvmDerived.Pilot.@@N@@Statement
import JvmDerived.Pilot.@@N@@Code
set_option linter.unusedVariables false
set_option linter.unusedSimpArgs false
namespace Jvm.Pilot.@@N@@
open Jvm Jvm.ClassFile Sem Op Lib Jvm.Free Jvm.Stand Jvm.LawKit Jvm.RoadKit Bundle Jvm.Pilot.@@N@@.Jvm.D
/-! the run comes to an end that answers Q -/
def Go (p : Program) (e : Env) (below : List Frame) (Q : Outcome → State → Prop) (T : State) (g : JFrame) : Prop :=
  ∃ s₂ o, Steps p.tables e below (T.setTop g) s₂ ∧ s₂.status = .running ∧ Ended s₂ below o ∧ Q o s₂
section Own
variable {p : Program} {l : Launch} {e : Env} {R : Room} {s : State} {m : MethodId} {args : Array Value} {below : List Frame} {meth : Method} {c : Code} {T T' : State} {locs : List Loc} {cells slots : Nat} {Q : Outcome → State → Prop} {g g' : JFrame}
theorem Go.of (k : ∀ t, Steps p.tables e below (T'.setTop g') t → Steps p.tables e below (T.setTop g) t) (h : Go p e below Q T' g') : Go p e below Q T g := by
  obtain ⟨u, o, h1, h2⟩ := h
  exact ⟨u, o, k _ h1, h2⟩
theorem Go.via (k : Steps p.tables e below (T.setTop g) (T'.setTop g')) (h : Go p e below Q T' g') : Go p e below Q T g := by
  obtain ⟨u, o, h1, h2⟩ := h
  exact ⟨u, o, k.trans h1, h2⟩
theorem Go.cast (q : g = g') (h : Go p e below Q T g') : Go p e below Q T g := q ▸ h
theorem own_out (X : Stand p l e R s m args below meth c T locs cells slots) {v : Option Value} (hv : meth.sig.returnType = none → v = none) (hlocks : meth.locks = false)
    (k : ∀ fs : List Frame, (∀ (f : JFrame) (acts : List Action), f.method = m → f.locked = none → f.entered = [] → (doReturn e (T.setTop f) acts v).1 = T.setFrames fs) → Steps p.tables e below (T.setTop g) (T.setFrames fs))
    (hQ : ∀ u : State, u.heap = T.heap → FrameEnd s (.returned v) u locs cells slots → Q (.returned v) u) : Go p e below Q T g := by
  obtain ⟨fs, hr, hrun, hended, hW, hsame⟩ := X.leave hv hlocks
  exact ⟨_, _, k fs hr, hrun, hended, hQ _ rfl ⟨⟨_, rfl⟩, hW, hsame⟩⟩
theorem own_retN (X : Stand p l e R s m args below meth c T locs cells slots) (hx : p.tables.exec = Jvm.exec) (hlocks : meth.locks = false) {pc : Nat} {Ls : Array Slot} {z : Int32} {t : FieldType} {rest : List Value} (hret : meth.sig.returnType = some t) (ht : t = .boolean ∨ t = .byte ∨ t = .char ∨ t = .short)
    (hd : decode c.code pc = .ok (.ireturn, 1)) (hQ : ∀ u : State, u.heap = T.heap → FrameEnd s (.returned (some (.int (nar t z)))) u locs cells slots → Q (.returned (some (.int (nar t z)))) u) : Go p e below Q T (mkF m pc Ls (.int z :: rest)) :=
  own_out X (fun h => by rw [hret] at h; cases h) hlocks (fun fs hr => retN X hx hret ht hd hr) hQ
theorem own_retW (X : Stand p l e R s m args below meth c T locs cells slots) (hx : p.tables.exec = Jvm.exec) (hlocks : meth.locks = false) {pc : Nat} {Ls : Array Slot} {w : Value} {t : FieldType} {i : Instr} {rest : List Value} (hret : meth.sig.returnType = some t) (hn : narrow t w = w)
    (hi : (i = .ireturn ∧ (t = .int ∨ t = .boolean ∨ t = .byte ∨ t = .char ∨ t = .short) ∧ ∃ z, w = .int z) ∨ (i = .lreturn ∧ t = .long ∧ ∃ z, w = .long z) ∨ (i = .dreturn ∧ t = .double ∧ ∃ z, w = .double z) ∨ (i = .freturn ∧ t = .float ∧ ∃ z, w = .float z) ∨ (i = .areturn ∧ t.isReference = true ∧ w.isRef = true))
    (hd : decode c.code pc = .ok (i, 1)) (hQ : ∀ u : State, u.heap = T.heap → FrameEnd s (.returned (some w)) u locs cells slots → Q (.returned (some w)) u) : Go p e below Q T (mkF m pc Ls (w :: rest)) :=
  own_out X (fun h => by rw [hret] at h; cases h) hlocks (fun fs hr => retOut X hx hret hn hi hd hr) hQ
theorem own_ret0 (X : Stand p l e R s m args below meth c T locs cells slots) (hx : p.tables.exec = Jvm.exec) (hlocks : meth.locks = false) {pc : Nat} {Ls : Array Slot} (hret : meth.sig.returnType = none)
    (hd : decode c.code pc = .ok (.return_, 1)) (hQ : ∀ u : State, u.heap = T.heap → FrameEnd s (.returned none) u locs cells slots → Q (.returned none) u) : Go p e below Q T (mkF m pc Ls []) :=
  own_out X (fun _ => rfl) hlocks (fun fs hr => X.returnOut hx hret hd hr) hQ
theorem own_mono {o : Outcome} {u : State} {k n k' n' : Nat} (h : FrameEnd s o u locs k n) (hk : k ≤ k') (hn : n ≤ n') : FrameEnd s o u locs k' n' := ⟨h.1, h.2.1, h.2.2.mono hk hn⟩
end Own
theorem d1_0 : decode method_2_code 0 = .ok (.iload_n 0, 1) := by decide +kernel
theorem d1_1 : decode method_2_code 1 = .ok (.iconst 3, 1) := by decide +kernel
theorem d1_2 : decode method_2_code 2 = .ok (.iand, 1) := by decide +kernel
theorem d1_3 : decode method_2_code 3 = .ok (.istore_n 2, 1) := by decide +kernel
theorem d1_4 : decode method_2_code 4 = .ok (.iload_n 2, 1) := by decide +kernel
theorem d1_5 : decode method_2_code 5 = .ok (.ifCond .ne 6, 3) := by decide +kernel
theorem d1_8 : decode method_2_code 8 = .ok (.bipush 78, 2) := by decide +kernel
theorem d1_10 : decode method_2_code 10 = .ok (.ireturn, 1) := by decide +kernel
theorem d1_11 : decode method_2_code 11 = .ok (.iload_n 2, 1) := by decide +kernel
theorem d1_12 : decode method_2_code 12 = .ok (.iconst 1, 1) := by decide +kernel
theorem d1_13 : decode method_2_code 13 = .ok (.if_icmp .ne 6, 3) := by decide +kernel
theorem d1_16 : decode method_2_code 16 = .ok (.bipush 65, 2) := by decide +kernel
theorem d1_18 : decode method_2_code 18 = .ok (.ireturn, 1) := by decide +kernel
theorem d1_19 : decode method_2_code 19 = .ok (.iload_n 2, 1) := by decide +kernel
theorem d1_20 : decode method_2_code 20 = .ok (.iconst 2, 1) := by decide +kernel
theorem d1_21 : decode method_2_code 21 = .ok (.if_icmp .ne 6, 3) := by decide +kernel
theorem d1_24 : decode method_2_code 24 = .ok (.bipush 83, 2) := by decide +kernel
theorem d1_26 : decode method_2_code 26 = .ok (.ireturn, 1) := by decide +kernel
theorem d1_27 : decode method_2_code 27 = .ok (.iload_n 1, 1) := by decide +kernel
theorem d1_28 : decode method_2_code 28 = .ok (.i2c, 1) := by decide +kernel
theorem d1_29 : decode method_2_code 29 = .ok (.ireturn, 1) := by decide +kernel
theorem pn_0 : plainName "com/example/lockstep/lockstep/protocol/PgMessageAsynchronousPinLaw" = true := by first | (simp [plainName, overriddenIn]; done) | decide +kernel
theorem ef_1 (m : MethodId) (i1 : Int32) (i2 : Int32)  : entryFrame m #[(.int i1), (.int i2)] 3 = mkF m 0 #[.val (.int i1), .val (.int i2), .unset] [] := by
  first | (simp [entryFrame, mkF, argsToLocals, Value.category]; done) | rfl
def F1 (i1 : Int32) (i2 : Int32) : Int32 := (if (i1 &&& (3 : Int32)) = (0 : Int32) then (nar .char (78 : Int32)) else (if (i1 &&& (3 : Int32)) = (1 : Int32) then (nar .char (65 : Int32)) else (if (i1 &&& (3 : Int32)) = (2 : Int32) then (nar .char (83 : Int32)) else (nar .char (i2.toUInt32.toUInt16.toUInt32.toInt32)))))
def Q1 (Z : State) (i1 : Int32) (i2 : Int32) (h0 : Heap) (n0 : Nat) (v : Option Value) (h : Heap) (L : List Loc) : Prop := v = some (.int (F1 i1 i2)) ∧ Fr n0 L ∧ h = h0
set_option maxRecDepth 65536 in
set_option maxHeartbeats 40000000 in
theorem rm1 (l : Launch) (Z : State) (a0 : Array Value) (hw : ∀ d ∈ tables_1, d.before a0 Z = true) (ws : List Jvm.Cond) (i1 : Int32) (i2 : Int32) (h0 : Heap) (n0 : Nat) (Z0 : n0 ≤ h0.size)  :
    MetFree l (⟨"com/example/lockstep/lockstep/protocol/PgMessageAsynchronousPinLaw", "pick", "(II)C"⟩ : MethodName) (head1 (Jvm.Cond.code (⟨"com/example/lockstep/lockstep/protocol/PgMessageAsynchronousPinLaw", "pick", "(II)C"⟩ : MethodName) method_2_code 3 (some .char) :: ws) ({ frames := 0, cells := 0, slots := 0, locals := 0 } : Room)) (fun a U => a = #[(.int i1), (.int i2)] ∧ Z.Warmed39 U.vm ∧ U.heap = h0) (fun _ _ _ _ _ => True) (fun _ U o U' => ∃ v L, o = .returned v ∧ Q1 Z i1 i2 h0 n0 v U'.heap L ∧ FrameEnd U o U' L ({ frames := 0, cells := 0, slots := 0, locals := 0 } : Room).cells ({ frames := 0, cells := 0, slots := 0, locals := 0 } : Room).slots) := by
  refine MetFree.of_bodySF (plainFor_of_name pn_0) hisR ?_
  intro p e s m args below meth c s₁ Bd hml0 hP hK
  obtain ⟨rfl, hZ, hh⟩ := hP
  have hx := Bd.exec
  have hby := Bd.bytes
  have hml : c.maxLocals = 3 := hml0
  have hown : s.vm.findClass "com/example/lockstep/lockstep/protocol/PgMessageAsynchronousPinLaw" = some m.cls := findClass_of_methodNamed Bd.named
  have hnm := (name_of_methodNamed Bd.named Bd.method).1
  have X0 : Stand p l e ({ frames := 0, cells := 0, slots := 0, locals := 0 } : Room) s m #[(.int i1), (.int i2)] below meth c s₁ [] 0 0 := Stand.of_body Bd
  have e0 : s₁.heap = h0 := by rw [← hh, Bd.state]; rfl
  have N0 := Fr.nil n0
  suffices H : ∀ Qo : Outcome → State → Prop, (∀ (v : Option Value) (u : State) (L : List Loc), Q1 Z i1 i2 h0 n0 v u.heap L → FrameEnd s (.returned v) u L ({ frames := 0, cells := 0, slots := 0, locals := 0 } : Room).cells ({ frames := 0, cells := 0, slots := 0, locals := 0 } : Room).slots → Qo (.returned v) u) → Go p e below Qo s₁ (mkF m 0 #[.val (.int i1), .val (.int i2), .unset] []) from
    Go.cast (ef_1 m i1 i2) (H _ fun v u L h1 h2 => ⟨v, L, rfl, h1, h2⟩)
  intro Qo hQo
  show Go p e below Qo s₁ (mkF m 0 #[.val (.int i1), .val (.int i2), .unset] [])
  refine Go.of (fun t k => XS.iloadN X0.here hx rfl (hb hby d1_0) rfl  k) ?_
  show Go p e below Qo s₁ (mkF m 1 #[.val (.int i1), .val (.int i2), .unset] [(.int i1)])
  refine Go.of (fun t k => XS.iconst X0.here hx rfl (hb hby d1_1) k) ?_
  show Go p e below Qo s₁ (mkF m 2 #[.val (.int i1), .val (.int i2), .unset] [(.int (3 : Int32)), (.int i1)])
  refine Go.of (fun t k => XS.iand X0.here hx rfl (hb hby d1_2) rfl k) ?_
  show Go p e below Qo s₁ (mkF m 3 #[.val (.int i1), .val (.int i2), .unset] [(.int (i1 &&& (3 : Int32)))])
  refine Go.of (fun t k => XS.istoreN X0.here hx rfl (hb hby d1_3) rfl (l' := #[.val (.int i1), .val (.int i2), .val (.int (i1 &&& (3 : Int32)))]) rfl k) ?_
  show Go p e below Qo s₁ (mkF m 4 #[.val (.int i1), .val (.int i2), .val (.int (i1 &&& (3 : Int32)))] [])
  refine Go.of (fun t k => XS.iloadN X0.here hx rfl (hb hby d1_4) rfl  k) ?_
  show Go p e below Qo s₁ (mkF m 5 #[.val (.int i1), .val (.int i2), .val (.int (i1 &&& (3 : Int32)))] [(.int (i1 &&& (3 : Int32)))])
  by_cases hc5_1 : (i1 &&& (3 : Int32)) = (0 : Int32)
  · refine Go.of (fun t k => XS.ifNo X0.here hx rfl (hb hby d1_5) rfl ((if0 _ _).trans (teq hc5_1).2) k) ?_
    show Go p e below Qo s₁ (mkF m 8 #[.val (.int i1), .val (.int i2), .val (.int (i1 &&& (3 : Int32)))] [])
    refine Go.of (fun t k => XS.bipush X0.here hx rfl (hb hby d1_8) k) ?_
    show Go p e below Qo s₁ (mkF m 10 #[.val (.int i1), .val (.int i2), .val (.int (i1 &&& (3 : Int32)))] [(.int (78 : Int32))])
    exact own_retN X0 hx Bd.notSynchronized (t := .char) Bd.returns (by simp) (hb hby d1_10) (fun u hu hF => hQo _ _ _ ⟨by rw [show (F1 i1 i2) = nar .char (78 : Int32) from by rw [F1, if_pos hc5_1]], N0, by rw [hu, e0]⟩ (own_mono hF (by decide) (by decide)))
  · refine Go.of (fun t k => XS.ifYes X0.here hx rfl (pc0 := 5) (pc' := 11) rfl (hb hby d1_5) rfl ((if0 _ _).trans (feq hc5_1).2) (by decide) (by decide) k) ?_
    show Go p e below Qo s₁ (mkF m 11 #[.val (.int i1), .val (.int i2), .val (.int (i1 &&& (3 : Int32)))] [])
    refine Go.of (fun t k => XS.iloadN X0.here hx rfl (hb hby d1_11) rfl  k) ?_
    show Go p e below Qo s₁ (mkF m 12 #[.val (.int i1), .val (.int i2), .val (.int (i1 &&& (3 : Int32)))] [(.int (i1 &&& (3 : Int32)))])
    refine Go.of (fun t k => XS.iconst X0.here hx rfl (hb hby d1_12) k) ?_
    show Go p e below Qo s₁ (mkF m 13 #[.val (.int i1), .val (.int i2), .val (.int (i1 &&& (3 : Int32)))] [(.int (1 : Int32)), (.int (i1 &&& (3 : Int32)))])
    by_cases hc13_2 : (i1 &&& (3 : Int32)) = (1 : Int32)
    · refine Go.of (fun t k => XS.icmpNo X0.here hx rfl (hb hby d1_13) rfl (teq hc13_2).2 k) ?_
      show Go p e below Qo s₁ (mkF m 16 #[.val (.int i1), .val (.int i2), .val (.int (i1 &&& (3 : Int32)))] [])
      refine Go.of (fun t k => XS.bipush X0.here hx rfl (hb hby d1_16) k) ?_
      show Go p e below Qo s₁ (mkF m 18 #[.val (.int i1), .val (.int i2), .val (.int (i1 &&& (3 : Int32)))] [(.int (65 : Int32))])
      exact own_retN X0 hx Bd.notSynchronized (t := .char) Bd.returns (by simp) (hb hby d1_18) (fun u hu hF => hQo _ _ _ ⟨by rw [show (F1 i1 i2) = nar .char (65 : Int32) from by rw [F1, if_neg hc5_1, if_pos hc13_2]], N0, by rw [hu, e0]⟩ (own_mono hF (by decide) (by decide)))
    · refine Go.of (fun t k => XS.icmpYes X0.here hx rfl (pc0 := 13) (pc' := 19) rfl (hb hby d1_13) rfl (feq hc13_2).2 (by decide) (by decide) k) ?_
      show Go p e below Qo s₁ (mkF m 19 #[.val (.int i1), .val (.int i2), .val (.int (i1 &&& (3 : Int32)))] [])
      refine Go.of (fun t k => XS.iloadN X0.here hx rfl (hb hby d1_19) rfl  k) ?_
      show Go p e below Qo s₁ (mkF m 20 #[.val (.int i1), .val (.int i2), .val (.int (i1 &&& (3 : Int32)))] [(.int (i1 &&& (3 : Int32)))])
      refine Go.of (fun t k => XS.iconst X0.here hx rfl (hb hby d1_20) k) ?_
      show Go p e below Qo s₁ (mkF m 21 #[.val (.int i1), .val (.int i2), .val (.int (i1 &&& (3 : Int32)))] [(.int (2 : Int32)), (.int (i1 &&& (3 : Int32)))])
      by_cases hc21_3 : (i1 &&& (3 : Int32)) = (2 : Int32)
      · refine Go.of (fun t k => XS.icmpNo X0.here hx rfl (hb hby d1_21) rfl (teq hc21_3).2 k) ?_
        show Go p e below Qo s₁ (mkF m 24 #[.val (.int i1), .val (.int i2), .val (.int (i1 &&& (3 : Int32)))] [])
        refine Go.of (fun t k => XS.bipush X0.here hx rfl (hb hby d1_24) k) ?_
        show Go p e below Qo s₁ (mkF m 26 #[.val (.int i1), .val (.int i2), .val (.int (i1 &&& (3 : Int32)))] [(.int (83 : Int32))])
        exact own_retN X0 hx Bd.notSynchronized (t := .char) Bd.returns (by simp) (hb hby d1_26) (fun u hu hF => hQo _ _ _ ⟨by rw [show (F1 i1 i2) = nar .char (83 : Int32) from by rw [F1, if_neg hc5_1, if_neg hc13_2, if_pos hc21_3]], N0, by rw [hu, e0]⟩ (own_mono hF (by decide) (by decide)))
      · refine Go.of (fun t k => XS.icmpYes X0.here hx rfl (pc0 := 21) (pc' := 27) rfl (hb hby d1_21) rfl (feq hc21_3).2 (by decide) (by decide) k) ?_
        show Go p e below Qo s₁ (mkF m 27 #[.val (.int i1), .val (.int i2), .val (.int (i1 &&& (3 : Int32)))] [])
        refine Go.of (fun t k => XS.iloadN X0.here hx rfl (hb hby d1_27) rfl  k) ?_
        show Go p e below Qo s₁ (mkF m 28 #[.val (.int i1), .val (.int i2), .val (.int (i1 &&& (3 : Int32)))] [(.int i2)])
        refine Go.of (fun t k => XS.i2c X0.here hx rfl (hb hby d1_28) rfl k) ?_
        show Go p e below Qo s₁ (mkF m 29 #[.val (.int i1), .val (.int i2), .val (.int (i1 &&& (3 : Int32)))] [(.int (i2.toUInt32.toUInt16.toUInt32.toInt32))])
        exact own_retN X0 hx Bd.notSynchronized (t := .char) Bd.returns (by simp) (hb hby d1_29) (fun u hu hF => hQo _ _ _ ⟨by rw [show (F1 i1 i2) = nar .char (i2.toUInt32.toUInt16.toUInt32.toInt32) from by rw [F1, if_neg hc5_1, if_neg hc13_2, if_neg hc21_3]], N0, by rw [hu, e0]⟩ (own_mono hF (by decide) (by decide)))
theorem d2_0 : decode prog_70_method_1_code 0 = .ok (.aload_n 0, 1) := by decide +kernel
theorem d2_1 : decode prog_70_method_1_code 1 = .ok (.invokespecial 1, 3) := by decide +kernel
theorem d2_4 : decode prog_70_method_1_code 4 = .ok (.aload_n 0, 1) := by decide +kernel
theorem d2_5 : decode prog_70_method_1_code 5 = .ok (.iload_n 1, 1) := by decide +kernel
theorem d2_6 : decode prog_70_method_1_code 6 = .ok (.putfield 7, 3) := by decide +kernel
theorem d2_9 : decode prog_70_method_1_code 9 = .ok (.aload_n 0, 1) := by decide +kernel
theorem d2_10 : decode prog_70_method_1_code 10 = .ok (.aload_n 2, 1) := by decide +kernel
theorem d2_11 : decode prog_70_method_1_code 11 = .ok (.putfield 13, 3) := by decide +kernel
theorem d2_14 : decode prog_70_method_1_code 14 = .ok (.return_, 1) := by decide +kernel
theorem pn_1 : plainName "com/example/lockstep/lockstep/protocol/PgMessage" = true := by first | (simp [plainName, overriddenIn]; done) | decide +kernel
theorem ef_2 (m : MethodId) (r1 : Addr) (i1 : Int32) (r2 : Addr)  : entryFrame m #[(.ref r1), (.int i1), (.ref r2)] 3 = mkF m 0 #[.val (.ref r1), .val (.int i1), .val (.ref r2)] [] := by
  first | (simp [entryFrame, mkF, argsToLocals, Value.category]; done) | rfl
def Q2 (Z : State) (r1 : Addr) (i1 : Int32) (r2 : Addr) (u_0 : Value) (u_1 : Value) (h0 : Heap) (n0 : Nat) (v : Option Value) (h : Heap) (L : List Loc) : Prop := v = none ∧ Fr n0 L ∧ Keep h0 h [r1] ∧ Exa Z h r1 "com/example/lockstep/lockstep/protocol/PgMessage" ∧ Fld Z h r1 "com/example/lockstep/lockstep/protocol/PgMessage" "type" "C" (.int (nar .char i1)) ∧ Fld Z h r1 "com/example/lockstep/lockstep/protocol/PgMessage" "body" "[B" (.ref r2)
set_option maxRecDepth 65536 in
set_option maxHeartbeats 40000000 in
theorem rm2 (l : Launch) (Z : State) (a0 : Array Value) (hw : ∀ d ∈ tables_1, d.before a0 Z = true) (ws : List Jvm.Cond) (r1 : Addr) (i1 : Int32) (r2 : Addr) (u_0 : Value) (u_1 : Value) (h0 : Heap) (n0 : Nat) (Z0 : n0 ≤ h0.size) (f0 : Exa Z h0 r1 "com/example/lockstep/lockstep/protocol/PgMessage") (f1 : Fld Z h0 r1 "com/example/lockstep/lockstep/protocol/PgMessage" "type" "C" u_0) (f2 : Fld Z h0 r1 "com/example/lockstep/lockstep/protocol/PgMessage" "body" "[B" u_1) (g_r1 : n0 ≤ r1) :
    MetFree l (⟨"com/example/lockstep/lockstep/protocol/PgMessage", "<init>", "(C[B)V"⟩ : MethodName) (head1 (Jvm.Cond.code (⟨"com/example/lockstep/lockstep/protocol/PgMessage", "<init>", "(C[B)V"⟩ : MethodName) prog_70_method_1_code 3 none :: ws) ({ frames := 1, cells := 0, slots := 0, locals := 12 } : Room)) (fun a U => a = #[(.ref r1), (.int i1), (.ref r2)] ∧ Z.Warmed39 U.vm ∧ U.heap = h0) (fun _ _ _ _ _ => True) (fun _ U o U' => ∃ v L, o = .returned v ∧ Q2 Z r1 i1 r2 u_0 u_1 h0 n0 v U'.heap L ∧ FrameEnd U o U' L ({ frames := 1, cells := 0, slots := 0, locals := 12 } : Room).cells ({ frames := 1, cells := 0, slots := 0, locals := 12 } : Room).slots) := by
  refine MetFree.of_bodySF (plainFor_of_name pn_1) hisR ?_
  intro p e s m args below meth c s₁ Bd hml0 hP hK
  obtain ⟨rfl, hZ, hh⟩ := hP
  have hx := Bd.exec
  have hby := Bd.bytes
  have hml : c.maxLocals = 3 := hml0
  have hown : s.vm.findClass "com/example/lockstep/lockstep/protocol/PgMessage" = some m.cls := findClass_of_methodNamed Bd.named
  have hnm := (name_of_methodNamed Bd.named Bd.method).1
  have X0 : Stand p l e ({ frames := 1, cells := 0, slots := 0, locals := 12 } : Room) s m #[(.ref r1), (.int i1), (.ref r2)] below meth c s₁ [] 0 0 := Stand.of_body Bd
  have e0 : s₁.heap = h0 := by rw [← hh, Bd.state]; rfl
  have N0 := Fr.nil n0
  suffices H : ∀ Qo : Outcome → State → Prop, (∀ (v : Option Value) (u : State) (L : List Loc), Q2 Z r1 i1 r2 u_0 u_1 h0 n0 v u.heap L → FrameEnd s (.returned v) u L ({ frames := 1, cells := 0, slots := 0, locals := 12 } : Room).cells ({ frames := 1, cells := 0, slots := 0, locals := 12 } : Room).slots → Qo (.returned v) u) → Go p e below Qo s₁ (mkF m 0 #[.val (.ref r1), .val (.int i1), .val (.ref r2)] []) from
    Go.cast (ef_2 m r1 i1 r2) (H _ fun v u L h1 h2 => ⟨v, L, rfl, h1, h2⟩)
  intro Qo hQo
  show Go p e below Qo s₁ (mkF m 0 #[.val (.ref r1), .val (.int i1), .val (.ref r2)] [])
  refine Go.of (fun t k => XS.aloadN X0.here hx rfl (hb hby d2_0) rfl rfl k) ?_
  show Go p e below Qo s₁ (mkF m 1 #[.val (.ref r1), .val (.int i1), .val (.ref r2)] [(.ref r1)])
  obtain ⟨T1, X1, e1, st1⟩ := initO X0 hx hZ hown (hw _ (List.mem_of_getElem? (i := 11) rfl)) (hw _ (List.mem_of_getElem? (i := 12) rfl)) (hw _ (List.mem_of_getElem? (i := 13) rfl)) e0 (g := (mkF m 1 #[.val (.ref r1), .val (.int i1), .val (.ref r2)] [(.ref r1)])) rfl (by rw [hml]; rfl) rfl (hb hby d2_1) (by decide) (W := 0) (by show 2 * 0 + _ ≤ _; exact Nat.le_of_eq rfl) (by decide)
  refine Go.of st1 ?_
  show Go p e below Qo T1 (mkF m 4 #[.val (.ref r1), .val (.int i1), .val (.ref r2)] [])
  refine Go.of (fun t k => XS.aloadN X1.here hx rfl (hb hby d2_4) rfl rfl k) ?_
  show Go p e below Qo T1 (mkF m 5 #[.val (.ref r1), .val (.int i1), .val (.ref r2)] [(.ref r1)])
  refine Go.of (fun t k => XS.iloadN X1.here hx rfl (hb hby d2_5) rfl  k) ?_
  show Go p e below Qo T1 (mkF m 6 #[.val (.ref r1), .val (.int i1), .val (.ref r2)] [(.int i1), (.ref r1)])
  obtain ⟨T2, h2, X2, e2, W2, st2⟩ := putFN X1 hx hZ hown (hw _ (List.mem_of_getElem? (i := 14) rfl)) Via.refl e1 f1 f0 (Or.inr ⟨(hw _ (List.mem_of_getElem? (i := 15) rfl)), rfl, hnm⟩) (hw _ (List.mem_of_getElem? (i := 5) rfl)) (ty := .char) (v' := (.int (nar .char i1))) (by decide) rfl (fits_nar_char _) (g := (mkF m 6 #[.val (.ref r1), .val (.int i1), .val (.ref r2)] [(.int i1), (.ref r1)])) rfl rfl (hb hby d2_6)
  have q3 : Exa Z h2 r1 "com/example/lockstep/lockstep/protocol/PgMessage" := f0.wr W2
  have q4 : Fld Z h2 r1 "com/example/lockstep/lockstep/protocol/PgMessage" "type" "C" (.int (nar .char i1)) := f1.same W2
  have q5 : Fld Z h2 r1 "com/example/lockstep/lockstep/protocol/PgMessage" "body" "[B" u_1 := f2.other W2 (Or.inr (slot_ne (Or.inr (hw _ (List.mem_of_getElem? (i := 17) rfl))) (Or.inr (hw _ (List.mem_of_getElem? (i := 15) rfl))) (by decide) (t := (.array .byte)) (t' := .char) (by decide) (by decide)))
  have Z6 : n0 ≤ h2.size := Nat.le_trans Z0 (Keep.of_wr W2).1
  have K7 : Keep h0 h2 [r1] := (Keep.refl h0 [r1]).wr W2 (Or.inl (List.mem_of_getElem? (i := 0) rfl))
  have N8 := Fr.snoc X2 N0 g_r1
  refine Go.of st2 ?_
  show Go p e below Qo T2 (mkF m 9 #[.val (.ref r1), .val (.int i1), .val (.ref r2)] [])
  refine Go.of (fun t k => XS.aloadN X2.here hx rfl (hb hby d2_9) rfl rfl k) ?_
  show Go p e below Qo T2 (mkF m 10 #[.val (.ref r1), .val (.int i1), .val (.ref r2)] [(.ref r1)])
  refine Go.of (fun t k => XS.aloadN X2.here hx rfl (hb hby d2_10) rfl rfl k) ?_
  show Go p e below Qo T2 (mkF m 11 #[.val (.ref r1), .val (.int i1), .val (.ref r2)] [(.ref r2), (.ref r1)])
  obtain ⟨T9, h9, X9, e9, W9, st9⟩ := putF X2 hx hZ hown (host := "") (Or.inl (hw _ (List.mem_of_getElem? (i := 16) rfl))) Via.refl e2 q5 q3 (Or.inr ⟨(hw _ (List.mem_of_getElem? (i := 17) rfl)), rfl, hnm⟩) (hw _ (List.mem_of_getElem? (i := 5) rfl)) (ty := (.array .byte)) (by decide) rfl rfl (g := (mkF m 11 #[.val (.ref r1), .val (.int i1), .val (.ref r2)] [(.ref r2), (.ref r1)])) rfl rfl (hb hby d2_11)
  have q10 : Exa Z h9 r1 "com/example/lockstep/lockstep/protocol/PgMessage" := q3.wr W9
  have q11 : Fld Z h9 r1 "com/example/lockstep/lockstep/protocol/PgMessage" "type" "C" (.int (nar .char i1)) := q4.other W9 (Or.inr (slot_ne (Or.inr (hw _ (List.mem_of_getElem? (i := 15) rfl))) (Or.inr (hw _ (List.mem_of_getElem? (i := 17) rfl))) (by decide) (t := .char) (t' := (.array .byte)) (by decide) (by decide)))
  have q12 : Fld Z h9 r1 "com/example/lockstep/lockstep/protocol/PgMessage" "body" "[B" (.ref r2) := q5.same W9
  have Z13 : n0 ≤ h9.size := Nat.le_trans Z6 (Keep.of_wr W9).1
  have K14 : Keep h0 h9 [r1] := K7.wr W9 (Or.inl (List.mem_of_getElem? (i := 0) rfl))
  have N15 := Fr.snoc X9 N8 g_r1
  refine Go.of st9 ?_
  show Go p e below Qo T9 (mkF m 14 #[.val (.ref r1), .val (.int i1), .val (.ref r2)] [])
  exact own_ret0 X9 hx Bd.notSynchronized Bd.returns (hb hby d2_14) (fun u hu hF => hQo _ _ _ ⟨rfl, N15, by rw [hu, e9]; exact K14, by rw [hu, e9]; exact q10, by rw [hu, e9]; exact q11, by rw [hu, e9]; exact q12⟩ (own_mono hF (by decide) (by decide)))
theorem d4_0 : decode prog_70_method_20_code 0 = .ok (.aload_n 0, 1) := by decide +kernel
theorem d4_1 : decode prog_70_method_20_code 1 = .ok (.getfield 7, 3) := by decide +kernel
theorem d4_4 : decode prog_70_method_20_code 4 = .ok (.bipush 78, 2) := by decide +kernel
theorem d4_6 : decode prog_70_method_20_code 6 = .ok (.if_icmp .eq 21, 3) := by decide +kernel
theorem d4_9 : decode prog_70_method_20_code 9 = .ok (.aload_n 0, 1) := by decide +kernel
theorem d4_10 : decode prog_70_method_20_code 10 = .ok (.getfield 7, 3) := by decide +kernel
theorem d4_13 : decode prog_70_method_20_code 13 = .ok (.bipush 65, 2) := by decide +kernel
theorem d4_15 : decode prog_70_method_20_code 15 = .ok (.if_icmp .eq 12, 3) := by decide +kernel
theorem d4_18 : decode prog_70_method_20_code 18 = .ok (.aload_n 0, 1) := by decide +kernel
theorem d4_19 : decode prog_70_method_20_code 19 = .ok (.getfield 7, 3) := by decide +kernel
theorem d4_22 : decode prog_70_method_20_code 22 = .ok (.bipush 83, 2) := by decide +kernel
theorem d4_24 : decode prog_70_method_20_code 24 = .ok (.if_icmp .ne 7, 3) := by decide +kernel
theorem d4_27 : decode prog_70_method_20_code 27 = .ok (.iconst 1, 1) := by decide +kernel
theorem d4_28 : decode prog_70_method_20_code 28 = .ok (.goto 4, 3) := by decide +kernel
theorem d4_31 : decode prog_70_method_20_code 31 = .ok (.iconst 0, 1) := by decide +kernel
theorem d4_32 : decode prog_70_method_20_code 32 = .ok (.ireturn, 1) := by decide +kernel
theorem ef_4 (m : MethodId) (r1 : Addr)  : entryFrame m #[(.ref r1)] 1 = mkF m 0 #[.val (.ref r1)] [] := by
  first | (simp [entryFrame, mkF, argsToLocals, Value.category]; done) | rfl
def F4 (w1 : Int32) : Int32 := (if w1 = (78 : Int32) then (nar .boolean (1 : Int32)) else (if w1 = (65 : Int32) then (nar .boolean (1 : Int32)) else (if w1 = (83 : Int32) then (nar .boolean (1 : Int32)) else (nar .boolean (0 : Int32)))))
def Q4 (Z : State) (r1 : Addr) (w1 : Int32) (h0 : Heap) (n0 : Nat) (v : Option Value) (h : Heap) (L : List Loc) : Prop := v = some (.int (F4 w1)) ∧ Fr n0 L ∧ h = h0
set_option maxRecDepth 65536 in
set_option maxHeartbeats 40000000 in
theorem rm4 (l : Launch) (Z : State) (a0 : Array Value) (hw : ∀ d ∈ tables_1, d.before a0 Z = true) (ws : List Jvm.Cond) (r1 : Addr) (w1 : Int32) (h0 : Heap) (n0 : Nat) (Z0 : n0 ≤ h0.size) (f0 : Fld Z h0 r1 "com/example/lockstep/lockstep/protocol/PgMessage" "type" "C" (.int w1)) :
    MetFree l (⟨"com/example/lockstep/lockstep/protocol/PgMessage", "asynchronous", "()Z"⟩ : MethodName) (head1 (Jvm.Cond.code (⟨"com/example/lockstep/lockstep/protocol/PgMessage", "asynchronous", "()Z"⟩ : MethodName) prog_70_method_20_code 1 (some .boolean) :: ws) ({ frames := 0, cells := 0, slots := 0, locals := 0 } : Room)) (fun a U => a = #[(.ref r1)] ∧ Z.Warmed39 U.vm ∧ U.heap = h0) (fun _ _ _ _ _ => True) (fun _ U o U' => ∃ v L, o = .returned v ∧ Q4 Z r1 w1 h0 n0 v U'.heap L ∧ FrameEnd U o U' L ({ frames := 0, cells := 0, slots := 0, locals := 0 } : Room).cells ({ frames := 0, cells := 0, slots := 0, locals := 0 } : Room).slots) := by
  refine MetFree.of_bodySF (plainFor_of_name pn_1) hisR ?_
  intro p e s m args below meth c s₁ Bd hml0 hP hK
  obtain ⟨rfl, hZ, hh⟩ := hP
  have hx := Bd.exec
  have hby := Bd.bytes
  have hml : c.maxLocals = 1 := hml0
  have hown : s.vm.findClass "com/example/lockstep/lockstep/protocol/PgMessage" = some m.cls := findClass_of_methodNamed Bd.named
  have hnm := (name_of_methodNamed Bd.named Bd.method).1
  have X0 : Stand p l e ({ frames := 0, cells := 0, slots := 0, locals := 0 } : Room) s m #[(.ref r1)] below meth c s₁ [] 0 0 := Stand.of_body Bd
  have e0 : s₁.heap = h0 := by rw [← hh, Bd.state]; rfl
  have N0 := Fr.nil n0
  suffices H : ∀ Qo : Outcome → State → Prop, (∀ (v : Option Value) (u : State) (L : List Loc), Q4 Z r1 w1 h0 n0 v u.heap L → FrameEnd s (.returned v) u L ({ frames := 0, cells := 0, slots := 0, locals := 0 } : Room).cells ({ frames := 0, cells := 0, slots := 0, locals := 0 } : Room).slots → Qo (.returned v) u) → Go p e below Qo s₁ (mkF m 0 #[.val (.ref r1)] []) from
    Go.cast (ef_4 m r1) (H _ fun v u L h1 h2 => ⟨v, L, rfl, h1, h2⟩)
  intro Qo hQo
  show Go p e below Qo s₁ (mkF m 0 #[.val (.ref r1)] [])
  refine Go.of (fun t k => XS.aloadN X0.here hx rfl (hb hby d4_0) rfl rfl k) ?_
  show Go p e below Qo s₁ (mkF m 1 #[.val (.ref r1)] [(.ref r1)])
  obtain ⟨T1, X1, e1, st1⟩ := getF X0 hx hZ hown (host := "") (Or.inl (hw _ (List.mem_of_getElem? (i := 14) rfl))) Via.refl e0 f0 (g := (mkF m 1 #[.val (.ref r1)] [(.ref r1)])) rfl rfl (hb hby d4_1)
  refine Go.of st1 ?_
  show Go p e below Qo T1 (mkF m 4 #[.val (.ref r1)] [(.int w1)])
  refine Go.of (fun t k => XS.bipush X1.here hx rfl (hb hby d4_4) k) ?_
  show Go p e below Qo T1 (mkF m 6 #[.val (.ref r1)] [(.int (78 : Int32)), (.int w1)])
  by_cases hc6_2 : w1 = (78 : Int32)
  · refine Go.of (fun t k => XS.icmpYes X1.here hx rfl (pc0 := 6) (pc' := 27) rfl (hb hby d4_6) rfl (teq hc6_2).1 (by decide) (by decide) k) ?_
    show Go p e below Qo T1 (mkF m 27 #[.val (.ref r1)] [])
    refine Go.of (fun t k => XS.iconst X1.here hx rfl (hb hby d4_27) k) ?_
    show Go p e below Qo T1 (mkF m 28 #[.val (.ref r1)] [(.int (1 : Int32))])
    refine Go.of (fun t k => XS.goto X1.here hx rfl (pc0 := 28) (pc' := 32) rfl (hb hby d4_28) (by decide) (by decide) k) ?_
    show Go p e below Qo T1 (mkF m 32 #[.val (.ref r1)] [(.int (1 : Int32))])
    exact own_retN X1 hx Bd.notSynchronized (t := .boolean) Bd.returns (by simp) (hb hby d4_32) (fun u hu hF => hQo _ _ _ ⟨by rw [show (F4 w1) = nar .boolean (1 : Int32) from by rw [F4, if_pos hc6_2]], N0, by rw [hu, e1]⟩ (own_mono hF (by decide) (by decide)))
  · refine Go.of (fun t k => XS.icmpNo X1.here hx rfl (hb hby d4_6) rfl (feq hc6_2).1 k) ?_
    show Go p e below Qo T1 (mkF m 9 #[.val (.ref r1)] [])
    refine Go.of (fun t k => XS.aloadN X1.here hx rfl (hb hby d4_9) rfl rfl k) ?_
    show Go p e below Qo T1 (mkF m 10 #[.val (.ref r1)] [(.ref r1)])
    obtain ⟨T3, X3, e3, st3⟩ := getF X1 hx hZ hown (host := "") (Or.inl (hw _ (List.mem_of_getElem? (i := 14) rfl))) Via.refl e1 f0 (g := (mkF m 10 #[.val (.ref r1)] [(.ref r1)])) rfl rfl (hb hby d4_10)
    refine Go.of st3 ?_
    show Go p e below Qo T3 (mkF m 13 #[.val (.ref r1)] [(.int w1)])
    refine Go.of (fun t k => XS.bipush X3.here hx rfl (hb hby d4_13) k) ?_
    show Go p e below Qo T3 (mkF m 15 #[.val (.ref r1)] [(.int (65 : Int32)), (.int w1)])
    by_cases hc15_4 : w1 = (65 : Int32)
    · refine Go.of (fun t k => XS.icmpYes X3.here hx rfl (pc0 := 15) (pc' := 27) rfl (hb hby d4_15) rfl (teq hc15_4).1 (by decide) (by decide) k) ?_
      show Go p e below Qo T3 (mkF m 27 #[.val (.ref r1)] [])
      refine Go.of (fun t k => XS.iconst X3.here hx rfl (hb hby d4_27) k) ?_
      show Go p e below Qo T3 (mkF m 28 #[.val (.ref r1)] [(.int (1 : Int32))])
      refine Go.of (fun t k => XS.goto X3.here hx rfl (pc0 := 28) (pc' := 32) rfl (hb hby d4_28) (by decide) (by decide) k) ?_
      show Go p e below Qo T3 (mkF m 32 #[.val (.ref r1)] [(.int (1 : Int32))])
      exact own_retN X3 hx Bd.notSynchronized (t := .boolean) Bd.returns (by simp) (hb hby d4_32) (fun u hu hF => hQo _ _ _ ⟨by rw [show (F4 w1) = nar .boolean (1 : Int32) from by rw [F4, if_neg hc6_2, if_pos hc15_4]], N0, by rw [hu, e3]⟩ (own_mono hF (by decide) (by decide)))
    · refine Go.of (fun t k => XS.icmpNo X3.here hx rfl (hb hby d4_15) rfl (feq hc15_4).1 k) ?_
      show Go p e below Qo T3 (mkF m 18 #[.val (.ref r1)] [])
      refine Go.of (fun t k => XS.aloadN X3.here hx rfl (hb hby d4_18) rfl rfl k) ?_
      show Go p e below Qo T3 (mkF m 19 #[.val (.ref r1)] [(.ref r1)])
      obtain ⟨T5, X5, e5, st5⟩ := getF X3 hx hZ hown (host := "") (Or.inl (hw _ (List.mem_of_getElem? (i := 14) rfl))) Via.refl e3 f0 (g := (mkF m 19 #[.val (.ref r1)] [(.ref r1)])) rfl rfl (hb hby d4_19)
      refine Go.of st5 ?_
      show Go p e below Qo T5 (mkF m 22 #[.val (.ref r1)] [(.int w1)])
      refine Go.of (fun t k => XS.bipush X5.here hx rfl (hb hby d4_22) k) ?_
      show Go p e below Qo T5 (mkF m 24 #[.val (.ref r1)] [(.int (83 : Int32)), (.int w1)])
      by_cases hc24_6 : w1 = (83 : Int32)
      · refine Go.of (fun t k => XS.icmpNo X5.here hx rfl (hb hby d4_24) rfl (teq hc24_6).2 k) ?_
        show Go p e below Qo T5 (mkF m 27 #[.val (.ref r1)] [])
        refine Go.of (fun t k => XS.iconst X5.here hx rfl (hb hby d4_27) k) ?_
        show Go p e below Qo T5 (mkF m 28 #[.val (.ref r1)] [(.int (1 : Int32))])
        refine Go.of (fun t k => XS.goto X5.here hx rfl (pc0 := 28) (pc' := 32) rfl (hb hby d4_28) (by decide) (by decide) k) ?_
        show Go p e below Qo T5 (mkF m 32 #[.val (.ref r1)] [(.int (1 : Int32))])
        exact own_retN X5 hx Bd.notSynchronized (t := .boolean) Bd.returns (by simp) (hb hby d4_32) (fun u hu hF => hQo _ _ _ ⟨by rw [show (F4 w1) = nar .boolean (1 : Int32) from by rw [F4, if_neg hc6_2, if_neg hc15_4, if_pos hc24_6]], N0, by rw [hu, e5]⟩ (own_mono hF (by decide) (by decide)))
      · refine Go.of (fun t k => XS.icmpYes X5.here hx rfl (pc0 := 24) (pc' := 31) rfl (hb hby d4_24) rfl (feq hc24_6).2 (by decide) (by decide) k) ?_
        show Go p e below Qo T5 (mkF m 31 #[.val (.ref r1)] [])
        refine Go.of (fun t k => XS.iconst X5.here hx rfl (hb hby d4_31) k) ?_
        show Go p e below Qo T5 (mkF m 32 #[.val (.ref r1)] [(.int (0 : Int32))])
        exact own_retN X5 hx Bd.notSynchronized (t := .boolean) Bd.returns (by simp) (hb hby d4_32) (fun u hu hF => hQo _ _ _ ⟨by rw [show (F4 w1) = nar .boolean (0 : Int32) from by rw [F4, if_neg hc6_2, if_neg hc15_4, if_neg hc24_6]], N0, by rw [hu, e5]⟩ (own_mono hF (by decide) (by decide)))
theorem own_nn (z : Int32) : nar .char (nar .char z) = nar .char z := by simp only [nar, UInt32.toUInt32_toInt32, UInt16.toUInt16_toUInt32]
theorem own_pc (i j : Int32) : nar .char (F1 i j) = F1 i j := by
  unfold F1
  (repeat' split) <;> exact own_nn _
theorem own_law (z v : Int32) (h : v = if z = 78 then 1 else if z = 65 then 1 else if z = 83 then 1 else 0) : F4 z = v := by
  subst h; unfold F4
  (repeat' split) <;> rfl
theorem pd_0 : parseMethodDescriptor "(II)C" = some ⟨[.int, .int], some .char⟩ := by decide +kernel
theorem pd_1 : parseMethodDescriptor "(C[B)V" = some ⟨[.char, (.array .byte)], none⟩ := by decide +kernel
theorem pd_2 : parseMethodDescriptor "()Z" = some ⟨[], some .boolean⟩ := by decide +kernel
theorem ef_0 (m : MethodId) (i1 : Int32) (i2 : Int32)  : entryFrame m #[(.int i1), (.int i2)] maxLocals = mkF m 0 #[.val (.int i1), .val (.int i2), .unset, .unset, .unset, .unset] [] := by
  first | (simp [entryFrame, mkF, argsToLocals, Value.category, maxLocals]; done) | rfl
def Q0 (Z : State) (i1 : Int32) (i2 : Int32) (h0 : Heap) (n0 : Nat) (v : Option Value) (h : Heap) (L : List Loc) : Prop := v = some (.int 1) ∧ Fr n0 L
set_option maxRecDepth 65536 in
set_option maxHeartbeats 40000000 in
theorem rm0 (l : Launch) (Z : State) (a0 : Array Value) (hw : ∀ d ∈ tables_1, d.before a0 Z = true) (ws : List Jvm.Cond) (i1 : Int32) (i2 : Int32) (h0 : Heap) (n0 : Nat) (Z0 : n0 ≤ h0.size)  :
    MetFree l x (head1 (Jvm.Cond.code x code maxLocals ret :: ws) room_1) (fun a U => a = #[(.int i1), (.int i2)] ∧ Z.Warmed39 U.vm ∧ U.heap = h0) (fun _ _ _ _ _ => True) (fun _ U o U' => ∃ v L, o = .returned v ∧ Q0 Z i1 i2 h0 n0 v U'.heap L ∧ FrameEnd U o U' L 2 2) := by
  refine MetFree.of_bodySF (plainFor_of_name pn_0) hisR ?_
  intro p e s m args below meth c s₁ Bd hml0 hP hK
  obtain ⟨rfl, hZ, hh⟩ := hP
  have hx := Bd.exec
  have hby := Bd.bytes
  have hml : c.maxLocals = 6 := hml0
  have hown : s.vm.findClass "com/example/lockstep/lockstep/protocol/PgMessageAsynchronousPinLaw" = some m.cls := findClass_of_methodNamed Bd.named
  have hnm := (name_of_methodNamed Bd.named Bd.method).1
  have X0 : Stand p l e room_1 s m #[(.int i1), (.int i2)] below meth c s₁ [] 0 0 := Stand.of_body Bd
  have e0 : s₁.heap = h0 := by rw [← hh, Bd.state]; rfl
  have N0 := Fr.nil n0
  suffices H : ∀ Qo : Outcome → State → Prop, (∀ (v : Option Value) (u : State) (L : List Loc), Q0 Z i1 i2 h0 n0 v u.heap L → FrameEnd s (.returned v) u L 2 2 → Qo (.returned v) u) → Go p e below Qo s₁ (mkF m 0 #[.val (.int i1), .val (.int i2), .unset, .unset, .unset, .unset] []) from
    Go.cast (ef_0 m i1 i2) (H _ fun v u L h1 h2 => ⟨v, L, rfl, h1, h2⟩)
  intro Qo hQo
  show Go p e below Qo s₁ (mkF m 0 #[.val (.int i1), .val (.int i2), .unset, .unset, .unset, .unset] [])
  refine Go.of (fun t k => XS.iloadN X0.here hx rfl (hb hby at_0) rfl  k) ?_
  show Go p e below Qo s₁ (mkF m 1 #[.val (.int i1), .val (.int i2), .unset, .unset, .unset, .unset] [(.int i1)])
  refine Go.of (fun t k => XS.iloadN X0.here hx rfl (hb hby at_1) rfl  k) ?_
  show Go p e below Qo s₁ (mkF m 2 #[.val (.int i1), .val (.int i2), .unset, .unset, .unset, .unset] [(.int i2), (.int i1)])
  obtain ⟨_, _, ⟨T1, L1, k1, n1⟩, -, X1, ⟨Lc1, hQ1, l1, y1, z1⟩, st1⟩ := Jvm.LawKit.callS X0 hx (y := (⟨"com/example/lockstep/lockstep/protocol/PgMessageAsynchronousPinLaw", "pick", "(II)C"⟩ : MethodName)) hown (mvT hZ (hw _ (List.mem_of_getElem? (i := 0) rfl))) (mvT hZ (hw _ (List.mem_of_getElem? (i := 1) rfl))) (mvT hZ (hw _ (List.mem_of_getElem? (i := 2) rfl))) (mvT hZ (hw _ (List.mem_of_getElem? (i := 3) rfl))) (by decide) (backOf (W := 0) (rm1 l Z a0 hw [] i1 i2 h0 n0 Z0 ) hZ (hw _ (List.mem_of_getElem? (i := 3) rfl)) (hw _ (List.mem_of_getElem? (i := 2) rfl)) (by decide) (by decide)) (g := (mkF m 2 #[.val (.int i1), .val (.int i2), .unset, .unset, .unset, .unset] [(.int i2), (.int i1)])) rfl (by rw [hml]; rfl) (argsL := [(.int i1), (.int i2)]) (rest := []) (lenOf pd_0 rfl) rfl (by show 2 * 0 + _ ≤ _; exact Nat.le_of_eq rfl) (hb hby at_2) (fun _ _ => ⟨rfl, e0, (by decide : 0 + 0 ≤ _), (by decide : 0 + 0 ≤ _)⟩)
  dsimp only [Pt.U, Pt.locs, Pt.cells, Pt.slots] at X1 l1 y1 z1 st1 hQ1
  subst l1 y1 z1
  obtain ⟨rfl, N2, eh3⟩ := hQ1
  have N4 := Fr.app N0 N2
  refine Go.of st1 ?_
  show Go p e below Qo T1 (mkF m 5 #[.val (.int i1), .val (.int i2), .unset, .unset, .unset, .unset] [(.int (F1 i1 i2))])
  refine Go.of (fun t k => XS.istoreN X1.here hx rfl (hb hby at_5) rfl (l' := #[.val (.int i1), .val (.int i2), .val (.int (F1 i1 i2)), .unset, .unset, .unset]) rfl k) ?_
  show Go p e below Qo T1 (mkF m 6 #[.val (.int i1), .val (.int i2), .val (.int (F1 i1 i2)), .unset, .unset, .unset] [])
  obtain ⟨T5, h5, X5, e5, E5, A5, D5, -, st5⟩ := newO X1 hx hZ hown (hw _ (List.mem_of_getElem? (i := 4) rfl)) (hw _ (List.mem_of_getElem? (i := 5) rfl)) (hw _ (List.mem_of_getElem? (i := 6) rfl)) eh3 (g := (mkF m 6 #[.val (.int i1), .val (.int i2), .val (.int (F1 i1 i2)), .unset, .unset, .unset] [])) rfl (hb hby at_6) (by decide) (by decide)
  obtain ⟨b5, g5⟩ : ∃ z, z = h0.size := ⟨_, rfl⟩
  rw [← g5] at A5 D5 st5
  have g6 : n0 ≤ b5 := Nat.le_trans Z0 (Nat.le_of_eq g5.symm)
  have Z7 : n0 ≤ h5.size := Nat.le_trans Z0 E5.1
  have q8 : Fld Z h5 b5 "com/example/lockstep/lockstep/protocol/PgMessage" "type" "C" (.int (0 : Int32)) := D5 (Or.inr (hw _ (List.mem_of_getElem? (i := 15) rfl))) (ty := .char) (by decide)
  have q9 : Fld Z h5 b5 "com/example/lockstep/lockstep/protocol/PgMessage" "body" "[B" .null := D5 (Or.inr (hw _ (List.mem_of_getElem? (i := 17) rfl))) (ty := (.array .byte)) (by decide)
  refine Go.of st5 ?_
  show Go p e below Qo T5 (mkF m 9 #[.val (.int i1), .val (.int i2), .val (.int (F1 i1 i2)), .unset, .unset, .unset] [(.ref b5)])
  refine Go.of (fun t k => XS.dup X5.here hx rfl (hb hby at_9) rfl rfl k) ?_
  show Go p e below Qo T5 (mkF m 10 #[.val (.int i1), .val (.int i2), .val (.int (F1 i1 i2)), .unset, .unset, .unset] [(.ref b5), (.ref b5)])
  refine Go.of (fun t k => XS.iloadN X5.here hx rfl (hb hby at_10) rfl  k) ?_
  show Go p e below Qo T5 (mkF m 11 #[.val (.int i1), .val (.int i2), .val (.int (F1 i1 i2)), .unset, .unset, .unset] [(.int (F1 i1 i2)), (.ref b5), (.ref b5)])
  refine Go.of (fun t k => XS.iconst X5.here hx rfl (hb hby at_11) k) ?_
  show Go p e below Qo T5 (mkF m 12 #[.val (.int i1), .val (.int i2), .val (.int (F1 i1 i2)), .unset, .unset, .unset] [(.int (0 : Int32)), (.int (F1 i1 i2)), (.ref b5), (.ref b5)])
  obtain ⟨T10, h10, k10, X10, e10, E10, A10, st10⟩ := newP X5 hx hZ (hw _ (List.mem_of_getElem? (i := 7) rfl)) e5 (g := (mkF m 12 #[.val (.int i1), .val (.int i2), .val (.int (F1 i1 i2)), .unset, .unset, .unset] [(.int (0 : Int32)), (.int (F1 i1 i2)), (.ref b5), (.ref b5)])) rfl (hb hby at_12) rfl (by decide) (cap := 0) (by decide) (by decide) (by decide) (by decide)
  obtain ⟨b10, g10⟩ : ∃ z, z = h5.size := ⟨_, rfl⟩
  rw [← g10] at A10 st10
  have ne11 : b5 ≠ b10 := Nat.ne_of_lt (Nat.lt_of_lt_of_le A5.lt (Nat.le_of_eq g10.symm))
  have g12 : n0 ≤ b10 := Nat.le_trans Z7 (Nat.le_of_eq g10.symm)
  have q13 : Exa Z h10 b5 "com/example/lockstep/lockstep/protocol/PgMessage" := A5.ext E10
  have q14 : Fld Z h10 b5 "com/example/lockstep/lockstep/protocol/PgMessage" "type" "C" (.int (0 : Int32)) := q8.ext E10
  have q15 : Fld Z h10 b5 "com/example/lockstep/lockstep/protocol/PgMessage" "body" "[B" .null := q9.ext E10
  have Z16 : n0 ≤ h10.size := Nat.le_trans Z7 E10.1
  have q17 : Arv Z h10 b10 k10 .byte (0 : Int32) [] (.int (0 : Int32)) := (Arv.new A10 (by decide)).pad (pad_rep [] (.int (0 : Int32)) 0)
  refine Go.of st10 ?_
  show Go p e below Qo T10 (mkF m 14 #[.val (.int i1), .val (.int i2), .val (.int (F1 i1 i2)), .unset, .unset, .unset] [(.ref b10), (.int (F1 i1 i2)), (.ref b5), (.ref b5)])
  obtain ⟨_, _, ⟨T18, L18, k18, n18⟩, -, X18, ⟨Lc18, hQ18, l18, y18, z18⟩, st18⟩ := X10.specialBack hx (y := (⟨"com/example/lockstep/lockstep/protocol/PgMessage", "<init>", "(C[B)V"⟩ : MethodName)) rfl hown (mvT hZ (hw _ (List.mem_of_getElem? (i := 8) rfl))) (mvT hZ (hw _ (List.mem_of_getElem? (i := 9) rfl))) (mvT hZ (hw _ (List.mem_of_getElem? (i := 10) rfl))) (by decide) (backOf (W := 1) (rm2 l Z a0 hw [] b5 (F1 i1 i2) b10 (.int (0 : Int32)) .null h10 n0 Z16 q13 q14 q15 g6) hZ (hw _ (List.mem_of_getElem? (i := 10) rfl)) (hw _ (List.mem_of_getElem? (i := 6) rfl)) (by decide) (by decide)) (g := (mkF m 14 #[.val (.int i1), .val (.int i2), .val (.int (F1 i1 i2)), .unset, .unset, .unset] [(.ref b10), (.int (F1 i1 i2)), (.ref b5), (.ref b5)])) rfl (by rw [hml]; rfl) (Steps.refl _) (a := b5) (argsL := [(.int (F1 i1 i2)), (.ref b10)]) (rest := [(.ref b5)]) (lenOf pd_1 rfl) rfl (by show 2 * 0 + _ ≤ _; exact Nat.le_of_eq rfl) (hb hby at_14) (fun _ _ => ⟨rfl, e10, (by decide : 2 + 0 ≤ _), (by decide : 2 + 0 ≤ _)⟩)
  dsimp only [Pt.U, Pt.locs, Pt.cells, Pt.slots] at X18 l18 y18 z18 st18 hQ18
  subst l18 y18 z18
  obtain ⟨rfl, N19, Kc20, q21, q22, q23⟩ := hQ18
  have N24 := Fr.app N4 N19
  have q25 : Arv Z T18.heap b10 k10 .byte (0 : Int32) [] (.int (0 : Int32)) := q17.keep Kc20 (ninS (Ne.symm ne11) nin0)
  have Z26 : n0 ≤ T18.heap.size := Nat.le_trans Z16 Kc20.1
  refine Go.via st18 ?_
  show Go p e below Qo T18 (mkF m 17 #[.val (.int i1), .val (.int i2), .val (.int (F1 i1 i2)), .unset, .unset, .unset] [(.ref b5)])
  refine Go.of (fun t k => XS.astoreN X18.here hx rfl (hb hby at_17) rfl rfl (l' := #[.val (.int i1), .val (.int i2), .val (.int (F1 i1 i2)), .val (.ref b5), .unset, .unset]) rfl k) ?_
  show Go p e below Qo T18 (mkF m 18 #[.val (.int i1), .val (.int i2), .val (.int (F1 i1 i2)), .val (.ref b5), .unset, .unset] [])
  refine Go.of (fun t k => XS.iloadN X18.here hx rfl (hb hby at_18) rfl  k) ?_
  show Go p e below Qo T18 (mkF m 19 #[.val (.int i1), .val (.int i2), .val (.int (F1 i1 i2)), .val (.ref b5), .unset, .unset] [(.int (F1 i1 i2))])
  refine Go.of (fun t k => XS.istore X18.here hx rfl (hb hby at_19) rfl (l' := #[.val (.int i1), .val (.int i2), .val (.int (F1 i1 i2)), .val (.ref b5), .val (.int (F1 i1 i2)), .unset]) rfl k) ?_
  show Go p e below Qo T18 (mkF m 21 #[.val (.int i1), .val (.int i2), .val (.int (F1 i1 i2)), .val (.ref b5), .val (.int (F1 i1 i2)), .unset] [])
  refine Go.of (fun t k => XS.iload X18.here hx rfl (hb hby at_21) rfl  k) ?_
  show Go p e below Qo T18 (mkF m 23 #[.val (.int i1), .val (.int i2), .val (.int (F1 i1 i2)), .val (.ref b5), .val (.int (F1 i1 i2)), .unset] [(.int (F1 i1 i2))])
  refine Go.of (fun t k => XS.bipush X18.here hx rfl (hb hby at_23) k) ?_
  show Go p e below Qo T18 (mkF m 25 #[.val (.int i1), .val (.int i2), .val (.int (F1 i1 i2)), .val (.ref b5), .val (.int (F1 i1 i2)), .unset] [(.int (78 : Int32)), (.int (F1 i1 i2))])
  have J25_31 : ∀ (v25_30 : Int32), v25_30 = (if (F1 i1 i2) = (78 : Int32) then (1 : Int32) else (if (F1 i1 i2) = (65 : Int32) then (1 : Int32) else (if (F1 i1 i2) = (83 : Int32) then (1 : Int32) else (0 : Int32)))) → Go p e below Qo T18 (mkF m 47 #[.val (.int i1), .val (.int i2), .val (.int (F1 i1 i2)), .val (.ref b5), .val (.int (F1 i1 i2)), .unset] [(.int v25_30)]) := by
    intro v25_30 hv25_30
    show Go p e below Qo T18 (mkF m 47 #[.val (.int i1), .val (.int i2), .val (.int (F1 i1 i2)), .val (.ref b5), .val (.int (F1 i1 i2)), .unset] [(.int v25_30)])
    refine Go.of (fun t k => XS.istore X18.here hx rfl (hb hby at_47) rfl (l' := #[.val (.int i1), .val (.int i2), .val (.int (F1 i1 i2)), .val (.ref b5), .val (.int (F1 i1 i2)), .val (.int v25_30)]) rfl k) ?_
    show Go p e below Qo T18 (mkF m 49 #[.val (.int i1), .val (.int i2), .val (.int (F1 i1 i2)), .val (.ref b5), .val (.int (F1 i1 i2)), .val (.int v25_30)] [])
    refine Go.of (fun t k => XS.aloadN X18.here hx rfl (hb hby at_49) rfl rfl k) ?_
    show Go p e below Qo T18 (mkF m 50 #[.val (.int i1), .val (.int i2), .val (.int (F1 i1 i2)), .val (.ref b5), .val (.int (F1 i1 i2)), .val (.int v25_30)] [(.ref b5)])
    obtain ⟨ciq33, kiq33, iq33a, iq33b, iq33c⟩ := isOf hZ rfl q21
    obtain ⟨_, _, ⟨T32, L32, k32, n32⟩, -, X32, ⟨Lc32, hQ32, l32, y32, z32⟩, st32⟩ := X18.virtualBack hx (y := (⟨"com/example/lockstep/lockstep/protocol/PgMessage", "asynchronous", "()Z"⟩ : MethodName)) (z := (⟨"com/example/lockstep/lockstep/protocol/PgMessage", "asynchronous", "()Z"⟩ : MethodName)) hown (mvT hZ (hw _ (List.mem_of_getElem? (i := 18) rfl))) (mvT hZ (hw _ (List.mem_of_getElem? (i := 19) rfl))) (notFace_of_selects (args := #[]) (mvT hZ (hw _ (List.mem_of_getElem? (i := 21) rfl)))) (mvT hZ (hw _ (List.mem_of_getElem? (i := 21) rfl))) (mvT hZ (hw _ (List.mem_of_getElem? (i := 20) rfl))) (by decide) (backOf (W := 0) (rm4 l Z a0 hw [] b5 (nar .char (F1 i1 i2)) T18.heap n0 Z26 q22) hZ (hw _ (List.mem_of_getElem? (i := 22) rfl)) (hw _ (List.mem_of_getElem? (i := 6) rfl)) (by decide) (by decide)) iq33a iq33c (g := (mkF m 50 #[.val (.int i1), .val (.int i2), .val (.int (F1 i1 i2)), .val (.ref b5), .val (.int (F1 i1 i2)), .val (.int v25_30)] [(.ref b5)])) rfl (by rw [hml]; rfl) (Steps.refl _) (argsL := []) (rest := []) (lenOf pd_2 rfl) rfl (by show 2 * 0 + _ ≤ _; exact Nat.le_of_eq rfl) (hb hby at_50) (fun _ _ => ⟨rfl, rfl, (by decide : 2 + 0 ≤ _), (by decide : 2 + 0 ≤ _)⟩)
    dsimp only [Pt.U, Pt.locs, Pt.cells, Pt.slots] at X32 l32 y32 z32 st32 hQ32
    subst l32 y32 z32
    obtain ⟨rfl, N34, eh35⟩ := hQ32
    have N36 := Fr.app N24 N34
    refine Go.via st32 ?_
    show Go p e below Qo T32 (mkF m 53 #[.val (.int i1), .val (.int i2), .val (.int (F1 i1 i2)), .val (.ref b5), .val (.int (F1 i1 i2)), .val (.int v25_30)] [(.int (F4 (nar .char (F1 i1 i2))))])
    refine Go.of (fun t k => XS.iload X32.here hx rfl (hb hby at_53) rfl  k) ?_
    show Go p e below Qo T32 (mkF m 55 #[.val (.int i1), .val (.int i2), .val (.int (F1 i1 i2)), .val (.ref b5), .val (.int (F1 i1 i2)), .val (.int v25_30)] [(.int v25_30), (.int (F4 (nar .char (F1 i1 i2))))])
    have J55_39 : ∀ (v55_38 : Int32), v55_38 = (if (F4 (nar .char (F1 i1 i2))) = v25_30 then (1 : Int32) else (0 : Int32)) → Go p e below Qo T32 (mkF m 63 #[.val (.int i1), .val (.int i2), .val (.int (F1 i1 i2)), .val (.ref b5), .val (.int (F1 i1 i2)), .val (.int v25_30)] [(.int v55_38)]) := by
      intro v55_38 hv55_38
      show Go p e below Qo T32 (mkF m 63 #[.val (.int i1), .val (.int i2), .val (.int (F1 i1 i2)), .val (.ref b5), .val (.int (F1 i1 i2)), .val (.int v25_30)] [(.int v55_38)])
      have hfin : v55_38 = 1 := by
        exact hv55_38.trans (if_pos (by rw [own_pc]; exact own_law _ _ hv25_30))
      exact own_retN X32 hx Bd.notSynchronized (t := .boolean) Bd.returns (by simp) (hb hby at_63) (fun u hu hF => hQo _ _ _ ⟨by rw [hfin]; rfl, N36⟩ (own_mono hF (by decide) (by decide)))
    by_cases hc55_40 : (F4 (nar .char (F1 i1 i2))) = v25_30
    · refine Go.of (fun t k => XS.icmpNo X32.here hx rfl (hb hby at_55) rfl (teq hc55_40).2 k) ?_
      show Go p e below Qo T32 (mkF m 58 #[.val (.int i1), .val (.int i2), .val (.int (F1 i1 i2)), .val (.ref b5), .val (.int (F1 i1 i2)), .val (.int v25_30)] [])
      refine Go.of (fun t k => XS.iconst X32.here hx rfl (hb hby at_58) k) ?_
      show Go p e below Qo T32 (mkF m 59 #[.val (.int i1), .val (.int i2), .val (.int (F1 i1 i2)), .val (.ref b5), .val (.int (F1 i1 i2)), .val (.int v25_30)] [(.int (1 : Int32))])
      refine Go.of (fun t k => XS.goto X32.here hx rfl (pc0 := 59) (pc' := 63) rfl (hb hby at_59) (by decide) (by decide) k) ?_
      show Go p e below Qo T32 (mkF m 63 #[.val (.int i1), .val (.int i2), .val (.int (F1 i1 i2)), .val (.ref b5), .val (.int (F1 i1 i2)), .val (.int v25_30)] [(.int (1 : Int32))])
      exact J55_39 _ (by first | rfl | (rw [if_pos hc55_40]) | (simp only [hc55_40, if_true, if_false]; done) | simp [hc55_40])
    · refine Go.of (fun t k => XS.icmpYes X32.here hx rfl (pc0 := 55) (pc' := 62) rfl (hb hby at_55) rfl (feq hc55_40).2 (by decide) (by decide) k) ?_
      show Go p e below Qo T32 (mkF m 62 #[.val (.int i1), .val (.int i2), .val (.int (F1 i1 i2)), .val (.ref b5), .val (.int (F1 i1 i2)), .val (.int v25_30)] [])
      refine Go.of (fun t k => XS.iconst X32.here hx rfl (hb hby at_62) k) ?_
      show Go p e below Qo T32 (mkF m 63 #[.val (.int i1), .val (.int i2), .val (.int (F1 i1 i2)), .val (.ref b5), .val (.int (F1 i1 i2)), .val (.int v25_30)] [(.int (0 : Int32))])
      exact J55_39 _ (by first | rfl | (rw [if_neg hc55_40]) | (simp only [hc55_40, if_true, if_false]; done) | simp [hc55_40])
  by_cases hc25_41 : (F1 i1 i2) = (78 : Int32)
  · refine Go.of (fun t k => XS.icmpYes X18.here hx rfl (pc0 := 25) (pc' := 42) rfl (hb hby at_25) rfl (teq hc25_41).1 (by decide) (by decide) k) ?_
    show Go p e below Qo T18 (mkF m 42 #[.val (.int i1), .val (.int i2), .val (.int (F1 i1 i2)), .val (.ref b5), .val (.int (F1 i1 i2)), .unset] [])
    refine Go.of (fun t k => XS.iconst X18.here hx rfl (hb hby at_42) k) ?_
    show Go p e below Qo T18 (mkF m 43 #[.val (.int i1), .val (.int i2), .val (.int (F1 i1 i2)), .val (.ref b5), .val (.int (F1 i1 i2)), .unset] [(.int (1 : Int32))])
    refine Go.of (fun t k => XS.goto X18.here hx rfl (pc0 := 43) (pc' := 47) rfl (hb hby at_43) (by decide) (by decide) k) ?_
    show Go p e below Qo T18 (mkF m 47 #[.val (.int i1), .val (.int i2), .val (.int (F1 i1 i2)), .val (.ref b5), .val (.int (F1 i1 i2)), .unset] [(.int (1 : Int32))])
    exact J25_31 _ (by first | rfl | (rw [if_pos hc25_41]) | (simp only [hc25_41, if_true, if_false]; done) | simp [hc25_41])
  · refine Go.of (fun t k => XS.icmpNo X18.here hx rfl (hb hby at_25) rfl (feq hc25_41).1 k) ?_
    show Go p e below Qo T18 (mkF m 28 #[.val (.int i1), .val (.int i2), .val (.int (F1 i1 i2)), .val (.ref b5), .val (.int (F1 i1 i2)), .unset] [])
    refine Go.of (fun t k => XS.iload X18.here hx rfl (hb hby at_28) rfl  k) ?_
    show Go p e below Qo T18 (mkF m 30 #[.val (.int i1), .val (.int i2), .val (.int (F1 i1 i2)), .val (.ref b5), .val (.int (F1 i1 i2)), .unset] [(.int (F1 i1 i2))])
    refine Go.of (fun t k => XS.bipush X18.here hx rfl (hb hby at_30) k) ?_
    show Go p e below Qo T18 (mkF m 32 #[.val (.int i1), .val (.int i2), .val (.int (F1 i1 i2)), .val (.ref b5), .val (.int (F1 i1 i2)), .unset] [(.int (65 : Int32)), (.int (F1 i1 i2))])
    by_cases hc32_42 : (F1 i1 i2) = (65 : Int32)
    · refine Go.of (fun t k => XS.icmpYes X18.here hx rfl (pc0 := 32) (pc' := 42) rfl (hb hby at_32) rfl (teq hc32_42).1 (by decide) (by decide) k) ?_
      show Go p e below Qo T18 (mkF m 42 #[.val (.int i1), .val (.int i2), .val (.int (F1 i1 i2)), .val (.ref b5), .val (.int (F1 i1 i2)), .unset] [])
      refine Go.of (fun t k => XS.iconst X18.here hx rfl (hb hby at_42) k) ?_
      show Go p e below Qo T18 (mkF m 43 #[.val (.int i1), .val (.int i2), .val (.int (F1 i1 i2)), .val (.ref b5), .val (.int (F1 i1 i2)), .unset] [(.int (1 : Int32))])
      refine Go.of (fun t k => XS.goto X18.here hx rfl (pc0 := 43) (pc' := 47) rfl (hb hby at_43) (by decide) (by decide) k) ?_
      show Go p e below Qo T18 (mkF m 47 #[.val (.int i1), .val (.int i2), .val (.int (F1 i1 i2)), .val (.ref b5), .val (.int (F1 i1 i2)), .unset] [(.int (1 : Int32))])
      exact J25_31 _ (by first | rfl | (rw [if_neg hc25_41, if_pos hc32_42]) | (simp only [hc25_41, hc32_42, if_true, if_false]; done) | simp [hc25_41, hc32_42])
    · refine Go.of (fun t k => XS.icmpNo X18.here hx rfl (hb hby at_32) rfl (feq hc32_42).1 k) ?_
      show Go p e below Qo T18 (mkF m 35 #[.val (.int i1), .val (.int i2), .val (.int (F1 i1 i2)), .val (.ref b5), .val (.int (F1 i1 i2)), .unset] [])
      refine Go.of (fun t k => XS.iload X18.here hx rfl (hb hby at_35) rfl  k) ?_
      show Go p e below Qo T18 (mkF m 37 #[.val (.int i1), .val (.int i2), .val (.int (F1 i1 i2)), .val (.ref b5), .val (.int (F1 i1 i2)), .unset] [(.int (F1 i1 i2))])
      refine Go.of (fun t k => XS.bipush X18.here hx rfl (hb hby at_37) k) ?_
      show Go p e below Qo T18 (mkF m 39 #[.val (.int i1), .val (.int i2), .val (.int (F1 i1 i2)), .val (.ref b5), .val (.int (F1 i1 i2)), .unset] [(.int (83 : Int32)), (.int (F1 i1 i2))])
      by_cases hc39_43 : (F1 i1 i2) = (83 : Int32)
      · refine Go.of (fun t k => XS.icmpNo X18.here hx rfl (hb hby at_39) rfl (teq hc39_43).2 k) ?_
        show Go p e below Qo T18 (mkF m 42 #[.val (.int i1), .val (.int i2), .val (.int (F1 i1 i2)), .val (.ref b5), .val (.int (F1 i1 i2)), .unset] [])
        refine Go.of (fun t k => XS.iconst X18.here hx rfl (hb hby at_42) k) ?_
        show Go p e below Qo T18 (mkF m 43 #[.val (.int i1), .val (.int i2), .val (.int (F1 i1 i2)), .val (.ref b5), .val (.int (F1 i1 i2)), .unset] [(.int (1 : Int32))])
        refine Go.of (fun t k => XS.goto X18.here hx rfl (pc0 := 43) (pc' := 47) rfl (hb hby at_43) (by decide) (by decide) k) ?_
        show Go p e below Qo T18 (mkF m 47 #[.val (.int i1), .val (.int i2), .val (.int (F1 i1 i2)), .val (.ref b5), .val (.int (F1 i1 i2)), .unset] [(.int (1 : Int32))])
        exact J25_31 _ (by first | rfl | (rw [if_neg hc25_41, if_neg hc32_42, if_pos hc39_43]) | (simp only [hc25_41, hc32_42, hc39_43, if_true, if_false]; done) | simp [hc25_41, hc32_42, hc39_43])
      · refine Go.of (fun t k => XS.icmpYes X18.here hx rfl (pc0 := 39) (pc' := 46) rfl (hb hby at_39) rfl (feq hc39_43).2 (by decide) (by decide) k) ?_
        show Go p e below Qo T18 (mkF m 46 #[.val (.int i1), .val (.int i2), .val (.int (F1 i1 i2)), .val (.ref b5), .val (.int (F1 i1 i2)), .unset] [])
        refine Go.of (fun t k => XS.iconst X18.here hx rfl (hb hby at_46) k) ?_
        show Go p e below Qo T18 (mkF m 47 #[.val (.int i1), .val (.int i2), .val (.int (F1 i1 i2)), .val (.ref b5), .val (.int (F1 i1 i2)), .unset] [(.int (0 : Int32))])
        exact J25_31 _ (by first | rfl | (rw [if_neg hc25_41, if_neg hc32_42, if_neg hc39_43]) | (simp only [hc25_41, hc32_42, hc39_43, if_true, if_false]; done) | simp [hc25_41, hc32_42, hc39_43])
set_option maxRecDepth 65536 in
set_option maxHeartbeats 40000000 in
theorem comes_1 {Post : Tables → Env → Array Value → State → Outcome → State → Prop} (hpost : ∀ tb e args s v u, (limb_1_1.after args s (.returned v) u = true ∧ limb_1_2.after args s (.returned v) u = true ∧ True) → FrameEnd s (.returned v) u (Jvm.fieldLocs frame_1_writes args s ++ Jvm.arrayLocs frame_1_arrays args s ++ Jvm.staticLocs frame_1_statics s) 16 128 → Post tb e args s (.returned v) u) :
    ArmFor flags0 classFile x code maxLocals ret World_1 tables_1 room_1 Calls_1 rest_1 Pre_1 Post := by
  intro l hfl _ _ p e ha hc hk s m args below hf hA hF happ hP
  obtain ⟨hcalls, hrest, hpre⟩ := hP
  obtain ⟨-, -, -, hnamed, -, -, -, hat⟩ := (Spec.applies_iff hf).mp happ
  obtain ⟨hg, hn⟩ := and_e (Cond.before_iff.mp (show (Jvm.Cond.and given_1 narrow_1).before args s = true from hpre))
  obtain ⟨hg0, hgr0⟩ := and_e hg
  obtain ⟨ha0, hgr1⟩ := and_e hgr0
  obtain ⟨w0, w1, rfl⟩ : ∃ w0 w1 : Value, args = #[w0, w1] := by
    have hs : args.size = 2 := by simpa [Cond.value, given_1] using hg0
    obtain ⟨L⟩ := args
    match L, hs with
    | [w0, w1], _ => exact ⟨w0, w1, rfl⟩
  have hw := fun d (hd : d ∈ tables_1) => atoms_spec (ws := Jvm.Cond.code x code maxLocals ret :: tables_1) hat d (List.mem_cons_of_mem _ hd)
  have hfit : Fit s := fun {y c} hc i hi => by
    obtain ⟨ha, rfl⟩ := Array.getElem?_eq_some_iff.mp hc
    have q := List.all_eq_true.mp ((Array.all_eq_true_iff_forall_mem.mp hF) _ (Array.getElem_mem ha)) i (List.mem_range.mpr hi)
    simpa [Array.getElem?_eq_getElem hi] using q
  obtain ⟨i0, ei0⟩ := is_v ha0
  obtain rfl : w0 = (.int i0) := Option.some.inj ei0
  obtain ⟨i1, ei1⟩ := is_v hgr1
  obtain rfl : w1 = (.int i1) := Option.some.inj ei1
  obtain ⟨n, o, h1, h2, h3, _, L, rfl, ⟨rfl, N⟩, hq⟩ := rm0 l s _ hw tables_1 i0 i1  s.heap s.heap.size (Nat.le_refl _)  p e ha hc hk s m _ below hf ((Spec.applies_iff_loose hf).mp happ).1 ⟨rfl, State.Warmed39.refl s, rfl⟩ trivial
  refine ⟨n, _, h1, h2, h3, hpost _ _ _ _ _ _ ⟨Cond.after_iff.mpr rfl, Cond.after_iff.mpr (eq_i res_at (Term.int_eval (1)) rfl), trivial⟩ ⟨hq.1, hq.2.1, (hq.2.2.sift fun y hy => Or.inr (N y hy)).mono (by decide) (by decide)⟩⟩
theorem main_1_1 : Claimed_1_1 := comes_1 fun _ _ _ _ _ _ h hF => ⟨h.1, hF⟩
theorem main_1_2 : Claimed_1_2 := comes_1 fun _ _ _ _ _ _ h hF => ⟨h.2.1, hF⟩
end Jvm.Pilot.@@N@@
namespace Jvm.Pilot.@@N@@
open Jvm Jvm.ClassFile Sem Op Lib Jvm.Free Jvm.Stand Jvm.Pilot.@@N@@.Jvm.D
/-! MADE BY PROGRAM (witnessworld.py) out of the Statement's table words and the real class files: 9 classes; the members and pool entries that the words name. The judged class is class 1, her method 2. -/
namespace start1
open Jvm.ClassFile
def u (s : String) : CpInfo := .utf8 (stringToUtf16 s)
/-- a pool by its gaps: so many unusable entries, then the entry; so many at the end -/
def gap : Nat → List CpInfo → List CpInfo
  | 0, r => r
  | n + 1, r => .unusable :: gap n r
def poolList (es : List (Nat × CpInfo)) (last : Nat) : List CpInfo := es.foldr (fun e r => gap e.1 (e.2 :: r)) (gap last [])
def pool (es : List (Nat × CpInfo)) (last : Nat) : Array CpInfo := ⟨poolList es last⟩
def fileOf (pool : Array CpInfo) (this : Nat) (attrs : Array Attribute := #[]) (ms : Array MethodInfo := #[]) (fl : Nat := 33) (sup : Nat := 0) (ifs : Array Nat := #[]) (fds : Array FieldInfo := #[]) : ClassFile where
  minorVersion := 0
  majorVersion := 65
  constantPool := pool
  accessFlags := fl
  thisClass := this
  superClass := sup
  interfaces := ifs
  fields := fds
  methods := ms
  attributes := attrs
def plain (name : String) (sup : Option ClassId) : Class where
  name := name
  kind := .ordinary
  loader := none
  accessFlags := 33
  super := sup
  interfaces := #[]
  cf := none
  fields := #[]
  methods := #[]
  instanceTypes := #[]
  staticTypes := #[]
  resolved := #[]
  callSites := []
  init := .initialized
  statics := none
  mirror := none

def pool0 : Array CpInfo := pool [(5, u "<init>"), (0, u "()V"), (1, .class_ 10), (1, u "java/lang/Object")] 113

def k0c0 : Code := { maxStack := 0, maxLocals := 1, code := object_method_1_code, exceptionTable := #[], attributes := #[] }
def k0m0 : Method := { name := "<init>", desc := "()V", sig := { parameters := [], returnType := none }, accessFlags := 1, code := some k0c0 }
/-- java/lang/Object -/
def k0 : Class := { plain "java/lang/Object" none with
  accessFlags := 33
  interfaces := #[]
  cf := some (fileOf pool0 8 #[] #[{ accessFlags := 1, nameIndex := 5, descriptorIndex := 6, attributes := #[] }] 33 0 #[] #[])
  fields := #[]
  methods := #[k0m0]
  instanceTypes := #[]
  staticTypes := #[]
  resolved := Array.replicate 124 none
  statics := none }

def pool1 : Array CpInfo := pool [(2, .class_ 4), (1, u "java/lang/Object"), (0, u "<init>"), (0, u "()V"), (0, .methodref 8 9), (0, .class_ 10), (0, .nameAndType 11 12), (0, u "com/example/lockstep/lockstep/protocol/PgMessageAsynchronousPinLaw"), (0, u "pick"), (0, u "(II)C"), (0, .class_ 14), (0, u "com/example/lockstep/lockstep/protocol/PgMessage"), (0, .methodref 13 16), (0, .nameAndType 5 17), (0, u "(C[B)V"), (0, .methodref 13 19), (0, .nameAndType 20 21), (0, u "asynchronous"), (0, u "()Z"), (3, u "law"), (0, u "(II)Z")] 2

def k1m0 : Method := { name := "<init>", desc := "()V", sig := { parameters := [], returnType := none }, accessFlags := 1, code := none }
def k1c1 : Code := { maxStack := 2, maxLocals := 3, code := method_2_code, exceptionTable := #[], attributes := #[] }
def k1m1 : Method := { name := "pick", desc := "(II)C", sig := { parameters := [.int, .int], returnType := some .char }, accessFlags := 10, code := some k1c1 }
def k1c2 : Code := { maxStack := 4, maxLocals := 6, code := code, exceptionTable := #[], attributes := #[] }
def k1m2 : Method := { name := "law", desc := "(II)Z", sig := { parameters := [.int, .int], returnType := some .boolean }, accessFlags := 9, code := some k1c2 }
/-- com/example/lockstep/lockstep/protocol/PgMessageAsynchronousPinLaw -/
def k1 : Class := { plain "com/example/lockstep/lockstep/protocol/PgMessageAsynchronousPinLaw" (some 0) with
  accessFlags := 49
  interfaces := #[]
  cf := some (fileOf pool1 8 #[] #[{ accessFlags := 1, nameIndex := 5, descriptorIndex := 6, attributes := #[] }, { accessFlags := 10, nameIndex := 11, descriptorIndex := 12, attributes := #[] }, { accessFlags := 9, nameIndex := 25, descriptorIndex := 26, attributes := #[] }] 49 2 #[] #[])
  fields := #[]
  methods := #[k1m0, k1m1, k1m2]
  instanceTypes := #[]
  staticTypes := #[]
  resolved := Array.replicate 29 none
  statics := none }

def pool2 : Array CpInfo := pool [(1, .methodref 2 3), (0, .class_ 4), (0, .nameAndType 5 6), (0, u "java/lang/Object"), (0, u "<init>"), (0, u "()V"), (0, .fieldref 8 9), (0, .class_ 10), (0, .nameAndType 11 12), (0, u "com/example/lockstep/lockstep/protocol/PgMessage"), (0, u "type"), (0, u "C"), (0, .fieldref 8 14), (0, .nameAndType 15 16), (0, u "body"), (0, u "[B"), (25, u "(C[B)V"), (131, u "QUERY"), (2, u "TERMINATE"), (1, u "SYNC"), (1, u "FUNCTION_CALL"), (1, u "PARSE"), (1, u "BIND"), (1, u "DESCRIBE"), (1, u "EXECUTE"), (1, u "CLOSE"), (1, u "FLUSH"), (1, u "COPY_DATA"), (1, u "COPY_DONE"), (1, u "COPY_FAIL"), (1, u "AUTHENTICATION"), (1, u "ERROR_RESPONSE"), (0, u "NOTICE_RESPONSE"), (1, u "NOTIFICATION_RESPONSE"), (1, u "PARAMETER_STATUS"), (0, u "BACKEND_KEY_DATA"), (1, u "DATA_ROW"), (0, u "COMMAND_COMPLETE"), (0, u "COPY_IN_RESPONSE"), (1, u "COPY_BOTH_RESPONSE"), (1, u "COPY_OUT_RESPONSE"), (0, u "PARSE_COMPLETE"), (1, u "BIND_COMPLETE"), (1, u "CLOSE_COMPLETE"), (1, u "PARAMETER_DESCRIPTION"), (1, u "ROW_DESCRIPTION"), (1, u "NO_DATA"), (1, u "EMPTY_QUERY_RESPONSE"), (1, u "PORTAL_SUSPENDED"), (1, u "READY_FOR_QUERY"), (1, u "IDLE"), (0, u "IN_TRANSACTION"), (0, u "FAILED"), (0, u "MAX_BODY"), (0, u "I"), (29, u "asynchronous"), (0, u "()Z")] 34

def k2c0 : Code := { maxStack := 2, maxLocals := 3, code := prog_70_method_1_code, exceptionTable := #[], attributes := #[] }
def k2m0 : Method := { name := "<init>", desc := "(C[B)V", sig := { parameters := [.char, (.array .byte)], returnType := none }, accessFlags := 1, code := some k2c0 }
def k2c1 : Code := { maxStack := 2, maxLocals := 1, code := prog_70_method_20_code, exceptionTable := #[], attributes := #[] }
def k2m1 : Method := { name := "asynchronous", desc := "()Z", sig := { parameters := [], returnType := some .boolean }, accessFlags := 1, code := some k2c1 }
/-- com/example/lockstep/lockstep/protocol/PgMessage -/
def k2 : Class := { plain "com/example/lockstep/lockstep/protocol/PgMessage" (some 0) with
  accessFlags := 49
  interfaces := #[]
  cf := some (fileOf pool2 8 #[] #[{ accessFlags := 1, nameIndex := 5, descriptorIndex := 42, attributes := #[] }, { accessFlags := 1, nameIndex := 270, descriptorIndex := 271, attributes := #[] }] 49 2 #[] #[{ accessFlags := 25, nameIndex := 174, descriptorIndex := 12, attributes := #[] }, { accessFlags := 25, nameIndex := 177, descriptorIndex := 12, attributes := #[] }, { accessFlags := 25, nameIndex := 179, descriptorIndex := 12, attributes := #[] }, { accessFlags := 25, nameIndex := 181, descriptorIndex := 12, attributes := #[] }, { accessFlags := 25, nameIndex := 183, descriptorIndex := 12, attributes := #[] }, { accessFlags := 25, nameIndex := 185, descriptorIndex := 12, attributes := #[] }, { accessFlags := 25, nameIndex := 187, descriptorIndex := 12, attributes := #[] }, { accessFlags := 25, nameIndex := 189, descriptorIndex := 12, attributes := #[] }, { accessFlags := 25, nameIndex := 191, descriptorIndex := 12, attributes := #[] }, { accessFlags := 25, nameIndex := 193, descriptorIndex := 12, attributes := #[] }, { accessFlags := 25, nameIndex := 195, descriptorIndex := 12, attributes := #[] }, { accessFlags := 25, nameIndex := 197, descriptorIndex := 12, attributes := #[] }, { accessFlags := 25, nameIndex := 199, descriptorIndex := 12, attributes := #[] }, { accessFlags := 25, nameIndex := 201, descriptorIndex := 12, attributes := #[] }, { accessFlags := 25, nameIndex := 203, descriptorIndex := 12, attributes := #[] }, { accessFlags := 25, nameIndex := 204, descriptorIndex := 12, attributes := #[] }, { accessFlags := 25, nameIndex := 206, descriptorIndex := 12, attributes := #[] }, { accessFlags := 25, nameIndex := 208, descriptorIndex := 12, attributes := #[] }, { accessFlags := 25, nameIndex := 209, descriptorIndex := 12, attributes := #[] }, { accessFlags := 25, nameIndex := 211, descriptorIndex := 12, attributes := #[] }, { accessFlags := 25, nameIndex := 212, descriptorIndex := 12, attributes := #[] }, { accessFlags := 25, nameIndex := 213, descriptorIndex := 12, attributes := #[] }, { accessFlags := 25, nameIndex := 215, descriptorIndex := 12, attributes := #[] }, { accessFlags := 25, nameIndex := 217, descriptorIndex := 12, attributes := #[] }, { accessFlags := 25, nameIndex := 218, descriptorIndex := 12, attributes := #[] }, { accessFlags := 25, nameIndex := 220, descriptorIndex := 12, attributes := #[] }, { accessFlags := 25, nameIndex := 222, descriptorIndex := 12, attributes := #[] }, { accessFlags := 25, nameIndex := 224, descriptorIndex := 12, attributes := #[] }, { accessFlags := 25, nameIndex := 226, descriptorIndex := 12, attributes := #[] }, { accessFlags := 25, nameIndex := 228, descriptorIndex := 12, attributes := #[] }, { accessFlags := 25, nameIndex := 230, descriptorIndex := 12, attributes := #[] }, { accessFlags := 25, nameIndex := 232, descriptorIndex := 12, attributes := #[] }, { accessFlags := 25, nameIndex := 234, descriptorIndex := 12, attributes := #[] }, { accessFlags := 25, nameIndex := 236, descriptorIndex := 12, attributes := #[] }, { accessFlags := 25, nameIndex := 237, descriptorIndex := 12, attributes := #[] }, { accessFlags := 25, nameIndex := 238, descriptorIndex := 12, attributes := #[] }, { accessFlags := 26, nameIndex := 239, descriptorIndex := 240, attributes := #[] }, { accessFlags := 18, nameIndex := 11, descriptorIndex := 12, attributes := #[] }, { accessFlags := 18, nameIndex := 15, descriptorIndex := 16, attributes := #[] }])
  fields := #[{ name := "QUERY", type := .char, accessFlags := 25, slot := 0, constantValue := 0 }, { name := "TERMINATE", type := .char, accessFlags := 25, slot := 1, constantValue := 0 }, { name := "SYNC", type := .char, accessFlags := 25, slot := 2, constantValue := 0 }, { name := "FUNCTION_CALL", type := .char, accessFlags := 25, slot := 3, constantValue := 0 }, { name := "PARSE", type := .char, accessFlags := 25, slot := 4, constantValue := 0 }, { name := "BIND", type := .char, accessFlags := 25, slot := 5, constantValue := 0 }, { name := "DESCRIBE", type := .char, accessFlags := 25, slot := 6, constantValue := 0 }, { name := "EXECUTE", type := .char, accessFlags := 25, slot := 7, constantValue := 0 }, { name := "CLOSE", type := .char, accessFlags := 25, slot := 8, constantValue := 0 }, { name := "FLUSH", type := .char, accessFlags := 25, slot := 9, constantValue := 0 }, { name := "COPY_DATA", type := .char, accessFlags := 25, slot := 10, constantValue := 0 }, { name := "COPY_DONE", type := .char, accessFlags := 25, slot := 11, constantValue := 0 }, { name := "COPY_FAIL", type := .char, accessFlags := 25, slot := 12, constantValue := 0 }, { name := "AUTHENTICATION", type := .char, accessFlags := 25, slot := 13, constantValue := 0 }, { name := "ERROR_RESPONSE", type := .char, accessFlags := 25, slot := 14, constantValue := 0 }, { name := "NOTICE_RESPONSE", type := .char, accessFlags := 25, slot := 15, constantValue := 0 }, { name := "NOTIFICATION_RESPONSE", type := .char, accessFlags := 25, slot := 16, constantValue := 0 }, { name := "PARAMETER_STATUS", type := .char, accessFlags := 25, slot := 17, constantValue := 0 }, { name := "BACKEND_KEY_DATA", type := .char, accessFlags := 25, slot := 18, constantValue := 0 }, { name := "DATA_ROW", type := .char, accessFlags := 25, slot := 19, constantValue := 0 }, { name := "COMMAND_COMPLETE", type := .char, accessFlags := 25, slot := 20, constantValue := 0 }, { name := "COPY_IN_RESPONSE", type := .char, accessFlags := 25, slot := 21, constantValue := 0 }, { name := "COPY_BOTH_RESPONSE", type := .char, accessFlags := 25, slot := 22, constantValue := 0 }, { name := "COPY_OUT_RESPONSE", type := .char, accessFlags := 25, slot := 23, constantValue := 0 }, { name := "PARSE_COMPLETE", type := .char, accessFlags := 25, slot := 24, constantValue := 0 }, { name := "BIND_COMPLETE", type := .char, accessFlags := 25, slot := 25, constantValue := 0 }, { name := "CLOSE_COMPLETE", type := .char, accessFlags := 25, slot := 26, constantValue := 0 }, { name := "PARAMETER_DESCRIPTION", type := .char, accessFlags := 25, slot := 27, constantValue := 0 }, { name := "ROW_DESCRIPTION", type := .char, accessFlags := 25, slot := 28, constantValue := 0 }, { name := "NO_DATA", type := .char, accessFlags := 25, slot := 29, constantValue := 0 }, { name := "EMPTY_QUERY_RESPONSE", type := .char, accessFlags := 25, slot := 30, constantValue := 0 }, { name := "PORTAL_SUSPENDED", type := .char, accessFlags := 25, slot := 31, constantValue := 0 }, { name := "READY_FOR_QUERY", type := .char, accessFlags := 25, slot := 32, constantValue := 0 }, { name := "IDLE", type := .char, accessFlags := 25, slot := 33, constantValue := 0 }, { name := "IN_TRANSACTION", type := .char, accessFlags := 25, slot := 34, constantValue := 0 }, { name := "FAILED", type := .char, accessFlags := 25, slot := 35, constantValue := 0 }, { name := "MAX_BODY", type := .int, accessFlags := 26, slot := 36, constantValue := 0 }, { name := "type", type := .char, accessFlags := 18, slot := 0, constantValue := 0 }, { name := "body", type := (.array .byte), accessFlags := 18, slot := 1, constantValue := 0 }]
  methods := #[k2m0, k2m1]
  instanceTypes := #[.char, (.array .byte)]
  staticTypes := #[.char, .char, .char, .char, .char, .char, .char, .char, .char, .char, .char, .char, .char, .char, .char, .char, .char, .char, .char, .char, .char, .char, .char, .char, .char, .char, .char, .char, .char, .char, .char, .char, .char, .char, .char, .char, .int]
  resolved := Array.replicate 306 none
  statics := none }

def pool3 : Array CpInfo := pool [(1, u "java/lang/Cloneable"), (0, .class_ 1), (0, u "java/lang/Object"), (0, .class_ 3)] 3

/-- java/lang/Cloneable -/
def k3 : Class := { plain "java/lang/Cloneable" (some 0) with
  accessFlags := 1537
  interfaces := #[]
  cf := some (fileOf pool3 2 #[] #[] 1537 4 #[] #[])
  fields := #[]
  methods := #[]
  instanceTypes := #[]
  staticTypes := #[]
  resolved := Array.replicate 8 none
  statics := none }

def pool4 : Array CpInfo := pool [(1, u "java/io/Serializable"), (0, .class_ 1), (0, u "java/lang/Object"), (0, .class_ 3)] 3

/-- java/io/Serializable -/
def k4 : Class := { plain "java/io/Serializable" (some 0) with
  accessFlags := 1537
  interfaces := #[]
  cf := some (fileOf pool4 2 #[] #[] 1537 4 #[] #[])
  fields := #[]
  methods := #[]
  instanceTypes := #[]
  staticTypes := #[]
  resolved := Array.replicate 8 none
  statics := none }

/-- the primitive byte -/
def k5 : Class := { plain "byte" none with kind := .primitive 'B', accessFlags := 0x411 }
/-- [B -/
def k6 : Class := { plain "[B" (some 0) with kind := .array 5 .byte, interfaces := #[3, 4], accessFlags := 1041 }

/-- the primitive int -/
def k7 : Class := { plain "int" none with kind := .primitive 'I', accessFlags := 0x411 }
/-- [I -/
def k8 : Class := { plain "[I" (some 0) with kind := .array 7 .int, interfaces := #[3, 4], accessFlags := 1041 }

def heap : Heap := #[]
def classes : Array Class := #[k0, k1, k2, k3, k4, k5, k6, k7, k8]
def interned : List (Array UInt16 × Addr) := []
def slotsUsed : Nat := 0
def theMethod : MethodId := ⟨1, 2⟩
def args0 : Array Value := #[.int 5, .int 7]
def aboutOver (below : List Frame) : State where
  vm := { classes := classes, interned := interned.toArray }
  heap := heap
  slotsUsed := slotsUsed
  threads := #[{ frames := .invoking theMethod args0 :: below }]
def below0 : List Frame := [.native { method := ⟨0, 0⟩, args := #[] }]
def about1 : State := aboutOver below0
def p0 : Program := .bare "" "" ""
def e0 : Env := launch0.env 0 0 0
theorem w_frames : about1.frames = Frame.invoking theMethod args0 :: below0 := rfl
set_option maxRecDepth 65536 in
theorem w_args : argsFit about1.vm theMethod args0 = true := by decide +kernel
set_option maxRecDepth 65536 in
theorem w_heap : heapFits about1 = true := by decide +kernel
set_option maxRecDepth 65536 in
theorem w_runnable : about1.curStatus? = some .runnable := by decide +kernel
set_option maxRecDepth 65536 in
theorem w_alone : about1.alone = true := by decide +kernel
set_option maxRecDepth 65536 in
theorem w_named : about1.methodNamed? x = some theMethod := by decide +kernel
set_option maxRecDepth 65536 in
theorem w_hears : about1.hears theMethod below0 = true := by decide +kernel
set_option maxRecDepth 65536 in
theorem w_ripe : about1.ripe theMethod args0 below0 = true := by decide +kernel
theorem w_running : about1.status = .running := rfl
set_option maxRecDepth 65536 in
theorem w_room : about1.hasRoom e0.platform room_1 = true :=
  launch0.hasRoom_least _ room_1 (by decide +kernel) (by decide +kernel) (by decide +kernel) (by decide +kernel) (by decide +kernel) (by decide +kernel)
theorem allAtoms_all (ts : List Jvm.Cond) (a : Array Jvm.Value) (st : Jvm.State) : (allAtoms ts).before a st = ts.all (fun c => c.before a st) := by
  induction ts with
  | nil => rfl
  | cons c t ih =>
    show (Jvm.Cond.and c (allAtoms t)).before a st = _
    rw [Jvm.Cond.before_and, ih, List.all_cons]
def words1 : List Jvm.Cond := Jvm.Cond.code x code maxLocals ret :: tables_1
/-- a 'code' word, met by the world's own term for the bytes: nothing is compared byte by byte -/
theorem code_word {y : MethodName} {bytes : ByteArray} {mx : Nat} {rt : Option FieldType} {a : Array Value} {s : State} {m : MethodId} {meth : Method} {c : Code} (h1 : s.methodNamed? y = some m) (h2 : s.vm.method? m = some meth) (h3 : meth.code = some c) (h4 : c.code = bytes)
    (h5 : (c.maxLocals == mx && c.exceptionTable.isEmpty && decide (c.maxStack ≤ mostOperands) && decide (meth.sig.returnType = rt) && !meth.locks && decide (parseMethodDescriptor y.desc = some meth.sig)) = true) : (Jvm.Cond.code y bytes mx rt).before a s = true := by
  simp only [Bool.and_eq_true, beq_iff_eq, Bool.not_eq_true', decide_eq_true_eq] at h5
  obtain ⟨⟨⟨⟨⟨g1, g2⟩, g3⟩, g4⟩, g5⟩, g6⟩ := h5
  simp [Cond.before, Cond.holds, Cond.value, h1, h2, h3, h4, g1, g2, g3, g4, g5, g6]
def isCode : Jvm.Cond → Bool
  | .code _ _ _ _ => true
  | _ => false
theorem all_split {L : List Jvm.Cond} {P : Jvm.Cond → Bool} (h1 : L.all (fun c => isCode c || P c) = true) (h2 : ∀ c ∈ L.filter isCode, P c = true) : L.all P = true := by
  refine List.all_eq_true.mpr fun c hc => ?_
  have h := List.all_eq_true.mp h1 c hc
  rcases Bool.eq_false_or_eq_true (isCode c) with hi | hi
  · exact h2 c (List.mem_filter.mpr ⟨hc, hi⟩)
  · simpa [hi] using h
set_option maxRecDepth 65536 in
theorem w_c0 : (Jvm.Cond.code x code maxLocals ret).before args0 about1 = true := code_word (m := ⟨1, 2⟩) (meth := k1m2) (c := k1c2) (by decide +kernel) rfl rfl rfl (by decide +kernel)
set_option maxRecDepth 65536 in
theorem w_c1 : (Jvm.Cond.code ({ cls := "com/example/lockstep/lockstep/protocol/PgMessageAsynchronousPinLaw", name := "pick", desc := "(II)C" } : Jvm.MethodName) method_2_code (3 : Nat) (Option.some Jvm.ClassFile.FieldType.char)).before args0 about1 = true := code_word (m := ⟨1, 1⟩) (meth := k1m1) (c := k1c1) (by decide +kernel) rfl rfl rfl (by decide +kernel)
set_option maxRecDepth 65536 in
theorem w_c2 : (Jvm.Cond.code ({ cls := "com/example/lockstep/lockstep/protocol/PgMessage", name := "<init>", desc := "(C[B)V" } : Jvm.MethodName) prog_70_method_1_code (3 : Nat) (Option.none : Option Jvm.ClassFile.FieldType)).before args0 about1 = true := code_word (m := ⟨2, 0⟩) (meth := k2m0) (c := k2c0) (by decide +kernel) rfl rfl rfl (by decide +kernel)
set_option maxRecDepth 65536 in
theorem w_c3 : (Jvm.Cond.code ({ cls := "java/lang/Object", name := "<init>", desc := "()V" } : Jvm.MethodName) object_method_1_code (1 : Nat) (Option.none : Option Jvm.ClassFile.FieldType)).before args0 about1 = true := code_word (m := ⟨0, 0⟩) (meth := k0m0) (c := k0c0) (by decide +kernel) rfl rfl rfl (by decide +kernel)
set_option maxRecDepth 65536 in
theorem w_c4 : (Jvm.Cond.code ({ cls := "com/example/lockstep/lockstep/protocol/PgMessage", name := "asynchronous", desc := "()Z" } : Jvm.MethodName) prog_70_method_20_code (1 : Nat) (Option.some Jvm.ClassFile.FieldType.boolean)).before args0 about1 = true := code_word (m := ⟨2, 1⟩) (meth := k2m1) (c := k2c1) (by decide +kernel) rfl rfl rfl (by decide +kernel)
def codes1 : List Jvm.Cond := [Jvm.Cond.code x code maxLocals ret, Jvm.Cond.code ({ cls := "com/example/lockstep/lockstep/protocol/PgMessageAsynchronousPinLaw", name := "pick", desc := "(II)C" } : Jvm.MethodName) method_2_code (3 : Nat) (Option.some Jvm.ClassFile.FieldType.char), Jvm.Cond.code ({ cls := "com/example/lockstep/lockstep/protocol/PgMessage", name := "<init>", desc := "(C[B)V" } : Jvm.MethodName) prog_70_method_1_code (3 : Nat) (Option.none : Option Jvm.ClassFile.FieldType), Jvm.Cond.code ({ cls := "java/lang/Object", name := "<init>", desc := "()V" } : Jvm.MethodName) object_method_1_code (1 : Nat) (Option.none : Option Jvm.ClassFile.FieldType), Jvm.Cond.code ({ cls := "com/example/lockstep/lockstep/protocol/PgMessage", name := "asynchronous", desc := "()Z" } : Jvm.MethodName) prog_70_method_20_code (1 : Nat) (Option.some Jvm.ClassFile.FieldType.boolean)]
set_option maxRecDepth 65536 in
theorem codes_eq : words1.filter isCode = codes1 := rfl
theorem w_codes : ∀ c ∈ words1.filter isCode, c.before args0 about1 = true := by
  rw [codes_eq]
  intro c hc
  simp only [codes1, List.mem_cons, List.not_mem_nil, or_false] at hc
  rcases hc with rfl | rfl | rfl | rfl | rfl
  · exact w_c0
  · exact w_c1
  · exact w_c2
  · exact w_c3
  · exact w_c4
set_option maxRecDepth 65536 in
theorem w_t1 : words1.all (fun c => isCode c || c.before args0 about1) = true := by decide +kernel
theorem w_tables : (allAtoms (Jvm.Cond.code x code maxLocals ret :: tables_1)).before args0 about1 = true := by
  rw [allAtoms_all]
  show words1.all (fun c => c.before args0 about1) = true
  refine all_split ?_ w_codes
  rw [w_t1]
set_option maxRecDepth 65536 in
theorem w_case : (Jvm.Cond.and given_1 narrow_1).before args0 about1 = true := by decide +kernel
theorem w_applies : (headSpec (Jvm.Cond.code x code maxLocals ret :: tables_1) room_1).applies x e0.platform about1 = true :=
  (Spec.applies_iff w_frames).mpr ⟨w_running, w_runnable, w_alone, w_named, w_hears, w_ripe, w_room, w_tables⟩
theorem atStart : AtStart classFile x code maxLocals ret World_1 tables_1 room_1 Calls_1 rest_1 Pre_1 launch0 p0 e0 about1 theMethod args0 below0 :=
  ⟨lists_1, trivial, launch0.admits_env _ _ _, launch0.least_env, fairChoices_fair.cas, fairChoices_fair.clock, w_frames, w_args, w_heap, w_applies, trivial, trivial, w_case⟩
end start1
theorem witness_1 : WitnessClaimed_1 := ⟨start1.p0, start1.e0, start1.about1, start1.theMethod, start1.args0, start1.below0, start1.atStart⟩
end Jvm.Pilot.@@N@@
